import JvmDerived
import JvmDerived.Pilot.@@N@@Statement
import JvmDerived.Pilot.@@N@@Code
set_option linter.unusedVariables false
set_option linter.unusedSimpArgs false
namespace Jvm.RoadKit
open Sem ClassFile Op Lib Jvm.Stand Jvm.Free Jvm.LawKit
section New
variable {p : Program} {l : Launch} {e : Env} {R : Room} {s : State} {m : MethodId} {args : Array Value} {below : List Frame} {meth : Method} {c : Code} {T : State} {locs : List Loc} {cells slots : Nat}
theorem retI (X : Stand p l e R s m args below meth c T locs cells slots) (hx : p.tables.exec = Jvm.exec) {pc : Nat} {Ls : Array Slot} {z : Int32} {rest : List Value} (hret : meth.sig.returnType = some .int) (hd : decode c.code pc = .ok (.ireturn, 1)) {fs : List Frame}
    (hl : ∀ (f : JFrame) (acts : List Action), f.method = m → f.locked = none → f.entered = [] → (doReturn e (T.setTop f) acts (some (.int z))).1 = T.setFrames fs) : Steps p.tables e below (T.setTop (mkF m pc Ls (.int z :: rest))) (T.setFrames fs) := by
  have hm' : T.vm.method? m = some meth := X.method'
  have hn : narrow .int (.int z) = .int z := rfl
  show Steps p.tables e below (T.setTop { method := m, pc := pc, locals := Ls, stack := _ :: rest, locked := none }) _
  jvm_step X.here [X.here.top, hx, hd, hm', hret, hn]
  first | (intro acts; rw [hl _ acts rfl rfl rfl]) | rw [hl _ _ rfl rfl rfl]
  exact Steps.refl _
end New
end Jvm.RoadKit
/- laws to paste: Road.backV, Road.eqW, Road.codOf (cut by pick.py; bodies as the Statement names them) -/
namespace Jvm.Pilot.@@N@@
namespace StrChars
open Jvm Sem ClassFile Op Lib Jvm.Stand Jvm.Free.XT Jvm.Free.ALB Jvm.Free.JM Jvm.Free
open Jvm.Lib.Cold (StaticIs)
/-- a char array whose places are chars -/
def Ch (a : Addr) (A : Cell) (U : State) : Prop := Arr .char a A U ∧ Typed .char A
theorem Ch.mv {a : Addr} {A : Cell} {U U' : State} (h : Ch a A U) (hal : U.vm.Alike U'.vm) (hh : U'.heap = U.heap) : Ch a A U' := ⟨h.1.mv hal hh, h.2⟩
theorem Ch.keep {a : Addr} {A : Cell} {U U' : State} (h : Ch a A U) (hal : U.vm.Alike U'.vm) (hk : U'.heap[a]? = some A) : Ch a A U' := ⟨h.1.keep hal hk, h.2⟩
/-- what place i of a char[]'s cell holds -/
def cv (A : Cell) (i : Nat) : Int32 := match A.slots[i]? with | some (.int x) => x | _ => 0
theorem Ch.get {a : Addr} {A : Cell} {U : State} (h : Ch a A U) {i : Nat} (hi : i < A.slots.size) : A.slots[i]? = some (.int (cv A i)) := by
  have e := Array.getElem?_eq_getElem hi
  have f := h.2 i _ e
  unfold cv; rw [e]
  generalize A.slots[i] = v at f
  cases v <;> simp [fits] at f ⊢
/-- the byte that i2b leaves of a char -/
def lo8 (x : Int32) : Int32 := x.toInt8.toInt32
theorem fits_lo8 (y : Int32) : fits .byte (.int (lo8 y)) = true := by
  have h1 := y.toInt8.le_toInt
  have h2 := y.toInt8.toInt_lt
  simp only [lo8, fits, Bool.and_eq_true, decide_eq_true_eq, Int32.le_iff_toInt_le, Int8.toInt_toInt32, show (-128 : Int32).toInt = -128 from by decide, show (127 : Int32).toInt = 127 from by decide]
  omega
/-- A' is A but that each place j of lo .. hi - 1 holds f j -/
def Laid (A A' : Cell) (lo hi : Nat) (f : Nat → Value) : Prop := A'.cls = A.cls ∧ A'.vm = A.vm ∧ A'.slots.size = A.slots.size ∧ ∀ i, A'.slots[i]? = if lo ≤ i ∧ i < hi then some (f i) else A.slots[i]?
theorem Laid.zero (A : Cell) (lo : Nat) (f : Nat → Value) : Laid A A lo (lo + 0) f := ⟨rfl, rfl, rfl, fun i => by rw [if_neg (by omega)]⟩
theorem Laid.step {A Ak : Cell} {lo k : Nat} {f : Nat → Value} {v : Value} (h : Laid A Ak lo k f) (hlo : lo ≤ k) (hk : k < Ak.slots.size) (hv : v = f k) : Laid A (Ak.setSlot k v) lo (k + 1) f := by
  refine ⟨h.1, h.2.1, by simpa [Cell.setSlot] using h.2.2.1, fun i => ?_⟩
  by_cases e : k = i
  · subst e; rw [Cell.slots_setSlot_self v hk, if_pos (by omega), hv]
  · rw [Cell.slots_setSlot_ne v e, h.2.2.2 i]
    by_cases q : lo ≤ i ∧ i < k
    · rw [if_pos q, if_pos (by omega)]
    · rw [if_neg q, if_neg (by omega)]
def U16 : String := "java/lang/StringUTF16"
namespace Cmp5
def yN : MethodName := ⟨"java/lang/StringUTF16", "compress", "([CI[BII)I"⟩
abbrev yB : ByteArray := jdk_52_method_21_code
theorem d0 : decode yB 0 = .ok (.iconst 0, 1) := by decide +kernel
theorem d1 : decode yB 1 = .ok (.istore 5, 2) := by decide +kernel
theorem d3 : decode yB 3 = .ok (.iload 5, 2) := by decide +kernel
theorem d5 : decode yB 5 = .ok (.iload 4, 2) := by decide +kernel
theorem d7 : decode yB 7 = .ok (.if_icmp (.ge) 37, 3) := by decide +kernel
theorem d10 : decode yB 10 = .ok (.aload_n 0, 1) := by decide +kernel
theorem d11 : decode yB 11 = .ok (.iload_n 1, 1) := by decide +kernel
theorem d12 : decode yB 12 = .ok (.caload, 1) := by decide +kernel
theorem d13 : decode yB 13 = .ok (.istore 6, 2) := by decide +kernel
theorem d15 : decode yB 15 = .ok (.iload 6, 2) := by decide +kernel
theorem d17 : decode yB 17 = .ok (.sipush 255, 3) := by decide +kernel
theorem d20 : decode yB 20 = .ok (.if_icmp (.le) 6, 3) := by decide +kernel
theorem d26 : decode yB 26 = .ok (.aload_n 2, 1) := by decide +kernel
theorem d27 : decode yB 27 = .ok (.iload_n 3, 1) := by decide +kernel
theorem d28 : decode yB 28 = .ok (.iload 6, 2) := by decide +kernel
theorem d30 : decode yB 30 = .ok (.i2b, 1) := by decide +kernel
theorem d31 : decode yB 31 = .ok (.bastore, 1) := by decide +kernel
theorem d32 : decode yB 32 = .ok (.iinc 1 1, 3) := by decide +kernel
theorem d35 : decode yB 35 = .ok (.iinc 3 1, 3) := by decide +kernel
theorem d38 : decode yB 38 = .ok (.iinc 5 1, 3) := by decide +kernel
theorem d41 : decode yB 41 = .ok (.goto (-38), 3) := by decide +kernel
theorem d44 : decode yB 44 = .ok (.iload 4, 2) := by decide +kernel
theorem d46 : decode yB 46 = .ok (.ireturn, 1) := by decide +kernel
def site : List Cond := []
def tab : Cond := tabOf yN yB 7 (some .int) site
def P (b : Addr) (A : Cell) (d : Addr) (B : Cell) (o q len : Nat) (args : Array Value) (s : State) : Prop := args = #[.ref b, .int (Int32.ofNat o), .ref d, .int (Int32.ofNat q), .int (Int32.ofNat len)] ∧ Ch b A s ∧ Arr .byte d B s ∧ b ≠ d ∧ o + len ≤ A.slots.size ∧ q + len ≤ B.slots.size ∧ ∀ i, i < len → ¬ 255 < cv A (o + i)
def E (b : Addr) (A : Cell) (d : Addr) (B : Cell) (o q len : Nat) (r : Option Value) (s u : State) : Prop := r = some (.int (Int32.ofNat len)) ∧ ∃ B', Put d B' s u ∧ Laid B B' q (q + len) (fun j => Value.int (lo8 (cv A (o + (j - q)))))
/-- no char of the range above 255: len; the places written hold each char's low byte -/
theorem law (l : Launch) (b : Addr) (A : Cell) (d : Addr) (B : Cell) (o q len : Nat) : Law l yN 5 5 0 0 yB 7 (some .int) site (P b A d B o q len) (E b A d B o q len) (copyLocs d q len) 0 0 := by
  refine Law.of_walk (plainFor_of_name (by decide +kernel)) (by decide +kernel) (by decide +kernel) (by decide) (fun _ _ h => by rw [h.1]; rfl) (fun _ U U' hal hh h => ⟨h.1, h.2.1.mv hal hh, h.2.2.1.mv hal hh, h.2.2.2⟩) (fun r U U' V V' h1 hal h2 h => ⟨h.1, h.2.elim fun B' q => ⟨B', q.1.mv h1 h2, q.2⟩⟩) ?_
  intro p e s m args below meth c s₁ X0 hexec hbytes hml hret hlk hnm hown hh0 W hP
  obtain ⟨rfl, hA, hB, hne, l1, l2, hp⟩ := hP
  have c1 : Steps p.tables e below (s₁.setTop (entryFrame m #[.ref b, .int (Int32.ofNat o), .ref d, .int (Int32.ofNat q), .int (Int32.ofNat len)] 7)) (s₁.setTop (mkF m 0 #[.val (.ref b), .val (.int (Int32.ofNat o)), .val (.ref d), .val (.int (Int32.ofNat q)), .val (.int (Int32.ofNat len)), .unset, .unset] [])) := entry rfl
  have hA0 := hA.1.mv X0.warmed.alike hh0
  have hB0 := hB.mv X0.warmed.alike hh0
  have a31 := hA.1.2.2.2
  have c2 : Steps p.tables e below (s₁.setTop (entryFrame m #[.ref b, .int (Int32.ofNat o), .ref d, .int (Int32.ofNat q), .int (Int32.ofNat len)] 7)) (s₁.setTop (mkF m 3 #[.val (.ref b), .val (.int (Int32.ofNat o)), .val (.ref d), .val (.int (Int32.ofNat q)), .val (.int (Int32.ofNat len)), .val (.int 0), .unset] [])) := c1.trans (by
    refine iconstV X0.here hexec rfl 0 (hb hbytes d0) (by decide) ?_
    refine XS.istore X0.here hexec rfl (hb hbytes d1) rfl rfl ?_
    exact Steps.refl _)
  have loop : ∀ (r i : Nat), i + r = len → ∀ (z : Slot), (z = .unset ∨ ∃ w, z = .val w ∧ w.category = 1) → ∀ (Tl : State) (Bk : Cell), Stand p l e { frames := 0, locals := 0, cells := 0, slots := 0 } s m #[.ref b, .int (Int32.ofNat o), .ref d, .int (Int32.ofNat q), .int (Int32.ofNat len)] below meth c Tl ([] ++ copyLocs d q i) 0 0 → Put d Bk s₁ Tl → Laid B Bk q (q + i) (fun j => Value.int (lo8 (cv A (o + (j - q))))) →
      Steps p.tables e below (s₁.setTop (entryFrame m #[.ref b, .int (Int32.ofNat o), .ref d, .int (Int32.ofNat q), .int (Int32.ofNat len)] 7)) (Tl.setTop (mkF m 3 #[.val (.ref b), .val (.int (Int32.ofNat (o + i))), .val (.ref d), .val (.int (Int32.ofNat (q + i))), .val (.int (Int32.ofNat len)), .val (.int (Int32.ofNat i)), z] [])) → ∃ (T' : State) (B' : Cell) (z' : Slot), Stand p l e { frames := 0, locals := 0, cells := 0, slots := 0 } s m #[.ref b, .int (Int32.ofNat o), .ref d, .int (Int32.ofNat q), .int (Int32.ofNat len)] below meth c T' ([] ++ copyLocs d q len) 0 0 ∧ Put d B' s₁ T' ∧ Laid B B' q (q + len) (fun j => Value.int (lo8 (cv A (o + (j - q))))) ∧
      Steps p.tables e below (s₁.setTop (entryFrame m #[.ref b, .int (Int32.ofNat o), .ref d, .int (Int32.ofNat q), .int (Int32.ofNat len)] 7)) (T'.setTop (mkF m 3 #[.val (.ref b), .val (.int (Int32.ofNat (o + len))), .val (.ref d), .val (.int (Int32.ofNat (q + len))), .val (.int (Int32.ofNat len)), .val (.int (Int32.ofNat len)), z'] [])) := by
    intro r
    induction r with
    | zero =>
      intro i hi z hz Tl Bk Xl pl fl cl
      have hil : i = len := by omega
      rw [hil] at Xl fl cl
      exact ⟨Tl, Bk, z, Xl, pl, fl, cl⟩
    | succ r ih =>
      intro i hi z hz Tl Bk Xl pl fl cl
      have all := X0.warmed.alike.symm.trans Xl.warmed.alike
      have hAl := hA0.keep all (pl.other hne hA0.1)
      have hBk := hB0.like all pl.1 fl.1 fl.2.1 fl.2.2.1
      have hlt : q + i < Bk.slots.size := by rw [fl.2.2.1]; omega
      have c3 : Steps p.tables e below (s₁.setTop (entryFrame m #[.ref b, .int (Int32.ofNat o), .ref d, .int (Int32.ofNat q), .int (Int32.ofNat len)] 7)) (Tl.setTop (mkF m 12 #[.val (.ref b), .val (.int (Int32.ofNat (o + i))), .val (.ref d), .val (.int (Int32.ofNat (q + i))), .val (.int (Int32.ofNat len)), .val (.int (Int32.ofNat i)), z] [.int (Int32.ofNat (o + i)), .ref b])) := cl.trans (by
        refine XS.iload Xl.here hexec rfl (hb hbytes d3) rfl ?_
        refine XS.iload Xl.here hexec rfl (hb hbytes d5) rfl ?_
        refine XS.icmpNo Xl.here hexec rfl (hb hbytes d7) rfl (ii_ge_f (lt32 (by omega) (by omega))) ?_
        refine XS.aloadN Xl.here hexec rfl (hb hbytes d10) rfl rfl ?_
        refine XS.iloadN Xl.here hexec rfl (hb hbytes d11) rfl ?_
        exact Steps.refl _)
      have c4 : Steps p.tables e below (s₁.setTop (entryFrame m #[.ref b, .int (Int32.ofNat o), .ref d, .int (Int32.ofNat q), .int (Int32.ofNat len)] 7)) (Tl.setTop (mkF m 13 #[.val (.ref b), .val (.int (Int32.ofNat (o + i))), .val (.ref d), .val (.int (Int32.ofNat (q + i))), .val (.int (Int32.ofNat len)), .val (.int (Int32.ofNat i)), z] [.int (cv A (o + i))])) := c3.trans (by
        refine Xl.aget hexec hAl rfl (hA.get (i := o + i) (by omega)) rfl rfl (hb hbytes d12) ?_
        exact Steps.refl _)
      have c5 : Steps p.tables e below (s₁.setTop (entryFrame m #[.ref b, .int (Int32.ofNat o), .ref d, .int (Int32.ofNat q), .int (Int32.ofNat len)] 7)) (Tl.setTop (mkF m 15 #[.val (.ref b), .val (.int (Int32.ofNat (o + i))), .val (.ref d), .val (.int (Int32.ofNat (q + i))), .val (.int (Int32.ofNat len)), .val (.int (Int32.ofNat i)), .val (.int (cv A (o + i)))] [])) := c4.trans (by
        refine XS.istoreS Xl.here hexec rfl (hb hbytes d13) rfl rfl hz ?_
        exact Steps.refl _)
      have c6 : Steps p.tables e below (s₁.setTop (entryFrame m #[.ref b, .int (Int32.ofNat o), .ref d, .int (Int32.ofNat q), .int (Int32.ofNat len)] 7)) (Tl.setTop (mkF m 31 #[.val (.ref b), .val (.int (Int32.ofNat (o + i))), .val (.ref d), .val (.int (Int32.ofNat (q + i))), .val (.int (Int32.ofNat len)), .val (.int (Int32.ofNat i)), .val (.int (cv A (o + i)))] [.int (lo8 (cv A (o + i))), .int (Int32.ofNat (q + i)), .ref d])) := c5.trans (by
        refine XS.iload Xl.here hexec rfl (hb hbytes d15) rfl ?_
        refine sipushV Xl.here hexec rfl 255 (hb hbytes d17) (by decide) ?_
        refine XS.icmpYes Xl.here hexec rfl (pc0 := 20) rfl (hb hbytes d20) rfl (ii_le_t (hp i (by omega))) (by decide) rfl ?_
        refine XS.aloadN Xl.here hexec rfl (hb hbytes d26) rfl rfl ?_
        refine XS.iloadN Xl.here hexec rfl (hb hbytes d27) rfl ?_
        refine XS.iload Xl.here hexec rfl (hb hbytes d28) rfl ?_
        refine i2b Xl.here hexec rfl (hb hbytes d30) rfl ?_
        exact Steps.refl _)
      obtain ⟨T7, X7, p7, st7⟩ := Xl.aput hexec hBk rfl hlt rfl (fits_lo8 (cv A (o + i))) (g := (mkF m 31 #[.val (.ref b), .val (.int (Int32.ofNat (o + i))), .val (.ref d), .val (.int (Int32.ofNat (q + i))), .val (.int (Int32.ofNat len)), .val (.int (Int32.ofNat i)), .val (.int (cv A (o + i)))] [.int (lo8 (cv A (o + i))), .int (Int32.ofNat (q + i)), .ref d])) rfl (rest := []) rfl (hb hbytes d31)
      have c8 : Steps p.tables e below (s₁.setTop (entryFrame m #[.ref b, .int (Int32.ofNat o), .ref d, .int (Int32.ofNat q), .int (Int32.ofNat len)] 7)) (T7.setTop (mkF m 32 #[.val (.ref b), .val (.int (Int32.ofNat (o + i))), .val (.ref d), .val (.int (Int32.ofNat (q + i))), .val (.int (Int32.ofNat len)), .val (.int (Int32.ofNat i)), .val (.int (cv A (o + i)))] [])) := c6.trans (st7 _ (Steps.refl _))
      have c9 : Steps p.tables e below (s₁.setTop (entryFrame m #[.ref b, .int (Int32.ofNat o), .ref d, .int (Int32.ofNat q), .int (Int32.ofNat len)] 7)) (T7.setTop (mkF m 3 #[.val (.ref b), .val (.int (Int32.ofNat (o + i) + 1)), .val (.ref d), .val (.int (Int32.ofNat (q + i) + 1)), .val (.int (Int32.ofNat len)), .val (.int (Int32.ofNat i + 1)), .val (.int (cv A (o + i)))] [])) := c8.trans (by
        refine iincV X7.here hexec rfl 1 (hb hbytes d32) (by decide) rfl rfl ?_
        refine iincV X7.here hexec rfl 1 (hb hbytes d35) (by decide) rfl rfl ?_
        refine iincV X7.here hexec rfl 1 (hb hbytes d38) (by decide) rfl rfl ?_
        refine XS.goto X7.here hexec rfl (pc0 := 41) rfl (hb hbytes d41) (by decide) rfl ?_
        exact Steps.refl _)
      have c10 : Steps p.tables e below (s₁.setTop (entryFrame m #[.ref b, .int (Int32.ofNat o), .ref d, .int (Int32.ofNat q), .int (Int32.ofNat len)] 7)) (T7.setTop (mkF m 3 #[.val (.ref b), .val (.int (Int32.ofNat (o + (i + 1)))), .val (.ref d), .val (.int (Int32.ofNat (q + (i + 1)))), .val (.int (Int32.ofNat len)), .val (.int (Int32.ofNat (i + 1))), .val (.int (cv A (o + i)))] [])) := by
        have := c9
        rw [succ32, succ32, succ32] at this
        exact this
      exact ih (i + 1) (by omega) _ (Or.inr ⟨_, rfl, rfl⟩) T7 _ (by rw [copyLocs_step, ← List.append_assoc]; exact X7) (pl.trans p7) (fl.step (by omega) hlt (by simp)) c10
  obtain ⟨T9, B9, z9, X9, p9, f9, g9⟩ := loop len 0 (by omega) .unset (Or.inl rfl) s₁ B (by simpa [copyLocs] using X0) ⟨hB0.1, fun _ _ => rfl, rfl⟩ (Laid.zero _ _ _) c2
  have c11 : Steps p.tables e below (s₁.setTop (entryFrame m #[.ref b, .int (Int32.ofNat o), .ref d, .int (Int32.ofNat q), .int (Int32.ofNat len)] 7)) (T9.setTop (mkF m 46 #[.val (.ref b), .val (.int (Int32.ofNat (o + len))), .val (.ref d), .val (.int (Int32.ofNat (q + len))), .val (.int (Int32.ofNat len)), .val (.int (Int32.ofNat len)), z9] [.int (Int32.ofNat len)])) := g9.trans (by
    refine XS.iload X9.here hexec rfl (hb hbytes d3) rfl ?_
    refine XS.iload X9.here hexec rfl (hb hbytes d5) rfl ?_
    refine XS.icmpYes X9.here hexec rfl (pc0 := 7) rfl (hb hbytes d7) rfl (ii_ge_t (nlt32 (by omega) (Nat.le_refl _))) (by decide) rfl ?_
    refine XS.iload X9.here hexec rfl (hb hbytes d44) rfl ?_
    exact Steps.refl _)
  exact ⟨T9, some (.int (Int32.ofNat len)), _, _, _, X9, by simp, rfl, rfl, (fun h => by cases h), ⟨rfl, B9, p9.from hh0, f9⟩, fun fs hl => c11.trans (X9.ireturnOut hexec hret rfl (Or.inl rfl) (hb hbytes d46) hl)⟩
end Cmp5
namespace Cmp3
def yN : MethodName := ⟨"java/lang/StringUTF16", "compress", "([CII)[B"⟩
abbrev yB : ByteArray := jdk_52_method_16_code
theorem d0 : decode yB 0 = .ok (.iload_n 2, 1) := by decide +kernel
theorem d1 : decode yB 1 = .ok (.newarray .byte, 2) := by decide +kernel
theorem d3 : decode yB 3 = .ok (.astore_n 3, 1) := by decide +kernel
theorem d4 : decode yB 4 = .ok (.aload_n 0, 1) := by decide +kernel
theorem d5 : decode yB 5 = .ok (.iload_n 1, 1) := by decide +kernel
theorem d6 : decode yB 6 = .ok (.aload_n 3, 1) := by decide +kernel
theorem d7 : decode yB 7 = .ok (.iconst 0, 1) := by decide +kernel
theorem d8 : decode yB 8 = .ok (.iload_n 2, 1) := by decide +kernel
theorem d9 : decode yB 9 = .ok (.invokestatic 115, 3) := by decide +kernel
theorem d12 : decode yB 12 = .ok (.istore 4, 2) := by decide +kernel
theorem d14 : decode yB 14 = .ok (.iload 4, 2) := by decide +kernel
theorem d16 : decode yB 16 = .ok (.iload_n 2, 1) := by decide +kernel
theorem d17 : decode yB 17 = .ok (.if_icmp (.eq) 40, 3) := by decide +kernel
theorem d57 : decode yB 57 = .ok (.aload_n 3, 1) := by decide +kernel
theorem d58 : decode yB 58 = .ok (.areturn, 1) := by decide +kernel
def site : List Cond := [.arrayClass .byte, Cmp5.tab] ++ staticW U16 115 Cmp5.yN
def tab : Cond := tabOf yN yB 6 (some (.array .byte)) site
def P (b : Addr) (A : Cell) (o len : Nat) (args : Array Value) (s : State) : Prop := args = #[.ref b, .int (Int32.ofNat o), .int (Int32.ofNat len)] ∧ Ch b A s ∧ o + len ≤ A.slots.size ∧ len ≤ 536870912 ∧ ∀ i, i < len → ¬ 255 < cv A (o + i)
def E (b : Addr) (A : Cell) (o len : Nat) (r : Option Value) (s u : State) : Prop := NewArr .byte "[B" len (fun j => .int (lo8 (cv A (o + j)))) r s u ∧ u.heap.size = s.heap.size + 1
/-- no char of the range above 255: a new byte[] of their low bytes -/
theorem law (l : Launch) (b : Addr) (A : Cell) (o len : Nat) : Law l yN 3 3 1 18 yB 6 (some (.array .byte)) site (P b A o len) (E b A o len) [] 1 len := by
  refine Law.of_walk (plainFor_of_name (by decide +kernel)) (by decide +kernel) (by decide +kernel) (by decide) (fun _ _ h => by rw [h.1]; rfl) (fun _ U U' hal hh h => ⟨h.1, h.2.1.mv hal hh, h.2.2⟩) (fun r U U' V V' h1 hal h2 h => ⟨NewArr.mv r U U' V V' h1 hal h2 h.1, by rw [h1, h2]; exact h.2⟩) ?_
  intro p e s m args below meth c s₁ X0 hexec hbytes hml hret hlk hnm hown hh0 W hP
  obtain ⟨rfl, hA, l1, l2, hp⟩ := hP
  have a31 := hA.1.2.2.2
  have c1 : Steps p.tables e below (s₁.setTop (entryFrame m #[.ref b, .int (Int32.ofNat o), .int (Int32.ofNat len)] 6)) (s₁.setTop (mkF m 0 #[.val (.ref b), .val (.int (Int32.ofNat o)), .val (.int (Int32.ofNat len)), .unset, .unset, .unset] [])) := entry rfl
  have c2 : Steps p.tables e below (s₁.setTop (entryFrame m #[.ref b, .int (Int32.ofNat o), .int (Int32.ofNat len)] 6)) (s₁.setTop (mkF m 1 #[.val (.ref b), .val (.int (Int32.ofNat o)), .val (.int (Int32.ofNat len)), .unset, .unset, .unset] [.int (Int32.ofNat len)])) := c1.trans (by
    refine XS.iloadN X0.here hexec rfl (hb hbytes d0) rfl ?_
    exact Steps.refl _)
  obtain ⟨T3, B3, X3, ba3, bs3, bv3, bh3, bf3, st3⟩ := X0.anew hexec (atype := .byte) (wk W (.arrayClass .byte)) rfl (by show len * 1 ≤ _; omega) (by omega) (g := (mkF m 1 #[.val (.ref b), .val (.int (Int32.ofNat o)), .val (.int (Int32.ofNat len)), .unset, .unset, .unset] [.int (Int32.ofNat len)])) rfl (hb hbytes d1) (rest := []) rfl (Nat.le_refl _) (by show 0 + len ≤ len; omega)
  rw [hh0] at ba3 st3
  have kp3 : XT.Kept s T3 := (XT.Kept.of_eq hh0).push bh3
  have hA3 := hA.keep X3.warmed.alike (kp3 _ _ hA.1.1)
  have hne : b ≠ s.heap.size := hA.1.ne
  have c4 : Steps p.tables e below (s₁.setTop (entryFrame m #[.ref b, .int (Int32.ofNat o), .int (Int32.ofNat len)] 6)) (T3.setTop (mkF m 3 #[.val (.ref b), .val (.int (Int32.ofNat o)), .val (.int (Int32.ofNat len)), .unset, .unset, .unset] [.ref s.heap.size])) := c2.trans (st3 _ (Steps.refl _))
  have c5 : Steps p.tables e below (s₁.setTop (entryFrame m #[.ref b, .int (Int32.ofNat o), .int (Int32.ofNat len)] 6)) (T3.setTop (mkF m 9 #[.val (.ref b), .val (.int (Int32.ofNat o)), .val (.int (Int32.ofNat len)), .val (.ref s.heap.size), .unset, .unset] [.int (Int32.ofNat len), .int 0, .ref s.heap.size, .int (Int32.ofNat o), .ref b])) := c4.trans (by
    refine XS.astoreN X3.here hexec rfl (hb hbytes d3) rfl rfl rfl ?_
    refine XS.aloadN X3.here hexec rfl (hb hbytes d4) rfl rfl ?_
    refine XS.iloadN X3.here hexec rfl (hb hbytes d5) rfl ?_
    refine XS.aloadN X3.here hexec rfl (hb hbytes d6) rfl rfl ?_
    refine iconstV X3.here hexec rfl 0 (hb hbytes d7) (by decide) ?_
    refine XS.iloadN X3.here hexec rfl (hb hbytes d8) rfl ?_
    exact Steps.refl _)
  obtain ⟨v6, T6, X6, E6, g6⟩ := X3.callS hexec (Cmp5.law l b A s.heap.size B3 o 0 len) hown (wks W (staticW U16 115 Cmp5.yN)) (wk W Cmp5.tab) (W := 0) (Nat.le_of_ble_eq_true rfl) (Nat.le_of_ble_eq_true rfl) (Nat.le_refl _) (by show 0 + len + 0 ≤ len; omega) (g := (mkF m 9 #[.val (.ref b), .val (.int (Int32.ofNat o)), .val (.int (Int32.ofNat len)), .val (.ref s.heap.size), .unset, .unset] [.int (Int32.ofNat len), .int (Int32.ofNat 0), .ref s.heap.size, .int (Int32.ofNat o), .ref b])) rfl (by rw [hml]; rfl) c5 (argsL := [.ref b, .int (Int32.ofNat o), .ref s.heap.size, .int (Int32.ofNat 0), .int (Int32.ofNat len)]) (rest := []) rfl rfl (by show 2 * 0 + 0 ≤ _; decide) (hb hbytes d9) (⟨rfl, hA3, ba3, hne, l1, by rw [bs3]; simp, hp⟩)
  obtain ⟨rfl, B6, p6, f6⟩ := E6
  have c7 : Steps p.tables e below (s₁.setTop (entryFrame m #[.ref b, .int (Int32.ofNat o), .int (Int32.ofNat len)] 6)) (T6.setTop (mkF m 12 #[.val (.ref b), .val (.int (Int32.ofNat o)), .val (.int (Int32.ofNat len)), .val (.ref s.heap.size), .unset, .unset] [.int (Int32.ofNat len)])) := g6
  have c8 : Steps p.tables e below (s₁.setTop (entryFrame m #[.ref b, .int (Int32.ofNat o), .int (Int32.ofNat len)] 6)) (T6.setTop (mkF m 58 #[.val (.ref b), .val (.int (Int32.ofNat o)), .val (.int (Int32.ofNat len)), .val (.ref s.heap.size), .val (.int (Int32.ofNat len)), .unset] [.ref s.heap.size])) := c7.trans (by
    refine XS.istore X6.here hexec rfl (hb hbytes d12) rfl rfl ?_
    refine XS.iload X6.here hexec rfl (hb hbytes d14) rfl ?_
    refine XS.iloadN X6.here hexec rfl (hb hbytes d16) rfl ?_
    refine XS.icmpYes X6.here hexec rfl (pc0 := 17) rfl (hb hbytes d17) rfl (ii_eq_t rfl) (by decide) rfl ?_
    refine XS.aloadN X6.here hexec rfl (hb hbytes d57) rfl rfl ?_
    exact Steps.refl _)
  have X8 := X6.wide (L' := []) (cells' := 1) (slots' := len) (fun x hx hlt => by
    simp only [List.nil_append, copyLocs, List.mem_map, List.mem_range] at hx
    obtain ⟨i, -, rfl⟩ := hx
    exact absurd hlt (Nat.lt_irrefl _)) (Nat.le_refl _) (by omega)
  exact ⟨T6, some (.ref s.heap.size), _, _, _, X8, rfl, rfl, rfl, (fun h => by cases h), ⟨⟨rfl, B6, ba3.like (X3.warmed.alike.symm.trans X6.warmed.alike) p6.1 f6.1 f6.2.1 f6.2.2.1, f6.2.1.trans bv3, by rw [X6.warmed.alike.findClass, f6.1]; exact bf3, by rw [f6.2.2.1, bs3]; simp, fun j hj => by rw [f6.2.2.2 j, if_pos (by omega)]; rfl, kp3.put p6 (Nat.le_refl _)⟩, by rw [p6.2.2, bh3, hh0]; simp⟩, fun fs hl => c8.trans (X8.areturnOut hexec rfl hret rfl (hb hbytes d58) hl)⟩
end Cmp3
namespace CodL
def yN : MethodName := ⟨"java/lang/StringUTF16", "coderFromArrayLen", "([BI)B"⟩
abbrev yB : ByteArray := jdk_52_method_15_code
theorem d0 : decode yB 0 = .ok (.iload_n 1, 1) := by decide +kernel
theorem d1 : decode yB 1 = .ok (.aload_n 0, 1) := by decide +kernel
theorem d2 : decode yB 2 = .ok (.arraylength, 1) := by decide +kernel
theorem d3 : decode yB 3 = .ok (.isub, 1) := by decide +kernel
theorem d4 : decode yB 4 = .ok (.bipush 31, 2) := by decide +kernel
theorem d6 : decode yB 6 = .ok (.iushr, 1) := by decide +kernel
theorem d7 : decode yB 7 = .ok (.i2b, 1) := by decide +kernel
theorem d8 : decode yB 8 = .ok (.ireturn, 1) := by decide +kernel
def site : List Cond := []
def tab : Cond := tabOf yN yB 2 (some .byte) site
def P (d : Addr) (B : Cell) (args : Array Value) (s : State) : Prop := args = #[.ref d, .int (Int32.ofNat B.slots.size)] ∧ Arr .byte d B s
def E (r : Option Value) (s u : State) : Prop := XT.PureE (some (.int 0)) r s u
/-- an array as long as the number of chars: LATIN1 -/
theorem law (l : Launch) (d : Addr) (B : Cell) : Law l yN 2 2 0 0 yB 2 (some .byte) site (P d B) E [] 0 0 := by
  refine Law.of_walk (plainFor_of_name (by decide +kernel)) (by decide +kernel) (by decide +kernel) (by decide) (fun _ _ h => by rw [h.1]; rfl) (fun _ U U' hal hh h => ⟨h.1, h.2.mv hal hh⟩) (fun r U U' V V' h1 hal h2 h => XT.PureE.mv r U U' V V' h1 hal h2 h) ?_
  intro p e s m args below meth c s₁ X0 hexec hbytes hml hret hlk hnm hown hh0 W hP
  obtain ⟨rfl, hB⟩ := hP
  have hB0 := hB.mv X0.warmed.alike hh0
  have c1 : Steps p.tables e below (s₁.setTop (entryFrame m #[.ref d, .int (Int32.ofNat B.slots.size)] 2)) (s₁.setTop (mkF m 0 #[.val (.ref d), .val (.int (Int32.ofNat B.slots.size))] [])) := entry rfl
  have c2 : Steps p.tables e below (s₁.setTop (entryFrame m #[.ref d, .int (Int32.ofNat B.slots.size)] 2)) (s₁.setTop (mkF m 2 #[.val (.ref d), .val (.int (Int32.ofNat B.slots.size))] [.ref d, .int (Int32.ofNat B.slots.size)])) := c1.trans (by
    refine XS.iloadN X0.here hexec rfl (hb hbytes d0) rfl ?_
    refine XS.aloadN X0.here hexec rfl (hb hbytes d1) rfl rfl ?_
    exact Steps.refl _)
  have c3 : Steps p.tables e below (s₁.setTop (entryFrame m #[.ref d, .int (Int32.ofNat B.slots.size)] 2)) (s₁.setTop (mkF m 8 #[.val (.ref d), .val (.int (Int32.ofNat B.slots.size))] [.int (lo8 (ushr (Int32.ofNat B.slots.size - Int32.ofNat B.slots.size) 31))])) := c2.trans (by
    refine X0.alen hexec hB0 rfl rfl (hb hbytes d2) ?_
    refine XS.isub X0.here hexec rfl (hb hbytes d3) rfl ?_
    refine bipushV X0.here hexec rfl 31 (hb hbytes d4) (by decide) ?_
    refine iushr X0.here hexec rfl (hb hbytes d6) rfl ?_
    refine i2b X0.here hexec rfl (hb hbytes d7) rfl ?_
    exact Steps.refl _)
  have e0 : lo8 (ushr (Int32.ofNat B.slots.size - Int32.ofNat B.slots.size) 31) = 0 := by rw [Int32.sub_self]; decide
  rw [e0] at c3
  exact ⟨s₁, some (.int 0), _, _, _, X0, rfl, rfl, rfl, (fun h => by cases h), ⟨rfl, hh0⟩, fun fs hl => c3.trans (X0.ireturnOut hexec hret rfl (Or.inr (Or.inr (Or.inl rfl))) (hb hbytes d8) hl)⟩
end CodL
/-- the String at a is Latin-1 over a new byte[] (the heap's one new cell): the low bytes of the len chars of A from o on; every cell but a is kept -/
def Got (a : Addr) (D : Cell) (fV fC : Field) (A : Cell) (o len : Nat) (r : Option Value) (s u : State) : Prop := r = none ∧ ∃ D' V : Cell, Blank "java/lang/String" a D' u ∧ Same D D' [fV.slot, fC.slot] ∧ D'.slots[fV.slot]? = some (.ref s.heap.size) ∧ D'.slots[fC.slot]? = some (.int 0) ∧ Arr .byte s.heap.size V u ∧ V.vm = .none ∧ u.vm.findClass "[B" = some V.cls ∧ V.slots.size = len ∧ (∀ j, j < len → V.slots[j]? = some (.int (lo8 (cv A (o + j))))) ∧ (∀ (y : Addr) (c : Cell), y ≠ a → s.heap[y]? = some c → u.heap[y]? = some c) ∧ u.heap.size = s.heap.size + 1
theorem Got.mv {a : Addr} {D A : Cell} {fV fC : Field} {o len : Nat} : ∀ r (U U' V V' : State), U'.heap = U.heap → V.vm.Alike V'.vm → V'.heap = V.heap → Got a D fV fC A o len r U V → Got a D fV fC A o len r U' V' :=
  fun r U U' V V' h1 hal h2 ⟨e0, D', X, a1, a2, a3, a4, a5, a6, a7, a8, a9, a10, a11⟩ => ⟨e0, D', X, a1.mv hal h2, a2, by rw [h1]; exact a3, a4, by rw [h1]; exact a5.mv hal h2, a6, by rw [hal.findClass]; exact a7, a8, a9, by rw [h1, h2]; exact a10, by rw [h1, h2]; exact a11⟩
namespace New4
def yN : MethodName := ⟨"java/lang/String", "<init>", "([CIILjava/lang/Void;)V"⟩
abbrev yB : ByteArray := jdk_42_method_149_code
theorem d0 : decode yB 0 = .ok (.aload_n 0, 1) := by decide +kernel
theorem d1 : decode yB 1 = .ok (.invokespecial 1, 3) := by decide +kernel
theorem d4 : decode yB 4 = .ok (.iload_n 3, 1) := by decide +kernel
theorem d5 : decode yB 5 = .ok (.ifCond (.ne) 22, 3) := by decide +kernel
theorem d27 : decode yB 27 = .ok (.getstatic 38, 3) := by decide +kernel
theorem d30 : decode yB 30 = .ok (.ifCond (.eq) 28, 3) := by decide +kernel
theorem d33 : decode yB 33 = .ok (.aload_n 1, 1) := by decide +kernel
theorem d34 : decode yB 34 = .ok (.iload_n 2, 1) := by decide +kernel
theorem d35 : decode yB 35 = .ok (.iload_n 3, 1) := by decide +kernel
theorem d36 : decode yB 36 = .ok (.invokestatic 177, 3) := by decide +kernel
theorem d39 : decode yB 39 = .ok (.astore 5, 2) := by decide +kernel
theorem d41 : decode yB 41 = .ok (.aload_n 0, 1) := by decide +kernel
theorem d42 : decode yB 42 = .ok (.aload 5, 2) := by decide +kernel
theorem d44 : decode yB 44 = .ok (.iload_n 3, 1) := by decide +kernel
theorem d45 : decode yB 45 = .ok (.invokestatic 47, 3) := by decide +kernel
theorem d48 : decode yB 48 = .ok (.putfield 15, 3) := by decide +kernel
theorem d51 : decode yB 51 = .ok (.aload_n 0, 1) := by decide +kernel
theorem d52 : decode yB 52 = .ok (.aload 5, 2) := by decide +kernel
theorem d54 : decode yB 54 = .ok (.putfield 9, 3) := by decide +kernel
theorem d57 : decode yB 57 = .ok (.return_, 1) := by decide +kernel
def site : List Cond := [.fieldLink "java/lang/String" 38 "java/lang/String" "COMPACT_STRINGS" "Z", Cmp3.tab, CodL.tab, .laysFinal "java/lang/String" "java/lang/String" "value" "[B", .fieldLink "java/lang/String" 9 "java/lang/String" "value" "[B", .laysFinal "java/lang/String" "java/lang/String" "coder" "B", .fieldLink "java/lang/String" 15 "java/lang/String" "coder" "B"] ++ objW "java/lang/String" 1 ++ staticW "java/lang/String" 177 Cmp3.yN ++ staticW "java/lang/String" 47 CodL.yN
def tab : Cond := tabOf yN yB 6 none site
def P (a : Addr) (D : Cell) (fV fC : Field) (b : Addr) (A : Cell) (z : Int32) (o len : Nat) (args : Array Value) (s : State) : Prop := args = #[.ref a, .ref b, .int (Int32.ofNat o), .int (Int32.ofNat len), .null] ∧ Blank "java/lang/String" a D s ∧ Found "java/lang/String" "value" "[B" fV s ∧ Found "java/lang/String" "coder" "B" fC s ∧ Ch b A s ∧ StaticIs s "java/lang/String" "COMPACT_STRINGS" "Z" (.int z) ∧ ¬ z = 0 ∧ 0 < len ∧ o + len ≤ A.slots.size ∧ len ≤ 536870912 ∧ ∀ i, i < len → ¬ 255 < cv A (o + i)
def E (a : Addr) (D : Cell) (fV fC : Field) (A : Cell) (o len : Nat) (r : Option Value) (s u : State) : Prop := Got a D fV fC A o len r s u
/-- len > 0, no char of the range above 255: a Latin-1 String of their low bytes -/
theorem law (l : Launch) (a : Addr) (D : Cell) (fV fC : Field) (b : Addr) (A : Cell) (z : Int32) (o len : Nat) : Law l yN 5 4 2 35 yB 6 none site (P a D fV fC b A z o len) (E a D fV fC A o len) [⟨a, fC.slot⟩, ⟨a, fV.slot⟩] 1 len := by
  refine Law.of_walk (plainFor_of_name (by decide +kernel)) (by decide +kernel) (by decide +kernel) (by decide) (fun _ _ h => by rw [h.1]; rfl) (fun _ U U' hal hh h => ⟨h.1, h.2.1.mv hal hh, h.2.2.1.al hal, h.2.2.2.1.al hal, h.2.2.2.2.1.mv hal hh, h.2.2.2.2.2.1.there hal hh, h.2.2.2.2.2.2⟩) (fun r U U' V V' h1 hal h2 h => Got.mv r U U' V V' h1 hal h2 h) ?_
  intro p e s m args below meth c s₁ X0 hexec hbytes hml hret hlk hnm hown hh0 W hP
  obtain ⟨rfl, hB, f1, f2, hA, s1, hz, l0, l1, l2, hp⟩ := hP
  have a31 := hA.1.2.2.2
  have c1 : Steps p.tables e below (s₁.setTop (entryFrame m #[.ref a, .ref b, .int (Int32.ofNat o), .int (Int32.ofNat len), .null] 6)) (s₁.setTop (mkF m 0 #[.val (.ref a), .val (.ref b), .val (.int (Int32.ofNat o)), .val (.int (Int32.ofNat len)), .val .null, .unset] [])) := entry rfl
  have c2 : Steps p.tables e below (s₁.setTop (entryFrame m #[.ref a, .ref b, .int (Int32.ofNat o), .int (Int32.ofNat len), .null] 6)) (s₁.setTop (mkF m 1 #[.val (.ref a), .val (.ref b), .val (.int (Int32.ofNat o)), .val (.int (Int32.ofNat len)), .val .null, .unset] [.ref a])) := c1.trans (by
    refine XS.aloadN X0.here hexec rfl (hb hbytes d0) rfl rfl ?_
    exact Steps.refl _)
  obtain ⟨T3, X3, q3, st3⟩ := X0.oinit hexec hown (wks W (objW "java/lang/String" 1)) (g := (mkF m 1 #[.val (.ref a), .val (.ref b), .val (.int (Int32.ofNat o)), .val (.int (Int32.ofNat len)), .val .null, .unset] [.ref a])) rfl (by rw [hml]; rfl) (rest := []) rfl (hb hbytes d1) (W := 0) (by show 2 * 0 + 0 ≤ _; decide) (Nat.le_of_ble_eq_true rfl) (Nat.le_of_ble_eq_true rfl)
  have hh3 := q3.trans hh0
  have c4 : Steps p.tables e below (s₁.setTop (entryFrame m #[.ref a, .ref b, .int (Int32.ofNat o), .int (Int32.ofNat len), .null] 6)) (T3.setTop (mkF m 27 #[.val (.ref a), .val (.ref b), .val (.int (Int32.ofNat o)), .val (.int (Int32.ofNat len)), .val .null, .unset] [])) := (c2.trans (st3 _ (Steps.refl _))).trans (by
    refine XS.iloadN X3.here hexec rfl (hb hbytes d4) rfl ?_
    refine XS.ifYes X3.here hexec rfl (pc0 := 5) rfl (hb hbytes d5) rfl (i0_ne_t (nz32 (by omega) l0)) (by decide) rfl ?_
    exact Steps.refl _)
  obtain ⟨T5, X5, q5, st5⟩ := X3.sget hexec hown (wk W (.fieldLink "java/lang/String" 38 "java/lang/String" "COMPACT_STRINGS" "Z")) s1 (fun _ _ h => by rw [hh3]; exact h) (g := (mkF m 27 #[.val (.ref a), .val (.ref b), .val (.int (Int32.ofNat o)), .val (.int (Int32.ofNat len)), .val .null, .unset] [])) rfl (hb hbytes d27)
  have hh5 := q5.trans hh3
  have c6 : Steps p.tables e below (s₁.setTop (entryFrame m #[.ref a, .ref b, .int (Int32.ofNat o), .int (Int32.ofNat len), .null] 6)) (T5.setTop (mkF m 30 #[.val (.ref a), .val (.ref b), .val (.int (Int32.ofNat o)), .val (.int (Int32.ofNat len)), .val .null, .unset] [.int z])) := c4.trans (st5 _ (Steps.refl _))
  have c7 : Steps p.tables e below (s₁.setTop (entryFrame m #[.ref a, .ref b, .int (Int32.ofNat o), .int (Int32.ofNat len), .null] 6)) (T5.setTop (mkF m 36 #[.val (.ref a), .val (.ref b), .val (.int (Int32.ofNat o)), .val (.int (Int32.ofNat len)), .val .null, .unset] [.int (Int32.ofNat len), .int (Int32.ofNat o), .ref b])) := c6.trans (by
    refine XS.ifNo X5.here hexec rfl (hb hbytes d30) rfl (i0_eq_f hz) ?_
    refine XS.aloadN X5.here hexec rfl (hb hbytes d33) rfl rfl ?_
    refine XS.iloadN X5.here hexec rfl (hb hbytes d34) rfl ?_
    refine XS.iloadN X5.here hexec rfl (hb hbytes d35) rfl ?_
    exact Steps.refl _)
  obtain ⟨v8, T8, X8, E8, g8⟩ := X5.callS hexec (Cmp3.law l b A o len) hown (wks W (staticW "java/lang/String" 177 Cmp3.yN)) (wk W Cmp3.tab) (W := 0) (Nat.le_of_ble_eq_true rfl) (Nat.le_of_ble_eq_true rfl) (Nat.le_refl _) (by show 0 + len ≤ len; omega) (g := (mkF m 36 #[.val (.ref a), .val (.ref b), .val (.int (Int32.ofNat o)), .val (.int (Int32.ofNat len)), .val .null, .unset] [.int (Int32.ofNat len), .int (Int32.ofNat o), .ref b])) rfl (by rw [hml]; rfl) c7 (argsL := [.ref b, .int (Int32.ofNat o), .int (Int32.ofNat len)]) (rest := []) rfl rfl (by show 2 * 0 + 0 ≤ _; decide) (hb hbytes d36) (⟨rfl, hA.mv X5.warmed.alike hh5, l1, l2, hp⟩)
  obtain ⟨e8, z8⟩ := E8
  obtain ⟨rfl, N, n1, n2, n3, n4, n5, n6⟩ := NewArr.mv _ T5 s _ _ hh5.symm (Vm.Alike.refl _) rfl e8
  rw [hh5] at z8
  have hB1 := hB.keep X8.warmed.alike (n6 _ _ hB.1)
  have hne : s.heap.size ≠ a := (Nat.ne_of_lt (Array.getElem?_eq_some_iff.mp hB.1).1).symm
  have c9 : Steps p.tables e below (s₁.setTop (entryFrame m #[.ref a, .ref b, .int (Int32.ofNat o), .int (Int32.ofNat len), .null] 6)) (T8.setTop (mkF m 39 #[.val (.ref a), .val (.ref b), .val (.int (Int32.ofNat o)), .val (.int (Int32.ofNat len)), .val .null, .unset] [.ref s.heap.size])) := g8
  have c10 : Steps p.tables e below (s₁.setTop (entryFrame m #[.ref a, .ref b, .int (Int32.ofNat o), .int (Int32.ofNat len), .null] 6)) (T8.setTop (mkF m 45 #[.val (.ref a), .val (.ref b), .val (.int (Int32.ofNat o)), .val (.int (Int32.ofNat len)), .val .null, .val (.ref s.heap.size)] [.int (Int32.ofNat N.slots.size), .ref s.heap.size, .ref a])) := by
    have hc : Steps p.tables e below (s₁.setTop (entryFrame m #[.ref a, .ref b, .int (Int32.ofNat o), .int (Int32.ofNat len), .null] 6)) (T8.setTop (mkF m 45 #[.val (.ref a), .val (.ref b), .val (.int (Int32.ofNat o)), .val (.int (Int32.ofNat len)), .val .null, .val (.ref s.heap.size)] [.int (Int32.ofNat len), .ref s.heap.size, .ref a])) := c9.trans (by
      refine XS.astore X8.here hexec rfl (hb hbytes d39) rfl rfl rfl ?_
      refine XS.aloadN X8.here hexec rfl (hb hbytes d41) rfl rfl ?_
      refine XS.aload X8.here hexec rfl (hb hbytes d42) rfl rfl ?_
      refine XS.iloadN X8.here hexec rfl (hb hbytes d44) rfl ?_
      exact Steps.refl _)
    rw [n4]; exact hc
  obtain ⟨v11, T11, X11, E11, g11⟩ := X8.callS hexec (CodL.law l s.heap.size N) hown (wks W (staticW "java/lang/String" 47 CodL.yN)) (wk W CodL.tab) (W := 1) (Nat.le_of_ble_eq_true rfl) (Nat.le_of_ble_eq_true rfl) (Nat.le_refl _) (by show 0 + len + 0 ≤ len; omega) (g := (mkF m 45 #[.val (.ref a), .val (.ref b), .val (.int (Int32.ofNat o)), .val (.int (Int32.ofNat len)), .val .null, .val (.ref s.heap.size)] [.int (Int32.ofNat N.slots.size), .ref s.heap.size, .ref a])) rfl (by rw [hml]; rfl) c10 (argsL := [.ref s.heap.size, .int (Int32.ofNat N.slots.size)]) (rest := [.ref a]) rfl rfl (by show 2 * 0 + (1 + 0) ≤ _; decide) (hb hbytes d45) (⟨rfl, n1⟩)
  obtain ⟨rfl, q11⟩ := E11
  have hB11 := hB1.mv (X8.warmed.alike.symm.trans X11.warmed.alike) q11
  have c12 : Steps p.tables e below (s₁.setTop (entryFrame m #[.ref a, .ref b, .int (Int32.ofNat o), .int (Int32.ofNat len), .null] 6)) (T11.setTop (mkF m 48 #[.val (.ref a), .val (.ref b), .val (.int (Int32.ofNat o)), .val (.int (Int32.ofNat len)), .val .null, .val (.ref s.heap.size)] [.int 0, .ref a])) := g11
  obtain ⟨T13, X13, p13, bl13, sl13, st13⟩ := X11.finit hexec hown (wk W (.fieldLink "java/lang/String" 15 "java/lang/String" "coder" "B")) (Or.inr ⟨_, (wk W (.laysFinal "java/lang/String" "java/lang/String" "coder" "B"))⟩) (Or.inl ⟨rfl, hnm⟩) f2 (Or.inl rfl) hB11 (t := .byte) (by decide +kernel) rfl (g := (mkF m 48 #[.val (.ref a), .val (.ref b), .val (.int (Int32.ofNat o)), .val (.int (Int32.ofNat len)), .val .null, .val (.ref s.heap.size)] [.int 0, .ref a])) rfl (rest := []) rfl (hb hbytes d48)
  have c14 : Steps p.tables e below (s₁.setTop (entryFrame m #[.ref a, .ref b, .int (Int32.ofNat o), .int (Int32.ofNat len), .null] 6)) (T13.setTop (mkF m 54 #[.val (.ref a), .val (.ref b), .val (.int (Int32.ofNat o)), .val (.int (Int32.ofNat len)), .val .null, .val (.ref s.heap.size)] [.ref s.heap.size, .ref a])) := (c12.trans (st13 _ (Steps.refl _))).trans (by
    refine XS.aloadN X13.here hexec rfl (hb hbytes d51) rfl rfl ?_
    refine XS.aload X13.here hexec rfl (hb hbytes d52) rfl rfl ?_
    exact Steps.refl _)
  obtain ⟨T15, X15, p15, bl15, sl15, st15⟩ := X13.finit hexec hown (wk W (.fieldLink "java/lang/String" 9 "java/lang/String" "value" "[B")) (Or.inr ⟨_, (wk W (.laysFinal "java/lang/String" "java/lang/String" "value" "[B"))⟩) (Or.inl ⟨rfl, hnm⟩) f1 (Or.inl rfl) bl13 (t := (.array .byte)) (by decide +kernel) rfl (g := (mkF m 54 #[.val (.ref a), .val (.ref b), .val (.int (Int32.ofNat o)), .val (.int (Int32.ofNat len)), .val .null, .val (.ref s.heap.size)] [.ref s.heap.size, .ref a])) rfl (rest := []) rfl (hb hbytes d54)
  have c16 : Steps p.tables e below (s₁.setTop (entryFrame m #[.ref a, .ref b, .int (Int32.ofNat o), .int (Int32.ofNat len), .null] 6)) (T15.setTop (mkF m 57 #[.val (.ref a), .val (.ref b), .val (.int (Int32.ofNat o)), .val (.int (Int32.ofNat len)), .val .null, .val (.ref s.heap.size)] [])) := c14.trans (st15 _ (Steps.refl _))
  have ap := apart (Or.inr ⟨_, (wk W (.laysFinal "java/lang/String" "java/lang/String" "value" "[B"))⟩) (Or.inr ⟨_, (wk W (.laysFinal "java/lang/String" "java/lang/String" "coder" "B"))⟩) f1 f2 (t₁ := .array .byte) (t₂ := .byte) (by decide +kernel) (by decide +kernel) (by decide)
  have al := X8.warmed.alike.symm.trans X15.warmed.alike
  have n7 : T11.heap[s.heap.size]? = some N := by rw [q11]; exact n1.1
  exact ⟨T15, none, _, _, _, X15, by simp, rfl, by omega, (fun _ => rfl), ⟨rfl, _, N, bl15, ((Same.refl D _).set _ (by simp)).set _ (by simp), sl15, (Cell.slots_setSlot_ne _ ap).trans sl13, n1.keep al (p15.other hne (p13.other hne n7)), n2, by rw [al.findClass]; exact n3, n4, n5, fun y c h1 h2 => p15.other h1 (p13.other h1 (by rw [q11]; exact n6 y c h2)), by rw [p15.2.2, p13.2.2, q11]; exact z8⟩, fun fs hl => c16.trans (X15.returnOut hexec hret (hb hbytes d57) hl)⟩
end New4
namespace New1
def yN : MethodName := ⟨"java/lang/String", "<init>", "([C)V"⟩
abbrev yB : ByteArray := jdk_42_method_3_code
theorem d0 : decode yB 0 = .ok (.aload_n 0, 1) := by decide +kernel
theorem d1 : decode yB 1 = .ok (.aload_n 1, 1) := by decide +kernel
theorem d2 : decode yB 2 = .ok (.iconst 0, 1) := by decide +kernel
theorem d3 : decode yB 3 = .ok (.aload_n 1, 1) := by decide +kernel
theorem d4 : decode yB 4 = .ok (.arraylength, 1) := by decide +kernel
theorem d5 : decode yB 5 = .ok (.aconst_null, 1) := by decide +kernel
theorem d6 : decode yB 6 = .ok (.invokespecial 27, 3) := by decide +kernel
theorem d9 : decode yB 9 = .ok (.return_, 1) := by decide +kernel
def site : List Cond := [New4.tab] ++ initW "java/lang/String" 27 New4.yN
def tab : Cond := tabOf yN yB 2 none site
def P (a : Addr) (D : Cell) (fV fC : Field) (b : Addr) (A : Cell) (z : Int32) (args : Array Value) (s : State) : Prop := args = #[.ref a, .ref b] ∧ Blank "java/lang/String" a D s ∧ Found "java/lang/String" "value" "[B" fV s ∧ Found "java/lang/String" "coder" "B" fC s ∧ Ch b A s ∧ StaticIs s "java/lang/String" "COMPACT_STRINGS" "Z" (.int z) ∧ ¬ z = 0 ∧ 0 < A.slots.size ∧ A.slots.size ≤ 536870912 ∧ ∀ i, i < A.slots.size → ¬ 255 < cv A i
def E (a : Addr) (D : Cell) (fV fC : Field) (A : Cell) (r : Option Value) (s u : State) : Prop := Got a D fV fC A 0 A.slots.size r s u
/-- new String(chars), not empty, no char above 255: a Latin-1 String of their low bytes -/
theorem law (l : Launch) (a : Addr) (D : Cell) (fV fC : Field) (b : Addr) (A : Cell) (z : Int32) : Law l yN 2 1 3 52 yB 2 none site (P a D fV fC b A z) (E a D fV fC A) [⟨a, fC.slot⟩, ⟨a, fV.slot⟩] 1 A.slots.size := by
  refine Law.of_walk (plainFor_of_name (by decide +kernel)) (by decide +kernel) (by decide +kernel) (by decide) (fun _ _ h => by rw [h.1]; rfl) (fun _ U U' hal hh h => ⟨h.1, h.2.1.mv hal hh, h.2.2.1.al hal, h.2.2.2.1.al hal, h.2.2.2.2.1.mv hal hh, h.2.2.2.2.2.1.there hal hh, h.2.2.2.2.2.2⟩) (fun r U U' V V' h1 hal h2 h => Got.mv r U U' V V' h1 hal h2 h) ?_
  intro p e s m args below meth c s₁ X0 hexec hbytes hml hret hlk hnm hown hh0 W hP
  obtain ⟨rfl, hB, f1, f2, hA, s1, hz, l0, l2, hp⟩ := hP
  have c1 : Steps p.tables e below (s₁.setTop (entryFrame m #[.ref a, .ref b] 2)) (s₁.setTop (mkF m 0 #[.val (.ref a), .val (.ref b)] [])) := entry rfl
  have c2 : Steps p.tables e below (s₁.setTop (entryFrame m #[.ref a, .ref b] 2)) (s₁.setTop (mkF m 6 #[.val (.ref a), .val (.ref b)] [.null, .int (Int32.ofNat A.slots.size), .int 0, .ref b, .ref a])) := c1.trans (by
    refine XS.aloadN X0.here hexec rfl (hb hbytes d0) rfl rfl ?_
    refine XS.aloadN X0.here hexec rfl (hb hbytes d1) rfl rfl ?_
    refine iconstV X0.here hexec rfl 0 (hb hbytes d2) (by decide) ?_
    refine XS.aloadN X0.here hexec rfl (hb hbytes d3) rfl rfl ?_
    refine X0.alen hexec (hA.1.mv X0.warmed.alike hh0) rfl rfl (hb hbytes d4) ?_
    refine XS.aconstNull X0.here hexec rfl (hb hbytes d5) ?_
    exact Steps.refl _)
  obtain ⟨v3, T3, X3, E3, g3⟩ := X0.callN hexec (New4.law l a D fV fC b A z 0 A.slots.size) rfl hown (wks W (initW "java/lang/String" 27 New4.yN)) (W New4.tab (by simp only [site, List.mem_cons, List.mem_append, true_or, or_true])) (W := 0) (Nat.le_of_ble_eq_true rfl) (Nat.le_of_ble_eq_true rfl) (Nat.le_refl _) (by show 0 + A.slots.size ≤ A.slots.size; omega) (g := (mkF m 6 #[.val (.ref a), .val (.ref b)] [.null, .int (Int32.ofNat A.slots.size), .int (Int32.ofNat 0), .ref b, .ref a])) rfl (by rw [hml]; rfl) c2 (argsL := [.ref b, .int (Int32.ofNat 0), .int (Int32.ofNat A.slots.size), .null]) (rest := []) rfl rfl (by show 2 * 0 + 0 ≤ _; decide) (hb hbytes d6) (⟨rfl, hB.mv X0.warmed.alike hh0, f1.al X0.warmed.alike, f2.al X0.warmed.alike, hA.mv X0.warmed.alike hh0, s1.there X0.warmed.alike hh0, hz, l0, by omega, l2, fun i hi => by rw [Nat.zero_add]; exact hp i hi⟩)
  have e0 := Got.mv _ s₁ s _ _ hh0.symm (Vm.Alike.refl _) rfl E3
  obtain rfl := e0.1
  have c4 : Steps p.tables e below (s₁.setTop (entryFrame m #[.ref a, .ref b] 2)) (T3.setTop (mkF m 9 #[.val (.ref a), .val (.ref b)] [])) := g3
  exact ⟨T3, none, _, _, _, X3, by simp, rfl, by omega, (fun _ => rfl), e0, fun fs hl => c4.trans (X3.returnOut hexec hret (hb hbytes d9) hl)⟩
theorem pays {l : Launch} {R : Room} {p : Program} {e : Env} {below : List Frame} {s : State} {sargs : Array Value} {len W : Nat} (a : Addr) (D : Cell) (fV fC : Field) (b : Addr) (A : Cell) (z : Int32) (htab : tab.before sargs s = true) (hfr : 4 ≤ R.frames) (hlo : W + 65 ≤ R.locals) :
    Back l R p e below s sargs yN len W (fun A₁ a₁ => A₁.cells + 1 ≤ R.cells ∧ A₁.slots + A.slots.size ≤ R.slots ∧ P a D fV fC b A z a₁ A₁.U) (fun A₁ _ v₁ B₁ => E a D fV fC A v₁ A₁.U B₁.U ∧ B₁.locs = A₁.locs ++ [⟨a, fC.slot⟩, ⟨a, fV.slot⟩] ∧ B₁.cells = A₁.cells + 1 ∧ B₁.slots = A₁.slots + A.slots.size) :=
  (law l a D fV fC b A z).pays htab hfr (by omega)
end New1
/-- the byte, read back as charAt reads it, is the char -/
theorem lo8_mask {x : Int32} (h0 : ¬ x < 0) (h1 : ¬ 255 < x) : lo8 x &&& 255 = x := by
  have t : ∀ k : Fin 256, lo8 (Int32.ofNat k.val) &&& 255 = Int32.ofNat k.val := by decide +kernel
  rw [Int32.lt_iff_toInt_lt] at h0 h1
  have e0 : (0 : Int32).toInt = 0 := rfl
  have e1 : (255 : Int32).toInt = 255 := rfl
  obtain ⟨k, hk⟩ : ∃ k : Nat, x.toInt = k := ⟨x.toInt.toNat, by omega⟩
  have hx : x = Int32.ofNat k := Int32.toInt_inj.mp (by rw [hk, Int32.toInt_ofNat_small (by omega)])
  rw [hx]
  exact t ⟨k, by omega⟩
end StrChars
namespace StrChars.Road
open Jvm Sem ClassFile Op Lib Jvm.Stand Jvm.Free Jvm.Free.XT
open Jvm.Lib.Cold (StaticIs)
abbrev ST : String := "java/lang/String"
/-- every table word that New1's law asks, flat -/
abbrev words : List Jvm.Cond := [.code New1.yN New1.yB 2 none, .initialized ST, .methodLink ST 27 New4.yN, .instanceMethod New4.yN,
  .code New4.yN New4.yB 6 none, .fieldLink ST 38 ST "COMPACT_STRINGS" "Z", .laysFinal ST ST "value" "[B", .fieldLink ST 9 ST "value" "[B", .laysFinal ST ST "coder" "B", .fieldLink ST 15 ST "coder" "B",
  .methodLink ST 1 Lib.objectInit, .instanceMethod Lib.objectInit, .code Lib.objectInit ⟨#[0xb1]⟩ 1 none, .methodLink ST 177 Cmp3.yN, .static Cmp3.yN, .methodLink ST 47 CodL.yN, .static CodL.yN,
  .code Cmp3.yN Cmp3.yB 6 (some (.array .byte)), .initialized U16, .arrayClass .byte, .methodLink U16 115 Cmp5.yN, .static Cmp5.yN, .code Cmp5.yN Cmp5.yB 7 (some .int), .code CodL.yN CodL.yB 2 (some .byte)]
theorem tab_of {a : Array Value} {s : State} (h : ∀ w ∈ words, w.before a s = true) : New1.tab.before a s = true := by
  have h5 : Cmp5.tab.before a s = true := unparts (wk h (.code Cmp5.yN Cmp5.yB 7 (some .int))) (wks h (.initialized Cmp5.yN.cls :: Cmp5.site))
  have hc : CodL.tab.before a s = true := unparts (wk h (.code CodL.yN CodL.yB 2 (some .byte))) (wks h (.initialized CodL.yN.cls :: CodL.site))
  have q5 : ∀ w ∈ Cmp5.tab :: words, w.before a s = true := fun w hw => (List.mem_cons.mp hw).elim (fun e => e ▸ h5) (h w)
  have h3 : Cmp3.tab.before a s = true := unparts (wk q5 (.code Cmp3.yN Cmp3.yB 6 (some (.array .byte)))) (wks q5 (.initialized Cmp3.yN.cls :: Cmp3.site))
  have q3 : ∀ w ∈ Cmp3.tab :: CodL.tab :: words, w.before a s = true := fun w hw => (List.mem_cons.mp hw).elim (fun e => e ▸ h3) fun hw => (List.mem_cons.mp hw).elim (fun e => e ▸ hc) (h w)
  have h4 : New4.tab.before a s = true := unparts (wk q3 (.code New4.yN New4.yB 6 none)) (wks q3 (.initialized New4.yN.cls :: New4.site))
  have q4 : ∀ w ∈ New4.tab :: words, w.before a s = true := fun w hw => (List.mem_cons.mp hw).elim (fun e => e ▸ h4) (h w)
  exact unparts (wk q4 (.code New1.yN New1.yB 2 none)) (wks q4 (.initialized New1.yN.cls :: New1.site))
/-- the words ride from the start Z to the walk's own state -/
theorem moved {Z s : State} {a0 args : Array Value} (hZ : Z.Warmed39 s.vm) (hw : ∀ d ∈ words, d.before a0 Z = true) : ∀ d ∈ words, d.before args s = true := fun d hd => by
  have q := hw d hd
  have t : ∀ d ∈ words, d = .arrayClass .byte ∨ (d.onTables && d.keepsFace) = true := by decide +kernel
  rcases t d hd with rfl | t
  · exact RoadKit.mvA hZ q
  · exact RoadKit.mv hZ q t
/-- WHAT COMES BACK, over the tables of the start Z: h the heap at the call, h' behind it -/
def Q (Z : State) (x : Addr) (A : Cell) (h : Heap) (v : Option Value) (h' : Heap) (L : List Loc) : Prop := v = none ∧ (∀ y ∈ L, y.base = x) ∧ RoadKit.Keep h h' [x] ∧ h'.size = h.size + 1 ∧ RoadKit.Exa Z h' x ST ∧ RoadKit.Fld Z h' x ST "value" "[B" (.ref h.size) ∧ RoadKit.Fld Z h' x ST "coder" "B" (.int 0) ∧
  (∃ V : Cell, RoadKit.Arr Z h' h.size V .byte ∧ V.vm = .none ∧ Z.vm.findClass "[B" = some V.cls ∧ V.slots.size = A.slots.size ∧ ∀ j, j < A.slots.size → V.slots[j]? = some (.int (lo8 (cv A j)))) ∧
  ∀ (O n d : String) (w : Value), RoadKit.Fld Z h x O n d w → RoadKit.slotOf Z O n d ≠ RoadKit.slotOf Z ST "value" "[B" → RoadKit.slotOf Z O n d ≠ RoadKit.slotOf Z ST "coder" "B" → RoadKit.Fld Z h' x O n d w
/-- **new String(chars) AT A CALL, IN THE ROAD'S FORM**: for specialBack behind newO: x the fresh String, b the char[] with the cell A -/
theorem back {p : Program} {l : Launch} {e : Env} {R : Room} {s : State} {args : Array Value} {below : List Frame} {len W : Nat} {Z : State} {a0 : Array Value} {h : Heap} (hZ : Z.Warmed39 s.vm) (hw : ∀ d ∈ words, d.before a0 Z = true) {kI : Nat} (wi : (Jvm.Cond.instantiable ST kI).before a0 Z = true)
    {x b : Addr} {A : Cell} {z : Int32} {v0 c0 : Value} (E : RoadKit.Exa Z h x ST) (V : RoadKit.Fld Z h x ST "value" "[B" v0) (C : RoadKit.Fld Z h x ST "coder" "B" c0) (K : RoadKit.Arr Z h b A .char) (hty : Typed .char A) (S : RoadKit.Sta Z h ST "COMPACT_STRINGS" "Z" (.int z)) (hz : ¬ z = 0)
    (l0 : 0 < A.slots.size) (l2 : A.slots.size ≤ 536870912) (hp : ∀ i, i < A.slots.size → ¬ 255 < cv A i) (hfr : 4 ≤ R.frames) (hlo : W + 65 ≤ R.locals) :
    Back l R p e below s args New1.yN len W (fun P a => a = #[.ref x, .ref b] ∧ P.U.heap = h ∧ P.cells + 1 ≤ R.cells ∧ P.slots + A.slots.size ≤ R.slots)
      (fun P _ v B => ∃ L, Q Z x A h v B.U.heap L ∧ B.locs = P.locs ++ L ∧ B.cells = P.cells + 1 ∧ B.slots = P.slots + A.slots.size) := by
  intro m meth c P g ig mk a X hg hsize hdg hW hn hp'
  obtain ⟨rfl, rfl, r1, r2⟩ := hp'
  have al : Z.vm.Alike P.U.vm := hZ.alike.trans X.warmed.alike
  obtain ⟨D, cfV, kV, iV, fV, hD, gV, stV, knV, obV, asV, slV⟩ := id V
  obtain ⟨D', cfC, kC, iC, fC, hD', gC, stC, -, -, asC, slC⟩ := id C
  cases hD.symm.trans hD'
  obtain ⟨D2, kD, e1, e2, e3, e4, e5⟩ := id E
  cases hD.symm.trans e1
  obtain ⟨c2, k2, i1, i2, i3, -⟩ := Cond.instantiable_spec wi
  cases e2.symm.trans i1
  cases e3.symm.trans i2
  obtain ⟨kU, u1, u2⟩ := al.2.2 _ _ e3
  have hB : Blank ST x D P.U := ⟨hD, ⟨knV, fun q hq => by rw [hq] at obV; cases obV⟩, by rw [al.findClass]; exact e2, kU, u1, by rw [u2]; exact i3, by rw [u2]; exact e5 i3⟩
  have F1 : Found ST "value" "[B" fV P.U := ⟨SBG.found_only al ⟨cfV, kV, iV, gV⟩, stV⟩
  have F2 : Found ST "coder" "B" fC P.U := ⟨SBG.found_only al ⟨cfC, kC, iC, gC⟩, stC⟩
  have hA : Ch b A P.U := ⟨⟨K.1, State.isArrayOf_alike al K.2.1, K.2.2, by omega⟩, hty⟩
  have hS : StaticIs P.U ST "COMPACT_STRINGS" "Z" (.int z) := by
    obtain ⟨cfS, iS, kS, fS, st, cS, t1, t2, t3, t4, t5, t6, t7⟩ := S
    exact StaticIs.there (s := { Z with heap := P.U.heap }) ⟨cfS, iS, kS, fS, st, cS, t1, t2, t3, t4, t5, (fun q => by rw [q] at t6; cases t6), t7⟩ al rfl
  obtain ⟨v, B, X', ⟨⟨hv, E', V', q1, q2, q3, q4, q5, q6, q7, q8, q9, q10, q11⟩, hl, hc, hs⟩, st⟩ := New1.pays x D fV fC b A z (tab_of (moved hZ hw)) hfr hlo m meth c P g ig mk _ X hg hsize hdg hW hn ⟨r1, r2, rfl, hB, F1, F2, hA, hS, hz, l0, l2, hp⟩
  have al' : Z.vm.Alike B.U.vm := hZ.alike.trans X'.warmed.alike
  have hsz : E'.slots.size = D.slots.size := by
    obtain ⟨-, -, -, kB, w1, w2, w3⟩ := q1
    obtain ⟨kB', y1, y2⟩ := al'.2.2 _ _ e3
    rw [q2.2.1] at w1
    cases w1.symm.trans y1
    rw [w3, e5 i3, y2]
  refine ⟨v, B, X', ⟨_, ⟨hv, ?_, ⟨by omega, fun y cy hy hn' => q10 y cy (by simpa using hn') hy, fun y cy hy => ?_⟩, q11, ⟨E', _, q1.1, by rw [q2.2.1]; exact e2, by rw [q2.2.1]; exact e3, by rw [q2.1]; exact obV, fun _ => by rw [hsz]; exact e5 i3⟩,
    ⟨E', cfV, kV, iV, fV, q1.1, gV, stV, by rw [q2.1]; exact knV, by rw [q2.1]; exact obV, by rw [q2.2.1]; exact asV, q3⟩, ⟨E', cfC, kC, iC, fC, q1.1, gC, stC, by rw [q2.1]; exact knV, by rw [q2.1]; exact obV, by rw [q2.2.1]; exact asC, q4⟩,
    ⟨V', ⟨q5.1, State.isArrayOf_alike al'.symm q5.2.1, q5.2.2.1⟩, q6, by rw [← al'.findClass]; exact q7, q8, fun j hj => by have := q9 j hj; rwa [Nat.zero_add] at this⟩, fun O n d w F n1 n2 => ?_⟩, hl, hc, hs⟩, st⟩
  · intro y hy
    simp only [List.mem_cons, List.not_mem_nil, or_false] at hy
    rcases hy with rfl | rfl <;> rfl
  · by_cases q : y = x
    · subst q
      cases hD.symm.trans hy
      exact ⟨E', q1.1, q2.2.1, q2.1, hsz⟩
    · exact ⟨cy, q10 y cy q hy, rfl, rfl, rfl⟩
  · obtain ⟨D3, cf, k, i, f, g1, g2, g3, g4, g5, g6, g7⟩ := F
    cases hD.symm.trans g1
    simp only [RoadKit.slotOf, g2, gV, gC, Option.map_some, Option.getD_some] at n1 n2
    exact ⟨E', cf, k, i, f, q1.1, g2, g3, by rw [q2.1]; exact g4, by rw [q2.1]; exact g5, by rw [q2.2.1]; exact g6, by rw [q2.2.2 f.slot (by simp [n1, n2])]; exact g7⟩
end StrChars.Road
namespace StrChars.Road
open Jvm Sem ClassFile Op Lib Jvm.Stand Jvm.Free Jvm.Free.XT
/-- WHAT COMES BACK, the byte[] as a list of values -/
def QA (Z : State) (x : Addr) (zn : Int32) (cs : List Int32) (h : Heap) (v : Option Value) (h' : Heap) (L : List Loc) : Prop := v = none ∧ (∀ y ∈ L, y.base = x) ∧ RoadKit.Keep h h' [x] ∧ h'.size = h.size + 1 ∧ RoadKit.Exa Z h' x ST ∧ RoadKit.Fld Z h' x ST "value" "[B" (.ref h.size) ∧ RoadKit.Fld Z h' x ST "coder" "B" (.int 0) ∧
  (∃ kb, Z.vm.findClass "[B" = some kb ∧ RoadKit.Arv Z h' h.size kb .byte zn (cs.map fun c => .int (lo8 c)) (.int 0)) ∧
  ∀ (O n d : String) (w : Value), RoadKit.Fld Z h x O n d w → RoadKit.slotOf Z O n d ≠ RoadKit.slotOf Z ST "value" "[B" → RoadKit.slotOf Z O n d ≠ RoadKit.slotOf Z ST "coder" "B" → RoadKit.Fld Z h' x O n d w
/-- **new String(chars) AT A CALL, THE ARRAYS AS LISTS**: the char[] at b holds cs, not empty, no char above 255 -/
theorem backArv {p : Program} {l : Launch} {e : Env} {R : Room} {s : State} {args : Array Value} {below : List Frame} {len W : Nat} {Z : State} {a0 : Array Value} {h : Heap} (hZ : Z.Warmed39 s.vm) (hw : ∀ d ∈ words, d.before a0 Z = true) {kI : Nat} (wi : (Jvm.Cond.instantiable ST kI).before a0 Z = true)
    {x b : Addr} {k : ClassId} {zn z : Int32} {cs : List Int32} {dv v0 c0 : Value} (E : RoadKit.Exa Z h x ST) (V : RoadKit.Fld Z h x ST "value" "[B" v0) (C : RoadKit.Fld Z h x ST "coder" "B" c0) (K : RoadKit.Arv Z h b k .char zn (cs.map Value.int) dv) (S : RoadKit.Sta Z h ST "COMPACT_STRINGS" "Z" (.int z)) (hz : ¬ z = 0)
    (hlen : zn.toNatClampNeg = cs.length) (h0 : 0 < cs.length) (hbig : cs.length ≤ 536870912) (hall : ∀ c ∈ cs, ¬ 255 < c) (hfr : 4 ≤ R.frames) (hlo : W + 65 ≤ R.locals) :
    Back l R p e below s args New1.yN len W (fun P a => a = #[.ref x, .ref b] ∧ P.U.heap = h ∧ P.cells + 1 ≤ R.cells ∧ P.slots + cs.length ≤ R.slots)
      (fun P _ v B => ∃ L, QA Z x zn cs h v B.U.heap L ∧ B.locs = P.locs ++ L ∧ B.cells = P.cells + 1 ∧ B.slots = P.slots + cs.length) := by
  obtain ⟨A, K1, K2, K3, K4, K5, K6⟩ := K
  have e : A.slots.size = cs.length := K3.trans hlen
  have hat : ∀ (i : Nat) (hi : i < cs.length), A.slots[i]? = some (.int cs[i]) := fun i hi => by rw [K5 i (by omega)]; simp [List.getD_eq_getElem?_getD, hi]
  have hcv : ∀ (i : Nat) (hi : i < cs.length), cv A i = cs[i] := fun i hi => by unfold cv; rw [hat i hi]
  have hty : Typed .char A := fun i v hv => by
    have hi : i < A.slots.size := (Array.getElem?_eq_some_iff.mp hv).1
    have q := K5 i hi
    rw [hv] at q
    rw [Option.some.inj q]
    exact K6 i hi
  refine Back.mono (back hZ hw wi E V C K1 hty S hz (by omega) (by omega) (fun i hi => by rw [hcv i (by omega)]; exact hall _ (List.getElem_mem _)) hfr hlo) (fun P a hp => ⟨hp.1, hp.2.1, hp.2.2.1, by rw [e]; exact hp.2.2.2⟩) (fun P a v B hp hq => ?_)
  obtain ⟨L, ⟨q1, q2, q3, q4, q5, q6, q7, ⟨V', v1, v2, v3, v4, v5⟩, q9⟩, hl, hc, hs⟩ := hq
  refine ⟨L, ⟨q1, q2, q3, q4, q5, q6, q7, ⟨V'.cls, v3, V', v1, rfl, by rw [v4, e, hlen], K4, fun i hi => ?_, fun i hi => ?_⟩, q9⟩, hl, hc, by rw [hs, e]⟩
  · have hi' : i < cs.length := by omega
    rw [v5 i (by omega), hcv i hi']; simp [List.getD_eq_getElem?_getD, hi']
  · have hi' : i < cs.length := by omega
    simp only [List.getD_eq_getElem?_getD, List.getElem?_map, List.getElem?_eq_getElem hi', Option.map_some, Option.getD_some]
    exact fits_lo8 _
end StrChars.Road
namespace StrChars.Road
open Jvm Sem ClassFile Op Lib Jvm.Stand Jvm.Free Jvm.Free.XT
/-- WHAT COMES BACK, in the writer's own shape -/
def QV (Z : State) (x : Addr) (N : Int32) (bs : List Int32) (h : Heap) (n0 : Nat) (v : Option Value) (h' : Heap) (L : List Loc) : Prop := v = none ∧ RoadKit.Fr n0 L ∧ RoadKit.Keep h h' [x] ∧ RoadKit.Exa Z h' x ST ∧ RoadKit.Fld Z h' x ST "coder" "B" (.int 0) ∧
  ∃ (t : Addr) (kb : ClassId), n0 ≤ t ∧ h.size ≤ t ∧ ¬ t = x ∧ RoadKit.Fld Z h' x ST "value" "[B" (.ref t) ∧ RoadKit.Arv Z h' t kb .byte N (bs.map Value.int) (.int 0)
/-- **new String(chars) AT A CALL, FOR THE WRITER**: a char[] of n known ints, each 0 to 255 -/
theorem backV {p : Program} {l : Launch} {e : Env} {R : Room} {s : State} {args : Array Value} {below : List Frame} {len W : Nat} {Z : State} {a0 : Array Value} {h : Heap} (hZ : Z.Warmed39 s.vm) (hw : ∀ d ∈ words, d.before a0 Z = true) {kI : Nat} (wi : (Jvm.Cond.instantiable ST kI).before a0 Z = true)
    {x b : Addr} {kC : ClassId} {cs bs : List Int32} {d v0 c0 : Value} {z N : Int32} {n n0 : Nat} (hx0 : n0 ≤ x) (hh0 : n0 ≤ h.size) (E : RoadKit.Exa Z h x ST) (V : RoadKit.Fld Z h x ST "value" "[B" v0) (C : RoadKit.Fld Z h x ST "coder" "B" c0) (K : RoadKit.Arv Z h b kC .char N (cs.map Value.int) d) (S : RoadKit.Sta Z h ST "COMPACT_STRINGS" "Z" (.int z)) (hz : ¬ z = 0)
    (hn : cs.length = n) (hN : N = Int32.ofNat n) (l0 : 0 < n) (l2 : n ≤ 4000) (hp : ∀ c ∈ cs, ¬ c < 0 ∧ ¬ (255 : Int32) < c) (hb : bs = cs.map (fun c => c.toInt8.toInt32)) (hfr : 4 ≤ R.frames) (hlo : W + 65 ≤ R.locals) :
    Back l R p e below s args (⟨"java/lang/String", "<init>", "([C)V"⟩ : MethodName) len W (fun P a => a = #[.ref x, .ref b] ∧ P.U.heap = h ∧ P.cells + 1 ≤ R.cells ∧ P.slots + n ≤ R.slots)
      (fun P _ v B => ∃ L, QV Z x N bs h n0 v B.U.heap L ∧ B.locs = P.locs ++ L ∧ B.cells = P.cells + 1 ∧ B.slots = P.slots + n) := by
  subst hn hN hb
  refine Back.mono (backArv hZ hw wi E V C K S hz (n32 (by omega)) l0 (by omega) (fun c hc => (hp c hc).2) hfr hlo) (fun P a hp => hp) (fun P a v B hp hq => ?_)
  obtain ⟨L, ⟨q1, q2, q3, q4, q5, q6, q7, ⟨kb, v1, v2⟩, q9⟩, hl, hc, hs⟩ := hq
  exact ⟨L, ⟨q1, fun y hy => by rw [q2 y hy]; exact hx0, q3, q5, q7, h.size, kb, hh0, Nat.le_refl _, Nat.ne_of_gt E.lt, q6, by rw [List.map_map]; exact v2⟩, hl, hc, hs⟩
end StrChars.Road
namespace StrChars
open Jvm Sem ClassFile Op Lib Jvm.Stand Jvm.Free.XT Jvm.Free.ALB Jvm.Free.JM Jvm.Free
open Jvm.Lib.Cold (StaticIs)
def hi8 (x : Int32) : Int32 := lo8 (x >>> ((8 : Int32) &&& 31))
/-- what StringUTF16.getChar makes of two bytes -/
def pairCh (u v : Int32) : Int32 := (((u &&& 255) <<< ((0 : Int32) &&& 31)) ||| ((v &&& 255) <<< ((8 : Int32) &&& 31))).toUInt32.toUInt16.toUInt32.toInt32
theorem lo8_and (x : Int32) : (lo8 x &&& 255).toBitVec.toNat = x.toBitVec.toNat % 256 := by
  have h : (lo8 x).toBitVec = (x.toBitVec.signExtend 8).signExtend 32 := by rw [lo8, Int8.toBitVec_toInt32, Int32.toBitVec_toInt8]
  rw [Int32.toBitVec_and, BitVec.toNat_and, h]
  have e : ((x.toBitVec.signExtend 8).signExtend 32).toNat % 256 = x.toBitVec.toNat % 256 := by
    rw [BitVec.toNat_signExtend]
    have hlt := x.toBitVec.isLt
    simp only [BitVec.toNat_setWidth, BitVec.toNat_signExtend]
    split <;> split <;> omega
  rw [← e]
  exact Nat.and_two_pow_sub_one_eq_mod _ 8
theorem pair_says {c : Int32} (h0 : ¬ c < 0) (h1 : ¬ 65535 < c) : pairCh (lo8 c) (hi8 c) = c := by
  rw [Int32.lt_iff_toInt_lt] at h0 h1
  have e0 : (0 : Int32).toInt = 0 := rfl
  have e1 : (65535 : Int32).toInt = 65535 := rfl
  have hc : c.toInt = c.toBitVec.toNat := by
    have := c.toBitVec.isLt
    have e : c.toInt = c.toBitVec.toInt := rfl
    rw [e] at h0 h1
    rw [e]
    rw [BitVec.toInt_eq_toNat_cond] at h0 h1 ⊢
    split at h0 <;> split <;> omega
  have hn : c.toBitVec.toNat < 65536 := by omega
  have a1 := lo8_and c
  have a2 : (hi8 c &&& 255).toBitVec.toNat = c.toBitVec.toNat / 256 := by
    rw [hi8, lo8_and]
    have e : ((8 : Int32) &&& 31) = 8 := by decide
    rw [e, Int32.toBitVec_shiftRight]
    have e2 : ((8 : Int32).toBitVec.smod 32) = 8#32 := by decide
    rw [e2, BitVec.sshiftRight_eq', BitVec.toNat_sshiftRight_of_msb_false (by rw [BitVec.msb_eq_false_iff_two_mul_lt]; omega)]
    show c.toBitVec.toNat >>> 8 % 256 = _
    rw [Nat.shiftRight_eq_div_pow]
    omega
  unfold pairCh
  apply Int32.toBitVec_inj.mp
  apply BitVec.eq_of_toNat_eq
  have f0 : ((0 : Int32) &&& 31) = 0 := by decide
  have f8 : ((8 : Int32) &&& 31) = 8 := by decide
  rw [f0, f8]
  have g : (((lo8 c &&& 255) <<< (0 : Int32)) ||| ((hi8 c &&& 255) <<< (8 : Int32))).toBitVec.toNat = c.toBitVec.toNat := by
    rw [Int32.toBitVec_or, Int32.toBitVec_shiftLeft, Int32.toBitVec_shiftLeft]
    have s0 : ((0 : Int32).toBitVec.smod 32) = 0#32 := by decide
    have s8 : ((8 : Int32).toBitVec.smod 32) = 8#32 := by decide
    rw [s0, s8, BitVec.toNat_or]
    simp only [BitVec.shiftLeft_eq', BitVec.toNat_shiftLeft, a1, a2]
    show (c.toBitVec.toNat % 256) <<< 0 % 2 ^ 32 ||| (c.toBitVec.toNat / 256) <<< 8 % 2 ^ 32 = _
    rw [Nat.shiftLeft_zero, Nat.mod_eq_of_lt (show c.toBitVec.toNat % 256 < 2 ^ 32 by omega), Nat.mod_eq_of_lt (show (c.toBitVec.toNat / 256) <<< 8 < 2 ^ 32 by rw [Nat.shiftLeft_eq]; omega), Nat.or_comm, ← Nat.shiftLeft_add_eq_or_of_lt (by omega), Nat.shiftLeft_eq]
    omega
  show BitVec.toNat (((((lo8 c &&& 255) <<< (0 : Int32)) ||| ((hi8 c &&& 255) <<< (8 : Int32))).toBitVec.setWidth 16).setWidth 32) = _
  rw [BitVec.toNat_setWidth, BitVec.toNat_setWidth, g]
  omega
end StrChars
namespace StrChars
open Jvm Sem ClassFile Op Lib Jvm.Stand Jvm.Free.XT Jvm.Free.ALB Jvm.Free.JM Jvm.Free
open Jvm.Lib.Cold (StaticIs)
/-- the array's cell V codes the n chars f 0 .. f (n - 1) by the coder cd, as the JDK does: coder 1 just where some char is above 255 -/
def Cod (cd : Int32) (n : Nat) (f : Nat → Int32) (V : Cell) : Prop := (cd = 0 ∧ V.slots.size = n ∧ ∀ j, j < n → V.slots[j]? = some (.int (lo8 (f j))) ∧ ¬ 255 < f j) ∨ (cd = 1 ∧ V.slots.size = 2 * n ∧ (∀ j, j < n → V.slots[2 * j]? = some (.int (lo8 (f j))) ∧ V.slots[2 * j + 1]? = some (.int (hi8 (f j)))) ∧ ∃ j, j < n ∧ 255 < f j)
/-- **x is a String of the n chars f 0 .. f (n - 1)**, Latin-1 or UTF-16; its array at t has the cell V -/
def Txt (x t : Addr) (V : Cell) (cd : Int32) (n : Nat) (f : Nat → Int32) (U : State) : Prop := Exact "java/lang/String" x U ∧ Has x "java/lang/String" "value" "[B" (.ref t) U ∧ Has x "java/lang/String" "coder" "B" (.int cd) U ∧ XT.Arr .byte t V U ∧ Cod cd n f V ∧ ∀ j, j < n → ¬ f j < 0 ∧ ¬ 65535 < f j
theorem Txt.mv {x t : Addr} {V : Cell} {cd : Int32} {n : Nat} {f : Nat → Int32} {U U' : State} (h : Txt x t V cd n f U) (hal : U.vm.Alike U'.vm) (hh : U'.heap = U.heap) : Txt x t V cd n f U' := ⟨h.1.mv hal hh, h.2.1.mv hal hh, h.2.2.1.mv hal hh, h.2.2.2.1.mv hal hh, h.2.2.2.2⟩
end StrChars
namespace StrChars.Road
open Jvm Sem ClassFile Op Lib Jvm.Stand Jvm.Free Jvm.Free.XT
open Jvm.Lib.Cold (StaticIs)
theorem consq {a : Array Value} {s : State} {c : Jvm.Cond} {L : List Jvm.Cond} (h0 : c.before a s = true) (h : ∀ w ∈ L, w.before a s = true) : ∀ w ∈ c :: L, w.before a s = true := fun w hw => (List.mem_cons.mp hw).elim (fun e => e ▸ h0) (h w)
/-- the bytes of the chars cs, low before high -/
def wideBytes : List Int32 → List Value
  | [] => []
  | c :: cs => .int (lo8 c) :: .int (hi8 c) :: wideBytes cs
theorem wide_lo (d : Value) : ∀ (cs : List Int32) (j : Nat), j < cs.length → (wideBytes cs).getD (2 * j) d = .int (lo8 (cs.getD j 0))
  | [], j, h => absurd h (Nat.not_lt_zero j)
  | c :: cs, 0, _ => rfl
  | c :: cs, j + 1, h => by
    have q := wide_lo d cs j (by simpa using h)
    rw [show 2 * (j + 1) = 2 * j + 1 + 1 from by omega]
    simpa [wideBytes] using q
theorem wide_hi (d : Value) : ∀ (cs : List Int32) (j : Nat), j < cs.length → (wideBytes cs).getD (2 * j + 1) d = .int (hi8 (cs.getD j 0))
  | [], j, h => absurd h (Nat.not_lt_zero j)
  | c :: cs, 0, _ => rfl
  | c :: cs, j + 1, h => by
    have q := wide_hi d cs j (by simpa using h)
    rw [show 2 * (j + 1) + 1 = 2 * j + 1 + 1 + 1 from by omega]
    simpa [wideBytes] using q
theorem low_at (d : Value) (cs : List Int32) (j : Nat) (h : j < cs.length) : (cs.map fun c => Value.int (lo8 c)).getD j d = .int (lo8 (cs.getD j 0)) := by
  simp [List.getD_eq_getElem?_getD, h]
/-- an array of N2 bytes vs codes the chars cs by the coder cd -/
def CodA (cs : List Int32) (cd N2 : Int32) (vs : List Value) : Prop := (cd = 0 ∧ N2 = Int32.ofNat cs.length ∧ vs = (cs.map fun c => Value.int (lo8 c)) ∧ ∀ c ∈ cs, ¬ 255 < c) ∨ (cd = 1 ∧ N2 = Int32.ofNat (2 * cs.length) ∧ vs = wideBytes cs ∧ ∃ c ∈ cs, 255 < c)
theorem CodA.cod {cs : List Int32} {cd N2 : Int32} {vs : List Value} {V : Cell} (h : CodA cs cd N2 vs) (hn : 2 * cs.length < 2 ^ 31) (hs : V.slots.size = N2.toNatClampNeg) (hv : RoadKit.Has V vs (.int 0)) : Cod cd cs.length (fun j => cs.getD j 0) V := by
  rcases h with ⟨rfl, rfl, rfl, h⟩ | ⟨rfl, rfl, rfl, c, hc, hw⟩
  · rw [n32 (by omega)] at hs
    exact Or.inl ⟨rfl, hs, fun j hj => ⟨by rw [hv j (by omega), low_at _ _ _ hj], by
      have e : cs.getD j 0 = cs[j] := by simp [List.getD_eq_getElem?_getD, hj]
      show ¬ 255 < cs.getD j 0
      rw [e]; exact h _ (List.getElem_mem _)⟩⟩
  · rw [n32 (by omega)] at hs
    obtain ⟨j, hj, rfl⟩ := List.getElem_of_mem hc
    exact Or.inr ⟨rfl, hs, fun j hj => ⟨by rw [hv _ (by omega), wide_lo _ _ _ hj], by rw [hv _ (by omega), wide_hi _ _ _ hj]⟩, j, hj, by
      have e : cs.getD j 0 = cs[j] := by simp [List.getD_eq_getElem?_getD, hj]
      show 255 < cs.getD j 0
      rw [e]; exact hw⟩
/-- an object of exactly java/lang/String, its two fields found: as the laws ask it -/
theorem strObj {Z U : State} {a0 : Array Value} {kI : Nat} (wi : (Jvm.Cond.instantiable ST kI).before a0 Z = true) (al : Z.vm.Alike U.vm) {x : Addr} {v0 c0 : Value} (E : RoadKit.Exa Z U.heap x ST) (V : RoadKit.Fld Z U.heap x ST "value" "[B" v0) (C : RoadKit.Fld Z U.heap x ST "coder" "B" c0) :
    ∃ (D : Cell) (fV fC : Field), Blank ST x D U ∧ Found ST "value" "[B" fV U ∧ Found ST "coder" "B" fC U ∧ D.slots[fV.slot]? = some v0 ∧ D.slots[fC.slot]? = some c0 ∧ RoadKit.slotOf Z ST "value" "[B" = fV.slot ∧ RoadKit.slotOf Z ST "coder" "B" = fC.slot := by
  obtain ⟨D, cfV, kV, iV, fV, hD, gV, stV, knV, obV, asV, slV⟩ := V
  obtain ⟨D', cfC, kC, iC, fC, hD', gC, stC, -, -, asC, slC⟩ := C
  cases hD.symm.trans hD'
  obtain ⟨D2, kD, e1, e2, e3, e4, e5⟩ := E
  cases hD.symm.trans e1
  obtain ⟨c2, k2, i1, i2, i3, -⟩ := Cond.instantiable_spec wi
  cases e2.symm.trans i1
  cases e3.symm.trans i2
  obtain ⟨kU, u1, u2⟩ := al.2.2 _ _ e3
  exact ⟨D, fV, fC, ⟨hD, ⟨knV, fun q hq => by rw [hq] at obV; cases obV⟩, by rw [al.findClass]; exact e2, kU, u1, by rw [u2]; exact i3, by rw [u2]; exact e5 i3⟩, ⟨SBG.found_only al ⟨cfV, kV, iV, gV⟩, stV⟩, ⟨SBG.found_only al ⟨cfC, kC, iC, gC⟩, stC⟩, slV, slC, by simp [RoadKit.slotOf, gV], by simp [RoadKit.slotOf, gC]⟩
theorem sta_is {Z U : State} (al : Z.vm.Alike U.vm) {C n d : String} {v : Value} (S : RoadKit.Sta Z U.heap C n d v) : StaticIs U C n d v := by
  obtain ⟨cfS, iS, kS, fS, st, cS, t1, t2, t3, t4, t5, t6, t7⟩ := S
  exact StaticIs.there (s := { Z with heap := U.heap }) ⟨cfS, iS, kS, fS, st, cS, t1, t2, t3, t4, t5, (fun q => by rw [q] at t6; cases t6), t7⟩ al rfl
end StrChars.Road
namespace StrChars
open Jvm Sem ClassFile Op Lib Jvm.Stand Jvm.Free.XT Jvm.Free.ALB Jvm.Free.JM Jvm.Free
open Jvm.Lib.Cold (StaticIs)
/-- what place i of a byte[]'s cell holds -/
def yv (A : Cell) (i : Nat) : Int32 := match A.slots[i]? with | some (.int x) => x | _ => 0
theorem yv_get {a : Addr} {A : Cell} {U : State} (h : XT.Arr .byte a A U) (ht : Typed .byte A) {i : Nat} (hi : i < A.slots.size) : A.slots[i]? = some (.int (yv A i)) := by
  have e := Array.getElem?_eq_getElem hi
  have f := ht i _ e
  unfold yv; rw [e]
  generalize A.slots[i] = v at f
  cases v <;> simp [fits] at f ⊢
/-- the two arrays are equal, place for place -/
def EqC (A B : Cell) : Prop := A.slots.size = B.slots.size ∧ ∀ i, i < A.slots.size → yv A i = yv B i
/-- a boolean that says whether p -/
def Says01 (q : Prop) (r : Option Value) (s u : State) : Prop := ∃ v : Int32, r = some (.int v) ∧ u.heap = s.heap ∧ ((v = 1 ∧ q) ∨ (v = 0 ∧ ¬ q))
theorem Says01.mv {q : Prop} : ∀ r (U U' V V' : State), U'.heap = U.heap → V.vm.Alike V'.vm → V'.heap = V.heap → Says01 q r U V → Says01 q r U' V' :=
  fun r U U' V V' h1 _ h2 ⟨v, a, b, c⟩ => ⟨v, a, by rw [h1, h2]; exact b, c⟩
namespace LEq
def yN : MethodName := ⟨"java/lang/StringLatin1", "equals", "([B[B)Z"⟩
abbrev yB : ByteArray := jdk_43_method_13_code
theorem d0 : decode yB 0 = .ok (.aload_n 0, 1) := by decide +kernel
theorem d1 : decode yB 1 = .ok (.arraylength, 1) := by decide +kernel
theorem d2 : decode yB 2 = .ok (.aload_n 1, 1) := by decide +kernel
theorem d3 : decode yB 3 = .ok (.arraylength, 1) := by decide +kernel
theorem d4 : decode yB 4 = .ok (.if_icmp (.ne) 30, 3) := by decide +kernel
theorem d7 : decode yB 7 = .ok (.iconst 0, 1) := by decide +kernel
theorem d8 : decode yB 8 = .ok (.istore_n 2, 1) := by decide +kernel
theorem d9 : decode yB 9 = .ok (.iload_n 2, 1) := by decide +kernel
theorem d10 : decode yB 10 = .ok (.aload_n 0, 1) := by decide +kernel
theorem d11 : decode yB 11 = .ok (.arraylength, 1) := by decide +kernel
theorem d12 : decode yB 12 = .ok (.if_icmp (.ge) 20, 3) := by decide +kernel
theorem d15 : decode yB 15 = .ok (.aload_n 0, 1) := by decide +kernel
theorem d16 : decode yB 16 = .ok (.iload_n 2, 1) := by decide +kernel
theorem d17 : decode yB 17 = .ok (.baload, 1) := by decide +kernel
theorem d18 : decode yB 18 = .ok (.aload_n 1, 1) := by decide +kernel
theorem d19 : decode yB 19 = .ok (.iload_n 2, 1) := by decide +kernel
theorem d20 : decode yB 20 = .ok (.baload, 1) := by decide +kernel
theorem d21 : decode yB 21 = .ok (.if_icmp (.eq) 5, 3) := by decide +kernel
theorem d24 : decode yB 24 = .ok (.iconst 0, 1) := by decide +kernel
theorem d25 : decode yB 25 = .ok (.ireturn, 1) := by decide +kernel
theorem d26 : decode yB 26 = .ok (.iinc 2 1, 3) := by decide +kernel
theorem d29 : decode yB 29 = .ok (.goto (-20), 3) := by decide +kernel
theorem d32 : decode yB 32 = .ok (.iconst 1, 1) := by decide +kernel
theorem d33 : decode yB 33 = .ok (.ireturn, 1) := by decide +kernel
theorem d34 : decode yB 34 = .ok (.iconst 0, 1) := by decide +kernel
theorem d35 : decode yB 35 = .ok (.ireturn, 1) := by decide +kernel
def site : List Cond := []
def tab : Cond := tabOf yN yB 3 (some .boolean) site
def P (a : Addr) (A : Cell) (b : Addr) (B : Cell) (args : Array Value) (s : State) : Prop := args = #[.ref a, .ref b] ∧ XT.Arr .byte a A s ∧ Typed .byte A ∧ XT.Arr .byte b B s ∧ Typed .byte B
/-- whether two byte[] are equal, place for place -/
theorem law (l : Launch) (a : Addr) (A : Cell) (b : Addr) (B : Cell) : Law l yN 2 2 0 0 yB 3 (some .boolean) site (P a A b B) (Says01 (EqC A B)) [] 0 0 := by
  refine Law.of_walk (plainFor_of_name (by decide +kernel)) (by decide +kernel) (by decide +kernel) (by decide) (fun _ _ h => by rw [h.1]; rfl) (fun _ U U' hal hh h => ⟨h.1, h.2.1.mv hal hh, h.2.2.1, h.2.2.2.1.mv hal hh, h.2.2.2.2⟩) (fun r U U' V V' h1 hal h2 h => Says01.mv r U U' V V' h1 hal h2 h) ?_
  intro p e s m args below meth c s₁ X0 hexec hbytes hml hret hlk hnm hown hh0 W hP
  obtain ⟨rfl, hA, tA, hB, tB⟩ := hP
  have a31 := hA.2.2.2
  have b31 := hB.2.2.2
  have hA0 := hA.mv X0.warmed.alike hh0
  have hB0 := hB.mv X0.warmed.alike hh0
  have c1 : Steps p.tables e below (s₁.setTop (entryFrame m #[.ref a, .ref b] 3)) (s₁.setTop (mkF m 0 #[.val (.ref a), .val (.ref b), .unset] [])) := entry rfl
  have c2 : Steps p.tables e below (s₁.setTop (entryFrame m #[.ref a, .ref b] 3)) (s₁.setTop (mkF m 4 #[.val (.ref a), .val (.ref b), .unset] [.int (Int32.ofNat B.slots.size), .int (Int32.ofNat A.slots.size)])) := c1.trans (by
    refine XS.aloadN X0.here hexec rfl (hb hbytes d0) rfl rfl ?_
    refine X0.alen hexec hA0 rfl rfl (hb hbytes d1) ?_
    refine XS.aloadN X0.here hexec rfl (hb hbytes d2) rfl rfl ?_
    refine X0.alen hexec hB0 rfl rfl (hb hbytes d3) ?_
    exact Steps.refl _)
  by_cases hs : A.slots.size = B.slots.size
  · have c3 : Steps p.tables e below (s₁.setTop (entryFrame m #[.ref a, .ref b] 3)) (s₁.setTop (mkF m 9 #[.val (.ref a), .val (.ref b), .val (.int 0)] [])) := c2.trans (by
      refine XS.icmpNo X0.here hexec rfl (hb hbytes d4) rfl (ii_ne_f (by rw [hs])) ?_
      refine iconstV X0.here hexec rfl 0 (hb hbytes d7) (by decide) ?_
      refine XS.istoreN X0.here hexec rfl (hb hbytes d8) rfl rfl ?_
      exact Steps.refl _)
    have loop : ∀ (r i : Nat), i + r = A.slots.size → (∀ j, j < i → yv A j = yv B j) → Steps p.tables e below (s₁.setTop (entryFrame m #[.ref a, .ref b] 3)) (s₁.setTop (mkF m 9 #[.val (.ref a), .val (.ref b), .val (.int (Int32.ofNat i))] [])) → ∃ (pc : Nat) (Ls : Array Slot) (v : Int32), (pc = 25 ∨ pc = 33) ∧ ((v = 1 ∧ EqC A B) ∨ (v = 0 ∧ ¬ EqC A B)) ∧ Steps p.tables e below (s₁.setTop (entryFrame m #[.ref a, .ref b] 3)) (s₁.setTop (mkF m pc Ls [.int v])) := by
      intro r
      induction r with
      | zero =>
        intro i hi he cl
        exact ⟨33, _, 1, Or.inr rfl, Or.inl ⟨rfl, hs, fun j hj => he j (by omega)⟩, cl.trans (by
          refine XS.iloadN X0.here hexec rfl (hb hbytes d9) rfl ?_
          refine XS.aloadN X0.here hexec rfl (hb hbytes d10) rfl rfl ?_
          refine X0.alen hexec hA0 rfl rfl (hb hbytes d11) ?_
          refine XS.icmpYes X0.here hexec rfl (pc0 := 12) rfl (hb hbytes d12) rfl (ii_ge_t (nlt32 (by omega) (by omega))) (by decide) rfl ?_
          refine iconstV X0.here hexec rfl 1 (hb hbytes d32) (by decide) ?_
          exact Steps.refl _)⟩
      | succ r ih =>
        intro i hi he cl
        have c4 : Steps p.tables e below (s₁.setTop (entryFrame m #[.ref a, .ref b] 3)) (s₁.setTop (mkF m 21 #[.val (.ref a), .val (.ref b), .val (.int (Int32.ofNat i))] [.int (yv B i), .int (yv A i)])) := cl.trans (by
          refine XS.iloadN X0.here hexec rfl (hb hbytes d9) rfl ?_
          refine XS.aloadN X0.here hexec rfl (hb hbytes d10) rfl rfl ?_
          refine X0.alen hexec hA0 rfl rfl (hb hbytes d11) ?_
          refine XS.icmpNo X0.here hexec rfl (hb hbytes d12) rfl (ii_ge_f (lt32 (by omega) (by omega))) ?_
          refine XS.aloadN X0.here hexec rfl (hb hbytes d15) rfl rfl ?_
          refine XS.iloadN X0.here hexec rfl (hb hbytes d16) rfl ?_
          refine X0.aget hexec hA0 rfl (yv_get hA tA (i := i) (by omega)) rfl rfl (hb hbytes d17) ?_
          refine XS.aloadN X0.here hexec rfl (hb hbytes d18) rfl rfl ?_
          refine XS.iloadN X0.here hexec rfl (hb hbytes d19) rfl ?_
          refine X0.aget hexec hB0 rfl (yv_get hB tB (i := i) (by omega)) rfl rfl (hb hbytes d20) ?_
          exact Steps.refl _)
        by_cases hv : yv A i = yv B i
        · have c5 : Steps p.tables e below (s₁.setTop (entryFrame m #[.ref a, .ref b] 3)) (s₁.setTop (mkF m 9 #[.val (.ref a), .val (.ref b), .val (.int (Int32.ofNat i + 1))] [])) := c4.trans (by
            refine XS.icmpYes X0.here hexec rfl (pc0 := 21) rfl (hb hbytes d21) rfl (ii_eq_t hv) (by decide) rfl ?_
            refine iincV X0.here hexec rfl 1 (hb hbytes d26) (by decide) rfl rfl ?_
            refine XS.goto X0.here hexec rfl (pc0 := 29) rfl (hb hbytes d29) (by decide) rfl ?_
            exact Steps.refl _)
          rw [succ32] at c5
          exact ih (i + 1) (by omega) (fun j hj => by
            by_cases e : j = i
            · rw [e]; exact hv
            · exact he j (by omega)) c5
        · exact ⟨25, _, 0, Or.inl rfl, Or.inr ⟨rfl, fun q => hv (q.2 i (by omega))⟩, c4.trans (by
            refine XS.icmpNo X0.here hexec rfl (hb hbytes d21) rfl (ii_eq_f hv) ?_
            refine iconstV X0.here hexec rfl 0 (hb hbytes d24) (by decide) ?_
            exact Steps.refl _)⟩
    obtain ⟨pc, Ls, v, hpc, hv, cz⟩ := loop A.slots.size 0 (by omega) (fun j hj => absurd hj (Nat.not_lt_zero j)) c3
    have nv : narrow .boolean (.int v) = .int v := by rcases hv with ⟨rfl, -⟩ | ⟨rfl, -⟩ <;> rfl
    rcases hpc with rfl | rfl
    · exact ⟨s₁, some (.int v), _, _, _, X0, rfl, rfl, rfl, (fun h => by cases h), ⟨v, rfl, hh0, hv⟩, fun fs hl => cz.trans (X0.ireturnOut hexec hret nv (Or.inr (Or.inl rfl)) (hb hbytes d25) hl)⟩
    · exact ⟨s₁, some (.int v), _, _, _, X0, rfl, rfl, rfl, (fun h => by cases h), ⟨v, rfl, hh0, hv⟩, fun fs hl => cz.trans (X0.ireturnOut hexec hret nv (Or.inr (Or.inl rfl)) (hb hbytes d33) hl)⟩
  · have c3 : Steps p.tables e below (s₁.setTop (entryFrame m #[.ref a, .ref b] 3)) (s₁.setTop (mkF m 35 #[.val (.ref a), .val (.ref b), .unset] [.int 0])) := c2.trans (by
      refine XS.icmpYes X0.here hexec rfl (pc0 := 4) rfl (hb hbytes d4) rfl (ii_ne_t (ne32 a31 b31 hs)) (by decide) rfl ?_
      refine iconstV X0.here hexec rfl 0 (hb hbytes d34) (by decide) ?_
      exact Steps.refl _)
    exact ⟨s₁, some (.int 0), _, _, _, X0, rfl, rfl, rfl, (fun h => by cases h), ⟨0, rfl, hh0, Or.inr ⟨rfl, fun q => hs q.1⟩⟩, fun fs hl => c3.trans (X0.ireturnOut hexec hret rfl (Or.inr (Or.inl rfl)) (hb hbytes d35) hl)⟩
end LEq
theorem Cod.ty {cd : Int32} {n : Nat} {f : Nat → Int32} {V : Cell} (h : Cod cd n f V) : Typed .byte V := fun i v hv => by
  have hi : i < V.slots.size := (Array.getElem?_eq_some_iff.mp hv).1
  rcases h with ⟨-, k1, k2⟩ | ⟨-, k1, k2, -⟩
  · rw [(k2 i (by omega)).1] at hv; cases hv; exact fits_lo8 _
  · rcases Nat.mod_two_eq_zero_or_one i with e | e
    · obtain ⟨j, rfl⟩ : ∃ j, i = 2 * j := ⟨i / 2, by omega⟩
      rw [(k2 j (by omega)).1] at hv; cases hv; exact fits_lo8 _
    · obtain ⟨j, rfl⟩ : ∃ j, i = 2 * j + 1 := ⟨i / 2, by omega⟩
      rw [(k2 j (by omega)).2] at hv; cases hv; exact fits_lo8 _
/-- the same text -/
def SameT (n : Nat) (f : Nat → Int32) (k : Nat) (g : Nat → Int32) : Prop := n = k ∧ ∀ j, j < n → f j = g j
theorem lo8_inj {x y : Int32} (h0 : ¬ x < 0) (h1 : ¬ 255 < x) (k0 : ¬ y < 0) (k1 : ¬ 255 < y) (h : lo8 x = lo8 y) : x = y := by
  rw [← lo8_mask h0 h1, ← lo8_mask k0 k1, h]
/-- arrays coded by one coder are equal just where the texts are -/
theorem Cod.eqv {cd : Int32} {n k : Nat} {f g : Nat → Int32} {V V' : Cell} (h : Cod cd n f V) (h' : Cod cd k g V') (hf : ∀ j, j < n → ¬ f j < 0 ∧ ¬ 65535 < f j) (hg : ∀ j, j < k → ¬ g j < 0 ∧ ¬ 65535 < g j) : EqC V V' ↔ SameT n f k g := by
  have yvv : ∀ {W : Cell} {i : Nat} {x : Int32}, W.slots[i]? = some (.int x) → yv W i = x := fun q => by unfold yv; rw [q]
  rcases h with ⟨rfl, k1, k2⟩ | ⟨rfl, k1, k2, -⟩
  · rcases h' with ⟨-, m1, m2⟩ | ⟨e, -⟩
    · constructor
      · rintro ⟨e1, e2⟩
        refine ⟨by omega, fun j hj => ?_⟩
        have q := e2 j (by omega)
        rw [yvv (k2 j hj).1, yvv (m2 j (by omega)).1] at q
        exact lo8_inj (hf j hj).1 (k2 j hj).2 (hg j (by omega)).1 (m2 j (by omega)).2 q
      · rintro ⟨rfl, e2⟩
        refine ⟨by omega, fun j hj => ?_⟩
        rw [yvv (k2 j (by omega)).1, yvv (m2 j (by omega)).1, e2 j (by omega)]
    · exact absurd e (by decide)
  · rcases h' with ⟨e, -⟩ | ⟨-, m1, m2, -⟩
    · exact absurd e (by decide)
    · constructor
      · rintro ⟨e1, e2⟩
        refine ⟨by omega, fun j hj => ?_⟩
        have q1 := e2 (2 * j) (by omega)
        have q2 := e2 (2 * j + 1) (by omega)
        rw [yvv (k2 j hj).1, yvv (m2 j (by omega)).1] at q1
        rw [yvv (k2 j hj).2, yvv (m2 j (by omega)).2] at q2
        rw [← pair_says (hf j hj).1 (hf j hj).2, ← pair_says (hg j (by omega)).1 (hg j (by omega)).2, q1, q2]
      · rintro ⟨rfl, e2⟩
        refine ⟨by omega, fun i hi => ?_⟩
        rcases Nat.mod_two_eq_zero_or_one i with e | e
        · obtain ⟨j, rfl⟩ : ∃ j, i = 2 * j := ⟨i / 2, by omega⟩
          rw [yvv (k2 j (by omega)).1, yvv (m2 j (by omega)).1, e2 j (by omega)]
        · obtain ⟨j, rfl⟩ : ∃ j, i = 2 * j + 1 := ⟨i / 2, by omega⟩
          rw [yvv (k2 j (by omega)).2, yvv (m2 j (by omega)).2, e2 j (by omega)]
/-- two codings differ: so do the texts -/
theorem Cod.dif {cd cd' : Int32} {n k : Nat} {f g : Nat → Int32} {V V' : Cell} (h : Cod cd n f V) (h' : Cod cd' k g V') (hne : ¬ cd = cd') : ¬ SameT n f k g := by
  rintro ⟨rfl, e⟩
  rcases h with ⟨rfl, -, k2⟩ | ⟨rfl, -, -, j, hj, hw⟩
  · rcases h' with ⟨rfl, -⟩ | ⟨-, -, -, j, hj, hw⟩
    · exact hne rfl
    · exact (k2 j hj).2 (by rw [e j hj]; exact hw)
  · rcases h' with ⟨-, -, m2⟩ | ⟨rfl, -⟩
    · exact (m2 j hj).2 (by rw [← e j hj]; exact hw)
    · exact hne rfl
/-- an object of exactly C is an instance of C -/
theorem cinst {p : Program} {l : Launch} {e : Env} {R : Room} {s : State} {m : MethodId} {args : Array Value} {below : List Frame} {meth : Method} {c : Code} {T : State} {locs : List Loc} {cells slots : Nat} (X : Stand p l e R s m args below meth c T locs cells slots) (hexec : p.tables.exec = Jvm.exec) {own C : String} {index : Nat} (hown : s.vm.findClass own = some m.cls) (hlink : (Cond.classLink own index C).before args s = true) {a : Addr} (hE : Exact C a T)
    {g : JFrame} (hg : g.method = m) {rest : List Value} (hstack : g.stack = .ref a :: rest) (hdg : decode c.code g.pc = .ok (.instanceof index, 3)) :
    ∃ T', Stand p l e R s m args below meth c T' locs cells slots ∧ T'.heap = T.heap ∧ ∀ target, Steps p.tables e below (T'.setTop { g with pc := g.pc + 3, stack := .int 1 :: rest }) target → Steps p.tables e below (T.setTop g) target := by
  obtain ⟨cB, h1, D, h2, h3, h4⟩ := hE
  have h1' : s.vm.findClass C = some cB := by rw [← X.warmed.alike.findClass]; exact h1
  obtain ⟨vm', X', st⟩ := X.instanceofYes hexec hown hlink h2 h4 h1' (by rw [h3]; exact Jvm.Free.SB.assignable_self _ _) hg hstack hdg
  exact ⟨_, X', rfl, st⟩
theorem cself {p : Program} {l : Launch} {e : Env} {R : Room} {s : State} {m : MethodId} {args : Array Value} {below : List Frame} {meth : Method} {c : Code} {T : State} {locs : List Loc} {cells slots : Nat} (X : Stand p l e R s m args below meth c T locs cells slots) (hexec : p.tables.exec = Jvm.exec) {own C : String} {index : Nat} (hown : s.vm.findClass own = some m.cls) (hlink : (Cond.classLink own index C).before args s = true) {a : Addr} (hE : Exact C a T)
    {g : JFrame} (hg : g.method = m) {rest : List Value} (hstack : g.stack = .ref a :: rest) (hdg : decode c.code g.pc = .ok (.checkcast index, 3)) :
    ∃ T', Stand p l e R s m args below meth c T' locs cells slots ∧ T'.heap = T.heap ∧ ∀ target, Steps p.tables e below (T'.setTop { g with pc := g.pc + 3, stack := .ref a :: rest }) target → Steps p.tables e below (T.setTop g) target := by
  obtain ⟨cB, h1, D, h2, h3, h4⟩ := hE
  have h1' : s.vm.findClass C = some cB := by rw [← X.warmed.alike.findClass]; exact h1
  obtain ⟨vm', X', st⟩ := X.checkcastYes hexec hown hlink h2 h4 h1' (by rw [h3]; exact Jvm.Free.SB.assignable_self _ _) hg hstack hdg
  exact ⟨_, X', rfl, fun t h => st t (by rw [← hstack] at h; exact h)⟩
namespace SEq
def yN : MethodName := ⟨"java/lang/String", "equals", "(Ljava/lang/Object;)Z"⟩
abbrev yB : ByteArray := jdk_42_method_66_code
theorem d0 : decode yB 0 = .ok (.aload_n 0, 1) := by decide +kernel
theorem d1 : decode yB 1 = .ok (.aload_n 1, 1) := by decide +kernel
theorem d2 : decode yB 2 = .ok (.if_acmp (.ne) 5, 3) := by decide +kernel
theorem d5 : decode yB 5 = .ok (.iconst 1, 1) := by decide +kernel
theorem d6 : decode yB 6 = .ok (.ireturn, 1) := by decide +kernel
theorem d7 : decode yB 7 = .ok (.aload_n 1, 1) := by decide +kernel
theorem d8 : decode yB 8 = .ok (.instanceof 10, 3) := by decide +kernel
theorem d11 : decode yB 11 = .ok (.ifCond (.eq) 43, 3) := by decide +kernel
theorem d14 : decode yB 14 = .ok (.aload_n 1, 1) := by decide +kernel
theorem d15 : decode yB 15 = .ok (.checkcast 10, 3) := by decide +kernel
theorem d18 : decode yB 18 = .ok (.astore_n 2, 1) := by decide +kernel
theorem d19 : decode yB 19 = .ok (.getstatic 38, 3) := by decide +kernel
theorem d22 : decode yB 22 = .ok (.ifCond (.eq) 14, 3) := by decide +kernel
theorem d25 : decode yB 25 = .ok (.aload_n 0, 1) := by decide +kernel
theorem d26 : decode yB 26 = .ok (.getfield 15, 3) := by decide +kernel
theorem d29 : decode yB 29 = .ok (.aload_n 2, 1) := by decide +kernel
theorem d30 : decode yB 30 = .ok (.getfield 15, 3) := by decide +kernel
theorem d33 : decode yB 33 = .ok (.if_icmp (.ne) 21, 3) := by decide +kernel
theorem d36 : decode yB 36 = .ok (.aload_n 0, 1) := by decide +kernel
theorem d37 : decode yB 37 = .ok (.getfield 9, 3) := by decide +kernel
theorem d40 : decode yB 40 = .ok (.aload_n 2, 1) := by decide +kernel
theorem d41 : decode yB 41 = .ok (.getfield 9, 3) := by decide +kernel
theorem d44 : decode yB 44 = .ok (.invokestatic 541, 3) := by decide +kernel
theorem d47 : decode yB 47 = .ok (.ifCond (.eq) 7, 3) := by decide +kernel
theorem d50 : decode yB 50 = .ok (.iconst 1, 1) := by decide +kernel
theorem d51 : decode yB 51 = .ok (.goto 4, 3) := by decide +kernel
theorem d54 : decode yB 54 = .ok (.iconst 0, 1) := by decide +kernel
theorem d55 : decode yB 55 = .ok (.ireturn, 1) := by decide +kernel
def site : List Cond := [.classLink "java/lang/String" 10 "java/lang/String", .fieldLink "java/lang/String" 38 "java/lang/String" "COMPACT_STRINGS" "Z", .fieldLink "java/lang/String" 15 "java/lang/String" "coder" "B", .fieldLink "java/lang/String" 9 "java/lang/String" "value" "[B", LEq.tab] ++ staticW "java/lang/String" 541 LEq.yN
def tab : Cond := tabOf yN yB 3 (some .boolean) site
def P (x t : Addr) (V : Cell) (cd : Int32) (n : Nat) (f : Nat → Int32) (y t' : Addr) (V' : Cell) (cd' : Int32) (k : Nat) (g : Nat → Int32) (z : Int32) (args : Array Value) (s : State) : Prop := args = #[.ref x, .ref y] ∧ Txt x t V cd n f s ∧ Txt y t' V' cd' k g s ∧ StaticIs s "java/lang/String" "COMPACT_STRINGS" "Z" (.int z) ∧ ¬ z = 0
/-- equals(Object) of two Strings: whether the texts are the same -/
theorem law (l : Launch) (x t : Addr) (V : Cell) (cd : Int32) (n : Nat) (f : Nat → Int32) (y t' : Addr) (V' : Cell) (cd' : Int32) (k : Nat) (g : Nat → Int32) (z : Int32) : Law l yN 2 1 1 14 yB 3 (some .boolean) site (P x t V cd n f y t' V' cd' k g z) (Says01 (SameT n f k g)) [] 0 0 := by
  refine Law.of_walk (plainFor_of_name (by decide +kernel)) (by decide +kernel) (by decide +kernel) (by decide) (fun _ _ h => by rw [h.1]; rfl) (fun _ U U' hal hh h => ⟨h.1, h.2.1.mv hal hh, h.2.2.1.mv hal hh, h.2.2.2.1.there hal hh, h.2.2.2.2⟩) (fun r U U' V V' h1 hal h2 h => Says01.mv r U U' V V' h1 hal h2 h) ?_
  intro p e s m args below meth c s₁ X0 hexec hbytes hml hret hlk hnm hown hh0 W hP
  obtain ⟨rfl, hx, hy, s1, hz⟩ := hP
  have c1 : Steps p.tables e below (s₁.setTop (entryFrame m #[.ref x, .ref y] 3)) (s₁.setTop (mkF m 2 #[.val (.ref x), .val (.ref y), .unset] [.ref y, .ref x])) := Steps.trans (entry rfl) (by
    show Steps p.tables e below (s₁.setTop (mkF m 0 #[.val (.ref x), .val (.ref y), .unset] [])) _
    refine XS.aloadN X0.here hexec rfl (hb hbytes d0) rfl rfl ?_
    refine XS.aloadN X0.here hexec rfl (hb hbytes d1) rfl rfl ?_
    exact Steps.refl _)
  by_cases hxy : x = y
  · have c2 : Steps p.tables e below (s₁.setTop (entryFrame m #[.ref x, .ref y] 3)) (s₁.setTop (mkF m 6 #[.val (.ref x), .val (.ref y), .unset] [.int 1])) := c1.trans (by
      refine acmpNo X0.here hexec rfl (hb hbytes d2) rfl rfl rfl (by simp [acmp, hxy]) ?_
      refine iconstV X0.here hexec rfl 1 (hb hbytes d5) (by decide) ?_
      exact Steps.refl _)
    subst hxy
    have ec : cd = cd' := by
      obtain ⟨D, fd, a1, a2, a3⟩ := hx.2.2.1
      obtain ⟨D', fd', b1, b2, b3⟩ := hy.2.2.1
      cases a1.symm.trans b1
      obtain ⟨q1, q2, q3, q4⟩ := a2.1
      obtain ⟨r1, r2, r3, r4⟩ := b2.1
      cases q4.symm.trans r4
      cases a3.symm.trans b3; rfl
    have et : t = t' := by
      obtain ⟨D, fd, a1, a2, a3⟩ := hx.2.1
      obtain ⟨D', fd', b1, b2, b3⟩ := hy.2.1
      cases a1.symm.trans b1
      obtain ⟨q1, q2, q3, q4⟩ := a2.1
      obtain ⟨r1, r2, r3, r4⟩ := b2.1
      cases q4.symm.trans r4
      cases a3.symm.trans b3; rfl
    subst ec et
    have ev : V = V' := by cases hx.2.2.2.1.1.symm.trans hy.2.2.2.1.1; rfl
    subst ev
    have hs : SameT n f k g := (Cod.eqv hx.2.2.2.2.1 hy.2.2.2.2.1 hx.2.2.2.2.2 hy.2.2.2.2.2).mp ⟨rfl, fun _ _ => rfl⟩
    exact ⟨s₁, some (.int 1), _, _, _, X0, rfl, rfl, rfl, (fun h => by cases h), ⟨1, rfl, hh0, Or.inl ⟨rfl, hs⟩⟩, fun fs hl => c2.trans (X0.ireturnOut hexec hret rfl (Or.inr (Or.inl rfl)) (hb hbytes d6) hl)⟩
  · have c2 : Steps p.tables e below (s₁.setTop (entryFrame m #[.ref x, .ref y] 3)) (s₁.setTop (mkF m 8 #[.val (.ref x), .val (.ref y), .unset] [.ref y])) := c1.trans (by
      refine acmpYes X0.here hexec rfl (pc0 := 2) rfl (hb hbytes d2) rfl rfl rfl (by simp [acmp, hxy]) (by decide) rfl ?_
      refine XS.aloadN X0.here hexec rfl (hb hbytes d7) rfl rfl ?_
      exact Steps.refl _)
    obtain ⟨T3, X3, q3, st3⟩ := cinst X0 hexec hown (wk W (.classLink "java/lang/String" 10 "java/lang/String")) (hy.mv X0.warmed.alike hh0).1 (g := (mkF m 8 #[.val (.ref x), .val (.ref y), .unset] [.ref y])) rfl (rest := []) rfl (hb hbytes d8)
    have hh3 := q3.trans hh0
    have c4 : Steps p.tables e below (s₁.setTop (entryFrame m #[.ref x, .ref y] 3)) (T3.setTop (mkF m 15 #[.val (.ref x), .val (.ref y), .unset] [.ref y])) := (c2.trans (st3 _ (Steps.refl _))).trans (by
      refine XS.ifNo X3.here hexec rfl (hb hbytes d11) rfl (i0_eq_f (by decide)) ?_
      refine XS.aloadN X3.here hexec rfl (hb hbytes d14) rfl rfl ?_
      exact Steps.refl _)
    obtain ⟨T5, X5, q5, st5⟩ := cself X3 hexec hown (wk W (.classLink "java/lang/String" 10 "java/lang/String")) (hy.mv X3.warmed.alike hh3).1 (g := (mkF m 15 #[.val (.ref x), .val (.ref y), .unset] [.ref y])) rfl (rest := []) rfl (hb hbytes d15)
    have hh5 := q5.trans hh3
    have c6 : Steps p.tables e below (s₁.setTop (entryFrame m #[.ref x, .ref y] 3)) (T5.setTop (mkF m 19 #[.val (.ref x), .val (.ref y), .val (.ref y)] [])) := (c4.trans (st5 _ (Steps.refl _))).trans (by
      refine XS.astoreN X5.here hexec rfl (hb hbytes d18) rfl rfl rfl ?_
      exact Steps.refl _)
    obtain ⟨T7, X7, q7, st7⟩ := X5.sget hexec hown (wk W (.fieldLink "java/lang/String" 38 "java/lang/String" "COMPACT_STRINGS" "Z")) s1 (fun _ _ h => by rw [hh5]; exact h) (g := (mkF m 19 #[.val (.ref x), .val (.ref y), .val (.ref y)] [])) rfl (hb hbytes d19)
    have hh7 := q7.trans hh5
    have c8 : Steps p.tables e below (s₁.setTop (entryFrame m #[.ref x, .ref y] 3)) (T7.setTop (mkF m 26 #[.val (.ref x), .val (.ref y), .val (.ref y)] [.ref x])) := (c6.trans (st7 _ (Steps.refl _))).trans (by
      refine XS.ifNo X7.here hexec rfl (hb hbytes d22) rfl (i0_eq_f hz) ?_
      refine XS.aloadN X7.here hexec rfl (hb hbytes d25) rfl rfl ?_
      exact Steps.refl _)
    obtain ⟨T9, X9, q9, st9⟩ := X7.hget hexec hown (wk W (.fieldLink "java/lang/String" 15 "java/lang/String" "coder" "B")) (hx.mv X7.warmed.alike hh7).2.2.1 (g := (mkF m 26 #[.val (.ref x), .val (.ref y), .val (.ref y)] [.ref x])) rfl (rest := []) rfl (hb hbytes d26)
    have hh9 := q9.trans hh7
    have c10 : Steps p.tables e below (s₁.setTop (entryFrame m #[.ref x, .ref y] 3)) (T9.setTop (mkF m 30 #[.val (.ref x), .val (.ref y), .val (.ref y)] [.ref y, .int cd])) := (c8.trans (st9 _ (Steps.refl _))).trans (by
      refine XS.aloadN X9.here hexec rfl (hb hbytes d29) rfl rfl ?_
      exact Steps.refl _)
    obtain ⟨T11, X11, q11, st11⟩ := X9.hget hexec hown (wk W (.fieldLink "java/lang/String" 15 "java/lang/String" "coder" "B")) (hy.mv X9.warmed.alike hh9).2.2.1 (g := (mkF m 30 #[.val (.ref x), .val (.ref y), .val (.ref y)] [.ref y, .int cd])) rfl (rest := [.int cd]) rfl (hb hbytes d30)
    have hh11 := q11.trans hh9
    have c12 : Steps p.tables e below (s₁.setTop (entryFrame m #[.ref x, .ref y] 3)) (T11.setTop (mkF m 33 #[.val (.ref x), .val (.ref y), .val (.ref y)] [.int cd', .int cd])) := c10.trans (st11 _ (Steps.refl _))
    by_cases hcd : cd = cd'
    · subst hcd
      have c13 : Steps p.tables e below (s₁.setTop (entryFrame m #[.ref x, .ref y] 3)) (T11.setTop (mkF m 37 #[.val (.ref x), .val (.ref y), .val (.ref y)] [.ref x])) := c12.trans (by
        refine XS.icmpNo X11.here hexec rfl (hb hbytes d33) rfl (ii_ne_f rfl) ?_
        refine XS.aloadN X11.here hexec rfl (hb hbytes d36) rfl rfl ?_
        exact Steps.refl _)
      obtain ⟨T14, X14, q14, st14⟩ := X11.hget hexec hown (wk W (.fieldLink "java/lang/String" 9 "java/lang/String" "value" "[B")) (hx.mv X11.warmed.alike hh11).2.1 (g := (mkF m 37 #[.val (.ref x), .val (.ref y), .val (.ref y)] [.ref x])) rfl (rest := []) rfl (hb hbytes d37)
      have hh14 := q14.trans hh11
      have c15 : Steps p.tables e below (s₁.setTop (entryFrame m #[.ref x, .ref y] 3)) (T14.setTop (mkF m 41 #[.val (.ref x), .val (.ref y), .val (.ref y)] [.ref y, .ref t])) := (c13.trans (st14 _ (Steps.refl _))).trans (by
        refine XS.aloadN X14.here hexec rfl (hb hbytes d40) rfl rfl ?_
        exact Steps.refl _)
      obtain ⟨T16, X16, q16, st16⟩ := X14.hget hexec hown (wk W (.fieldLink "java/lang/String" 9 "java/lang/String" "value" "[B")) (hy.mv X14.warmed.alike hh14).2.1 (g := (mkF m 41 #[.val (.ref x), .val (.ref y), .val (.ref y)] [.ref y, .ref t])) rfl (rest := [.ref t]) rfl (hb hbytes d41)
      have hh16 := q16.trans hh14
      have c17 : Steps p.tables e below (s₁.setTop (entryFrame m #[.ref x, .ref y] 3)) (T16.setTop (mkF m 44 #[.val (.ref x), .val (.ref y), .val (.ref y)] [.ref t', .ref t])) := c15.trans (st16 _ (Steps.refl _))
      obtain ⟨v18, T18, X18, E18, g18⟩ := X16.callS hexec (LEq.law l t V t' V') hown (wks W (staticW "java/lang/String" 541 LEq.yN)) (wk W LEq.tab) (W := 0) (Nat.le_of_ble_eq_true rfl) (Nat.le_of_ble_eq_true rfl) (Nat.le_refl _) (Nat.le_refl _) (g := (mkF m 44 #[.val (.ref x), .val (.ref y), .val (.ref y)] [.ref t', .ref t])) rfl (by rw [hml]; rfl) c17 (argsL := [.ref t, .ref t']) (rest := []) rfl rfl (by show 2 * 0 + 0 ≤ _; decide) (hb hbytes d44) (⟨rfl, hx.2.2.2.1.mv X16.warmed.alike hh16, hx.2.2.2.2.1.ty, hy.2.2.2.1.mv X16.warmed.alike hh16, hy.2.2.2.2.1.ty⟩)
      obtain ⟨v, rfl, q18, hv⟩ := E18
      have iff := Cod.eqv hx.2.2.2.2.1 hy.2.2.2.2.1 hx.2.2.2.2.2 hy.2.2.2.2.2
      rcases hv with ⟨rfl, he⟩ | ⟨rfl, he⟩
      · have c19 : Steps p.tables e below (s₁.setTop (entryFrame m #[.ref x, .ref y] 3)) (T18.setTop (mkF m 55 #[.val (.ref x), .val (.ref y), .val (.ref y)] [.int 1])) := Steps.trans g18 (by
          refine XS.ifNo X18.here hexec rfl (hb hbytes d47) rfl (i0_eq_f (by decide)) ?_
          refine iconstV X18.here hexec rfl 1 (hb hbytes d50) (by decide) ?_
          refine XS.goto X18.here hexec rfl (pc0 := 51) rfl (hb hbytes d51) (by decide) rfl ?_
          exact Steps.refl _)
        exact ⟨T18, some (.int 1), _, _, _, X18, rfl, rfl, rfl, (fun h => by cases h), ⟨1, rfl, q18.trans hh16, Or.inl ⟨rfl, iff.mp he⟩⟩, fun fs hl => c19.trans (X18.ireturnOut hexec hret rfl (Or.inr (Or.inl rfl)) (hb hbytes d55) hl)⟩
      · have c19 : Steps p.tables e below (s₁.setTop (entryFrame m #[.ref x, .ref y] 3)) (T18.setTop (mkF m 55 #[.val (.ref x), .val (.ref y), .val (.ref y)] [.int 0])) := Steps.trans g18 (by
          refine XS.ifYes X18.here hexec rfl (pc0 := 47) rfl (hb hbytes d47) rfl (i0_eq_t rfl) (by decide) rfl ?_
          refine iconstV X18.here hexec rfl 0 (hb hbytes d54) (by decide) ?_
          exact Steps.refl _)
        exact ⟨T18, some (.int 0), _, _, _, X18, rfl, rfl, rfl, (fun h => by cases h), ⟨0, rfl, q18.trans hh16, Or.inr ⟨rfl, fun q => he (iff.mpr q)⟩⟩, fun fs hl => c19.trans (X18.ireturnOut hexec hret rfl (Or.inr (Or.inl rfl)) (hb hbytes d55) hl)⟩
    · have c13 : Steps p.tables e below (s₁.setTop (entryFrame m #[.ref x, .ref y] 3)) (T11.setTop (mkF m 55 #[.val (.ref x), .val (.ref y), .val (.ref y)] [.int 0])) := c12.trans (by
        refine XS.icmpYes X11.here hexec rfl (pc0 := 33) rfl (hb hbytes d33) rfl (ii_ne_t hcd) (by decide) rfl ?_
        refine iconstV X11.here hexec rfl 0 (hb hbytes d54) (by decide) ?_
        exact Steps.refl _)
      exact ⟨T11, some (.int 0), _, _, _, X11, rfl, rfl, rfl, (fun h => by cases h), ⟨0, rfl, hh11, Or.inr ⟨rfl, Cod.dif hx.2.2.2.2.1 hy.2.2.2.2.1 hcd⟩⟩, fun fs hl => c13.trans (X11.ireturnOut hexec hret rfl (Or.inr (Or.inl rfl)) (hb hbytes d55) hl)⟩
theorem pays {l : Launch} {R : Room} {p : Program} {e : Env} {below : List Frame} {s : State} {sargs : Array Value} {len W : Nat} (x t : Addr) (V : Cell) (cd : Int32) (n : Nat) (f : Nat → Int32) (y t' : Addr) (V' : Cell) (cd' : Int32) (k : Nat) (g : Nat → Int32) (z : Int32) (htab : tab.before sargs s = true) (hfr : 2 ≤ R.frames) (hlo : W + 28 ≤ R.locals) :
    Back l R p e below s sargs yN len W (fun A₁ a₁ => A₁.cells + 0 ≤ R.cells ∧ A₁.slots + 0 ≤ R.slots ∧ P x t V cd n f y t' V' cd' k g z a₁ A₁.U) (fun A₁ _ v₁ B₁ => Says01 (SameT n f k g) v₁ A₁.U B₁.U ∧ B₁.locs = A₁.locs ++ [] ∧ B₁.cells = A₁.cells + 0 ∧ B₁.slots = A₁.slots + 0) :=
  (law l x t V cd n f y t' V' cd' k g z).pays htab hfr (by omega)
end SEq
end StrChars
namespace StrChars.Road
open Jvm Sem ClassFile Op Lib Jvm.Stand Jvm.Free Jvm.Free.XT
open Jvm.Lib.Cold (StaticIs)
/-- the words of String.equals(Object) -/
abbrev wordsEq : List Jvm.Cond := [.code SEq.yN SEq.yB 3 (some .boolean), .initialized ST, .classLink ST 10 ST, .fieldLink ST 38 ST "COMPACT_STRINGS" "Z", .fieldLink ST 15 ST "coder" "B", .fieldLink ST 9 ST "value" "[B", .methodLink ST 541 LEq.yN, .static LEq.yN, .code LEq.yN LEq.yB 3 (some .boolean), .initialized "java/lang/StringLatin1"]
theorem tabEq_of {a : Array Value} {s : State} (h : ∀ w ∈ wordsEq, w.before a s = true) : SEq.tab.before a s = true := by
  have hl : LEq.tab.before a s = true := unparts (wk h (.code LEq.yN LEq.yB 3 (some .boolean))) (wks h (.initialized LEq.yN.cls :: LEq.site))
  have q := consq hl h
  exact unparts (wk q (.code SEq.yN SEq.yB 3 (some .boolean))) (wks q (.initialized SEq.yN.cls :: SEq.site))
theorem movedEq {Z s : State} {a0 args : Array Value} (hZ : Z.Warmed39 s.vm) (hw : ∀ d ∈ wordsEq, d.before a0 Z = true) : ∀ d ∈ wordsEq, d.before args s = true := fun d hd => by
  have t : ∀ d ∈ wordsEq, (d.onTables && d.keepsFace) = true := by decide +kernel
  exact RoadKit.mv hZ (hw d hd) (t d hd)
/-- the road's facts of a String, as the laws ask it -/
theorem txt_of {Z U : State} {a0 : Array Value} {kI : Nat} (wi : (Jvm.Cond.instantiable ST kI).before a0 Z = true) (al : Z.vm.Alike U.vm) {x t : Addr} {kb : ClassId} {cs : List Int32} {cd N2 : Int32} {vs : List Value} (E : RoadKit.Exa Z U.heap x ST) (V : RoadKit.Fld Z U.heap x ST "value" "[B" (.ref t)) (C : RoadKit.Fld Z U.heap x ST "coder" "B" (.int cd)) (K : RoadKit.Arv Z U.heap t kb .byte N2 vs (.int 0)) (hc : CodA cs cd N2 vs) (hb : ∀ c ∈ cs, ¬ c < 0 ∧ ¬ (65535 : Int32) < c) (l2 : cs.length ≤ 4000) :
    ∃ A, Txt x t A cd cs.length (fun j => cs.getD j 0) U := by
  obtain ⟨A, K1, K2, K3, K4, K5, K6⟩ := K
  have hcod := hc.cod (by omega) K3 K5
  obtain ⟨D, fV, fC, hB, F1, F2, g1, g2, -, -⟩ := strObj wi al E V C
  exact ⟨A, ⟨_, hB.2.2.1, D, hB.1, rfl, by cases q : D.vm <;> first | rfl | exact absurd q (hB.2.1.2 _)⟩, Has.of hB F1 g1, Has.of hB F2 g2, ⟨K1.1, State.isArrayOf_alike al K1.2.1, K1.2.2, by rcases hcod with ⟨-, q, -⟩ | ⟨-, q, -⟩ <;> omega⟩, hcod, fun j hj => by
    have e : cs.getD j 0 = cs[j] := by simp [List.getD_eq_getElem?_getD, hj]
    show ¬ cs.getD j 0 < 0 ∧ ¬ 65535 < cs.getD j 0
    rw [e]; exact hb _ (List.getElem_mem _)⟩
theorem same_list (cs ds : List Int32) : SameT cs.length (fun j => cs.getD j 0) ds.length (fun j => ds.getD j 0) ↔ cs = ds := by
  constructor
  · rintro ⟨e, q⟩
    refine List.ext_getElem e fun j h1 h2 => ?_
    have := q j h1
    simpa [List.getD_eq_getElem?_getD, h1, h2] using this
  · rintro rfl
    exact ⟨rfl, fun _ _ => rfl⟩
/-- **equals(Object) OF TWO SUCH STRINGS**: 1 just where the chars are the same -/
theorem eqW {p : Program} {l : Launch} {e : Env} {R : Room} {s : State} {args : Array Value} {below : List Frame} {len W : Nat} {Z : State} {a0 : Array Value} {h : Heap} (hZ : Z.Warmed39 s.vm) (hw : ∀ d ∈ wordsEq, d.before a0 Z = true) {kI : Nat} (wi : (Jvm.Cond.instantiable ST kI).before a0 Z = true)
    {x t : Addr} {kb : ClassId} {cs : List Int32} {cd N2 : Int32} {vs : List Value} (E : RoadKit.Exa Z h x ST) (V : RoadKit.Fld Z h x ST "value" "[B" (.ref t)) (C : RoadKit.Fld Z h x ST "coder" "B" (.int cd)) (K : RoadKit.Arv Z h t kb .byte N2 vs (.int 0)) (hc : CodA cs cd N2 vs) (hb : ∀ c ∈ cs, ¬ c < 0 ∧ ¬ (65535 : Int32) < c) (l2 : cs.length ≤ 4000)
    {y t' : Addr} {kb' : ClassId} {ds : List Int32} {cd' N2' : Int32} {vs' : List Value} (E' : RoadKit.Exa Z h y ST) (V' : RoadKit.Fld Z h y ST "value" "[B" (.ref t')) (C' : RoadKit.Fld Z h y ST "coder" "B" (.int cd')) (K' : RoadKit.Arv Z h t' kb' .byte N2' vs' (.int 0)) (hc' : CodA ds cd' N2' vs') (hb' : ∀ c ∈ ds, ¬ c < 0 ∧ ¬ (65535 : Int32) < c) (l2' : ds.length ≤ 4000)
    {z : Int32} (S : RoadKit.Sta Z h ST "COMPACT_STRINGS" "Z" (.int z)) (hz : ¬ z = 0) (hfr : 2 ≤ R.frames) (hlo : W + 28 ≤ R.locals) :
    Back l R p e below s args (⟨"java/lang/String", "equals", "(Ljava/lang/Object;)Z"⟩ : MethodName) len W (fun P a => a = #[.ref x, .ref y] ∧ P.U.heap = h ∧ P.cells + 0 ≤ R.cells ∧ P.slots + 0 ≤ R.slots)
      (fun P _ v B => ∃ L, (((v = some (.int 1) ∧ cs = ds) ∨ (v = some (.int 0) ∧ ¬ cs = ds)) ∧ L = [] ∧ B.U.heap = h) ∧ B.locs = P.locs ++ L ∧ B.cells = P.cells + 0 ∧ B.slots = P.slots + 0) := by
  intro m meth c P g ig mk a X hg hsize hdg hW hn hp'
  obtain ⟨rfl, rfl, r1, r2⟩ := hp'
  have al : Z.vm.Alike P.U.vm := hZ.alike.trans X.warmed.alike
  obtain ⟨A, hx⟩ := txt_of wi al E V C K hc hb l2
  obtain ⟨A', hy⟩ := txt_of wi al E' V' C' K' hc' hb' l2'
  obtain ⟨v, B, X', ⟨⟨w, hv, hh, hq⟩, hl, hk, hs⟩, st⟩ := SEq.pays x t A cd cs.length (fun j => cs.getD j 0) y t' A' cd' ds.length (fun j => ds.getD j 0) z (tabEq_of (movedEq hZ hw)) hfr hlo m meth c P g ig mk _ X hg hsize hdg hW hn ⟨r1, r2, rfl, hx, hy, sta_is al S, hz⟩
  refine ⟨v, B, X', ⟨[], ⟨?_, rfl, hh⟩, hl, hk, hs⟩, st⟩
  rcases hq with ⟨rfl, q⟩ | ⟨rfl, q⟩
  · exact Or.inl ⟨hv, (same_list cs ds).mp q⟩
  · exact Or.inr ⟨hv, fun e => q ((same_list cs ds).mpr e)⟩
end StrChars.Road
namespace StrChars.Road
open Jvm Sem ClassFile Op Lib Jvm.Stand Jvm.Free Jvm.Free.XT
open Jvm.Lib.Cold (StaticIs)
/-- what backV says of its String, as the contracts of this text ask it: cs's low bytes, coder 0 -/
theorem codOf {cs : List Int32} {n : Nat} (hn : cs.length = n) (hb : ∀ c ∈ cs, ¬ 255 < c) : CodA cs 0 (Int32.ofNat n) ((cs.map lo8).map Value.int) := Or.inl ⟨rfl, by rw [hn], by simp [List.map_map, Function.comp_def], hb⟩
end StrChars.Road
end Jvm.Pilot.@@N@@
namespace Jvm.Pilot.@@N@@
open Jvm Jvm.ClassFile Sem Op Lib Jvm.Free Jvm.Stand Jvm.LawKit Jvm.RoadKit Bundle Jvm.Pilot.@@N@@.Jvm.D
/-- from Y the run comes to an end of which Q tells -/
def own_G (FE : State → Outcome → State → List Loc → Nat → Nat → Prop) (p : Program) (e : Env) (below : List Frame) (s : State) (C S : Nat) (Q : Option Value → Heap → List Loc → Prop) (Y : State) : Prop :=
  ∃ s₂ o, Steps p.tables e below Y s₂ ∧ s₂.status = .running ∧ Ended s₂ below o ∧ ∃ v L, o = .returned v ∧ Q v s₂.heap L ∧ FE s o s₂ L C S
theorem own_go {FE : State → Outcome → State → List Loc → Nat → Nat → Prop} {p : Program} {e : Env} {below : List Frame} {s : State} {C S : Nat} {Q : Option Value → Heap → List Loc → Prop} {Y Y' : State} (k : own_G FE p e below s C S Q Y') (h : ∀ target, Steps p.tables e below Y' target → Steps p.tables e below Y target) : own_G FE p e below s C S Q Y :=
  let ⟨s₂, o, h1, r⟩ := k; ⟨s₂, o, h _ h1, r⟩
abbrev own_FE (Z : State) (s : State) (o : Outcome) (t : State) (L : List Loc) (C S : Nat) : Prop := CHr Z consts_1 s.vm s.heap t.vm t.heap ∧ ReturnedEndW s o t L C S
theorem own_safeV {Z : State} {EL : List (String × Nat)} {vm : Vm} {h : Heap} {a : Addr} {k : ClassId} {ty : FieldType} {z : Int32} {vs : List Value} {d : Value} (hal : Z.vm.Alike vm) (F : Arv Z h a k ty z vs d) (ht : ty ≠ .byte) : Safe Z EL vm h a := by
  obtain ⟨cl, A, -⟩ := F; exact Safe.arr hal A ht
theorem own_EW (Z : State) (a0 : Array Value) (hw : ∀ d ∈ tables_1, d.before a0 Z = true) : EW Z a0 consts_1 := (EW.cons (hw _ (List.mem_of_getElem? (i := 31) rfl)) (by decide) (EW.cons (hw _ (List.mem_of_getElem? (i := 43) rfl)) (by decide) (EW.cons (hw _ (List.mem_of_getElem? (i := 19) rfl)) (by decide) EW.nil)))
theorem own_char (x : Int32) : ¬ nar .char ((x &&& (255 : Int32)).toUInt32.toUInt16.toUInt32.toInt32) < 0 ∧ ¬ (255 : Int32) < nar .char ((x &&& (255 : Int32)).toUInt32.toUInt16.toUInt32.toInt32) := by
  have t : ∀ k : Fin 256, ¬ nar .char ((Int32.ofNat k.val).toUInt32.toUInt16.toUInt32.toInt32) < 0 ∧ ¬ (255 : Int32) < nar .char ((Int32.ofNat k.val).toUInt32.toUInt16.toUInt32.toInt32) := by decide +kernel
  have h : (x &&& 255).toBitVec.toNat < 256 := by
    simp only [Int32.toBitVec_and, BitVec.toNat_and]
    exact Nat.lt_succ_of_le Nat.and_le_right
  have e : (x &&& 255) = Int32.ofNat (x &&& 255).toBitVec.toNat := by
    apply Int32.toBitVec_inj.mp
    show _ = BitVec.ofNat 32 _
    rw [BitVec.ofNat_toNat]; simp
  rw [e]
  exact t ⟨_, h⟩
theorem own_and7 (x : Int32) : x &&& 7 = 0 ∨ x &&& 7 = 1 ∨ x &&& 7 = 2 ∨ x &&& 7 = 3 ∨ x &&& 7 = 4 ∨ x &&& 7 = 5 ∨ x &&& 7 = 6 ∨ x &&& 7 = 7 := by
  have h := c_mask x 7 3 (by decide) (by decide)
  simp only [← Int32.toInt_inj]
  have e0 : (0 : Int32).toInt = 0 := rfl
  have e1 : (1 : Int32).toInt = 1 := rfl
  have e2 : (2 : Int32).toInt = 2 := rfl
  have e3 : (3 : Int32).toInt = 3 := rfl
  have e4 : (4 : Int32).toInt = 4 := rfl
  have e5 : (5 : Int32).toInt = 5 := rfl
  have e6 : (6 : Int32).toInt = 6 := rfl
  have e7 : (7 : Int32).toInt = 7 := rfl
  rw [e0, e1, e2, e3, e4, e5, e6, e7]
  omega
theorem own_mod5 (x : Int32) : (x &&& 2147483647) % 5 = 0 ∨ (x &&& 2147483647) % 5 = 1 ∨ (x &&& 2147483647) % 5 = 2 ∨ (x &&& 2147483647) % 5 = 3 ∨ (x &&& 2147483647) % 5 = 4 := by
  have h := c_mask x 2147483647 31 (by decide) (by decide)
  have k := c_irem (x &&& 2147483647) 5 5 rfl
  simp only [← Int32.toInt_inj]
  have e0 : (0 : Int32).toInt = 0 := rfl
  have e1 : (1 : Int32).toInt = 1 := rfl
  have e2 : (2 : Int32).toInt = 2 := rfl
  have e3 : (3 : Int32).toInt = 3 := rfl
  have e4 : (4 : Int32).toInt = 4 := rfl
  rw [e0, e1, e2, e3, e4]
  omega
theorem own_nar {c : Int32} (h : ¬ c < 0 ∧ ¬ (255 : Int32) < c) : nar .char c = c := by
  have k := c_i2c c
  have e0 : (0 : Int32).toInt = 0 := rfl
  have e1 : (255 : Int32).toInt = 255 := rfl
  rw [Int32.lt_iff_toInt_lt, Int32.lt_iff_toInt_lt, e0, e1] at h
  apply Int32.toInt_inj.mp
  show (c.toUInt32.toUInt16.toUInt32.toInt32).toInt = c.toInt
  omega
theorem own_fitc {c : Int32} (h : ¬ c < 0 ∧ ¬ (255 : Int32) < c) : fits .char (.int c) = true := by
  have k := fits_nar_char c
  rwa [own_nar h] at k
theorem own_up (cs : List Int32) (h : ∀ c ∈ cs, ¬ c < 0 ∧ ¬ (255 : Int32) < c) : ∀ c ∈ cs, ¬ c < 0 ∧ ¬ (65535 : Int32) < c := fun c hc => ⟨(h c hc).1, fun q => (h c hc).2 (by
  rw [Int32.lt_iff_toInt_lt] at q ⊢
  have e1 : (65535 : Int32).toInt = 65535 := rfl
  have e2 : (255 : Int32).toInt = 255 := rfl
  omega)⟩
theorem own_safe_null {Z : State} {EL : List (String × Nat)} {vm : Vm} {h : Heap} {x : Addr} (hal : Z.vm.Alike vm) (E : Exa Z h x "java/lang/String") (F : Fld Z h x "java/lang/String" "value" "[B" .null) : Safe Z EL vm h x := fun B => by
  obtain ⟨cell, cf, k, i, f, f1, f2, f3, f4, f5, f6, f7⟩ := F
  obtain ⟨p, -, u, a, -, q, -, G, rfl | rfl⟩ := B
  · cases (show h[q.sa]? = some q.sC from G.ha).symm.trans f1
    obtain ⟨cS, ⟨⟨-, -, -, ⟨c1, k1, i1, g1, -⟩, -, -, -, v1, -⟩, -⟩, -⟩ := G
    obtain ⟨k3, e3, -⟩ := State.fieldFound?_setVm (s := Z) hal f2
    have e4 := (show (Wst Z vm h).fieldFound? _ _ _ = _ from e3).symm.trans g1
    simp only [Option.some.injEq, Prod.mk.injEq] at e4
    rw [← e4.2.2.2, f7] at v1
    cases v1
  · obtain ⟨ce, kk, e1, e2, e3, -, -⟩ := E
    cases (show h[q.sd]? = some q.SA from G.hd).symm.trans e1
    obtain ⟨cS, -, -, fB, -⟩ := G
    have fB' : vm.findClass "[B" = some q.SA.cls := fB
    rw [hal.findClass] at fB'
    exact ids_ne e2 fB' (by decide) rfl
theorem d1_0 : decode method_2_code 0 = .ok (.iload_n 0, 1) := by decide +kernel
theorem d1_1 : decode method_2_code 1 = .ok (.bipush 8, 2) := by decide +kernel
theorem d1_3 : decode method_2_code 3 = .ok (.iand, 1) := by decide +kernel
theorem d1_4 : decode method_2_code 4 = .ok (.ifCond .eq 12, 3) := by decide +kernel
theorem d1_7 : decode method_2_code 7 = .ok (.iload_n 0, 1) := by decide +kernel
theorem d1_8 : decode method_2_code 8 = .ok (.iconst 4, 1) := by decide +kernel
theorem d1_9 : decode method_2_code 9 = .ok (.iushr, 1) := by decide +kernel
theorem d1_10 : decode method_2_code 10 = .ok (.sipush 255, 3) := by decide +kernel
theorem d1_13 : decode method_2_code 13 = .ok (.iand, 1) := by decide +kernel
theorem d1_14 : decode method_2_code 14 = .ok (.i2c, 1) := by decide +kernel
theorem d1_15 : decode method_2_code 15 = .ok (.ireturn, 1) := by decide +kernel
theorem d1_16 : decode method_2_code 16 = .ok (.bipush 8, 2) := by decide +kernel
theorem d1_18 : decode method_2_code 18 = .ok (.newarray .char, 2) := by decide +kernel
theorem d1_20 : decode method_2_code 20 = .ok (.dup, 1) := by decide +kernel
theorem d1_21 : decode method_2_code 21 = .ok (.iconst 0, 1) := by decide +kernel
theorem d1_22 : decode method_2_code 22 = .ok (.bipush 82, 2) := by decide +kernel
theorem d1_24 : decode method_2_code 24 = .ok (.castore, 1) := by decide +kernel
theorem d1_25 : decode method_2_code 25 = .ok (.dup, 1) := by decide +kernel
theorem d1_26 : decode method_2_code 26 = .ok (.iconst 1, 1) := by decide +kernel
theorem d1_27 : decode method_2_code 27 = .ok (.bipush 77, 2) := by decide +kernel
theorem d1_29 : decode method_2_code 29 = .ok (.castore, 1) := by decide +kernel
theorem d1_30 : decode method_2_code 30 = .ok (.dup, 1) := by decide +kernel
theorem d1_31 : decode method_2_code 31 = .ok (.iconst 2, 1) := by decide +kernel
theorem d1_32 : decode method_2_code 32 = .ok (.bipush 67, 2) := by decide +kernel
theorem d1_34 : decode method_2_code 34 = .ok (.castore, 1) := by decide +kernel
theorem d1_35 : decode method_2_code 35 = .ok (.dup, 1) := by decide +kernel
theorem d1_36 : decode method_2_code 36 = .ok (.iconst 3, 1) := by decide +kernel
theorem d1_37 : decode method_2_code 37 = .ok (.bipush 90, 2) := by decide +kernel
theorem d1_39 : decode method_2_code 39 = .ok (.castore, 1) := by decide +kernel
theorem d1_40 : decode method_2_code 40 = .ok (.dup, 1) := by decide +kernel
theorem d1_41 : decode method_2_code 41 = .ok (.iconst 4, 1) := by decide +kernel
theorem d1_42 : decode method_2_code 42 = .ok (.bipush 68, 2) := by decide +kernel
theorem d1_44 : decode method_2_code 44 = .ok (.castore, 1) := by decide +kernel
theorem d1_45 : decode method_2_code 45 = .ok (.dup, 1) := by decide +kernel
theorem d1_46 : decode method_2_code 46 = .ok (.iconst 5, 1) := by decide +kernel
theorem d1_47 : decode method_2_code 47 = .ok (.bipush 65, 2) := by decide +kernel
theorem d1_49 : decode method_2_code 49 = .ok (.castore, 1) := by decide +kernel
theorem d1_50 : decode method_2_code 50 = .ok (.dup, 1) := by decide +kernel
theorem d1_51 : decode method_2_code 51 = .ok (.bipush 6, 2) := by decide +kernel
theorem d1_53 : decode method_2_code 53 = .ok (.bipush 114, 2) := by decide +kernel
theorem d1_55 : decode method_2_code 55 = .ok (.castore, 1) := by decide +kernel
theorem d1_56 : decode method_2_code 56 = .ok (.dup, 1) := by decide +kernel
theorem d1_57 : decode method_2_code 57 = .ok (.bipush 7, 2) := by decide +kernel
theorem d1_59 : decode method_2_code 59 = .ok (.bipush 122, 2) := by decide +kernel
theorem d1_61 : decode method_2_code 61 = .ok (.castore, 1) := by decide +kernel
theorem d1_62 : decode method_2_code 62 = .ok (.astore_n 1, 1) := by decide +kernel
theorem d1_63 : decode method_2_code 63 = .ok (.aload_n 1, 1) := by decide +kernel
theorem d1_64 : decode method_2_code 64 = .ok (.iload_n 0, 1) := by decide +kernel
theorem d1_65 : decode method_2_code 65 = .ok (.bipush 7, 2) := by decide +kernel
theorem d1_67 : decode method_2_code 67 = .ok (.iand, 1) := by decide +kernel
theorem d1_68 : decode method_2_code 68 = .ok (.caload, 1) := by decide +kernel
theorem d1_69 : decode method_2_code 69 = .ok (.ireturn, 1) := by decide +kernel
theorem pn_1 : plainName "com/example/prita/prita/gnss/GnssTimeCarriesTimePinLaw" = true := by first | (simp [plainName, overriddenIn]; done) | decide +kernel
theorem ef_1 (m : MethodId) (x0 : Int32) : entryFrame m #[(.int x0)] 2 = mkF m 0 #[iv x0, .unset] [] := by first | (simp [entryFrame, mkF, argsToLocals, Value.category]; done) | rfl
def Q_rm1 (Z : State) (p1 : Int32) (h0 : Heap) (n0 : Nat) : Option Value → Heap → List Loc → Prop := fun v h L => ∃ (c : Int32), v = some (.int c) ∧ Fr n0 L ∧ Keep h0 h [] ∧ ¬ c < 0 ∧ ¬ (255 : Int32) < c
set_option maxRecDepth 65536 in
set_option maxHeartbeats 40000000 in
theorem rm1 (l : Launch) (Z : State) (a0 : Array Value) (hw : ∀ d ∈ tables_1, d.before a0 Z = true) (ws : List Jvm.Cond) (p1 : Int32) (h0 : Heap) (n0 : Nat) (Z0 : n0 ≤ h0.size) :
    MetFree l (⟨"com/example/prita/prita/gnss/GnssTimeCarriesTimePinLaw", "pick", "(I)C"⟩ : MethodName) (head1 (Jvm.Cond.code (⟨"com/example/prita/prita/gnss/GnssTimeCarriesTimePinLaw", "pick", "(I)C"⟩ : MethodName) method_2_code 2 (some .char) :: ws) ({ frames := 0, cells := 1, slots := 8, locals := 0 } : Room)) (fun a U => a = #[(.int p1)] ∧ Z.Warmed39 U.vm ∧ U.heap = h0) (fun _ _ _ _ _ => True) (fun _ U o U' => ∃ v L, o = .returned v ∧ (Q_rm1 Z p1 h0 n0) v U'.heap L ∧ FrameEnd U o U' L ({ frames := 0, cells := 1, slots := 8, locals := 0 } : Room).cells ({ frames := 0, cells := 1, slots := 8, locals := 0 } : Room).slots) := by
  refine MetFree.of_bodySF (plainFor_of_name pn_1) hisR ?_
  intro p e s m args below meth c s₁ Bd hml0 hP hK
  obtain ⟨rfl, hZ, hh⟩ := hP
  have hx := Bd.exec
  have hby := Bd.bytes
  have hml : c.maxLocals = 2 := hml0
  have hown : s.vm.findClass "com/example/prita/prita/gnss/GnssTimeCarriesTimePinLaw" = some m.cls := findClass_of_methodNamed Bd.named
  have hnm := (name_of_methodNamed Bd.named Bd.method).1
  have X0 : Stand p l e ({ frames := 0, cells := 1, slots := 8, locals := 0 } : Room) s m #[(.int p1)] below meth c s₁ [] 0 0 := Stand.of_body Bd
  have e0 : s₁.heap = h0 := by rw [← hh, Bd.state]; rfl
  have N0 := Fr.nil n0
  show own_G FrameEnd p e below s ({ frames := 0, cells := 1, slots := 8, locals := 0 } : Room).cells ({ frames := 0, cells := 1, slots := 8, locals := 0 } : Room).slots (Q_rm1 Z p1 h0 n0) (s₁.setTop (entryFrame m #[(.int p1)] 2))
  refine own_go (Y' := s₁.setTop (mkF m 0 #[iv p1, .unset] [])) ?_ (fun t k => castTop (ef_1 m p1) k)
  refine own_go ?_ (fun target hr => XS.iloadN X0.here hx rfl (hb hby d1_0) rfl (XS.bipush X0.here hx rfl (hb hby d1_1) (XS.iand X0.here hx rfl (hb hby d1_3) rfl hr)))
  show own_G _ p e below s _ _ _ (s₁.setTop (mkF m 4 #[iv p1, .unset] [(.int (p1 &&& (8 : Int32)))]))
  by_cases hc4 : (p1 &&& (8 : Int32)) = (0 : Int32)
  ·
    refine own_go ?_ (fun target hr => XS.ifYes X0.here hx rfl (pc0 := 4) (pc' := 16) rfl (hb hby d1_4) rfl ((if0 _ _).trans (teq hc4).1) (by decide) (by decide) (XS.bipush X0.here hx rfl (hb hby d1_16) hr))
    show own_G _ p e below s _ _ _ (s₁.setTop (mkF m 18 #[iv p1, .unset] [(.int (8 : Int32))]))
    obtain ⟨T1, h1, k1, X1, e1, E1, A1, st1⟩ := newP X0 hx hZ (hw _ (List.mem_of_getElem? (i := 5) rfl)) e0 (g := (mkF m 18 #[iv p1, .unset] [(.int (8 : Int32))])) rfl (hb hby d1_18) rfl (by decide) (cap := 8) (by decide) (by decide) (by decide) (by decide)
    obtain ⟨b1, g1⟩ : ∃ z, z = h0.size := ⟨_, rfl⟩
    rw [← g1] at A1 st1
    have V1 : Arv Z h1 b1 k1 .char (8 : Int32) [(.int (0 : Int32)), (.int (0 : Int32)), (.int (0 : Int32)), (.int (0 : Int32)), (.int (0 : Int32)), (.int (0 : Int32)), (.int (0 : Int32)), (.int (0 : Int32))] (.int (0 : Int32)) := (Arv.new A1 (by decide)).pad (pad_rep [] (.int (0 : Int32)) 8)
    have g_b1 : n0 ≤ b1 := Nat.le_trans Z0 (Nat.le_of_eq g1.symm)
    have sz_b1 : h0.size ≤ b1 := Nat.le_trans (Keep.refl h0 []).1 (Nat.le_of_eq g1.symm)
    refine own_go ?_ (fun target hr => st1 _ (XS.dup X1.here hx rfl (hb hby d1_20) rfl rfl (XS.iconst X1.here hx rfl (hb hby d1_21) (XS.bipush X1.here hx rfl (hb hby d1_22) hr))))
    show own_G _ p e below s _ _ _ (T1.setTop (mkF m 24 #[iv p1, .unset] [(.int (82 : Int32)), (.int (0 : Int32)), (.ref b1), (.ref b1)]))
    obtain ⟨cl2, Ar2, qk2, S2, M2, H2, G2⟩ := id V1
    have hin2 : ¬ ((0 : Int32) < 0 ∨ cl2.slots.size ≤ ((0 : Int32)).toNatClampNeg) := inb_of S2 ⟨by decide, by decide⟩
    obtain ⟨T2, h2, X2, e2, W2, st2⟩ := stC X1 hx hZ e1 Ar2 (j := (0 : Int32)) hin2 (g := (mkF m 24 #[iv p1, .unset] [(.int (82 : Int32)), (.int (0 : Int32)), (.ref b1), (.ref b1)])) rfl rfl (hb hby d1_24)
    have V2 : Arv Z h2 b1 k1 .char (8 : Int32) [(.int (nar .char (82 : Int32))), (.int (0 : Int32)), (.int (0 : Int32)), (.int (0 : Int32)), (.int (0 : Int32)), (.int (0 : Int32)), (.int (0 : Int32)), (.int (0 : Int32))] (.int (0 : Int32)) := Arv.set Ar2 qk2 S2 M2 H2 G2 (fits_nar_char _) W2 0 rfl (Nat.le_of_ble_eq_true rfl)
    have N2 := Fr.snoc X2 N0 g_b1
    refine own_go ?_ (fun target hr => st2 _ (XS.dup X2.here hx rfl (hb hby d1_25) rfl rfl (XS.iconst X2.here hx rfl (hb hby d1_26) (XS.bipush X2.here hx rfl (hb hby d1_27) hr))))
    show own_G _ p e below s _ _ _ (T2.setTop (mkF m 29 #[iv p1, .unset] [(.int (77 : Int32)), (.int (1 : Int32)), (.ref b1), (.ref b1)]))
    obtain ⟨cl3, Ar3, qk3, S3, M3, H3, G3⟩ := id V2
    have hin3 : ¬ ((1 : Int32) < 0 ∨ cl3.slots.size ≤ ((1 : Int32)).toNatClampNeg) := inb_of S3 ⟨by decide, by decide⟩
    obtain ⟨T3, h3, X3, e3, W3, st3⟩ := stC X2 hx hZ e2 Ar3 (j := (1 : Int32)) hin3 (g := (mkF m 29 #[iv p1, .unset] [(.int (77 : Int32)), (.int (1 : Int32)), (.ref b1), (.ref b1)])) rfl rfl (hb hby d1_29)
    have V3 : Arv Z h3 b1 k1 .char (8 : Int32) [(.int (nar .char (82 : Int32))), (.int (nar .char (77 : Int32))), (.int (0 : Int32)), (.int (0 : Int32)), (.int (0 : Int32)), (.int (0 : Int32)), (.int (0 : Int32)), (.int (0 : Int32))] (.int (0 : Int32)) := Arv.set Ar3 qk3 S3 M3 H3 G3 (fits_nar_char _) W3 1 rfl (Nat.le_of_ble_eq_true rfl)
    have N3 := Fr.snoc X3 N2 g_b1
    refine own_go ?_ (fun target hr => st3 _ (XS.dup X3.here hx rfl (hb hby d1_30) rfl rfl (XS.iconst X3.here hx rfl (hb hby d1_31) (XS.bipush X3.here hx rfl (hb hby d1_32) hr))))
    show own_G _ p e below s _ _ _ (T3.setTop (mkF m 34 #[iv p1, .unset] [(.int (67 : Int32)), (.int (2 : Int32)), (.ref b1), (.ref b1)]))
    obtain ⟨cl4, Ar4, qk4, S4, M4, H4, G4⟩ := id V3
    have hin4 : ¬ ((2 : Int32) < 0 ∨ cl4.slots.size ≤ ((2 : Int32)).toNatClampNeg) := inb_of S4 ⟨by decide, by decide⟩
    obtain ⟨T4, h4, X4, e4, W4, st4⟩ := stC X3 hx hZ e3 Ar4 (j := (2 : Int32)) hin4 (g := (mkF m 34 #[iv p1, .unset] [(.int (67 : Int32)), (.int (2 : Int32)), (.ref b1), (.ref b1)])) rfl rfl (hb hby d1_34)
    have V4 : Arv Z h4 b1 k1 .char (8 : Int32) [(.int (nar .char (82 : Int32))), (.int (nar .char (77 : Int32))), (.int (nar .char (67 : Int32))), (.int (0 : Int32)), (.int (0 : Int32)), (.int (0 : Int32)), (.int (0 : Int32)), (.int (0 : Int32))] (.int (0 : Int32)) := Arv.set Ar4 qk4 S4 M4 H4 G4 (fits_nar_char _) W4 2 rfl (Nat.le_of_ble_eq_true rfl)
    have N4 := Fr.snoc X4 N3 g_b1
    refine own_go ?_ (fun target hr => st4 _ (XS.dup X4.here hx rfl (hb hby d1_35) rfl rfl (XS.iconst X4.here hx rfl (hb hby d1_36) (XS.bipush X4.here hx rfl (hb hby d1_37) hr))))
    show own_G _ p e below s _ _ _ (T4.setTop (mkF m 39 #[iv p1, .unset] [(.int (90 : Int32)), (.int (3 : Int32)), (.ref b1), (.ref b1)]))
    obtain ⟨cl5, Ar5, qk5, S5, M5, H5, G5⟩ := id V4
    have hin5 : ¬ ((3 : Int32) < 0 ∨ cl5.slots.size ≤ ((3 : Int32)).toNatClampNeg) := inb_of S5 ⟨by decide, by decide⟩
    obtain ⟨T5, h5, X5, e5, W5, st5⟩ := stC X4 hx hZ e4 Ar5 (j := (3 : Int32)) hin5 (g := (mkF m 39 #[iv p1, .unset] [(.int (90 : Int32)), (.int (3 : Int32)), (.ref b1), (.ref b1)])) rfl rfl (hb hby d1_39)
    have V5 : Arv Z h5 b1 k1 .char (8 : Int32) [(.int (nar .char (82 : Int32))), (.int (nar .char (77 : Int32))), (.int (nar .char (67 : Int32))), (.int (nar .char (90 : Int32))), (.int (0 : Int32)), (.int (0 : Int32)), (.int (0 : Int32)), (.int (0 : Int32))] (.int (0 : Int32)) := Arv.set Ar5 qk5 S5 M5 H5 G5 (fits_nar_char _) W5 3 rfl (Nat.le_of_ble_eq_true rfl)
    have N5 := Fr.snoc X5 N4 g_b1
    refine own_go ?_ (fun target hr => st5 _ (XS.dup X5.here hx rfl (hb hby d1_40) rfl rfl (XS.iconst X5.here hx rfl (hb hby d1_41) (XS.bipush X5.here hx rfl (hb hby d1_42) hr))))
    show own_G _ p e below s _ _ _ (T5.setTop (mkF m 44 #[iv p1, .unset] [(.int (68 : Int32)), (.int (4 : Int32)), (.ref b1), (.ref b1)]))
    obtain ⟨cl6, Ar6, qk6, S6, M6, H6, G6⟩ := id V5
    have hin6 : ¬ ((4 : Int32) < 0 ∨ cl6.slots.size ≤ ((4 : Int32)).toNatClampNeg) := inb_of S6 ⟨by decide, by decide⟩
    obtain ⟨T6, h6, X6, e6, W6, st6⟩ := stC X5 hx hZ e5 Ar6 (j := (4 : Int32)) hin6 (g := (mkF m 44 #[iv p1, .unset] [(.int (68 : Int32)), (.int (4 : Int32)), (.ref b1), (.ref b1)])) rfl rfl (hb hby d1_44)
    have V6 : Arv Z h6 b1 k1 .char (8 : Int32) [(.int (nar .char (82 : Int32))), (.int (nar .char (77 : Int32))), (.int (nar .char (67 : Int32))), (.int (nar .char (90 : Int32))), (.int (nar .char (68 : Int32))), (.int (0 : Int32)), (.int (0 : Int32)), (.int (0 : Int32))] (.int (0 : Int32)) := Arv.set Ar6 qk6 S6 M6 H6 G6 (fits_nar_char _) W6 4 rfl (Nat.le_of_ble_eq_true rfl)
    have N6 := Fr.snoc X6 N5 g_b1
    refine own_go ?_ (fun target hr => st6 _ (XS.dup X6.here hx rfl (hb hby d1_45) rfl rfl (XS.iconst X6.here hx rfl (hb hby d1_46) (XS.bipush X6.here hx rfl (hb hby d1_47) hr))))
    show own_G _ p e below s _ _ _ (T6.setTop (mkF m 49 #[iv p1, .unset] [(.int (65 : Int32)), (.int (5 : Int32)), (.ref b1), (.ref b1)]))
    obtain ⟨cl7, Ar7, qk7, S7, M7, H7, G7⟩ := id V6
    have hin7 : ¬ ((5 : Int32) < 0 ∨ cl7.slots.size ≤ ((5 : Int32)).toNatClampNeg) := inb_of S7 ⟨by decide, by decide⟩
    obtain ⟨T7, h7, X7, e7, W7, st7⟩ := stC X6 hx hZ e6 Ar7 (j := (5 : Int32)) hin7 (g := (mkF m 49 #[iv p1, .unset] [(.int (65 : Int32)), (.int (5 : Int32)), (.ref b1), (.ref b1)])) rfl rfl (hb hby d1_49)
    have V7 : Arv Z h7 b1 k1 .char (8 : Int32) [(.int (nar .char (82 : Int32))), (.int (nar .char (77 : Int32))), (.int (nar .char (67 : Int32))), (.int (nar .char (90 : Int32))), (.int (nar .char (68 : Int32))), (.int (nar .char (65 : Int32))), (.int (0 : Int32)), (.int (0 : Int32))] (.int (0 : Int32)) := Arv.set Ar7 qk7 S7 M7 H7 G7 (fits_nar_char _) W7 5 rfl (Nat.le_of_ble_eq_true rfl)
    have N7 := Fr.snoc X7 N6 g_b1
    refine own_go ?_ (fun target hr => st7 _ (XS.dup X7.here hx rfl (hb hby d1_50) rfl rfl (XS.bipush X7.here hx rfl (hb hby d1_51) (XS.bipush X7.here hx rfl (hb hby d1_53) hr))))
    show own_G _ p e below s _ _ _ (T7.setTop (mkF m 55 #[iv p1, .unset] [(.int (114 : Int32)), (.int (6 : Int32)), (.ref b1), (.ref b1)]))
    obtain ⟨cl8, Ar8, qk8, S8, M8, H8, G8⟩ := id V7
    have hin8 : ¬ ((6 : Int32) < 0 ∨ cl8.slots.size ≤ ((6 : Int32)).toNatClampNeg) := inb_of S8 ⟨by decide, by decide⟩
    obtain ⟨T8, h8, X8, e8, W8, st8⟩ := stC X7 hx hZ e7 Ar8 (j := (6 : Int32)) hin8 (g := (mkF m 55 #[iv p1, .unset] [(.int (114 : Int32)), (.int (6 : Int32)), (.ref b1), (.ref b1)])) rfl rfl (hb hby d1_55)
    have V8 : Arv Z h8 b1 k1 .char (8 : Int32) [(.int (nar .char (82 : Int32))), (.int (nar .char (77 : Int32))), (.int (nar .char (67 : Int32))), (.int (nar .char (90 : Int32))), (.int (nar .char (68 : Int32))), (.int (nar .char (65 : Int32))), (.int (nar .char (114 : Int32))), (.int (0 : Int32))] (.int (0 : Int32)) := Arv.set Ar8 qk8 S8 M8 H8 G8 (fits_nar_char _) W8 6 rfl (Nat.le_of_ble_eq_true rfl)
    have N8 := Fr.snoc X8 N7 g_b1
    refine own_go ?_ (fun target hr => st8 _ (XS.dup X8.here hx rfl (hb hby d1_56) rfl rfl (XS.bipush X8.here hx rfl (hb hby d1_57) (XS.bipush X8.here hx rfl (hb hby d1_59) hr))))
    show own_G _ p e below s _ _ _ (T8.setTop (mkF m 61 #[iv p1, .unset] [(.int (122 : Int32)), (.int (7 : Int32)), (.ref b1), (.ref b1)]))
    obtain ⟨cl9, Ar9, qk9, S9, M9, H9, G9⟩ := id V8
    have hin9 : ¬ ((7 : Int32) < 0 ∨ cl9.slots.size ≤ ((7 : Int32)).toNatClampNeg) := inb_of S9 ⟨by decide, by decide⟩
    obtain ⟨T9, h9, X9, e9, W9, st9⟩ := stC X8 hx hZ e8 Ar9 (j := (7 : Int32)) hin9 (g := (mkF m 61 #[iv p1, .unset] [(.int (122 : Int32)), (.int (7 : Int32)), (.ref b1), (.ref b1)])) rfl rfl (hb hby d1_61)
    have V9 : Arv Z h9 b1 k1 .char (8 : Int32) [(.int (nar .char (82 : Int32))), (.int (nar .char (77 : Int32))), (.int (nar .char (67 : Int32))), (.int (nar .char (90 : Int32))), (.int (nar .char (68 : Int32))), (.int (nar .char (65 : Int32))), (.int (nar .char (114 : Int32))), (.int (nar .char (122 : Int32)))] (.int (0 : Int32)) := Arv.set Ar9 qk9 S9 M9 H9 G9 (fits_nar_char _) W9 7 rfl (Nat.le_of_ble_eq_true rfl)
    have N9 := Fr.snoc X9 N8 g_b1
    refine own_go ?_ (fun target hr => st9 _ (XS.astoreN X9.here hx rfl (hb hby d1_62) rfl rfl (l' := #[iv p1, rv b1]) rfl (XS.aloadN X9.here hx rfl (hb hby d1_63) rfl rfl (XS.iloadN X9.here hx rfl (hb hby d1_64) rfl (XS.bipush X9.here hx rfl (hb hby d1_65) (XS.iand X9.here hx rfl (hb hby d1_67) rfl hr))))))
    show own_G _ p e below s _ _ _ (T9.setTop (mkF m 68 #[iv p1, rv b1] [(.int (p1 &&& (7 : Int32))), (.ref b1)]))
    rcases own_and7 p1 with hs68_0 | hs68_1 | hs68_2 | hs68_3 | hs68_4 | hs68_5 | hs68_6 | hs68_7
    ·
      rw [hs68_0]
      show own_G _ p e below s _ _ _ (T9.setTop (mkF m 68 #[iv p1, rv b1] [(.int (0 : Int32)), (.ref b1)]))
      obtain ⟨cl10, Ar10, qk10, S10, M10, H10, G10⟩ := id V9
      have hin10 : ¬ ((0 : Int32) < 0 ∨ cl10.slots.size ≤ ((0 : Int32)).toNatClampNeg) := inb_of S10 ⟨by decide, by decide⟩
      refine own_go ?_ (fun target hr => X9.caload hx (j := (0 : Int32)) (v := (.int (nar .char (82 : Int32)))) (by rw [e9]; exact Ar10.1) (State.isArrayOf_alike hZ.alike Ar10.2.1) Ar10.2.2 hin10 (Has.at H10 hin10 rfl) (g := (mkF m 68 #[iv p1, rv b1] [(.int (0 : Int32)), (.ref b1)])) rfl rfl (hb hby d1_68) _ hr)
      show own_G _ p e below s _ _ _ (T9.setTop (mkF m 69 #[iv p1, rv b1] [(.int (nar .char (82 : Int32)))]))
      obtain ⟨fs, hr, hrun, hended, hW, hsame⟩ := X9.leave (v := some (.int (nar .char (nar .char (82 : Int32))))) (fun h => by rw [Bd.returns] at h; cases h)
      exact ⟨_, _, retN X9 hx (t := .char) Bd.returns (by simp) (hb hby d1_69) hr, hrun, hended, _, _, rfl, (by rw [show (T9.setFrames fs).heap = h9 from e9]; exact ⟨(nar .char (nar .char (82 : Int32))), rfl, N9, ((((((((((Keep.refl h0 []).ext E1).wr W2 (Or.inr sz_b1)).wr W3 (Or.inr sz_b1)).wr W4 (Or.inr sz_b1)).wr W5 (Or.inr sz_b1)).wr W6 (Or.inr sz_b1)).wr W7 (Or.inr sz_b1)).wr W8 (Or.inr sz_b1)).wr W9 (Or.inr sz_b1)), (by decide)⟩), ⟨_, rfl⟩, hW, hsame.mono (by decide) (by decide)⟩
    ·
      rw [hs68_1]
      show own_G _ p e below s _ _ _ (T9.setTop (mkF m 68 #[iv p1, rv b1] [(.int (1 : Int32)), (.ref b1)]))
      obtain ⟨cl11, Ar11, qk11, S11, M11, H11, G11⟩ := id V9
      have hin11 : ¬ ((1 : Int32) < 0 ∨ cl11.slots.size ≤ ((1 : Int32)).toNatClampNeg) := inb_of S11 ⟨by decide, by decide⟩
      refine own_go ?_ (fun target hr => X9.caload hx (j := (1 : Int32)) (v := (.int (nar .char (77 : Int32)))) (by rw [e9]; exact Ar11.1) (State.isArrayOf_alike hZ.alike Ar11.2.1) Ar11.2.2 hin11 (Has.at H11 hin11 rfl) (g := (mkF m 68 #[iv p1, rv b1] [(.int (1 : Int32)), (.ref b1)])) rfl rfl (hb hby d1_68) _ hr)
      show own_G _ p e below s _ _ _ (T9.setTop (mkF m 69 #[iv p1, rv b1] [(.int (nar .char (77 : Int32)))]))
      obtain ⟨fs, hr, hrun, hended, hW, hsame⟩ := X9.leave (v := some (.int (nar .char (nar .char (77 : Int32))))) (fun h => by rw [Bd.returns] at h; cases h)
      exact ⟨_, _, retN X9 hx (t := .char) Bd.returns (by simp) (hb hby d1_69) hr, hrun, hended, _, _, rfl, (by rw [show (T9.setFrames fs).heap = h9 from e9]; exact ⟨(nar .char (nar .char (77 : Int32))), rfl, N9, ((((((((((Keep.refl h0 []).ext E1).wr W2 (Or.inr sz_b1)).wr W3 (Or.inr sz_b1)).wr W4 (Or.inr sz_b1)).wr W5 (Or.inr sz_b1)).wr W6 (Or.inr sz_b1)).wr W7 (Or.inr sz_b1)).wr W8 (Or.inr sz_b1)).wr W9 (Or.inr sz_b1)), (by decide)⟩), ⟨_, rfl⟩, hW, hsame.mono (by decide) (by decide)⟩
    ·
      rw [hs68_2]
      show own_G _ p e below s _ _ _ (T9.setTop (mkF m 68 #[iv p1, rv b1] [(.int (2 : Int32)), (.ref b1)]))
      obtain ⟨cl12, Ar12, qk12, S12, M12, H12, G12⟩ := id V9
      have hin12 : ¬ ((2 : Int32) < 0 ∨ cl12.slots.size ≤ ((2 : Int32)).toNatClampNeg) := inb_of S12 ⟨by decide, by decide⟩
      refine own_go ?_ (fun target hr => X9.caload hx (j := (2 : Int32)) (v := (.int (nar .char (67 : Int32)))) (by rw [e9]; exact Ar12.1) (State.isArrayOf_alike hZ.alike Ar12.2.1) Ar12.2.2 hin12 (Has.at H12 hin12 rfl) (g := (mkF m 68 #[iv p1, rv b1] [(.int (2 : Int32)), (.ref b1)])) rfl rfl (hb hby d1_68) _ hr)
      show own_G _ p e below s _ _ _ (T9.setTop (mkF m 69 #[iv p1, rv b1] [(.int (nar .char (67 : Int32)))]))
      obtain ⟨fs, hr, hrun, hended, hW, hsame⟩ := X9.leave (v := some (.int (nar .char (nar .char (67 : Int32))))) (fun h => by rw [Bd.returns] at h; cases h)
      exact ⟨_, _, retN X9 hx (t := .char) Bd.returns (by simp) (hb hby d1_69) hr, hrun, hended, _, _, rfl, (by rw [show (T9.setFrames fs).heap = h9 from e9]; exact ⟨(nar .char (nar .char (67 : Int32))), rfl, N9, ((((((((((Keep.refl h0 []).ext E1).wr W2 (Or.inr sz_b1)).wr W3 (Or.inr sz_b1)).wr W4 (Or.inr sz_b1)).wr W5 (Or.inr sz_b1)).wr W6 (Or.inr sz_b1)).wr W7 (Or.inr sz_b1)).wr W8 (Or.inr sz_b1)).wr W9 (Or.inr sz_b1)), (by decide)⟩), ⟨_, rfl⟩, hW, hsame.mono (by decide) (by decide)⟩
    ·
      rw [hs68_3]
      show own_G _ p e below s _ _ _ (T9.setTop (mkF m 68 #[iv p1, rv b1] [(.int (3 : Int32)), (.ref b1)]))
      obtain ⟨cl13, Ar13, qk13, S13, M13, H13, G13⟩ := id V9
      have hin13 : ¬ ((3 : Int32) < 0 ∨ cl13.slots.size ≤ ((3 : Int32)).toNatClampNeg) := inb_of S13 ⟨by decide, by decide⟩
      refine own_go ?_ (fun target hr => X9.caload hx (j := (3 : Int32)) (v := (.int (nar .char (90 : Int32)))) (by rw [e9]; exact Ar13.1) (State.isArrayOf_alike hZ.alike Ar13.2.1) Ar13.2.2 hin13 (Has.at H13 hin13 rfl) (g := (mkF m 68 #[iv p1, rv b1] [(.int (3 : Int32)), (.ref b1)])) rfl rfl (hb hby d1_68) _ hr)
      show own_G _ p e below s _ _ _ (T9.setTop (mkF m 69 #[iv p1, rv b1] [(.int (nar .char (90 : Int32)))]))
      obtain ⟨fs, hr, hrun, hended, hW, hsame⟩ := X9.leave (v := some (.int (nar .char (nar .char (90 : Int32))))) (fun h => by rw [Bd.returns] at h; cases h)
      exact ⟨_, _, retN X9 hx (t := .char) Bd.returns (by simp) (hb hby d1_69) hr, hrun, hended, _, _, rfl, (by rw [show (T9.setFrames fs).heap = h9 from e9]; exact ⟨(nar .char (nar .char (90 : Int32))), rfl, N9, ((((((((((Keep.refl h0 []).ext E1).wr W2 (Or.inr sz_b1)).wr W3 (Or.inr sz_b1)).wr W4 (Or.inr sz_b1)).wr W5 (Or.inr sz_b1)).wr W6 (Or.inr sz_b1)).wr W7 (Or.inr sz_b1)).wr W8 (Or.inr sz_b1)).wr W9 (Or.inr sz_b1)), (by decide)⟩), ⟨_, rfl⟩, hW, hsame.mono (by decide) (by decide)⟩
    ·
      rw [hs68_4]
      show own_G _ p e below s _ _ _ (T9.setTop (mkF m 68 #[iv p1, rv b1] [(.int (4 : Int32)), (.ref b1)]))
      obtain ⟨cl14, Ar14, qk14, S14, M14, H14, G14⟩ := id V9
      have hin14 : ¬ ((4 : Int32) < 0 ∨ cl14.slots.size ≤ ((4 : Int32)).toNatClampNeg) := inb_of S14 ⟨by decide, by decide⟩
      refine own_go ?_ (fun target hr => X9.caload hx (j := (4 : Int32)) (v := (.int (nar .char (68 : Int32)))) (by rw [e9]; exact Ar14.1) (State.isArrayOf_alike hZ.alike Ar14.2.1) Ar14.2.2 hin14 (Has.at H14 hin14 rfl) (g := (mkF m 68 #[iv p1, rv b1] [(.int (4 : Int32)), (.ref b1)])) rfl rfl (hb hby d1_68) _ hr)
      show own_G _ p e below s _ _ _ (T9.setTop (mkF m 69 #[iv p1, rv b1] [(.int (nar .char (68 : Int32)))]))
      obtain ⟨fs, hr, hrun, hended, hW, hsame⟩ := X9.leave (v := some (.int (nar .char (nar .char (68 : Int32))))) (fun h => by rw [Bd.returns] at h; cases h)
      exact ⟨_, _, retN X9 hx (t := .char) Bd.returns (by simp) (hb hby d1_69) hr, hrun, hended, _, _, rfl, (by rw [show (T9.setFrames fs).heap = h9 from e9]; exact ⟨(nar .char (nar .char (68 : Int32))), rfl, N9, ((((((((((Keep.refl h0 []).ext E1).wr W2 (Or.inr sz_b1)).wr W3 (Or.inr sz_b1)).wr W4 (Or.inr sz_b1)).wr W5 (Or.inr sz_b1)).wr W6 (Or.inr sz_b1)).wr W7 (Or.inr sz_b1)).wr W8 (Or.inr sz_b1)).wr W9 (Or.inr sz_b1)), (by decide)⟩), ⟨_, rfl⟩, hW, hsame.mono (by decide) (by decide)⟩
    ·
      rw [hs68_5]
      show own_G _ p e below s _ _ _ (T9.setTop (mkF m 68 #[iv p1, rv b1] [(.int (5 : Int32)), (.ref b1)]))
      obtain ⟨cl15, Ar15, qk15, S15, M15, H15, G15⟩ := id V9
      have hin15 : ¬ ((5 : Int32) < 0 ∨ cl15.slots.size ≤ ((5 : Int32)).toNatClampNeg) := inb_of S15 ⟨by decide, by decide⟩
      refine own_go ?_ (fun target hr => X9.caload hx (j := (5 : Int32)) (v := (.int (nar .char (65 : Int32)))) (by rw [e9]; exact Ar15.1) (State.isArrayOf_alike hZ.alike Ar15.2.1) Ar15.2.2 hin15 (Has.at H15 hin15 rfl) (g := (mkF m 68 #[iv p1, rv b1] [(.int (5 : Int32)), (.ref b1)])) rfl rfl (hb hby d1_68) _ hr)
      show own_G _ p e below s _ _ _ (T9.setTop (mkF m 69 #[iv p1, rv b1] [(.int (nar .char (65 : Int32)))]))
      obtain ⟨fs, hr, hrun, hended, hW, hsame⟩ := X9.leave (v := some (.int (nar .char (nar .char (65 : Int32))))) (fun h => by rw [Bd.returns] at h; cases h)
      exact ⟨_, _, retN X9 hx (t := .char) Bd.returns (by simp) (hb hby d1_69) hr, hrun, hended, _, _, rfl, (by rw [show (T9.setFrames fs).heap = h9 from e9]; exact ⟨(nar .char (nar .char (65 : Int32))), rfl, N9, ((((((((((Keep.refl h0 []).ext E1).wr W2 (Or.inr sz_b1)).wr W3 (Or.inr sz_b1)).wr W4 (Or.inr sz_b1)).wr W5 (Or.inr sz_b1)).wr W6 (Or.inr sz_b1)).wr W7 (Or.inr sz_b1)).wr W8 (Or.inr sz_b1)).wr W9 (Or.inr sz_b1)), (by decide)⟩), ⟨_, rfl⟩, hW, hsame.mono (by decide) (by decide)⟩
    ·
      rw [hs68_6]
      show own_G _ p e below s _ _ _ (T9.setTop (mkF m 68 #[iv p1, rv b1] [(.int (6 : Int32)), (.ref b1)]))
      obtain ⟨cl16, Ar16, qk16, S16, M16, H16, G16⟩ := id V9
      have hin16 : ¬ ((6 : Int32) < 0 ∨ cl16.slots.size ≤ ((6 : Int32)).toNatClampNeg) := inb_of S16 ⟨by decide, by decide⟩
      refine own_go ?_ (fun target hr => X9.caload hx (j := (6 : Int32)) (v := (.int (nar .char (114 : Int32)))) (by rw [e9]; exact Ar16.1) (State.isArrayOf_alike hZ.alike Ar16.2.1) Ar16.2.2 hin16 (Has.at H16 hin16 rfl) (g := (mkF m 68 #[iv p1, rv b1] [(.int (6 : Int32)), (.ref b1)])) rfl rfl (hb hby d1_68) _ hr)
      show own_G _ p e below s _ _ _ (T9.setTop (mkF m 69 #[iv p1, rv b1] [(.int (nar .char (114 : Int32)))]))
      obtain ⟨fs, hr, hrun, hended, hW, hsame⟩ := X9.leave (v := some (.int (nar .char (nar .char (114 : Int32))))) (fun h => by rw [Bd.returns] at h; cases h)
      exact ⟨_, _, retN X9 hx (t := .char) Bd.returns (by simp) (hb hby d1_69) hr, hrun, hended, _, _, rfl, (by rw [show (T9.setFrames fs).heap = h9 from e9]; exact ⟨(nar .char (nar .char (114 : Int32))), rfl, N9, ((((((((((Keep.refl h0 []).ext E1).wr W2 (Or.inr sz_b1)).wr W3 (Or.inr sz_b1)).wr W4 (Or.inr sz_b1)).wr W5 (Or.inr sz_b1)).wr W6 (Or.inr sz_b1)).wr W7 (Or.inr sz_b1)).wr W8 (Or.inr sz_b1)).wr W9 (Or.inr sz_b1)), (by decide)⟩), ⟨_, rfl⟩, hW, hsame.mono (by decide) (by decide)⟩
    ·
      rw [hs68_7]
      show own_G _ p e below s _ _ _ (T9.setTop (mkF m 68 #[iv p1, rv b1] [(.int (7 : Int32)), (.ref b1)]))
      obtain ⟨cl17, Ar17, qk17, S17, M17, H17, G17⟩ := id V9
      have hin17 : ¬ ((7 : Int32) < 0 ∨ cl17.slots.size ≤ ((7 : Int32)).toNatClampNeg) := inb_of S17 ⟨by decide, by decide⟩
      refine own_go ?_ (fun target hr => X9.caload hx (j := (7 : Int32)) (v := (.int (nar .char (122 : Int32)))) (by rw [e9]; exact Ar17.1) (State.isArrayOf_alike hZ.alike Ar17.2.1) Ar17.2.2 hin17 (Has.at H17 hin17 rfl) (g := (mkF m 68 #[iv p1, rv b1] [(.int (7 : Int32)), (.ref b1)])) rfl rfl (hb hby d1_68) _ hr)
      show own_G _ p e below s _ _ _ (T9.setTop (mkF m 69 #[iv p1, rv b1] [(.int (nar .char (122 : Int32)))]))
      obtain ⟨fs, hr, hrun, hended, hW, hsame⟩ := X9.leave (v := some (.int (nar .char (nar .char (122 : Int32))))) (fun h => by rw [Bd.returns] at h; cases h)
      exact ⟨_, _, retN X9 hx (t := .char) Bd.returns (by simp) (hb hby d1_69) hr, hrun, hended, _, _, rfl, (by rw [show (T9.setFrames fs).heap = h9 from e9]; exact ⟨(nar .char (nar .char (122 : Int32))), rfl, N9, ((((((((((Keep.refl h0 []).ext E1).wr W2 (Or.inr sz_b1)).wr W3 (Or.inr sz_b1)).wr W4 (Or.inr sz_b1)).wr W5 (Or.inr sz_b1)).wr W6 (Or.inr sz_b1)).wr W7 (Or.inr sz_b1)).wr W8 (Or.inr sz_b1)).wr W9 (Or.inr sz_b1)), (by decide)⟩), ⟨_, rfl⟩, hW, hsame.mono (by decide) (by decide)⟩
  ·
    refine own_go ?_ (fun target hr => XS.ifNo X0.here hx rfl (hb hby d1_4) rfl ((if0 _ _).trans (feq hc4).1) (XS.iloadN X0.here hx rfl (hb hby d1_7) rfl (XS.iconst X0.here hx rfl (hb hby d1_8) (XS.iushr X0.here hx rfl (hb hby d1_9) rfl (XS.sipush X0.here hx rfl (hb hby d1_10) (XS.iand X0.here hx rfl (hb hby d1_13) rfl (XS.i2c X0.here hx rfl (hb hby d1_14) rfl hr)))))))
    show own_G _ p e below s _ _ _ (s₁.setTop (mkF m 15 #[iv p1, .unset] [(.int ((((p1.toUInt32 >>> ((4 : Int32) &&& 31).toUInt32).toInt32) &&& (255 : Int32)).toUInt32.toUInt16.toUInt32.toInt32))]))
    obtain ⟨fs, hr, hrun, hended, hW, hsame⟩ := X0.leave (v := some (.int (nar .char ((((p1.toUInt32 >>> ((4 : Int32) &&& 31).toUInt32).toInt32) &&& (255 : Int32)).toUInt32.toUInt16.toUInt32.toInt32)))) (fun h => by rw [Bd.returns] at h; cases h)
    exact ⟨_, _, retN X0 hx (t := .char) Bd.returns (by simp) (hb hby d1_15) hr, hrun, hended, _, _, rfl, (by rw [show (s₁.setFrames fs).heap = h0 from e0]; exact ⟨(nar .char ((((p1.toUInt32 >>> ((4 : Int32) &&& 31).toUInt32).toInt32) &&& (255 : Int32)).toUInt32.toUInt16.toUInt32.toInt32)), rfl, N0, (Keep.refl h0 []), (own_char ((p1.toUInt32 >>> ((4 : Int32) &&& 31).toUInt32).toInt32))⟩), ⟨_, rfl⟩, hW, hsame.mono (by decide) (by decide)⟩
theorem d3_0 : decode jdk_42_method_149_code 0 = .ok (.aload_n 0, 1) := by decide +kernel
theorem d3_1 : decode jdk_42_method_149_code 1 = .ok (.invokespecial 1, 3) := by decide +kernel
theorem d3_4 : decode jdk_42_method_149_code 4 = .ok (.iload_n 3, 1) := by decide +kernel
theorem d3_5 : decode jdk_42_method_149_code 5 = .ok (.ifCond .ne 22, 3) := by decide +kernel
theorem d3_8 : decode jdk_42_method_149_code 8 = .ok (.aload_n 0, 1) := by decide +kernel
theorem d3_9 : decode jdk_42_method_149_code 9 = .ok (.ldc 7, 2) := by decide +kernel
theorem d3_11 : decode jdk_42_method_149_code 11 = .ok (.getfield 9, 3) := by decide +kernel
theorem d3_14 : decode jdk_42_method_149_code 14 = .ok (.putfield 9, 3) := by decide +kernel
theorem d3_17 : decode jdk_42_method_149_code 17 = .ok (.aload_n 0, 1) := by decide +kernel
theorem d3_18 : decode jdk_42_method_149_code 18 = .ok (.ldc 7, 2) := by decide +kernel
theorem d3_20 : decode jdk_42_method_149_code 20 = .ok (.getfield 15, 3) := by decide +kernel
theorem d3_23 : decode jdk_42_method_149_code 23 = .ok (.putfield 15, 3) := by decide +kernel
theorem d3_26 : decode jdk_42_method_149_code 26 = .ok (.return_, 1) := by decide +kernel
theorem pn_3 : plainName "java/lang/String" = true := by first | (simp [plainName, overriddenIn]; done) | decide +kernel
theorem ef_3 (m : MethodId) (x0 : Addr) (x1 : Addr) (x2 : Int32) (x3 : Int32) : entryFrame m #[(.ref x0), (.ref x1), (.int x2), (.int x3), .null] 6 = mkF m 0 #[rv x0, rv x1, iv x2, iv x3, .val .null, .unset] [] := by first | (simp [entryFrame, mkF, argsToLocals, Value.category]; done) | rfl
def Q_rm_sinit2 (Z : State) (a1 : Addr) (a2 : Addr) (u2 : Value) (h0 : Heap) (n0 : Nat) : Option Value → Heap → List Loc → Prop := fun v h L => ∃ (t : Addr) (kt : ClassId), v = none ∧ Fr n0 L ∧ Keep h0 h [a1] ∧ Exa Z h a1 "java/lang/String" ∧ Fld Z h a1 "java/lang/String" "value" "[B" (.ref t) ∧ Fld Z h a1 "java/lang/String" "coder" "B" (.int (0 : Int32)) ∧ Arv Z h t kt .byte (0 : Int32) [] (.int (0 : Int32))
set_option maxRecDepth 65536 in
set_option maxHeartbeats 40000000 in
theorem rm_sinit2 (l : Launch) (Z : State) (a0 : Array Value) (hw : ∀ d ∈ tables_1, d.before a0 Z = true) (ws : List Jvm.Cond) (a1 : Addr) (a2 : Addr) (u2 : Value) (h0 : Heap) (n0 : Nat) (Z0 : n0 ≤ h0.size) (E_a1 : Exa Z h0 a1 "java/lang/String") (F_a1_value : Fld Z h0 a1 "java/lang/String" "value" "[B" .null) (F_a1_coder : Fld Z h0 a1 "java/lang/String" "coder" "B" u2) (g_a1 : n0 ≤ a1) :
    MetFree l (⟨"java/lang/String", "<init>", "([CIILjava/lang/Void;)V"⟩ : MethodName) (head1 (Jvm.Cond.code (⟨"java/lang/String", "<init>", "([CIILjava/lang/Void;)V"⟩ : MethodName) jdk_42_method_149_code 6 none :: ws) ({ frames := 1, cells := 4, slots := 8, locals := 12 } : Room)) (fun a U => a = #[(.ref a1), (.ref a2), (.int (0 : Int32)), (.int (0 : Int32)), .null] ∧ Z.Warmed39 U.vm ∧ U.heap = h0 ∧ CHv Z consts_1 U.vm h0) (fun _ _ _ _ _ => True) (fun _ U o U' => ∃ v L, o = .returned v ∧ (Q_rm_sinit2 Z a1 a2 u2 h0 n0) v U'.heap L ∧ own_FE Z U o U' L ({ frames := 1, cells := 4, slots := 8, locals := 12 } : Room).cells ({ frames := 1, cells := 4, slots := 8, locals := 12 } : Room).slots) := by
  refine MetFree.of_bodySF (plainFor_of_name pn_3) hisR ?_
  intro p e s m args below meth c s₁ Bd hml0 hP hK
  obtain ⟨rfl, hZ, hh, hCH⟩ := hP
  have hx := Bd.exec
  have hby := Bd.bytes
  have hml : c.maxLocals = 6 := hml0
  have hown : s.vm.findClass "java/lang/String" = some m.cls := findClass_of_methodNamed Bd.named
  have hnm := (name_of_methodNamed Bd.named Bd.method).1
  have X0 : Stand p l e ({ frames := 1, cells := 4, slots := 8, locals := 12 } : Room) s m #[(.ref a1), (.ref a2), (.int (0 : Int32)), (.int (0 : Int32)), .null] below meth c s₁ [] 0 0 := Stand.of_body Bd
  have e0 : s₁.heap = h0 := by rw [← hh, Bd.state]; rfl
  have N0 := Fr.nil n0
  show own_G (own_FE Z) p e below s ({ frames := 1, cells := 4, slots := 8, locals := 12 } : Room).cells ({ frames := 1, cells := 4, slots := 8, locals := 12 } : Room).slots (Q_rm_sinit2 Z a1 a2 u2 h0 n0) (s₁.setTop (entryFrame m #[(.ref a1), (.ref a2), (.int (0 : Int32)), (.int (0 : Int32)), .null] 6))
  refine own_go (Y' := s₁.setTop (mkF m 0 #[rv a1, rv a2, iv (0 : Int32), iv (0 : Int32), .val .null, .unset] [])) ?_ (fun t k => castTop (ef_3 m a1 a2 (0 : Int32) (0 : Int32)) k)
  have hC0 := CHr.refl hCH
  have hEL := own_EW Z a0 hw
  have wS : ∀ a ∈ Bundle.stringAtoms, a.before a0 Z = true := fun d hd => hw d ((by decide +kernel : ∀ d ∈ Bundle.stringAtoms, d ∈ tables_1) d hd)
  have Sf_a1 : Safe Z consts_1 s.vm h0 a1 := own_safe_null hZ.alike E_a1 F_a1_value
  refine own_go ?_ (fun target hr => XS.aloadN X0.here hx rfl (hb hby d3_0) rfl rfl hr)
  show own_G _ p e below s _ _ _ (s₁.setTop (mkF m 1 #[rv a1, rv a2, iv (0 : Int32), iv (0 : Int32), .val .null, .unset] [(.ref a1)]))
  obtain ⟨T1, X1, e1, st1⟩ := initO X0 hx hZ hown (hw _ (List.mem_of_getElem? (i := 16) rfl)) (hw _ (List.mem_of_getElem? (i := 17) rfl)) (hw _ (List.mem_of_getElem? (i := 18) rfl)) e0 (g := (mkF m 1 #[rv a1, rv a2, iv (0 : Int32), iv (0 : Int32), .val .null, .unset] [(.ref a1)])) rfl (by rw [hml]; rfl) rfl (hb hby d3_1) (by decide) (W := 0) (by show 2 * 0 + _ ≤ _; exact Nat.le_of_eq rfl) (by decide)
  refine own_go ?_ (fun target hr => st1 _ (XS.iloadN X1.here hx rfl (hb hby d3_4) rfl (XS.ifNo X1.here hx rfl (hb hby d3_5) rfl ((if0 _ _).trans (teq (by decide : (0 : Int32) = (0 : Int32))).2) (XS.aloadN X1.here hx rfl (hb hby d3_8) rfl rfl hr))))
  show own_G _ p e below s _ _ _ (T1.setTop (mkF m 9 #[rv a1, rv a2, iv (0 : Int32), iv (0 : Int32), .val .null, .unset] [(.ref a1)]))
  obtain ⟨c2, T2, h2, k2, d2, kd2, X2, e2, E2, hS2, hk2, hZ, hown, P2_0, P2_1, P2_2, P2_3, lc2, ld2, H2c, L2, hne2, st2⟩ := ldcCH (s := s) (vm0 := s.vm) X1 hx hZ hown (hw _ (List.mem_of_getElem? (i := 19) rfl)) wS e1 (State.WarmedH.since (State.WarmedH.refl s) 0) (Nat.zero_le _) hEL (List.mem_of_getElem? (i := 2) rfl) hC0.1 (vs := []) (z := (0 : Int32)) ⟨by decide, rfl⟩ (by decide) rfl (g := (mkF m 9 #[rv a1, rv a2, iv (0 : Int32), iv (0 : Int32), .val .null, .unset] [(.ref a1)])) rfl (hb hby d3_9) (n := 0) (by decide) (by decide) (by decide) (by decide)
  have C3 := hC0.trans H2c
  have S3_a1 := H2c.safe E_a1.lt Sf_a1
  refine own_go ?_ (fun target hr => st2 _ hr)
  show own_G _ p e below s _ _ _ (T2.setTop (mkF m 11 #[rv a1, rv a2, iv (0 : Int32), iv (0 : Int32), .val .null, .unset] [(.ref c2), (.ref a1)]))
  obtain ⟨T4, X4, e4, st4⟩ := getF X2 hx hZ hown (host := "") (Or.inl (hw _ (List.mem_of_getElem? (i := 25) rfl))) Via.refl e2 P2_2 (g := (mkF m 11 #[rv a1, rv a2, iv (0 : Int32), iv (0 : Int32), .val .null, .unset] [(.ref c2), (.ref a1)])) rfl rfl (hb hby d3_11)
  refine own_go ?_ (fun target hr => st4 _ hr)
  show own_G _ p e below s _ _ _ (T4.setTop (mkF m 14 #[rv a1, rv a2, iv (0 : Int32), iv (0 : Int32), .val .null, .unset] [(.ref d2), (.ref a1)]))
  obtain ⟨T5, h5, X5, e5, W5, st5⟩ := putF X4 hx hZ hown (host := "") (Or.inl (hw _ (List.mem_of_getElem? (i := 25) rfl))) Via.refl e4 (F_a1_value.ext E2) (E_a1.ext E2) (Or.inr ⟨(hw _ (List.mem_of_getElem? (i := 21) rfl)), rfl, hnm⟩) (hw _ (List.mem_of_getElem? (i := 7) rfl)) (ty := (.array .byte)) (by decide) rfl rfl (g := (mkF m 14 #[rv a1, rv a2, iv (0 : Int32), iv (0 : Int32), .val .null, .unset] [(.ref d2), (.ref a1)])) rfl rfl (hb hby d3_14)
  have Fw5 := (F_a1_value.ext E2).same W5
  have N5 := Fr.snoc X5 N0 g_a1
  have C6 := C3.trans (CHr.wr W5 S3_a1 C3.1)
  have S6_a1 := Safe.wr W5 S3_a1 C3.1 S3_a1
  refine own_go ?_ (fun target hr => st5 _ (XS.aloadN X5.here hx rfl (hb hby d3_17) rfl rfl hr))
  show own_G _ p e below s _ _ _ (T5.setTop (mkF m 18 #[rv a1, rv a2, iv (0 : Int32), iv (0 : Int32), .val .null, .unset] [(.ref a1)]))
  obtain ⟨c7, T7, h7, k7, d7, kd7, X7, e7, E7, hS7, hk7, hZ, hown, P7_0, P7_1, P7_2, P7_3, lc7, ld7, H7c, L7, hne7, st7⟩ := ldcCH (s := s) (vm0 := T2.vm) X5 hx hZ hown (hw _ (List.mem_of_getElem? (i := 19) rfl)) wS e5 hS2 (Nat.le_trans hk2 (Keep.of_wr W5).1) hEL (List.mem_of_getElem? (i := 2) rfl) C6.1 (vs := []) (z := (0 : Int32)) ⟨by decide, rfl⟩ (by decide) rfl (g := (mkF m 18 #[rv a1, rv a2, iv (0 : Int32), iv (0 : Int32), .val .null, .unset] [(.ref a1)])) rfl (hb hby d3_18) (n := 0) (by decide) (by decide) (by decide) (by decide)
  have C8 := C6.trans H7c
  have S8_a1 := H7c.safe ((E_a1.ext E2).wr W5).lt S6_a1
  refine own_go ?_ (fun target hr => st7 _ hr)
  show own_G _ p e below s _ _ _ (T7.setTop (mkF m 20 #[rv a1, rv a2, iv (0 : Int32), iv (0 : Int32), .val .null, .unset] [(.ref c7), (.ref a1)]))
  obtain ⟨T9, X9, e9, st9⟩ := getF X7 hx hZ hown (host := "") (Or.inl (hw _ (List.mem_of_getElem? (i := 26) rfl))) Via.refl e7 P7_1 (g := (mkF m 20 #[rv a1, rv a2, iv (0 : Int32), iv (0 : Int32), .val .null, .unset] [(.ref c7), (.ref a1)])) rfl rfl (hb hby d3_20)
  refine own_go ?_ (fun target hr => st9 _ hr)
  show own_G _ p e below s _ _ _ (T9.setTop (mkF m 23 #[rv a1, rv a2, iv (0 : Int32), iv (0 : Int32), .val .null, .unset] [(.int (0 : Int32)), (.ref a1)]))
  obtain ⟨T10, h10, X10, e10, W10, st10⟩ := putFN X9 hx hZ hown (hw _ (List.mem_of_getElem? (i := 26) rfl)) Via.refl e9 (((F_a1_coder.ext E2).other W5 (Or.inr (slot_ne (Or.inr (hw _ (List.mem_of_getElem? (i := 22) rfl))) (Or.inr (hw _ (List.mem_of_getElem? (i := 21) rfl))) (by decide) (t := .byte) (t' := (.array .byte)) (by decide) (by decide)))).ext E7) (((E_a1.ext E2).wr W5).ext E7) (Or.inr ⟨(hw _ (List.mem_of_getElem? (i := 22) rfl)), rfl, hnm⟩) (hw _ (List.mem_of_getElem? (i := 7) rfl)) (ty := .byte) (v' := (.int (nar .byte (0 : Int32)))) (by decide) rfl (fits_nar_byte _) (g := (mkF m 23 #[rv a1, rv a2, iv (0 : Int32), iv (0 : Int32), .val .null, .unset] [(.int (0 : Int32)), (.ref a1)])) rfl rfl (hb hby d3_23)
  have Fw10 := (((F_a1_coder.ext E2).other W5 (Or.inr (slot_ne (Or.inr (hw _ (List.mem_of_getElem? (i := 22) rfl))) (Or.inr (hw _ (List.mem_of_getElem? (i := 21) rfl))) (by decide) (t := .byte) (t' := (.array .byte)) (by decide) (by decide)))).ext E7).same W10
  have N10 := Fr.snoc X10 N5 g_a1
  have C11 := C8.trans (CHr.wr W10 S8_a1 C8.1)
  have S11_a1 := Safe.wr W10 S8_a1 C8.1 S8_a1
  refine own_go ?_ (fun target hr => st10 _ hr)
  show own_G _ p e below s _ _ _ (T10.setTop (mkF m 26 #[rv a1, rv a2, iv (0 : Int32), iv (0 : Int32), .val .null, .unset] []))
  obtain ⟨fs, hr, hrun, hended, hRW⟩ := Stand.leaveW (s := s) (vm₁ := T7.vm) X10 hS7 (by rw [e10]; exact (Nat.le_trans hk7 (Keep.of_wr W10).1)) (v := none) (fun _ => rfl)
  have hCe := C11.trans (CHv.at (s := s) (vm0 := T7.vm) X10 hZ hEL C11.1)
  exact ⟨_, _, X10.returnOut hx Bd.returns (hb hby d3_26) hr, hrun, hended, _, _, rfl, (by rw [show (T10.setFrames fs).heap = h10 from e10]; exact ⟨d2, kd2, rfl, N10, (((((Keep.refl h0 [a1]).ext E2).wr W5 (Or.inl (List.mem_of_getElem? (i := 0) rfl))).ext E7).wr W10 (Or.inl (List.mem_of_getElem? (i := 0) rfl))), ((((E_a1.ext E2).wr W5).ext E7).wr W10), ((Fw5.ext E7).other W10 (Or.inr (slot_ne (Or.inr (hw _ (List.mem_of_getElem? (i := 21) rfl))) (Or.inr (hw _ (List.mem_of_getElem? (i := 22) rfl))) (by decide) (t := (.array .byte)) (t' := .byte) (by decide) (by decide)))), Fw10, (((P2_3.other W5 (Ne.symm (hne2 a1 S3_a1).2)).ext E7).other W10 (Ne.symm (hne2 a1 S3_a1).2))⟩), (by rw [hh, show (T10.setFrames fs).heap = h10 from e10]; exact hCe), hRW.1, hRW.2.1, hRW.2.2.1, hRW.2.2.2.mono (by decide) (by decide)⟩
theorem d2_0 : decode jdk_42_method_3_code 0 = .ok (.aload_n 0, 1) := by decide +kernel
theorem d2_1 : decode jdk_42_method_3_code 1 = .ok (.aload_n 1, 1) := by decide +kernel
theorem d2_2 : decode jdk_42_method_3_code 2 = .ok (.iconst 0, 1) := by decide +kernel
theorem d2_3 : decode jdk_42_method_3_code 3 = .ok (.aload_n 1, 1) := by decide +kernel
theorem d2_4 : decode jdk_42_method_3_code 4 = .ok (.arraylength, 1) := by decide +kernel
theorem d2_5 : decode jdk_42_method_3_code 5 = .ok (.aconst_null, 1) := by decide +kernel
theorem d2_6 : decode jdk_42_method_3_code 6 = .ok (.invokespecial 27, 3) := by decide +kernel
theorem d2_9 : decode jdk_42_method_3_code 9 = .ok (.return_, 1) := by decide +kernel
theorem pn_2 : plainName "java/lang/String" = true := by first | (simp [plainName, overriddenIn]; done) | decide +kernel
theorem pd___CIILjava_lang_Void__V : parseMethodDescriptor "([CIILjava/lang/Void;)V" = some ⟨[(.array .char), .int, .int, (.object "java/lang/Void")], none⟩ := by decide +kernel
theorem ef_2 (m : MethodId) (x0 : Addr) (x1 : Addr) : entryFrame m #[(.ref x0), (.ref x1)] 2 = mkF m 0 #[rv x0, rv x1] [] := by first | (simp [entryFrame, mkF, argsToLocals, Value.category]; done) | rfl
def Q_rm_sinit1 (Z : State) (a1 : Addr) (a2 : Addr) (u2 : Value) (kc : ClassId) (h0 : Heap) (n0 : Nat) : Option Value → Heap → List Loc → Prop := fun v h L => ∃ (t : Addr) (kt : ClassId), v = none ∧ Fr n0 L ∧ Keep h0 h [a1] ∧ Exa Z h a1 "java/lang/String" ∧ Fld Z h a1 "java/lang/String" "value" "[B" (.ref t) ∧ Fld Z h a1 "java/lang/String" "coder" "B" (.int (0 : Int32)) ∧ Arv Z h t kt .byte (0 : Int32) [] (.int (0 : Int32))
set_option maxRecDepth 65536 in
set_option maxHeartbeats 40000000 in
theorem rm_sinit1 (l : Launch) (Z : State) (a0 : Array Value) (hw : ∀ d ∈ tables_1, d.before a0 Z = true) (ws : List Jvm.Cond) (a1 : Addr) (a2 : Addr) (u2 : Value) (kc : ClassId) (h0 : Heap) (n0 : Nat) (Z0 : n0 ≤ h0.size) (E_a1 : Exa Z h0 a1 "java/lang/String") (F_a1_value : Fld Z h0 a1 "java/lang/String" "value" "[B" .null) (F_a1_coder : Fld Z h0 a1 "java/lang/String" "coder" "B" u2) (g_a1 : n0 ≤ a1) (V_a2 : Arv Z h0 a2 kc .char (0 : Int32) [] (.int (0 : Int32))) :
    MetFree l (⟨"java/lang/String", "<init>", "([C)V"⟩ : MethodName) (head1 (Jvm.Cond.code (⟨"java/lang/String", "<init>", "([C)V"⟩ : MethodName) jdk_42_method_3_code 2 none :: ws) ({ frames := 2, cells := 4, slots := 8, locals := 29 } : Room)) (fun a U => a = #[(.ref a1), (.ref a2)] ∧ Z.Warmed39 U.vm ∧ U.heap = h0 ∧ CHv Z consts_1 U.vm h0) (fun _ _ _ _ _ => True) (fun _ U o U' => ∃ v L, o = .returned v ∧ (Q_rm_sinit1 Z a1 a2 u2 kc h0 n0) v U'.heap L ∧ own_FE Z U o U' L ({ frames := 2, cells := 4, slots := 8, locals := 29 } : Room).cells ({ frames := 2, cells := 4, slots := 8, locals := 29 } : Room).slots) := by
  refine MetFree.of_bodySF (plainFor_of_name pn_2) hisR ?_
  intro p e s m args below meth c s₁ Bd hml0 hP hK
  obtain ⟨rfl, hZ, hh, hCH⟩ := hP
  have hx := Bd.exec
  have hby := Bd.bytes
  have hml : c.maxLocals = 2 := hml0
  have hown : s.vm.findClass "java/lang/String" = some m.cls := findClass_of_methodNamed Bd.named
  have hnm := (name_of_methodNamed Bd.named Bd.method).1
  have X0 : Stand p l e ({ frames := 2, cells := 4, slots := 8, locals := 29 } : Room) s m #[(.ref a1), (.ref a2)] below meth c s₁ [] 0 0 := Stand.of_body Bd
  have e0 : s₁.heap = h0 := by rw [← hh, Bd.state]; rfl
  have N0 := Fr.nil n0
  show own_G (own_FE Z) p e below s ({ frames := 2, cells := 4, slots := 8, locals := 29 } : Room).cells ({ frames := 2, cells := 4, slots := 8, locals := 29 } : Room).slots (Q_rm_sinit1 Z a1 a2 u2 kc h0 n0) (s₁.setTop (entryFrame m #[(.ref a1), (.ref a2)] 2))
  refine own_go (Y' := s₁.setTop (mkF m 0 #[rv a1, rv a2] [])) ?_ (fun t k => castTop (ef_2 m a1 a2) k)
  have hC0 := CHr.refl hCH
  have hEL := own_EW Z a0 hw
  have wS : ∀ a ∈ Bundle.stringAtoms, a.before a0 Z = true := fun d hd => hw d ((by decide +kernel : ∀ d ∈ Bundle.stringAtoms, d ∈ tables_1) d hd)
  refine own_go ?_ (fun target hr => XS.aloadN X0.here hx rfl (hb hby d2_0) rfl rfl (XS.aloadN X0.here hx rfl (hb hby d2_1) rfl rfl (XS.iconst X0.here hx rfl (hb hby d2_2) (XS.aloadN X0.here hx rfl (hb hby d2_3) rfl rfl hr))))
  show own_G _ p e below s _ _ _ (s₁.setTop (mkF m 4 #[rv a1, rv a2] [(.ref a2), (.int (0 : Int32)), (.ref a2), (.ref a1)]))
  obtain ⟨cl1, Ar1, -, S1, M1, -, -⟩ := id V_a2
  refine own_go ?_ (fun target hr => X0.arraylength hx (by rw [e0]; exact Ar1.1) (State.isArrayOf_alike hZ.alike Ar1.2.1) (g := (mkF m 4 #[rv a1, rv a2] [(.ref a2), (.int (0 : Int32)), (.ref a2), (.ref a1)])) rfl rfl (hb hby d2_4) _ hr)
  rw [len_of S1 M1]
  show own_G _ p e below s _ _ _ (s₁.setTop (mkF m 5 #[rv a1, rv a2] [(.int (0 : Int32)), (.int (0 : Int32)), (.ref a2), (.ref a1)]))
  refine own_go ?_ (fun target hr => XS.aconstNull X0.here hx rfl (hb hby d2_5) hr)
  show own_G _ p e below s _ _ _ (s₁.setTop (mkF m 6 #[rv a1, rv a2] [.null, (.int (0 : Int32)), (.int (0 : Int32)), (.ref a2), (.ref a1)]))
  obtain ⟨_, _, ⟨T2, L2, k2, n2⟩, -, X2a, hS2a, hg2a, ⟨Lc2, hQ2, l2, y2, z2, H2c⟩, st2⟩ := X0.specialBackS hx (y := (⟨"java/lang/String", "<init>", "([CIILjava/lang/Void;)V"⟩ : MethodName)) rfl hown (mvT hZ (hw _ (List.mem_of_getElem? (i := 12) rfl))) (mvT hZ (hw _ (List.mem_of_getElem? (i := 13) rfl))) (mvT hZ (hw _ (List.mem_of_getElem? (i := 15) rfl))) (by decide) (backOfSH (s := s) (vm0 := s.vm) (W := 0) (rm_sinit2 l Z a0 hw [] a1 a2 (u2) h0 n0 Z0 E_a1 F_a1_value F_a1_coder g_a1) hZ (hw _ (List.mem_of_getElem? (i := 15) rfl)) (hw _ (List.mem_of_getElem? (i := 8) rfl)) (by decide) (by decide) hEL hC0.1) (g := (mkF m 6 #[rv a1, rv a2] [.null, (.int (0 : Int32)), (.int (0 : Int32)), (.ref a2), (.ref a1)])) rfl (by rw [hml]; rfl) (Steps.refl _) (a := a1) (argsL := [(.ref a2), (.int (0 : Int32)), (.int (0 : Int32)), .null]) (rest := []) (lenOf pd___CIILjava_lang_Void__V rfl) rfl (by show 2 * 0 + _ ≤ _; exact Nat.le_of_eq rfl) (hb hby d2_6) (fun _ _ => ⟨rfl, e0, (by decide : 0 + 4 ≤ _), (by decide : 0 + 8 ≤ _)⟩)
  dsimp only [Pt.U, Pt.locs, Pt.cells, Pt.slots] at X2a hS2a hg2a l2 y2 z2 st2 hQ2 H2c
  subst l2 y2 z2
  obtain ⟨X2, hS2, hZ, hown⟩ := rebS (s := s) (vm0 := s.vm) (State.WarmedH.since (State.WarmedH.refl s) 0) (Nat.zero_le _) X2a hS2a hg2a hZ hown
  obtain ⟨b2_0, kb2_1, rfl, N2q, K2, P2_0, P2_1, P2_2, P2_3⟩ := hQ2
  have C3 := hC0.trans H2c
  have N2 := Fr.app N0 N2q
  refine own_go ?_ (fun target hr => st2.trans hr)
  show own_G _ p e below s _ _ _ (T2.setTop (mkF m 9 #[rv a1, rv a2] []))
  obtain ⟨fs, hr, hrun, hended, hRW⟩ := Stand.leaveW (s := s) (vm₁ := T2.vm) X2 hS2 (Nat.le_refl _) (v := none) (fun _ => rfl)
  have hCe := C3.trans (CHv.at (s := s) (vm0 := T2.vm) X2 hZ hEL C3.1)
  exact ⟨_, _, X2.returnOut hx Bd.returns (hb hby d2_9) hr, hrun, hended, _, _, rfl, ⟨b2_0, kb2_1, rfl, N2, ((Keep.refl h0 [a1]).trans K2 (allS (Or.inl (List.mem_of_getElem? (i := 0) rfl)) all0)), P2_0, P2_1, P2_2, P2_3⟩, (by rw [hh, show (T2.setFrames fs).heap = T2.heap from rfl]; exact hCe), hRW.1, hRW.2.1, hRW.2.2.1, hRW.2.2.2.mono (by decide) (by decide)⟩
theorem d5_0 : decode prog_17_method_3_code 0 = .ok (.aload_n 0, 1) := by decide +kernel
theorem d5_1 : decode prog_17_method_3_code 1 = .ok (.ldc 33, 2) := by decide +kernel
theorem d5_3 : decode prog_17_method_3_code 3 = .ok (.invokevirtual 35, 3) := by decide +kernel
theorem d5_6 : decode prog_17_method_3_code 6 = .ok (.ifCond .ne 12, 3) := by decide +kernel
theorem d5_9 : decode prog_17_method_3_code 9 = .ok (.aload_n 0, 1) := by decide +kernel
theorem d5_10 : decode prog_17_method_3_code 10 = .ok (.ldc 112, 2) := by decide +kernel
theorem d5_12 : decode prog_17_method_3_code 12 = .ok (.invokevirtual 35, 3) := by decide +kernel
theorem d5_15 : decode prog_17_method_3_code 15 = .ok (.ifCond .eq 7, 3) := by decide +kernel
theorem d5_22 : decode prog_17_method_3_code 22 = .ok (.iconst 0, 1) := by decide +kernel
theorem d5_23 : decode prog_17_method_3_code 23 = .ok (.ireturn, 1) := by decide +kernel
theorem pn_5 : plainName "com/example/prita/prita/gnss/GnssTime" = true := by first | (simp [plainName, overriddenIn]; done) | decide +kernel
theorem pd__Ljava_lang_Object__Z : parseMethodDescriptor "(Ljava/lang/Object;)Z" = some ⟨[(.object "java/lang/Object")], some .boolean⟩ := by decide +kernel
theorem ef_5 (m : MethodId) (x0 : Addr) : entryFrame m #[(.ref x0)] 1 = mkF m 0 #[rv x0] [] := by first | (simp [entryFrame, mkF, argsToLocals, Value.category]; done) | rfl
def Q_rm_ct_0 (Z : State) (a1 : Addr) (t : Addr) (kt : ClassId) (zc : Int32) (h0 : Heap) (n0 : Nat) : Option Value → Heap → List Loc → Prop := fun v h L => v = some (.int (0 : Int32)) ∧ Fr n0 L ∧ Keep h0 h []
set_option maxRecDepth 65536 in
set_option maxHeartbeats 40000000 in
theorem rm_ct_0 (l : Launch) (Z : State) (a0 : Array Value) (hw : ∀ d ∈ tables_1, d.before a0 Z = true) (ws : List Jvm.Cond) (a1 : Addr) (t : Addr) (kt : ClassId) (zc : Int32) (h0 : Heap) (n0 : Nat) (Z0 : n0 ≤ h0.size) (E_a1 : Exa Z h0 a1 "java/lang/String") (F_a1_value : Fld Z h0 a1 "java/lang/String" "value" "[B" (.ref t)) (F_a1_coder : Fld Z h0 a1 "java/lang/String" "coder" "B" (.int (0 : Int32))) (V_t : Arv Z h0 t kt .byte (0 : Int32) [] (.int (0 : Int32))) (hold : Old Z n0 h0) (S_COMPACT_STRINGS : Sta Z Z.heap "java/lang/String" "COMPACT_STRINGS" "Z" (.int zc)) (hp : ∀ c ∈ ([] : List Int32), ¬ c < 0 ∧ ¬ (255 : Int32) < c) (hz : ¬ (zc = (0 : Int32))) :
    MetFree l (⟨"com/example/prita/prita/gnss/GnssTime", "carriesTime", "(Ljava/lang/String;)Z"⟩ : MethodName) (head1 (Jvm.Cond.code (⟨"com/example/prita/prita/gnss/GnssTime", "carriesTime", "(Ljava/lang/String;)Z"⟩ : MethodName) prog_17_method_3_code 1 (some .boolean) :: ws) ({ frames := 2, cells := 4, slots := 32, locals := 28 } : Room)) (fun a U => a = #[(.ref a1)] ∧ Z.Warmed39 U.vm ∧ U.heap = h0 ∧ CHv Z consts_1 U.vm h0) (fun _ _ _ _ _ => True) (fun _ U o U' => ∃ v L, o = .returned v ∧ (Q_rm_ct_0 Z a1 t kt zc h0 n0) v U'.heap L ∧ own_FE Z U o U' L ({ frames := 2, cells := 4, slots := 32, locals := 28 } : Room).cells ({ frames := 2, cells := 4, slots := 32, locals := 28 } : Room).slots) := by
  refine MetFree.of_bodySF (plainFor_of_name pn_5) hisR ?_
  intro p e s m args below meth c s₁ Bd hml0 hP hK
  obtain ⟨rfl, hZ, hh, hCH⟩ := hP
  have hx := Bd.exec
  have hby := Bd.bytes
  have hml : c.maxLocals = 1 := hml0
  have hown : s.vm.findClass "com/example/prita/prita/gnss/GnssTime" = some m.cls := findClass_of_methodNamed Bd.named
  have hnm := (name_of_methodNamed Bd.named Bd.method).1
  have X0 : Stand p l e ({ frames := 2, cells := 4, slots := 32, locals := 28 } : Room) s m #[(.ref a1)] below meth c s₁ [] 0 0 := Stand.of_body Bd
  have e0 : s₁.heap = h0 := by rw [← hh, Bd.state]; rfl
  have N0 := Fr.nil n0
  show own_G (own_FE Z) p e below s ({ frames := 2, cells := 4, slots := 32, locals := 28 } : Room).cells ({ frames := 2, cells := 4, slots := 32, locals := 28 } : Room).slots (Q_rm_ct_0 Z a1 t kt zc h0 n0) (s₁.setTop (entryFrame m #[(.ref a1)] 1))
  refine own_go (Y' := s₁.setTop (mkF m 0 #[rv a1] [])) ?_ (fun t k => castTop (ef_5 m a1) k)
  have hC0 := CHr.refl hCH
  have hEL := own_EW Z a0 hw
  have wS : ∀ a ∈ Bundle.stringAtoms, a.before a0 Z = true := fun d hd => hw d ((by decide +kernel : ∀ d ∈ Bundle.stringAtoms, d ∈ tables_1) d hd)
  have heq : ∀ d ∈ StrChars.Road.wordsEq, d.before a0 Z = true := fun d hd => hw d ((by decide +kernel : ∀ d ∈ StrChars.Road.wordsEq, d ∈ tables_1) d hd)
  refine own_go ?_ (fun target hr => XS.aloadN X0.here hx rfl (hb hby d5_0) rfl rfl hr)
  show own_G _ p e below s _ _ _ (s₁.setTop (mkF m 1 #[rv a1] [(.ref a1)]))
  obtain ⟨c1, T1, h1, k1, d1, kd1, X1, e1, E1, hS1, hk1, hZ, hown, P1_0, P1_1, P1_2, P1_3, lc1, ld1, H1c, L1, hne1, st1⟩ := ldcCH (s := s) (vm0 := s.vm) X0 hx hZ hown (hw _ (List.mem_of_getElem? (i := 31) rfl)) wS e0 (State.WarmedH.since (State.WarmedH.refl s) 0) (Nat.zero_le _) hEL (List.mem_of_getElem? (i := 0) rfl) hC0.1 (vs := [(.int (82 : Int32)), (.int (77 : Int32)), (.int (67 : Int32))]) (z := (3 : Int32)) ⟨by decide, rfl⟩ (by decide) rfl (g := (mkF m 1 #[rv a1] [(.ref a1)])) rfl (hb hby d5_1) (n := 12) (by decide) (by decide) (by decide) (by decide)
  have C2 := hC0.trans H1c
  refine own_go ?_ (fun target hr => st1 _ hr)
  show own_G _ p e below s _ _ _ (T1.setTop (mkF m 3 #[rv a1] [(.ref c1), (.ref a1)]))
  obtain ⟨cq3, kq3, q3a, q3b, q3c⟩ := isOf hZ e1 (E_a1.ext E1)
  obtain ⟨_, _, ⟨T3, L3, k3, n3⟩, -, X3, ⟨Lc3, hQ3, l3, y3, z3⟩, st3⟩ := X1.virtualBack hx (y := (⟨"java/lang/String", "equals", "(Ljava/lang/Object;)Z"⟩ : MethodName)) (z := (⟨"java/lang/String", "equals", "(Ljava/lang/Object;)Z"⟩ : MethodName)) hown (mvT hZ (hw _ (List.mem_of_getElem? (i := 32) rfl))) (mvT hZ (hw _ (List.mem_of_getElem? (i := 33) rfl))) (notFace_of_selects (args := #[]) (mvT hZ (hw _ (List.mem_of_getElem? (i := 35) rfl)))) (mvT hZ (hw _ (List.mem_of_getElem? (i := 35) rfl))) (mvT hZ (hw _ (List.mem_of_getElem? (i := 34) rfl))) (by decide) (StrChars.Road.eqW (W := 0) hZ heq (kI := 4) (hw _ (List.mem_of_getElem? (i := 7) rfl)) (E_a1.ext E1) (F_a1_value.ext E1) (F_a1_coder.ext E1) (V_t.ext E1) (show StrChars.Road.CodA ([] : List Int32) 0 (0 : Int32) [] from StrChars.Road.codOf (n := 0) rfl (fun c hc => (hp c hc).2)) (own_up ([] : List Int32) hp) (Nat.le_of_ble_eq_true rfl) P1_0 P1_2 P1_1 P1_3 (show StrChars.Road.CodA ([82, 77, 67] : List Int32) 0 (3 : Int32) [(.int (82 : Int32)), (.int (77 : Int32)), (.int (67 : Int32))] from StrChars.Road.codOf (n := 3) rfl (fun c hc => ((show ∀ c ∈ ([82, 77, 67] : List Int32), ¬ c < 0 ∧ ¬ (255 : Int32) < c by decide) c hc).2)) (own_up ([82, 77, 67] : List Int32) (show ∀ c ∈ ([82, 77, 67] : List Int32), ¬ c < 0 ∧ ¬ (255 : Int32) < c by decide)) (Nat.le_of_ble_eq_true rfl) (S_COMPACT_STRINGS.ext (hold.ext E1).2) hz (by decide) (by decide)) q3a q3c (g := (mkF m 3 #[rv a1] [(.ref c1), (.ref a1)])) rfl (by rw [hml]; rfl) (Steps.refl _) (argsL := [(.ref c1)]) (rest := []) (lenOf pd__Ljava_lang_Object__Z rfl) rfl (by show 2 * 0 + _ ≤ _; exact Nat.le_of_eq rfl) (hb hby d5_3) (fun _ _ => ⟨rfl, e1, (by decide : 2 + 0 ≤ _), (by decide : 16 + 0 ≤ _)⟩)
  dsimp only [Pt.U, Pt.locs, Pt.cells, Pt.slots] at X3 l3 y3 z3 st3 hQ3
  subst l3 y3 z3
  obtain ⟨hor3, hL3, e3⟩ := hQ3
  have hv3 : _ = some (Value.int 0) := hor3.elim (fun q => absurd q.2 (by simp)) (fun q => q.1)
  subst hv3 hL3
  have N3 := Fr.app N0 (Fr.nil n0)
  refine own_go ?_ (fun target hr => st3.trans (XS.ifNo X3.here hx rfl (hb hby d5_6) rfl ((if0 _ _).trans (teq (by decide : (0 : Int32) = (0 : Int32))).2) (XS.aloadN X3.here hx rfl (hb hby d5_9) rfl rfl hr)))
  show own_G _ p e below s _ _ _ (T3.setTop (mkF m 10 #[rv a1] [(.ref a1)]))
  obtain ⟨c4, T4, h4, k4, d4, kd4, X4, e4, E4, hS4, hk4, hZ, hown, P4_0, P4_1, P4_2, P4_3, lc4, ld4, H4c, L4, hne4, st4⟩ := ldcCH (s := s) (vm0 := T1.vm) X3 hx hZ hown (hw _ (List.mem_of_getElem? (i := 43) rfl)) wS e3 hS1 hk1 hEL (List.mem_of_getElem? (i := 1) rfl) C2.1 (vs := [(.int (90 : Int32)), (.int (68 : Int32)), (.int (65 : Int32))]) (z := (3 : Int32)) ⟨by decide, rfl⟩ (by decide) rfl (g := (mkF m 10 #[rv a1] [(.ref a1)])) rfl (hb hby d5_10) (n := 12) (by decide) (by decide) (by decide) (by decide)
  have C5 := C2.trans H4c
  refine own_go ?_ (fun target hr => st4 _ hr)
  show own_G _ p e below s _ _ _ (T4.setTop (mkF m 12 #[rv a1] [(.ref c4), (.ref a1)]))
  obtain ⟨cq6, kq6, q6a, q6b, q6c⟩ := isOf hZ e4 ((E_a1.ext E1).ext E4)
  obtain ⟨_, _, ⟨T6, L6, k6, n6⟩, -, X6, ⟨Lc6, hQ6, l6, y6, z6⟩, st6⟩ := X4.virtualBack hx (y := (⟨"java/lang/String", "equals", "(Ljava/lang/Object;)Z"⟩ : MethodName)) (z := (⟨"java/lang/String", "equals", "(Ljava/lang/Object;)Z"⟩ : MethodName)) hown (mvT hZ (hw _ (List.mem_of_getElem? (i := 32) rfl))) (mvT hZ (hw _ (List.mem_of_getElem? (i := 33) rfl))) (notFace_of_selects (args := #[]) (mvT hZ (hw _ (List.mem_of_getElem? (i := 35) rfl)))) (mvT hZ (hw _ (List.mem_of_getElem? (i := 35) rfl))) (mvT hZ (hw _ (List.mem_of_getElem? (i := 34) rfl))) (by decide) (StrChars.Road.eqW (W := 0) hZ heq (kI := 4) (hw _ (List.mem_of_getElem? (i := 7) rfl)) ((E_a1.ext E1).ext E4) ((F_a1_value.ext E1).ext E4) ((F_a1_coder.ext E1).ext E4) ((V_t.ext E1).ext E4) (show StrChars.Road.CodA ([] : List Int32) 0 (0 : Int32) [] from StrChars.Road.codOf (n := 0) rfl (fun c hc => (hp c hc).2)) (own_up ([] : List Int32) hp) (Nat.le_of_ble_eq_true rfl) P4_0 P4_2 P4_1 P4_3 (show StrChars.Road.CodA ([90, 68, 65] : List Int32) 0 (3 : Int32) [(.int (90 : Int32)), (.int (68 : Int32)), (.int (65 : Int32))] from StrChars.Road.codOf (n := 3) rfl (fun c hc => ((show ∀ c ∈ ([90, 68, 65] : List Int32), ¬ c < 0 ∧ ¬ (255 : Int32) < c by decide) c hc).2)) (own_up ([90, 68, 65] : List Int32) (show ∀ c ∈ ([90, 68, 65] : List Int32), ¬ c < 0 ∧ ¬ (255 : Int32) < c by decide)) (Nat.le_of_ble_eq_true rfl) (S_COMPACT_STRINGS.ext ((hold.ext E1).ext E4).2) hz (by decide) (by decide)) q6a q6c (g := (mkF m 12 #[rv a1] [(.ref c4), (.ref a1)])) rfl (by rw [hml]; rfl) (Steps.refl _) (argsL := [(.ref c4)]) (rest := []) (lenOf pd__Ljava_lang_Object__Z rfl) rfl (by show 2 * 0 + _ ≤ _; exact Nat.le_of_eq rfl) (hb hby d5_12) (fun _ _ => ⟨rfl, e4, (by decide : 4 + 0 ≤ _), (by decide : 32 + 0 ≤ _)⟩)
  dsimp only [Pt.U, Pt.locs, Pt.cells, Pt.slots] at X6 l6 y6 z6 st6 hQ6
  subst l6 y6 z6
  obtain ⟨hor6, hL6, e6⟩ := hQ6
  have hv6 : _ = some (Value.int 0) := hor6.elim (fun q => absurd q.2 (by simp)) (fun q => q.1)
  subst hv6 hL6
  have N6 := Fr.app N3 (Fr.nil n0)
  refine own_go ?_ (fun target hr => st6.trans (XS.ifYes X6.here hx rfl (pc0 := 15) (pc' := 22) rfl (hb hby d5_15) rfl ((if0 _ _).trans (teq (by decide : (0 : Int32) = (0 : Int32))).1) (by decide) (by decide) (XS.iconst X6.here hx rfl (hb hby d5_22) hr)))
  show own_G _ p e below s _ _ _ (T6.setTop (mkF m 23 #[rv a1] [(.int (0 : Int32))]))
  obtain ⟨fs, hr, hrun, hended, hRW⟩ := Stand.leaveW (s := s) (vm₁ := T4.vm) X6 hS4 (by rw [e6]; exact hk4) (v := some (.int (0 : Int32))) (fun h => by rw [Bd.returns] at h; cases h)
  have hCe := C5.trans (CHv.at (s := s) (vm0 := T4.vm) X6 hZ hEL C5.1)
  exact ⟨_, _, retN X6 hx (t := .boolean) Bd.returns (by simp) (hb hby d5_23) hr, hrun, hended, _, _, rfl, (by rw [show (T6.setFrames fs).heap = h4 from e6]; exact ⟨rfl, N6, (((Keep.refl h0 []).ext E1).ext E4)⟩), (by rw [hh, show (T6.setFrames fs).heap = h4 from e6]; exact hCe), hRW.1, hRW.2.1, hRW.2.2.1, hRW.2.2.2.mono (by decide) (by decide)⟩
def Q_rm_ct_1 (Z : State) (a1 : Addr) (t : Addr) (kt : ClassId) (ch0 : Int32) (zc : Int32) (h0 : Heap) (n0 : Nat) : Option Value → Heap → List Loc → Prop := fun v h L => v = some (.int (0 : Int32)) ∧ Fr n0 L ∧ Keep h0 h []
set_option maxRecDepth 65536 in
set_option maxHeartbeats 40000000 in
theorem rm_ct_1 (l : Launch) (Z : State) (a0 : Array Value) (hw : ∀ d ∈ tables_1, d.before a0 Z = true) (ws : List Jvm.Cond) (a1 : Addr) (t : Addr) (kt : ClassId) (ch0 : Int32) (zc : Int32) (h0 : Heap) (n0 : Nat) (Z0 : n0 ≤ h0.size) (E_a1 : Exa Z h0 a1 "java/lang/String") (F_a1_value : Fld Z h0 a1 "java/lang/String" "value" "[B" (.ref t)) (F_a1_coder : Fld Z h0 a1 "java/lang/String" "coder" "B" (.int (0 : Int32))) (V_t : Arv Z h0 t kt .byte (1 : Int32) [(.int (ch0.toInt8.toInt32))] (.int (0 : Int32))) (hold : Old Z n0 h0) (S_COMPACT_STRINGS : Sta Z Z.heap "java/lang/String" "COMPACT_STRINGS" "Z" (.int zc)) (hp : ∀ c ∈ ([ch0] : List Int32), ¬ c < 0 ∧ ¬ (255 : Int32) < c) (hz : ¬ (zc = (0 : Int32))) :
    MetFree l (⟨"com/example/prita/prita/gnss/GnssTime", "carriesTime", "(Ljava/lang/String;)Z"⟩ : MethodName) (head1 (Jvm.Cond.code (⟨"com/example/prita/prita/gnss/GnssTime", "carriesTime", "(Ljava/lang/String;)Z"⟩ : MethodName) prog_17_method_3_code 1 (some .boolean) :: ws) ({ frames := 2, cells := 4, slots := 32, locals := 28 } : Room)) (fun a U => a = #[(.ref a1)] ∧ Z.Warmed39 U.vm ∧ U.heap = h0 ∧ CHv Z consts_1 U.vm h0) (fun _ _ _ _ _ => True) (fun _ U o U' => ∃ v L, o = .returned v ∧ (Q_rm_ct_1 Z a1 t kt ch0 zc h0 n0) v U'.heap L ∧ own_FE Z U o U' L ({ frames := 2, cells := 4, slots := 32, locals := 28 } : Room).cells ({ frames := 2, cells := 4, slots := 32, locals := 28 } : Room).slots) := by
  refine MetFree.of_bodySF (plainFor_of_name pn_5) hisR ?_
  intro p e s m args below meth c s₁ Bd hml0 hP hK
  obtain ⟨rfl, hZ, hh, hCH⟩ := hP
  have hx := Bd.exec
  have hby := Bd.bytes
  have hml : c.maxLocals = 1 := hml0
  have hown : s.vm.findClass "com/example/prita/prita/gnss/GnssTime" = some m.cls := findClass_of_methodNamed Bd.named
  have hnm := (name_of_methodNamed Bd.named Bd.method).1
  have X0 : Stand p l e ({ frames := 2, cells := 4, slots := 32, locals := 28 } : Room) s m #[(.ref a1)] below meth c s₁ [] 0 0 := Stand.of_body Bd
  have e0 : s₁.heap = h0 := by rw [← hh, Bd.state]; rfl
  have N0 := Fr.nil n0
  show own_G (own_FE Z) p e below s ({ frames := 2, cells := 4, slots := 32, locals := 28 } : Room).cells ({ frames := 2, cells := 4, slots := 32, locals := 28 } : Room).slots (Q_rm_ct_1 Z a1 t kt ch0 zc h0 n0) (s₁.setTop (entryFrame m #[(.ref a1)] 1))
  refine own_go (Y' := s₁.setTop (mkF m 0 #[rv a1] [])) ?_ (fun t k => castTop (ef_5 m a1) k)
  have hC0 := CHr.refl hCH
  have hEL := own_EW Z a0 hw
  have wS : ∀ a ∈ Bundle.stringAtoms, a.before a0 Z = true := fun d hd => hw d ((by decide +kernel : ∀ d ∈ Bundle.stringAtoms, d ∈ tables_1) d hd)
  have heq : ∀ d ∈ StrChars.Road.wordsEq, d.before a0 Z = true := fun d hd => hw d ((by decide +kernel : ∀ d ∈ StrChars.Road.wordsEq, d ∈ tables_1) d hd)
  refine own_go ?_ (fun target hr => XS.aloadN X0.here hx rfl (hb hby d5_0) rfl rfl hr)
  show own_G _ p e below s _ _ _ (s₁.setTop (mkF m 1 #[rv a1] [(.ref a1)]))
  obtain ⟨c1, T1, h1, k1, d1, kd1, X1, e1, E1, hS1, hk1, hZ, hown, P1_0, P1_1, P1_2, P1_3, lc1, ld1, H1c, L1, hne1, st1⟩ := ldcCH (s := s) (vm0 := s.vm) X0 hx hZ hown (hw _ (List.mem_of_getElem? (i := 31) rfl)) wS e0 (State.WarmedH.since (State.WarmedH.refl s) 0) (Nat.zero_le _) hEL (List.mem_of_getElem? (i := 0) rfl) hC0.1 (vs := [(.int (82 : Int32)), (.int (77 : Int32)), (.int (67 : Int32))]) (z := (3 : Int32)) ⟨by decide, rfl⟩ (by decide) rfl (g := (mkF m 1 #[rv a1] [(.ref a1)])) rfl (hb hby d5_1) (n := 12) (by decide) (by decide) (by decide) (by decide)
  have C2 := hC0.trans H1c
  refine own_go ?_ (fun target hr => st1 _ hr)
  show own_G _ p e below s _ _ _ (T1.setTop (mkF m 3 #[rv a1] [(.ref c1), (.ref a1)]))
  obtain ⟨cq3, kq3, q3a, q3b, q3c⟩ := isOf hZ e1 (E_a1.ext E1)
  obtain ⟨_, _, ⟨T3, L3, k3, n3⟩, -, X3, ⟨Lc3, hQ3, l3, y3, z3⟩, st3⟩ := X1.virtualBack hx (y := (⟨"java/lang/String", "equals", "(Ljava/lang/Object;)Z"⟩ : MethodName)) (z := (⟨"java/lang/String", "equals", "(Ljava/lang/Object;)Z"⟩ : MethodName)) hown (mvT hZ (hw _ (List.mem_of_getElem? (i := 32) rfl))) (mvT hZ (hw _ (List.mem_of_getElem? (i := 33) rfl))) (notFace_of_selects (args := #[]) (mvT hZ (hw _ (List.mem_of_getElem? (i := 35) rfl)))) (mvT hZ (hw _ (List.mem_of_getElem? (i := 35) rfl))) (mvT hZ (hw _ (List.mem_of_getElem? (i := 34) rfl))) (by decide) (StrChars.Road.eqW (W := 0) hZ heq (kI := 4) (hw _ (List.mem_of_getElem? (i := 7) rfl)) (E_a1.ext E1) (F_a1_value.ext E1) (F_a1_coder.ext E1) (V_t.ext E1) (show StrChars.Road.CodA ([ch0] : List Int32) 0 (1 : Int32) [(.int (ch0.toInt8.toInt32))] from StrChars.Road.codOf (n := 1) rfl (fun c hc => (hp c hc).2)) (own_up ([ch0] : List Int32) hp) (Nat.le_of_ble_eq_true rfl) P1_0 P1_2 P1_1 P1_3 (show StrChars.Road.CodA ([82, 77, 67] : List Int32) 0 (3 : Int32) [(.int (82 : Int32)), (.int (77 : Int32)), (.int (67 : Int32))] from StrChars.Road.codOf (n := 3) rfl (fun c hc => ((show ∀ c ∈ ([82, 77, 67] : List Int32), ¬ c < 0 ∧ ¬ (255 : Int32) < c by decide) c hc).2)) (own_up ([82, 77, 67] : List Int32) (show ∀ c ∈ ([82, 77, 67] : List Int32), ¬ c < 0 ∧ ¬ (255 : Int32) < c by decide)) (Nat.le_of_ble_eq_true rfl) (S_COMPACT_STRINGS.ext (hold.ext E1).2) hz (by decide) (by decide)) q3a q3c (g := (mkF m 3 #[rv a1] [(.ref c1), (.ref a1)])) rfl (by rw [hml]; rfl) (Steps.refl _) (argsL := [(.ref c1)]) (rest := []) (lenOf pd__Ljava_lang_Object__Z rfl) rfl (by show 2 * 0 + _ ≤ _; exact Nat.le_of_eq rfl) (hb hby d5_3) (fun _ _ => ⟨rfl, e1, (by decide : 2 + 0 ≤ _), (by decide : 16 + 0 ≤ _)⟩)
  dsimp only [Pt.U, Pt.locs, Pt.cells, Pt.slots] at X3 l3 y3 z3 st3 hQ3
  subst l3 y3 z3
  obtain ⟨hor3, hL3, e3⟩ := hQ3
  have hv3 : _ = some (Value.int 0) := hor3.elim (fun q => absurd q.2 (by simp)) (fun q => q.1)
  subst hv3 hL3
  have N3 := Fr.app N0 (Fr.nil n0)
  refine own_go ?_ (fun target hr => st3.trans (XS.ifNo X3.here hx rfl (hb hby d5_6) rfl ((if0 _ _).trans (teq (by decide : (0 : Int32) = (0 : Int32))).2) (XS.aloadN X3.here hx rfl (hb hby d5_9) rfl rfl hr)))
  show own_G _ p e below s _ _ _ (T3.setTop (mkF m 10 #[rv a1] [(.ref a1)]))
  obtain ⟨c4, T4, h4, k4, d4, kd4, X4, e4, E4, hS4, hk4, hZ, hown, P4_0, P4_1, P4_2, P4_3, lc4, ld4, H4c, L4, hne4, st4⟩ := ldcCH (s := s) (vm0 := T1.vm) X3 hx hZ hown (hw _ (List.mem_of_getElem? (i := 43) rfl)) wS e3 hS1 hk1 hEL (List.mem_of_getElem? (i := 1) rfl) C2.1 (vs := [(.int (90 : Int32)), (.int (68 : Int32)), (.int (65 : Int32))]) (z := (3 : Int32)) ⟨by decide, rfl⟩ (by decide) rfl (g := (mkF m 10 #[rv a1] [(.ref a1)])) rfl (hb hby d5_10) (n := 12) (by decide) (by decide) (by decide) (by decide)
  have C5 := C2.trans H4c
  refine own_go ?_ (fun target hr => st4 _ hr)
  show own_G _ p e below s _ _ _ (T4.setTop (mkF m 12 #[rv a1] [(.ref c4), (.ref a1)]))
  obtain ⟨cq6, kq6, q6a, q6b, q6c⟩ := isOf hZ e4 ((E_a1.ext E1).ext E4)
  obtain ⟨_, _, ⟨T6, L6, k6, n6⟩, -, X6, ⟨Lc6, hQ6, l6, y6, z6⟩, st6⟩ := X4.virtualBack hx (y := (⟨"java/lang/String", "equals", "(Ljava/lang/Object;)Z"⟩ : MethodName)) (z := (⟨"java/lang/String", "equals", "(Ljava/lang/Object;)Z"⟩ : MethodName)) hown (mvT hZ (hw _ (List.mem_of_getElem? (i := 32) rfl))) (mvT hZ (hw _ (List.mem_of_getElem? (i := 33) rfl))) (notFace_of_selects (args := #[]) (mvT hZ (hw _ (List.mem_of_getElem? (i := 35) rfl)))) (mvT hZ (hw _ (List.mem_of_getElem? (i := 35) rfl))) (mvT hZ (hw _ (List.mem_of_getElem? (i := 34) rfl))) (by decide) (StrChars.Road.eqW (W := 0) hZ heq (kI := 4) (hw _ (List.mem_of_getElem? (i := 7) rfl)) ((E_a1.ext E1).ext E4) ((F_a1_value.ext E1).ext E4) ((F_a1_coder.ext E1).ext E4) ((V_t.ext E1).ext E4) (show StrChars.Road.CodA ([ch0] : List Int32) 0 (1 : Int32) [(.int (ch0.toInt8.toInt32))] from StrChars.Road.codOf (n := 1) rfl (fun c hc => (hp c hc).2)) (own_up ([ch0] : List Int32) hp) (Nat.le_of_ble_eq_true rfl) P4_0 P4_2 P4_1 P4_3 (show StrChars.Road.CodA ([90, 68, 65] : List Int32) 0 (3 : Int32) [(.int (90 : Int32)), (.int (68 : Int32)), (.int (65 : Int32))] from StrChars.Road.codOf (n := 3) rfl (fun c hc => ((show ∀ c ∈ ([90, 68, 65] : List Int32), ¬ c < 0 ∧ ¬ (255 : Int32) < c by decide) c hc).2)) (own_up ([90, 68, 65] : List Int32) (show ∀ c ∈ ([90, 68, 65] : List Int32), ¬ c < 0 ∧ ¬ (255 : Int32) < c by decide)) (Nat.le_of_ble_eq_true rfl) (S_COMPACT_STRINGS.ext ((hold.ext E1).ext E4).2) hz (by decide) (by decide)) q6a q6c (g := (mkF m 12 #[rv a1] [(.ref c4), (.ref a1)])) rfl (by rw [hml]; rfl) (Steps.refl _) (argsL := [(.ref c4)]) (rest := []) (lenOf pd__Ljava_lang_Object__Z rfl) rfl (by show 2 * 0 + _ ≤ _; exact Nat.le_of_eq rfl) (hb hby d5_12) (fun _ _ => ⟨rfl, e4, (by decide : 4 + 0 ≤ _), (by decide : 32 + 0 ≤ _)⟩)
  dsimp only [Pt.U, Pt.locs, Pt.cells, Pt.slots] at X6 l6 y6 z6 st6 hQ6
  subst l6 y6 z6
  obtain ⟨hor6, hL6, e6⟩ := hQ6
  have hv6 : _ = some (Value.int 0) := hor6.elim (fun q => absurd q.2 (by simp)) (fun q => q.1)
  subst hv6 hL6
  have N6 := Fr.app N3 (Fr.nil n0)
  refine own_go ?_ (fun target hr => st6.trans (XS.ifYes X6.here hx rfl (pc0 := 15) (pc' := 22) rfl (hb hby d5_15) rfl ((if0 _ _).trans (teq (by decide : (0 : Int32) = (0 : Int32))).1) (by decide) (by decide) (XS.iconst X6.here hx rfl (hb hby d5_22) hr)))
  show own_G _ p e below s _ _ _ (T6.setTop (mkF m 23 #[rv a1] [(.int (0 : Int32))]))
  obtain ⟨fs, hr, hrun, hended, hRW⟩ := Stand.leaveW (s := s) (vm₁ := T4.vm) X6 hS4 (by rw [e6]; exact hk4) (v := some (.int (0 : Int32))) (fun h => by rw [Bd.returns] at h; cases h)
  have hCe := C5.trans (CHv.at (s := s) (vm0 := T4.vm) X6 hZ hEL C5.1)
  exact ⟨_, _, retN X6 hx (t := .boolean) Bd.returns (by simp) (hb hby d5_23) hr, hrun, hended, _, _, rfl, (by rw [show (T6.setFrames fs).heap = h4 from e6]; exact ⟨rfl, N6, (((Keep.refl h0 []).ext E1).ext E4)⟩), (by rw [hh, show (T6.setFrames fs).heap = h4 from e6]; exact hCe), hRW.1, hRW.2.1, hRW.2.2.1, hRW.2.2.2.mono (by decide) (by decide)⟩
def Q_rm_ct_2 (Z : State) (a1 : Addr) (t : Addr) (kt : ClassId) (ch0 : Int32) (ch1 : Int32) (zc : Int32) (h0 : Heap) (n0 : Nat) : Option Value → Heap → List Loc → Prop := fun v h L => v = some (.int (0 : Int32)) ∧ Fr n0 L ∧ Keep h0 h []
set_option maxRecDepth 65536 in
set_option maxHeartbeats 40000000 in
theorem rm_ct_2 (l : Launch) (Z : State) (a0 : Array Value) (hw : ∀ d ∈ tables_1, d.before a0 Z = true) (ws : List Jvm.Cond) (a1 : Addr) (t : Addr) (kt : ClassId) (ch0 : Int32) (ch1 : Int32) (zc : Int32) (h0 : Heap) (n0 : Nat) (Z0 : n0 ≤ h0.size) (E_a1 : Exa Z h0 a1 "java/lang/String") (F_a1_value : Fld Z h0 a1 "java/lang/String" "value" "[B" (.ref t)) (F_a1_coder : Fld Z h0 a1 "java/lang/String" "coder" "B" (.int (0 : Int32))) (V_t : Arv Z h0 t kt .byte (2 : Int32) [(.int (ch0.toInt8.toInt32)), (.int (ch1.toInt8.toInt32))] (.int (0 : Int32))) (hold : Old Z n0 h0) (S_COMPACT_STRINGS : Sta Z Z.heap "java/lang/String" "COMPACT_STRINGS" "Z" (.int zc)) (hp : ∀ c ∈ ([ch0, ch1] : List Int32), ¬ c < 0 ∧ ¬ (255 : Int32) < c) (hz : ¬ (zc = (0 : Int32))) :
    MetFree l (⟨"com/example/prita/prita/gnss/GnssTime", "carriesTime", "(Ljava/lang/String;)Z"⟩ : MethodName) (head1 (Jvm.Cond.code (⟨"com/example/prita/prita/gnss/GnssTime", "carriesTime", "(Ljava/lang/String;)Z"⟩ : MethodName) prog_17_method_3_code 1 (some .boolean) :: ws) ({ frames := 2, cells := 4, slots := 32, locals := 28 } : Room)) (fun a U => a = #[(.ref a1)] ∧ Z.Warmed39 U.vm ∧ U.heap = h0 ∧ CHv Z consts_1 U.vm h0) (fun _ _ _ _ _ => True) (fun _ U o U' => ∃ v L, o = .returned v ∧ (Q_rm_ct_2 Z a1 t kt ch0 ch1 zc h0 n0) v U'.heap L ∧ own_FE Z U o U' L ({ frames := 2, cells := 4, slots := 32, locals := 28 } : Room).cells ({ frames := 2, cells := 4, slots := 32, locals := 28 } : Room).slots) := by
  refine MetFree.of_bodySF (plainFor_of_name pn_5) hisR ?_
  intro p e s m args below meth c s₁ Bd hml0 hP hK
  obtain ⟨rfl, hZ, hh, hCH⟩ := hP
  have hx := Bd.exec
  have hby := Bd.bytes
  have hml : c.maxLocals = 1 := hml0
  have hown : s.vm.findClass "com/example/prita/prita/gnss/GnssTime" = some m.cls := findClass_of_methodNamed Bd.named
  have hnm := (name_of_methodNamed Bd.named Bd.method).1
  have X0 : Stand p l e ({ frames := 2, cells := 4, slots := 32, locals := 28 } : Room) s m #[(.ref a1)] below meth c s₁ [] 0 0 := Stand.of_body Bd
  have e0 : s₁.heap = h0 := by rw [← hh, Bd.state]; rfl
  have N0 := Fr.nil n0
  show own_G (own_FE Z) p e below s ({ frames := 2, cells := 4, slots := 32, locals := 28 } : Room).cells ({ frames := 2, cells := 4, slots := 32, locals := 28 } : Room).slots (Q_rm_ct_2 Z a1 t kt ch0 ch1 zc h0 n0) (s₁.setTop (entryFrame m #[(.ref a1)] 1))
  refine own_go (Y' := s₁.setTop (mkF m 0 #[rv a1] [])) ?_ (fun t k => castTop (ef_5 m a1) k)
  have hC0 := CHr.refl hCH
  have hEL := own_EW Z a0 hw
  have wS : ∀ a ∈ Bundle.stringAtoms, a.before a0 Z = true := fun d hd => hw d ((by decide +kernel : ∀ d ∈ Bundle.stringAtoms, d ∈ tables_1) d hd)
  have heq : ∀ d ∈ StrChars.Road.wordsEq, d.before a0 Z = true := fun d hd => hw d ((by decide +kernel : ∀ d ∈ StrChars.Road.wordsEq, d ∈ tables_1) d hd)
  refine own_go ?_ (fun target hr => XS.aloadN X0.here hx rfl (hb hby d5_0) rfl rfl hr)
  show own_G _ p e below s _ _ _ (s₁.setTop (mkF m 1 #[rv a1] [(.ref a1)]))
  obtain ⟨c1, T1, h1, k1, d1, kd1, X1, e1, E1, hS1, hk1, hZ, hown, P1_0, P1_1, P1_2, P1_3, lc1, ld1, H1c, L1, hne1, st1⟩ := ldcCH (s := s) (vm0 := s.vm) X0 hx hZ hown (hw _ (List.mem_of_getElem? (i := 31) rfl)) wS e0 (State.WarmedH.since (State.WarmedH.refl s) 0) (Nat.zero_le _) hEL (List.mem_of_getElem? (i := 0) rfl) hC0.1 (vs := [(.int (82 : Int32)), (.int (77 : Int32)), (.int (67 : Int32))]) (z := (3 : Int32)) ⟨by decide, rfl⟩ (by decide) rfl (g := (mkF m 1 #[rv a1] [(.ref a1)])) rfl (hb hby d5_1) (n := 12) (by decide) (by decide) (by decide) (by decide)
  have C2 := hC0.trans H1c
  refine own_go ?_ (fun target hr => st1 _ hr)
  show own_G _ p e below s _ _ _ (T1.setTop (mkF m 3 #[rv a1] [(.ref c1), (.ref a1)]))
  obtain ⟨cq3, kq3, q3a, q3b, q3c⟩ := isOf hZ e1 (E_a1.ext E1)
  obtain ⟨_, _, ⟨T3, L3, k3, n3⟩, -, X3, ⟨Lc3, hQ3, l3, y3, z3⟩, st3⟩ := X1.virtualBack hx (y := (⟨"java/lang/String", "equals", "(Ljava/lang/Object;)Z"⟩ : MethodName)) (z := (⟨"java/lang/String", "equals", "(Ljava/lang/Object;)Z"⟩ : MethodName)) hown (mvT hZ (hw _ (List.mem_of_getElem? (i := 32) rfl))) (mvT hZ (hw _ (List.mem_of_getElem? (i := 33) rfl))) (notFace_of_selects (args := #[]) (mvT hZ (hw _ (List.mem_of_getElem? (i := 35) rfl)))) (mvT hZ (hw _ (List.mem_of_getElem? (i := 35) rfl))) (mvT hZ (hw _ (List.mem_of_getElem? (i := 34) rfl))) (by decide) (StrChars.Road.eqW (W := 0) hZ heq (kI := 4) (hw _ (List.mem_of_getElem? (i := 7) rfl)) (E_a1.ext E1) (F_a1_value.ext E1) (F_a1_coder.ext E1) (V_t.ext E1) (show StrChars.Road.CodA ([ch0, ch1] : List Int32) 0 (2 : Int32) [(.int (ch0.toInt8.toInt32)), (.int (ch1.toInt8.toInt32))] from StrChars.Road.codOf (n := 2) rfl (fun c hc => (hp c hc).2)) (own_up ([ch0, ch1] : List Int32) hp) (Nat.le_of_ble_eq_true rfl) P1_0 P1_2 P1_1 P1_3 (show StrChars.Road.CodA ([82, 77, 67] : List Int32) 0 (3 : Int32) [(.int (82 : Int32)), (.int (77 : Int32)), (.int (67 : Int32))] from StrChars.Road.codOf (n := 3) rfl (fun c hc => ((show ∀ c ∈ ([82, 77, 67] : List Int32), ¬ c < 0 ∧ ¬ (255 : Int32) < c by decide) c hc).2)) (own_up ([82, 77, 67] : List Int32) (show ∀ c ∈ ([82, 77, 67] : List Int32), ¬ c < 0 ∧ ¬ (255 : Int32) < c by decide)) (Nat.le_of_ble_eq_true rfl) (S_COMPACT_STRINGS.ext (hold.ext E1).2) hz (by decide) (by decide)) q3a q3c (g := (mkF m 3 #[rv a1] [(.ref c1), (.ref a1)])) rfl (by rw [hml]; rfl) (Steps.refl _) (argsL := [(.ref c1)]) (rest := []) (lenOf pd__Ljava_lang_Object__Z rfl) rfl (by show 2 * 0 + _ ≤ _; exact Nat.le_of_eq rfl) (hb hby d5_3) (fun _ _ => ⟨rfl, e1, (by decide : 2 + 0 ≤ _), (by decide : 16 + 0 ≤ _)⟩)
  dsimp only [Pt.U, Pt.locs, Pt.cells, Pt.slots] at X3 l3 y3 z3 st3 hQ3
  subst l3 y3 z3
  obtain ⟨hor3, hL3, e3⟩ := hQ3
  have hv3 : _ = some (Value.int 0) := hor3.elim (fun q => absurd q.2 (by simp)) (fun q => q.1)
  subst hv3 hL3
  have N3 := Fr.app N0 (Fr.nil n0)
  refine own_go ?_ (fun target hr => st3.trans (XS.ifNo X3.here hx rfl (hb hby d5_6) rfl ((if0 _ _).trans (teq (by decide : (0 : Int32) = (0 : Int32))).2) (XS.aloadN X3.here hx rfl (hb hby d5_9) rfl rfl hr)))
  show own_G _ p e below s _ _ _ (T3.setTop (mkF m 10 #[rv a1] [(.ref a1)]))
  obtain ⟨c4, T4, h4, k4, d4, kd4, X4, e4, E4, hS4, hk4, hZ, hown, P4_0, P4_1, P4_2, P4_3, lc4, ld4, H4c, L4, hne4, st4⟩ := ldcCH (s := s) (vm0 := T1.vm) X3 hx hZ hown (hw _ (List.mem_of_getElem? (i := 43) rfl)) wS e3 hS1 hk1 hEL (List.mem_of_getElem? (i := 1) rfl) C2.1 (vs := [(.int (90 : Int32)), (.int (68 : Int32)), (.int (65 : Int32))]) (z := (3 : Int32)) ⟨by decide, rfl⟩ (by decide) rfl (g := (mkF m 10 #[rv a1] [(.ref a1)])) rfl (hb hby d5_10) (n := 12) (by decide) (by decide) (by decide) (by decide)
  have C5 := C2.trans H4c
  refine own_go ?_ (fun target hr => st4 _ hr)
  show own_G _ p e below s _ _ _ (T4.setTop (mkF m 12 #[rv a1] [(.ref c4), (.ref a1)]))
  obtain ⟨cq6, kq6, q6a, q6b, q6c⟩ := isOf hZ e4 ((E_a1.ext E1).ext E4)
  obtain ⟨_, _, ⟨T6, L6, k6, n6⟩, -, X6, ⟨Lc6, hQ6, l6, y6, z6⟩, st6⟩ := X4.virtualBack hx (y := (⟨"java/lang/String", "equals", "(Ljava/lang/Object;)Z"⟩ : MethodName)) (z := (⟨"java/lang/String", "equals", "(Ljava/lang/Object;)Z"⟩ : MethodName)) hown (mvT hZ (hw _ (List.mem_of_getElem? (i := 32) rfl))) (mvT hZ (hw _ (List.mem_of_getElem? (i := 33) rfl))) (notFace_of_selects (args := #[]) (mvT hZ (hw _ (List.mem_of_getElem? (i := 35) rfl)))) (mvT hZ (hw _ (List.mem_of_getElem? (i := 35) rfl))) (mvT hZ (hw _ (List.mem_of_getElem? (i := 34) rfl))) (by decide) (StrChars.Road.eqW (W := 0) hZ heq (kI := 4) (hw _ (List.mem_of_getElem? (i := 7) rfl)) ((E_a1.ext E1).ext E4) ((F_a1_value.ext E1).ext E4) ((F_a1_coder.ext E1).ext E4) ((V_t.ext E1).ext E4) (show StrChars.Road.CodA ([ch0, ch1] : List Int32) 0 (2 : Int32) [(.int (ch0.toInt8.toInt32)), (.int (ch1.toInt8.toInt32))] from StrChars.Road.codOf (n := 2) rfl (fun c hc => (hp c hc).2)) (own_up ([ch0, ch1] : List Int32) hp) (Nat.le_of_ble_eq_true rfl) P4_0 P4_2 P4_1 P4_3 (show StrChars.Road.CodA ([90, 68, 65] : List Int32) 0 (3 : Int32) [(.int (90 : Int32)), (.int (68 : Int32)), (.int (65 : Int32))] from StrChars.Road.codOf (n := 3) rfl (fun c hc => ((show ∀ c ∈ ([90, 68, 65] : List Int32), ¬ c < 0 ∧ ¬ (255 : Int32) < c by decide) c hc).2)) (own_up ([90, 68, 65] : List Int32) (show ∀ c ∈ ([90, 68, 65] : List Int32), ¬ c < 0 ∧ ¬ (255 : Int32) < c by decide)) (Nat.le_of_ble_eq_true rfl) (S_COMPACT_STRINGS.ext ((hold.ext E1).ext E4).2) hz (by decide) (by decide)) q6a q6c (g := (mkF m 12 #[rv a1] [(.ref c4), (.ref a1)])) rfl (by rw [hml]; rfl) (Steps.refl _) (argsL := [(.ref c4)]) (rest := []) (lenOf pd__Ljava_lang_Object__Z rfl) rfl (by show 2 * 0 + _ ≤ _; exact Nat.le_of_eq rfl) (hb hby d5_12) (fun _ _ => ⟨rfl, e4, (by decide : 4 + 0 ≤ _), (by decide : 32 + 0 ≤ _)⟩)
  dsimp only [Pt.U, Pt.locs, Pt.cells, Pt.slots] at X6 l6 y6 z6 st6 hQ6
  subst l6 y6 z6
  obtain ⟨hor6, hL6, e6⟩ := hQ6
  have hv6 : _ = some (Value.int 0) := hor6.elim (fun q => absurd q.2 (by simp)) (fun q => q.1)
  subst hv6 hL6
  have N6 := Fr.app N3 (Fr.nil n0)
  refine own_go ?_ (fun target hr => st6.trans (XS.ifYes X6.here hx rfl (pc0 := 15) (pc' := 22) rfl (hb hby d5_15) rfl ((if0 _ _).trans (teq (by decide : (0 : Int32) = (0 : Int32))).1) (by decide) (by decide) (XS.iconst X6.here hx rfl (hb hby d5_22) hr)))
  show own_G _ p e below s _ _ _ (T6.setTop (mkF m 23 #[rv a1] [(.int (0 : Int32))]))
  obtain ⟨fs, hr, hrun, hended, hRW⟩ := Stand.leaveW (s := s) (vm₁ := T4.vm) X6 hS4 (by rw [e6]; exact hk4) (v := some (.int (0 : Int32))) (fun h => by rw [Bd.returns] at h; cases h)
  have hCe := C5.trans (CHv.at (s := s) (vm0 := T4.vm) X6 hZ hEL C5.1)
  exact ⟨_, _, retN X6 hx (t := .boolean) Bd.returns (by simp) (hb hby d5_23) hr, hrun, hended, _, _, rfl, (by rw [show (T6.setFrames fs).heap = h4 from e6]; exact ⟨rfl, N6, (((Keep.refl h0 []).ext E1).ext E4)⟩), (by rw [hh, show (T6.setFrames fs).heap = h4 from e6]; exact hCe), hRW.1, hRW.2.1, hRW.2.2.1, hRW.2.2.2.mono (by decide) (by decide)⟩
def Q_rm_ct_4 (Z : State) (a1 : Addr) (t : Addr) (kt : ClassId) (ch0 : Int32) (ch1 : Int32) (ch2 : Int32) (ch3 : Int32) (zc : Int32) (h0 : Heap) (n0 : Nat) : Option Value → Heap → List Loc → Prop := fun v h L => v = some (.int (0 : Int32)) ∧ Fr n0 L ∧ Keep h0 h []
set_option maxRecDepth 65536 in
set_option maxHeartbeats 40000000 in
theorem rm_ct_4 (l : Launch) (Z : State) (a0 : Array Value) (hw : ∀ d ∈ tables_1, d.before a0 Z = true) (ws : List Jvm.Cond) (a1 : Addr) (t : Addr) (kt : ClassId) (ch0 : Int32) (ch1 : Int32) (ch2 : Int32) (ch3 : Int32) (zc : Int32) (h0 : Heap) (n0 : Nat) (Z0 : n0 ≤ h0.size) (E_a1 : Exa Z h0 a1 "java/lang/String") (F_a1_value : Fld Z h0 a1 "java/lang/String" "value" "[B" (.ref t)) (F_a1_coder : Fld Z h0 a1 "java/lang/String" "coder" "B" (.int (0 : Int32))) (V_t : Arv Z h0 t kt .byte (4 : Int32) [(.int (ch0.toInt8.toInt32)), (.int (ch1.toInt8.toInt32)), (.int (ch2.toInt8.toInt32)), (.int (ch3.toInt8.toInt32))] (.int (0 : Int32))) (hold : Old Z n0 h0) (S_COMPACT_STRINGS : Sta Z Z.heap "java/lang/String" "COMPACT_STRINGS" "Z" (.int zc)) (hp : ∀ c ∈ ([ch0, ch1, ch2, ch3] : List Int32), ¬ c < 0 ∧ ¬ (255 : Int32) < c) (hz : ¬ (zc = (0 : Int32))) :
    MetFree l (⟨"com/example/prita/prita/gnss/GnssTime", "carriesTime", "(Ljava/lang/String;)Z"⟩ : MethodName) (head1 (Jvm.Cond.code (⟨"com/example/prita/prita/gnss/GnssTime", "carriesTime", "(Ljava/lang/String;)Z"⟩ : MethodName) prog_17_method_3_code 1 (some .boolean) :: ws) ({ frames := 2, cells := 4, slots := 32, locals := 28 } : Room)) (fun a U => a = #[(.ref a1)] ∧ Z.Warmed39 U.vm ∧ U.heap = h0 ∧ CHv Z consts_1 U.vm h0) (fun _ _ _ _ _ => True) (fun _ U o U' => ∃ v L, o = .returned v ∧ (Q_rm_ct_4 Z a1 t kt ch0 ch1 ch2 ch3 zc h0 n0) v U'.heap L ∧ own_FE Z U o U' L ({ frames := 2, cells := 4, slots := 32, locals := 28 } : Room).cells ({ frames := 2, cells := 4, slots := 32, locals := 28 } : Room).slots) := by
  refine MetFree.of_bodySF (plainFor_of_name pn_5) hisR ?_
  intro p e s m args below meth c s₁ Bd hml0 hP hK
  obtain ⟨rfl, hZ, hh, hCH⟩ := hP
  have hx := Bd.exec
  have hby := Bd.bytes
  have hml : c.maxLocals = 1 := hml0
  have hown : s.vm.findClass "com/example/prita/prita/gnss/GnssTime" = some m.cls := findClass_of_methodNamed Bd.named
  have hnm := (name_of_methodNamed Bd.named Bd.method).1
  have X0 : Stand p l e ({ frames := 2, cells := 4, slots := 32, locals := 28 } : Room) s m #[(.ref a1)] below meth c s₁ [] 0 0 := Stand.of_body Bd
  have e0 : s₁.heap = h0 := by rw [← hh, Bd.state]; rfl
  have N0 := Fr.nil n0
  show own_G (own_FE Z) p e below s ({ frames := 2, cells := 4, slots := 32, locals := 28 } : Room).cells ({ frames := 2, cells := 4, slots := 32, locals := 28 } : Room).slots (Q_rm_ct_4 Z a1 t kt ch0 ch1 ch2 ch3 zc h0 n0) (s₁.setTop (entryFrame m #[(.ref a1)] 1))
  refine own_go (Y' := s₁.setTop (mkF m 0 #[rv a1] [])) ?_ (fun t k => castTop (ef_5 m a1) k)
  have hC0 := CHr.refl hCH
  have hEL := own_EW Z a0 hw
  have wS : ∀ a ∈ Bundle.stringAtoms, a.before a0 Z = true := fun d hd => hw d ((by decide +kernel : ∀ d ∈ Bundle.stringAtoms, d ∈ tables_1) d hd)
  have heq : ∀ d ∈ StrChars.Road.wordsEq, d.before a0 Z = true := fun d hd => hw d ((by decide +kernel : ∀ d ∈ StrChars.Road.wordsEq, d ∈ tables_1) d hd)
  refine own_go ?_ (fun target hr => XS.aloadN X0.here hx rfl (hb hby d5_0) rfl rfl hr)
  show own_G _ p e below s _ _ _ (s₁.setTop (mkF m 1 #[rv a1] [(.ref a1)]))
  obtain ⟨c1, T1, h1, k1, d1, kd1, X1, e1, E1, hS1, hk1, hZ, hown, P1_0, P1_1, P1_2, P1_3, lc1, ld1, H1c, L1, hne1, st1⟩ := ldcCH (s := s) (vm0 := s.vm) X0 hx hZ hown (hw _ (List.mem_of_getElem? (i := 31) rfl)) wS e0 (State.WarmedH.since (State.WarmedH.refl s) 0) (Nat.zero_le _) hEL (List.mem_of_getElem? (i := 0) rfl) hC0.1 (vs := [(.int (82 : Int32)), (.int (77 : Int32)), (.int (67 : Int32))]) (z := (3 : Int32)) ⟨by decide, rfl⟩ (by decide) rfl (g := (mkF m 1 #[rv a1] [(.ref a1)])) rfl (hb hby d5_1) (n := 12) (by decide) (by decide) (by decide) (by decide)
  have C2 := hC0.trans H1c
  refine own_go ?_ (fun target hr => st1 _ hr)
  show own_G _ p e below s _ _ _ (T1.setTop (mkF m 3 #[rv a1] [(.ref c1), (.ref a1)]))
  obtain ⟨cq3, kq3, q3a, q3b, q3c⟩ := isOf hZ e1 (E_a1.ext E1)
  obtain ⟨_, _, ⟨T3, L3, k3, n3⟩, -, X3, ⟨Lc3, hQ3, l3, y3, z3⟩, st3⟩ := X1.virtualBack hx (y := (⟨"java/lang/String", "equals", "(Ljava/lang/Object;)Z"⟩ : MethodName)) (z := (⟨"java/lang/String", "equals", "(Ljava/lang/Object;)Z"⟩ : MethodName)) hown (mvT hZ (hw _ (List.mem_of_getElem? (i := 32) rfl))) (mvT hZ (hw _ (List.mem_of_getElem? (i := 33) rfl))) (notFace_of_selects (args := #[]) (mvT hZ (hw _ (List.mem_of_getElem? (i := 35) rfl)))) (mvT hZ (hw _ (List.mem_of_getElem? (i := 35) rfl))) (mvT hZ (hw _ (List.mem_of_getElem? (i := 34) rfl))) (by decide) (StrChars.Road.eqW (W := 0) hZ heq (kI := 4) (hw _ (List.mem_of_getElem? (i := 7) rfl)) (E_a1.ext E1) (F_a1_value.ext E1) (F_a1_coder.ext E1) (V_t.ext E1) (show StrChars.Road.CodA ([ch0, ch1, ch2, ch3] : List Int32) 0 (4 : Int32) [(.int (ch0.toInt8.toInt32)), (.int (ch1.toInt8.toInt32)), (.int (ch2.toInt8.toInt32)), (.int (ch3.toInt8.toInt32))] from StrChars.Road.codOf (n := 4) rfl (fun c hc => (hp c hc).2)) (own_up ([ch0, ch1, ch2, ch3] : List Int32) hp) (Nat.le_of_ble_eq_true rfl) P1_0 P1_2 P1_1 P1_3 (show StrChars.Road.CodA ([82, 77, 67] : List Int32) 0 (3 : Int32) [(.int (82 : Int32)), (.int (77 : Int32)), (.int (67 : Int32))] from StrChars.Road.codOf (n := 3) rfl (fun c hc => ((show ∀ c ∈ ([82, 77, 67] : List Int32), ¬ c < 0 ∧ ¬ (255 : Int32) < c by decide) c hc).2)) (own_up ([82, 77, 67] : List Int32) (show ∀ c ∈ ([82, 77, 67] : List Int32), ¬ c < 0 ∧ ¬ (255 : Int32) < c by decide)) (Nat.le_of_ble_eq_true rfl) (S_COMPACT_STRINGS.ext (hold.ext E1).2) hz (by decide) (by decide)) q3a q3c (g := (mkF m 3 #[rv a1] [(.ref c1), (.ref a1)])) rfl (by rw [hml]; rfl) (Steps.refl _) (argsL := [(.ref c1)]) (rest := []) (lenOf pd__Ljava_lang_Object__Z rfl) rfl (by show 2 * 0 + _ ≤ _; exact Nat.le_of_eq rfl) (hb hby d5_3) (fun _ _ => ⟨rfl, e1, (by decide : 2 + 0 ≤ _), (by decide : 16 + 0 ≤ _)⟩)
  dsimp only [Pt.U, Pt.locs, Pt.cells, Pt.slots] at X3 l3 y3 z3 st3 hQ3
  subst l3 y3 z3
  obtain ⟨hor3, hL3, e3⟩ := hQ3
  have hv3 : _ = some (Value.int 0) := hor3.elim (fun q => absurd q.2 (by simp)) (fun q => q.1)
  subst hv3 hL3
  have N3 := Fr.app N0 (Fr.nil n0)
  refine own_go ?_ (fun target hr => st3.trans (XS.ifNo X3.here hx rfl (hb hby d5_6) rfl ((if0 _ _).trans (teq (by decide : (0 : Int32) = (0 : Int32))).2) (XS.aloadN X3.here hx rfl (hb hby d5_9) rfl rfl hr)))
  show own_G _ p e below s _ _ _ (T3.setTop (mkF m 10 #[rv a1] [(.ref a1)]))
  obtain ⟨c4, T4, h4, k4, d4, kd4, X4, e4, E4, hS4, hk4, hZ, hown, P4_0, P4_1, P4_2, P4_3, lc4, ld4, H4c, L4, hne4, st4⟩ := ldcCH (s := s) (vm0 := T1.vm) X3 hx hZ hown (hw _ (List.mem_of_getElem? (i := 43) rfl)) wS e3 hS1 hk1 hEL (List.mem_of_getElem? (i := 1) rfl) C2.1 (vs := [(.int (90 : Int32)), (.int (68 : Int32)), (.int (65 : Int32))]) (z := (3 : Int32)) ⟨by decide, rfl⟩ (by decide) rfl (g := (mkF m 10 #[rv a1] [(.ref a1)])) rfl (hb hby d5_10) (n := 12) (by decide) (by decide) (by decide) (by decide)
  have C5 := C2.trans H4c
  refine own_go ?_ (fun target hr => st4 _ hr)
  show own_G _ p e below s _ _ _ (T4.setTop (mkF m 12 #[rv a1] [(.ref c4), (.ref a1)]))
  obtain ⟨cq6, kq6, q6a, q6b, q6c⟩ := isOf hZ e4 ((E_a1.ext E1).ext E4)
  obtain ⟨_, _, ⟨T6, L6, k6, n6⟩, -, X6, ⟨Lc6, hQ6, l6, y6, z6⟩, st6⟩ := X4.virtualBack hx (y := (⟨"java/lang/String", "equals", "(Ljava/lang/Object;)Z"⟩ : MethodName)) (z := (⟨"java/lang/String", "equals", "(Ljava/lang/Object;)Z"⟩ : MethodName)) hown (mvT hZ (hw _ (List.mem_of_getElem? (i := 32) rfl))) (mvT hZ (hw _ (List.mem_of_getElem? (i := 33) rfl))) (notFace_of_selects (args := #[]) (mvT hZ (hw _ (List.mem_of_getElem? (i := 35) rfl)))) (mvT hZ (hw _ (List.mem_of_getElem? (i := 35) rfl))) (mvT hZ (hw _ (List.mem_of_getElem? (i := 34) rfl))) (by decide) (StrChars.Road.eqW (W := 0) hZ heq (kI := 4) (hw _ (List.mem_of_getElem? (i := 7) rfl)) ((E_a1.ext E1).ext E4) ((F_a1_value.ext E1).ext E4) ((F_a1_coder.ext E1).ext E4) ((V_t.ext E1).ext E4) (show StrChars.Road.CodA ([ch0, ch1, ch2, ch3] : List Int32) 0 (4 : Int32) [(.int (ch0.toInt8.toInt32)), (.int (ch1.toInt8.toInt32)), (.int (ch2.toInt8.toInt32)), (.int (ch3.toInt8.toInt32))] from StrChars.Road.codOf (n := 4) rfl (fun c hc => (hp c hc).2)) (own_up ([ch0, ch1, ch2, ch3] : List Int32) hp) (Nat.le_of_ble_eq_true rfl) P4_0 P4_2 P4_1 P4_3 (show StrChars.Road.CodA ([90, 68, 65] : List Int32) 0 (3 : Int32) [(.int (90 : Int32)), (.int (68 : Int32)), (.int (65 : Int32))] from StrChars.Road.codOf (n := 3) rfl (fun c hc => ((show ∀ c ∈ ([90, 68, 65] : List Int32), ¬ c < 0 ∧ ¬ (255 : Int32) < c by decide) c hc).2)) (own_up ([90, 68, 65] : List Int32) (show ∀ c ∈ ([90, 68, 65] : List Int32), ¬ c < 0 ∧ ¬ (255 : Int32) < c by decide)) (Nat.le_of_ble_eq_true rfl) (S_COMPACT_STRINGS.ext ((hold.ext E1).ext E4).2) hz (by decide) (by decide)) q6a q6c (g := (mkF m 12 #[rv a1] [(.ref c4), (.ref a1)])) rfl (by rw [hml]; rfl) (Steps.refl _) (argsL := [(.ref c4)]) (rest := []) (lenOf pd__Ljava_lang_Object__Z rfl) rfl (by show 2 * 0 + _ ≤ _; exact Nat.le_of_eq rfl) (hb hby d5_12) (fun _ _ => ⟨rfl, e4, (by decide : 4 + 0 ≤ _), (by decide : 32 + 0 ≤ _)⟩)
  dsimp only [Pt.U, Pt.locs, Pt.cells, Pt.slots] at X6 l6 y6 z6 st6 hQ6
  subst l6 y6 z6
  obtain ⟨hor6, hL6, e6⟩ := hQ6
  have hv6 : _ = some (Value.int 0) := hor6.elim (fun q => absurd q.2 (by simp)) (fun q => q.1)
  subst hv6 hL6
  have N6 := Fr.app N3 (Fr.nil n0)
  refine own_go ?_ (fun target hr => st6.trans (XS.ifYes X6.here hx rfl (pc0 := 15) (pc' := 22) rfl (hb hby d5_15) rfl ((if0 _ _).trans (teq (by decide : (0 : Int32) = (0 : Int32))).1) (by decide) (by decide) (XS.iconst X6.here hx rfl (hb hby d5_22) hr)))
  show own_G _ p e below s _ _ _ (T6.setTop (mkF m 23 #[rv a1] [(.int (0 : Int32))]))
  obtain ⟨fs, hr, hrun, hended, hRW⟩ := Stand.leaveW (s := s) (vm₁ := T4.vm) X6 hS4 (by rw [e6]; exact hk4) (v := some (.int (0 : Int32))) (fun h => by rw [Bd.returns] at h; cases h)
  have hCe := C5.trans (CHv.at (s := s) (vm0 := T4.vm) X6 hZ hEL C5.1)
  exact ⟨_, _, retN X6 hx (t := .boolean) Bd.returns (by simp) (hb hby d5_23) hr, hrun, hended, _, _, rfl, (by rw [show (T6.setFrames fs).heap = h4 from e6]; exact ⟨rfl, N6, (((Keep.refl h0 []).ext E1).ext E4)⟩), (by rw [hh, show (T6.setFrames fs).heap = h4 from e6]; exact hCe), hRW.1, hRW.2.1, hRW.2.2.1, hRW.2.2.2.mono (by decide) (by decide)⟩
theorem d5_18 : decode prog_17_method_3_code 18 = .ok (.iconst 1, 1) := by decide +kernel
theorem d5_19 : decode prog_17_method_3_code 19 = .ok (.goto 4, 3) := by decide +kernel
def Q_rm_ct_3r (Z : State) (a1 : Addr) (t : Addr) (kt : ClassId) (ch0 : Int32) (ch1 : Int32) (ch2 : Int32) (zc : Int32) (h0 : Heap) (n0 : Nat) : Option Value → Heap → List Loc → Prop := fun v h L => v = some (.int (1 : Int32)) ∧ Fr n0 L ∧ Keep h0 h []
set_option maxRecDepth 65536 in
set_option maxHeartbeats 40000000 in
theorem rm_ct_3r (l : Launch) (Z : State) (a0 : Array Value) (hw : ∀ d ∈ tables_1, d.before a0 Z = true) (ws : List Jvm.Cond) (a1 : Addr) (t : Addr) (kt : ClassId) (ch0 : Int32) (ch1 : Int32) (ch2 : Int32) (zc : Int32) (h0 : Heap) (n0 : Nat) (Z0 : n0 ≤ h0.size) (E_a1 : Exa Z h0 a1 "java/lang/String") (F_a1_value : Fld Z h0 a1 "java/lang/String" "value" "[B" (.ref t)) (F_a1_coder : Fld Z h0 a1 "java/lang/String" "coder" "B" (.int (0 : Int32))) (V_t : Arv Z h0 t kt .byte (3 : Int32) [(.int (ch0.toInt8.toInt32)), (.int (ch1.toInt8.toInt32)), (.int (ch2.toInt8.toInt32))] (.int (0 : Int32))) (hold : Old Z n0 h0) (S_COMPACT_STRINGS : Sta Z Z.heap "java/lang/String" "COMPACT_STRINGS" "Z" (.int zc)) (hp : ∀ c ∈ ([ch0, ch1, ch2] : List Int32), ¬ c < 0 ∧ ¬ (255 : Int32) < c) (hz : ¬ (zc = (0 : Int32))) (hr0 : ch0 = (82 : Int32)) (hr1 : ch1 = (77 : Int32)) (hr2 : ch2 = (67 : Int32)) :
    MetFree l (⟨"com/example/prita/prita/gnss/GnssTime", "carriesTime", "(Ljava/lang/String;)Z"⟩ : MethodName) (head1 (Jvm.Cond.code (⟨"com/example/prita/prita/gnss/GnssTime", "carriesTime", "(Ljava/lang/String;)Z"⟩ : MethodName) prog_17_method_3_code 1 (some .boolean) :: ws) ({ frames := 2, cells := 2, slots := 16, locals := 28 } : Room)) (fun a U => a = #[(.ref a1)] ∧ Z.Warmed39 U.vm ∧ U.heap = h0 ∧ CHv Z consts_1 U.vm h0) (fun _ _ _ _ _ => True) (fun _ U o U' => ∃ v L, o = .returned v ∧ (Q_rm_ct_3r Z a1 t kt ch0 ch1 ch2 zc h0 n0) v U'.heap L ∧ own_FE Z U o U' L ({ frames := 2, cells := 2, slots := 16, locals := 28 } : Room).cells ({ frames := 2, cells := 2, slots := 16, locals := 28 } : Room).slots) := by
  refine MetFree.of_bodySF (plainFor_of_name pn_5) hisR ?_
  intro p e s m args below meth c s₁ Bd hml0 hP hK
  obtain ⟨rfl, hZ, hh, hCH⟩ := hP
  have hx := Bd.exec
  have hby := Bd.bytes
  have hml : c.maxLocals = 1 := hml0
  have hown : s.vm.findClass "com/example/prita/prita/gnss/GnssTime" = some m.cls := findClass_of_methodNamed Bd.named
  have hnm := (name_of_methodNamed Bd.named Bd.method).1
  have X0 : Stand p l e ({ frames := 2, cells := 2, slots := 16, locals := 28 } : Room) s m #[(.ref a1)] below meth c s₁ [] 0 0 := Stand.of_body Bd
  have e0 : s₁.heap = h0 := by rw [← hh, Bd.state]; rfl
  have N0 := Fr.nil n0
  show own_G (own_FE Z) p e below s ({ frames := 2, cells := 2, slots := 16, locals := 28 } : Room).cells ({ frames := 2, cells := 2, slots := 16, locals := 28 } : Room).slots (Q_rm_ct_3r Z a1 t kt ch0 ch1 ch2 zc h0 n0) (s₁.setTop (entryFrame m #[(.ref a1)] 1))
  refine own_go (Y' := s₁.setTop (mkF m 0 #[rv a1] [])) ?_ (fun t k => castTop (ef_5 m a1) k)
  have hC0 := CHr.refl hCH
  have hEL := own_EW Z a0 hw
  have wS : ∀ a ∈ Bundle.stringAtoms, a.before a0 Z = true := fun d hd => hw d ((by decide +kernel : ∀ d ∈ Bundle.stringAtoms, d ∈ tables_1) d hd)
  have heq : ∀ d ∈ StrChars.Road.wordsEq, d.before a0 Z = true := fun d hd => hw d ((by decide +kernel : ∀ d ∈ StrChars.Road.wordsEq, d ∈ tables_1) d hd)
  refine own_go ?_ (fun target hr => XS.aloadN X0.here hx rfl (hb hby d5_0) rfl rfl hr)
  show own_G _ p e below s _ _ _ (s₁.setTop (mkF m 1 #[rv a1] [(.ref a1)]))
  obtain ⟨c1, T1, h1, k1, d1, kd1, X1, e1, E1, hS1, hk1, hZ, hown, P1_0, P1_1, P1_2, P1_3, lc1, ld1, H1c, L1, hne1, st1⟩ := ldcCH (s := s) (vm0 := s.vm) X0 hx hZ hown (hw _ (List.mem_of_getElem? (i := 31) rfl)) wS e0 (State.WarmedH.since (State.WarmedH.refl s) 0) (Nat.zero_le _) hEL (List.mem_of_getElem? (i := 0) rfl) hC0.1 (vs := [(.int (82 : Int32)), (.int (77 : Int32)), (.int (67 : Int32))]) (z := (3 : Int32)) ⟨by decide, rfl⟩ (by decide) rfl (g := (mkF m 1 #[rv a1] [(.ref a1)])) rfl (hb hby d5_1) (n := 12) (by decide) (by decide) (by decide) (by decide)
  have C2 := hC0.trans H1c
  refine own_go ?_ (fun target hr => st1 _ hr)
  show own_G _ p e below s _ _ _ (T1.setTop (mkF m 3 #[rv a1] [(.ref c1), (.ref a1)]))
  obtain ⟨cq3, kq3, q3a, q3b, q3c⟩ := isOf hZ e1 (E_a1.ext E1)
  obtain ⟨_, _, ⟨T3, L3, k3, n3⟩, -, X3, ⟨Lc3, hQ3, l3, y3, z3⟩, st3⟩ := X1.virtualBack hx (y := (⟨"java/lang/String", "equals", "(Ljava/lang/Object;)Z"⟩ : MethodName)) (z := (⟨"java/lang/String", "equals", "(Ljava/lang/Object;)Z"⟩ : MethodName)) hown (mvT hZ (hw _ (List.mem_of_getElem? (i := 32) rfl))) (mvT hZ (hw _ (List.mem_of_getElem? (i := 33) rfl))) (notFace_of_selects (args := #[]) (mvT hZ (hw _ (List.mem_of_getElem? (i := 35) rfl)))) (mvT hZ (hw _ (List.mem_of_getElem? (i := 35) rfl))) (mvT hZ (hw _ (List.mem_of_getElem? (i := 34) rfl))) (by decide) (StrChars.Road.eqW (W := 0) hZ heq (kI := 4) (hw _ (List.mem_of_getElem? (i := 7) rfl)) (E_a1.ext E1) (F_a1_value.ext E1) (F_a1_coder.ext E1) (V_t.ext E1) (show StrChars.Road.CodA ([ch0, ch1, ch2] : List Int32) 0 (3 : Int32) [(.int (ch0.toInt8.toInt32)), (.int (ch1.toInt8.toInt32)), (.int (ch2.toInt8.toInt32))] from StrChars.Road.codOf (n := 3) rfl (fun c hc => (hp c hc).2)) (own_up ([ch0, ch1, ch2] : List Int32) hp) (Nat.le_of_ble_eq_true rfl) P1_0 P1_2 P1_1 P1_3 (show StrChars.Road.CodA ([82, 77, 67] : List Int32) 0 (3 : Int32) [(.int (82 : Int32)), (.int (77 : Int32)), (.int (67 : Int32))] from StrChars.Road.codOf (n := 3) rfl (fun c hc => ((show ∀ c ∈ ([82, 77, 67] : List Int32), ¬ c < 0 ∧ ¬ (255 : Int32) < c by decide) c hc).2)) (own_up ([82, 77, 67] : List Int32) (show ∀ c ∈ ([82, 77, 67] : List Int32), ¬ c < 0 ∧ ¬ (255 : Int32) < c by decide)) (Nat.le_of_ble_eq_true rfl) (S_COMPACT_STRINGS.ext (hold.ext E1).2) hz (by decide) (by decide)) q3a q3c (g := (mkF m 3 #[rv a1] [(.ref c1), (.ref a1)])) rfl (by rw [hml]; rfl) (Steps.refl _) (argsL := [(.ref c1)]) (rest := []) (lenOf pd__Ljava_lang_Object__Z rfl) rfl (by show 2 * 0 + _ ≤ _; exact Nat.le_of_eq rfl) (hb hby d5_3) (fun _ _ => ⟨rfl, e1, (by decide : 2 + 0 ≤ _), (by decide : 16 + 0 ≤ _)⟩)
  dsimp only [Pt.U, Pt.locs, Pt.cells, Pt.slots] at X3 l3 y3 z3 st3 hQ3
  subst l3 y3 z3
  obtain ⟨hor3, hL3, e3⟩ := hQ3
  have hv3 : _ = some (Value.int 1) := hor3.elim (fun q => q.1) (fun q => absurd (by rw [hr0, hr1, hr2]) q.2)
  subst hv3 hL3
  have N3 := Fr.app N0 (Fr.nil n0)
  refine own_go ?_ (fun target hr => st3.trans (XS.ifYes X3.here hx rfl (pc0 := 6) (pc' := 18) rfl (hb hby d5_6) rfl ((if0 _ _).trans (feq (by decide : ¬ ((1 : Int32) = (0 : Int32)))).2) (by decide) (by decide) (XS.iconst X3.here hx rfl (hb hby d5_18) (XS.goto X3.here hx rfl (pc0 := 19) (pc' := 23) rfl (hb hby d5_19) (by decide) (by decide) hr))))
  show own_G _ p e below s _ _ _ (T3.setTop (mkF m 23 #[rv a1] [(.int (1 : Int32))]))
  obtain ⟨fs, hr, hrun, hended, hRW⟩ := Stand.leaveW (s := s) (vm₁ := T1.vm) X3 hS1 (by rw [e3]; exact hk1) (v := some (.int (1 : Int32))) (fun h => by rw [Bd.returns] at h; cases h)
  have hCe := C2.trans (CHv.at (s := s) (vm0 := T1.vm) X3 hZ hEL C2.1)
  exact ⟨_, _, retN X3 hx (t := .boolean) Bd.returns (by simp) (hb hby d5_23) hr, hrun, hended, _, _, rfl, (by rw [show (T3.setFrames fs).heap = h1 from e3]; exact ⟨rfl, N3, ((Keep.refl h0 []).ext E1)⟩), (by rw [hh, show (T3.setFrames fs).heap = h1 from e3]; exact hCe), hRW.1, hRW.2.1, hRW.2.2.1, hRW.2.2.2.mono (by decide) (by decide)⟩
def Q_rm_ct_3z (Z : State) (a1 : Addr) (t : Addr) (kt : ClassId) (ch0 : Int32) (ch1 : Int32) (ch2 : Int32) (zc : Int32) (h0 : Heap) (n0 : Nat) : Option Value → Heap → List Loc → Prop := fun v h L => v = some (.int (1 : Int32)) ∧ Fr n0 L ∧ Keep h0 h []
set_option maxRecDepth 65536 in
set_option maxHeartbeats 40000000 in
theorem rm_ct_3z (l : Launch) (Z : State) (a0 : Array Value) (hw : ∀ d ∈ tables_1, d.before a0 Z = true) (ws : List Jvm.Cond) (a1 : Addr) (t : Addr) (kt : ClassId) (ch0 : Int32) (ch1 : Int32) (ch2 : Int32) (zc : Int32) (h0 : Heap) (n0 : Nat) (Z0 : n0 ≤ h0.size) (E_a1 : Exa Z h0 a1 "java/lang/String") (F_a1_value : Fld Z h0 a1 "java/lang/String" "value" "[B" (.ref t)) (F_a1_coder : Fld Z h0 a1 "java/lang/String" "coder" "B" (.int (0 : Int32))) (V_t : Arv Z h0 t kt .byte (3 : Int32) [(.int (ch0.toInt8.toInt32)), (.int (ch1.toInt8.toInt32)), (.int (ch2.toInt8.toInt32))] (.int (0 : Int32))) (hold : Old Z n0 h0) (S_COMPACT_STRINGS : Sta Z Z.heap "java/lang/String" "COMPACT_STRINGS" "Z" (.int zc)) (hp : ∀ c ∈ ([ch0, ch1, ch2] : List Int32), ¬ c < 0 ∧ ¬ (255 : Int32) < c) (hz : ¬ (zc = (0 : Int32))) (hz0 : ch0 = (90 : Int32)) (hz1 : ch1 = (68 : Int32)) (hz2 : ch2 = (65 : Int32)) (nr : ¬ (ch0 = (82 : Int32) ∧ ch1 = (77 : Int32) ∧ ch2 = (67 : Int32))) :
    MetFree l (⟨"com/example/prita/prita/gnss/GnssTime", "carriesTime", "(Ljava/lang/String;)Z"⟩ : MethodName) (head1 (Jvm.Cond.code (⟨"com/example/prita/prita/gnss/GnssTime", "carriesTime", "(Ljava/lang/String;)Z"⟩ : MethodName) prog_17_method_3_code 1 (some .boolean) :: ws) ({ frames := 2, cells := 4, slots := 32, locals := 28 } : Room)) (fun a U => a = #[(.ref a1)] ∧ Z.Warmed39 U.vm ∧ U.heap = h0 ∧ CHv Z consts_1 U.vm h0) (fun _ _ _ _ _ => True) (fun _ U o U' => ∃ v L, o = .returned v ∧ (Q_rm_ct_3z Z a1 t kt ch0 ch1 ch2 zc h0 n0) v U'.heap L ∧ own_FE Z U o U' L ({ frames := 2, cells := 4, slots := 32, locals := 28 } : Room).cells ({ frames := 2, cells := 4, slots := 32, locals := 28 } : Room).slots) := by
  refine MetFree.of_bodySF (plainFor_of_name pn_5) hisR ?_
  intro p e s m args below meth c s₁ Bd hml0 hP hK
  obtain ⟨rfl, hZ, hh, hCH⟩ := hP
  have hx := Bd.exec
  have hby := Bd.bytes
  have hml : c.maxLocals = 1 := hml0
  have hown : s.vm.findClass "com/example/prita/prita/gnss/GnssTime" = some m.cls := findClass_of_methodNamed Bd.named
  have hnm := (name_of_methodNamed Bd.named Bd.method).1
  have X0 : Stand p l e ({ frames := 2, cells := 4, slots := 32, locals := 28 } : Room) s m #[(.ref a1)] below meth c s₁ [] 0 0 := Stand.of_body Bd
  have e0 : s₁.heap = h0 := by rw [← hh, Bd.state]; rfl
  have N0 := Fr.nil n0
  show own_G (own_FE Z) p e below s ({ frames := 2, cells := 4, slots := 32, locals := 28 } : Room).cells ({ frames := 2, cells := 4, slots := 32, locals := 28 } : Room).slots (Q_rm_ct_3z Z a1 t kt ch0 ch1 ch2 zc h0 n0) (s₁.setTop (entryFrame m #[(.ref a1)] 1))
  refine own_go (Y' := s₁.setTop (mkF m 0 #[rv a1] [])) ?_ (fun t k => castTop (ef_5 m a1) k)
  have hC0 := CHr.refl hCH
  have hEL := own_EW Z a0 hw
  have wS : ∀ a ∈ Bundle.stringAtoms, a.before a0 Z = true := fun d hd => hw d ((by decide +kernel : ∀ d ∈ Bundle.stringAtoms, d ∈ tables_1) d hd)
  have heq : ∀ d ∈ StrChars.Road.wordsEq, d.before a0 Z = true := fun d hd => hw d ((by decide +kernel : ∀ d ∈ StrChars.Road.wordsEq, d ∈ tables_1) d hd)
  refine own_go ?_ (fun target hr => XS.aloadN X0.here hx rfl (hb hby d5_0) rfl rfl hr)
  show own_G _ p e below s _ _ _ (s₁.setTop (mkF m 1 #[rv a1] [(.ref a1)]))
  obtain ⟨c1, T1, h1, k1, d1, kd1, X1, e1, E1, hS1, hk1, hZ, hown, P1_0, P1_1, P1_2, P1_3, lc1, ld1, H1c, L1, hne1, st1⟩ := ldcCH (s := s) (vm0 := s.vm) X0 hx hZ hown (hw _ (List.mem_of_getElem? (i := 31) rfl)) wS e0 (State.WarmedH.since (State.WarmedH.refl s) 0) (Nat.zero_le _) hEL (List.mem_of_getElem? (i := 0) rfl) hC0.1 (vs := [(.int (82 : Int32)), (.int (77 : Int32)), (.int (67 : Int32))]) (z := (3 : Int32)) ⟨by decide, rfl⟩ (by decide) rfl (g := (mkF m 1 #[rv a1] [(.ref a1)])) rfl (hb hby d5_1) (n := 12) (by decide) (by decide) (by decide) (by decide)
  have C2 := hC0.trans H1c
  refine own_go ?_ (fun target hr => st1 _ hr)
  show own_G _ p e below s _ _ _ (T1.setTop (mkF m 3 #[rv a1] [(.ref c1), (.ref a1)]))
  obtain ⟨cq3, kq3, q3a, q3b, q3c⟩ := isOf hZ e1 (E_a1.ext E1)
  obtain ⟨_, _, ⟨T3, L3, k3, n3⟩, -, X3, ⟨Lc3, hQ3, l3, y3, z3⟩, st3⟩ := X1.virtualBack hx (y := (⟨"java/lang/String", "equals", "(Ljava/lang/Object;)Z"⟩ : MethodName)) (z := (⟨"java/lang/String", "equals", "(Ljava/lang/Object;)Z"⟩ : MethodName)) hown (mvT hZ (hw _ (List.mem_of_getElem? (i := 32) rfl))) (mvT hZ (hw _ (List.mem_of_getElem? (i := 33) rfl))) (notFace_of_selects (args := #[]) (mvT hZ (hw _ (List.mem_of_getElem? (i := 35) rfl)))) (mvT hZ (hw _ (List.mem_of_getElem? (i := 35) rfl))) (mvT hZ (hw _ (List.mem_of_getElem? (i := 34) rfl))) (by decide) (StrChars.Road.eqW (W := 0) hZ heq (kI := 4) (hw _ (List.mem_of_getElem? (i := 7) rfl)) (E_a1.ext E1) (F_a1_value.ext E1) (F_a1_coder.ext E1) (V_t.ext E1) (show StrChars.Road.CodA ([ch0, ch1, ch2] : List Int32) 0 (3 : Int32) [(.int (ch0.toInt8.toInt32)), (.int (ch1.toInt8.toInt32)), (.int (ch2.toInt8.toInt32))] from StrChars.Road.codOf (n := 3) rfl (fun c hc => (hp c hc).2)) (own_up ([ch0, ch1, ch2] : List Int32) hp) (Nat.le_of_ble_eq_true rfl) P1_0 P1_2 P1_1 P1_3 (show StrChars.Road.CodA ([82, 77, 67] : List Int32) 0 (3 : Int32) [(.int (82 : Int32)), (.int (77 : Int32)), (.int (67 : Int32))] from StrChars.Road.codOf (n := 3) rfl (fun c hc => ((show ∀ c ∈ ([82, 77, 67] : List Int32), ¬ c < 0 ∧ ¬ (255 : Int32) < c by decide) c hc).2)) (own_up ([82, 77, 67] : List Int32) (show ∀ c ∈ ([82, 77, 67] : List Int32), ¬ c < 0 ∧ ¬ (255 : Int32) < c by decide)) (Nat.le_of_ble_eq_true rfl) (S_COMPACT_STRINGS.ext (hold.ext E1).2) hz (by decide) (by decide)) q3a q3c (g := (mkF m 3 #[rv a1] [(.ref c1), (.ref a1)])) rfl (by rw [hml]; rfl) (Steps.refl _) (argsL := [(.ref c1)]) (rest := []) (lenOf pd__Ljava_lang_Object__Z rfl) rfl (by show 2 * 0 + _ ≤ _; exact Nat.le_of_eq rfl) (hb hby d5_3) (fun _ _ => ⟨rfl, e1, (by decide : 2 + 0 ≤ _), (by decide : 16 + 0 ≤ _)⟩)
  dsimp only [Pt.U, Pt.locs, Pt.cells, Pt.slots] at X3 l3 y3 z3 st3 hQ3
  subst l3 y3 z3
  obtain ⟨hor3, hL3, e3⟩ := hQ3
  have hv3 : _ = some (Value.int 0) := hor3.elim (fun q => absurd q.2 (fun q => nr (by simpa using q))) (fun q => q.1)
  subst hv3 hL3
  have N3 := Fr.app N0 (Fr.nil n0)
  refine own_go ?_ (fun target hr => st3.trans (XS.ifNo X3.here hx rfl (hb hby d5_6) rfl ((if0 _ _).trans (teq (by decide : (0 : Int32) = (0 : Int32))).2) (XS.aloadN X3.here hx rfl (hb hby d5_9) rfl rfl hr)))
  show own_G _ p e below s _ _ _ (T3.setTop (mkF m 10 #[rv a1] [(.ref a1)]))
  obtain ⟨c4, T4, h4, k4, d4, kd4, X4, e4, E4, hS4, hk4, hZ, hown, P4_0, P4_1, P4_2, P4_3, lc4, ld4, H4c, L4, hne4, st4⟩ := ldcCH (s := s) (vm0 := T1.vm) X3 hx hZ hown (hw _ (List.mem_of_getElem? (i := 43) rfl)) wS e3 hS1 hk1 hEL (List.mem_of_getElem? (i := 1) rfl) C2.1 (vs := [(.int (90 : Int32)), (.int (68 : Int32)), (.int (65 : Int32))]) (z := (3 : Int32)) ⟨by decide, rfl⟩ (by decide) rfl (g := (mkF m 10 #[rv a1] [(.ref a1)])) rfl (hb hby d5_10) (n := 12) (by decide) (by decide) (by decide) (by decide)
  have C5 := C2.trans H4c
  refine own_go ?_ (fun target hr => st4 _ hr)
  show own_G _ p e below s _ _ _ (T4.setTop (mkF m 12 #[rv a1] [(.ref c4), (.ref a1)]))
  obtain ⟨cq6, kq6, q6a, q6b, q6c⟩ := isOf hZ e4 ((E_a1.ext E1).ext E4)
  obtain ⟨_, _, ⟨T6, L6, k6, n6⟩, -, X6, ⟨Lc6, hQ6, l6, y6, z6⟩, st6⟩ := X4.virtualBack hx (y := (⟨"java/lang/String", "equals", "(Ljava/lang/Object;)Z"⟩ : MethodName)) (z := (⟨"java/lang/String", "equals", "(Ljava/lang/Object;)Z"⟩ : MethodName)) hown (mvT hZ (hw _ (List.mem_of_getElem? (i := 32) rfl))) (mvT hZ (hw _ (List.mem_of_getElem? (i := 33) rfl))) (notFace_of_selects (args := #[]) (mvT hZ (hw _ (List.mem_of_getElem? (i := 35) rfl)))) (mvT hZ (hw _ (List.mem_of_getElem? (i := 35) rfl))) (mvT hZ (hw _ (List.mem_of_getElem? (i := 34) rfl))) (by decide) (StrChars.Road.eqW (W := 0) hZ heq (kI := 4) (hw _ (List.mem_of_getElem? (i := 7) rfl)) ((E_a1.ext E1).ext E4) ((F_a1_value.ext E1).ext E4) ((F_a1_coder.ext E1).ext E4) ((V_t.ext E1).ext E4) (show StrChars.Road.CodA ([ch0, ch1, ch2] : List Int32) 0 (3 : Int32) [(.int (ch0.toInt8.toInt32)), (.int (ch1.toInt8.toInt32)), (.int (ch2.toInt8.toInt32))] from StrChars.Road.codOf (n := 3) rfl (fun c hc => (hp c hc).2)) (own_up ([ch0, ch1, ch2] : List Int32) hp) (Nat.le_of_ble_eq_true rfl) P4_0 P4_2 P4_1 P4_3 (show StrChars.Road.CodA ([90, 68, 65] : List Int32) 0 (3 : Int32) [(.int (90 : Int32)), (.int (68 : Int32)), (.int (65 : Int32))] from StrChars.Road.codOf (n := 3) rfl (fun c hc => ((show ∀ c ∈ ([90, 68, 65] : List Int32), ¬ c < 0 ∧ ¬ (255 : Int32) < c by decide) c hc).2)) (own_up ([90, 68, 65] : List Int32) (show ∀ c ∈ ([90, 68, 65] : List Int32), ¬ c < 0 ∧ ¬ (255 : Int32) < c by decide)) (Nat.le_of_ble_eq_true rfl) (S_COMPACT_STRINGS.ext ((hold.ext E1).ext E4).2) hz (by decide) (by decide)) q6a q6c (g := (mkF m 12 #[rv a1] [(.ref c4), (.ref a1)])) rfl (by rw [hml]; rfl) (Steps.refl _) (argsL := [(.ref c4)]) (rest := []) (lenOf pd__Ljava_lang_Object__Z rfl) rfl (by show 2 * 0 + _ ≤ _; exact Nat.le_of_eq rfl) (hb hby d5_12) (fun _ _ => ⟨rfl, e4, (by decide : 4 + 0 ≤ _), (by decide : 32 + 0 ≤ _)⟩)
  dsimp only [Pt.U, Pt.locs, Pt.cells, Pt.slots] at X6 l6 y6 z6 st6 hQ6
  subst l6 y6 z6
  obtain ⟨hor6, hL6, e6⟩ := hQ6
  have hv6 : _ = some (Value.int 1) := hor6.elim (fun q => q.1) (fun q => absurd (by rw [hz0, hz1, hz2]) q.2)
  subst hv6 hL6
  have N6 := Fr.app N3 (Fr.nil n0)
  refine own_go ?_ (fun target hr => st6.trans (XS.ifNo X6.here hx rfl (hb hby d5_15) rfl ((if0 _ _).trans (feq (by decide : ¬ ((1 : Int32) = (0 : Int32)))).1) (XS.iconst X6.here hx rfl (hb hby d5_18) (XS.goto X6.here hx rfl (pc0 := 19) (pc' := 23) rfl (hb hby d5_19) (by decide) (by decide) hr))))
  show own_G _ p e below s _ _ _ (T6.setTop (mkF m 23 #[rv a1] [(.int (1 : Int32))]))
  obtain ⟨fs, hr, hrun, hended, hRW⟩ := Stand.leaveW (s := s) (vm₁ := T4.vm) X6 hS4 (by rw [e6]; exact hk4) (v := some (.int (1 : Int32))) (fun h => by rw [Bd.returns] at h; cases h)
  have hCe := C5.trans (CHv.at (s := s) (vm0 := T4.vm) X6 hZ hEL C5.1)
  exact ⟨_, _, retN X6 hx (t := .boolean) Bd.returns (by simp) (hb hby d5_23) hr, hrun, hended, _, _, rfl, (by rw [show (T6.setFrames fs).heap = h4 from e6]; exact ⟨rfl, N6, (((Keep.refl h0 []).ext E1).ext E4)⟩), (by rw [hh, show (T6.setFrames fs).heap = h4 from e6]; exact hCe), hRW.1, hRW.2.1, hRW.2.2.1, hRW.2.2.2.mono (by decide) (by decide)⟩
def Q_rm_ct_3n (Z : State) (a1 : Addr) (t : Addr) (kt : ClassId) (ch0 : Int32) (ch1 : Int32) (ch2 : Int32) (zc : Int32) (h0 : Heap) (n0 : Nat) : Option Value → Heap → List Loc → Prop := fun v h L => v = some (.int (0 : Int32)) ∧ Fr n0 L ∧ Keep h0 h []
set_option maxRecDepth 65536 in
set_option maxHeartbeats 40000000 in
theorem rm_ct_3n (l : Launch) (Z : State) (a0 : Array Value) (hw : ∀ d ∈ tables_1, d.before a0 Z = true) (ws : List Jvm.Cond) (a1 : Addr) (t : Addr) (kt : ClassId) (ch0 : Int32) (ch1 : Int32) (ch2 : Int32) (zc : Int32) (h0 : Heap) (n0 : Nat) (Z0 : n0 ≤ h0.size) (E_a1 : Exa Z h0 a1 "java/lang/String") (F_a1_value : Fld Z h0 a1 "java/lang/String" "value" "[B" (.ref t)) (F_a1_coder : Fld Z h0 a1 "java/lang/String" "coder" "B" (.int (0 : Int32))) (V_t : Arv Z h0 t kt .byte (3 : Int32) [(.int (ch0.toInt8.toInt32)), (.int (ch1.toInt8.toInt32)), (.int (ch2.toInt8.toInt32))] (.int (0 : Int32))) (hold : Old Z n0 h0) (S_COMPACT_STRINGS : Sta Z Z.heap "java/lang/String" "COMPACT_STRINGS" "Z" (.int zc)) (hp : ∀ c ∈ ([ch0, ch1, ch2] : List Int32), ¬ c < 0 ∧ ¬ (255 : Int32) < c) (hz : ¬ (zc = (0 : Int32))) (nr : ¬ (ch0 = (82 : Int32) ∧ ch1 = (77 : Int32) ∧ ch2 = (67 : Int32))) (nz : ¬ (ch0 = (90 : Int32) ∧ ch1 = (68 : Int32) ∧ ch2 = (65 : Int32))) :
    MetFree l (⟨"com/example/prita/prita/gnss/GnssTime", "carriesTime", "(Ljava/lang/String;)Z"⟩ : MethodName) (head1 (Jvm.Cond.code (⟨"com/example/prita/prita/gnss/GnssTime", "carriesTime", "(Ljava/lang/String;)Z"⟩ : MethodName) prog_17_method_3_code 1 (some .boolean) :: ws) ({ frames := 2, cells := 4, slots := 32, locals := 28 } : Room)) (fun a U => a = #[(.ref a1)] ∧ Z.Warmed39 U.vm ∧ U.heap = h0 ∧ CHv Z consts_1 U.vm h0) (fun _ _ _ _ _ => True) (fun _ U o U' => ∃ v L, o = .returned v ∧ (Q_rm_ct_3n Z a1 t kt ch0 ch1 ch2 zc h0 n0) v U'.heap L ∧ own_FE Z U o U' L ({ frames := 2, cells := 4, slots := 32, locals := 28 } : Room).cells ({ frames := 2, cells := 4, slots := 32, locals := 28 } : Room).slots) := by
  refine MetFree.of_bodySF (plainFor_of_name pn_5) hisR ?_
  intro p e s m args below meth c s₁ Bd hml0 hP hK
  obtain ⟨rfl, hZ, hh, hCH⟩ := hP
  have hx := Bd.exec
  have hby := Bd.bytes
  have hml : c.maxLocals = 1 := hml0
  have hown : s.vm.findClass "com/example/prita/prita/gnss/GnssTime" = some m.cls := findClass_of_methodNamed Bd.named
  have hnm := (name_of_methodNamed Bd.named Bd.method).1
  have X0 : Stand p l e ({ frames := 2, cells := 4, slots := 32, locals := 28 } : Room) s m #[(.ref a1)] below meth c s₁ [] 0 0 := Stand.of_body Bd
  have e0 : s₁.heap = h0 := by rw [← hh, Bd.state]; rfl
  have N0 := Fr.nil n0
  show own_G (own_FE Z) p e below s ({ frames := 2, cells := 4, slots := 32, locals := 28 } : Room).cells ({ frames := 2, cells := 4, slots := 32, locals := 28 } : Room).slots (Q_rm_ct_3n Z a1 t kt ch0 ch1 ch2 zc h0 n0) (s₁.setTop (entryFrame m #[(.ref a1)] 1))
  refine own_go (Y' := s₁.setTop (mkF m 0 #[rv a1] [])) ?_ (fun t k => castTop (ef_5 m a1) k)
  have hC0 := CHr.refl hCH
  have hEL := own_EW Z a0 hw
  have wS : ∀ a ∈ Bundle.stringAtoms, a.before a0 Z = true := fun d hd => hw d ((by decide +kernel : ∀ d ∈ Bundle.stringAtoms, d ∈ tables_1) d hd)
  have heq : ∀ d ∈ StrChars.Road.wordsEq, d.before a0 Z = true := fun d hd => hw d ((by decide +kernel : ∀ d ∈ StrChars.Road.wordsEq, d ∈ tables_1) d hd)
  refine own_go ?_ (fun target hr => XS.aloadN X0.here hx rfl (hb hby d5_0) rfl rfl hr)
  show own_G _ p e below s _ _ _ (s₁.setTop (mkF m 1 #[rv a1] [(.ref a1)]))
  obtain ⟨c1, T1, h1, k1, d1, kd1, X1, e1, E1, hS1, hk1, hZ, hown, P1_0, P1_1, P1_2, P1_3, lc1, ld1, H1c, L1, hne1, st1⟩ := ldcCH (s := s) (vm0 := s.vm) X0 hx hZ hown (hw _ (List.mem_of_getElem? (i := 31) rfl)) wS e0 (State.WarmedH.since (State.WarmedH.refl s) 0) (Nat.zero_le _) hEL (List.mem_of_getElem? (i := 0) rfl) hC0.1 (vs := [(.int (82 : Int32)), (.int (77 : Int32)), (.int (67 : Int32))]) (z := (3 : Int32)) ⟨by decide, rfl⟩ (by decide) rfl (g := (mkF m 1 #[rv a1] [(.ref a1)])) rfl (hb hby d5_1) (n := 12) (by decide) (by decide) (by decide) (by decide)
  have C2 := hC0.trans H1c
  refine own_go ?_ (fun target hr => st1 _ hr)
  show own_G _ p e below s _ _ _ (T1.setTop (mkF m 3 #[rv a1] [(.ref c1), (.ref a1)]))
  obtain ⟨cq3, kq3, q3a, q3b, q3c⟩ := isOf hZ e1 (E_a1.ext E1)
  obtain ⟨_, _, ⟨T3, L3, k3, n3⟩, -, X3, ⟨Lc3, hQ3, l3, y3, z3⟩, st3⟩ := X1.virtualBack hx (y := (⟨"java/lang/String", "equals", "(Ljava/lang/Object;)Z"⟩ : MethodName)) (z := (⟨"java/lang/String", "equals", "(Ljava/lang/Object;)Z"⟩ : MethodName)) hown (mvT hZ (hw _ (List.mem_of_getElem? (i := 32) rfl))) (mvT hZ (hw _ (List.mem_of_getElem? (i := 33) rfl))) (notFace_of_selects (args := #[]) (mvT hZ (hw _ (List.mem_of_getElem? (i := 35) rfl)))) (mvT hZ (hw _ (List.mem_of_getElem? (i := 35) rfl))) (mvT hZ (hw _ (List.mem_of_getElem? (i := 34) rfl))) (by decide) (StrChars.Road.eqW (W := 0) hZ heq (kI := 4) (hw _ (List.mem_of_getElem? (i := 7) rfl)) (E_a1.ext E1) (F_a1_value.ext E1) (F_a1_coder.ext E1) (V_t.ext E1) (show StrChars.Road.CodA ([ch0, ch1, ch2] : List Int32) 0 (3 : Int32) [(.int (ch0.toInt8.toInt32)), (.int (ch1.toInt8.toInt32)), (.int (ch2.toInt8.toInt32))] from StrChars.Road.codOf (n := 3) rfl (fun c hc => (hp c hc).2)) (own_up ([ch0, ch1, ch2] : List Int32) hp) (Nat.le_of_ble_eq_true rfl) P1_0 P1_2 P1_1 P1_3 (show StrChars.Road.CodA ([82, 77, 67] : List Int32) 0 (3 : Int32) [(.int (82 : Int32)), (.int (77 : Int32)), (.int (67 : Int32))] from StrChars.Road.codOf (n := 3) rfl (fun c hc => ((show ∀ c ∈ ([82, 77, 67] : List Int32), ¬ c < 0 ∧ ¬ (255 : Int32) < c by decide) c hc).2)) (own_up ([82, 77, 67] : List Int32) (show ∀ c ∈ ([82, 77, 67] : List Int32), ¬ c < 0 ∧ ¬ (255 : Int32) < c by decide)) (Nat.le_of_ble_eq_true rfl) (S_COMPACT_STRINGS.ext (hold.ext E1).2) hz (by decide) (by decide)) q3a q3c (g := (mkF m 3 #[rv a1] [(.ref c1), (.ref a1)])) rfl (by rw [hml]; rfl) (Steps.refl _) (argsL := [(.ref c1)]) (rest := []) (lenOf pd__Ljava_lang_Object__Z rfl) rfl (by show 2 * 0 + _ ≤ _; exact Nat.le_of_eq rfl) (hb hby d5_3) (fun _ _ => ⟨rfl, e1, (by decide : 2 + 0 ≤ _), (by decide : 16 + 0 ≤ _)⟩)
  dsimp only [Pt.U, Pt.locs, Pt.cells, Pt.slots] at X3 l3 y3 z3 st3 hQ3
  subst l3 y3 z3
  obtain ⟨hor3, hL3, e3⟩ := hQ3
  have hv3 : _ = some (Value.int 0) := hor3.elim (fun q => absurd q.2 (fun q => nr (by simpa using q))) (fun q => q.1)
  subst hv3 hL3
  have N3 := Fr.app N0 (Fr.nil n0)
  refine own_go ?_ (fun target hr => st3.trans (XS.ifNo X3.here hx rfl (hb hby d5_6) rfl ((if0 _ _).trans (teq (by decide : (0 : Int32) = (0 : Int32))).2) (XS.aloadN X3.here hx rfl (hb hby d5_9) rfl rfl hr)))
  show own_G _ p e below s _ _ _ (T3.setTop (mkF m 10 #[rv a1] [(.ref a1)]))
  obtain ⟨c4, T4, h4, k4, d4, kd4, X4, e4, E4, hS4, hk4, hZ, hown, P4_0, P4_1, P4_2, P4_3, lc4, ld4, H4c, L4, hne4, st4⟩ := ldcCH (s := s) (vm0 := T1.vm) X3 hx hZ hown (hw _ (List.mem_of_getElem? (i := 43) rfl)) wS e3 hS1 hk1 hEL (List.mem_of_getElem? (i := 1) rfl) C2.1 (vs := [(.int (90 : Int32)), (.int (68 : Int32)), (.int (65 : Int32))]) (z := (3 : Int32)) ⟨by decide, rfl⟩ (by decide) rfl (g := (mkF m 10 #[rv a1] [(.ref a1)])) rfl (hb hby d5_10) (n := 12) (by decide) (by decide) (by decide) (by decide)
  have C5 := C2.trans H4c
  refine own_go ?_ (fun target hr => st4 _ hr)
  show own_G _ p e below s _ _ _ (T4.setTop (mkF m 12 #[rv a1] [(.ref c4), (.ref a1)]))
  obtain ⟨cq6, kq6, q6a, q6b, q6c⟩ := isOf hZ e4 ((E_a1.ext E1).ext E4)
  obtain ⟨_, _, ⟨T6, L6, k6, n6⟩, -, X6, ⟨Lc6, hQ6, l6, y6, z6⟩, st6⟩ := X4.virtualBack hx (y := (⟨"java/lang/String", "equals", "(Ljava/lang/Object;)Z"⟩ : MethodName)) (z := (⟨"java/lang/String", "equals", "(Ljava/lang/Object;)Z"⟩ : MethodName)) hown (mvT hZ (hw _ (List.mem_of_getElem? (i := 32) rfl))) (mvT hZ (hw _ (List.mem_of_getElem? (i := 33) rfl))) (notFace_of_selects (args := #[]) (mvT hZ (hw _ (List.mem_of_getElem? (i := 35) rfl)))) (mvT hZ (hw _ (List.mem_of_getElem? (i := 35) rfl))) (mvT hZ (hw _ (List.mem_of_getElem? (i := 34) rfl))) (by decide) (StrChars.Road.eqW (W := 0) hZ heq (kI := 4) (hw _ (List.mem_of_getElem? (i := 7) rfl)) ((E_a1.ext E1).ext E4) ((F_a1_value.ext E1).ext E4) ((F_a1_coder.ext E1).ext E4) ((V_t.ext E1).ext E4) (show StrChars.Road.CodA ([ch0, ch1, ch2] : List Int32) 0 (3 : Int32) [(.int (ch0.toInt8.toInt32)), (.int (ch1.toInt8.toInt32)), (.int (ch2.toInt8.toInt32))] from StrChars.Road.codOf (n := 3) rfl (fun c hc => (hp c hc).2)) (own_up ([ch0, ch1, ch2] : List Int32) hp) (Nat.le_of_ble_eq_true rfl) P4_0 P4_2 P4_1 P4_3 (show StrChars.Road.CodA ([90, 68, 65] : List Int32) 0 (3 : Int32) [(.int (90 : Int32)), (.int (68 : Int32)), (.int (65 : Int32))] from StrChars.Road.codOf (n := 3) rfl (fun c hc => ((show ∀ c ∈ ([90, 68, 65] : List Int32), ¬ c < 0 ∧ ¬ (255 : Int32) < c by decide) c hc).2)) (own_up ([90, 68, 65] : List Int32) (show ∀ c ∈ ([90, 68, 65] : List Int32), ¬ c < 0 ∧ ¬ (255 : Int32) < c by decide)) (Nat.le_of_ble_eq_true rfl) (S_COMPACT_STRINGS.ext ((hold.ext E1).ext E4).2) hz (by decide) (by decide)) q6a q6c (g := (mkF m 12 #[rv a1] [(.ref c4), (.ref a1)])) rfl (by rw [hml]; rfl) (Steps.refl _) (argsL := [(.ref c4)]) (rest := []) (lenOf pd__Ljava_lang_Object__Z rfl) rfl (by show 2 * 0 + _ ≤ _; exact Nat.le_of_eq rfl) (hb hby d5_12) (fun _ _ => ⟨rfl, e4, (by decide : 4 + 0 ≤ _), (by decide : 32 + 0 ≤ _)⟩)
  dsimp only [Pt.U, Pt.locs, Pt.cells, Pt.slots] at X6 l6 y6 z6 st6 hQ6
  subst l6 y6 z6
  obtain ⟨hor6, hL6, e6⟩ := hQ6
  have hv6 : _ = some (Value.int 0) := hor6.elim (fun q => absurd q.2 (fun q => nz (by simpa using q))) (fun q => q.1)
  subst hv6 hL6
  have N6 := Fr.app N3 (Fr.nil n0)
  refine own_go ?_ (fun target hr => st6.trans (XS.ifYes X6.here hx rfl (pc0 := 15) (pc' := 22) rfl (hb hby d5_15) rfl ((if0 _ _).trans (teq (by decide : (0 : Int32) = (0 : Int32))).1) (by decide) (by decide) (XS.iconst X6.here hx rfl (hb hby d5_22) hr)))
  show own_G _ p e below s _ _ _ (T6.setTop (mkF m 23 #[rv a1] [(.int (0 : Int32))]))
  obtain ⟨fs, hr, hrun, hended, hRW⟩ := Stand.leaveW (s := s) (vm₁ := T4.vm) X6 hS4 (by rw [e6]; exact hk4) (v := some (.int (0 : Int32))) (fun h => by rw [Bd.returns] at h; cases h)
  have hCe := C5.trans (CHv.at (s := s) (vm0 := T4.vm) X6 hZ hEL C5.1)
  exact ⟨_, _, retN X6 hx (t := .boolean) Bd.returns (by simp) (hb hby d5_23) hr, hrun, hended, _, _, rfl, (by rw [show (T6.setFrames fs).heap = h4 from e6]; exact ⟨rfl, N6, (((Keep.refl h0 []).ext E1).ext E4)⟩), (by rw [hh, show (T6.setFrames fs).heap = h4 from e6]; exact hCe), hRW.1, hRW.2.1, hRW.2.2.1, hRW.2.2.2.mono (by decide) (by decide)⟩
theorem pn_0 : plainName "com/example/prita/prita/gnss/GnssTimeCarriesTimePinLaw" = true := by first | (simp [plainName, overriddenIn]; done) | decide +kernel
theorem pd__I_C : parseMethodDescriptor "(I)C" = some ⟨[.int], some .char⟩ := by decide +kernel
theorem pd___C_V : parseMethodDescriptor "([C)V" = some ⟨[(.array .char)], none⟩ := by decide +kernel
theorem pd__Ljava_lang_String__Z : parseMethodDescriptor "(Ljava/lang/String;)Z" = some ⟨[(.object "java/lang/String")], some .boolean⟩ := by decide +kernel
theorem ef_0 (m : MethodId) (x0 : Int32) (x1 : Int32) (x2 : Int32) (x3 : Int32) (x4 : Int32) : entryFrame m #[(.int x0), (.int x1), (.int x2), (.int x3), (.int x4)] maxLocals = mkF m 0 #[iv x0, iv x1, iv x2, iv x3, iv x4, .unset, .unset, .unset, .unset, .unset, .unset, .unset, .unset, .unset] [] := by first | (simp [entryFrame, mkF, argsToLocals, Value.category, maxLocals]; done) | rfl
def Q_rm0 (Z : State) (p1 : Int32) (p2 : Int32) (p3 : Int32) (p4 : Int32) (p5 : Int32) (zc : Int32) (h0 : Heap) (n0 : Nat) : Option Value → Heap → List Loc → Prop := fun v h L => v = some (.int (1 : Int32)) ∧ Fr n0 L ∧ True
set_option maxRecDepth 65536 in
set_option maxHeartbeats 40000000 in
theorem rm0 (l : Launch) (Z : State) (a0 : Array Value) (hw : ∀ d ∈ tables_1, d.before a0 Z = true) (ws : List Jvm.Cond) (p1 : Int32) (p2 : Int32) (p3 : Int32) (p4 : Int32) (p5 : Int32) (zc : Int32) (h0 : Heap) (n0 : Nat) (Z0 : n0 ≤ h0.size) (hold : Old Z n0 h0) (S_COMPACT_STRINGS : Sta Z Z.heap "java/lang/String" "COMPACT_STRINGS" "Z" (.int zc)) (hz : ¬ (zc = (0 : Int32))) :
    MetFree l x (head1 (Jvm.Cond.code x code maxLocals ret :: ws) room_1) (fun a U => a = #[(.int p1), (.int p2), (.int p3), (.int p4), (.int p5)] ∧ Z.Warmed39 U.vm ∧ U.heap = h0 ∧ CHv Z consts_1 U.vm h0) (fun _ _ _ _ _ => True) (fun _ U o U' => ∃ v L, o = .returned v ∧ (Q_rm0 Z p1 p2 p3 p4 p5 zc h0 n0) v U'.heap L ∧ own_FE Z U o U' L room_1.cells room_1.slots) := by
  refine MetFree.of_bodySF (plainFor_of_name pn_0) hisR ?_
  intro p e s m args below meth c s₁ Bd hml0 hP hK
  obtain ⟨rfl, hZ, hh, hCH⟩ := hP
  have hx := Bd.exec
  have hby := Bd.bytes
  have hml : c.maxLocals = 14 := hml0
  have hown : s.vm.findClass "com/example/prita/prita/gnss/GnssTimeCarriesTimePinLaw" = some m.cls := findClass_of_methodNamed Bd.named
  have hnm := (name_of_methodNamed Bd.named Bd.method).1
  have X0 : Stand p l e room_1 s m #[(.int p1), (.int p2), (.int p3), (.int p4), (.int p5)] below meth c s₁ [] 0 0 := Stand.of_body Bd
  have e0 : s₁.heap = h0 := by rw [← hh, Bd.state]; rfl
  have N0 := Fr.nil n0
  show own_G (own_FE Z) p e below s room_1.cells room_1.slots (Q_rm0 Z p1 p2 p3 p4 p5 zc h0 n0) (s₁.setTop (entryFrame m #[(.int p1), (.int p2), (.int p3), (.int p4), (.int p5)] maxLocals))
  refine own_go (Y' := s₁.setTop (mkF m 0 #[iv p1, iv p2, iv p3, iv p4, iv p5, .unset, .unset, .unset, .unset, .unset, .unset, .unset, .unset, .unset] [])) ?_ (fun t k => castTop (ef_0 m p1 p2 p3 p4 p5) k)
  have hC0 := CHr.refl hCH
  have hEL := own_EW Z a0 hw
  have wS : ∀ a ∈ Bundle.stringAtoms, a.before a0 Z = true := fun d hd => hw d ((by decide +kernel : ∀ d ∈ Bundle.stringAtoms, d ∈ tables_1) d hd)
  have hws : ∀ d ∈ StrChars.Road.words, d.before a0 Z = true := fun d hd => hw d ((by decide +kernel : ∀ d ∈ StrChars.Road.words, d ∈ tables_1) d hd)
  refine own_go ?_ (fun target hr => XS.iloadN X0.here hx rfl (hb hby at_0) rfl (X0.ldcI hx hown (mvT hZ (hw _ (List.mem_of_getElem? (i := 0) rfl))) rfl (hb hby at_1) (XS.iand X0.here hx rfl (hb hby at_3) rfl (XS.iconst X0.here hx rfl (hb hby at_4) (iremM X0 hx rfl (hb hby at_5) rfl (by decide) hr)))))
  show own_G _ p e below s _ _ _ (s₁.setTop (mkF m 6 #[iv p1, iv p2, iv p3, iv p4, iv p5, .unset, .unset, .unset, .unset, .unset, .unset, .unset, .unset, .unset] [(.int ((p1 &&& (2147483647 : Int32)) % (5 : Int32)))]))
  rcases own_mod5 p1 with hs6_0 | hs6_1 | hs6_2 | hs6_3 | hs6_4
  ·
    rw [hs6_0]
    show own_G _ p e below s _ _ _ (s₁.setTop (mkF m 6 #[iv p1, iv p2, iv p3, iv p4, iv p5, .unset, .unset, .unset, .unset, .unset, .unset, .unset, .unset, .unset] [(.int (0 : Int32))]))
    refine own_go ?_ (fun target hr => XS.istore X0.here hx rfl (hb hby at_6) rfl (l' := #[iv p1, iv p2, iv p3, iv p4, iv p5, iv (0 : Int32), .unset, .unset, .unset, .unset, .unset, .unset, .unset, .unset]) rfl (XS.iloadN X0.here hx rfl (hb hby at_8) rfl hr))
    show own_G _ p e below s _ _ _ (s₁.setTop (mkF m 9 #[iv p1, iv p2, iv p3, iv p4, iv p5, iv (0 : Int32), .unset, .unset, .unset, .unset, .unset, .unset, .unset, .unset] [(.int p2)]))
    obtain ⟨_, _, ⟨T1, L1, k1, n1⟩, -, X1, ⟨Lc1, hQ1, l1, y1, z1⟩, st1⟩ := Jvm.LawKit.callS X0 hx (y := (⟨"com/example/prita/prita/gnss/GnssTimeCarriesTimePinLaw", "pick", "(I)C"⟩ : MethodName)) hown (mvT hZ (hw _ (List.mem_of_getElem? (i := 1) rfl))) (mvT hZ (hw _ (List.mem_of_getElem? (i := 2) rfl))) (mvT hZ (hw _ (List.mem_of_getElem? (i := 3) rfl))) (mvT hZ (hw _ (List.mem_of_getElem? (i := 4) rfl))) (by decide) (backOf (W := 0) (rm1 l Z a0 hw [] p2 h0 n0 Z0 ) hZ (hw _ (List.mem_of_getElem? (i := 4) rfl)) (hw _ (List.mem_of_getElem? (i := 3) rfl)) (by decide) (by decide)) (g := (mkF m 9 #[iv p1, iv p2, iv p3, iv p4, iv p5, iv (0 : Int32), .unset, .unset, .unset, .unset, .unset, .unset, .unset, .unset] [(.int p2)])) rfl (by rw [hml]; rfl) (argsL := [(.int p2)]) (rest := []) (lenOf pd__I_C rfl) rfl (by show 2 * 0 + _ ≤ _; exact Nat.le_of_eq rfl) (hb hby at_9) (fun _ _ => ⟨rfl, e0, (by decide : 0 + 1 ≤ _), (by decide : 0 + 8 ≤ _)⟩)
    dsimp only [Pt.U, Pt.locs, Pt.cells, Pt.slots] at X1 l1 y1 z1 st1 hQ1
    subst l1 y1 z1
    obtain ⟨z1_0, rfl, N1q, K1, P1_0⟩ := hQ1
    have C2 := hC0.trans (CHr.keep K1 all0 hC0.1)
    have N1 := Fr.app N0 N1q
    refine own_go ?_ (fun target hr => st1 _ (XS.istore X1.here hx rfl (hb hby at_12) rfl (l' := #[iv p1, iv p2, iv p3, iv p4, iv p5, iv (0 : Int32), iv z1_0, .unset, .unset, .unset, .unset, .unset, .unset, .unset]) rfl (XS.iloadN X1.here hx rfl (hb hby at_14) rfl hr)))
    show own_G _ p e below s _ _ _ (T1.setTop (mkF m 15 #[iv p1, iv p2, iv p3, iv p4, iv p5, iv (0 : Int32), iv z1_0, .unset, .unset, .unset, .unset, .unset, .unset, .unset] [(.int p3)]))
    obtain ⟨_, _, ⟨T3, L3, k3, n3⟩, -, X3, ⟨Lc3, hQ3, l3, y3, z3⟩, st3⟩ := Jvm.LawKit.callS X1 hx (y := (⟨"com/example/prita/prita/gnss/GnssTimeCarriesTimePinLaw", "pick", "(I)C"⟩ : MethodName)) hown (mvT hZ (hw _ (List.mem_of_getElem? (i := 1) rfl))) (mvT hZ (hw _ (List.mem_of_getElem? (i := 2) rfl))) (mvT hZ (hw _ (List.mem_of_getElem? (i := 3) rfl))) (mvT hZ (hw _ (List.mem_of_getElem? (i := 4) rfl))) (by decide) (backOf (W := 0) (rm1 l Z a0 hw [] p3 T1.heap n0 (Nat.le_trans Z0 K1.1) ) hZ (hw _ (List.mem_of_getElem? (i := 4) rfl)) (hw _ (List.mem_of_getElem? (i := 3) rfl)) (by decide) (by decide)) (g := (mkF m 15 #[iv p1, iv p2, iv p3, iv p4, iv p5, iv (0 : Int32), iv z1_0, .unset, .unset, .unset, .unset, .unset, .unset, .unset] [(.int p3)])) rfl (by rw [hml]; rfl) (argsL := [(.int p3)]) (rest := []) (lenOf pd__I_C rfl) rfl (by show 2 * 0 + _ ≤ _; exact Nat.le_of_eq rfl) (hb hby at_15) (fun _ _ => ⟨rfl, rfl, (by decide : 1 + 1 ≤ _), (by decide : 8 + 8 ≤ _)⟩)
    dsimp only [Pt.U, Pt.locs, Pt.cells, Pt.slots] at X3 l3 y3 z3 st3 hQ3
    subst l3 y3 z3
    obtain ⟨z3_0, rfl, N3q, K3, P3_0⟩ := hQ3
    have C4 := C2.trans (CHr.keep K3 all0 C2.1)
    have N3 := Fr.app N1 N3q
    refine own_go ?_ (fun target hr => st3 _ (XS.istore X3.here hx rfl (hb hby at_18) rfl (l' := #[iv p1, iv p2, iv p3, iv p4, iv p5, iv (0 : Int32), iv z1_0, iv z3_0, .unset, .unset, .unset, .unset, .unset, .unset]) rfl (XS.iloadN X3.here hx rfl (hb hby at_20) rfl hr)))
    show own_G _ p e below s _ _ _ (T3.setTop (mkF m 21 #[iv p1, iv p2, iv p3, iv p4, iv p5, iv (0 : Int32), iv z1_0, iv z3_0, .unset, .unset, .unset, .unset, .unset, .unset] [(.int p4)]))
    obtain ⟨_, _, ⟨T5, L5, k5, n5⟩, -, X5, ⟨Lc5, hQ5, l5, y5, z5⟩, st5⟩ := Jvm.LawKit.callS X3 hx (y := (⟨"com/example/prita/prita/gnss/GnssTimeCarriesTimePinLaw", "pick", "(I)C"⟩ : MethodName)) hown (mvT hZ (hw _ (List.mem_of_getElem? (i := 1) rfl))) (mvT hZ (hw _ (List.mem_of_getElem? (i := 2) rfl))) (mvT hZ (hw _ (List.mem_of_getElem? (i := 3) rfl))) (mvT hZ (hw _ (List.mem_of_getElem? (i := 4) rfl))) (by decide) (backOf (W := 0) (rm1 l Z a0 hw [] p4 T3.heap n0 (Nat.le_trans (Nat.le_trans Z0 K1.1) K3.1) ) hZ (hw _ (List.mem_of_getElem? (i := 4) rfl)) (hw _ (List.mem_of_getElem? (i := 3) rfl)) (by decide) (by decide)) (g := (mkF m 21 #[iv p1, iv p2, iv p3, iv p4, iv p5, iv (0 : Int32), iv z1_0, iv z3_0, .unset, .unset, .unset, .unset, .unset, .unset] [(.int p4)])) rfl (by rw [hml]; rfl) (argsL := [(.int p4)]) (rest := []) (lenOf pd__I_C rfl) rfl (by show 2 * 0 + _ ≤ _; exact Nat.le_of_eq rfl) (hb hby at_21) (fun _ _ => ⟨rfl, rfl, (by decide : 2 + 1 ≤ _), (by decide : 16 + 8 ≤ _)⟩)
    dsimp only [Pt.U, Pt.locs, Pt.cells, Pt.slots] at X5 l5 y5 z5 st5 hQ5
    subst l5 y5 z5
    obtain ⟨z5_0, rfl, N5q, K5, P5_0⟩ := hQ5
    have C6 := C4.trans (CHr.keep K5 all0 C4.1)
    have N5 := Fr.app N3 N5q
    refine own_go ?_ (fun target hr => st5 _ (XS.istore X5.here hx rfl (hb hby at_24) rfl (l' := #[iv p1, iv p2, iv p3, iv p4, iv p5, iv (0 : Int32), iv z1_0, iv z3_0, iv z5_0, .unset, .unset, .unset, .unset, .unset]) rfl (XS.iload X5.here hx rfl (hb hby at_26) rfl hr)))
    show own_G _ p e below s _ _ _ (T5.setTop (mkF m 28 #[iv p1, iv p2, iv p3, iv p4, iv p5, iv (0 : Int32), iv z1_0, iv z3_0, iv z5_0, .unset, .unset, .unset, .unset, .unset] [(.int p5)]))
    obtain ⟨_, _, ⟨T7, L7, k7, n7⟩, -, X7, ⟨Lc7, hQ7, l7, y7, z7⟩, st7⟩ := Jvm.LawKit.callS X5 hx (y := (⟨"com/example/prita/prita/gnss/GnssTimeCarriesTimePinLaw", "pick", "(I)C"⟩ : MethodName)) hown (mvT hZ (hw _ (List.mem_of_getElem? (i := 1) rfl))) (mvT hZ (hw _ (List.mem_of_getElem? (i := 2) rfl))) (mvT hZ (hw _ (List.mem_of_getElem? (i := 3) rfl))) (mvT hZ (hw _ (List.mem_of_getElem? (i := 4) rfl))) (by decide) (backOf (W := 0) (rm1 l Z a0 hw [] p5 T5.heap n0 (Nat.le_trans (Nat.le_trans (Nat.le_trans Z0 K1.1) K3.1) K5.1) ) hZ (hw _ (List.mem_of_getElem? (i := 4) rfl)) (hw _ (List.mem_of_getElem? (i := 3) rfl)) (by decide) (by decide)) (g := (mkF m 28 #[iv p1, iv p2, iv p3, iv p4, iv p5, iv (0 : Int32), iv z1_0, iv z3_0, iv z5_0, .unset, .unset, .unset, .unset, .unset] [(.int p5)])) rfl (by rw [hml]; rfl) (argsL := [(.int p5)]) (rest := []) (lenOf pd__I_C rfl) rfl (by show 2 * 0 + _ ≤ _; exact Nat.le_of_eq rfl) (hb hby at_28) (fun _ _ => ⟨rfl, rfl, (by decide : 3 + 1 ≤ _), (by decide : 24 + 8 ≤ _)⟩)
    dsimp only [Pt.U, Pt.locs, Pt.cells, Pt.slots] at X7 l7 y7 z7 st7 hQ7
    subst l7 y7 z7
    obtain ⟨z7_0, rfl, N7q, K7, P7_0⟩ := hQ7
    have C8 := C6.trans (CHr.keep K7 all0 C6.1)
    have N7 := Fr.app N5 N7q
    refine own_go ?_ (fun target hr => st7 _ (XS.istore X7.here hx rfl (hb hby at_31) rfl (l' := #[iv p1, iv p2, iv p3, iv p4, iv p5, iv (0 : Int32), iv z1_0, iv z3_0, iv z5_0, iv z7_0, .unset, .unset, .unset, .unset]) rfl (XS.iload X7.here hx rfl (hb hby at_33) rfl (XS.ifNo X7.here hx rfl (hb hby at_35) rfl ((if0 _ _).trans (teq (by decide : (0 : Int32) = (0 : Int32))).2) hr))))
    show own_G _ p e below s _ _ _ (T7.setTop (mkF m 38 #[iv p1, iv p2, iv p3, iv p4, iv p5, iv (0 : Int32), iv z1_0, iv z3_0, iv z5_0, iv z7_0, .unset, .unset, .unset, .unset] []))
    obtain ⟨T9, h9, X9, e9, E9, A9, D9, -, st9⟩ := newO X7 hx hZ hown (hw _ (List.mem_of_getElem? (i := 6) rfl)) (hw _ (List.mem_of_getElem? (i := 7) rfl)) (hw _ (List.mem_of_getElem? (i := 8) rfl)) rfl (g := (mkF m 38 #[iv p1, iv p2, iv p3, iv p4, iv p5, iv (0 : Int32), iv z1_0, iv z3_0, iv z5_0, iv z7_0, .unset, .unset, .unset, .unset] [])) rfl (hb hby at_38) (by decide) (by decide)
    obtain ⟨b9, g9⟩ : ∃ z, z = T7.heap.size := ⟨_, rfl⟩
    rw [← g9] at A9 D9 st9
    have g_b9 : n0 ≤ b9 := Nat.le_trans (Nat.le_trans (Nat.le_trans (Nat.le_trans (Nat.le_trans Z0 K1.1) K3.1) K5.1) K7.1) (Nat.le_of_eq g9.symm)
    have S0_b9 : Safe Z consts_1 s.vm T7.heap b9 := Safe.new (Nat.le_of_eq g9.symm)
    have C10 := C8.trans (CHr.ext E9 C8.1)
    have S10_b9 := Safe.ext E9 C8.1 S0_b9
    have F9_21 : Fld Z h9 b9 "java/lang/String" "value" "[B" .null := D9 (Or.inr (hw _ (List.mem_of_getElem? (i := 21) rfl))) (ty := (.array .byte)) (by decide)
    have F9_22 : Fld Z h9 b9 "java/lang/String" "coder" "B" (.int (0 : Int32)) := D9 (Or.inr (hw _ (List.mem_of_getElem? (i := 22) rfl))) (ty := .byte) (by decide)
    refine own_go ?_ (fun target hr => st9 _ (XS.dup X9.here hx rfl (hb hby at_41) rfl rfl (XS.iconst X9.here hx rfl (hb hby at_42) hr)))
    show own_G _ p e below s _ _ _ (T9.setTop (mkF m 43 #[iv p1, iv p2, iv p3, iv p4, iv p5, iv (0 : Int32), iv z1_0, iv z3_0, iv z5_0, iv z7_0, .unset, .unset, .unset, .unset] [(.int (0 : Int32)), (.ref b9), (.ref b9)]))
    obtain ⟨T11, h11, k11, X11, e11, E11, A11, st11⟩ := newP X9 hx hZ (hw _ (List.mem_of_getElem? (i := 5) rfl)) e9 (g := (mkF m 43 #[iv p1, iv p2, iv p3, iv p4, iv p5, iv (0 : Int32), iv z1_0, iv z3_0, iv z5_0, iv z7_0, .unset, .unset, .unset, .unset] [(.int (0 : Int32)), (.ref b9), (.ref b9)])) rfl (hb hby at_43) rfl (by decide) (cap := 0) (by decide) (by decide) (by decide) (by decide)
    obtain ⟨b11, g11⟩ : ∃ z, z = h9.size := ⟨_, rfl⟩
    rw [← g11] at A11 st11
    have V11 : Arv Z h11 b11 k11 .char (0 : Int32) [] (.int (0 : Int32)) := (Arv.new A11 (by decide)).pad (pad_rep [] (.int (0 : Int32)) 0)
    have g_b11 : n0 ≤ b11 := Nat.le_trans (Nat.le_trans (Nat.le_trans (Nat.le_trans (Nat.le_trans (Nat.le_trans Z0 K1.1) K3.1) K5.1) K7.1) E9.1) (Nat.le_of_eq g11.symm)
    have C12 := C10.trans (CHr.ext E11 C10.1)
    have S12_b9 := Safe.ext E11 C10.1 S10_b9
    refine own_go ?_ (fun target hr => st11 _ hr)
    show own_G _ p e below s _ _ _ (T11.setTop (mkF m 45 #[iv p1, iv p2, iv p3, iv p4, iv p5, iv (0 : Int32), iv z1_0, iv z3_0, iv z5_0, iv z7_0, .unset, .unset, .unset, .unset] [(.ref b11), (.ref b9), (.ref b9)]))
    obtain ⟨_, _, ⟨T13, L13, k13, n13⟩, -, X13a, hS13a, hg13a, ⟨Lc13, hQ13, l13, y13, z13, H13c⟩, st13⟩ := X11.specialBackS hx (y := (⟨"java/lang/String", "<init>", "([C)V"⟩ : MethodName)) rfl hown (mvT hZ (hw _ (List.mem_of_getElem? (i := 9) rfl))) (mvT hZ (hw _ (List.mem_of_getElem? (i := 10) rfl))) (mvT hZ (hw _ (List.mem_of_getElem? (i := 11) rfl))) (by decide) (backOfSH (s := s) (vm0 := s.vm) (W := 1) (rm_sinit1 l Z a0 hw [] b9 b11 (.int (0 : Int32)) k11 h11 n0 (Nat.le_trans (Nat.le_trans (Nat.le_trans (Nat.le_trans (Nat.le_trans (Nat.le_trans Z0 K1.1) K3.1) K5.1) K7.1) E9.1) E11.1) (A9.ext E11) (F9_21.ext E11) (F9_22.ext E11) g_b9 V11) hZ (hw _ (List.mem_of_getElem? (i := 11) rfl)) (hw _ (List.mem_of_getElem? (i := 8) rfl)) (by decide) (by decide) hEL C12.1) (g := (mkF m 45 #[iv p1, iv p2, iv p3, iv p4, iv p5, iv (0 : Int32), iv z1_0, iv z3_0, iv z5_0, iv z7_0, .unset, .unset, .unset, .unset] [(.ref b11), (.ref b9), (.ref b9)])) rfl (by rw [hml]; rfl) (Steps.refl _) (a := b9) (argsL := [(.ref b11)]) (rest := [(.ref b9)]) (lenOf pd___C_V rfl) rfl (by show 2 * 0 + _ ≤ _; exact Nat.le_of_eq rfl) (hb hby at_45) (fun _ _ => ⟨rfl, e11, (by decide : 6 + 4 ≤ _), (by decide : 36 + 8 ≤ _)⟩)
    dsimp only [Pt.U, Pt.locs, Pt.cells, Pt.slots] at X13a hS13a hg13a l13 y13 z13 st13 hQ13 H13c
    subst l13 y13 z13
    obtain ⟨X13, hS13, hZ, hown⟩ := rebS (s := s) (vm0 := s.vm) (State.WarmedH.since (State.WarmedH.refl s) 0) (Nat.zero_le _) X13a hS13a hg13a hZ hown
    obtain ⟨b13_0, kb13_1, rfl, N13q, K13, P13_0, P13_1, P13_2, P13_3⟩ := hQ13
    have C14 := C12.trans H13c
    have S14_b9 := H13c.safe (A9.ext E11).lt S12_b9
    have N13 := Fr.app N7 N13q
    refine own_go ?_ (fun target hr => st13.trans (XS.astore X13.here hx rfl (hb hby at_48) rfl rfl (l' := #[iv p1, iv p2, iv p3, iv p4, iv p5, iv (0 : Int32), iv z1_0, iv z3_0, iv z5_0, iv z7_0, rv b9, .unset, .unset, .unset]) rfl (XS.goto X13.here hx rfl (pc0 := 50) (pc' := 178) rfl (hb hby at_50) (by decide) (by decide) (XS.iload X13.here hx rfl (hb hby at_178) rfl (XS.bipush X13.here hx rfl (hb hby at_180) hr)))))
    show own_G _ p e below s _ _ _ (T13.setTop (mkF m 182 #[iv p1, iv p2, iv p3, iv p4, iv p5, iv (0 : Int32), iv z1_0, iv z3_0, iv z5_0, iv z7_0, rv b9, .unset, .unset, .unset] [(.int (82 : Int32)), (.int z1_0)]))
    by_cases hc182 : z1_0 = (82 : Int32)
    ·
      refine own_go ?_ (fun target hr => XS.icmpNo X13.here hx rfl (hb hby at_182) rfl (teq hc182).2 (XS.iload X13.here hx rfl (hb hby at_185) rfl (XS.bipush X13.here hx rfl (hb hby at_187) hr)))
      show own_G _ p e below s _ _ _ (T13.setTop (mkF m 189 #[iv p1, iv p2, iv p3, iv p4, iv p5, iv (0 : Int32), iv z1_0, iv z3_0, iv z5_0, iv z7_0, rv b9, .unset, .unset, .unset] [(.int (77 : Int32)), (.int z3_0)]))
      by_cases hc189 : z3_0 = (77 : Int32)
      ·
        refine own_go ?_ (fun target hr => XS.icmpNo X13.here hx rfl (hb hby at_189) rfl (teq hc189).2 (XS.iload X13.here hx rfl (hb hby at_192) rfl (XS.bipush X13.here hx rfl (hb hby at_194) hr)))
        show own_G _ p e below s _ _ _ (T13.setTop (mkF m 196 #[iv p1, iv p2, iv p3, iv p4, iv p5, iv (0 : Int32), iv z1_0, iv z3_0, iv z5_0, iv z7_0, rv b9, .unset, .unset, .unset] [(.int (67 : Int32)), (.int z5_0)]))
        by_cases hc196 : z5_0 = (67 : Int32)
        ·
          refine own_go ?_ (fun target hr => XS.icmpNo X13.here hx rfl (hb hby at_196) rfl (teq hc196).2 (XS.iconst X13.here hx rfl (hb hby at_199) (XS.goto X13.here hx rfl (pc0 := 200) (pc' := 204) rfl (hb hby at_200) (by decide) (by decide) (XS.istore X13.here hx rfl (hb hby at_204) rfl (l' := #[iv p1, iv p2, iv p3, iv p4, iv p5, iv (0 : Int32), iv z1_0, iv z3_0, iv z5_0, iv z7_0, rv b9, iv (1 : Int32), .unset, .unset]) rfl (XS.iload X13.here hx rfl (hb hby at_206) rfl (XS.bipush X13.here hx rfl (hb hby at_208) (XS.icmpYes X13.here hx rfl (pc0 := 210) (pc' := 231) rfl (hb hby at_210) rfl (feq (fun q => absurd (hc182.symm.trans q) (by decide))).2 (by decide) (by decide) (XS.iconst X13.here hx rfl (hb hby at_231) hr))))))))
          show own_G _ p e below s _ _ _ (T13.setTop (mkF m 232 #[iv p1, iv p2, iv p3, iv p4, iv p5, iv (0 : Int32), iv z1_0, iv z3_0, iv z5_0, iv z7_0, rv b9, iv (1 : Int32), .unset, .unset] [(.int (0 : Int32))]))
          refine own_go ?_ (fun target hr => XS.istore X13.here hx rfl (hb hby at_232) rfl (l' := #[iv p1, iv p2, iv p3, iv p4, iv p5, iv (0 : Int32), iv z1_0, iv z3_0, iv z5_0, iv z7_0, rv b9, iv (1 : Int32), iv (0 : Int32), .unset]) rfl (XS.iload X13.here hx rfl (hb hby at_234) rfl (XS.iconst X13.here hx rfl (hb hby at_236) (XS.icmpYes X13.here hx rfl (pc0 := 237) (pc' := 254) rfl (hb hby at_237) rfl (feq (by decide : ¬ ((0 : Int32) = (3 : Int32)))).2 (by decide) (by decide) (XS.iconst X13.here hx rfl (hb hby at_254) (XS.istore X13.here hx rfl (hb hby at_255) rfl (l' := #[iv p1, iv p2, iv p3, iv p4, iv p5, iv (0 : Int32), iv z1_0, iv z3_0, iv z5_0, iv z7_0, rv b9, iv (1 : Int32), iv (0 : Int32), iv (0 : Int32)]) rfl (XS.aload X13.here hx rfl (hb hby at_257) rfl rfl hr)))))))
          show own_G _ p e below s _ _ _ (T13.setTop (mkF m 259 #[iv p1, iv p2, iv p3, iv p4, iv p5, iv (0 : Int32), iv z1_0, iv z3_0, iv z5_0, iv z7_0, rv b9, iv (1 : Int32), iv (0 : Int32), iv (0 : Int32)] [(.ref b9)]))
          obtain ⟨_, _, ⟨T15, L15, k15, n15⟩, -, X15a, hS15a, hg15a, ⟨Lc15, hQ15, l15, y15, z15, H15c⟩, st15⟩ := callSS X13 hx (y := (⟨"com/example/prita/prita/gnss/GnssTime", "carriesTime", "(Ljava/lang/String;)Z"⟩ : MethodName)) hown (mvT hZ (hw _ (List.mem_of_getElem? (i := 27) rfl))) (mvT hZ (hw _ (List.mem_of_getElem? (i := 28) rfl))) (mvT hZ (hw _ (List.mem_of_getElem? (i := 29) rfl))) (mvT hZ (hw _ (List.mem_of_getElem? (i := 30) rfl))) (by decide) (backOfSH (s := s) (vm0 := T13.vm) (W := 0) (rm_ct_0 l Z a0 hw [] b9 b13_0 kb13_1 zc T13.heap n0 (Nat.le_trans (Nat.le_trans (Nat.le_trans (Nat.le_trans (Nat.le_trans (Nat.le_trans (Nat.le_trans Z0 K1.1) K3.1) K5.1) K7.1) E9.1) E11.1) K13.1) P13_0 P13_1 P13_2 P13_3 (((((((hold.keep K1 all0).keep K3 all0).keep K5 all0).keep K7 all0).ext E9).ext E11).keep K13 (allS g_b9 all0)) S_COMPACT_STRINGS (fun c hc => nomatch hc) hz) hZ (hw _ (List.mem_of_getElem? (i := 30) rfl)) (hw _ (List.mem_of_getElem? (i := 29) rfl)) (by decide) (by decide) hEL C14.1) (g := (mkF m 259 #[iv p1, iv p2, iv p3, iv p4, iv p5, iv (0 : Int32), iv z1_0, iv z3_0, iv z5_0, iv z7_0, rv b9, iv (1 : Int32), iv (0 : Int32), iv (0 : Int32)] [(.ref b9)])) rfl (by rw [hml]; rfl) (argsL := [(.ref b9)]) (rest := []) (lenOf pd__Ljava_lang_String__Z rfl) rfl (by show 2 * 0 + _ ≤ _; exact Nat.le_of_eq rfl) (hb hby at_259) (fun _ _ => ⟨rfl, rfl, (by decide : 10 + 4 ≤ _), (by decide : 44 + 32 ≤ _)⟩)
          dsimp only [Pt.U, Pt.locs, Pt.cells, Pt.slots] at X15a hS15a hg15a l15 y15 z15 st15 hQ15 H15c
          subst l15 y15 z15
          obtain ⟨X15, hS15, hZ, hown⟩ := rebS (s := s) (vm0 := T13.vm) hS13 (Nat.le_refl _) X15a hS15a hg15a hZ hown
          obtain ⟨rfl, N15q, K15⟩ := hQ15
          have C16 := C14.trans H15c
          have S16_b9 := H15c.safe P13_0.lt S14_b9
          have N15 := Fr.app N13 N15q
          refine own_go ?_ (fun target hr => st15.trans (XS.iload X15.here hx rfl (hb hby at_262) rfl (XS.icmpNo X15.here hx rfl (hb hby at_264) rfl (teq (by decide : (0 : Int32) = (0 : Int32))).2 (XS.iconst X15.here hx rfl (hb hby at_267) (XS.goto X15.here hx rfl (pc0 := 268) (pc' := 272) rfl (hb hby at_268) (by decide) (by decide) hr)))))
          show own_G _ p e below s _ _ _ (T15.setTop (mkF m 272 #[iv p1, iv p2, iv p3, iv p4, iv p5, iv (0 : Int32), iv z1_0, iv z3_0, iv z5_0, iv z7_0, rv b9, iv (1 : Int32), iv (0 : Int32), iv (0 : Int32)] [(.int (1 : Int32))]))
          obtain ⟨fs, hr, hrun, hended, hRW⟩ := Stand.leaveW (s := s) (vm₁ := T15.vm) X15 hS15 (Nat.le_refl _) (v := some (.int (1 : Int32))) (fun h => by rw [Bd.returns] at h; cases h)
          have hCe := C16.trans (CHv.at (s := s) (vm0 := T15.vm) X15 hZ hEL C16.1)
          exact ⟨_, _, retN X15 hx (t := .boolean) Bd.returns (by simp) (hb hby at_272) hr, hrun, hended, _, _, rfl, ⟨rfl, N15, trivial⟩, (by rw [hh, show (T15.setFrames fs).heap = T15.heap from rfl]; exact hCe), hRW.1, hRW.2.1, hRW.2.2.1, hRW.2.2.2.mono (by decide) (by decide)⟩
        ·
          refine own_go ?_ (fun target hr => XS.icmpYes X13.here hx rfl (pc0 := 196) (pc' := 203) rfl (hb hby at_196) rfl (feq hc196).2 (by decide) (by decide) (XS.iconst X13.here hx rfl (hb hby at_203) (XS.istore X13.here hx rfl (hb hby at_204) rfl (l' := #[iv p1, iv p2, iv p3, iv p4, iv p5, iv (0 : Int32), iv z1_0, iv z3_0, iv z5_0, iv z7_0, rv b9, iv (0 : Int32), .unset, .unset]) rfl (XS.iload X13.here hx rfl (hb hby at_206) rfl (XS.bipush X13.here hx rfl (hb hby at_208) (XS.icmpYes X13.here hx rfl (pc0 := 210) (pc' := 231) rfl (hb hby at_210) rfl (feq (fun q => absurd (hc182.symm.trans q) (by decide))).2 (by decide) (by decide) (XS.iconst X13.here hx rfl (hb hby at_231) (XS.istore X13.here hx rfl (hb hby at_232) rfl (l' := #[iv p1, iv p2, iv p3, iv p4, iv p5, iv (0 : Int32), iv z1_0, iv z3_0, iv z5_0, iv z7_0, rv b9, iv (0 : Int32), iv (0 : Int32), .unset]) rfl hr))))))))
          show own_G _ p e below s _ _ _ (T13.setTop (mkF m 234 #[iv p1, iv p2, iv p3, iv p4, iv p5, iv (0 : Int32), iv z1_0, iv z3_0, iv z5_0, iv z7_0, rv b9, iv (0 : Int32), iv (0 : Int32), .unset] []))
          refine own_go ?_ (fun target hr => XS.iload X13.here hx rfl (hb hby at_234) rfl (XS.iconst X13.here hx rfl (hb hby at_236) (XS.icmpYes X13.here hx rfl (pc0 := 237) (pc' := 254) rfl (hb hby at_237) rfl (feq (by decide : ¬ ((0 : Int32) = (3 : Int32)))).2 (by decide) (by decide) (XS.iconst X13.here hx rfl (hb hby at_254) (XS.istore X13.here hx rfl (hb hby at_255) rfl (l' := #[iv p1, iv p2, iv p3, iv p4, iv p5, iv (0 : Int32), iv z1_0, iv z3_0, iv z5_0, iv z7_0, rv b9, iv (0 : Int32), iv (0 : Int32), iv (0 : Int32)]) rfl (XS.aload X13.here hx rfl (hb hby at_257) rfl rfl hr))))))
          show own_G _ p e below s _ _ _ (T13.setTop (mkF m 259 #[iv p1, iv p2, iv p3, iv p4, iv p5, iv (0 : Int32), iv z1_0, iv z3_0, iv z5_0, iv z7_0, rv b9, iv (0 : Int32), iv (0 : Int32), iv (0 : Int32)] [(.ref b9)]))
          obtain ⟨_, _, ⟨T17, L17, k17, n17⟩, -, X17a, hS17a, hg17a, ⟨Lc17, hQ17, l17, y17, z17, H17c⟩, st17⟩ := callSS X13 hx (y := (⟨"com/example/prita/prita/gnss/GnssTime", "carriesTime", "(Ljava/lang/String;)Z"⟩ : MethodName)) hown (mvT hZ (hw _ (List.mem_of_getElem? (i := 27) rfl))) (mvT hZ (hw _ (List.mem_of_getElem? (i := 28) rfl))) (mvT hZ (hw _ (List.mem_of_getElem? (i := 29) rfl))) (mvT hZ (hw _ (List.mem_of_getElem? (i := 30) rfl))) (by decide) (backOfSH (s := s) (vm0 := T13.vm) (W := 0) (rm_ct_0 l Z a0 hw [] b9 b13_0 kb13_1 zc T13.heap n0 (Nat.le_trans (Nat.le_trans (Nat.le_trans (Nat.le_trans (Nat.le_trans (Nat.le_trans (Nat.le_trans Z0 K1.1) K3.1) K5.1) K7.1) E9.1) E11.1) K13.1) P13_0 P13_1 P13_2 P13_3 (((((((hold.keep K1 all0).keep K3 all0).keep K5 all0).keep K7 all0).ext E9).ext E11).keep K13 (allS g_b9 all0)) S_COMPACT_STRINGS (fun c hc => nomatch hc) hz) hZ (hw _ (List.mem_of_getElem? (i := 30) rfl)) (hw _ (List.mem_of_getElem? (i := 29) rfl)) (by decide) (by decide) hEL C14.1) (g := (mkF m 259 #[iv p1, iv p2, iv p3, iv p4, iv p5, iv (0 : Int32), iv z1_0, iv z3_0, iv z5_0, iv z7_0, rv b9, iv (0 : Int32), iv (0 : Int32), iv (0 : Int32)] [(.ref b9)])) rfl (by rw [hml]; rfl) (argsL := [(.ref b9)]) (rest := []) (lenOf pd__Ljava_lang_String__Z rfl) rfl (by show 2 * 0 + _ ≤ _; exact Nat.le_of_eq rfl) (hb hby at_259) (fun _ _ => ⟨rfl, rfl, (by decide : 10 + 4 ≤ _), (by decide : 44 + 32 ≤ _)⟩)
          dsimp only [Pt.U, Pt.locs, Pt.cells, Pt.slots] at X17a hS17a hg17a l17 y17 z17 st17 hQ17 H17c
          subst l17 y17 z17
          obtain ⟨X17, hS17, hZ, hown⟩ := rebS (s := s) (vm0 := T13.vm) hS13 (Nat.le_refl _) X17a hS17a hg17a hZ hown
          obtain ⟨rfl, N17q, K17⟩ := hQ17
          have C18 := C14.trans H17c
          have S18_b9 := H17c.safe P13_0.lt S14_b9
          have N17 := Fr.app N13 N17q
          refine own_go ?_ (fun target hr => st17.trans (XS.iload X17.here hx rfl (hb hby at_262) rfl (XS.icmpNo X17.here hx rfl (hb hby at_264) rfl (teq (by decide : (0 : Int32) = (0 : Int32))).2 (XS.iconst X17.here hx rfl (hb hby at_267) (XS.goto X17.here hx rfl (pc0 := 268) (pc' := 272) rfl (hb hby at_268) (by decide) (by decide) hr)))))
          show own_G _ p e below s _ _ _ (T17.setTop (mkF m 272 #[iv p1, iv p2, iv p3, iv p4, iv p5, iv (0 : Int32), iv z1_0, iv z3_0, iv z5_0, iv z7_0, rv b9, iv (0 : Int32), iv (0 : Int32), iv (0 : Int32)] [(.int (1 : Int32))]))
          obtain ⟨fs, hr, hrun, hended, hRW⟩ := Stand.leaveW (s := s) (vm₁ := T17.vm) X17 hS17 (Nat.le_refl _) (v := some (.int (1 : Int32))) (fun h => by rw [Bd.returns] at h; cases h)
          have hCe := C18.trans (CHv.at (s := s) (vm0 := T17.vm) X17 hZ hEL C18.1)
          exact ⟨_, _, retN X17 hx (t := .boolean) Bd.returns (by simp) (hb hby at_272) hr, hrun, hended, _, _, rfl, ⟨rfl, N17, trivial⟩, (by rw [hh, show (T17.setFrames fs).heap = T17.heap from rfl]; exact hCe), hRW.1, hRW.2.1, hRW.2.2.1, hRW.2.2.2.mono (by decide) (by decide)⟩
      ·
        refine own_go ?_ (fun target hr => XS.icmpYes X13.here hx rfl (pc0 := 189) (pc' := 203) rfl (hb hby at_189) rfl (feq hc189).2 (by decide) (by decide) (XS.iconst X13.here hx rfl (hb hby at_203) (XS.istore X13.here hx rfl (hb hby at_204) rfl (l' := #[iv p1, iv p2, iv p3, iv p4, iv p5, iv (0 : Int32), iv z1_0, iv z3_0, iv z5_0, iv z7_0, rv b9, iv (0 : Int32), .unset, .unset]) rfl (XS.iload X13.here hx rfl (hb hby at_206) rfl (XS.bipush X13.here hx rfl (hb hby at_208) (XS.icmpYes X13.here hx rfl (pc0 := 210) (pc' := 231) rfl (hb hby at_210) rfl (feq (fun q => absurd (hc182.symm.trans q) (by decide))).2 (by decide) (by decide) (XS.iconst X13.here hx rfl (hb hby at_231) (XS.istore X13.here hx rfl (hb hby at_232) rfl (l' := #[iv p1, iv p2, iv p3, iv p4, iv p5, iv (0 : Int32), iv z1_0, iv z3_0, iv z5_0, iv z7_0, rv b9, iv (0 : Int32), iv (0 : Int32), .unset]) rfl hr))))))))
        show own_G _ p e below s _ _ _ (T13.setTop (mkF m 234 #[iv p1, iv p2, iv p3, iv p4, iv p5, iv (0 : Int32), iv z1_0, iv z3_0, iv z5_0, iv z7_0, rv b9, iv (0 : Int32), iv (0 : Int32), .unset] []))
        refine own_go ?_ (fun target hr => XS.iload X13.here hx rfl (hb hby at_234) rfl (XS.iconst X13.here hx rfl (hb hby at_236) (XS.icmpYes X13.here hx rfl (pc0 := 237) (pc' := 254) rfl (hb hby at_237) rfl (feq (by decide : ¬ ((0 : Int32) = (3 : Int32)))).2 (by decide) (by decide) (XS.iconst X13.here hx rfl (hb hby at_254) (XS.istore X13.here hx rfl (hb hby at_255) rfl (l' := #[iv p1, iv p2, iv p3, iv p4, iv p5, iv (0 : Int32), iv z1_0, iv z3_0, iv z5_0, iv z7_0, rv b9, iv (0 : Int32), iv (0 : Int32), iv (0 : Int32)]) rfl (XS.aload X13.here hx rfl (hb hby at_257) rfl rfl hr))))))
        show own_G _ p e below s _ _ _ (T13.setTop (mkF m 259 #[iv p1, iv p2, iv p3, iv p4, iv p5, iv (0 : Int32), iv z1_0, iv z3_0, iv z5_0, iv z7_0, rv b9, iv (0 : Int32), iv (0 : Int32), iv (0 : Int32)] [(.ref b9)]))
        obtain ⟨_, _, ⟨T19, L19, k19, n19⟩, -, X19a, hS19a, hg19a, ⟨Lc19, hQ19, l19, y19, z19, H19c⟩, st19⟩ := callSS X13 hx (y := (⟨"com/example/prita/prita/gnss/GnssTime", "carriesTime", "(Ljava/lang/String;)Z"⟩ : MethodName)) hown (mvT hZ (hw _ (List.mem_of_getElem? (i := 27) rfl))) (mvT hZ (hw _ (List.mem_of_getElem? (i := 28) rfl))) (mvT hZ (hw _ (List.mem_of_getElem? (i := 29) rfl))) (mvT hZ (hw _ (List.mem_of_getElem? (i := 30) rfl))) (by decide) (backOfSH (s := s) (vm0 := T13.vm) (W := 0) (rm_ct_0 l Z a0 hw [] b9 b13_0 kb13_1 zc T13.heap n0 (Nat.le_trans (Nat.le_trans (Nat.le_trans (Nat.le_trans (Nat.le_trans (Nat.le_trans (Nat.le_trans Z0 K1.1) K3.1) K5.1) K7.1) E9.1) E11.1) K13.1) P13_0 P13_1 P13_2 P13_3 (((((((hold.keep K1 all0).keep K3 all0).keep K5 all0).keep K7 all0).ext E9).ext E11).keep K13 (allS g_b9 all0)) S_COMPACT_STRINGS (fun c hc => nomatch hc) hz) hZ (hw _ (List.mem_of_getElem? (i := 30) rfl)) (hw _ (List.mem_of_getElem? (i := 29) rfl)) (by decide) (by decide) hEL C14.1) (g := (mkF m 259 #[iv p1, iv p2, iv p3, iv p4, iv p5, iv (0 : Int32), iv z1_0, iv z3_0, iv z5_0, iv z7_0, rv b9, iv (0 : Int32), iv (0 : Int32), iv (0 : Int32)] [(.ref b9)])) rfl (by rw [hml]; rfl) (argsL := [(.ref b9)]) (rest := []) (lenOf pd__Ljava_lang_String__Z rfl) rfl (by show 2 * 0 + _ ≤ _; exact Nat.le_of_eq rfl) (hb hby at_259) (fun _ _ => ⟨rfl, rfl, (by decide : 10 + 4 ≤ _), (by decide : 44 + 32 ≤ _)⟩)
        dsimp only [Pt.U, Pt.locs, Pt.cells, Pt.slots] at X19a hS19a hg19a l19 y19 z19 st19 hQ19 H19c
        subst l19 y19 z19
        obtain ⟨X19, hS19, hZ, hown⟩ := rebS (s := s) (vm0 := T13.vm) hS13 (Nat.le_refl _) X19a hS19a hg19a hZ hown
        obtain ⟨rfl, N19q, K19⟩ := hQ19
        have C20 := C14.trans H19c
        have S20_b9 := H19c.safe P13_0.lt S14_b9
        have N19 := Fr.app N13 N19q
        refine own_go ?_ (fun target hr => st19.trans (XS.iload X19.here hx rfl (hb hby at_262) rfl (XS.icmpNo X19.here hx rfl (hb hby at_264) rfl (teq (by decide : (0 : Int32) = (0 : Int32))).2 (XS.iconst X19.here hx rfl (hb hby at_267) (XS.goto X19.here hx rfl (pc0 := 268) (pc' := 272) rfl (hb hby at_268) (by decide) (by decide) hr)))))
        show own_G _ p e below s _ _ _ (T19.setTop (mkF m 272 #[iv p1, iv p2, iv p3, iv p4, iv p5, iv (0 : Int32), iv z1_0, iv z3_0, iv z5_0, iv z7_0, rv b9, iv (0 : Int32), iv (0 : Int32), iv (0 : Int32)] [(.int (1 : Int32))]))
        obtain ⟨fs, hr, hrun, hended, hRW⟩ := Stand.leaveW (s := s) (vm₁ := T19.vm) X19 hS19 (Nat.le_refl _) (v := some (.int (1 : Int32))) (fun h => by rw [Bd.returns] at h; cases h)
        have hCe := C20.trans (CHv.at (s := s) (vm0 := T19.vm) X19 hZ hEL C20.1)
        exact ⟨_, _, retN X19 hx (t := .boolean) Bd.returns (by simp) (hb hby at_272) hr, hrun, hended, _, _, rfl, ⟨rfl, N19, trivial⟩, (by rw [hh, show (T19.setFrames fs).heap = T19.heap from rfl]; exact hCe), hRW.1, hRW.2.1, hRW.2.2.1, hRW.2.2.2.mono (by decide) (by decide)⟩
    ·
      refine own_go ?_ (fun target hr => XS.icmpYes X13.here hx rfl (pc0 := 182) (pc' := 203) rfl (hb hby at_182) rfl (feq hc182).2 (by decide) (by decide) (XS.iconst X13.here hx rfl (hb hby at_203) (XS.istore X13.here hx rfl (hb hby at_204) rfl (l' := #[iv p1, iv p2, iv p3, iv p4, iv p5, iv (0 : Int32), iv z1_0, iv z3_0, iv z5_0, iv z7_0, rv b9, iv (0 : Int32), .unset, .unset]) rfl (XS.iload X13.here hx rfl (hb hby at_206) rfl (XS.bipush X13.here hx rfl (hb hby at_208) hr)))))
      show own_G _ p e below s _ _ _ (T13.setTop (mkF m 210 #[iv p1, iv p2, iv p3, iv p4, iv p5, iv (0 : Int32), iv z1_0, iv z3_0, iv z5_0, iv z7_0, rv b9, iv (0 : Int32), .unset, .unset] [(.int (90 : Int32)), (.int z1_0)]))
      by_cases hc210 : z1_0 = (90 : Int32)
      ·
        refine own_go ?_ (fun target hr => XS.icmpNo X13.here hx rfl (hb hby at_210) rfl (teq hc210).2 (XS.iload X13.here hx rfl (hb hby at_213) rfl (XS.bipush X13.here hx rfl (hb hby at_215) hr)))
        show own_G _ p e below s _ _ _ (T13.setTop (mkF m 217 #[iv p1, iv p2, iv p3, iv p4, iv p5, iv (0 : Int32), iv z1_0, iv z3_0, iv z5_0, iv z7_0, rv b9, iv (0 : Int32), .unset, .unset] [(.int (68 : Int32)), (.int z3_0)]))
        by_cases hc217 : z3_0 = (68 : Int32)
        ·
          refine own_go ?_ (fun target hr => XS.icmpNo X13.here hx rfl (hb hby at_217) rfl (teq hc217).2 (XS.iload X13.here hx rfl (hb hby at_220) rfl (XS.bipush X13.here hx rfl (hb hby at_222) hr)))
          show own_G _ p e below s _ _ _ (T13.setTop (mkF m 224 #[iv p1, iv p2, iv p3, iv p4, iv p5, iv (0 : Int32), iv z1_0, iv z3_0, iv z5_0, iv z7_0, rv b9, iv (0 : Int32), .unset, .unset] [(.int (65 : Int32)), (.int z5_0)]))
          by_cases hc224 : z5_0 = (65 : Int32)
          ·
            refine own_go ?_ (fun target hr => XS.icmpNo X13.here hx rfl (hb hby at_224) rfl (teq hc224).2 (XS.iconst X13.here hx rfl (hb hby at_227) (XS.goto X13.here hx rfl (pc0 := 228) (pc' := 232) rfl (hb hby at_228) (by decide) (by decide) (XS.istore X13.here hx rfl (hb hby at_232) rfl (l' := #[iv p1, iv p2, iv p3, iv p4, iv p5, iv (0 : Int32), iv z1_0, iv z3_0, iv z5_0, iv z7_0, rv b9, iv (0 : Int32), iv (1 : Int32), .unset]) rfl (XS.iload X13.here hx rfl (hb hby at_234) rfl (XS.iconst X13.here hx rfl (hb hby at_236) (XS.icmpYes X13.here hx rfl (pc0 := 237) (pc' := 254) rfl (hb hby at_237) rfl (feq (by decide : ¬ ((0 : Int32) = (3 : Int32)))).2 (by decide) (by decide) (XS.iconst X13.here hx rfl (hb hby at_254) hr))))))))
            show own_G _ p e below s _ _ _ (T13.setTop (mkF m 255 #[iv p1, iv p2, iv p3, iv p4, iv p5, iv (0 : Int32), iv z1_0, iv z3_0, iv z5_0, iv z7_0, rv b9, iv (0 : Int32), iv (1 : Int32), .unset] [(.int (0 : Int32))]))
            refine own_go ?_ (fun target hr => XS.istore X13.here hx rfl (hb hby at_255) rfl (l' := #[iv p1, iv p2, iv p3, iv p4, iv p5, iv (0 : Int32), iv z1_0, iv z3_0, iv z5_0, iv z7_0, rv b9, iv (0 : Int32), iv (1 : Int32), iv (0 : Int32)]) rfl (XS.aload X13.here hx rfl (hb hby at_257) rfl rfl hr))
            show own_G _ p e below s _ _ _ (T13.setTop (mkF m 259 #[iv p1, iv p2, iv p3, iv p4, iv p5, iv (0 : Int32), iv z1_0, iv z3_0, iv z5_0, iv z7_0, rv b9, iv (0 : Int32), iv (1 : Int32), iv (0 : Int32)] [(.ref b9)]))
            obtain ⟨_, _, ⟨T21, L21, k21, n21⟩, -, X21a, hS21a, hg21a, ⟨Lc21, hQ21, l21, y21, z21, H21c⟩, st21⟩ := callSS X13 hx (y := (⟨"com/example/prita/prita/gnss/GnssTime", "carriesTime", "(Ljava/lang/String;)Z"⟩ : MethodName)) hown (mvT hZ (hw _ (List.mem_of_getElem? (i := 27) rfl))) (mvT hZ (hw _ (List.mem_of_getElem? (i := 28) rfl))) (mvT hZ (hw _ (List.mem_of_getElem? (i := 29) rfl))) (mvT hZ (hw _ (List.mem_of_getElem? (i := 30) rfl))) (by decide) (backOfSH (s := s) (vm0 := T13.vm) (W := 0) (rm_ct_0 l Z a0 hw [] b9 b13_0 kb13_1 zc T13.heap n0 (Nat.le_trans (Nat.le_trans (Nat.le_trans (Nat.le_trans (Nat.le_trans (Nat.le_trans (Nat.le_trans Z0 K1.1) K3.1) K5.1) K7.1) E9.1) E11.1) K13.1) P13_0 P13_1 P13_2 P13_3 (((((((hold.keep K1 all0).keep K3 all0).keep K5 all0).keep K7 all0).ext E9).ext E11).keep K13 (allS g_b9 all0)) S_COMPACT_STRINGS (fun c hc => nomatch hc) hz) hZ (hw _ (List.mem_of_getElem? (i := 30) rfl)) (hw _ (List.mem_of_getElem? (i := 29) rfl)) (by decide) (by decide) hEL C14.1) (g := (mkF m 259 #[iv p1, iv p2, iv p3, iv p4, iv p5, iv (0 : Int32), iv z1_0, iv z3_0, iv z5_0, iv z7_0, rv b9, iv (0 : Int32), iv (1 : Int32), iv (0 : Int32)] [(.ref b9)])) rfl (by rw [hml]; rfl) (argsL := [(.ref b9)]) (rest := []) (lenOf pd__Ljava_lang_String__Z rfl) rfl (by show 2 * 0 + _ ≤ _; exact Nat.le_of_eq rfl) (hb hby at_259) (fun _ _ => ⟨rfl, rfl, (by decide : 10 + 4 ≤ _), (by decide : 44 + 32 ≤ _)⟩)
            dsimp only [Pt.U, Pt.locs, Pt.cells, Pt.slots] at X21a hS21a hg21a l21 y21 z21 st21 hQ21 H21c
            subst l21 y21 z21
            obtain ⟨X21, hS21, hZ, hown⟩ := rebS (s := s) (vm0 := T13.vm) hS13 (Nat.le_refl _) X21a hS21a hg21a hZ hown
            obtain ⟨rfl, N21q, K21⟩ := hQ21
            have C22 := C14.trans H21c
            have S22_b9 := H21c.safe P13_0.lt S14_b9
            have N21 := Fr.app N13 N21q
            refine own_go ?_ (fun target hr => st21.trans (XS.iload X21.here hx rfl (hb hby at_262) rfl (XS.icmpNo X21.here hx rfl (hb hby at_264) rfl (teq (by decide : (0 : Int32) = (0 : Int32))).2 (XS.iconst X21.here hx rfl (hb hby at_267) (XS.goto X21.here hx rfl (pc0 := 268) (pc' := 272) rfl (hb hby at_268) (by decide) (by decide) hr)))))
            show own_G _ p e below s _ _ _ (T21.setTop (mkF m 272 #[iv p1, iv p2, iv p3, iv p4, iv p5, iv (0 : Int32), iv z1_0, iv z3_0, iv z5_0, iv z7_0, rv b9, iv (0 : Int32), iv (1 : Int32), iv (0 : Int32)] [(.int (1 : Int32))]))
            obtain ⟨fs, hr, hrun, hended, hRW⟩ := Stand.leaveW (s := s) (vm₁ := T21.vm) X21 hS21 (Nat.le_refl _) (v := some (.int (1 : Int32))) (fun h => by rw [Bd.returns] at h; cases h)
            have hCe := C22.trans (CHv.at (s := s) (vm0 := T21.vm) X21 hZ hEL C22.1)
            exact ⟨_, _, retN X21 hx (t := .boolean) Bd.returns (by simp) (hb hby at_272) hr, hrun, hended, _, _, rfl, ⟨rfl, N21, trivial⟩, (by rw [hh, show (T21.setFrames fs).heap = T21.heap from rfl]; exact hCe), hRW.1, hRW.2.1, hRW.2.2.1, hRW.2.2.2.mono (by decide) (by decide)⟩
          ·
            refine own_go ?_ (fun target hr => XS.icmpYes X13.here hx rfl (pc0 := 224) (pc' := 231) rfl (hb hby at_224) rfl (feq hc224).2 (by decide) (by decide) (XS.iconst X13.here hx rfl (hb hby at_231) (XS.istore X13.here hx rfl (hb hby at_232) rfl (l' := #[iv p1, iv p2, iv p3, iv p4, iv p5, iv (0 : Int32), iv z1_0, iv z3_0, iv z5_0, iv z7_0, rv b9, iv (0 : Int32), iv (0 : Int32), .unset]) rfl (XS.iload X13.here hx rfl (hb hby at_234) rfl (XS.iconst X13.here hx rfl (hb hby at_236) (XS.icmpYes X13.here hx rfl (pc0 := 237) (pc' := 254) rfl (hb hby at_237) rfl (feq (by decide : ¬ ((0 : Int32) = (3 : Int32)))).2 (by decide) (by decide) (XS.iconst X13.here hx rfl (hb hby at_254) (XS.istore X13.here hx rfl (hb hby at_255) rfl (l' := #[iv p1, iv p2, iv p3, iv p4, iv p5, iv (0 : Int32), iv z1_0, iv z3_0, iv z5_0, iv z7_0, rv b9, iv (0 : Int32), iv (0 : Int32), iv (0 : Int32)]) rfl hr))))))))
            show own_G _ p e below s _ _ _ (T13.setTop (mkF m 257 #[iv p1, iv p2, iv p3, iv p4, iv p5, iv (0 : Int32), iv z1_0, iv z3_0, iv z5_0, iv z7_0, rv b9, iv (0 : Int32), iv (0 : Int32), iv (0 : Int32)] []))
            refine own_go ?_ (fun target hr => XS.aload X13.here hx rfl (hb hby at_257) rfl rfl hr)
            show own_G _ p e below s _ _ _ (T13.setTop (mkF m 259 #[iv p1, iv p2, iv p3, iv p4, iv p5, iv (0 : Int32), iv z1_0, iv z3_0, iv z5_0, iv z7_0, rv b9, iv (0 : Int32), iv (0 : Int32), iv (0 : Int32)] [(.ref b9)]))
            obtain ⟨_, _, ⟨T23, L23, k23, n23⟩, -, X23a, hS23a, hg23a, ⟨Lc23, hQ23, l23, y23, z23, H23c⟩, st23⟩ := callSS X13 hx (y := (⟨"com/example/prita/prita/gnss/GnssTime", "carriesTime", "(Ljava/lang/String;)Z"⟩ : MethodName)) hown (mvT hZ (hw _ (List.mem_of_getElem? (i := 27) rfl))) (mvT hZ (hw _ (List.mem_of_getElem? (i := 28) rfl))) (mvT hZ (hw _ (List.mem_of_getElem? (i := 29) rfl))) (mvT hZ (hw _ (List.mem_of_getElem? (i := 30) rfl))) (by decide) (backOfSH (s := s) (vm0 := T13.vm) (W := 0) (rm_ct_0 l Z a0 hw [] b9 b13_0 kb13_1 zc T13.heap n0 (Nat.le_trans (Nat.le_trans (Nat.le_trans (Nat.le_trans (Nat.le_trans (Nat.le_trans (Nat.le_trans Z0 K1.1) K3.1) K5.1) K7.1) E9.1) E11.1) K13.1) P13_0 P13_1 P13_2 P13_3 (((((((hold.keep K1 all0).keep K3 all0).keep K5 all0).keep K7 all0).ext E9).ext E11).keep K13 (allS g_b9 all0)) S_COMPACT_STRINGS (fun c hc => nomatch hc) hz) hZ (hw _ (List.mem_of_getElem? (i := 30) rfl)) (hw _ (List.mem_of_getElem? (i := 29) rfl)) (by decide) (by decide) hEL C14.1) (g := (mkF m 259 #[iv p1, iv p2, iv p3, iv p4, iv p5, iv (0 : Int32), iv z1_0, iv z3_0, iv z5_0, iv z7_0, rv b9, iv (0 : Int32), iv (0 : Int32), iv (0 : Int32)] [(.ref b9)])) rfl (by rw [hml]; rfl) (argsL := [(.ref b9)]) (rest := []) (lenOf pd__Ljava_lang_String__Z rfl) rfl (by show 2 * 0 + _ ≤ _; exact Nat.le_of_eq rfl) (hb hby at_259) (fun _ _ => ⟨rfl, rfl, (by decide : 10 + 4 ≤ _), (by decide : 44 + 32 ≤ _)⟩)
            dsimp only [Pt.U, Pt.locs, Pt.cells, Pt.slots] at X23a hS23a hg23a l23 y23 z23 st23 hQ23 H23c
            subst l23 y23 z23
            obtain ⟨X23, hS23, hZ, hown⟩ := rebS (s := s) (vm0 := T13.vm) hS13 (Nat.le_refl _) X23a hS23a hg23a hZ hown
            obtain ⟨rfl, N23q, K23⟩ := hQ23
            have C24 := C14.trans H23c
            have S24_b9 := H23c.safe P13_0.lt S14_b9
            have N23 := Fr.app N13 N23q
            refine own_go ?_ (fun target hr => st23.trans (XS.iload X23.here hx rfl (hb hby at_262) rfl (XS.icmpNo X23.here hx rfl (hb hby at_264) rfl (teq (by decide : (0 : Int32) = (0 : Int32))).2 (XS.iconst X23.here hx rfl (hb hby at_267) (XS.goto X23.here hx rfl (pc0 := 268) (pc' := 272) rfl (hb hby at_268) (by decide) (by decide) hr)))))
            show own_G _ p e below s _ _ _ (T23.setTop (mkF m 272 #[iv p1, iv p2, iv p3, iv p4, iv p5, iv (0 : Int32), iv z1_0, iv z3_0, iv z5_0, iv z7_0, rv b9, iv (0 : Int32), iv (0 : Int32), iv (0 : Int32)] [(.int (1 : Int32))]))
            obtain ⟨fs, hr, hrun, hended, hRW⟩ := Stand.leaveW (s := s) (vm₁ := T23.vm) X23 hS23 (Nat.le_refl _) (v := some (.int (1 : Int32))) (fun h => by rw [Bd.returns] at h; cases h)
            have hCe := C24.trans (CHv.at (s := s) (vm0 := T23.vm) X23 hZ hEL C24.1)
            exact ⟨_, _, retN X23 hx (t := .boolean) Bd.returns (by simp) (hb hby at_272) hr, hrun, hended, _, _, rfl, ⟨rfl, N23, trivial⟩, (by rw [hh, show (T23.setFrames fs).heap = T23.heap from rfl]; exact hCe), hRW.1, hRW.2.1, hRW.2.2.1, hRW.2.2.2.mono (by decide) (by decide)⟩
        ·
          refine own_go ?_ (fun target hr => XS.icmpYes X13.here hx rfl (pc0 := 217) (pc' := 231) rfl (hb hby at_217) rfl (feq hc217).2 (by decide) (by decide) (XS.iconst X13.here hx rfl (hb hby at_231) (XS.istore X13.here hx rfl (hb hby at_232) rfl (l' := #[iv p1, iv p2, iv p3, iv p4, iv p5, iv (0 : Int32), iv z1_0, iv z3_0, iv z5_0, iv z7_0, rv b9, iv (0 : Int32), iv (0 : Int32), .unset]) rfl (XS.iload X13.here hx rfl (hb hby at_234) rfl (XS.iconst X13.here hx rfl (hb hby at_236) (XS.icmpYes X13.here hx rfl (pc0 := 237) (pc' := 254) rfl (hb hby at_237) rfl (feq (by decide : ¬ ((0 : Int32) = (3 : Int32)))).2 (by decide) (by decide) (XS.iconst X13.here hx rfl (hb hby at_254) (XS.istore X13.here hx rfl (hb hby at_255) rfl (l' := #[iv p1, iv p2, iv p3, iv p4, iv p5, iv (0 : Int32), iv z1_0, iv z3_0, iv z5_0, iv z7_0, rv b9, iv (0 : Int32), iv (0 : Int32), iv (0 : Int32)]) rfl hr))))))))
          show own_G _ p e below s _ _ _ (T13.setTop (mkF m 257 #[iv p1, iv p2, iv p3, iv p4, iv p5, iv (0 : Int32), iv z1_0, iv z3_0, iv z5_0, iv z7_0, rv b9, iv (0 : Int32), iv (0 : Int32), iv (0 : Int32)] []))
          refine own_go ?_ (fun target hr => XS.aload X13.here hx rfl (hb hby at_257) rfl rfl hr)
          show own_G _ p e below s _ _ _ (T13.setTop (mkF m 259 #[iv p1, iv p2, iv p3, iv p4, iv p5, iv (0 : Int32), iv z1_0, iv z3_0, iv z5_0, iv z7_0, rv b9, iv (0 : Int32), iv (0 : Int32), iv (0 : Int32)] [(.ref b9)]))
          obtain ⟨_, _, ⟨T25, L25, k25, n25⟩, -, X25a, hS25a, hg25a, ⟨Lc25, hQ25, l25, y25, z25, H25c⟩, st25⟩ := callSS X13 hx (y := (⟨"com/example/prita/prita/gnss/GnssTime", "carriesTime", "(Ljava/lang/String;)Z"⟩ : MethodName)) hown (mvT hZ (hw _ (List.mem_of_getElem? (i := 27) rfl))) (mvT hZ (hw _ (List.mem_of_getElem? (i := 28) rfl))) (mvT hZ (hw _ (List.mem_of_getElem? (i := 29) rfl))) (mvT hZ (hw _ (List.mem_of_getElem? (i := 30) rfl))) (by decide) (backOfSH (s := s) (vm0 := T13.vm) (W := 0) (rm_ct_0 l Z a0 hw [] b9 b13_0 kb13_1 zc T13.heap n0 (Nat.le_trans (Nat.le_trans (Nat.le_trans (Nat.le_trans (Nat.le_trans (Nat.le_trans (Nat.le_trans Z0 K1.1) K3.1) K5.1) K7.1) E9.1) E11.1) K13.1) P13_0 P13_1 P13_2 P13_3 (((((((hold.keep K1 all0).keep K3 all0).keep K5 all0).keep K7 all0).ext E9).ext E11).keep K13 (allS g_b9 all0)) S_COMPACT_STRINGS (fun c hc => nomatch hc) hz) hZ (hw _ (List.mem_of_getElem? (i := 30) rfl)) (hw _ (List.mem_of_getElem? (i := 29) rfl)) (by decide) (by decide) hEL C14.1) (g := (mkF m 259 #[iv p1, iv p2, iv p3, iv p4, iv p5, iv (0 : Int32), iv z1_0, iv z3_0, iv z5_0, iv z7_0, rv b9, iv (0 : Int32), iv (0 : Int32), iv (0 : Int32)] [(.ref b9)])) rfl (by rw [hml]; rfl) (argsL := [(.ref b9)]) (rest := []) (lenOf pd__Ljava_lang_String__Z rfl) rfl (by show 2 * 0 + _ ≤ _; exact Nat.le_of_eq rfl) (hb hby at_259) (fun _ _ => ⟨rfl, rfl, (by decide : 10 + 4 ≤ _), (by decide : 44 + 32 ≤ _)⟩)
          dsimp only [Pt.U, Pt.locs, Pt.cells, Pt.slots] at X25a hS25a hg25a l25 y25 z25 st25 hQ25 H25c
          subst l25 y25 z25
          obtain ⟨X25, hS25, hZ, hown⟩ := rebS (s := s) (vm0 := T13.vm) hS13 (Nat.le_refl _) X25a hS25a hg25a hZ hown
          obtain ⟨rfl, N25q, K25⟩ := hQ25
          have C26 := C14.trans H25c
          have S26_b9 := H25c.safe P13_0.lt S14_b9
          have N25 := Fr.app N13 N25q
          refine own_go ?_ (fun target hr => st25.trans (XS.iload X25.here hx rfl (hb hby at_262) rfl (XS.icmpNo X25.here hx rfl (hb hby at_264) rfl (teq (by decide : (0 : Int32) = (0 : Int32))).2 (XS.iconst X25.here hx rfl (hb hby at_267) (XS.goto X25.here hx rfl (pc0 := 268) (pc' := 272) rfl (hb hby at_268) (by decide) (by decide) hr)))))
          show own_G _ p e below s _ _ _ (T25.setTop (mkF m 272 #[iv p1, iv p2, iv p3, iv p4, iv p5, iv (0 : Int32), iv z1_0, iv z3_0, iv z5_0, iv z7_0, rv b9, iv (0 : Int32), iv (0 : Int32), iv (0 : Int32)] [(.int (1 : Int32))]))
          obtain ⟨fs, hr, hrun, hended, hRW⟩ := Stand.leaveW (s := s) (vm₁ := T25.vm) X25 hS25 (Nat.le_refl _) (v := some (.int (1 : Int32))) (fun h => by rw [Bd.returns] at h; cases h)
          have hCe := C26.trans (CHv.at (s := s) (vm0 := T25.vm) X25 hZ hEL C26.1)
          exact ⟨_, _, retN X25 hx (t := .boolean) Bd.returns (by simp) (hb hby at_272) hr, hrun, hended, _, _, rfl, ⟨rfl, N25, trivial⟩, (by rw [hh, show (T25.setFrames fs).heap = T25.heap from rfl]; exact hCe), hRW.1, hRW.2.1, hRW.2.2.1, hRW.2.2.2.mono (by decide) (by decide)⟩
      ·
        refine own_go ?_ (fun target hr => XS.icmpYes X13.here hx rfl (pc0 := 210) (pc' := 231) rfl (hb hby at_210) rfl (feq hc210).2 (by decide) (by decide) (XS.iconst X13.here hx rfl (hb hby at_231) (XS.istore X13.here hx rfl (hb hby at_232) rfl (l' := #[iv p1, iv p2, iv p3, iv p4, iv p5, iv (0 : Int32), iv z1_0, iv z3_0, iv z5_0, iv z7_0, rv b9, iv (0 : Int32), iv (0 : Int32), .unset]) rfl (XS.iload X13.here hx rfl (hb hby at_234) rfl (XS.iconst X13.here hx rfl (hb hby at_236) (XS.icmpYes X13.here hx rfl (pc0 := 237) (pc' := 254) rfl (hb hby at_237) rfl (feq (by decide : ¬ ((0 : Int32) = (3 : Int32)))).2 (by decide) (by decide) (XS.iconst X13.here hx rfl (hb hby at_254) (XS.istore X13.here hx rfl (hb hby at_255) rfl (l' := #[iv p1, iv p2, iv p3, iv p4, iv p5, iv (0 : Int32), iv z1_0, iv z3_0, iv z5_0, iv z7_0, rv b9, iv (0 : Int32), iv (0 : Int32), iv (0 : Int32)]) rfl hr))))))))
        show own_G _ p e below s _ _ _ (T13.setTop (mkF m 257 #[iv p1, iv p2, iv p3, iv p4, iv p5, iv (0 : Int32), iv z1_0, iv z3_0, iv z5_0, iv z7_0, rv b9, iv (0 : Int32), iv (0 : Int32), iv (0 : Int32)] []))
        refine own_go ?_ (fun target hr => XS.aload X13.here hx rfl (hb hby at_257) rfl rfl hr)
        show own_G _ p e below s _ _ _ (T13.setTop (mkF m 259 #[iv p1, iv p2, iv p3, iv p4, iv p5, iv (0 : Int32), iv z1_0, iv z3_0, iv z5_0, iv z7_0, rv b9, iv (0 : Int32), iv (0 : Int32), iv (0 : Int32)] [(.ref b9)]))
        obtain ⟨_, _, ⟨T27, L27, k27, n27⟩, -, X27a, hS27a, hg27a, ⟨Lc27, hQ27, l27, y27, z27, H27c⟩, st27⟩ := callSS X13 hx (y := (⟨"com/example/prita/prita/gnss/GnssTime", "carriesTime", "(Ljava/lang/String;)Z"⟩ : MethodName)) hown (mvT hZ (hw _ (List.mem_of_getElem? (i := 27) rfl))) (mvT hZ (hw _ (List.mem_of_getElem? (i := 28) rfl))) (mvT hZ (hw _ (List.mem_of_getElem? (i := 29) rfl))) (mvT hZ (hw _ (List.mem_of_getElem? (i := 30) rfl))) (by decide) (backOfSH (s := s) (vm0 := T13.vm) (W := 0) (rm_ct_0 l Z a0 hw [] b9 b13_0 kb13_1 zc T13.heap n0 (Nat.le_trans (Nat.le_trans (Nat.le_trans (Nat.le_trans (Nat.le_trans (Nat.le_trans (Nat.le_trans Z0 K1.1) K3.1) K5.1) K7.1) E9.1) E11.1) K13.1) P13_0 P13_1 P13_2 P13_3 (((((((hold.keep K1 all0).keep K3 all0).keep K5 all0).keep K7 all0).ext E9).ext E11).keep K13 (allS g_b9 all0)) S_COMPACT_STRINGS (fun c hc => nomatch hc) hz) hZ (hw _ (List.mem_of_getElem? (i := 30) rfl)) (hw _ (List.mem_of_getElem? (i := 29) rfl)) (by decide) (by decide) hEL C14.1) (g := (mkF m 259 #[iv p1, iv p2, iv p3, iv p4, iv p5, iv (0 : Int32), iv z1_0, iv z3_0, iv z5_0, iv z7_0, rv b9, iv (0 : Int32), iv (0 : Int32), iv (0 : Int32)] [(.ref b9)])) rfl (by rw [hml]; rfl) (argsL := [(.ref b9)]) (rest := []) (lenOf pd__Ljava_lang_String__Z rfl) rfl (by show 2 * 0 + _ ≤ _; exact Nat.le_of_eq rfl) (hb hby at_259) (fun _ _ => ⟨rfl, rfl, (by decide : 10 + 4 ≤ _), (by decide : 44 + 32 ≤ _)⟩)
        dsimp only [Pt.U, Pt.locs, Pt.cells, Pt.slots] at X27a hS27a hg27a l27 y27 z27 st27 hQ27 H27c
        subst l27 y27 z27
        obtain ⟨X27, hS27, hZ, hown⟩ := rebS (s := s) (vm0 := T13.vm) hS13 (Nat.le_refl _) X27a hS27a hg27a hZ hown
        obtain ⟨rfl, N27q, K27⟩ := hQ27
        have C28 := C14.trans H27c
        have S28_b9 := H27c.safe P13_0.lt S14_b9
        have N27 := Fr.app N13 N27q
        refine own_go ?_ (fun target hr => st27.trans (XS.iload X27.here hx rfl (hb hby at_262) rfl (XS.icmpNo X27.here hx rfl (hb hby at_264) rfl (teq (by decide : (0 : Int32) = (0 : Int32))).2 (XS.iconst X27.here hx rfl (hb hby at_267) (XS.goto X27.here hx rfl (pc0 := 268) (pc' := 272) rfl (hb hby at_268) (by decide) (by decide) hr)))))
        show own_G _ p e below s _ _ _ (T27.setTop (mkF m 272 #[iv p1, iv p2, iv p3, iv p4, iv p5, iv (0 : Int32), iv z1_0, iv z3_0, iv z5_0, iv z7_0, rv b9, iv (0 : Int32), iv (0 : Int32), iv (0 : Int32)] [(.int (1 : Int32))]))
        obtain ⟨fs, hr, hrun, hended, hRW⟩ := Stand.leaveW (s := s) (vm₁ := T27.vm) X27 hS27 (Nat.le_refl _) (v := some (.int (1 : Int32))) (fun h => by rw [Bd.returns] at h; cases h)
        have hCe := C28.trans (CHv.at (s := s) (vm0 := T27.vm) X27 hZ hEL C28.1)
        exact ⟨_, _, retN X27 hx (t := .boolean) Bd.returns (by simp) (hb hby at_272) hr, hrun, hended, _, _, rfl, ⟨rfl, N27, trivial⟩, (by rw [hh, show (T27.setFrames fs).heap = T27.heap from rfl]; exact hCe), hRW.1, hRW.2.1, hRW.2.2.1, hRW.2.2.2.mono (by decide) (by decide)⟩
  ·
    rw [hs6_1]
    show own_G _ p e below s _ _ _ (s₁.setTop (mkF m 6 #[iv p1, iv p2, iv p3, iv p4, iv p5, .unset, .unset, .unset, .unset, .unset, .unset, .unset, .unset, .unset] [(.int (1 : Int32))]))
    refine own_go ?_ (fun target hr => XS.istore X0.here hx rfl (hb hby at_6) rfl (l' := #[iv p1, iv p2, iv p3, iv p4, iv p5, iv (1 : Int32), .unset, .unset, .unset, .unset, .unset, .unset, .unset, .unset]) rfl (XS.iloadN X0.here hx rfl (hb hby at_8) rfl hr))
    show own_G _ p e below s _ _ _ (s₁.setTop (mkF m 9 #[iv p1, iv p2, iv p3, iv p4, iv p5, iv (1 : Int32), .unset, .unset, .unset, .unset, .unset, .unset, .unset, .unset] [(.int p2)]))
    obtain ⟨_, _, ⟨T29, L29, k29, n29⟩, -, X29, ⟨Lc29, hQ29, l29, y29, z29⟩, st29⟩ := Jvm.LawKit.callS X0 hx (y := (⟨"com/example/prita/prita/gnss/GnssTimeCarriesTimePinLaw", "pick", "(I)C"⟩ : MethodName)) hown (mvT hZ (hw _ (List.mem_of_getElem? (i := 1) rfl))) (mvT hZ (hw _ (List.mem_of_getElem? (i := 2) rfl))) (mvT hZ (hw _ (List.mem_of_getElem? (i := 3) rfl))) (mvT hZ (hw _ (List.mem_of_getElem? (i := 4) rfl))) (by decide) (backOf (W := 0) (rm1 l Z a0 hw [] p2 h0 n0 Z0 ) hZ (hw _ (List.mem_of_getElem? (i := 4) rfl)) (hw _ (List.mem_of_getElem? (i := 3) rfl)) (by decide) (by decide)) (g := (mkF m 9 #[iv p1, iv p2, iv p3, iv p4, iv p5, iv (1 : Int32), .unset, .unset, .unset, .unset, .unset, .unset, .unset, .unset] [(.int p2)])) rfl (by rw [hml]; rfl) (argsL := [(.int p2)]) (rest := []) (lenOf pd__I_C rfl) rfl (by show 2 * 0 + _ ≤ _; exact Nat.le_of_eq rfl) (hb hby at_9) (fun _ _ => ⟨rfl, e0, (by decide : 0 + 1 ≤ _), (by decide : 0 + 8 ≤ _)⟩)
    dsimp only [Pt.U, Pt.locs, Pt.cells, Pt.slots] at X29 l29 y29 z29 st29 hQ29
    subst l29 y29 z29
    obtain ⟨z29_0, rfl, N29q, K29, P29_0⟩ := hQ29
    have C30 := hC0.trans (CHr.keep K29 all0 hC0.1)
    have N29 := Fr.app N0 N29q
    refine own_go ?_ (fun target hr => st29 _ (XS.istore X29.here hx rfl (hb hby at_12) rfl (l' := #[iv p1, iv p2, iv p3, iv p4, iv p5, iv (1 : Int32), iv z29_0, .unset, .unset, .unset, .unset, .unset, .unset, .unset]) rfl (XS.iloadN X29.here hx rfl (hb hby at_14) rfl hr)))
    show own_G _ p e below s _ _ _ (T29.setTop (mkF m 15 #[iv p1, iv p2, iv p3, iv p4, iv p5, iv (1 : Int32), iv z29_0, .unset, .unset, .unset, .unset, .unset, .unset, .unset] [(.int p3)]))
    obtain ⟨_, _, ⟨T31, L31, k31, n31⟩, -, X31, ⟨Lc31, hQ31, l31, y31, z31⟩, st31⟩ := Jvm.LawKit.callS X29 hx (y := (⟨"com/example/prita/prita/gnss/GnssTimeCarriesTimePinLaw", "pick", "(I)C"⟩ : MethodName)) hown (mvT hZ (hw _ (List.mem_of_getElem? (i := 1) rfl))) (mvT hZ (hw _ (List.mem_of_getElem? (i := 2) rfl))) (mvT hZ (hw _ (List.mem_of_getElem? (i := 3) rfl))) (mvT hZ (hw _ (List.mem_of_getElem? (i := 4) rfl))) (by decide) (backOf (W := 0) (rm1 l Z a0 hw [] p3 T29.heap n0 (Nat.le_trans Z0 K29.1) ) hZ (hw _ (List.mem_of_getElem? (i := 4) rfl)) (hw _ (List.mem_of_getElem? (i := 3) rfl)) (by decide) (by decide)) (g := (mkF m 15 #[iv p1, iv p2, iv p3, iv p4, iv p5, iv (1 : Int32), iv z29_0, .unset, .unset, .unset, .unset, .unset, .unset, .unset] [(.int p3)])) rfl (by rw [hml]; rfl) (argsL := [(.int p3)]) (rest := []) (lenOf pd__I_C rfl) rfl (by show 2 * 0 + _ ≤ _; exact Nat.le_of_eq rfl) (hb hby at_15) (fun _ _ => ⟨rfl, rfl, (by decide : 1 + 1 ≤ _), (by decide : 8 + 8 ≤ _)⟩)
    dsimp only [Pt.U, Pt.locs, Pt.cells, Pt.slots] at X31 l31 y31 z31 st31 hQ31
    subst l31 y31 z31
    obtain ⟨z31_0, rfl, N31q, K31, P31_0⟩ := hQ31
    have C32 := C30.trans (CHr.keep K31 all0 C30.1)
    have N31 := Fr.app N29 N31q
    refine own_go ?_ (fun target hr => st31 _ (XS.istore X31.here hx rfl (hb hby at_18) rfl (l' := #[iv p1, iv p2, iv p3, iv p4, iv p5, iv (1 : Int32), iv z29_0, iv z31_0, .unset, .unset, .unset, .unset, .unset, .unset]) rfl (XS.iloadN X31.here hx rfl (hb hby at_20) rfl hr)))
    show own_G _ p e below s _ _ _ (T31.setTop (mkF m 21 #[iv p1, iv p2, iv p3, iv p4, iv p5, iv (1 : Int32), iv z29_0, iv z31_0, .unset, .unset, .unset, .unset, .unset, .unset] [(.int p4)]))
    obtain ⟨_, _, ⟨T33, L33, k33, n33⟩, -, X33, ⟨Lc33, hQ33, l33, y33, z33⟩, st33⟩ := Jvm.LawKit.callS X31 hx (y := (⟨"com/example/prita/prita/gnss/GnssTimeCarriesTimePinLaw", "pick", "(I)C"⟩ : MethodName)) hown (mvT hZ (hw _ (List.mem_of_getElem? (i := 1) rfl))) (mvT hZ (hw _ (List.mem_of_getElem? (i := 2) rfl))) (mvT hZ (hw _ (List.mem_of_getElem? (i := 3) rfl))) (mvT hZ (hw _ (List.mem_of_getElem? (i := 4) rfl))) (by decide) (backOf (W := 0) (rm1 l Z a0 hw [] p4 T31.heap n0 (Nat.le_trans (Nat.le_trans Z0 K29.1) K31.1) ) hZ (hw _ (List.mem_of_getElem? (i := 4) rfl)) (hw _ (List.mem_of_getElem? (i := 3) rfl)) (by decide) (by decide)) (g := (mkF m 21 #[iv p1, iv p2, iv p3, iv p4, iv p5, iv (1 : Int32), iv z29_0, iv z31_0, .unset, .unset, .unset, .unset, .unset, .unset] [(.int p4)])) rfl (by rw [hml]; rfl) (argsL := [(.int p4)]) (rest := []) (lenOf pd__I_C rfl) rfl (by show 2 * 0 + _ ≤ _; exact Nat.le_of_eq rfl) (hb hby at_21) (fun _ _ => ⟨rfl, rfl, (by decide : 2 + 1 ≤ _), (by decide : 16 + 8 ≤ _)⟩)
    dsimp only [Pt.U, Pt.locs, Pt.cells, Pt.slots] at X33 l33 y33 z33 st33 hQ33
    subst l33 y33 z33
    obtain ⟨z33_0, rfl, N33q, K33, P33_0⟩ := hQ33
    have C34 := C32.trans (CHr.keep K33 all0 C32.1)
    have N33 := Fr.app N31 N33q
    refine own_go ?_ (fun target hr => st33 _ (XS.istore X33.here hx rfl (hb hby at_24) rfl (l' := #[iv p1, iv p2, iv p3, iv p4, iv p5, iv (1 : Int32), iv z29_0, iv z31_0, iv z33_0, .unset, .unset, .unset, .unset, .unset]) rfl (XS.iload X33.here hx rfl (hb hby at_26) rfl hr)))
    show own_G _ p e below s _ _ _ (T33.setTop (mkF m 28 #[iv p1, iv p2, iv p3, iv p4, iv p5, iv (1 : Int32), iv z29_0, iv z31_0, iv z33_0, .unset, .unset, .unset, .unset, .unset] [(.int p5)]))
    obtain ⟨_, _, ⟨T35, L35, k35, n35⟩, -, X35, ⟨Lc35, hQ35, l35, y35, z35⟩, st35⟩ := Jvm.LawKit.callS X33 hx (y := (⟨"com/example/prita/prita/gnss/GnssTimeCarriesTimePinLaw", "pick", "(I)C"⟩ : MethodName)) hown (mvT hZ (hw _ (List.mem_of_getElem? (i := 1) rfl))) (mvT hZ (hw _ (List.mem_of_getElem? (i := 2) rfl))) (mvT hZ (hw _ (List.mem_of_getElem? (i := 3) rfl))) (mvT hZ (hw _ (List.mem_of_getElem? (i := 4) rfl))) (by decide) (backOf (W := 0) (rm1 l Z a0 hw [] p5 T33.heap n0 (Nat.le_trans (Nat.le_trans (Nat.le_trans Z0 K29.1) K31.1) K33.1) ) hZ (hw _ (List.mem_of_getElem? (i := 4) rfl)) (hw _ (List.mem_of_getElem? (i := 3) rfl)) (by decide) (by decide)) (g := (mkF m 28 #[iv p1, iv p2, iv p3, iv p4, iv p5, iv (1 : Int32), iv z29_0, iv z31_0, iv z33_0, .unset, .unset, .unset, .unset, .unset] [(.int p5)])) rfl (by rw [hml]; rfl) (argsL := [(.int p5)]) (rest := []) (lenOf pd__I_C rfl) rfl (by show 2 * 0 + _ ≤ _; exact Nat.le_of_eq rfl) (hb hby at_28) (fun _ _ => ⟨rfl, rfl, (by decide : 3 + 1 ≤ _), (by decide : 24 + 8 ≤ _)⟩)
    dsimp only [Pt.U, Pt.locs, Pt.cells, Pt.slots] at X35 l35 y35 z35 st35 hQ35
    subst l35 y35 z35
    obtain ⟨z35_0, rfl, N35q, K35, P35_0⟩ := hQ35
    have C36 := C34.trans (CHr.keep K35 all0 C34.1)
    have N35 := Fr.app N33 N35q
    refine own_go ?_ (fun target hr => st35 _ (XS.istore X35.here hx rfl (hb hby at_31) rfl (l' := #[iv p1, iv p2, iv p3, iv p4, iv p5, iv (1 : Int32), iv z29_0, iv z31_0, iv z33_0, iv z35_0, .unset, .unset, .unset, .unset]) rfl (XS.iload X35.here hx rfl (hb hby at_33) rfl (XS.ifYes X35.here hx rfl (pc0 := 35) (pc' := 53) rfl (hb hby at_35) rfl ((if0 _ _).trans (feq (by decide : ¬ ((1 : Int32) = (0 : Int32)))).2) (by decide) (by decide) (XS.iload X35.here hx rfl (hb hby at_53) rfl (XS.iconst X35.here hx rfl (hb hby at_55) (XS.icmpNo X35.here hx rfl (hb hby at_56) rfl (teq (by decide : (1 : Int32) = (1 : Int32))).2 hr)))))))
    show own_G _ p e below s _ _ _ (T35.setTop (mkF m 59 #[iv p1, iv p2, iv p3, iv p4, iv p5, iv (1 : Int32), iv z29_0, iv z31_0, iv z33_0, iv z35_0, .unset, .unset, .unset, .unset] []))
    obtain ⟨T37, h37, X37, e37, E37, A37, D37, -, st37⟩ := newO X35 hx hZ hown (hw _ (List.mem_of_getElem? (i := 6) rfl)) (hw _ (List.mem_of_getElem? (i := 7) rfl)) (hw _ (List.mem_of_getElem? (i := 8) rfl)) rfl (g := (mkF m 59 #[iv p1, iv p2, iv p3, iv p4, iv p5, iv (1 : Int32), iv z29_0, iv z31_0, iv z33_0, iv z35_0, .unset, .unset, .unset, .unset] [])) rfl (hb hby at_59) (by decide) (by decide)
    obtain ⟨b37, g37⟩ : ∃ z, z = T35.heap.size := ⟨_, rfl⟩
    rw [← g37] at A37 D37 st37
    have g_b37 : n0 ≤ b37 := Nat.le_trans (Nat.le_trans (Nat.le_trans (Nat.le_trans (Nat.le_trans Z0 K29.1) K31.1) K33.1) K35.1) (Nat.le_of_eq g37.symm)
    have S0_b37 : Safe Z consts_1 s.vm T35.heap b37 := Safe.new (Nat.le_of_eq g37.symm)
    have C38 := C36.trans (CHr.ext E37 C36.1)
    have S38_b37 := Safe.ext E37 C36.1 S0_b37
    have F37_21 : Fld Z h37 b37 "java/lang/String" "value" "[B" .null := D37 (Or.inr (hw _ (List.mem_of_getElem? (i := 21) rfl))) (ty := (.array .byte)) (by decide)
    have F37_22 : Fld Z h37 b37 "java/lang/String" "coder" "B" (.int (0 : Int32)) := D37 (Or.inr (hw _ (List.mem_of_getElem? (i := 22) rfl))) (ty := .byte) (by decide)
    refine own_go ?_ (fun target hr => st37 _ (XS.dup X37.here hx rfl (hb hby at_62) rfl rfl (XS.iconst X37.here hx rfl (hb hby at_63) hr)))
    show own_G _ p e below s _ _ _ (T37.setTop (mkF m 64 #[iv p1, iv p2, iv p3, iv p4, iv p5, iv (1 : Int32), iv z29_0, iv z31_0, iv z33_0, iv z35_0, .unset, .unset, .unset, .unset] [(.int (1 : Int32)), (.ref b37), (.ref b37)]))
    obtain ⟨T39, h39, k39, X39, e39, E39, A39, st39⟩ := newP X37 hx hZ (hw _ (List.mem_of_getElem? (i := 5) rfl)) e37 (g := (mkF m 64 #[iv p1, iv p2, iv p3, iv p4, iv p5, iv (1 : Int32), iv z29_0, iv z31_0, iv z33_0, iv z35_0, .unset, .unset, .unset, .unset] [(.int (1 : Int32)), (.ref b37), (.ref b37)])) rfl (hb hby at_64) rfl (by decide) (cap := 1) (by decide) (by decide) (by decide) (by decide)
    obtain ⟨b39, g39⟩ : ∃ z, z = h37.size := ⟨_, rfl⟩
    rw [← g39] at A39 st39
    have V39 : Arv Z h39 b39 k39 .char (1 : Int32) [(.int (0 : Int32))] (.int (0 : Int32)) := (Arv.new A39 (by decide)).pad (pad_rep [] (.int (0 : Int32)) 1)
    have g_b39 : n0 ≤ b39 := Nat.le_trans (Nat.le_trans (Nat.le_trans (Nat.le_trans (Nat.le_trans (Nat.le_trans Z0 K29.1) K31.1) K33.1) K35.1) E37.1) (Nat.le_of_eq g39.symm)
    have C40 := C38.trans (CHr.ext E39 C38.1)
    have S40_b37 := Safe.ext E39 C38.1 S38_b37
    refine own_go ?_ (fun target hr => st39 _ (XS.dup X39.here hx rfl (hb hby at_66) rfl rfl (XS.iconst X39.here hx rfl (hb hby at_67) (XS.iload X39.here hx rfl (hb hby at_68) rfl hr))))
    show own_G _ p e below s _ _ _ (T39.setTop (mkF m 70 #[iv p1, iv p2, iv p3, iv p4, iv p5, iv (1 : Int32), iv z29_0, iv z31_0, iv z33_0, iv z35_0, .unset, .unset, .unset, .unset] [(.int z29_0), (.int (0 : Int32)), (.ref b39), (.ref b39), (.ref b37), (.ref b37)]))
    obtain ⟨cl41, Ar41, qk41, S41, M41, H41, G41⟩ := id V39
    have hin41 : ¬ ((0 : Int32) < 0 ∨ cl41.slots.size ≤ ((0 : Int32)).toNatClampNeg) := inb_of S41 ⟨by decide, by decide⟩
    obtain ⟨T41, h41, X41, e41, W41, st41⟩ := stC X39 hx hZ e39 Ar41 (j := (0 : Int32)) hin41 (g := (mkF m 70 #[iv p1, iv p2, iv p3, iv p4, iv p5, iv (1 : Int32), iv z29_0, iv z31_0, iv z33_0, iv z35_0, .unset, .unset, .unset, .unset] [(.int z29_0), (.int (0 : Int32)), (.ref b39), (.ref b39), (.ref b37), (.ref b37)])) rfl rfl (hb hby at_70)
    rw [own_nar P29_0] at W41
    have V41 : Arv Z h41 b39 k39 .char (1 : Int32) [(.int z29_0)] (.int (0 : Int32)) := Arv.set Ar41 qk41 S41 M41 H41 G41 (own_fitc P29_0) W41 0 rfl (Nat.le_of_ble_eq_true rfl)
    have N41 := Fr.snoc X41 N35 g_b39
    have C42 := C40.trans (CHr.wr W41 (own_safeV hZ.alike V39 (by decide)) C40.1)
    have S42_b37 := Safe.wr W41 (own_safeV hZ.alike V39 (by decide)) C40.1 S40_b37
    refine own_go ?_ (fun target hr => st41 _ hr)
    show own_G _ p e below s _ _ _ (T41.setTop (mkF m 71 #[iv p1, iv p2, iv p3, iv p4, iv p5, iv (1 : Int32), iv z29_0, iv z31_0, iv z33_0, iv z35_0, .unset, .unset, .unset, .unset] [(.ref b39), (.ref b37), (.ref b37)]))
    obtain ⟨_, _, ⟨T43, L43, k43, n43⟩, -, X43, ⟨Lc43, hQ43, l43, y43, z43⟩, st43⟩ := X41.specialBack hx (y := (⟨"java/lang/String", "<init>", "([C)V"⟩ : MethodName)) rfl hown (mvT hZ (hw _ (List.mem_of_getElem? (i := 9) rfl))) (mvT hZ (hw _ (List.mem_of_getElem? (i := 10) rfl))) (mvT hZ (hw _ (List.mem_of_getElem? (i := 11) rfl))) (by decide) (StrChars.Road.backV (W := 1) hZ hws (kI := 4) (hw _ (List.mem_of_getElem? (i := 7) rfl)) (cs := ([z29_0] : List Int32)) (bs := (([z29_0] : List Int32)).map (fun c => c.toInt8.toInt32)) (n := 1) g_b37 (Nat.le_trans (Nat.le_trans (Nat.le_trans (Nat.le_trans (Nat.le_trans (Nat.le_trans (Nat.le_trans Z0 K29.1) K31.1) K33.1) K35.1) E37.1) E39.1) (Keep.of_wr W41).1) ((A37.ext E39).wr W41) ((F37_21.ext E39).other W41 (Or.inl (Nat.ne_of_lt (Nat.lt_of_lt_of_le A37.lt (Nat.le_of_eq g39.symm))))) ((F37_22.ext E39).other W41 (Or.inl (Nat.ne_of_lt (Nat.lt_of_lt_of_le A37.lt (Nat.le_of_eq g39.symm))))) V41 (S_COMPACT_STRINGS.ext (((((((hold.keep K29 all0).keep K31 all0).keep K33 all0).keep K35 all0).ext E37).ext E39).wr W41 g_b39).2) hz rfl rfl (by decide) (by decide) (by intro c hc; simp only [List.mem_cons, List.not_mem_nil, or_false] at hc; rcases hc with rfl; exact P29_0) rfl (by decide) (by decide)) (g := (mkF m 71 #[iv p1, iv p2, iv p3, iv p4, iv p5, iv (1 : Int32), iv z29_0, iv z31_0, iv z33_0, iv z35_0, .unset, .unset, .unset, .unset] [(.ref b39), (.ref b37), (.ref b37)])) rfl (by rw [hml]; rfl) (Steps.refl _) (a := b37) (argsL := [(.ref b39)]) (rest := [(.ref b37)]) (lenOf pd___C_V rfl) rfl (by show 2 * 0 + _ ≤ _; exact Nat.le_of_eq rfl) (hb hby at_71) (fun _ _ => ⟨rfl, e41, (by decide : 6 + 1 ≤ _), (by decide : 37 + 1 ≤ _)⟩)
    dsimp only [Pt.U, Pt.locs, Pt.cells, Pt.slots] at X43 l43 y43 z43 st43 hQ43
    subst l43 y43 z43
    obtain ⟨rfl, N43q, K43, P43_0, P43_1, t43, kt43, y43a, y43b, y43c, P43_2, P43_3⟩ := hQ43
    have g_t43 : n0 ≤ t43 := Nat.le_trans (Nat.le_trans (Nat.le_trans (Nat.le_trans (Nat.le_trans (Nat.le_trans (Nat.le_trans (Nat.le_trans Z0 K29.1) K31.1) K33.1) K35.1) E37.1) E39.1) (Keep.of_wr W41).1) y43b
    have C44 := C42.trans (CHr.keep K43 (allS S42_b37 all0) C42.1)
    have S44_b37 := Safe.keep K43 (allS S42_b37 all0) C42.1 S42_b37
    have N43 := Fr.app N41 N43q
    refine own_go ?_ (fun target hr => st43.trans (XS.astore X43.here hx rfl (hb hby at_74) rfl rfl (l' := #[iv p1, iv p2, iv p3, iv p4, iv p5, iv (1 : Int32), iv z29_0, iv z31_0, iv z33_0, iv z35_0, rv b37, .unset, .unset, .unset]) rfl (XS.goto X43.here hx rfl (pc0 := 76) (pc' := 178) rfl (hb hby at_76) (by decide) (by decide) (XS.iload X43.here hx rfl (hb hby at_178) rfl (XS.bipush X43.here hx rfl (hb hby at_180) hr)))))
    show own_G _ p e below s _ _ _ (T43.setTop (mkF m 182 #[iv p1, iv p2, iv p3, iv p4, iv p5, iv (1 : Int32), iv z29_0, iv z31_0, iv z33_0, iv z35_0, rv b37, .unset, .unset, .unset] [(.int (82 : Int32)), (.int z29_0)]))
    by_cases hc182 : z29_0 = (82 : Int32)
    ·
      refine own_go ?_ (fun target hr => XS.icmpNo X43.here hx rfl (hb hby at_182) rfl (teq hc182).2 (XS.iload X43.here hx rfl (hb hby at_185) rfl (XS.bipush X43.here hx rfl (hb hby at_187) hr)))
      show own_G _ p e below s _ _ _ (T43.setTop (mkF m 189 #[iv p1, iv p2, iv p3, iv p4, iv p5, iv (1 : Int32), iv z29_0, iv z31_0, iv z33_0, iv z35_0, rv b37, .unset, .unset, .unset] [(.int (77 : Int32)), (.int z31_0)]))
      by_cases hc189 : z31_0 = (77 : Int32)
      ·
        refine own_go ?_ (fun target hr => XS.icmpNo X43.here hx rfl (hb hby at_189) rfl (teq hc189).2 (XS.iload X43.here hx rfl (hb hby at_192) rfl (XS.bipush X43.here hx rfl (hb hby at_194) hr)))
        show own_G _ p e below s _ _ _ (T43.setTop (mkF m 196 #[iv p1, iv p2, iv p3, iv p4, iv p5, iv (1 : Int32), iv z29_0, iv z31_0, iv z33_0, iv z35_0, rv b37, .unset, .unset, .unset] [(.int (67 : Int32)), (.int z33_0)]))
        by_cases hc196 : z33_0 = (67 : Int32)
        ·
          refine own_go ?_ (fun target hr => XS.icmpNo X43.here hx rfl (hb hby at_196) rfl (teq hc196).2 (XS.iconst X43.here hx rfl (hb hby at_199) (XS.goto X43.here hx rfl (pc0 := 200) (pc' := 204) rfl (hb hby at_200) (by decide) (by decide) (XS.istore X43.here hx rfl (hb hby at_204) rfl (l' := #[iv p1, iv p2, iv p3, iv p4, iv p5, iv (1 : Int32), iv z29_0, iv z31_0, iv z33_0, iv z35_0, rv b37, iv (1 : Int32), .unset, .unset]) rfl (XS.iload X43.here hx rfl (hb hby at_206) rfl (XS.bipush X43.here hx rfl (hb hby at_208) (XS.icmpYes X43.here hx rfl (pc0 := 210) (pc' := 231) rfl (hb hby at_210) rfl (feq (fun q => absurd (hc182.symm.trans q) (by decide))).2 (by decide) (by decide) (XS.iconst X43.here hx rfl (hb hby at_231) hr))))))))
          show own_G _ p e below s _ _ _ (T43.setTop (mkF m 232 #[iv p1, iv p2, iv p3, iv p4, iv p5, iv (1 : Int32), iv z29_0, iv z31_0, iv z33_0, iv z35_0, rv b37, iv (1 : Int32), .unset, .unset] [(.int (0 : Int32))]))
          refine own_go ?_ (fun target hr => XS.istore X43.here hx rfl (hb hby at_232) rfl (l' := #[iv p1, iv p2, iv p3, iv p4, iv p5, iv (1 : Int32), iv z29_0, iv z31_0, iv z33_0, iv z35_0, rv b37, iv (1 : Int32), iv (0 : Int32), .unset]) rfl (XS.iload X43.here hx rfl (hb hby at_234) rfl (XS.iconst X43.here hx rfl (hb hby at_236) (XS.icmpYes X43.here hx rfl (pc0 := 237) (pc' := 254) rfl (hb hby at_237) rfl (feq (by decide : ¬ ((1 : Int32) = (3 : Int32)))).2 (by decide) (by decide) (XS.iconst X43.here hx rfl (hb hby at_254) (XS.istore X43.here hx rfl (hb hby at_255) rfl (l' := #[iv p1, iv p2, iv p3, iv p4, iv p5, iv (1 : Int32), iv z29_0, iv z31_0, iv z33_0, iv z35_0, rv b37, iv (1 : Int32), iv (0 : Int32), iv (0 : Int32)]) rfl (XS.aload X43.here hx rfl (hb hby at_257) rfl rfl hr)))))))
          show own_G _ p e below s _ _ _ (T43.setTop (mkF m 259 #[iv p1, iv p2, iv p3, iv p4, iv p5, iv (1 : Int32), iv z29_0, iv z31_0, iv z33_0, iv z35_0, rv b37, iv (1 : Int32), iv (0 : Int32), iv (0 : Int32)] [(.ref b37)]))
          obtain ⟨_, _, ⟨T45, L45, k45, n45⟩, -, X45a, hS45a, hg45a, ⟨Lc45, hQ45, l45, y45, z45, H45c⟩, st45⟩ := callSS X43 hx (y := (⟨"com/example/prita/prita/gnss/GnssTime", "carriesTime", "(Ljava/lang/String;)Z"⟩ : MethodName)) hown (mvT hZ (hw _ (List.mem_of_getElem? (i := 27) rfl))) (mvT hZ (hw _ (List.mem_of_getElem? (i := 28) rfl))) (mvT hZ (hw _ (List.mem_of_getElem? (i := 29) rfl))) (mvT hZ (hw _ (List.mem_of_getElem? (i := 30) rfl))) (by decide) (backOfSH (s := s) (vm0 := s.vm) (W := 0) (rm_ct_1 l Z a0 hw [] b37 t43 kt43 z29_0 zc T43.heap n0 (Nat.le_trans (Nat.le_trans (Nat.le_trans (Nat.le_trans (Nat.le_trans (Nat.le_trans (Nat.le_trans (Nat.le_trans Z0 K29.1) K31.1) K33.1) K35.1) E37.1) E39.1) (Keep.of_wr W41).1) K43.1) P43_0 P43_2 P43_1 P43_3 ((((((((hold.keep K29 all0).keep K31 all0).keep K33 all0).keep K35 all0).ext E37).ext E39).wr W41 g_b39).keep K43 (allS g_b37 all0)) S_COMPACT_STRINGS (by intro c hc; simp only [List.mem_cons, List.not_mem_nil, or_false] at hc; rcases hc with rfl; exact P29_0) hz) hZ (hw _ (List.mem_of_getElem? (i := 30) rfl)) (hw _ (List.mem_of_getElem? (i := 29) rfl)) (by decide) (by decide) hEL C44.1) (g := (mkF m 259 #[iv p1, iv p2, iv p3, iv p4, iv p5, iv (1 : Int32), iv z29_0, iv z31_0, iv z33_0, iv z35_0, rv b37, iv (1 : Int32), iv (0 : Int32), iv (0 : Int32)] [(.ref b37)])) rfl (by rw [hml]; rfl) (argsL := [(.ref b37)]) (rest := []) (lenOf pd__Ljava_lang_String__Z rfl) rfl (by show 2 * 0 + _ ≤ _; exact Nat.le_of_eq rfl) (hb hby at_259) (fun _ _ => ⟨rfl, rfl, (by decide : 7 + 4 ≤ _), (by decide : 38 + 32 ≤ _)⟩)
          dsimp only [Pt.U, Pt.locs, Pt.cells, Pt.slots] at X45a hS45a hg45a l45 y45 z45 st45 hQ45 H45c
          subst l45 y45 z45
          obtain ⟨X45, hS45, hZ, hown⟩ := rebS (s := s) (vm0 := s.vm) (State.WarmedH.since (State.WarmedH.refl s) 0) (Nat.zero_le _) X45a hS45a hg45a hZ hown
          obtain ⟨rfl, N45q, K45⟩ := hQ45
          have C46 := C44.trans H45c
          have S46_b37 := H45c.safe P43_0.lt S44_b37
          have N45 := Fr.app N43 N45q
          refine own_go ?_ (fun target hr => st45.trans (XS.iload X45.here hx rfl (hb hby at_262) rfl (XS.icmpNo X45.here hx rfl (hb hby at_264) rfl (teq (by decide : (0 : Int32) = (0 : Int32))).2 (XS.iconst X45.here hx rfl (hb hby at_267) (XS.goto X45.here hx rfl (pc0 := 268) (pc' := 272) rfl (hb hby at_268) (by decide) (by decide) hr)))))
          show own_G _ p e below s _ _ _ (T45.setTop (mkF m 272 #[iv p1, iv p2, iv p3, iv p4, iv p5, iv (1 : Int32), iv z29_0, iv z31_0, iv z33_0, iv z35_0, rv b37, iv (1 : Int32), iv (0 : Int32), iv (0 : Int32)] [(.int (1 : Int32))]))
          obtain ⟨fs, hr, hrun, hended, hRW⟩ := Stand.leaveW (s := s) (vm₁ := T45.vm) X45 hS45 (Nat.le_refl _) (v := some (.int (1 : Int32))) (fun h => by rw [Bd.returns] at h; cases h)
          have hCe := C46.trans (CHv.at (s := s) (vm0 := T45.vm) X45 hZ hEL C46.1)
          exact ⟨_, _, retN X45 hx (t := .boolean) Bd.returns (by simp) (hb hby at_272) hr, hrun, hended, _, _, rfl, ⟨rfl, N45, trivial⟩, (by rw [hh, show (T45.setFrames fs).heap = T45.heap from rfl]; exact hCe), hRW.1, hRW.2.1, hRW.2.2.1, hRW.2.2.2.mono (by decide) (by decide)⟩
        ·
          refine own_go ?_ (fun target hr => XS.icmpYes X43.here hx rfl (pc0 := 196) (pc' := 203) rfl (hb hby at_196) rfl (feq hc196).2 (by decide) (by decide) (XS.iconst X43.here hx rfl (hb hby at_203) (XS.istore X43.here hx rfl (hb hby at_204) rfl (l' := #[iv p1, iv p2, iv p3, iv p4, iv p5, iv (1 : Int32), iv z29_0, iv z31_0, iv z33_0, iv z35_0, rv b37, iv (0 : Int32), .unset, .unset]) rfl (XS.iload X43.here hx rfl (hb hby at_206) rfl (XS.bipush X43.here hx rfl (hb hby at_208) (XS.icmpYes X43.here hx rfl (pc0 := 210) (pc' := 231) rfl (hb hby at_210) rfl (feq (fun q => absurd (hc182.symm.trans q) (by decide))).2 (by decide) (by decide) (XS.iconst X43.here hx rfl (hb hby at_231) (XS.istore X43.here hx rfl (hb hby at_232) rfl (l' := #[iv p1, iv p2, iv p3, iv p4, iv p5, iv (1 : Int32), iv z29_0, iv z31_0, iv z33_0, iv z35_0, rv b37, iv (0 : Int32), iv (0 : Int32), .unset]) rfl hr))))))))
          show own_G _ p e below s _ _ _ (T43.setTop (mkF m 234 #[iv p1, iv p2, iv p3, iv p4, iv p5, iv (1 : Int32), iv z29_0, iv z31_0, iv z33_0, iv z35_0, rv b37, iv (0 : Int32), iv (0 : Int32), .unset] []))
          refine own_go ?_ (fun target hr => XS.iload X43.here hx rfl (hb hby at_234) rfl (XS.iconst X43.here hx rfl (hb hby at_236) (XS.icmpYes X43.here hx rfl (pc0 := 237) (pc' := 254) rfl (hb hby at_237) rfl (feq (by decide : ¬ ((1 : Int32) = (3 : Int32)))).2 (by decide) (by decide) (XS.iconst X43.here hx rfl (hb hby at_254) (XS.istore X43.here hx rfl (hb hby at_255) rfl (l' := #[iv p1, iv p2, iv p3, iv p4, iv p5, iv (1 : Int32), iv z29_0, iv z31_0, iv z33_0, iv z35_0, rv b37, iv (0 : Int32), iv (0 : Int32), iv (0 : Int32)]) rfl (XS.aload X43.here hx rfl (hb hby at_257) rfl rfl hr))))))
          show own_G _ p e below s _ _ _ (T43.setTop (mkF m 259 #[iv p1, iv p2, iv p3, iv p4, iv p5, iv (1 : Int32), iv z29_0, iv z31_0, iv z33_0, iv z35_0, rv b37, iv (0 : Int32), iv (0 : Int32), iv (0 : Int32)] [(.ref b37)]))
          obtain ⟨_, _, ⟨T47, L47, k47, n47⟩, -, X47a, hS47a, hg47a, ⟨Lc47, hQ47, l47, y47, z47, H47c⟩, st47⟩ := callSS X43 hx (y := (⟨"com/example/prita/prita/gnss/GnssTime", "carriesTime", "(Ljava/lang/String;)Z"⟩ : MethodName)) hown (mvT hZ (hw _ (List.mem_of_getElem? (i := 27) rfl))) (mvT hZ (hw _ (List.mem_of_getElem? (i := 28) rfl))) (mvT hZ (hw _ (List.mem_of_getElem? (i := 29) rfl))) (mvT hZ (hw _ (List.mem_of_getElem? (i := 30) rfl))) (by decide) (backOfSH (s := s) (vm0 := s.vm) (W := 0) (rm_ct_1 l Z a0 hw [] b37 t43 kt43 z29_0 zc T43.heap n0 (Nat.le_trans (Nat.le_trans (Nat.le_trans (Nat.le_trans (Nat.le_trans (Nat.le_trans (Nat.le_trans (Nat.le_trans Z0 K29.1) K31.1) K33.1) K35.1) E37.1) E39.1) (Keep.of_wr W41).1) K43.1) P43_0 P43_2 P43_1 P43_3 ((((((((hold.keep K29 all0).keep K31 all0).keep K33 all0).keep K35 all0).ext E37).ext E39).wr W41 g_b39).keep K43 (allS g_b37 all0)) S_COMPACT_STRINGS (by intro c hc; simp only [List.mem_cons, List.not_mem_nil, or_false] at hc; rcases hc with rfl; exact P29_0) hz) hZ (hw _ (List.mem_of_getElem? (i := 30) rfl)) (hw _ (List.mem_of_getElem? (i := 29) rfl)) (by decide) (by decide) hEL C44.1) (g := (mkF m 259 #[iv p1, iv p2, iv p3, iv p4, iv p5, iv (1 : Int32), iv z29_0, iv z31_0, iv z33_0, iv z35_0, rv b37, iv (0 : Int32), iv (0 : Int32), iv (0 : Int32)] [(.ref b37)])) rfl (by rw [hml]; rfl) (argsL := [(.ref b37)]) (rest := []) (lenOf pd__Ljava_lang_String__Z rfl) rfl (by show 2 * 0 + _ ≤ _; exact Nat.le_of_eq rfl) (hb hby at_259) (fun _ _ => ⟨rfl, rfl, (by decide : 7 + 4 ≤ _), (by decide : 38 + 32 ≤ _)⟩)
          dsimp only [Pt.U, Pt.locs, Pt.cells, Pt.slots] at X47a hS47a hg47a l47 y47 z47 st47 hQ47 H47c
          subst l47 y47 z47
          obtain ⟨X47, hS47, hZ, hown⟩ := rebS (s := s) (vm0 := s.vm) (State.WarmedH.since (State.WarmedH.refl s) 0) (Nat.zero_le _) X47a hS47a hg47a hZ hown
          obtain ⟨rfl, N47q, K47⟩ := hQ47
          have C48 := C44.trans H47c
          have S48_b37 := H47c.safe P43_0.lt S44_b37
          have N47 := Fr.app N43 N47q
          refine own_go ?_ (fun target hr => st47.trans (XS.iload X47.here hx rfl (hb hby at_262) rfl (XS.icmpNo X47.here hx rfl (hb hby at_264) rfl (teq (by decide : (0 : Int32) = (0 : Int32))).2 (XS.iconst X47.here hx rfl (hb hby at_267) (XS.goto X47.here hx rfl (pc0 := 268) (pc' := 272) rfl (hb hby at_268) (by decide) (by decide) hr)))))
          show own_G _ p e below s _ _ _ (T47.setTop (mkF m 272 #[iv p1, iv p2, iv p3, iv p4, iv p5, iv (1 : Int32), iv z29_0, iv z31_0, iv z33_0, iv z35_0, rv b37, iv (0 : Int32), iv (0 : Int32), iv (0 : Int32)] [(.int (1 : Int32))]))
          obtain ⟨fs, hr, hrun, hended, hRW⟩ := Stand.leaveW (s := s) (vm₁ := T47.vm) X47 hS47 (Nat.le_refl _) (v := some (.int (1 : Int32))) (fun h => by rw [Bd.returns] at h; cases h)
          have hCe := C48.trans (CHv.at (s := s) (vm0 := T47.vm) X47 hZ hEL C48.1)
          exact ⟨_, _, retN X47 hx (t := .boolean) Bd.returns (by simp) (hb hby at_272) hr, hrun, hended, _, _, rfl, ⟨rfl, N47, trivial⟩, (by rw [hh, show (T47.setFrames fs).heap = T47.heap from rfl]; exact hCe), hRW.1, hRW.2.1, hRW.2.2.1, hRW.2.2.2.mono (by decide) (by decide)⟩
      ·
        refine own_go ?_ (fun target hr => XS.icmpYes X43.here hx rfl (pc0 := 189) (pc' := 203) rfl (hb hby at_189) rfl (feq hc189).2 (by decide) (by decide) (XS.iconst X43.here hx rfl (hb hby at_203) (XS.istore X43.here hx rfl (hb hby at_204) rfl (l' := #[iv p1, iv p2, iv p3, iv p4, iv p5, iv (1 : Int32), iv z29_0, iv z31_0, iv z33_0, iv z35_0, rv b37, iv (0 : Int32), .unset, .unset]) rfl (XS.iload X43.here hx rfl (hb hby at_206) rfl (XS.bipush X43.here hx rfl (hb hby at_208) (XS.icmpYes X43.here hx rfl (pc0 := 210) (pc' := 231) rfl (hb hby at_210) rfl (feq (fun q => absurd (hc182.symm.trans q) (by decide))).2 (by decide) (by decide) (XS.iconst X43.here hx rfl (hb hby at_231) (XS.istore X43.here hx rfl (hb hby at_232) rfl (l' := #[iv p1, iv p2, iv p3, iv p4, iv p5, iv (1 : Int32), iv z29_0, iv z31_0, iv z33_0, iv z35_0, rv b37, iv (0 : Int32), iv (0 : Int32), .unset]) rfl hr))))))))
        show own_G _ p e below s _ _ _ (T43.setTop (mkF m 234 #[iv p1, iv p2, iv p3, iv p4, iv p5, iv (1 : Int32), iv z29_0, iv z31_0, iv z33_0, iv z35_0, rv b37, iv (0 : Int32), iv (0 : Int32), .unset] []))
        refine own_go ?_ (fun target hr => XS.iload X43.here hx rfl (hb hby at_234) rfl (XS.iconst X43.here hx rfl (hb hby at_236) (XS.icmpYes X43.here hx rfl (pc0 := 237) (pc' := 254) rfl (hb hby at_237) rfl (feq (by decide : ¬ ((1 : Int32) = (3 : Int32)))).2 (by decide) (by decide) (XS.iconst X43.here hx rfl (hb hby at_254) (XS.istore X43.here hx rfl (hb hby at_255) rfl (l' := #[iv p1, iv p2, iv p3, iv p4, iv p5, iv (1 : Int32), iv z29_0, iv z31_0, iv z33_0, iv z35_0, rv b37, iv (0 : Int32), iv (0 : Int32), iv (0 : Int32)]) rfl (XS.aload X43.here hx rfl (hb hby at_257) rfl rfl hr))))))
        show own_G _ p e below s _ _ _ (T43.setTop (mkF m 259 #[iv p1, iv p2, iv p3, iv p4, iv p5, iv (1 : Int32), iv z29_0, iv z31_0, iv z33_0, iv z35_0, rv b37, iv (0 : Int32), iv (0 : Int32), iv (0 : Int32)] [(.ref b37)]))
        obtain ⟨_, _, ⟨T49, L49, k49, n49⟩, -, X49a, hS49a, hg49a, ⟨Lc49, hQ49, l49, y49, z49, H49c⟩, st49⟩ := callSS X43 hx (y := (⟨"com/example/prita/prita/gnss/GnssTime", "carriesTime", "(Ljava/lang/String;)Z"⟩ : MethodName)) hown (mvT hZ (hw _ (List.mem_of_getElem? (i := 27) rfl))) (mvT hZ (hw _ (List.mem_of_getElem? (i := 28) rfl))) (mvT hZ (hw _ (List.mem_of_getElem? (i := 29) rfl))) (mvT hZ (hw _ (List.mem_of_getElem? (i := 30) rfl))) (by decide) (backOfSH (s := s) (vm0 := s.vm) (W := 0) (rm_ct_1 l Z a0 hw [] b37 t43 kt43 z29_0 zc T43.heap n0 (Nat.le_trans (Nat.le_trans (Nat.le_trans (Nat.le_trans (Nat.le_trans (Nat.le_trans (Nat.le_trans (Nat.le_trans Z0 K29.1) K31.1) K33.1) K35.1) E37.1) E39.1) (Keep.of_wr W41).1) K43.1) P43_0 P43_2 P43_1 P43_3 ((((((((hold.keep K29 all0).keep K31 all0).keep K33 all0).keep K35 all0).ext E37).ext E39).wr W41 g_b39).keep K43 (allS g_b37 all0)) S_COMPACT_STRINGS (by intro c hc; simp only [List.mem_cons, List.not_mem_nil, or_false] at hc; rcases hc with rfl; exact P29_0) hz) hZ (hw _ (List.mem_of_getElem? (i := 30) rfl)) (hw _ (List.mem_of_getElem? (i := 29) rfl)) (by decide) (by decide) hEL C44.1) (g := (mkF m 259 #[iv p1, iv p2, iv p3, iv p4, iv p5, iv (1 : Int32), iv z29_0, iv z31_0, iv z33_0, iv z35_0, rv b37, iv (0 : Int32), iv (0 : Int32), iv (0 : Int32)] [(.ref b37)])) rfl (by rw [hml]; rfl) (argsL := [(.ref b37)]) (rest := []) (lenOf pd__Ljava_lang_String__Z rfl) rfl (by show 2 * 0 + _ ≤ _; exact Nat.le_of_eq rfl) (hb hby at_259) (fun _ _ => ⟨rfl, rfl, (by decide : 7 + 4 ≤ _), (by decide : 38 + 32 ≤ _)⟩)
        dsimp only [Pt.U, Pt.locs, Pt.cells, Pt.slots] at X49a hS49a hg49a l49 y49 z49 st49 hQ49 H49c
        subst l49 y49 z49
        obtain ⟨X49, hS49, hZ, hown⟩ := rebS (s := s) (vm0 := s.vm) (State.WarmedH.since (State.WarmedH.refl s) 0) (Nat.zero_le _) X49a hS49a hg49a hZ hown
        obtain ⟨rfl, N49q, K49⟩ := hQ49
        have C50 := C44.trans H49c
        have S50_b37 := H49c.safe P43_0.lt S44_b37
        have N49 := Fr.app N43 N49q
        refine own_go ?_ (fun target hr => st49.trans (XS.iload X49.here hx rfl (hb hby at_262) rfl (XS.icmpNo X49.here hx rfl (hb hby at_264) rfl (teq (by decide : (0 : Int32) = (0 : Int32))).2 (XS.iconst X49.here hx rfl (hb hby at_267) (XS.goto X49.here hx rfl (pc0 := 268) (pc' := 272) rfl (hb hby at_268) (by decide) (by decide) hr)))))
        show own_G _ p e below s _ _ _ (T49.setTop (mkF m 272 #[iv p1, iv p2, iv p3, iv p4, iv p5, iv (1 : Int32), iv z29_0, iv z31_0, iv z33_0, iv z35_0, rv b37, iv (0 : Int32), iv (0 : Int32), iv (0 : Int32)] [(.int (1 : Int32))]))
        obtain ⟨fs, hr, hrun, hended, hRW⟩ := Stand.leaveW (s := s) (vm₁ := T49.vm) X49 hS49 (Nat.le_refl _) (v := some (.int (1 : Int32))) (fun h => by rw [Bd.returns] at h; cases h)
        have hCe := C50.trans (CHv.at (s := s) (vm0 := T49.vm) X49 hZ hEL C50.1)
        exact ⟨_, _, retN X49 hx (t := .boolean) Bd.returns (by simp) (hb hby at_272) hr, hrun, hended, _, _, rfl, ⟨rfl, N49, trivial⟩, (by rw [hh, show (T49.setFrames fs).heap = T49.heap from rfl]; exact hCe), hRW.1, hRW.2.1, hRW.2.2.1, hRW.2.2.2.mono (by decide) (by decide)⟩
    ·
      refine own_go ?_ (fun target hr => XS.icmpYes X43.here hx rfl (pc0 := 182) (pc' := 203) rfl (hb hby at_182) rfl (feq hc182).2 (by decide) (by decide) (XS.iconst X43.here hx rfl (hb hby at_203) (XS.istore X43.here hx rfl (hb hby at_204) rfl (l' := #[iv p1, iv p2, iv p3, iv p4, iv p5, iv (1 : Int32), iv z29_0, iv z31_0, iv z33_0, iv z35_0, rv b37, iv (0 : Int32), .unset, .unset]) rfl (XS.iload X43.here hx rfl (hb hby at_206) rfl (XS.bipush X43.here hx rfl (hb hby at_208) hr)))))
      show own_G _ p e below s _ _ _ (T43.setTop (mkF m 210 #[iv p1, iv p2, iv p3, iv p4, iv p5, iv (1 : Int32), iv z29_0, iv z31_0, iv z33_0, iv z35_0, rv b37, iv (0 : Int32), .unset, .unset] [(.int (90 : Int32)), (.int z29_0)]))
      by_cases hc210 : z29_0 = (90 : Int32)
      ·
        refine own_go ?_ (fun target hr => XS.icmpNo X43.here hx rfl (hb hby at_210) rfl (teq hc210).2 (XS.iload X43.here hx rfl (hb hby at_213) rfl (XS.bipush X43.here hx rfl (hb hby at_215) hr)))
        show own_G _ p e below s _ _ _ (T43.setTop (mkF m 217 #[iv p1, iv p2, iv p3, iv p4, iv p5, iv (1 : Int32), iv z29_0, iv z31_0, iv z33_0, iv z35_0, rv b37, iv (0 : Int32), .unset, .unset] [(.int (68 : Int32)), (.int z31_0)]))
        by_cases hc217 : z31_0 = (68 : Int32)
        ·
          refine own_go ?_ (fun target hr => XS.icmpNo X43.here hx rfl (hb hby at_217) rfl (teq hc217).2 (XS.iload X43.here hx rfl (hb hby at_220) rfl (XS.bipush X43.here hx rfl (hb hby at_222) hr)))
          show own_G _ p e below s _ _ _ (T43.setTop (mkF m 224 #[iv p1, iv p2, iv p3, iv p4, iv p5, iv (1 : Int32), iv z29_0, iv z31_0, iv z33_0, iv z35_0, rv b37, iv (0 : Int32), .unset, .unset] [(.int (65 : Int32)), (.int z33_0)]))
          by_cases hc224 : z33_0 = (65 : Int32)
          ·
            refine own_go ?_ (fun target hr => XS.icmpNo X43.here hx rfl (hb hby at_224) rfl (teq hc224).2 (XS.iconst X43.here hx rfl (hb hby at_227) (XS.goto X43.here hx rfl (pc0 := 228) (pc' := 232) rfl (hb hby at_228) (by decide) (by decide) (XS.istore X43.here hx rfl (hb hby at_232) rfl (l' := #[iv p1, iv p2, iv p3, iv p4, iv p5, iv (1 : Int32), iv z29_0, iv z31_0, iv z33_0, iv z35_0, rv b37, iv (0 : Int32), iv (1 : Int32), .unset]) rfl (XS.iload X43.here hx rfl (hb hby at_234) rfl (XS.iconst X43.here hx rfl (hb hby at_236) (XS.icmpYes X43.here hx rfl (pc0 := 237) (pc' := 254) rfl (hb hby at_237) rfl (feq (by decide : ¬ ((1 : Int32) = (3 : Int32)))).2 (by decide) (by decide) (XS.iconst X43.here hx rfl (hb hby at_254) hr))))))))
            show own_G _ p e below s _ _ _ (T43.setTop (mkF m 255 #[iv p1, iv p2, iv p3, iv p4, iv p5, iv (1 : Int32), iv z29_0, iv z31_0, iv z33_0, iv z35_0, rv b37, iv (0 : Int32), iv (1 : Int32), .unset] [(.int (0 : Int32))]))
            refine own_go ?_ (fun target hr => XS.istore X43.here hx rfl (hb hby at_255) rfl (l' := #[iv p1, iv p2, iv p3, iv p4, iv p5, iv (1 : Int32), iv z29_0, iv z31_0, iv z33_0, iv z35_0, rv b37, iv (0 : Int32), iv (1 : Int32), iv (0 : Int32)]) rfl (XS.aload X43.here hx rfl (hb hby at_257) rfl rfl hr))
            show own_G _ p e below s _ _ _ (T43.setTop (mkF m 259 #[iv p1, iv p2, iv p3, iv p4, iv p5, iv (1 : Int32), iv z29_0, iv z31_0, iv z33_0, iv z35_0, rv b37, iv (0 : Int32), iv (1 : Int32), iv (0 : Int32)] [(.ref b37)]))
            obtain ⟨_, _, ⟨T51, L51, k51, n51⟩, -, X51a, hS51a, hg51a, ⟨Lc51, hQ51, l51, y51, z51, H51c⟩, st51⟩ := callSS X43 hx (y := (⟨"com/example/prita/prita/gnss/GnssTime", "carriesTime", "(Ljava/lang/String;)Z"⟩ : MethodName)) hown (mvT hZ (hw _ (List.mem_of_getElem? (i := 27) rfl))) (mvT hZ (hw _ (List.mem_of_getElem? (i := 28) rfl))) (mvT hZ (hw _ (List.mem_of_getElem? (i := 29) rfl))) (mvT hZ (hw _ (List.mem_of_getElem? (i := 30) rfl))) (by decide) (backOfSH (s := s) (vm0 := s.vm) (W := 0) (rm_ct_1 l Z a0 hw [] b37 t43 kt43 z29_0 zc T43.heap n0 (Nat.le_trans (Nat.le_trans (Nat.le_trans (Nat.le_trans (Nat.le_trans (Nat.le_trans (Nat.le_trans (Nat.le_trans Z0 K29.1) K31.1) K33.1) K35.1) E37.1) E39.1) (Keep.of_wr W41).1) K43.1) P43_0 P43_2 P43_1 P43_3 ((((((((hold.keep K29 all0).keep K31 all0).keep K33 all0).keep K35 all0).ext E37).ext E39).wr W41 g_b39).keep K43 (allS g_b37 all0)) S_COMPACT_STRINGS (by intro c hc; simp only [List.mem_cons, List.not_mem_nil, or_false] at hc; rcases hc with rfl; exact P29_0) hz) hZ (hw _ (List.mem_of_getElem? (i := 30) rfl)) (hw _ (List.mem_of_getElem? (i := 29) rfl)) (by decide) (by decide) hEL C44.1) (g := (mkF m 259 #[iv p1, iv p2, iv p3, iv p4, iv p5, iv (1 : Int32), iv z29_0, iv z31_0, iv z33_0, iv z35_0, rv b37, iv (0 : Int32), iv (1 : Int32), iv (0 : Int32)] [(.ref b37)])) rfl (by rw [hml]; rfl) (argsL := [(.ref b37)]) (rest := []) (lenOf pd__Ljava_lang_String__Z rfl) rfl (by show 2 * 0 + _ ≤ _; exact Nat.le_of_eq rfl) (hb hby at_259) (fun _ _ => ⟨rfl, rfl, (by decide : 7 + 4 ≤ _), (by decide : 38 + 32 ≤ _)⟩)
            dsimp only [Pt.U, Pt.locs, Pt.cells, Pt.slots] at X51a hS51a hg51a l51 y51 z51 st51 hQ51 H51c
            subst l51 y51 z51
            obtain ⟨X51, hS51, hZ, hown⟩ := rebS (s := s) (vm0 := s.vm) (State.WarmedH.since (State.WarmedH.refl s) 0) (Nat.zero_le _) X51a hS51a hg51a hZ hown
            obtain ⟨rfl, N51q, K51⟩ := hQ51
            have C52 := C44.trans H51c
            have S52_b37 := H51c.safe P43_0.lt S44_b37
            have N51 := Fr.app N43 N51q
            refine own_go ?_ (fun target hr => st51.trans (XS.iload X51.here hx rfl (hb hby at_262) rfl (XS.icmpNo X51.here hx rfl (hb hby at_264) rfl (teq (by decide : (0 : Int32) = (0 : Int32))).2 (XS.iconst X51.here hx rfl (hb hby at_267) (XS.goto X51.here hx rfl (pc0 := 268) (pc' := 272) rfl (hb hby at_268) (by decide) (by decide) hr)))))
            show own_G _ p e below s _ _ _ (T51.setTop (mkF m 272 #[iv p1, iv p2, iv p3, iv p4, iv p5, iv (1 : Int32), iv z29_0, iv z31_0, iv z33_0, iv z35_0, rv b37, iv (0 : Int32), iv (1 : Int32), iv (0 : Int32)] [(.int (1 : Int32))]))
            obtain ⟨fs, hr, hrun, hended, hRW⟩ := Stand.leaveW (s := s) (vm₁ := T51.vm) X51 hS51 (Nat.le_refl _) (v := some (.int (1 : Int32))) (fun h => by rw [Bd.returns] at h; cases h)
            have hCe := C52.trans (CHv.at (s := s) (vm0 := T51.vm) X51 hZ hEL C52.1)
            exact ⟨_, _, retN X51 hx (t := .boolean) Bd.returns (by simp) (hb hby at_272) hr, hrun, hended, _, _, rfl, ⟨rfl, N51, trivial⟩, (by rw [hh, show (T51.setFrames fs).heap = T51.heap from rfl]; exact hCe), hRW.1, hRW.2.1, hRW.2.2.1, hRW.2.2.2.mono (by decide) (by decide)⟩
          ·
            refine own_go ?_ (fun target hr => XS.icmpYes X43.here hx rfl (pc0 := 224) (pc' := 231) rfl (hb hby at_224) rfl (feq hc224).2 (by decide) (by decide) (XS.iconst X43.here hx rfl (hb hby at_231) (XS.istore X43.here hx rfl (hb hby at_232) rfl (l' := #[iv p1, iv p2, iv p3, iv p4, iv p5, iv (1 : Int32), iv z29_0, iv z31_0, iv z33_0, iv z35_0, rv b37, iv (0 : Int32), iv (0 : Int32), .unset]) rfl (XS.iload X43.here hx rfl (hb hby at_234) rfl (XS.iconst X43.here hx rfl (hb hby at_236) (XS.icmpYes X43.here hx rfl (pc0 := 237) (pc' := 254) rfl (hb hby at_237) rfl (feq (by decide : ¬ ((1 : Int32) = (3 : Int32)))).2 (by decide) (by decide) (XS.iconst X43.here hx rfl (hb hby at_254) (XS.istore X43.here hx rfl (hb hby at_255) rfl (l' := #[iv p1, iv p2, iv p3, iv p4, iv p5, iv (1 : Int32), iv z29_0, iv z31_0, iv z33_0, iv z35_0, rv b37, iv (0 : Int32), iv (0 : Int32), iv (0 : Int32)]) rfl hr))))))))
            show own_G _ p e below s _ _ _ (T43.setTop (mkF m 257 #[iv p1, iv p2, iv p3, iv p4, iv p5, iv (1 : Int32), iv z29_0, iv z31_0, iv z33_0, iv z35_0, rv b37, iv (0 : Int32), iv (0 : Int32), iv (0 : Int32)] []))
            refine own_go ?_ (fun target hr => XS.aload X43.here hx rfl (hb hby at_257) rfl rfl hr)
            show own_G _ p e below s _ _ _ (T43.setTop (mkF m 259 #[iv p1, iv p2, iv p3, iv p4, iv p5, iv (1 : Int32), iv z29_0, iv z31_0, iv z33_0, iv z35_0, rv b37, iv (0 : Int32), iv (0 : Int32), iv (0 : Int32)] [(.ref b37)]))
            obtain ⟨_, _, ⟨T53, L53, k53, n53⟩, -, X53a, hS53a, hg53a, ⟨Lc53, hQ53, l53, y53, z53, H53c⟩, st53⟩ := callSS X43 hx (y := (⟨"com/example/prita/prita/gnss/GnssTime", "carriesTime", "(Ljava/lang/String;)Z"⟩ : MethodName)) hown (mvT hZ (hw _ (List.mem_of_getElem? (i := 27) rfl))) (mvT hZ (hw _ (List.mem_of_getElem? (i := 28) rfl))) (mvT hZ (hw _ (List.mem_of_getElem? (i := 29) rfl))) (mvT hZ (hw _ (List.mem_of_getElem? (i := 30) rfl))) (by decide) (backOfSH (s := s) (vm0 := s.vm) (W := 0) (rm_ct_1 l Z a0 hw [] b37 t43 kt43 z29_0 zc T43.heap n0 (Nat.le_trans (Nat.le_trans (Nat.le_trans (Nat.le_trans (Nat.le_trans (Nat.le_trans (Nat.le_trans (Nat.le_trans Z0 K29.1) K31.1) K33.1) K35.1) E37.1) E39.1) (Keep.of_wr W41).1) K43.1) P43_0 P43_2 P43_1 P43_3 ((((((((hold.keep K29 all0).keep K31 all0).keep K33 all0).keep K35 all0).ext E37).ext E39).wr W41 g_b39).keep K43 (allS g_b37 all0)) S_COMPACT_STRINGS (by intro c hc; simp only [List.mem_cons, List.not_mem_nil, or_false] at hc; rcases hc with rfl; exact P29_0) hz) hZ (hw _ (List.mem_of_getElem? (i := 30) rfl)) (hw _ (List.mem_of_getElem? (i := 29) rfl)) (by decide) (by decide) hEL C44.1) (g := (mkF m 259 #[iv p1, iv p2, iv p3, iv p4, iv p5, iv (1 : Int32), iv z29_0, iv z31_0, iv z33_0, iv z35_0, rv b37, iv (0 : Int32), iv (0 : Int32), iv (0 : Int32)] [(.ref b37)])) rfl (by rw [hml]; rfl) (argsL := [(.ref b37)]) (rest := []) (lenOf pd__Ljava_lang_String__Z rfl) rfl (by show 2 * 0 + _ ≤ _; exact Nat.le_of_eq rfl) (hb hby at_259) (fun _ _ => ⟨rfl, rfl, (by decide : 7 + 4 ≤ _), (by decide : 38 + 32 ≤ _)⟩)
            dsimp only [Pt.U, Pt.locs, Pt.cells, Pt.slots] at X53a hS53a hg53a l53 y53 z53 st53 hQ53 H53c
            subst l53 y53 z53
            obtain ⟨X53, hS53, hZ, hown⟩ := rebS (s := s) (vm0 := s.vm) (State.WarmedH.since (State.WarmedH.refl s) 0) (Nat.zero_le _) X53a hS53a hg53a hZ hown
            obtain ⟨rfl, N53q, K53⟩ := hQ53
            have C54 := C44.trans H53c
            have S54_b37 := H53c.safe P43_0.lt S44_b37
            have N53 := Fr.app N43 N53q
            refine own_go ?_ (fun target hr => st53.trans (XS.iload X53.here hx rfl (hb hby at_262) rfl (XS.icmpNo X53.here hx rfl (hb hby at_264) rfl (teq (by decide : (0 : Int32) = (0 : Int32))).2 (XS.iconst X53.here hx rfl (hb hby at_267) (XS.goto X53.here hx rfl (pc0 := 268) (pc' := 272) rfl (hb hby at_268) (by decide) (by decide) hr)))))
            show own_G _ p e below s _ _ _ (T53.setTop (mkF m 272 #[iv p1, iv p2, iv p3, iv p4, iv p5, iv (1 : Int32), iv z29_0, iv z31_0, iv z33_0, iv z35_0, rv b37, iv (0 : Int32), iv (0 : Int32), iv (0 : Int32)] [(.int (1 : Int32))]))
            obtain ⟨fs, hr, hrun, hended, hRW⟩ := Stand.leaveW (s := s) (vm₁ := T53.vm) X53 hS53 (Nat.le_refl _) (v := some (.int (1 : Int32))) (fun h => by rw [Bd.returns] at h; cases h)
            have hCe := C54.trans (CHv.at (s := s) (vm0 := T53.vm) X53 hZ hEL C54.1)
            exact ⟨_, _, retN X53 hx (t := .boolean) Bd.returns (by simp) (hb hby at_272) hr, hrun, hended, _, _, rfl, ⟨rfl, N53, trivial⟩, (by rw [hh, show (T53.setFrames fs).heap = T53.heap from rfl]; exact hCe), hRW.1, hRW.2.1, hRW.2.2.1, hRW.2.2.2.mono (by decide) (by decide)⟩
        ·
          refine own_go ?_ (fun target hr => XS.icmpYes X43.here hx rfl (pc0 := 217) (pc' := 231) rfl (hb hby at_217) rfl (feq hc217).2 (by decide) (by decide) (XS.iconst X43.here hx rfl (hb hby at_231) (XS.istore X43.here hx rfl (hb hby at_232) rfl (l' := #[iv p1, iv p2, iv p3, iv p4, iv p5, iv (1 : Int32), iv z29_0, iv z31_0, iv z33_0, iv z35_0, rv b37, iv (0 : Int32), iv (0 : Int32), .unset]) rfl (XS.iload X43.here hx rfl (hb hby at_234) rfl (XS.iconst X43.here hx rfl (hb hby at_236) (XS.icmpYes X43.here hx rfl (pc0 := 237) (pc' := 254) rfl (hb hby at_237) rfl (feq (by decide : ¬ ((1 : Int32) = (3 : Int32)))).2 (by decide) (by decide) (XS.iconst X43.here hx rfl (hb hby at_254) (XS.istore X43.here hx rfl (hb hby at_255) rfl (l' := #[iv p1, iv p2, iv p3, iv p4, iv p5, iv (1 : Int32), iv z29_0, iv z31_0, iv z33_0, iv z35_0, rv b37, iv (0 : Int32), iv (0 : Int32), iv (0 : Int32)]) rfl hr))))))))
          show own_G _ p e below s _ _ _ (T43.setTop (mkF m 257 #[iv p1, iv p2, iv p3, iv p4, iv p5, iv (1 : Int32), iv z29_0, iv z31_0, iv z33_0, iv z35_0, rv b37, iv (0 : Int32), iv (0 : Int32), iv (0 : Int32)] []))
          refine own_go ?_ (fun target hr => XS.aload X43.here hx rfl (hb hby at_257) rfl rfl hr)
          show own_G _ p e below s _ _ _ (T43.setTop (mkF m 259 #[iv p1, iv p2, iv p3, iv p4, iv p5, iv (1 : Int32), iv z29_0, iv z31_0, iv z33_0, iv z35_0, rv b37, iv (0 : Int32), iv (0 : Int32), iv (0 : Int32)] [(.ref b37)]))
          obtain ⟨_, _, ⟨T55, L55, k55, n55⟩, -, X55a, hS55a, hg55a, ⟨Lc55, hQ55, l55, y55, z55, H55c⟩, st55⟩ := callSS X43 hx (y := (⟨"com/example/prita/prita/gnss/GnssTime", "carriesTime", "(Ljava/lang/String;)Z"⟩ : MethodName)) hown (mvT hZ (hw _ (List.mem_of_getElem? (i := 27) rfl))) (mvT hZ (hw _ (List.mem_of_getElem? (i := 28) rfl))) (mvT hZ (hw _ (List.mem_of_getElem? (i := 29) rfl))) (mvT hZ (hw _ (List.mem_of_getElem? (i := 30) rfl))) (by decide) (backOfSH (s := s) (vm0 := s.vm) (W := 0) (rm_ct_1 l Z a0 hw [] b37 t43 kt43 z29_0 zc T43.heap n0 (Nat.le_trans (Nat.le_trans (Nat.le_trans (Nat.le_trans (Nat.le_trans (Nat.le_trans (Nat.le_trans (Nat.le_trans Z0 K29.1) K31.1) K33.1) K35.1) E37.1) E39.1) (Keep.of_wr W41).1) K43.1) P43_0 P43_2 P43_1 P43_3 ((((((((hold.keep K29 all0).keep K31 all0).keep K33 all0).keep K35 all0).ext E37).ext E39).wr W41 g_b39).keep K43 (allS g_b37 all0)) S_COMPACT_STRINGS (by intro c hc; simp only [List.mem_cons, List.not_mem_nil, or_false] at hc; rcases hc with rfl; exact P29_0) hz) hZ (hw _ (List.mem_of_getElem? (i := 30) rfl)) (hw _ (List.mem_of_getElem? (i := 29) rfl)) (by decide) (by decide) hEL C44.1) (g := (mkF m 259 #[iv p1, iv p2, iv p3, iv p4, iv p5, iv (1 : Int32), iv z29_0, iv z31_0, iv z33_0, iv z35_0, rv b37, iv (0 : Int32), iv (0 : Int32), iv (0 : Int32)] [(.ref b37)])) rfl (by rw [hml]; rfl) (argsL := [(.ref b37)]) (rest := []) (lenOf pd__Ljava_lang_String__Z rfl) rfl (by show 2 * 0 + _ ≤ _; exact Nat.le_of_eq rfl) (hb hby at_259) (fun _ _ => ⟨rfl, rfl, (by decide : 7 + 4 ≤ _), (by decide : 38 + 32 ≤ _)⟩)
          dsimp only [Pt.U, Pt.locs, Pt.cells, Pt.slots] at X55a hS55a hg55a l55 y55 z55 st55 hQ55 H55c
          subst l55 y55 z55
          obtain ⟨X55, hS55, hZ, hown⟩ := rebS (s := s) (vm0 := s.vm) (State.WarmedH.since (State.WarmedH.refl s) 0) (Nat.zero_le _) X55a hS55a hg55a hZ hown
          obtain ⟨rfl, N55q, K55⟩ := hQ55
          have C56 := C44.trans H55c
          have S56_b37 := H55c.safe P43_0.lt S44_b37
          have N55 := Fr.app N43 N55q
          refine own_go ?_ (fun target hr => st55.trans (XS.iload X55.here hx rfl (hb hby at_262) rfl (XS.icmpNo X55.here hx rfl (hb hby at_264) rfl (teq (by decide : (0 : Int32) = (0 : Int32))).2 (XS.iconst X55.here hx rfl (hb hby at_267) (XS.goto X55.here hx rfl (pc0 := 268) (pc' := 272) rfl (hb hby at_268) (by decide) (by decide) hr)))))
          show own_G _ p e below s _ _ _ (T55.setTop (mkF m 272 #[iv p1, iv p2, iv p3, iv p4, iv p5, iv (1 : Int32), iv z29_0, iv z31_0, iv z33_0, iv z35_0, rv b37, iv (0 : Int32), iv (0 : Int32), iv (0 : Int32)] [(.int (1 : Int32))]))
          obtain ⟨fs, hr, hrun, hended, hRW⟩ := Stand.leaveW (s := s) (vm₁ := T55.vm) X55 hS55 (Nat.le_refl _) (v := some (.int (1 : Int32))) (fun h => by rw [Bd.returns] at h; cases h)
          have hCe := C56.trans (CHv.at (s := s) (vm0 := T55.vm) X55 hZ hEL C56.1)
          exact ⟨_, _, retN X55 hx (t := .boolean) Bd.returns (by simp) (hb hby at_272) hr, hrun, hended, _, _, rfl, ⟨rfl, N55, trivial⟩, (by rw [hh, show (T55.setFrames fs).heap = T55.heap from rfl]; exact hCe), hRW.1, hRW.2.1, hRW.2.2.1, hRW.2.2.2.mono (by decide) (by decide)⟩
      ·
        refine own_go ?_ (fun target hr => XS.icmpYes X43.here hx rfl (pc0 := 210) (pc' := 231) rfl (hb hby at_210) rfl (feq hc210).2 (by decide) (by decide) (XS.iconst X43.here hx rfl (hb hby at_231) (XS.istore X43.here hx rfl (hb hby at_232) rfl (l' := #[iv p1, iv p2, iv p3, iv p4, iv p5, iv (1 : Int32), iv z29_0, iv z31_0, iv z33_0, iv z35_0, rv b37, iv (0 : Int32), iv (0 : Int32), .unset]) rfl (XS.iload X43.here hx rfl (hb hby at_234) rfl (XS.iconst X43.here hx rfl (hb hby at_236) (XS.icmpYes X43.here hx rfl (pc0 := 237) (pc' := 254) rfl (hb hby at_237) rfl (feq (by decide : ¬ ((1 : Int32) = (3 : Int32)))).2 (by decide) (by decide) (XS.iconst X43.here hx rfl (hb hby at_254) (XS.istore X43.here hx rfl (hb hby at_255) rfl (l' := #[iv p1, iv p2, iv p3, iv p4, iv p5, iv (1 : Int32), iv z29_0, iv z31_0, iv z33_0, iv z35_0, rv b37, iv (0 : Int32), iv (0 : Int32), iv (0 : Int32)]) rfl hr))))))))
        show own_G _ p e below s _ _ _ (T43.setTop (mkF m 257 #[iv p1, iv p2, iv p3, iv p4, iv p5, iv (1 : Int32), iv z29_0, iv z31_0, iv z33_0, iv z35_0, rv b37, iv (0 : Int32), iv (0 : Int32), iv (0 : Int32)] []))
        refine own_go ?_ (fun target hr => XS.aload X43.here hx rfl (hb hby at_257) rfl rfl hr)
        show own_G _ p e below s _ _ _ (T43.setTop (mkF m 259 #[iv p1, iv p2, iv p3, iv p4, iv p5, iv (1 : Int32), iv z29_0, iv z31_0, iv z33_0, iv z35_0, rv b37, iv (0 : Int32), iv (0 : Int32), iv (0 : Int32)] [(.ref b37)]))
        obtain ⟨_, _, ⟨T57, L57, k57, n57⟩, -, X57a, hS57a, hg57a, ⟨Lc57, hQ57, l57, y57, z57, H57c⟩, st57⟩ := callSS X43 hx (y := (⟨"com/example/prita/prita/gnss/GnssTime", "carriesTime", "(Ljava/lang/String;)Z"⟩ : MethodName)) hown (mvT hZ (hw _ (List.mem_of_getElem? (i := 27) rfl))) (mvT hZ (hw _ (List.mem_of_getElem? (i := 28) rfl))) (mvT hZ (hw _ (List.mem_of_getElem? (i := 29) rfl))) (mvT hZ (hw _ (List.mem_of_getElem? (i := 30) rfl))) (by decide) (backOfSH (s := s) (vm0 := s.vm) (W := 0) (rm_ct_1 l Z a0 hw [] b37 t43 kt43 z29_0 zc T43.heap n0 (Nat.le_trans (Nat.le_trans (Nat.le_trans (Nat.le_trans (Nat.le_trans (Nat.le_trans (Nat.le_trans (Nat.le_trans Z0 K29.1) K31.1) K33.1) K35.1) E37.1) E39.1) (Keep.of_wr W41).1) K43.1) P43_0 P43_2 P43_1 P43_3 ((((((((hold.keep K29 all0).keep K31 all0).keep K33 all0).keep K35 all0).ext E37).ext E39).wr W41 g_b39).keep K43 (allS g_b37 all0)) S_COMPACT_STRINGS (by intro c hc; simp only [List.mem_cons, List.not_mem_nil, or_false] at hc; rcases hc with rfl; exact P29_0) hz) hZ (hw _ (List.mem_of_getElem? (i := 30) rfl)) (hw _ (List.mem_of_getElem? (i := 29) rfl)) (by decide) (by decide) hEL C44.1) (g := (mkF m 259 #[iv p1, iv p2, iv p3, iv p4, iv p5, iv (1 : Int32), iv z29_0, iv z31_0, iv z33_0, iv z35_0, rv b37, iv (0 : Int32), iv (0 : Int32), iv (0 : Int32)] [(.ref b37)])) rfl (by rw [hml]; rfl) (argsL := [(.ref b37)]) (rest := []) (lenOf pd__Ljava_lang_String__Z rfl) rfl (by show 2 * 0 + _ ≤ _; exact Nat.le_of_eq rfl) (hb hby at_259) (fun _ _ => ⟨rfl, rfl, (by decide : 7 + 4 ≤ _), (by decide : 38 + 32 ≤ _)⟩)
        dsimp only [Pt.U, Pt.locs, Pt.cells, Pt.slots] at X57a hS57a hg57a l57 y57 z57 st57 hQ57 H57c
        subst l57 y57 z57
        obtain ⟨X57, hS57, hZ, hown⟩ := rebS (s := s) (vm0 := s.vm) (State.WarmedH.since (State.WarmedH.refl s) 0) (Nat.zero_le _) X57a hS57a hg57a hZ hown
        obtain ⟨rfl, N57q, K57⟩ := hQ57
        have C58 := C44.trans H57c
        have S58_b37 := H57c.safe P43_0.lt S44_b37
        have N57 := Fr.app N43 N57q
        refine own_go ?_ (fun target hr => st57.trans (XS.iload X57.here hx rfl (hb hby at_262) rfl (XS.icmpNo X57.here hx rfl (hb hby at_264) rfl (teq (by decide : (0 : Int32) = (0 : Int32))).2 (XS.iconst X57.here hx rfl (hb hby at_267) (XS.goto X57.here hx rfl (pc0 := 268) (pc' := 272) rfl (hb hby at_268) (by decide) (by decide) hr)))))
        show own_G _ p e below s _ _ _ (T57.setTop (mkF m 272 #[iv p1, iv p2, iv p3, iv p4, iv p5, iv (1 : Int32), iv z29_0, iv z31_0, iv z33_0, iv z35_0, rv b37, iv (0 : Int32), iv (0 : Int32), iv (0 : Int32)] [(.int (1 : Int32))]))
        obtain ⟨fs, hr, hrun, hended, hRW⟩ := Stand.leaveW (s := s) (vm₁ := T57.vm) X57 hS57 (Nat.le_refl _) (v := some (.int (1 : Int32))) (fun h => by rw [Bd.returns] at h; cases h)
        have hCe := C58.trans (CHv.at (s := s) (vm0 := T57.vm) X57 hZ hEL C58.1)
        exact ⟨_, _, retN X57 hx (t := .boolean) Bd.returns (by simp) (hb hby at_272) hr, hrun, hended, _, _, rfl, ⟨rfl, N57, trivial⟩, (by rw [hh, show (T57.setFrames fs).heap = T57.heap from rfl]; exact hCe), hRW.1, hRW.2.1, hRW.2.2.1, hRW.2.2.2.mono (by decide) (by decide)⟩
  ·
    rw [hs6_2]
    show own_G _ p e below s _ _ _ (s₁.setTop (mkF m 6 #[iv p1, iv p2, iv p3, iv p4, iv p5, .unset, .unset, .unset, .unset, .unset, .unset, .unset, .unset, .unset] [(.int (2 : Int32))]))
    refine own_go ?_ (fun target hr => XS.istore X0.here hx rfl (hb hby at_6) rfl (l' := #[iv p1, iv p2, iv p3, iv p4, iv p5, iv (2 : Int32), .unset, .unset, .unset, .unset, .unset, .unset, .unset, .unset]) rfl (XS.iloadN X0.here hx rfl (hb hby at_8) rfl hr))
    show own_G _ p e below s _ _ _ (s₁.setTop (mkF m 9 #[iv p1, iv p2, iv p3, iv p4, iv p5, iv (2 : Int32), .unset, .unset, .unset, .unset, .unset, .unset, .unset, .unset] [(.int p2)]))
    obtain ⟨_, _, ⟨T59, L59, k59, n59⟩, -, X59, ⟨Lc59, hQ59, l59, y59, z59⟩, st59⟩ := Jvm.LawKit.callS X0 hx (y := (⟨"com/example/prita/prita/gnss/GnssTimeCarriesTimePinLaw", "pick", "(I)C"⟩ : MethodName)) hown (mvT hZ (hw _ (List.mem_of_getElem? (i := 1) rfl))) (mvT hZ (hw _ (List.mem_of_getElem? (i := 2) rfl))) (mvT hZ (hw _ (List.mem_of_getElem? (i := 3) rfl))) (mvT hZ (hw _ (List.mem_of_getElem? (i := 4) rfl))) (by decide) (backOf (W := 0) (rm1 l Z a0 hw [] p2 h0 n0 Z0 ) hZ (hw _ (List.mem_of_getElem? (i := 4) rfl)) (hw _ (List.mem_of_getElem? (i := 3) rfl)) (by decide) (by decide)) (g := (mkF m 9 #[iv p1, iv p2, iv p3, iv p4, iv p5, iv (2 : Int32), .unset, .unset, .unset, .unset, .unset, .unset, .unset, .unset] [(.int p2)])) rfl (by rw [hml]; rfl) (argsL := [(.int p2)]) (rest := []) (lenOf pd__I_C rfl) rfl (by show 2 * 0 + _ ≤ _; exact Nat.le_of_eq rfl) (hb hby at_9) (fun _ _ => ⟨rfl, e0, (by decide : 0 + 1 ≤ _), (by decide : 0 + 8 ≤ _)⟩)
    dsimp only [Pt.U, Pt.locs, Pt.cells, Pt.slots] at X59 l59 y59 z59 st59 hQ59
    subst l59 y59 z59
    obtain ⟨z59_0, rfl, N59q, K59, P59_0⟩ := hQ59
    have C60 := hC0.trans (CHr.keep K59 all0 hC0.1)
    have N59 := Fr.app N0 N59q
    refine own_go ?_ (fun target hr => st59 _ (XS.istore X59.here hx rfl (hb hby at_12) rfl (l' := #[iv p1, iv p2, iv p3, iv p4, iv p5, iv (2 : Int32), iv z59_0, .unset, .unset, .unset, .unset, .unset, .unset, .unset]) rfl (XS.iloadN X59.here hx rfl (hb hby at_14) rfl hr)))
    show own_G _ p e below s _ _ _ (T59.setTop (mkF m 15 #[iv p1, iv p2, iv p3, iv p4, iv p5, iv (2 : Int32), iv z59_0, .unset, .unset, .unset, .unset, .unset, .unset, .unset] [(.int p3)]))
    obtain ⟨_, _, ⟨T61, L61, k61, n61⟩, -, X61, ⟨Lc61, hQ61, l61, y61, z61⟩, st61⟩ := Jvm.LawKit.callS X59 hx (y := (⟨"com/example/prita/prita/gnss/GnssTimeCarriesTimePinLaw", "pick", "(I)C"⟩ : MethodName)) hown (mvT hZ (hw _ (List.mem_of_getElem? (i := 1) rfl))) (mvT hZ (hw _ (List.mem_of_getElem? (i := 2) rfl))) (mvT hZ (hw _ (List.mem_of_getElem? (i := 3) rfl))) (mvT hZ (hw _ (List.mem_of_getElem? (i := 4) rfl))) (by decide) (backOf (W := 0) (rm1 l Z a0 hw [] p3 T59.heap n0 (Nat.le_trans Z0 K59.1) ) hZ (hw _ (List.mem_of_getElem? (i := 4) rfl)) (hw _ (List.mem_of_getElem? (i := 3) rfl)) (by decide) (by decide)) (g := (mkF m 15 #[iv p1, iv p2, iv p3, iv p4, iv p5, iv (2 : Int32), iv z59_0, .unset, .unset, .unset, .unset, .unset, .unset, .unset] [(.int p3)])) rfl (by rw [hml]; rfl) (argsL := [(.int p3)]) (rest := []) (lenOf pd__I_C rfl) rfl (by show 2 * 0 + _ ≤ _; exact Nat.le_of_eq rfl) (hb hby at_15) (fun _ _ => ⟨rfl, rfl, (by decide : 1 + 1 ≤ _), (by decide : 8 + 8 ≤ _)⟩)
    dsimp only [Pt.U, Pt.locs, Pt.cells, Pt.slots] at X61 l61 y61 z61 st61 hQ61
    subst l61 y61 z61
    obtain ⟨z61_0, rfl, N61q, K61, P61_0⟩ := hQ61
    have C62 := C60.trans (CHr.keep K61 all0 C60.1)
    have N61 := Fr.app N59 N61q
    refine own_go ?_ (fun target hr => st61 _ (XS.istore X61.here hx rfl (hb hby at_18) rfl (l' := #[iv p1, iv p2, iv p3, iv p4, iv p5, iv (2 : Int32), iv z59_0, iv z61_0, .unset, .unset, .unset, .unset, .unset, .unset]) rfl (XS.iloadN X61.here hx rfl (hb hby at_20) rfl hr)))
    show own_G _ p e below s _ _ _ (T61.setTop (mkF m 21 #[iv p1, iv p2, iv p3, iv p4, iv p5, iv (2 : Int32), iv z59_0, iv z61_0, .unset, .unset, .unset, .unset, .unset, .unset] [(.int p4)]))
    obtain ⟨_, _, ⟨T63, L63, k63, n63⟩, -, X63, ⟨Lc63, hQ63, l63, y63, z63⟩, st63⟩ := Jvm.LawKit.callS X61 hx (y := (⟨"com/example/prita/prita/gnss/GnssTimeCarriesTimePinLaw", "pick", "(I)C"⟩ : MethodName)) hown (mvT hZ (hw _ (List.mem_of_getElem? (i := 1) rfl))) (mvT hZ (hw _ (List.mem_of_getElem? (i := 2) rfl))) (mvT hZ (hw _ (List.mem_of_getElem? (i := 3) rfl))) (mvT hZ (hw _ (List.mem_of_getElem? (i := 4) rfl))) (by decide) (backOf (W := 0) (rm1 l Z a0 hw [] p4 T61.heap n0 (Nat.le_trans (Nat.le_trans Z0 K59.1) K61.1) ) hZ (hw _ (List.mem_of_getElem? (i := 4) rfl)) (hw _ (List.mem_of_getElem? (i := 3) rfl)) (by decide) (by decide)) (g := (mkF m 21 #[iv p1, iv p2, iv p3, iv p4, iv p5, iv (2 : Int32), iv z59_0, iv z61_0, .unset, .unset, .unset, .unset, .unset, .unset] [(.int p4)])) rfl (by rw [hml]; rfl) (argsL := [(.int p4)]) (rest := []) (lenOf pd__I_C rfl) rfl (by show 2 * 0 + _ ≤ _; exact Nat.le_of_eq rfl) (hb hby at_21) (fun _ _ => ⟨rfl, rfl, (by decide : 2 + 1 ≤ _), (by decide : 16 + 8 ≤ _)⟩)
    dsimp only [Pt.U, Pt.locs, Pt.cells, Pt.slots] at X63 l63 y63 z63 st63 hQ63
    subst l63 y63 z63
    obtain ⟨z63_0, rfl, N63q, K63, P63_0⟩ := hQ63
    have C64 := C62.trans (CHr.keep K63 all0 C62.1)
    have N63 := Fr.app N61 N63q
    refine own_go ?_ (fun target hr => st63 _ (XS.istore X63.here hx rfl (hb hby at_24) rfl (l' := #[iv p1, iv p2, iv p3, iv p4, iv p5, iv (2 : Int32), iv z59_0, iv z61_0, iv z63_0, .unset, .unset, .unset, .unset, .unset]) rfl (XS.iload X63.here hx rfl (hb hby at_26) rfl hr)))
    show own_G _ p e below s _ _ _ (T63.setTop (mkF m 28 #[iv p1, iv p2, iv p3, iv p4, iv p5, iv (2 : Int32), iv z59_0, iv z61_0, iv z63_0, .unset, .unset, .unset, .unset, .unset] [(.int p5)]))
    obtain ⟨_, _, ⟨T65, L65, k65, n65⟩, -, X65, ⟨Lc65, hQ65, l65, y65, z65⟩, st65⟩ := Jvm.LawKit.callS X63 hx (y := (⟨"com/example/prita/prita/gnss/GnssTimeCarriesTimePinLaw", "pick", "(I)C"⟩ : MethodName)) hown (mvT hZ (hw _ (List.mem_of_getElem? (i := 1) rfl))) (mvT hZ (hw _ (List.mem_of_getElem? (i := 2) rfl))) (mvT hZ (hw _ (List.mem_of_getElem? (i := 3) rfl))) (mvT hZ (hw _ (List.mem_of_getElem? (i := 4) rfl))) (by decide) (backOf (W := 0) (rm1 l Z a0 hw [] p5 T63.heap n0 (Nat.le_trans (Nat.le_trans (Nat.le_trans Z0 K59.1) K61.1) K63.1) ) hZ (hw _ (List.mem_of_getElem? (i := 4) rfl)) (hw _ (List.mem_of_getElem? (i := 3) rfl)) (by decide) (by decide)) (g := (mkF m 28 #[iv p1, iv p2, iv p3, iv p4, iv p5, iv (2 : Int32), iv z59_0, iv z61_0, iv z63_0, .unset, .unset, .unset, .unset, .unset] [(.int p5)])) rfl (by rw [hml]; rfl) (argsL := [(.int p5)]) (rest := []) (lenOf pd__I_C rfl) rfl (by show 2 * 0 + _ ≤ _; exact Nat.le_of_eq rfl) (hb hby at_28) (fun _ _ => ⟨rfl, rfl, (by decide : 3 + 1 ≤ _), (by decide : 24 + 8 ≤ _)⟩)
    dsimp only [Pt.U, Pt.locs, Pt.cells, Pt.slots] at X65 l65 y65 z65 st65 hQ65
    subst l65 y65 z65
    obtain ⟨z65_0, rfl, N65q, K65, P65_0⟩ := hQ65
    have C66 := C64.trans (CHr.keep K65 all0 C64.1)
    have N65 := Fr.app N63 N65q
    refine own_go ?_ (fun target hr => st65 _ (XS.istore X65.here hx rfl (hb hby at_31) rfl (l' := #[iv p1, iv p2, iv p3, iv p4, iv p5, iv (2 : Int32), iv z59_0, iv z61_0, iv z63_0, iv z65_0, .unset, .unset, .unset, .unset]) rfl (XS.iload X65.here hx rfl (hb hby at_33) rfl (XS.ifYes X65.here hx rfl (pc0 := 35) (pc' := 53) rfl (hb hby at_35) rfl ((if0 _ _).trans (feq (by decide : ¬ ((2 : Int32) = (0 : Int32)))).2) (by decide) (by decide) (XS.iload X65.here hx rfl (hb hby at_53) rfl (XS.iconst X65.here hx rfl (hb hby at_55) (XS.icmpYes X65.here hx rfl (pc0 := 56) (pc' := 79) rfl (hb hby at_56) rfl (feq (by decide : ¬ ((2 : Int32) = (1 : Int32)))).2 (by decide) (by decide) (XS.iload X65.here hx rfl (hb hby at_79) rfl hr))))))))
    show own_G _ p e below s _ _ _ (T65.setTop (mkF m 81 #[iv p1, iv p2, iv p3, iv p4, iv p5, iv (2 : Int32), iv z59_0, iv z61_0, iv z63_0, iv z65_0, .unset, .unset, .unset, .unset] [(.int (2 : Int32))]))
    refine own_go ?_ (fun target hr => XS.iconst X65.here hx rfl (hb hby at_81) (XS.icmpNo X65.here hx rfl (hb hby at_82) rfl (teq (by decide : (2 : Int32) = (2 : Int32))).2 hr))
    show own_G _ p e below s _ _ _ (T65.setTop (mkF m 85 #[iv p1, iv p2, iv p3, iv p4, iv p5, iv (2 : Int32), iv z59_0, iv z61_0, iv z63_0, iv z65_0, .unset, .unset, .unset, .unset] []))
    obtain ⟨T67, h67, X67, e67, E67, A67, D67, -, st67⟩ := newO X65 hx hZ hown (hw _ (List.mem_of_getElem? (i := 6) rfl)) (hw _ (List.mem_of_getElem? (i := 7) rfl)) (hw _ (List.mem_of_getElem? (i := 8) rfl)) rfl (g := (mkF m 85 #[iv p1, iv p2, iv p3, iv p4, iv p5, iv (2 : Int32), iv z59_0, iv z61_0, iv z63_0, iv z65_0, .unset, .unset, .unset, .unset] [])) rfl (hb hby at_85) (by decide) (by decide)
    obtain ⟨b67, g67⟩ : ∃ z, z = T65.heap.size := ⟨_, rfl⟩
    rw [← g67] at A67 D67 st67
    have g_b67 : n0 ≤ b67 := Nat.le_trans (Nat.le_trans (Nat.le_trans (Nat.le_trans (Nat.le_trans Z0 K59.1) K61.1) K63.1) K65.1) (Nat.le_of_eq g67.symm)
    have S0_b67 : Safe Z consts_1 s.vm T65.heap b67 := Safe.new (Nat.le_of_eq g67.symm)
    have C68 := C66.trans (CHr.ext E67 C66.1)
    have S68_b67 := Safe.ext E67 C66.1 S0_b67
    have F67_21 : Fld Z h67 b67 "java/lang/String" "value" "[B" .null := D67 (Or.inr (hw _ (List.mem_of_getElem? (i := 21) rfl))) (ty := (.array .byte)) (by decide)
    have F67_22 : Fld Z h67 b67 "java/lang/String" "coder" "B" (.int (0 : Int32)) := D67 (Or.inr (hw _ (List.mem_of_getElem? (i := 22) rfl))) (ty := .byte) (by decide)
    refine own_go ?_ (fun target hr => st67 _ (XS.dup X67.here hx rfl (hb hby at_88) rfl rfl (XS.iconst X67.here hx rfl (hb hby at_89) hr)))
    show own_G _ p e below s _ _ _ (T67.setTop (mkF m 90 #[iv p1, iv p2, iv p3, iv p4, iv p5, iv (2 : Int32), iv z59_0, iv z61_0, iv z63_0, iv z65_0, .unset, .unset, .unset, .unset] [(.int (2 : Int32)), (.ref b67), (.ref b67)]))
    obtain ⟨T69, h69, k69, X69, e69, E69, A69, st69⟩ := newP X67 hx hZ (hw _ (List.mem_of_getElem? (i := 5) rfl)) e67 (g := (mkF m 90 #[iv p1, iv p2, iv p3, iv p4, iv p5, iv (2 : Int32), iv z59_0, iv z61_0, iv z63_0, iv z65_0, .unset, .unset, .unset, .unset] [(.int (2 : Int32)), (.ref b67), (.ref b67)])) rfl (hb hby at_90) rfl (by decide) (cap := 2) (by decide) (by decide) (by decide) (by decide)
    obtain ⟨b69, g69⟩ : ∃ z, z = h67.size := ⟨_, rfl⟩
    rw [← g69] at A69 st69
    have V69 : Arv Z h69 b69 k69 .char (2 : Int32) [(.int (0 : Int32)), (.int (0 : Int32))] (.int (0 : Int32)) := (Arv.new A69 (by decide)).pad (pad_rep [] (.int (0 : Int32)) 2)
    have g_b69 : n0 ≤ b69 := Nat.le_trans (Nat.le_trans (Nat.le_trans (Nat.le_trans (Nat.le_trans (Nat.le_trans Z0 K59.1) K61.1) K63.1) K65.1) E67.1) (Nat.le_of_eq g69.symm)
    have C70 := C68.trans (CHr.ext E69 C68.1)
    have S70_b67 := Safe.ext E69 C68.1 S68_b67
    refine own_go ?_ (fun target hr => st69 _ (XS.dup X69.here hx rfl (hb hby at_92) rfl rfl (XS.iconst X69.here hx rfl (hb hby at_93) (XS.iload X69.here hx rfl (hb hby at_94) rfl hr))))
    show own_G _ p e below s _ _ _ (T69.setTop (mkF m 96 #[iv p1, iv p2, iv p3, iv p4, iv p5, iv (2 : Int32), iv z59_0, iv z61_0, iv z63_0, iv z65_0, .unset, .unset, .unset, .unset] [(.int z59_0), (.int (0 : Int32)), (.ref b69), (.ref b69), (.ref b67), (.ref b67)]))
    obtain ⟨cl71, Ar71, qk71, S71, M71, H71, G71⟩ := id V69
    have hin71 : ¬ ((0 : Int32) < 0 ∨ cl71.slots.size ≤ ((0 : Int32)).toNatClampNeg) := inb_of S71 ⟨by decide, by decide⟩
    obtain ⟨T71, h71, X71, e71, W71, st71⟩ := stC X69 hx hZ e69 Ar71 (j := (0 : Int32)) hin71 (g := (mkF m 96 #[iv p1, iv p2, iv p3, iv p4, iv p5, iv (2 : Int32), iv z59_0, iv z61_0, iv z63_0, iv z65_0, .unset, .unset, .unset, .unset] [(.int z59_0), (.int (0 : Int32)), (.ref b69), (.ref b69), (.ref b67), (.ref b67)])) rfl rfl (hb hby at_96)
    rw [own_nar P59_0] at W71
    have V71 : Arv Z h71 b69 k69 .char (2 : Int32) [(.int z59_0), (.int (0 : Int32))] (.int (0 : Int32)) := Arv.set Ar71 qk71 S71 M71 H71 G71 (own_fitc P59_0) W71 0 rfl (Nat.le_of_ble_eq_true rfl)
    have N71 := Fr.snoc X71 N65 g_b69
    have C72 := C70.trans (CHr.wr W71 (own_safeV hZ.alike V69 (by decide)) C70.1)
    have S72_b67 := Safe.wr W71 (own_safeV hZ.alike V69 (by decide)) C70.1 S70_b67
    refine own_go ?_ (fun target hr => st71 _ (XS.dup X71.here hx rfl (hb hby at_97) rfl rfl (XS.iconst X71.here hx rfl (hb hby at_98) (XS.iload X71.here hx rfl (hb hby at_99) rfl hr))))
    show own_G _ p e below s _ _ _ (T71.setTop (mkF m 101 #[iv p1, iv p2, iv p3, iv p4, iv p5, iv (2 : Int32), iv z59_0, iv z61_0, iv z63_0, iv z65_0, .unset, .unset, .unset, .unset] [(.int z61_0), (.int (1 : Int32)), (.ref b69), (.ref b69), (.ref b67), (.ref b67)]))
    obtain ⟨cl73, Ar73, qk73, S73, M73, H73, G73⟩ := id V71
    have hin73 : ¬ ((1 : Int32) < 0 ∨ cl73.slots.size ≤ ((1 : Int32)).toNatClampNeg) := inb_of S73 ⟨by decide, by decide⟩
    obtain ⟨T73, h73, X73, e73, W73, st73⟩ := stC X71 hx hZ e71 Ar73 (j := (1 : Int32)) hin73 (g := (mkF m 101 #[iv p1, iv p2, iv p3, iv p4, iv p5, iv (2 : Int32), iv z59_0, iv z61_0, iv z63_0, iv z65_0, .unset, .unset, .unset, .unset] [(.int z61_0), (.int (1 : Int32)), (.ref b69), (.ref b69), (.ref b67), (.ref b67)])) rfl rfl (hb hby at_101)
    rw [own_nar P61_0] at W73
    have V73 : Arv Z h73 b69 k69 .char (2 : Int32) [(.int z59_0), (.int z61_0)] (.int (0 : Int32)) := Arv.set Ar73 qk73 S73 M73 H73 G73 (own_fitc P61_0) W73 1 rfl (Nat.le_of_ble_eq_true rfl)
    have N73 := Fr.snoc X73 N71 g_b69
    have C74 := C72.trans (CHr.wr W73 (own_safeV hZ.alike V71 (by decide)) C72.1)
    have S74_b67 := Safe.wr W73 (own_safeV hZ.alike V71 (by decide)) C72.1 S72_b67
    refine own_go ?_ (fun target hr => st73 _ hr)
    show own_G _ p e below s _ _ _ (T73.setTop (mkF m 102 #[iv p1, iv p2, iv p3, iv p4, iv p5, iv (2 : Int32), iv z59_0, iv z61_0, iv z63_0, iv z65_0, .unset, .unset, .unset, .unset] [(.ref b69), (.ref b67), (.ref b67)]))
    obtain ⟨_, _, ⟨T75, L75, k75, n75⟩, -, X75, ⟨Lc75, hQ75, l75, y75, z75⟩, st75⟩ := X73.specialBack hx (y := (⟨"java/lang/String", "<init>", "([C)V"⟩ : MethodName)) rfl hown (mvT hZ (hw _ (List.mem_of_getElem? (i := 9) rfl))) (mvT hZ (hw _ (List.mem_of_getElem? (i := 10) rfl))) (mvT hZ (hw _ (List.mem_of_getElem? (i := 11) rfl))) (by decide) (StrChars.Road.backV (W := 1) hZ hws (kI := 4) (hw _ (List.mem_of_getElem? (i := 7) rfl)) (cs := ([z59_0, z61_0] : List Int32)) (bs := (([z59_0, z61_0] : List Int32)).map (fun c => c.toInt8.toInt32)) (n := 2) g_b67 (Nat.le_trans (Nat.le_trans (Nat.le_trans (Nat.le_trans (Nat.le_trans (Nat.le_trans (Nat.le_trans (Nat.le_trans Z0 K59.1) K61.1) K63.1) K65.1) E67.1) E69.1) (Keep.of_wr W71).1) (Keep.of_wr W73).1) (((A67.ext E69).wr W71).wr W73) (((F67_21.ext E69).other W71 (Or.inl (Nat.ne_of_lt (Nat.lt_of_lt_of_le A67.lt (Nat.le_of_eq g69.symm))))).other W73 (Or.inl (Nat.ne_of_lt (Nat.lt_of_lt_of_le A67.lt (Nat.le_of_eq g69.symm))))) (((F67_22.ext E69).other W71 (Or.inl (Nat.ne_of_lt (Nat.lt_of_lt_of_le A67.lt (Nat.le_of_eq g69.symm))))).other W73 (Or.inl (Nat.ne_of_lt (Nat.lt_of_lt_of_le A67.lt (Nat.le_of_eq g69.symm))))) V73 (S_COMPACT_STRINGS.ext ((((((((hold.keep K59 all0).keep K61 all0).keep K63 all0).keep K65 all0).ext E67).ext E69).wr W71 g_b69).wr W73 g_b69).2) hz rfl rfl (by decide) (by decide) (by intro c hc; simp only [List.mem_cons, List.not_mem_nil, or_false] at hc; rcases hc with rfl | rfl; exact P59_0; exact P61_0) rfl (by decide) (by decide)) (g := (mkF m 102 #[iv p1, iv p2, iv p3, iv p4, iv p5, iv (2 : Int32), iv z59_0, iv z61_0, iv z63_0, iv z65_0, .unset, .unset, .unset, .unset] [(.ref b69), (.ref b67), (.ref b67)])) rfl (by rw [hml]; rfl) (Steps.refl _) (a := b67) (argsL := [(.ref b69)]) (rest := [(.ref b67)]) (lenOf pd___C_V rfl) rfl (by show 2 * 0 + _ ≤ _; exact Nat.le_of_eq rfl) (hb hby at_102) (fun _ _ => ⟨rfl, e73, (by decide : 6 + 1 ≤ _), (by decide : 38 + 2 ≤ _)⟩)
    dsimp only [Pt.U, Pt.locs, Pt.cells, Pt.slots] at X75 l75 y75 z75 st75 hQ75
    subst l75 y75 z75
    obtain ⟨rfl, N75q, K75, P75_0, P75_1, t75, kt75, y75a, y75b, y75c, P75_2, P75_3⟩ := hQ75
    have g_t75 : n0 ≤ t75 := Nat.le_trans (Nat.le_trans (Nat.le_trans (Nat.le_trans (Nat.le_trans (Nat.le_trans (Nat.le_trans (Nat.le_trans (Nat.le_trans Z0 K59.1) K61.1) K63.1) K65.1) E67.1) E69.1) (Keep.of_wr W71).1) (Keep.of_wr W73).1) y75b
    have C76 := C74.trans (CHr.keep K75 (allS S74_b67 all0) C74.1)
    have S76_b67 := Safe.keep K75 (allS S74_b67 all0) C74.1 S74_b67
    have N75 := Fr.app N73 N75q
    refine own_go ?_ (fun target hr => st75.trans (XS.astore X75.here hx rfl (hb hby at_105) rfl rfl (l' := #[iv p1, iv p2, iv p3, iv p4, iv p5, iv (2 : Int32), iv z59_0, iv z61_0, iv z63_0, iv z65_0, rv b67, .unset, .unset, .unset]) rfl (XS.goto X75.here hx rfl (pc0 := 107) (pc' := 178) rfl (hb hby at_107) (by decide) (by decide) (XS.iload X75.here hx rfl (hb hby at_178) rfl (XS.bipush X75.here hx rfl (hb hby at_180) hr)))))
    show own_G _ p e below s _ _ _ (T75.setTop (mkF m 182 #[iv p1, iv p2, iv p3, iv p4, iv p5, iv (2 : Int32), iv z59_0, iv z61_0, iv z63_0, iv z65_0, rv b67, .unset, .unset, .unset] [(.int (82 : Int32)), (.int z59_0)]))
    by_cases hc182 : z59_0 = (82 : Int32)
    ·
      refine own_go ?_ (fun target hr => XS.icmpNo X75.here hx rfl (hb hby at_182) rfl (teq hc182).2 (XS.iload X75.here hx rfl (hb hby at_185) rfl (XS.bipush X75.here hx rfl (hb hby at_187) hr)))
      show own_G _ p e below s _ _ _ (T75.setTop (mkF m 189 #[iv p1, iv p2, iv p3, iv p4, iv p5, iv (2 : Int32), iv z59_0, iv z61_0, iv z63_0, iv z65_0, rv b67, .unset, .unset, .unset] [(.int (77 : Int32)), (.int z61_0)]))
      by_cases hc189 : z61_0 = (77 : Int32)
      ·
        refine own_go ?_ (fun target hr => XS.icmpNo X75.here hx rfl (hb hby at_189) rfl (teq hc189).2 (XS.iload X75.here hx rfl (hb hby at_192) rfl (XS.bipush X75.here hx rfl (hb hby at_194) hr)))
        show own_G _ p e below s _ _ _ (T75.setTop (mkF m 196 #[iv p1, iv p2, iv p3, iv p4, iv p5, iv (2 : Int32), iv z59_0, iv z61_0, iv z63_0, iv z65_0, rv b67, .unset, .unset, .unset] [(.int (67 : Int32)), (.int z63_0)]))
        by_cases hc196 : z63_0 = (67 : Int32)
        ·
          refine own_go ?_ (fun target hr => XS.icmpNo X75.here hx rfl (hb hby at_196) rfl (teq hc196).2 (XS.iconst X75.here hx rfl (hb hby at_199) (XS.goto X75.here hx rfl (pc0 := 200) (pc' := 204) rfl (hb hby at_200) (by decide) (by decide) (XS.istore X75.here hx rfl (hb hby at_204) rfl (l' := #[iv p1, iv p2, iv p3, iv p4, iv p5, iv (2 : Int32), iv z59_0, iv z61_0, iv z63_0, iv z65_0, rv b67, iv (1 : Int32), .unset, .unset]) rfl (XS.iload X75.here hx rfl (hb hby at_206) rfl (XS.bipush X75.here hx rfl (hb hby at_208) (XS.icmpYes X75.here hx rfl (pc0 := 210) (pc' := 231) rfl (hb hby at_210) rfl (feq (fun q => absurd (hc182.symm.trans q) (by decide))).2 (by decide) (by decide) (XS.iconst X75.here hx rfl (hb hby at_231) hr))))))))
          show own_G _ p e below s _ _ _ (T75.setTop (mkF m 232 #[iv p1, iv p2, iv p3, iv p4, iv p5, iv (2 : Int32), iv z59_0, iv z61_0, iv z63_0, iv z65_0, rv b67, iv (1 : Int32), .unset, .unset] [(.int (0 : Int32))]))
          refine own_go ?_ (fun target hr => XS.istore X75.here hx rfl (hb hby at_232) rfl (l' := #[iv p1, iv p2, iv p3, iv p4, iv p5, iv (2 : Int32), iv z59_0, iv z61_0, iv z63_0, iv z65_0, rv b67, iv (1 : Int32), iv (0 : Int32), .unset]) rfl (XS.iload X75.here hx rfl (hb hby at_234) rfl (XS.iconst X75.here hx rfl (hb hby at_236) (XS.icmpYes X75.here hx rfl (pc0 := 237) (pc' := 254) rfl (hb hby at_237) rfl (feq (by decide : ¬ ((2 : Int32) = (3 : Int32)))).2 (by decide) (by decide) (XS.iconst X75.here hx rfl (hb hby at_254) (XS.istore X75.here hx rfl (hb hby at_255) rfl (l' := #[iv p1, iv p2, iv p3, iv p4, iv p5, iv (2 : Int32), iv z59_0, iv z61_0, iv z63_0, iv z65_0, rv b67, iv (1 : Int32), iv (0 : Int32), iv (0 : Int32)]) rfl (XS.aload X75.here hx rfl (hb hby at_257) rfl rfl hr)))))))
          show own_G _ p e below s _ _ _ (T75.setTop (mkF m 259 #[iv p1, iv p2, iv p3, iv p4, iv p5, iv (2 : Int32), iv z59_0, iv z61_0, iv z63_0, iv z65_0, rv b67, iv (1 : Int32), iv (0 : Int32), iv (0 : Int32)] [(.ref b67)]))
          obtain ⟨_, _, ⟨T77, L77, k77, n77⟩, -, X77a, hS77a, hg77a, ⟨Lc77, hQ77, l77, y77, z77, H77c⟩, st77⟩ := callSS X75 hx (y := (⟨"com/example/prita/prita/gnss/GnssTime", "carriesTime", "(Ljava/lang/String;)Z"⟩ : MethodName)) hown (mvT hZ (hw _ (List.mem_of_getElem? (i := 27) rfl))) (mvT hZ (hw _ (List.mem_of_getElem? (i := 28) rfl))) (mvT hZ (hw _ (List.mem_of_getElem? (i := 29) rfl))) (mvT hZ (hw _ (List.mem_of_getElem? (i := 30) rfl))) (by decide) (backOfSH (s := s) (vm0 := s.vm) (W := 0) (rm_ct_2 l Z a0 hw [] b67 t75 kt75 z59_0 z61_0 zc T75.heap n0 (Nat.le_trans (Nat.le_trans (Nat.le_trans (Nat.le_trans (Nat.le_trans (Nat.le_trans (Nat.le_trans (Nat.le_trans (Nat.le_trans Z0 K59.1) K61.1) K63.1) K65.1) E67.1) E69.1) (Keep.of_wr W71).1) (Keep.of_wr W73).1) K75.1) P75_0 P75_2 P75_1 P75_3 (((((((((hold.keep K59 all0).keep K61 all0).keep K63 all0).keep K65 all0).ext E67).ext E69).wr W71 g_b69).wr W73 g_b69).keep K75 (allS g_b67 all0)) S_COMPACT_STRINGS (by intro c hc; simp only [List.mem_cons, List.not_mem_nil, or_false] at hc; rcases hc with rfl | rfl; exact P59_0; exact P61_0) hz) hZ (hw _ (List.mem_of_getElem? (i := 30) rfl)) (hw _ (List.mem_of_getElem? (i := 29) rfl)) (by decide) (by decide) hEL C76.1) (g := (mkF m 259 #[iv p1, iv p2, iv p3, iv p4, iv p5, iv (2 : Int32), iv z59_0, iv z61_0, iv z63_0, iv z65_0, rv b67, iv (1 : Int32), iv (0 : Int32), iv (0 : Int32)] [(.ref b67)])) rfl (by rw [hml]; rfl) (argsL := [(.ref b67)]) (rest := []) (lenOf pd__Ljava_lang_String__Z rfl) rfl (by show 2 * 0 + _ ≤ _; exact Nat.le_of_eq rfl) (hb hby at_259) (fun _ _ => ⟨rfl, rfl, (by decide : 7 + 4 ≤ _), (by decide : 40 + 32 ≤ _)⟩)
          dsimp only [Pt.U, Pt.locs, Pt.cells, Pt.slots] at X77a hS77a hg77a l77 y77 z77 st77 hQ77 H77c
          subst l77 y77 z77
          obtain ⟨X77, hS77, hZ, hown⟩ := rebS (s := s) (vm0 := s.vm) (State.WarmedH.since (State.WarmedH.refl s) 0) (Nat.zero_le _) X77a hS77a hg77a hZ hown
          obtain ⟨rfl, N77q, K77⟩ := hQ77
          have C78 := C76.trans H77c
          have S78_b67 := H77c.safe P75_0.lt S76_b67
          have N77 := Fr.app N75 N77q
          refine own_go ?_ (fun target hr => st77.trans (XS.iload X77.here hx rfl (hb hby at_262) rfl (XS.icmpNo X77.here hx rfl (hb hby at_264) rfl (teq (by decide : (0 : Int32) = (0 : Int32))).2 (XS.iconst X77.here hx rfl (hb hby at_267) (XS.goto X77.here hx rfl (pc0 := 268) (pc' := 272) rfl (hb hby at_268) (by decide) (by decide) hr)))))
          show own_G _ p e below s _ _ _ (T77.setTop (mkF m 272 #[iv p1, iv p2, iv p3, iv p4, iv p5, iv (2 : Int32), iv z59_0, iv z61_0, iv z63_0, iv z65_0, rv b67, iv (1 : Int32), iv (0 : Int32), iv (0 : Int32)] [(.int (1 : Int32))]))
          obtain ⟨fs, hr, hrun, hended, hRW⟩ := Stand.leaveW (s := s) (vm₁ := T77.vm) X77 hS77 (Nat.le_refl _) (v := some (.int (1 : Int32))) (fun h => by rw [Bd.returns] at h; cases h)
          have hCe := C78.trans (CHv.at (s := s) (vm0 := T77.vm) X77 hZ hEL C78.1)
          exact ⟨_, _, retN X77 hx (t := .boolean) Bd.returns (by simp) (hb hby at_272) hr, hrun, hended, _, _, rfl, ⟨rfl, N77, trivial⟩, (by rw [hh, show (T77.setFrames fs).heap = T77.heap from rfl]; exact hCe), hRW.1, hRW.2.1, hRW.2.2.1, hRW.2.2.2.mono (by decide) (by decide)⟩
        ·
          refine own_go ?_ (fun target hr => XS.icmpYes X75.here hx rfl (pc0 := 196) (pc' := 203) rfl (hb hby at_196) rfl (feq hc196).2 (by decide) (by decide) (XS.iconst X75.here hx rfl (hb hby at_203) (XS.istore X75.here hx rfl (hb hby at_204) rfl (l' := #[iv p1, iv p2, iv p3, iv p4, iv p5, iv (2 : Int32), iv z59_0, iv z61_0, iv z63_0, iv z65_0, rv b67, iv (0 : Int32), .unset, .unset]) rfl (XS.iload X75.here hx rfl (hb hby at_206) rfl (XS.bipush X75.here hx rfl (hb hby at_208) (XS.icmpYes X75.here hx rfl (pc0 := 210) (pc' := 231) rfl (hb hby at_210) rfl (feq (fun q => absurd (hc182.symm.trans q) (by decide))).2 (by decide) (by decide) (XS.iconst X75.here hx rfl (hb hby at_231) (XS.istore X75.here hx rfl (hb hby at_232) rfl (l' := #[iv p1, iv p2, iv p3, iv p4, iv p5, iv (2 : Int32), iv z59_0, iv z61_0, iv z63_0, iv z65_0, rv b67, iv (0 : Int32), iv (0 : Int32), .unset]) rfl hr))))))))
          show own_G _ p e below s _ _ _ (T75.setTop (mkF m 234 #[iv p1, iv p2, iv p3, iv p4, iv p5, iv (2 : Int32), iv z59_0, iv z61_0, iv z63_0, iv z65_0, rv b67, iv (0 : Int32), iv (0 : Int32), .unset] []))
          refine own_go ?_ (fun target hr => XS.iload X75.here hx rfl (hb hby at_234) rfl (XS.iconst X75.here hx rfl (hb hby at_236) (XS.icmpYes X75.here hx rfl (pc0 := 237) (pc' := 254) rfl (hb hby at_237) rfl (feq (by decide : ¬ ((2 : Int32) = (3 : Int32)))).2 (by decide) (by decide) (XS.iconst X75.here hx rfl (hb hby at_254) (XS.istore X75.here hx rfl (hb hby at_255) rfl (l' := #[iv p1, iv p2, iv p3, iv p4, iv p5, iv (2 : Int32), iv z59_0, iv z61_0, iv z63_0, iv z65_0, rv b67, iv (0 : Int32), iv (0 : Int32), iv (0 : Int32)]) rfl (XS.aload X75.here hx rfl (hb hby at_257) rfl rfl hr))))))
          show own_G _ p e below s _ _ _ (T75.setTop (mkF m 259 #[iv p1, iv p2, iv p3, iv p4, iv p5, iv (2 : Int32), iv z59_0, iv z61_0, iv z63_0, iv z65_0, rv b67, iv (0 : Int32), iv (0 : Int32), iv (0 : Int32)] [(.ref b67)]))
          obtain ⟨_, _, ⟨T79, L79, k79, n79⟩, -, X79a, hS79a, hg79a, ⟨Lc79, hQ79, l79, y79, z79, H79c⟩, st79⟩ := callSS X75 hx (y := (⟨"com/example/prita/prita/gnss/GnssTime", "carriesTime", "(Ljava/lang/String;)Z"⟩ : MethodName)) hown (mvT hZ (hw _ (List.mem_of_getElem? (i := 27) rfl))) (mvT hZ (hw _ (List.mem_of_getElem? (i := 28) rfl))) (mvT hZ (hw _ (List.mem_of_getElem? (i := 29) rfl))) (mvT hZ (hw _ (List.mem_of_getElem? (i := 30) rfl))) (by decide) (backOfSH (s := s) (vm0 := s.vm) (W := 0) (rm_ct_2 l Z a0 hw [] b67 t75 kt75 z59_0 z61_0 zc T75.heap n0 (Nat.le_trans (Nat.le_trans (Nat.le_trans (Nat.le_trans (Nat.le_trans (Nat.le_trans (Nat.le_trans (Nat.le_trans (Nat.le_trans Z0 K59.1) K61.1) K63.1) K65.1) E67.1) E69.1) (Keep.of_wr W71).1) (Keep.of_wr W73).1) K75.1) P75_0 P75_2 P75_1 P75_3 (((((((((hold.keep K59 all0).keep K61 all0).keep K63 all0).keep K65 all0).ext E67).ext E69).wr W71 g_b69).wr W73 g_b69).keep K75 (allS g_b67 all0)) S_COMPACT_STRINGS (by intro c hc; simp only [List.mem_cons, List.not_mem_nil, or_false] at hc; rcases hc with rfl | rfl; exact P59_0; exact P61_0) hz) hZ (hw _ (List.mem_of_getElem? (i := 30) rfl)) (hw _ (List.mem_of_getElem? (i := 29) rfl)) (by decide) (by decide) hEL C76.1) (g := (mkF m 259 #[iv p1, iv p2, iv p3, iv p4, iv p5, iv (2 : Int32), iv z59_0, iv z61_0, iv z63_0, iv z65_0, rv b67, iv (0 : Int32), iv (0 : Int32), iv (0 : Int32)] [(.ref b67)])) rfl (by rw [hml]; rfl) (argsL := [(.ref b67)]) (rest := []) (lenOf pd__Ljava_lang_String__Z rfl) rfl (by show 2 * 0 + _ ≤ _; exact Nat.le_of_eq rfl) (hb hby at_259) (fun _ _ => ⟨rfl, rfl, (by decide : 7 + 4 ≤ _), (by decide : 40 + 32 ≤ _)⟩)
          dsimp only [Pt.U, Pt.locs, Pt.cells, Pt.slots] at X79a hS79a hg79a l79 y79 z79 st79 hQ79 H79c
          subst l79 y79 z79
          obtain ⟨X79, hS79, hZ, hown⟩ := rebS (s := s) (vm0 := s.vm) (State.WarmedH.since (State.WarmedH.refl s) 0) (Nat.zero_le _) X79a hS79a hg79a hZ hown
          obtain ⟨rfl, N79q, K79⟩ := hQ79
          have C80 := C76.trans H79c
          have S80_b67 := H79c.safe P75_0.lt S76_b67
          have N79 := Fr.app N75 N79q
          refine own_go ?_ (fun target hr => st79.trans (XS.iload X79.here hx rfl (hb hby at_262) rfl (XS.icmpNo X79.here hx rfl (hb hby at_264) rfl (teq (by decide : (0 : Int32) = (0 : Int32))).2 (XS.iconst X79.here hx rfl (hb hby at_267) (XS.goto X79.here hx rfl (pc0 := 268) (pc' := 272) rfl (hb hby at_268) (by decide) (by decide) hr)))))
          show own_G _ p e below s _ _ _ (T79.setTop (mkF m 272 #[iv p1, iv p2, iv p3, iv p4, iv p5, iv (2 : Int32), iv z59_0, iv z61_0, iv z63_0, iv z65_0, rv b67, iv (0 : Int32), iv (0 : Int32), iv (0 : Int32)] [(.int (1 : Int32))]))
          obtain ⟨fs, hr, hrun, hended, hRW⟩ := Stand.leaveW (s := s) (vm₁ := T79.vm) X79 hS79 (Nat.le_refl _) (v := some (.int (1 : Int32))) (fun h => by rw [Bd.returns] at h; cases h)
          have hCe := C80.trans (CHv.at (s := s) (vm0 := T79.vm) X79 hZ hEL C80.1)
          exact ⟨_, _, retN X79 hx (t := .boolean) Bd.returns (by simp) (hb hby at_272) hr, hrun, hended, _, _, rfl, ⟨rfl, N79, trivial⟩, (by rw [hh, show (T79.setFrames fs).heap = T79.heap from rfl]; exact hCe), hRW.1, hRW.2.1, hRW.2.2.1, hRW.2.2.2.mono (by decide) (by decide)⟩
      ·
        refine own_go ?_ (fun target hr => XS.icmpYes X75.here hx rfl (pc0 := 189) (pc' := 203) rfl (hb hby at_189) rfl (feq hc189).2 (by decide) (by decide) (XS.iconst X75.here hx rfl (hb hby at_203) (XS.istore X75.here hx rfl (hb hby at_204) rfl (l' := #[iv p1, iv p2, iv p3, iv p4, iv p5, iv (2 : Int32), iv z59_0, iv z61_0, iv z63_0, iv z65_0, rv b67, iv (0 : Int32), .unset, .unset]) rfl (XS.iload X75.here hx rfl (hb hby at_206) rfl (XS.bipush X75.here hx rfl (hb hby at_208) (XS.icmpYes X75.here hx rfl (pc0 := 210) (pc' := 231) rfl (hb hby at_210) rfl (feq (fun q => absurd (hc182.symm.trans q) (by decide))).2 (by decide) (by decide) (XS.iconst X75.here hx rfl (hb hby at_231) (XS.istore X75.here hx rfl (hb hby at_232) rfl (l' := #[iv p1, iv p2, iv p3, iv p4, iv p5, iv (2 : Int32), iv z59_0, iv z61_0, iv z63_0, iv z65_0, rv b67, iv (0 : Int32), iv (0 : Int32), .unset]) rfl hr))))))))
        show own_G _ p e below s _ _ _ (T75.setTop (mkF m 234 #[iv p1, iv p2, iv p3, iv p4, iv p5, iv (2 : Int32), iv z59_0, iv z61_0, iv z63_0, iv z65_0, rv b67, iv (0 : Int32), iv (0 : Int32), .unset] []))
        refine own_go ?_ (fun target hr => XS.iload X75.here hx rfl (hb hby at_234) rfl (XS.iconst X75.here hx rfl (hb hby at_236) (XS.icmpYes X75.here hx rfl (pc0 := 237) (pc' := 254) rfl (hb hby at_237) rfl (feq (by decide : ¬ ((2 : Int32) = (3 : Int32)))).2 (by decide) (by decide) (XS.iconst X75.here hx rfl (hb hby at_254) (XS.istore X75.here hx rfl (hb hby at_255) rfl (l' := #[iv p1, iv p2, iv p3, iv p4, iv p5, iv (2 : Int32), iv z59_0, iv z61_0, iv z63_0, iv z65_0, rv b67, iv (0 : Int32), iv (0 : Int32), iv (0 : Int32)]) rfl (XS.aload X75.here hx rfl (hb hby at_257) rfl rfl hr))))))
        show own_G _ p e below s _ _ _ (T75.setTop (mkF m 259 #[iv p1, iv p2, iv p3, iv p4, iv p5, iv (2 : Int32), iv z59_0, iv z61_0, iv z63_0, iv z65_0, rv b67, iv (0 : Int32), iv (0 : Int32), iv (0 : Int32)] [(.ref b67)]))
        obtain ⟨_, _, ⟨T81, L81, k81, n81⟩, -, X81a, hS81a, hg81a, ⟨Lc81, hQ81, l81, y81, z81, H81c⟩, st81⟩ := callSS X75 hx (y := (⟨"com/example/prita/prita/gnss/GnssTime", "carriesTime", "(Ljava/lang/String;)Z"⟩ : MethodName)) hown (mvT hZ (hw _ (List.mem_of_getElem? (i := 27) rfl))) (mvT hZ (hw _ (List.mem_of_getElem? (i := 28) rfl))) (mvT hZ (hw _ (List.mem_of_getElem? (i := 29) rfl))) (mvT hZ (hw _ (List.mem_of_getElem? (i := 30) rfl))) (by decide) (backOfSH (s := s) (vm0 := s.vm) (W := 0) (rm_ct_2 l Z a0 hw [] b67 t75 kt75 z59_0 z61_0 zc T75.heap n0 (Nat.le_trans (Nat.le_trans (Nat.le_trans (Nat.le_trans (Nat.le_trans (Nat.le_trans (Nat.le_trans (Nat.le_trans (Nat.le_trans Z0 K59.1) K61.1) K63.1) K65.1) E67.1) E69.1) (Keep.of_wr W71).1) (Keep.of_wr W73).1) K75.1) P75_0 P75_2 P75_1 P75_3 (((((((((hold.keep K59 all0).keep K61 all0).keep K63 all0).keep K65 all0).ext E67).ext E69).wr W71 g_b69).wr W73 g_b69).keep K75 (allS g_b67 all0)) S_COMPACT_STRINGS (by intro c hc; simp only [List.mem_cons, List.not_mem_nil, or_false] at hc; rcases hc with rfl | rfl; exact P59_0; exact P61_0) hz) hZ (hw _ (List.mem_of_getElem? (i := 30) rfl)) (hw _ (List.mem_of_getElem? (i := 29) rfl)) (by decide) (by decide) hEL C76.1) (g := (mkF m 259 #[iv p1, iv p2, iv p3, iv p4, iv p5, iv (2 : Int32), iv z59_0, iv z61_0, iv z63_0, iv z65_0, rv b67, iv (0 : Int32), iv (0 : Int32), iv (0 : Int32)] [(.ref b67)])) rfl (by rw [hml]; rfl) (argsL := [(.ref b67)]) (rest := []) (lenOf pd__Ljava_lang_String__Z rfl) rfl (by show 2 * 0 + _ ≤ _; exact Nat.le_of_eq rfl) (hb hby at_259) (fun _ _ => ⟨rfl, rfl, (by decide : 7 + 4 ≤ _), (by decide : 40 + 32 ≤ _)⟩)
        dsimp only [Pt.U, Pt.locs, Pt.cells, Pt.slots] at X81a hS81a hg81a l81 y81 z81 st81 hQ81 H81c
        subst l81 y81 z81
        obtain ⟨X81, hS81, hZ, hown⟩ := rebS (s := s) (vm0 := s.vm) (State.WarmedH.since (State.WarmedH.refl s) 0) (Nat.zero_le _) X81a hS81a hg81a hZ hown
        obtain ⟨rfl, N81q, K81⟩ := hQ81
        have C82 := C76.trans H81c
        have S82_b67 := H81c.safe P75_0.lt S76_b67
        have N81 := Fr.app N75 N81q
        refine own_go ?_ (fun target hr => st81.trans (XS.iload X81.here hx rfl (hb hby at_262) rfl (XS.icmpNo X81.here hx rfl (hb hby at_264) rfl (teq (by decide : (0 : Int32) = (0 : Int32))).2 (XS.iconst X81.here hx rfl (hb hby at_267) (XS.goto X81.here hx rfl (pc0 := 268) (pc' := 272) rfl (hb hby at_268) (by decide) (by decide) hr)))))
        show own_G _ p e below s _ _ _ (T81.setTop (mkF m 272 #[iv p1, iv p2, iv p3, iv p4, iv p5, iv (2 : Int32), iv z59_0, iv z61_0, iv z63_0, iv z65_0, rv b67, iv (0 : Int32), iv (0 : Int32), iv (0 : Int32)] [(.int (1 : Int32))]))
        obtain ⟨fs, hr, hrun, hended, hRW⟩ := Stand.leaveW (s := s) (vm₁ := T81.vm) X81 hS81 (Nat.le_refl _) (v := some (.int (1 : Int32))) (fun h => by rw [Bd.returns] at h; cases h)
        have hCe := C82.trans (CHv.at (s := s) (vm0 := T81.vm) X81 hZ hEL C82.1)
        exact ⟨_, _, retN X81 hx (t := .boolean) Bd.returns (by simp) (hb hby at_272) hr, hrun, hended, _, _, rfl, ⟨rfl, N81, trivial⟩, (by rw [hh, show (T81.setFrames fs).heap = T81.heap from rfl]; exact hCe), hRW.1, hRW.2.1, hRW.2.2.1, hRW.2.2.2.mono (by decide) (by decide)⟩
    ·
      refine own_go ?_ (fun target hr => XS.icmpYes X75.here hx rfl (pc0 := 182) (pc' := 203) rfl (hb hby at_182) rfl (feq hc182).2 (by decide) (by decide) (XS.iconst X75.here hx rfl (hb hby at_203) (XS.istore X75.here hx rfl (hb hby at_204) rfl (l' := #[iv p1, iv p2, iv p3, iv p4, iv p5, iv (2 : Int32), iv z59_0, iv z61_0, iv z63_0, iv z65_0, rv b67, iv (0 : Int32), .unset, .unset]) rfl (XS.iload X75.here hx rfl (hb hby at_206) rfl (XS.bipush X75.here hx rfl (hb hby at_208) hr)))))
      show own_G _ p e below s _ _ _ (T75.setTop (mkF m 210 #[iv p1, iv p2, iv p3, iv p4, iv p5, iv (2 : Int32), iv z59_0, iv z61_0, iv z63_0, iv z65_0, rv b67, iv (0 : Int32), .unset, .unset] [(.int (90 : Int32)), (.int z59_0)]))
      by_cases hc210 : z59_0 = (90 : Int32)
      ·
        refine own_go ?_ (fun target hr => XS.icmpNo X75.here hx rfl (hb hby at_210) rfl (teq hc210).2 (XS.iload X75.here hx rfl (hb hby at_213) rfl (XS.bipush X75.here hx rfl (hb hby at_215) hr)))
        show own_G _ p e below s _ _ _ (T75.setTop (mkF m 217 #[iv p1, iv p2, iv p3, iv p4, iv p5, iv (2 : Int32), iv z59_0, iv z61_0, iv z63_0, iv z65_0, rv b67, iv (0 : Int32), .unset, .unset] [(.int (68 : Int32)), (.int z61_0)]))
        by_cases hc217 : z61_0 = (68 : Int32)
        ·
          refine own_go ?_ (fun target hr => XS.icmpNo X75.here hx rfl (hb hby at_217) rfl (teq hc217).2 (XS.iload X75.here hx rfl (hb hby at_220) rfl (XS.bipush X75.here hx rfl (hb hby at_222) hr)))
          show own_G _ p e below s _ _ _ (T75.setTop (mkF m 224 #[iv p1, iv p2, iv p3, iv p4, iv p5, iv (2 : Int32), iv z59_0, iv z61_0, iv z63_0, iv z65_0, rv b67, iv (0 : Int32), .unset, .unset] [(.int (65 : Int32)), (.int z63_0)]))
          by_cases hc224 : z63_0 = (65 : Int32)
          ·
            refine own_go ?_ (fun target hr => XS.icmpNo X75.here hx rfl (hb hby at_224) rfl (teq hc224).2 (XS.iconst X75.here hx rfl (hb hby at_227) (XS.goto X75.here hx rfl (pc0 := 228) (pc' := 232) rfl (hb hby at_228) (by decide) (by decide) (XS.istore X75.here hx rfl (hb hby at_232) rfl (l' := #[iv p1, iv p2, iv p3, iv p4, iv p5, iv (2 : Int32), iv z59_0, iv z61_0, iv z63_0, iv z65_0, rv b67, iv (0 : Int32), iv (1 : Int32), .unset]) rfl (XS.iload X75.here hx rfl (hb hby at_234) rfl (XS.iconst X75.here hx rfl (hb hby at_236) (XS.icmpYes X75.here hx rfl (pc0 := 237) (pc' := 254) rfl (hb hby at_237) rfl (feq (by decide : ¬ ((2 : Int32) = (3 : Int32)))).2 (by decide) (by decide) (XS.iconst X75.here hx rfl (hb hby at_254) hr))))))))
            show own_G _ p e below s _ _ _ (T75.setTop (mkF m 255 #[iv p1, iv p2, iv p3, iv p4, iv p5, iv (2 : Int32), iv z59_0, iv z61_0, iv z63_0, iv z65_0, rv b67, iv (0 : Int32), iv (1 : Int32), .unset] [(.int (0 : Int32))]))
            refine own_go ?_ (fun target hr => XS.istore X75.here hx rfl (hb hby at_255) rfl (l' := #[iv p1, iv p2, iv p3, iv p4, iv p5, iv (2 : Int32), iv z59_0, iv z61_0, iv z63_0, iv z65_0, rv b67, iv (0 : Int32), iv (1 : Int32), iv (0 : Int32)]) rfl (XS.aload X75.here hx rfl (hb hby at_257) rfl rfl hr))
            show own_G _ p e below s _ _ _ (T75.setTop (mkF m 259 #[iv p1, iv p2, iv p3, iv p4, iv p5, iv (2 : Int32), iv z59_0, iv z61_0, iv z63_0, iv z65_0, rv b67, iv (0 : Int32), iv (1 : Int32), iv (0 : Int32)] [(.ref b67)]))
            obtain ⟨_, _, ⟨T83, L83, k83, n83⟩, -, X83a, hS83a, hg83a, ⟨Lc83, hQ83, l83, y83, z83, H83c⟩, st83⟩ := callSS X75 hx (y := (⟨"com/example/prita/prita/gnss/GnssTime", "carriesTime", "(Ljava/lang/String;)Z"⟩ : MethodName)) hown (mvT hZ (hw _ (List.mem_of_getElem? (i := 27) rfl))) (mvT hZ (hw _ (List.mem_of_getElem? (i := 28) rfl))) (mvT hZ (hw _ (List.mem_of_getElem? (i := 29) rfl))) (mvT hZ (hw _ (List.mem_of_getElem? (i := 30) rfl))) (by decide) (backOfSH (s := s) (vm0 := s.vm) (W := 0) (rm_ct_2 l Z a0 hw [] b67 t75 kt75 z59_0 z61_0 zc T75.heap n0 (Nat.le_trans (Nat.le_trans (Nat.le_trans (Nat.le_trans (Nat.le_trans (Nat.le_trans (Nat.le_trans (Nat.le_trans (Nat.le_trans Z0 K59.1) K61.1) K63.1) K65.1) E67.1) E69.1) (Keep.of_wr W71).1) (Keep.of_wr W73).1) K75.1) P75_0 P75_2 P75_1 P75_3 (((((((((hold.keep K59 all0).keep K61 all0).keep K63 all0).keep K65 all0).ext E67).ext E69).wr W71 g_b69).wr W73 g_b69).keep K75 (allS g_b67 all0)) S_COMPACT_STRINGS (by intro c hc; simp only [List.mem_cons, List.not_mem_nil, or_false] at hc; rcases hc with rfl | rfl; exact P59_0; exact P61_0) hz) hZ (hw _ (List.mem_of_getElem? (i := 30) rfl)) (hw _ (List.mem_of_getElem? (i := 29) rfl)) (by decide) (by decide) hEL C76.1) (g := (mkF m 259 #[iv p1, iv p2, iv p3, iv p4, iv p5, iv (2 : Int32), iv z59_0, iv z61_0, iv z63_0, iv z65_0, rv b67, iv (0 : Int32), iv (1 : Int32), iv (0 : Int32)] [(.ref b67)])) rfl (by rw [hml]; rfl) (argsL := [(.ref b67)]) (rest := []) (lenOf pd__Ljava_lang_String__Z rfl) rfl (by show 2 * 0 + _ ≤ _; exact Nat.le_of_eq rfl) (hb hby at_259) (fun _ _ => ⟨rfl, rfl, (by decide : 7 + 4 ≤ _), (by decide : 40 + 32 ≤ _)⟩)
            dsimp only [Pt.U, Pt.locs, Pt.cells, Pt.slots] at X83a hS83a hg83a l83 y83 z83 st83 hQ83 H83c
            subst l83 y83 z83
            obtain ⟨X83, hS83, hZ, hown⟩ := rebS (s := s) (vm0 := s.vm) (State.WarmedH.since (State.WarmedH.refl s) 0) (Nat.zero_le _) X83a hS83a hg83a hZ hown
            obtain ⟨rfl, N83q, K83⟩ := hQ83
            have C84 := C76.trans H83c
            have S84_b67 := H83c.safe P75_0.lt S76_b67
            have N83 := Fr.app N75 N83q
            refine own_go ?_ (fun target hr => st83.trans (XS.iload X83.here hx rfl (hb hby at_262) rfl (XS.icmpNo X83.here hx rfl (hb hby at_264) rfl (teq (by decide : (0 : Int32) = (0 : Int32))).2 (XS.iconst X83.here hx rfl (hb hby at_267) (XS.goto X83.here hx rfl (pc0 := 268) (pc' := 272) rfl (hb hby at_268) (by decide) (by decide) hr)))))
            show own_G _ p e below s _ _ _ (T83.setTop (mkF m 272 #[iv p1, iv p2, iv p3, iv p4, iv p5, iv (2 : Int32), iv z59_0, iv z61_0, iv z63_0, iv z65_0, rv b67, iv (0 : Int32), iv (1 : Int32), iv (0 : Int32)] [(.int (1 : Int32))]))
            obtain ⟨fs, hr, hrun, hended, hRW⟩ := Stand.leaveW (s := s) (vm₁ := T83.vm) X83 hS83 (Nat.le_refl _) (v := some (.int (1 : Int32))) (fun h => by rw [Bd.returns] at h; cases h)
            have hCe := C84.trans (CHv.at (s := s) (vm0 := T83.vm) X83 hZ hEL C84.1)
            exact ⟨_, _, retN X83 hx (t := .boolean) Bd.returns (by simp) (hb hby at_272) hr, hrun, hended, _, _, rfl, ⟨rfl, N83, trivial⟩, (by rw [hh, show (T83.setFrames fs).heap = T83.heap from rfl]; exact hCe), hRW.1, hRW.2.1, hRW.2.2.1, hRW.2.2.2.mono (by decide) (by decide)⟩
          ·
            refine own_go ?_ (fun target hr => XS.icmpYes X75.here hx rfl (pc0 := 224) (pc' := 231) rfl (hb hby at_224) rfl (feq hc224).2 (by decide) (by decide) (XS.iconst X75.here hx rfl (hb hby at_231) (XS.istore X75.here hx rfl (hb hby at_232) rfl (l' := #[iv p1, iv p2, iv p3, iv p4, iv p5, iv (2 : Int32), iv z59_0, iv z61_0, iv z63_0, iv z65_0, rv b67, iv (0 : Int32), iv (0 : Int32), .unset]) rfl (XS.iload X75.here hx rfl (hb hby at_234) rfl (XS.iconst X75.here hx rfl (hb hby at_236) (XS.icmpYes X75.here hx rfl (pc0 := 237) (pc' := 254) rfl (hb hby at_237) rfl (feq (by decide : ¬ ((2 : Int32) = (3 : Int32)))).2 (by decide) (by decide) (XS.iconst X75.here hx rfl (hb hby at_254) (XS.istore X75.here hx rfl (hb hby at_255) rfl (l' := #[iv p1, iv p2, iv p3, iv p4, iv p5, iv (2 : Int32), iv z59_0, iv z61_0, iv z63_0, iv z65_0, rv b67, iv (0 : Int32), iv (0 : Int32), iv (0 : Int32)]) rfl hr))))))))
            show own_G _ p e below s _ _ _ (T75.setTop (mkF m 257 #[iv p1, iv p2, iv p3, iv p4, iv p5, iv (2 : Int32), iv z59_0, iv z61_0, iv z63_0, iv z65_0, rv b67, iv (0 : Int32), iv (0 : Int32), iv (0 : Int32)] []))
            refine own_go ?_ (fun target hr => XS.aload X75.here hx rfl (hb hby at_257) rfl rfl hr)
            show own_G _ p e below s _ _ _ (T75.setTop (mkF m 259 #[iv p1, iv p2, iv p3, iv p4, iv p5, iv (2 : Int32), iv z59_0, iv z61_0, iv z63_0, iv z65_0, rv b67, iv (0 : Int32), iv (0 : Int32), iv (0 : Int32)] [(.ref b67)]))
            obtain ⟨_, _, ⟨T85, L85, k85, n85⟩, -, X85a, hS85a, hg85a, ⟨Lc85, hQ85, l85, y85, z85, H85c⟩, st85⟩ := callSS X75 hx (y := (⟨"com/example/prita/prita/gnss/GnssTime", "carriesTime", "(Ljava/lang/String;)Z"⟩ : MethodName)) hown (mvT hZ (hw _ (List.mem_of_getElem? (i := 27) rfl))) (mvT hZ (hw _ (List.mem_of_getElem? (i := 28) rfl))) (mvT hZ (hw _ (List.mem_of_getElem? (i := 29) rfl))) (mvT hZ (hw _ (List.mem_of_getElem? (i := 30) rfl))) (by decide) (backOfSH (s := s) (vm0 := s.vm) (W := 0) (rm_ct_2 l Z a0 hw [] b67 t75 kt75 z59_0 z61_0 zc T75.heap n0 (Nat.le_trans (Nat.le_trans (Nat.le_trans (Nat.le_trans (Nat.le_trans (Nat.le_trans (Nat.le_trans (Nat.le_trans (Nat.le_trans Z0 K59.1) K61.1) K63.1) K65.1) E67.1) E69.1) (Keep.of_wr W71).1) (Keep.of_wr W73).1) K75.1) P75_0 P75_2 P75_1 P75_3 (((((((((hold.keep K59 all0).keep K61 all0).keep K63 all0).keep K65 all0).ext E67).ext E69).wr W71 g_b69).wr W73 g_b69).keep K75 (allS g_b67 all0)) S_COMPACT_STRINGS (by intro c hc; simp only [List.mem_cons, List.not_mem_nil, or_false] at hc; rcases hc with rfl | rfl; exact P59_0; exact P61_0) hz) hZ (hw _ (List.mem_of_getElem? (i := 30) rfl)) (hw _ (List.mem_of_getElem? (i := 29) rfl)) (by decide) (by decide) hEL C76.1) (g := (mkF m 259 #[iv p1, iv p2, iv p3, iv p4, iv p5, iv (2 : Int32), iv z59_0, iv z61_0, iv z63_0, iv z65_0, rv b67, iv (0 : Int32), iv (0 : Int32), iv (0 : Int32)] [(.ref b67)])) rfl (by rw [hml]; rfl) (argsL := [(.ref b67)]) (rest := []) (lenOf pd__Ljava_lang_String__Z rfl) rfl (by show 2 * 0 + _ ≤ _; exact Nat.le_of_eq rfl) (hb hby at_259) (fun _ _ => ⟨rfl, rfl, (by decide : 7 + 4 ≤ _), (by decide : 40 + 32 ≤ _)⟩)
            dsimp only [Pt.U, Pt.locs, Pt.cells, Pt.slots] at X85a hS85a hg85a l85 y85 z85 st85 hQ85 H85c
            subst l85 y85 z85
            obtain ⟨X85, hS85, hZ, hown⟩ := rebS (s := s) (vm0 := s.vm) (State.WarmedH.since (State.WarmedH.refl s) 0) (Nat.zero_le _) X85a hS85a hg85a hZ hown
            obtain ⟨rfl, N85q, K85⟩ := hQ85
            have C86 := C76.trans H85c
            have S86_b67 := H85c.safe P75_0.lt S76_b67
            have N85 := Fr.app N75 N85q
            refine own_go ?_ (fun target hr => st85.trans (XS.iload X85.here hx rfl (hb hby at_262) rfl (XS.icmpNo X85.here hx rfl (hb hby at_264) rfl (teq (by decide : (0 : Int32) = (0 : Int32))).2 (XS.iconst X85.here hx rfl (hb hby at_267) (XS.goto X85.here hx rfl (pc0 := 268) (pc' := 272) rfl (hb hby at_268) (by decide) (by decide) hr)))))
            show own_G _ p e below s _ _ _ (T85.setTop (mkF m 272 #[iv p1, iv p2, iv p3, iv p4, iv p5, iv (2 : Int32), iv z59_0, iv z61_0, iv z63_0, iv z65_0, rv b67, iv (0 : Int32), iv (0 : Int32), iv (0 : Int32)] [(.int (1 : Int32))]))
            obtain ⟨fs, hr, hrun, hended, hRW⟩ := Stand.leaveW (s := s) (vm₁ := T85.vm) X85 hS85 (Nat.le_refl _) (v := some (.int (1 : Int32))) (fun h => by rw [Bd.returns] at h; cases h)
            have hCe := C86.trans (CHv.at (s := s) (vm0 := T85.vm) X85 hZ hEL C86.1)
            exact ⟨_, _, retN X85 hx (t := .boolean) Bd.returns (by simp) (hb hby at_272) hr, hrun, hended, _, _, rfl, ⟨rfl, N85, trivial⟩, (by rw [hh, show (T85.setFrames fs).heap = T85.heap from rfl]; exact hCe), hRW.1, hRW.2.1, hRW.2.2.1, hRW.2.2.2.mono (by decide) (by decide)⟩
        ·
          refine own_go ?_ (fun target hr => XS.icmpYes X75.here hx rfl (pc0 := 217) (pc' := 231) rfl (hb hby at_217) rfl (feq hc217).2 (by decide) (by decide) (XS.iconst X75.here hx rfl (hb hby at_231) (XS.istore X75.here hx rfl (hb hby at_232) rfl (l' := #[iv p1, iv p2, iv p3, iv p4, iv p5, iv (2 : Int32), iv z59_0, iv z61_0, iv z63_0, iv z65_0, rv b67, iv (0 : Int32), iv (0 : Int32), .unset]) rfl (XS.iload X75.here hx rfl (hb hby at_234) rfl (XS.iconst X75.here hx rfl (hb hby at_236) (XS.icmpYes X75.here hx rfl (pc0 := 237) (pc' := 254) rfl (hb hby at_237) rfl (feq (by decide : ¬ ((2 : Int32) = (3 : Int32)))).2 (by decide) (by decide) (XS.iconst X75.here hx rfl (hb hby at_254) (XS.istore X75.here hx rfl (hb hby at_255) rfl (l' := #[iv p1, iv p2, iv p3, iv p4, iv p5, iv (2 : Int32), iv z59_0, iv z61_0, iv z63_0, iv z65_0, rv b67, iv (0 : Int32), iv (0 : Int32), iv (0 : Int32)]) rfl hr))))))))
          show own_G _ p e below s _ _ _ (T75.setTop (mkF m 257 #[iv p1, iv p2, iv p3, iv p4, iv p5, iv (2 : Int32), iv z59_0, iv z61_0, iv z63_0, iv z65_0, rv b67, iv (0 : Int32), iv (0 : Int32), iv (0 : Int32)] []))
          refine own_go ?_ (fun target hr => XS.aload X75.here hx rfl (hb hby at_257) rfl rfl hr)
          show own_G _ p e below s _ _ _ (T75.setTop (mkF m 259 #[iv p1, iv p2, iv p3, iv p4, iv p5, iv (2 : Int32), iv z59_0, iv z61_0, iv z63_0, iv z65_0, rv b67, iv (0 : Int32), iv (0 : Int32), iv (0 : Int32)] [(.ref b67)]))
          obtain ⟨_, _, ⟨T87, L87, k87, n87⟩, -, X87a, hS87a, hg87a, ⟨Lc87, hQ87, l87, y87, z87, H87c⟩, st87⟩ := callSS X75 hx (y := (⟨"com/example/prita/prita/gnss/GnssTime", "carriesTime", "(Ljava/lang/String;)Z"⟩ : MethodName)) hown (mvT hZ (hw _ (List.mem_of_getElem? (i := 27) rfl))) (mvT hZ (hw _ (List.mem_of_getElem? (i := 28) rfl))) (mvT hZ (hw _ (List.mem_of_getElem? (i := 29) rfl))) (mvT hZ (hw _ (List.mem_of_getElem? (i := 30) rfl))) (by decide) (backOfSH (s := s) (vm0 := s.vm) (W := 0) (rm_ct_2 l Z a0 hw [] b67 t75 kt75 z59_0 z61_0 zc T75.heap n0 (Nat.le_trans (Nat.le_trans (Nat.le_trans (Nat.le_trans (Nat.le_trans (Nat.le_trans (Nat.le_trans (Nat.le_trans (Nat.le_trans Z0 K59.1) K61.1) K63.1) K65.1) E67.1) E69.1) (Keep.of_wr W71).1) (Keep.of_wr W73).1) K75.1) P75_0 P75_2 P75_1 P75_3 (((((((((hold.keep K59 all0).keep K61 all0).keep K63 all0).keep K65 all0).ext E67).ext E69).wr W71 g_b69).wr W73 g_b69).keep K75 (allS g_b67 all0)) S_COMPACT_STRINGS (by intro c hc; simp only [List.mem_cons, List.not_mem_nil, or_false] at hc; rcases hc with rfl | rfl; exact P59_0; exact P61_0) hz) hZ (hw _ (List.mem_of_getElem? (i := 30) rfl)) (hw _ (List.mem_of_getElem? (i := 29) rfl)) (by decide) (by decide) hEL C76.1) (g := (mkF m 259 #[iv p1, iv p2, iv p3, iv p4, iv p5, iv (2 : Int32), iv z59_0, iv z61_0, iv z63_0, iv z65_0, rv b67, iv (0 : Int32), iv (0 : Int32), iv (0 : Int32)] [(.ref b67)])) rfl (by rw [hml]; rfl) (argsL := [(.ref b67)]) (rest := []) (lenOf pd__Ljava_lang_String__Z rfl) rfl (by show 2 * 0 + _ ≤ _; exact Nat.le_of_eq rfl) (hb hby at_259) (fun _ _ => ⟨rfl, rfl, (by decide : 7 + 4 ≤ _), (by decide : 40 + 32 ≤ _)⟩)
          dsimp only [Pt.U, Pt.locs, Pt.cells, Pt.slots] at X87a hS87a hg87a l87 y87 z87 st87 hQ87 H87c
          subst l87 y87 z87
          obtain ⟨X87, hS87, hZ, hown⟩ := rebS (s := s) (vm0 := s.vm) (State.WarmedH.since (State.WarmedH.refl s) 0) (Nat.zero_le _) X87a hS87a hg87a hZ hown
          obtain ⟨rfl, N87q, K87⟩ := hQ87
          have C88 := C76.trans H87c
          have S88_b67 := H87c.safe P75_0.lt S76_b67
          have N87 := Fr.app N75 N87q
          refine own_go ?_ (fun target hr => st87.trans (XS.iload X87.here hx rfl (hb hby at_262) rfl (XS.icmpNo X87.here hx rfl (hb hby at_264) rfl (teq (by decide : (0 : Int32) = (0 : Int32))).2 (XS.iconst X87.here hx rfl (hb hby at_267) (XS.goto X87.here hx rfl (pc0 := 268) (pc' := 272) rfl (hb hby at_268) (by decide) (by decide) hr)))))
          show own_G _ p e below s _ _ _ (T87.setTop (mkF m 272 #[iv p1, iv p2, iv p3, iv p4, iv p5, iv (2 : Int32), iv z59_0, iv z61_0, iv z63_0, iv z65_0, rv b67, iv (0 : Int32), iv (0 : Int32), iv (0 : Int32)] [(.int (1 : Int32))]))
          obtain ⟨fs, hr, hrun, hended, hRW⟩ := Stand.leaveW (s := s) (vm₁ := T87.vm) X87 hS87 (Nat.le_refl _) (v := some (.int (1 : Int32))) (fun h => by rw [Bd.returns] at h; cases h)
          have hCe := C88.trans (CHv.at (s := s) (vm0 := T87.vm) X87 hZ hEL C88.1)
          exact ⟨_, _, retN X87 hx (t := .boolean) Bd.returns (by simp) (hb hby at_272) hr, hrun, hended, _, _, rfl, ⟨rfl, N87, trivial⟩, (by rw [hh, show (T87.setFrames fs).heap = T87.heap from rfl]; exact hCe), hRW.1, hRW.2.1, hRW.2.2.1, hRW.2.2.2.mono (by decide) (by decide)⟩
      ·
        refine own_go ?_ (fun target hr => XS.icmpYes X75.here hx rfl (pc0 := 210) (pc' := 231) rfl (hb hby at_210) rfl (feq hc210).2 (by decide) (by decide) (XS.iconst X75.here hx rfl (hb hby at_231) (XS.istore X75.here hx rfl (hb hby at_232) rfl (l' := #[iv p1, iv p2, iv p3, iv p4, iv p5, iv (2 : Int32), iv z59_0, iv z61_0, iv z63_0, iv z65_0, rv b67, iv (0 : Int32), iv (0 : Int32), .unset]) rfl (XS.iload X75.here hx rfl (hb hby at_234) rfl (XS.iconst X75.here hx rfl (hb hby at_236) (XS.icmpYes X75.here hx rfl (pc0 := 237) (pc' := 254) rfl (hb hby at_237) rfl (feq (by decide : ¬ ((2 : Int32) = (3 : Int32)))).2 (by decide) (by decide) (XS.iconst X75.here hx rfl (hb hby at_254) (XS.istore X75.here hx rfl (hb hby at_255) rfl (l' := #[iv p1, iv p2, iv p3, iv p4, iv p5, iv (2 : Int32), iv z59_0, iv z61_0, iv z63_0, iv z65_0, rv b67, iv (0 : Int32), iv (0 : Int32), iv (0 : Int32)]) rfl hr))))))))
        show own_G _ p e below s _ _ _ (T75.setTop (mkF m 257 #[iv p1, iv p2, iv p3, iv p4, iv p5, iv (2 : Int32), iv z59_0, iv z61_0, iv z63_0, iv z65_0, rv b67, iv (0 : Int32), iv (0 : Int32), iv (0 : Int32)] []))
        refine own_go ?_ (fun target hr => XS.aload X75.here hx rfl (hb hby at_257) rfl rfl hr)
        show own_G _ p e below s _ _ _ (T75.setTop (mkF m 259 #[iv p1, iv p2, iv p3, iv p4, iv p5, iv (2 : Int32), iv z59_0, iv z61_0, iv z63_0, iv z65_0, rv b67, iv (0 : Int32), iv (0 : Int32), iv (0 : Int32)] [(.ref b67)]))
        obtain ⟨_, _, ⟨T89, L89, k89, n89⟩, -, X89a, hS89a, hg89a, ⟨Lc89, hQ89, l89, y89, z89, H89c⟩, st89⟩ := callSS X75 hx (y := (⟨"com/example/prita/prita/gnss/GnssTime", "carriesTime", "(Ljava/lang/String;)Z"⟩ : MethodName)) hown (mvT hZ (hw _ (List.mem_of_getElem? (i := 27) rfl))) (mvT hZ (hw _ (List.mem_of_getElem? (i := 28) rfl))) (mvT hZ (hw _ (List.mem_of_getElem? (i := 29) rfl))) (mvT hZ (hw _ (List.mem_of_getElem? (i := 30) rfl))) (by decide) (backOfSH (s := s) (vm0 := s.vm) (W := 0) (rm_ct_2 l Z a0 hw [] b67 t75 kt75 z59_0 z61_0 zc T75.heap n0 (Nat.le_trans (Nat.le_trans (Nat.le_trans (Nat.le_trans (Nat.le_trans (Nat.le_trans (Nat.le_trans (Nat.le_trans (Nat.le_trans Z0 K59.1) K61.1) K63.1) K65.1) E67.1) E69.1) (Keep.of_wr W71).1) (Keep.of_wr W73).1) K75.1) P75_0 P75_2 P75_1 P75_3 (((((((((hold.keep K59 all0).keep K61 all0).keep K63 all0).keep K65 all0).ext E67).ext E69).wr W71 g_b69).wr W73 g_b69).keep K75 (allS g_b67 all0)) S_COMPACT_STRINGS (by intro c hc; simp only [List.mem_cons, List.not_mem_nil, or_false] at hc; rcases hc with rfl | rfl; exact P59_0; exact P61_0) hz) hZ (hw _ (List.mem_of_getElem? (i := 30) rfl)) (hw _ (List.mem_of_getElem? (i := 29) rfl)) (by decide) (by decide) hEL C76.1) (g := (mkF m 259 #[iv p1, iv p2, iv p3, iv p4, iv p5, iv (2 : Int32), iv z59_0, iv z61_0, iv z63_0, iv z65_0, rv b67, iv (0 : Int32), iv (0 : Int32), iv (0 : Int32)] [(.ref b67)])) rfl (by rw [hml]; rfl) (argsL := [(.ref b67)]) (rest := []) (lenOf pd__Ljava_lang_String__Z rfl) rfl (by show 2 * 0 + _ ≤ _; exact Nat.le_of_eq rfl) (hb hby at_259) (fun _ _ => ⟨rfl, rfl, (by decide : 7 + 4 ≤ _), (by decide : 40 + 32 ≤ _)⟩)
        dsimp only [Pt.U, Pt.locs, Pt.cells, Pt.slots] at X89a hS89a hg89a l89 y89 z89 st89 hQ89 H89c
        subst l89 y89 z89
        obtain ⟨X89, hS89, hZ, hown⟩ := rebS (s := s) (vm0 := s.vm) (State.WarmedH.since (State.WarmedH.refl s) 0) (Nat.zero_le _) X89a hS89a hg89a hZ hown
        obtain ⟨rfl, N89q, K89⟩ := hQ89
        have C90 := C76.trans H89c
        have S90_b67 := H89c.safe P75_0.lt S76_b67
        have N89 := Fr.app N75 N89q
        refine own_go ?_ (fun target hr => st89.trans (XS.iload X89.here hx rfl (hb hby at_262) rfl (XS.icmpNo X89.here hx rfl (hb hby at_264) rfl (teq (by decide : (0 : Int32) = (0 : Int32))).2 (XS.iconst X89.here hx rfl (hb hby at_267) (XS.goto X89.here hx rfl (pc0 := 268) (pc' := 272) rfl (hb hby at_268) (by decide) (by decide) hr)))))
        show own_G _ p e below s _ _ _ (T89.setTop (mkF m 272 #[iv p1, iv p2, iv p3, iv p4, iv p5, iv (2 : Int32), iv z59_0, iv z61_0, iv z63_0, iv z65_0, rv b67, iv (0 : Int32), iv (0 : Int32), iv (0 : Int32)] [(.int (1 : Int32))]))
        obtain ⟨fs, hr, hrun, hended, hRW⟩ := Stand.leaveW (s := s) (vm₁ := T89.vm) X89 hS89 (Nat.le_refl _) (v := some (.int (1 : Int32))) (fun h => by rw [Bd.returns] at h; cases h)
        have hCe := C90.trans (CHv.at (s := s) (vm0 := T89.vm) X89 hZ hEL C90.1)
        exact ⟨_, _, retN X89 hx (t := .boolean) Bd.returns (by simp) (hb hby at_272) hr, hrun, hended, _, _, rfl, ⟨rfl, N89, trivial⟩, (by rw [hh, show (T89.setFrames fs).heap = T89.heap from rfl]; exact hCe), hRW.1, hRW.2.1, hRW.2.2.1, hRW.2.2.2.mono (by decide) (by decide)⟩
  ·
    rw [hs6_3]
    show own_G _ p e below s _ _ _ (s₁.setTop (mkF m 6 #[iv p1, iv p2, iv p3, iv p4, iv p5, .unset, .unset, .unset, .unset, .unset, .unset, .unset, .unset, .unset] [(.int (3 : Int32))]))
    refine own_go ?_ (fun target hr => XS.istore X0.here hx rfl (hb hby at_6) rfl (l' := #[iv p1, iv p2, iv p3, iv p4, iv p5, iv (3 : Int32), .unset, .unset, .unset, .unset, .unset, .unset, .unset, .unset]) rfl (XS.iloadN X0.here hx rfl (hb hby at_8) rfl hr))
    show own_G _ p e below s _ _ _ (s₁.setTop (mkF m 9 #[iv p1, iv p2, iv p3, iv p4, iv p5, iv (3 : Int32), .unset, .unset, .unset, .unset, .unset, .unset, .unset, .unset] [(.int p2)]))
    obtain ⟨_, _, ⟨T91, L91, k91, n91⟩, -, X91, ⟨Lc91, hQ91, l91, y91, z91⟩, st91⟩ := Jvm.LawKit.callS X0 hx (y := (⟨"com/example/prita/prita/gnss/GnssTimeCarriesTimePinLaw", "pick", "(I)C"⟩ : MethodName)) hown (mvT hZ (hw _ (List.mem_of_getElem? (i := 1) rfl))) (mvT hZ (hw _ (List.mem_of_getElem? (i := 2) rfl))) (mvT hZ (hw _ (List.mem_of_getElem? (i := 3) rfl))) (mvT hZ (hw _ (List.mem_of_getElem? (i := 4) rfl))) (by decide) (backOf (W := 0) (rm1 l Z a0 hw [] p2 h0 n0 Z0 ) hZ (hw _ (List.mem_of_getElem? (i := 4) rfl)) (hw _ (List.mem_of_getElem? (i := 3) rfl)) (by decide) (by decide)) (g := (mkF m 9 #[iv p1, iv p2, iv p3, iv p4, iv p5, iv (3 : Int32), .unset, .unset, .unset, .unset, .unset, .unset, .unset, .unset] [(.int p2)])) rfl (by rw [hml]; rfl) (argsL := [(.int p2)]) (rest := []) (lenOf pd__I_C rfl) rfl (by show 2 * 0 + _ ≤ _; exact Nat.le_of_eq rfl) (hb hby at_9) (fun _ _ => ⟨rfl, e0, (by decide : 0 + 1 ≤ _), (by decide : 0 + 8 ≤ _)⟩)
    dsimp only [Pt.U, Pt.locs, Pt.cells, Pt.slots] at X91 l91 y91 z91 st91 hQ91
    subst l91 y91 z91
    obtain ⟨z91_0, rfl, N91q, K91, P91_0⟩ := hQ91
    have C92 := hC0.trans (CHr.keep K91 all0 hC0.1)
    have N91 := Fr.app N0 N91q
    refine own_go ?_ (fun target hr => st91 _ (XS.istore X91.here hx rfl (hb hby at_12) rfl (l' := #[iv p1, iv p2, iv p3, iv p4, iv p5, iv (3 : Int32), iv z91_0, .unset, .unset, .unset, .unset, .unset, .unset, .unset]) rfl (XS.iloadN X91.here hx rfl (hb hby at_14) rfl hr)))
    show own_G _ p e below s _ _ _ (T91.setTop (mkF m 15 #[iv p1, iv p2, iv p3, iv p4, iv p5, iv (3 : Int32), iv z91_0, .unset, .unset, .unset, .unset, .unset, .unset, .unset] [(.int p3)]))
    obtain ⟨_, _, ⟨T93, L93, k93, n93⟩, -, X93, ⟨Lc93, hQ93, l93, y93, z93⟩, st93⟩ := Jvm.LawKit.callS X91 hx (y := (⟨"com/example/prita/prita/gnss/GnssTimeCarriesTimePinLaw", "pick", "(I)C"⟩ : MethodName)) hown (mvT hZ (hw _ (List.mem_of_getElem? (i := 1) rfl))) (mvT hZ (hw _ (List.mem_of_getElem? (i := 2) rfl))) (mvT hZ (hw _ (List.mem_of_getElem? (i := 3) rfl))) (mvT hZ (hw _ (List.mem_of_getElem? (i := 4) rfl))) (by decide) (backOf (W := 0) (rm1 l Z a0 hw [] p3 T91.heap n0 (Nat.le_trans Z0 K91.1) ) hZ (hw _ (List.mem_of_getElem? (i := 4) rfl)) (hw _ (List.mem_of_getElem? (i := 3) rfl)) (by decide) (by decide)) (g := (mkF m 15 #[iv p1, iv p2, iv p3, iv p4, iv p5, iv (3 : Int32), iv z91_0, .unset, .unset, .unset, .unset, .unset, .unset, .unset] [(.int p3)])) rfl (by rw [hml]; rfl) (argsL := [(.int p3)]) (rest := []) (lenOf pd__I_C rfl) rfl (by show 2 * 0 + _ ≤ _; exact Nat.le_of_eq rfl) (hb hby at_15) (fun _ _ => ⟨rfl, rfl, (by decide : 1 + 1 ≤ _), (by decide : 8 + 8 ≤ _)⟩)
    dsimp only [Pt.U, Pt.locs, Pt.cells, Pt.slots] at X93 l93 y93 z93 st93 hQ93
    subst l93 y93 z93
    obtain ⟨z93_0, rfl, N93q, K93, P93_0⟩ := hQ93
    have C94 := C92.trans (CHr.keep K93 all0 C92.1)
    have N93 := Fr.app N91 N93q
    refine own_go ?_ (fun target hr => st93 _ (XS.istore X93.here hx rfl (hb hby at_18) rfl (l' := #[iv p1, iv p2, iv p3, iv p4, iv p5, iv (3 : Int32), iv z91_0, iv z93_0, .unset, .unset, .unset, .unset, .unset, .unset]) rfl (XS.iloadN X93.here hx rfl (hb hby at_20) rfl hr)))
    show own_G _ p e below s _ _ _ (T93.setTop (mkF m 21 #[iv p1, iv p2, iv p3, iv p4, iv p5, iv (3 : Int32), iv z91_0, iv z93_0, .unset, .unset, .unset, .unset, .unset, .unset] [(.int p4)]))
    obtain ⟨_, _, ⟨T95, L95, k95, n95⟩, -, X95, ⟨Lc95, hQ95, l95, y95, z95⟩, st95⟩ := Jvm.LawKit.callS X93 hx (y := (⟨"com/example/prita/prita/gnss/GnssTimeCarriesTimePinLaw", "pick", "(I)C"⟩ : MethodName)) hown (mvT hZ (hw _ (List.mem_of_getElem? (i := 1) rfl))) (mvT hZ (hw _ (List.mem_of_getElem? (i := 2) rfl))) (mvT hZ (hw _ (List.mem_of_getElem? (i := 3) rfl))) (mvT hZ (hw _ (List.mem_of_getElem? (i := 4) rfl))) (by decide) (backOf (W := 0) (rm1 l Z a0 hw [] p4 T93.heap n0 (Nat.le_trans (Nat.le_trans Z0 K91.1) K93.1) ) hZ (hw _ (List.mem_of_getElem? (i := 4) rfl)) (hw _ (List.mem_of_getElem? (i := 3) rfl)) (by decide) (by decide)) (g := (mkF m 21 #[iv p1, iv p2, iv p3, iv p4, iv p5, iv (3 : Int32), iv z91_0, iv z93_0, .unset, .unset, .unset, .unset, .unset, .unset] [(.int p4)])) rfl (by rw [hml]; rfl) (argsL := [(.int p4)]) (rest := []) (lenOf pd__I_C rfl) rfl (by show 2 * 0 + _ ≤ _; exact Nat.le_of_eq rfl) (hb hby at_21) (fun _ _ => ⟨rfl, rfl, (by decide : 2 + 1 ≤ _), (by decide : 16 + 8 ≤ _)⟩)
    dsimp only [Pt.U, Pt.locs, Pt.cells, Pt.slots] at X95 l95 y95 z95 st95 hQ95
    subst l95 y95 z95
    obtain ⟨z95_0, rfl, N95q, K95, P95_0⟩ := hQ95
    have C96 := C94.trans (CHr.keep K95 all0 C94.1)
    have N95 := Fr.app N93 N95q
    refine own_go ?_ (fun target hr => st95 _ (XS.istore X95.here hx rfl (hb hby at_24) rfl (l' := #[iv p1, iv p2, iv p3, iv p4, iv p5, iv (3 : Int32), iv z91_0, iv z93_0, iv z95_0, .unset, .unset, .unset, .unset, .unset]) rfl (XS.iload X95.here hx rfl (hb hby at_26) rfl hr)))
    show own_G _ p e below s _ _ _ (T95.setTop (mkF m 28 #[iv p1, iv p2, iv p3, iv p4, iv p5, iv (3 : Int32), iv z91_0, iv z93_0, iv z95_0, .unset, .unset, .unset, .unset, .unset] [(.int p5)]))
    obtain ⟨_, _, ⟨T97, L97, k97, n97⟩, -, X97, ⟨Lc97, hQ97, l97, y97, z97⟩, st97⟩ := Jvm.LawKit.callS X95 hx (y := (⟨"com/example/prita/prita/gnss/GnssTimeCarriesTimePinLaw", "pick", "(I)C"⟩ : MethodName)) hown (mvT hZ (hw _ (List.mem_of_getElem? (i := 1) rfl))) (mvT hZ (hw _ (List.mem_of_getElem? (i := 2) rfl))) (mvT hZ (hw _ (List.mem_of_getElem? (i := 3) rfl))) (mvT hZ (hw _ (List.mem_of_getElem? (i := 4) rfl))) (by decide) (backOf (W := 0) (rm1 l Z a0 hw [] p5 T95.heap n0 (Nat.le_trans (Nat.le_trans (Nat.le_trans Z0 K91.1) K93.1) K95.1) ) hZ (hw _ (List.mem_of_getElem? (i := 4) rfl)) (hw _ (List.mem_of_getElem? (i := 3) rfl)) (by decide) (by decide)) (g := (mkF m 28 #[iv p1, iv p2, iv p3, iv p4, iv p5, iv (3 : Int32), iv z91_0, iv z93_0, iv z95_0, .unset, .unset, .unset, .unset, .unset] [(.int p5)])) rfl (by rw [hml]; rfl) (argsL := [(.int p5)]) (rest := []) (lenOf pd__I_C rfl) rfl (by show 2 * 0 + _ ≤ _; exact Nat.le_of_eq rfl) (hb hby at_28) (fun _ _ => ⟨rfl, rfl, (by decide : 3 + 1 ≤ _), (by decide : 24 + 8 ≤ _)⟩)
    dsimp only [Pt.U, Pt.locs, Pt.cells, Pt.slots] at X97 l97 y97 z97 st97 hQ97
    subst l97 y97 z97
    obtain ⟨z97_0, rfl, N97q, K97, P97_0⟩ := hQ97
    have C98 := C96.trans (CHr.keep K97 all0 C96.1)
    have N97 := Fr.app N95 N97q
    refine own_go ?_ (fun target hr => st97 _ (XS.istore X97.here hx rfl (hb hby at_31) rfl (l' := #[iv p1, iv p2, iv p3, iv p4, iv p5, iv (3 : Int32), iv z91_0, iv z93_0, iv z95_0, iv z97_0, .unset, .unset, .unset, .unset]) rfl (XS.iload X97.here hx rfl (hb hby at_33) rfl (XS.ifYes X97.here hx rfl (pc0 := 35) (pc' := 53) rfl (hb hby at_35) rfl ((if0 _ _).trans (feq (by decide : ¬ ((3 : Int32) = (0 : Int32)))).2) (by decide) (by decide) (XS.iload X97.here hx rfl (hb hby at_53) rfl (XS.iconst X97.here hx rfl (hb hby at_55) (XS.icmpYes X97.here hx rfl (pc0 := 56) (pc' := 79) rfl (hb hby at_56) rfl (feq (by decide : ¬ ((3 : Int32) = (1 : Int32)))).2 (by decide) (by decide) (XS.iload X97.here hx rfl (hb hby at_79) rfl hr))))))))
    show own_G _ p e below s _ _ _ (T97.setTop (mkF m 81 #[iv p1, iv p2, iv p3, iv p4, iv p5, iv (3 : Int32), iv z91_0, iv z93_0, iv z95_0, iv z97_0, .unset, .unset, .unset, .unset] [(.int (3 : Int32))]))
    refine own_go ?_ (fun target hr => XS.iconst X97.here hx rfl (hb hby at_81) (XS.icmpYes X97.here hx rfl (pc0 := 82) (pc' := 110) rfl (hb hby at_82) rfl (feq (by decide : ¬ ((3 : Int32) = (2 : Int32)))).2 (by decide) (by decide) (XS.iload X97.here hx rfl (hb hby at_110) rfl (XS.iconst X97.here hx rfl (hb hby at_112) (XS.icmpNo X97.here hx rfl (hb hby at_113) rfl (teq (by decide : (3 : Int32) = (3 : Int32))).2 hr)))))
    show own_G _ p e below s _ _ _ (T97.setTop (mkF m 116 #[iv p1, iv p2, iv p3, iv p4, iv p5, iv (3 : Int32), iv z91_0, iv z93_0, iv z95_0, iv z97_0, .unset, .unset, .unset, .unset] []))
    obtain ⟨T99, h99, X99, e99, E99, A99, D99, -, st99⟩ := newO X97 hx hZ hown (hw _ (List.mem_of_getElem? (i := 6) rfl)) (hw _ (List.mem_of_getElem? (i := 7) rfl)) (hw _ (List.mem_of_getElem? (i := 8) rfl)) rfl (g := (mkF m 116 #[iv p1, iv p2, iv p3, iv p4, iv p5, iv (3 : Int32), iv z91_0, iv z93_0, iv z95_0, iv z97_0, .unset, .unset, .unset, .unset] [])) rfl (hb hby at_116) (by decide) (by decide)
    obtain ⟨b99, g99⟩ : ∃ z, z = T97.heap.size := ⟨_, rfl⟩
    rw [← g99] at A99 D99 st99
    have g_b99 : n0 ≤ b99 := Nat.le_trans (Nat.le_trans (Nat.le_trans (Nat.le_trans (Nat.le_trans Z0 K91.1) K93.1) K95.1) K97.1) (Nat.le_of_eq g99.symm)
    have S0_b99 : Safe Z consts_1 s.vm T97.heap b99 := Safe.new (Nat.le_of_eq g99.symm)
    have C100 := C98.trans (CHr.ext E99 C98.1)
    have S100_b99 := Safe.ext E99 C98.1 S0_b99
    have F99_21 : Fld Z h99 b99 "java/lang/String" "value" "[B" .null := D99 (Or.inr (hw _ (List.mem_of_getElem? (i := 21) rfl))) (ty := (.array .byte)) (by decide)
    have F99_22 : Fld Z h99 b99 "java/lang/String" "coder" "B" (.int (0 : Int32)) := D99 (Or.inr (hw _ (List.mem_of_getElem? (i := 22) rfl))) (ty := .byte) (by decide)
    refine own_go ?_ (fun target hr => st99 _ (XS.dup X99.here hx rfl (hb hby at_119) rfl rfl (XS.iconst X99.here hx rfl (hb hby at_120) hr)))
    show own_G _ p e below s _ _ _ (T99.setTop (mkF m 121 #[iv p1, iv p2, iv p3, iv p4, iv p5, iv (3 : Int32), iv z91_0, iv z93_0, iv z95_0, iv z97_0, .unset, .unset, .unset, .unset] [(.int (3 : Int32)), (.ref b99), (.ref b99)]))
    obtain ⟨T101, h101, k101, X101, e101, E101, A101, st101⟩ := newP X99 hx hZ (hw _ (List.mem_of_getElem? (i := 5) rfl)) e99 (g := (mkF m 121 #[iv p1, iv p2, iv p3, iv p4, iv p5, iv (3 : Int32), iv z91_0, iv z93_0, iv z95_0, iv z97_0, .unset, .unset, .unset, .unset] [(.int (3 : Int32)), (.ref b99), (.ref b99)])) rfl (hb hby at_121) rfl (by decide) (cap := 3) (by decide) (by decide) (by decide) (by decide)
    obtain ⟨b101, g101⟩ : ∃ z, z = h99.size := ⟨_, rfl⟩
    rw [← g101] at A101 st101
    have V101 : Arv Z h101 b101 k101 .char (3 : Int32) [(.int (0 : Int32)), (.int (0 : Int32)), (.int (0 : Int32))] (.int (0 : Int32)) := (Arv.new A101 (by decide)).pad (pad_rep [] (.int (0 : Int32)) 3)
    have g_b101 : n0 ≤ b101 := Nat.le_trans (Nat.le_trans (Nat.le_trans (Nat.le_trans (Nat.le_trans (Nat.le_trans Z0 K91.1) K93.1) K95.1) K97.1) E99.1) (Nat.le_of_eq g101.symm)
    have C102 := C100.trans (CHr.ext E101 C100.1)
    have S102_b99 := Safe.ext E101 C100.1 S100_b99
    refine own_go ?_ (fun target hr => st101 _ (XS.dup X101.here hx rfl (hb hby at_123) rfl rfl (XS.iconst X101.here hx rfl (hb hby at_124) (XS.iload X101.here hx rfl (hb hby at_125) rfl hr))))
    show own_G _ p e below s _ _ _ (T101.setTop (mkF m 127 #[iv p1, iv p2, iv p3, iv p4, iv p5, iv (3 : Int32), iv z91_0, iv z93_0, iv z95_0, iv z97_0, .unset, .unset, .unset, .unset] [(.int z91_0), (.int (0 : Int32)), (.ref b101), (.ref b101), (.ref b99), (.ref b99)]))
    obtain ⟨cl103, Ar103, qk103, S103, M103, H103, G103⟩ := id V101
    have hin103 : ¬ ((0 : Int32) < 0 ∨ cl103.slots.size ≤ ((0 : Int32)).toNatClampNeg) := inb_of S103 ⟨by decide, by decide⟩
    obtain ⟨T103, h103, X103, e103, W103, st103⟩ := stC X101 hx hZ e101 Ar103 (j := (0 : Int32)) hin103 (g := (mkF m 127 #[iv p1, iv p2, iv p3, iv p4, iv p5, iv (3 : Int32), iv z91_0, iv z93_0, iv z95_0, iv z97_0, .unset, .unset, .unset, .unset] [(.int z91_0), (.int (0 : Int32)), (.ref b101), (.ref b101), (.ref b99), (.ref b99)])) rfl rfl (hb hby at_127)
    rw [own_nar P91_0] at W103
    have V103 : Arv Z h103 b101 k101 .char (3 : Int32) [(.int z91_0), (.int (0 : Int32)), (.int (0 : Int32))] (.int (0 : Int32)) := Arv.set Ar103 qk103 S103 M103 H103 G103 (own_fitc P91_0) W103 0 rfl (Nat.le_of_ble_eq_true rfl)
    have N103 := Fr.snoc X103 N97 g_b101
    have C104 := C102.trans (CHr.wr W103 (own_safeV hZ.alike V101 (by decide)) C102.1)
    have S104_b99 := Safe.wr W103 (own_safeV hZ.alike V101 (by decide)) C102.1 S102_b99
    refine own_go ?_ (fun target hr => st103 _ (XS.dup X103.here hx rfl (hb hby at_128) rfl rfl (XS.iconst X103.here hx rfl (hb hby at_129) (XS.iload X103.here hx rfl (hb hby at_130) rfl hr))))
    show own_G _ p e below s _ _ _ (T103.setTop (mkF m 132 #[iv p1, iv p2, iv p3, iv p4, iv p5, iv (3 : Int32), iv z91_0, iv z93_0, iv z95_0, iv z97_0, .unset, .unset, .unset, .unset] [(.int z93_0), (.int (1 : Int32)), (.ref b101), (.ref b101), (.ref b99), (.ref b99)]))
    obtain ⟨cl105, Ar105, qk105, S105, M105, H105, G105⟩ := id V103
    have hin105 : ¬ ((1 : Int32) < 0 ∨ cl105.slots.size ≤ ((1 : Int32)).toNatClampNeg) := inb_of S105 ⟨by decide, by decide⟩
    obtain ⟨T105, h105, X105, e105, W105, st105⟩ := stC X103 hx hZ e103 Ar105 (j := (1 : Int32)) hin105 (g := (mkF m 132 #[iv p1, iv p2, iv p3, iv p4, iv p5, iv (3 : Int32), iv z91_0, iv z93_0, iv z95_0, iv z97_0, .unset, .unset, .unset, .unset] [(.int z93_0), (.int (1 : Int32)), (.ref b101), (.ref b101), (.ref b99), (.ref b99)])) rfl rfl (hb hby at_132)
    rw [own_nar P93_0] at W105
    have V105 : Arv Z h105 b101 k101 .char (3 : Int32) [(.int z91_0), (.int z93_0), (.int (0 : Int32))] (.int (0 : Int32)) := Arv.set Ar105 qk105 S105 M105 H105 G105 (own_fitc P93_0) W105 1 rfl (Nat.le_of_ble_eq_true rfl)
    have N105 := Fr.snoc X105 N103 g_b101
    have C106 := C104.trans (CHr.wr W105 (own_safeV hZ.alike V103 (by decide)) C104.1)
    have S106_b99 := Safe.wr W105 (own_safeV hZ.alike V103 (by decide)) C104.1 S104_b99
    refine own_go ?_ (fun target hr => st105 _ (XS.dup X105.here hx rfl (hb hby at_133) rfl rfl (XS.iconst X105.here hx rfl (hb hby at_134) (XS.iload X105.here hx rfl (hb hby at_135) rfl hr))))
    show own_G _ p e below s _ _ _ (T105.setTop (mkF m 137 #[iv p1, iv p2, iv p3, iv p4, iv p5, iv (3 : Int32), iv z91_0, iv z93_0, iv z95_0, iv z97_0, .unset, .unset, .unset, .unset] [(.int z95_0), (.int (2 : Int32)), (.ref b101), (.ref b101), (.ref b99), (.ref b99)]))
    obtain ⟨cl107, Ar107, qk107, S107, M107, H107, G107⟩ := id V105
    have hin107 : ¬ ((2 : Int32) < 0 ∨ cl107.slots.size ≤ ((2 : Int32)).toNatClampNeg) := inb_of S107 ⟨by decide, by decide⟩
    obtain ⟨T107, h107, X107, e107, W107, st107⟩ := stC X105 hx hZ e105 Ar107 (j := (2 : Int32)) hin107 (g := (mkF m 137 #[iv p1, iv p2, iv p3, iv p4, iv p5, iv (3 : Int32), iv z91_0, iv z93_0, iv z95_0, iv z97_0, .unset, .unset, .unset, .unset] [(.int z95_0), (.int (2 : Int32)), (.ref b101), (.ref b101), (.ref b99), (.ref b99)])) rfl rfl (hb hby at_137)
    rw [own_nar P95_0] at W107
    have V107 : Arv Z h107 b101 k101 .char (3 : Int32) [(.int z91_0), (.int z93_0), (.int z95_0)] (.int (0 : Int32)) := Arv.set Ar107 qk107 S107 M107 H107 G107 (own_fitc P95_0) W107 2 rfl (Nat.le_of_ble_eq_true rfl)
    have N107 := Fr.snoc X107 N105 g_b101
    have C108 := C106.trans (CHr.wr W107 (own_safeV hZ.alike V105 (by decide)) C106.1)
    have S108_b99 := Safe.wr W107 (own_safeV hZ.alike V105 (by decide)) C106.1 S106_b99
    refine own_go ?_ (fun target hr => st107 _ hr)
    show own_G _ p e below s _ _ _ (T107.setTop (mkF m 138 #[iv p1, iv p2, iv p3, iv p4, iv p5, iv (3 : Int32), iv z91_0, iv z93_0, iv z95_0, iv z97_0, .unset, .unset, .unset, .unset] [(.ref b101), (.ref b99), (.ref b99)]))
    obtain ⟨_, _, ⟨T109, L109, k109, n109⟩, -, X109, ⟨Lc109, hQ109, l109, y109, z109⟩, st109⟩ := X107.specialBack hx (y := (⟨"java/lang/String", "<init>", "([C)V"⟩ : MethodName)) rfl hown (mvT hZ (hw _ (List.mem_of_getElem? (i := 9) rfl))) (mvT hZ (hw _ (List.mem_of_getElem? (i := 10) rfl))) (mvT hZ (hw _ (List.mem_of_getElem? (i := 11) rfl))) (by decide) (StrChars.Road.backV (W := 1) hZ hws (kI := 4) (hw _ (List.mem_of_getElem? (i := 7) rfl)) (cs := ([z91_0, z93_0, z95_0] : List Int32)) (bs := (([z91_0, z93_0, z95_0] : List Int32)).map (fun c => c.toInt8.toInt32)) (n := 3) g_b99 (Nat.le_trans (Nat.le_trans (Nat.le_trans (Nat.le_trans (Nat.le_trans (Nat.le_trans (Nat.le_trans (Nat.le_trans (Nat.le_trans Z0 K91.1) K93.1) K95.1) K97.1) E99.1) E101.1) (Keep.of_wr W103).1) (Keep.of_wr W105).1) (Keep.of_wr W107).1) ((((A99.ext E101).wr W103).wr W105).wr W107) ((((F99_21.ext E101).other W103 (Or.inl (Nat.ne_of_lt (Nat.lt_of_lt_of_le A99.lt (Nat.le_of_eq g101.symm))))).other W105 (Or.inl (Nat.ne_of_lt (Nat.lt_of_lt_of_le A99.lt (Nat.le_of_eq g101.symm))))).other W107 (Or.inl (Nat.ne_of_lt (Nat.lt_of_lt_of_le A99.lt (Nat.le_of_eq g101.symm))))) ((((F99_22.ext E101).other W103 (Or.inl (Nat.ne_of_lt (Nat.lt_of_lt_of_le A99.lt (Nat.le_of_eq g101.symm))))).other W105 (Or.inl (Nat.ne_of_lt (Nat.lt_of_lt_of_le A99.lt (Nat.le_of_eq g101.symm))))).other W107 (Or.inl (Nat.ne_of_lt (Nat.lt_of_lt_of_le A99.lt (Nat.le_of_eq g101.symm))))) V107 (S_COMPACT_STRINGS.ext (((((((((hold.keep K91 all0).keep K93 all0).keep K95 all0).keep K97 all0).ext E99).ext E101).wr W103 g_b101).wr W105 g_b101).wr W107 g_b101).2) hz rfl rfl (by decide) (by decide) (by intro c hc; simp only [List.mem_cons, List.not_mem_nil, or_false] at hc; rcases hc with rfl | rfl | rfl; exact P91_0; exact P93_0; exact P95_0) rfl (by decide) (by decide)) (g := (mkF m 138 #[iv p1, iv p2, iv p3, iv p4, iv p5, iv (3 : Int32), iv z91_0, iv z93_0, iv z95_0, iv z97_0, .unset, .unset, .unset, .unset] [(.ref b101), (.ref b99), (.ref b99)])) rfl (by rw [hml]; rfl) (Steps.refl _) (a := b99) (argsL := [(.ref b101)]) (rest := [(.ref b99)]) (lenOf pd___C_V rfl) rfl (by show 2 * 0 + _ ≤ _; exact Nat.le_of_eq rfl) (hb hby at_138) (fun _ _ => ⟨rfl, e107, (by decide : 6 + 1 ≤ _), (by decide : 39 + 3 ≤ _)⟩)
    dsimp only [Pt.U, Pt.locs, Pt.cells, Pt.slots] at X109 l109 y109 z109 st109 hQ109
    subst l109 y109 z109
    obtain ⟨rfl, N109q, K109, P109_0, P109_1, t109, kt109, y109a, y109b, y109c, P109_2, P109_3⟩ := hQ109
    have g_t109 : n0 ≤ t109 := Nat.le_trans (Nat.le_trans (Nat.le_trans (Nat.le_trans (Nat.le_trans (Nat.le_trans (Nat.le_trans (Nat.le_trans (Nat.le_trans (Nat.le_trans Z0 K91.1) K93.1) K95.1) K97.1) E99.1) E101.1) (Keep.of_wr W103).1) (Keep.of_wr W105).1) (Keep.of_wr W107).1) y109b
    have C110 := C108.trans (CHr.keep K109 (allS S108_b99 all0) C108.1)
    have S110_b99 := Safe.keep K109 (allS S108_b99 all0) C108.1 S108_b99
    have N109 := Fr.app N107 N109q
    refine own_go ?_ (fun target hr => st109.trans (XS.astore X109.here hx rfl (hb hby at_141) rfl rfl (l' := #[iv p1, iv p2, iv p3, iv p4, iv p5, iv (3 : Int32), iv z91_0, iv z93_0, iv z95_0, iv z97_0, rv b99, .unset, .unset, .unset]) rfl (XS.goto X109.here hx rfl (pc0 := 143) (pc' := 178) rfl (hb hby at_143) (by decide) (by decide) (XS.iload X109.here hx rfl (hb hby at_178) rfl (XS.bipush X109.here hx rfl (hb hby at_180) hr)))))
    show own_G _ p e below s _ _ _ (T109.setTop (mkF m 182 #[iv p1, iv p2, iv p3, iv p4, iv p5, iv (3 : Int32), iv z91_0, iv z93_0, iv z95_0, iv z97_0, rv b99, .unset, .unset, .unset] [(.int (82 : Int32)), (.int z91_0)]))
    by_cases hc182 : z91_0 = (82 : Int32)
    ·
      refine own_go ?_ (fun target hr => XS.icmpNo X109.here hx rfl (hb hby at_182) rfl (teq hc182).2 (XS.iload X109.here hx rfl (hb hby at_185) rfl (XS.bipush X109.here hx rfl (hb hby at_187) hr)))
      show own_G _ p e below s _ _ _ (T109.setTop (mkF m 189 #[iv p1, iv p2, iv p3, iv p4, iv p5, iv (3 : Int32), iv z91_0, iv z93_0, iv z95_0, iv z97_0, rv b99, .unset, .unset, .unset] [(.int (77 : Int32)), (.int z93_0)]))
      by_cases hc189 : z93_0 = (77 : Int32)
      ·
        refine own_go ?_ (fun target hr => XS.icmpNo X109.here hx rfl (hb hby at_189) rfl (teq hc189).2 (XS.iload X109.here hx rfl (hb hby at_192) rfl (XS.bipush X109.here hx rfl (hb hby at_194) hr)))
        show own_G _ p e below s _ _ _ (T109.setTop (mkF m 196 #[iv p1, iv p2, iv p3, iv p4, iv p5, iv (3 : Int32), iv z91_0, iv z93_0, iv z95_0, iv z97_0, rv b99, .unset, .unset, .unset] [(.int (67 : Int32)), (.int z95_0)]))
        by_cases hc196 : z95_0 = (67 : Int32)
        ·
          refine own_go ?_ (fun target hr => XS.icmpNo X109.here hx rfl (hb hby at_196) rfl (teq hc196).2 (XS.iconst X109.here hx rfl (hb hby at_199) (XS.goto X109.here hx rfl (pc0 := 200) (pc' := 204) rfl (hb hby at_200) (by decide) (by decide) (XS.istore X109.here hx rfl (hb hby at_204) rfl (l' := #[iv p1, iv p2, iv p3, iv p4, iv p5, iv (3 : Int32), iv z91_0, iv z93_0, iv z95_0, iv z97_0, rv b99, iv (1 : Int32), .unset, .unset]) rfl (XS.iload X109.here hx rfl (hb hby at_206) rfl (XS.bipush X109.here hx rfl (hb hby at_208) (XS.icmpYes X109.here hx rfl (pc0 := 210) (pc' := 231) rfl (hb hby at_210) rfl (feq (fun q => absurd (hc182.symm.trans q) (by decide))).2 (by decide) (by decide) (XS.iconst X109.here hx rfl (hb hby at_231) hr))))))))
          show own_G _ p e below s _ _ _ (T109.setTop (mkF m 232 #[iv p1, iv p2, iv p3, iv p4, iv p5, iv (3 : Int32), iv z91_0, iv z93_0, iv z95_0, iv z97_0, rv b99, iv (1 : Int32), .unset, .unset] [(.int (0 : Int32))]))
          refine own_go ?_ (fun target hr => XS.istore X109.here hx rfl (hb hby at_232) rfl (l' := #[iv p1, iv p2, iv p3, iv p4, iv p5, iv (3 : Int32), iv z91_0, iv z93_0, iv z95_0, iv z97_0, rv b99, iv (1 : Int32), iv (0 : Int32), .unset]) rfl (XS.iload X109.here hx rfl (hb hby at_234) rfl (XS.iconst X109.here hx rfl (hb hby at_236) (XS.icmpNo X109.here hx rfl (hb hby at_237) rfl (teq (by decide : (3 : Int32) = (3 : Int32))).2 (XS.iload X109.here hx rfl (hb hby at_240) rfl (XS.ifYes X109.here hx rfl (pc0 := 242) (pc' := 250) rfl (hb hby at_242) rfl ((if0 _ _).trans (feq (by decide : ¬ ((1 : Int32) = (0 : Int32)))).2) (by decide) (by decide) (XS.iconst X109.here hx rfl (hb hby at_250) (XS.goto X109.here hx rfl (pc0 := 251) (pc' := 255) rfl (hb hby at_251) (by decide) (by decide) hr))))))))
          show own_G _ p e below s _ _ _ (T109.setTop (mkF m 255 #[iv p1, iv p2, iv p3, iv p4, iv p5, iv (3 : Int32), iv z91_0, iv z93_0, iv z95_0, iv z97_0, rv b99, iv (1 : Int32), iv (0 : Int32), .unset] [(.int (1 : Int32))]))
          refine own_go ?_ (fun target hr => XS.istore X109.here hx rfl (hb hby at_255) rfl (l' := #[iv p1, iv p2, iv p3, iv p4, iv p5, iv (3 : Int32), iv z91_0, iv z93_0, iv z95_0, iv z97_0, rv b99, iv (1 : Int32), iv (0 : Int32), iv (1 : Int32)]) rfl (XS.aload X109.here hx rfl (hb hby at_257) rfl rfl hr))
          show own_G _ p e below s _ _ _ (T109.setTop (mkF m 259 #[iv p1, iv p2, iv p3, iv p4, iv p5, iv (3 : Int32), iv z91_0, iv z93_0, iv z95_0, iv z97_0, rv b99, iv (1 : Int32), iv (0 : Int32), iv (1 : Int32)] [(.ref b99)]))
          obtain ⟨_, _, ⟨T111, L111, k111, n111⟩, -, X111a, hS111a, hg111a, ⟨Lc111, hQ111, l111, y111, z111, H111c⟩, st111⟩ := callSS X109 hx (y := (⟨"com/example/prita/prita/gnss/GnssTime", "carriesTime", "(Ljava/lang/String;)Z"⟩ : MethodName)) hown (mvT hZ (hw _ (List.mem_of_getElem? (i := 27) rfl))) (mvT hZ (hw _ (List.mem_of_getElem? (i := 28) rfl))) (mvT hZ (hw _ (List.mem_of_getElem? (i := 29) rfl))) (mvT hZ (hw _ (List.mem_of_getElem? (i := 30) rfl))) (by decide) (backOfSH (s := s) (vm0 := s.vm) (W := 0) (rm_ct_3r l Z a0 hw [] b99 t109 kt109 z91_0 z93_0 z95_0 zc T109.heap n0 (Nat.le_trans (Nat.le_trans (Nat.le_trans (Nat.le_trans (Nat.le_trans (Nat.le_trans (Nat.le_trans (Nat.le_trans (Nat.le_trans (Nat.le_trans Z0 K91.1) K93.1) K95.1) K97.1) E99.1) E101.1) (Keep.of_wr W103).1) (Keep.of_wr W105).1) (Keep.of_wr W107).1) K109.1) P109_0 P109_2 P109_1 P109_3 ((((((((((hold.keep K91 all0).keep K93 all0).keep K95 all0).keep K97 all0).ext E99).ext E101).wr W103 g_b101).wr W105 g_b101).wr W107 g_b101).keep K109 (allS g_b99 all0)) S_COMPACT_STRINGS (by intro c hc; simp only [List.mem_cons, List.not_mem_nil, or_false] at hc; rcases hc with rfl | rfl | rfl; exact P91_0; exact P93_0; exact P95_0) hz hc182 hc189 hc196) hZ (hw _ (List.mem_of_getElem? (i := 30) rfl)) (hw _ (List.mem_of_getElem? (i := 29) rfl)) (by decide) (by decide) hEL C110.1) (g := (mkF m 259 #[iv p1, iv p2, iv p3, iv p4, iv p5, iv (3 : Int32), iv z91_0, iv z93_0, iv z95_0, iv z97_0, rv b99, iv (1 : Int32), iv (0 : Int32), iv (1 : Int32)] [(.ref b99)])) rfl (by rw [hml]; rfl) (argsL := [(.ref b99)]) (rest := []) (lenOf pd__Ljava_lang_String__Z rfl) rfl (by show 2 * 0 + _ ≤ _; exact Nat.le_of_eq rfl) (hb hby at_259) (fun _ _ => ⟨rfl, rfl, (by decide : 7 + 2 ≤ _), (by decide : 42 + 16 ≤ _)⟩)
          dsimp only [Pt.U, Pt.locs, Pt.cells, Pt.slots] at X111a hS111a hg111a l111 y111 z111 st111 hQ111 H111c
          subst l111 y111 z111
          obtain ⟨X111, hS111, hZ, hown⟩ := rebS (s := s) (vm0 := s.vm) (State.WarmedH.since (State.WarmedH.refl s) 0) (Nat.zero_le _) X111a hS111a hg111a hZ hown
          obtain ⟨rfl, N111q, K111⟩ := hQ111
          have C112 := C110.trans H111c
          have S112_b99 := H111c.safe P109_0.lt S110_b99
          have N111 := Fr.app N109 N111q
          refine own_go ?_ (fun target hr => st111.trans (XS.iload X111.here hx rfl (hb hby at_262) rfl (XS.icmpNo X111.here hx rfl (hb hby at_264) rfl (teq (by decide : (1 : Int32) = (1 : Int32))).2 (XS.iconst X111.here hx rfl (hb hby at_267) (XS.goto X111.here hx rfl (pc0 := 268) (pc' := 272) rfl (hb hby at_268) (by decide) (by decide) hr)))))
          show own_G _ p e below s _ _ _ (T111.setTop (mkF m 272 #[iv p1, iv p2, iv p3, iv p4, iv p5, iv (3 : Int32), iv z91_0, iv z93_0, iv z95_0, iv z97_0, rv b99, iv (1 : Int32), iv (0 : Int32), iv (1 : Int32)] [(.int (1 : Int32))]))
          obtain ⟨fs, hr, hrun, hended, hRW⟩ := Stand.leaveW (s := s) (vm₁ := T111.vm) X111 hS111 (Nat.le_refl _) (v := some (.int (1 : Int32))) (fun h => by rw [Bd.returns] at h; cases h)
          have hCe := C112.trans (CHv.at (s := s) (vm0 := T111.vm) X111 hZ hEL C112.1)
          exact ⟨_, _, retN X111 hx (t := .boolean) Bd.returns (by simp) (hb hby at_272) hr, hrun, hended, _, _, rfl, ⟨rfl, N111, trivial⟩, (by rw [hh, show (T111.setFrames fs).heap = T111.heap from rfl]; exact hCe), hRW.1, hRW.2.1, hRW.2.2.1, hRW.2.2.2.mono (by decide) (by decide)⟩
        ·
          refine own_go ?_ (fun target hr => XS.icmpYes X109.here hx rfl (pc0 := 196) (pc' := 203) rfl (hb hby at_196) rfl (feq hc196).2 (by decide) (by decide) (XS.iconst X109.here hx rfl (hb hby at_203) (XS.istore X109.here hx rfl (hb hby at_204) rfl (l' := #[iv p1, iv p2, iv p3, iv p4, iv p5, iv (3 : Int32), iv z91_0, iv z93_0, iv z95_0, iv z97_0, rv b99, iv (0 : Int32), .unset, .unset]) rfl (XS.iload X109.here hx rfl (hb hby at_206) rfl (XS.bipush X109.here hx rfl (hb hby at_208) (XS.icmpYes X109.here hx rfl (pc0 := 210) (pc' := 231) rfl (hb hby at_210) rfl (feq (fun q => absurd (hc182.symm.trans q) (by decide))).2 (by decide) (by decide) (XS.iconst X109.here hx rfl (hb hby at_231) (XS.istore X109.here hx rfl (hb hby at_232) rfl (l' := #[iv p1, iv p2, iv p3, iv p4, iv p5, iv (3 : Int32), iv z91_0, iv z93_0, iv z95_0, iv z97_0, rv b99, iv (0 : Int32), iv (0 : Int32), .unset]) rfl hr))))))))
          show own_G _ p e below s _ _ _ (T109.setTop (mkF m 234 #[iv p1, iv p2, iv p3, iv p4, iv p5, iv (3 : Int32), iv z91_0, iv z93_0, iv z95_0, iv z97_0, rv b99, iv (0 : Int32), iv (0 : Int32), .unset] []))
          refine own_go ?_ (fun target hr => XS.iload X109.here hx rfl (hb hby at_234) rfl (XS.iconst X109.here hx rfl (hb hby at_236) (XS.icmpNo X109.here hx rfl (hb hby at_237) rfl (teq (by decide : (3 : Int32) = (3 : Int32))).2 (XS.iload X109.here hx rfl (hb hby at_240) rfl (XS.ifNo X109.here hx rfl (hb hby at_242) rfl ((if0 _ _).trans (teq (by decide : (0 : Int32) = (0 : Int32))).2) (XS.iload X109.here hx rfl (hb hby at_245) rfl (XS.ifYes X109.here hx rfl (pc0 := 247) (pc' := 254) rfl (hb hby at_247) rfl ((if0 _ _).trans (teq (by decide : (0 : Int32) = (0 : Int32))).1) (by decide) (by decide) (XS.iconst X109.here hx rfl (hb hby at_254) hr))))))))
          show own_G _ p e below s _ _ _ (T109.setTop (mkF m 255 #[iv p1, iv p2, iv p3, iv p4, iv p5, iv (3 : Int32), iv z91_0, iv z93_0, iv z95_0, iv z97_0, rv b99, iv (0 : Int32), iv (0 : Int32), .unset] [(.int (0 : Int32))]))
          refine own_go ?_ (fun target hr => XS.istore X109.here hx rfl (hb hby at_255) rfl (l' := #[iv p1, iv p2, iv p3, iv p4, iv p5, iv (3 : Int32), iv z91_0, iv z93_0, iv z95_0, iv z97_0, rv b99, iv (0 : Int32), iv (0 : Int32), iv (0 : Int32)]) rfl (XS.aload X109.here hx rfl (hb hby at_257) rfl rfl hr))
          show own_G _ p e below s _ _ _ (T109.setTop (mkF m 259 #[iv p1, iv p2, iv p3, iv p4, iv p5, iv (3 : Int32), iv z91_0, iv z93_0, iv z95_0, iv z97_0, rv b99, iv (0 : Int32), iv (0 : Int32), iv (0 : Int32)] [(.ref b99)]))
          obtain ⟨_, _, ⟨T113, L113, k113, n113⟩, -, X113a, hS113a, hg113a, ⟨Lc113, hQ113, l113, y113, z113, H113c⟩, st113⟩ := callSS X109 hx (y := (⟨"com/example/prita/prita/gnss/GnssTime", "carriesTime", "(Ljava/lang/String;)Z"⟩ : MethodName)) hown (mvT hZ (hw _ (List.mem_of_getElem? (i := 27) rfl))) (mvT hZ (hw _ (List.mem_of_getElem? (i := 28) rfl))) (mvT hZ (hw _ (List.mem_of_getElem? (i := 29) rfl))) (mvT hZ (hw _ (List.mem_of_getElem? (i := 30) rfl))) (by decide) (backOfSH (s := s) (vm0 := s.vm) (W := 0) (rm_ct_3n l Z a0 hw [] b99 t109 kt109 z91_0 z93_0 z95_0 zc T109.heap n0 (Nat.le_trans (Nat.le_trans (Nat.le_trans (Nat.le_trans (Nat.le_trans (Nat.le_trans (Nat.le_trans (Nat.le_trans (Nat.le_trans (Nat.le_trans Z0 K91.1) K93.1) K95.1) K97.1) E99.1) E101.1) (Keep.of_wr W103).1) (Keep.of_wr W105).1) (Keep.of_wr W107).1) K109.1) P109_0 P109_2 P109_1 P109_3 ((((((((((hold.keep K91 all0).keep K93 all0).keep K95 all0).keep K97 all0).ext E99).ext E101).wr W103 g_b101).wr W105 g_b101).wr W107 g_b101).keep K109 (allS g_b99 all0)) S_COMPACT_STRINGS (by intro c hc; simp only [List.mem_cons, List.not_mem_nil, or_false] at hc; rcases hc with rfl | rfl | rfl; exact P91_0; exact P93_0; exact P95_0) hz (fun q => hc196 q.2.2) (fun q => (fun q => absurd (hc182.symm.trans q) (by decide)) q.1)) hZ (hw _ (List.mem_of_getElem? (i := 30) rfl)) (hw _ (List.mem_of_getElem? (i := 29) rfl)) (by decide) (by decide) hEL C110.1) (g := (mkF m 259 #[iv p1, iv p2, iv p3, iv p4, iv p5, iv (3 : Int32), iv z91_0, iv z93_0, iv z95_0, iv z97_0, rv b99, iv (0 : Int32), iv (0 : Int32), iv (0 : Int32)] [(.ref b99)])) rfl (by rw [hml]; rfl) (argsL := [(.ref b99)]) (rest := []) (lenOf pd__Ljava_lang_String__Z rfl) rfl (by show 2 * 0 + _ ≤ _; exact Nat.le_of_eq rfl) (hb hby at_259) (fun _ _ => ⟨rfl, rfl, (by decide : 7 + 4 ≤ _), (by decide : 42 + 32 ≤ _)⟩)
          dsimp only [Pt.U, Pt.locs, Pt.cells, Pt.slots] at X113a hS113a hg113a l113 y113 z113 st113 hQ113 H113c
          subst l113 y113 z113
          obtain ⟨X113, hS113, hZ, hown⟩ := rebS (s := s) (vm0 := s.vm) (State.WarmedH.since (State.WarmedH.refl s) 0) (Nat.zero_le _) X113a hS113a hg113a hZ hown
          obtain ⟨rfl, N113q, K113⟩ := hQ113
          have C114 := C110.trans H113c
          have S114_b99 := H113c.safe P109_0.lt S110_b99
          have N113 := Fr.app N109 N113q
          refine own_go ?_ (fun target hr => st113.trans (XS.iload X113.here hx rfl (hb hby at_262) rfl (XS.icmpNo X113.here hx rfl (hb hby at_264) rfl (teq (by decide : (0 : Int32) = (0 : Int32))).2 (XS.iconst X113.here hx rfl (hb hby at_267) (XS.goto X113.here hx rfl (pc0 := 268) (pc' := 272) rfl (hb hby at_268) (by decide) (by decide) hr)))))
          show own_G _ p e below s _ _ _ (T113.setTop (mkF m 272 #[iv p1, iv p2, iv p3, iv p4, iv p5, iv (3 : Int32), iv z91_0, iv z93_0, iv z95_0, iv z97_0, rv b99, iv (0 : Int32), iv (0 : Int32), iv (0 : Int32)] [(.int (1 : Int32))]))
          obtain ⟨fs, hr, hrun, hended, hRW⟩ := Stand.leaveW (s := s) (vm₁ := T113.vm) X113 hS113 (Nat.le_refl _) (v := some (.int (1 : Int32))) (fun h => by rw [Bd.returns] at h; cases h)
          have hCe := C114.trans (CHv.at (s := s) (vm0 := T113.vm) X113 hZ hEL C114.1)
          exact ⟨_, _, retN X113 hx (t := .boolean) Bd.returns (by simp) (hb hby at_272) hr, hrun, hended, _, _, rfl, ⟨rfl, N113, trivial⟩, (by rw [hh, show (T113.setFrames fs).heap = T113.heap from rfl]; exact hCe), hRW.1, hRW.2.1, hRW.2.2.1, hRW.2.2.2.mono (by decide) (by decide)⟩
      ·
        refine own_go ?_ (fun target hr => XS.icmpYes X109.here hx rfl (pc0 := 189) (pc' := 203) rfl (hb hby at_189) rfl (feq hc189).2 (by decide) (by decide) (XS.iconst X109.here hx rfl (hb hby at_203) (XS.istore X109.here hx rfl (hb hby at_204) rfl (l' := #[iv p1, iv p2, iv p3, iv p4, iv p5, iv (3 : Int32), iv z91_0, iv z93_0, iv z95_0, iv z97_0, rv b99, iv (0 : Int32), .unset, .unset]) rfl (XS.iload X109.here hx rfl (hb hby at_206) rfl (XS.bipush X109.here hx rfl (hb hby at_208) (XS.icmpYes X109.here hx rfl (pc0 := 210) (pc' := 231) rfl (hb hby at_210) rfl (feq (fun q => absurd (hc182.symm.trans q) (by decide))).2 (by decide) (by decide) (XS.iconst X109.here hx rfl (hb hby at_231) (XS.istore X109.here hx rfl (hb hby at_232) rfl (l' := #[iv p1, iv p2, iv p3, iv p4, iv p5, iv (3 : Int32), iv z91_0, iv z93_0, iv z95_0, iv z97_0, rv b99, iv (0 : Int32), iv (0 : Int32), .unset]) rfl hr))))))))
        show own_G _ p e below s _ _ _ (T109.setTop (mkF m 234 #[iv p1, iv p2, iv p3, iv p4, iv p5, iv (3 : Int32), iv z91_0, iv z93_0, iv z95_0, iv z97_0, rv b99, iv (0 : Int32), iv (0 : Int32), .unset] []))
        refine own_go ?_ (fun target hr => XS.iload X109.here hx rfl (hb hby at_234) rfl (XS.iconst X109.here hx rfl (hb hby at_236) (XS.icmpNo X109.here hx rfl (hb hby at_237) rfl (teq (by decide : (3 : Int32) = (3 : Int32))).2 (XS.iload X109.here hx rfl (hb hby at_240) rfl (XS.ifNo X109.here hx rfl (hb hby at_242) rfl ((if0 _ _).trans (teq (by decide : (0 : Int32) = (0 : Int32))).2) (XS.iload X109.here hx rfl (hb hby at_245) rfl (XS.ifYes X109.here hx rfl (pc0 := 247) (pc' := 254) rfl (hb hby at_247) rfl ((if0 _ _).trans (teq (by decide : (0 : Int32) = (0 : Int32))).1) (by decide) (by decide) (XS.iconst X109.here hx rfl (hb hby at_254) hr))))))))
        show own_G _ p e below s _ _ _ (T109.setTop (mkF m 255 #[iv p1, iv p2, iv p3, iv p4, iv p5, iv (3 : Int32), iv z91_0, iv z93_0, iv z95_0, iv z97_0, rv b99, iv (0 : Int32), iv (0 : Int32), .unset] [(.int (0 : Int32))]))
        refine own_go ?_ (fun target hr => XS.istore X109.here hx rfl (hb hby at_255) rfl (l' := #[iv p1, iv p2, iv p3, iv p4, iv p5, iv (3 : Int32), iv z91_0, iv z93_0, iv z95_0, iv z97_0, rv b99, iv (0 : Int32), iv (0 : Int32), iv (0 : Int32)]) rfl (XS.aload X109.here hx rfl (hb hby at_257) rfl rfl hr))
        show own_G _ p e below s _ _ _ (T109.setTop (mkF m 259 #[iv p1, iv p2, iv p3, iv p4, iv p5, iv (3 : Int32), iv z91_0, iv z93_0, iv z95_0, iv z97_0, rv b99, iv (0 : Int32), iv (0 : Int32), iv (0 : Int32)] [(.ref b99)]))
        obtain ⟨_, _, ⟨T115, L115, k115, n115⟩, -, X115a, hS115a, hg115a, ⟨Lc115, hQ115, l115, y115, z115, H115c⟩, st115⟩ := callSS X109 hx (y := (⟨"com/example/prita/prita/gnss/GnssTime", "carriesTime", "(Ljava/lang/String;)Z"⟩ : MethodName)) hown (mvT hZ (hw _ (List.mem_of_getElem? (i := 27) rfl))) (mvT hZ (hw _ (List.mem_of_getElem? (i := 28) rfl))) (mvT hZ (hw _ (List.mem_of_getElem? (i := 29) rfl))) (mvT hZ (hw _ (List.mem_of_getElem? (i := 30) rfl))) (by decide) (backOfSH (s := s) (vm0 := s.vm) (W := 0) (rm_ct_3n l Z a0 hw [] b99 t109 kt109 z91_0 z93_0 z95_0 zc T109.heap n0 (Nat.le_trans (Nat.le_trans (Nat.le_trans (Nat.le_trans (Nat.le_trans (Nat.le_trans (Nat.le_trans (Nat.le_trans (Nat.le_trans (Nat.le_trans Z0 K91.1) K93.1) K95.1) K97.1) E99.1) E101.1) (Keep.of_wr W103).1) (Keep.of_wr W105).1) (Keep.of_wr W107).1) K109.1) P109_0 P109_2 P109_1 P109_3 ((((((((((hold.keep K91 all0).keep K93 all0).keep K95 all0).keep K97 all0).ext E99).ext E101).wr W103 g_b101).wr W105 g_b101).wr W107 g_b101).keep K109 (allS g_b99 all0)) S_COMPACT_STRINGS (by intro c hc; simp only [List.mem_cons, List.not_mem_nil, or_false] at hc; rcases hc with rfl | rfl | rfl; exact P91_0; exact P93_0; exact P95_0) hz (fun q => hc189 q.2.1) (fun q => (fun q => absurd (hc182.symm.trans q) (by decide)) q.1)) hZ (hw _ (List.mem_of_getElem? (i := 30) rfl)) (hw _ (List.mem_of_getElem? (i := 29) rfl)) (by decide) (by decide) hEL C110.1) (g := (mkF m 259 #[iv p1, iv p2, iv p3, iv p4, iv p5, iv (3 : Int32), iv z91_0, iv z93_0, iv z95_0, iv z97_0, rv b99, iv (0 : Int32), iv (0 : Int32), iv (0 : Int32)] [(.ref b99)])) rfl (by rw [hml]; rfl) (argsL := [(.ref b99)]) (rest := []) (lenOf pd__Ljava_lang_String__Z rfl) rfl (by show 2 * 0 + _ ≤ _; exact Nat.le_of_eq rfl) (hb hby at_259) (fun _ _ => ⟨rfl, rfl, (by decide : 7 + 4 ≤ _), (by decide : 42 + 32 ≤ _)⟩)
        dsimp only [Pt.U, Pt.locs, Pt.cells, Pt.slots] at X115a hS115a hg115a l115 y115 z115 st115 hQ115 H115c
        subst l115 y115 z115
        obtain ⟨X115, hS115, hZ, hown⟩ := rebS (s := s) (vm0 := s.vm) (State.WarmedH.since (State.WarmedH.refl s) 0) (Nat.zero_le _) X115a hS115a hg115a hZ hown
        obtain ⟨rfl, N115q, K115⟩ := hQ115
        have C116 := C110.trans H115c
        have S116_b99 := H115c.safe P109_0.lt S110_b99
        have N115 := Fr.app N109 N115q
        refine own_go ?_ (fun target hr => st115.trans (XS.iload X115.here hx rfl (hb hby at_262) rfl (XS.icmpNo X115.here hx rfl (hb hby at_264) rfl (teq (by decide : (0 : Int32) = (0 : Int32))).2 (XS.iconst X115.here hx rfl (hb hby at_267) (XS.goto X115.here hx rfl (pc0 := 268) (pc' := 272) rfl (hb hby at_268) (by decide) (by decide) hr)))))
        show own_G _ p e below s _ _ _ (T115.setTop (mkF m 272 #[iv p1, iv p2, iv p3, iv p4, iv p5, iv (3 : Int32), iv z91_0, iv z93_0, iv z95_0, iv z97_0, rv b99, iv (0 : Int32), iv (0 : Int32), iv (0 : Int32)] [(.int (1 : Int32))]))
        obtain ⟨fs, hr, hrun, hended, hRW⟩ := Stand.leaveW (s := s) (vm₁ := T115.vm) X115 hS115 (Nat.le_refl _) (v := some (.int (1 : Int32))) (fun h => by rw [Bd.returns] at h; cases h)
        have hCe := C116.trans (CHv.at (s := s) (vm0 := T115.vm) X115 hZ hEL C116.1)
        exact ⟨_, _, retN X115 hx (t := .boolean) Bd.returns (by simp) (hb hby at_272) hr, hrun, hended, _, _, rfl, ⟨rfl, N115, trivial⟩, (by rw [hh, show (T115.setFrames fs).heap = T115.heap from rfl]; exact hCe), hRW.1, hRW.2.1, hRW.2.2.1, hRW.2.2.2.mono (by decide) (by decide)⟩
    ·
      refine own_go ?_ (fun target hr => XS.icmpYes X109.here hx rfl (pc0 := 182) (pc' := 203) rfl (hb hby at_182) rfl (feq hc182).2 (by decide) (by decide) (XS.iconst X109.here hx rfl (hb hby at_203) (XS.istore X109.here hx rfl (hb hby at_204) rfl (l' := #[iv p1, iv p2, iv p3, iv p4, iv p5, iv (3 : Int32), iv z91_0, iv z93_0, iv z95_0, iv z97_0, rv b99, iv (0 : Int32), .unset, .unset]) rfl (XS.iload X109.here hx rfl (hb hby at_206) rfl (XS.bipush X109.here hx rfl (hb hby at_208) hr)))))
      show own_G _ p e below s _ _ _ (T109.setTop (mkF m 210 #[iv p1, iv p2, iv p3, iv p4, iv p5, iv (3 : Int32), iv z91_0, iv z93_0, iv z95_0, iv z97_0, rv b99, iv (0 : Int32), .unset, .unset] [(.int (90 : Int32)), (.int z91_0)]))
      by_cases hc210 : z91_0 = (90 : Int32)
      ·
        refine own_go ?_ (fun target hr => XS.icmpNo X109.here hx rfl (hb hby at_210) rfl (teq hc210).2 (XS.iload X109.here hx rfl (hb hby at_213) rfl (XS.bipush X109.here hx rfl (hb hby at_215) hr)))
        show own_G _ p e below s _ _ _ (T109.setTop (mkF m 217 #[iv p1, iv p2, iv p3, iv p4, iv p5, iv (3 : Int32), iv z91_0, iv z93_0, iv z95_0, iv z97_0, rv b99, iv (0 : Int32), .unset, .unset] [(.int (68 : Int32)), (.int z93_0)]))
        by_cases hc217 : z93_0 = (68 : Int32)
        ·
          refine own_go ?_ (fun target hr => XS.icmpNo X109.here hx rfl (hb hby at_217) rfl (teq hc217).2 (XS.iload X109.here hx rfl (hb hby at_220) rfl (XS.bipush X109.here hx rfl (hb hby at_222) hr)))
          show own_G _ p e below s _ _ _ (T109.setTop (mkF m 224 #[iv p1, iv p2, iv p3, iv p4, iv p5, iv (3 : Int32), iv z91_0, iv z93_0, iv z95_0, iv z97_0, rv b99, iv (0 : Int32), .unset, .unset] [(.int (65 : Int32)), (.int z95_0)]))
          by_cases hc224 : z95_0 = (65 : Int32)
          ·
            refine own_go ?_ (fun target hr => XS.icmpNo X109.here hx rfl (hb hby at_224) rfl (teq hc224).2 (XS.iconst X109.here hx rfl (hb hby at_227) (XS.goto X109.here hx rfl (pc0 := 228) (pc' := 232) rfl (hb hby at_228) (by decide) (by decide) (XS.istore X109.here hx rfl (hb hby at_232) rfl (l' := #[iv p1, iv p2, iv p3, iv p4, iv p5, iv (3 : Int32), iv z91_0, iv z93_0, iv z95_0, iv z97_0, rv b99, iv (0 : Int32), iv (1 : Int32), .unset]) rfl (XS.iload X109.here hx rfl (hb hby at_234) rfl (XS.iconst X109.here hx rfl (hb hby at_236) (XS.icmpNo X109.here hx rfl (hb hby at_237) rfl (teq (by decide : (3 : Int32) = (3 : Int32))).2 (XS.iload X109.here hx rfl (hb hby at_240) rfl hr))))))))
            show own_G _ p e below s _ _ _ (T109.setTop (mkF m 242 #[iv p1, iv p2, iv p3, iv p4, iv p5, iv (3 : Int32), iv z91_0, iv z93_0, iv z95_0, iv z97_0, rv b99, iv (0 : Int32), iv (1 : Int32), .unset] [(.int (0 : Int32))]))
            refine own_go ?_ (fun target hr => XS.ifNo X109.here hx rfl (hb hby at_242) rfl ((if0 _ _).trans (teq (by decide : (0 : Int32) = (0 : Int32))).2) (XS.iload X109.here hx rfl (hb hby at_245) rfl (XS.ifNo X109.here hx rfl (hb hby at_247) rfl ((if0 _ _).trans (feq (by decide : ¬ ((1 : Int32) = (0 : Int32)))).1) (XS.iconst X109.here hx rfl (hb hby at_250) (XS.goto X109.here hx rfl (pc0 := 251) (pc' := 255) rfl (hb hby at_251) (by decide) (by decide) (XS.istore X109.here hx rfl (hb hby at_255) rfl (l' := #[iv p1, iv p2, iv p3, iv p4, iv p5, iv (3 : Int32), iv z91_0, iv z93_0, iv z95_0, iv z97_0, rv b99, iv (0 : Int32), iv (1 : Int32), iv (1 : Int32)]) rfl (XS.aload X109.here hx rfl (hb hby at_257) rfl rfl hr)))))))
            show own_G _ p e below s _ _ _ (T109.setTop (mkF m 259 #[iv p1, iv p2, iv p3, iv p4, iv p5, iv (3 : Int32), iv z91_0, iv z93_0, iv z95_0, iv z97_0, rv b99, iv (0 : Int32), iv (1 : Int32), iv (1 : Int32)] [(.ref b99)]))
            obtain ⟨_, _, ⟨T117, L117, k117, n117⟩, -, X117a, hS117a, hg117a, ⟨Lc117, hQ117, l117, y117, z117, H117c⟩, st117⟩ := callSS X109 hx (y := (⟨"com/example/prita/prita/gnss/GnssTime", "carriesTime", "(Ljava/lang/String;)Z"⟩ : MethodName)) hown (mvT hZ (hw _ (List.mem_of_getElem? (i := 27) rfl))) (mvT hZ (hw _ (List.mem_of_getElem? (i := 28) rfl))) (mvT hZ (hw _ (List.mem_of_getElem? (i := 29) rfl))) (mvT hZ (hw _ (List.mem_of_getElem? (i := 30) rfl))) (by decide) (backOfSH (s := s) (vm0 := s.vm) (W := 0) (rm_ct_3z l Z a0 hw [] b99 t109 kt109 z91_0 z93_0 z95_0 zc T109.heap n0 (Nat.le_trans (Nat.le_trans (Nat.le_trans (Nat.le_trans (Nat.le_trans (Nat.le_trans (Nat.le_trans (Nat.le_trans (Nat.le_trans (Nat.le_trans Z0 K91.1) K93.1) K95.1) K97.1) E99.1) E101.1) (Keep.of_wr W103).1) (Keep.of_wr W105).1) (Keep.of_wr W107).1) K109.1) P109_0 P109_2 P109_1 P109_3 ((((((((((hold.keep K91 all0).keep K93 all0).keep K95 all0).keep K97 all0).ext E99).ext E101).wr W103 g_b101).wr W105 g_b101).wr W107 g_b101).keep K109 (allS g_b99 all0)) S_COMPACT_STRINGS (by intro c hc; simp only [List.mem_cons, List.not_mem_nil, or_false] at hc; rcases hc with rfl | rfl | rfl; exact P91_0; exact P93_0; exact P95_0) hz hc210 hc217 hc224 (fun q => hc182 q.1)) hZ (hw _ (List.mem_of_getElem? (i := 30) rfl)) (hw _ (List.mem_of_getElem? (i := 29) rfl)) (by decide) (by decide) hEL C110.1) (g := (mkF m 259 #[iv p1, iv p2, iv p3, iv p4, iv p5, iv (3 : Int32), iv z91_0, iv z93_0, iv z95_0, iv z97_0, rv b99, iv (0 : Int32), iv (1 : Int32), iv (1 : Int32)] [(.ref b99)])) rfl (by rw [hml]; rfl) (argsL := [(.ref b99)]) (rest := []) (lenOf pd__Ljava_lang_String__Z rfl) rfl (by show 2 * 0 + _ ≤ _; exact Nat.le_of_eq rfl) (hb hby at_259) (fun _ _ => ⟨rfl, rfl, (by decide : 7 + 4 ≤ _), (by decide : 42 + 32 ≤ _)⟩)
            dsimp only [Pt.U, Pt.locs, Pt.cells, Pt.slots] at X117a hS117a hg117a l117 y117 z117 st117 hQ117 H117c
            subst l117 y117 z117
            obtain ⟨X117, hS117, hZ, hown⟩ := rebS (s := s) (vm0 := s.vm) (State.WarmedH.since (State.WarmedH.refl s) 0) (Nat.zero_le _) X117a hS117a hg117a hZ hown
            obtain ⟨rfl, N117q, K117⟩ := hQ117
            have C118 := C110.trans H117c
            have S118_b99 := H117c.safe P109_0.lt S110_b99
            have N117 := Fr.app N109 N117q
            refine own_go ?_ (fun target hr => st117.trans (XS.iload X117.here hx rfl (hb hby at_262) rfl (XS.icmpNo X117.here hx rfl (hb hby at_264) rfl (teq (by decide : (1 : Int32) = (1 : Int32))).2 (XS.iconst X117.here hx rfl (hb hby at_267) (XS.goto X117.here hx rfl (pc0 := 268) (pc' := 272) rfl (hb hby at_268) (by decide) (by decide) hr)))))
            show own_G _ p e below s _ _ _ (T117.setTop (mkF m 272 #[iv p1, iv p2, iv p3, iv p4, iv p5, iv (3 : Int32), iv z91_0, iv z93_0, iv z95_0, iv z97_0, rv b99, iv (0 : Int32), iv (1 : Int32), iv (1 : Int32)] [(.int (1 : Int32))]))
            obtain ⟨fs, hr, hrun, hended, hRW⟩ := Stand.leaveW (s := s) (vm₁ := T117.vm) X117 hS117 (Nat.le_refl _) (v := some (.int (1 : Int32))) (fun h => by rw [Bd.returns] at h; cases h)
            have hCe := C118.trans (CHv.at (s := s) (vm0 := T117.vm) X117 hZ hEL C118.1)
            exact ⟨_, _, retN X117 hx (t := .boolean) Bd.returns (by simp) (hb hby at_272) hr, hrun, hended, _, _, rfl, ⟨rfl, N117, trivial⟩, (by rw [hh, show (T117.setFrames fs).heap = T117.heap from rfl]; exact hCe), hRW.1, hRW.2.1, hRW.2.2.1, hRW.2.2.2.mono (by decide) (by decide)⟩
          ·
            refine own_go ?_ (fun target hr => XS.icmpYes X109.here hx rfl (pc0 := 224) (pc' := 231) rfl (hb hby at_224) rfl (feq hc224).2 (by decide) (by decide) (XS.iconst X109.here hx rfl (hb hby at_231) (XS.istore X109.here hx rfl (hb hby at_232) rfl (l' := #[iv p1, iv p2, iv p3, iv p4, iv p5, iv (3 : Int32), iv z91_0, iv z93_0, iv z95_0, iv z97_0, rv b99, iv (0 : Int32), iv (0 : Int32), .unset]) rfl (XS.iload X109.here hx rfl (hb hby at_234) rfl (XS.iconst X109.here hx rfl (hb hby at_236) (XS.icmpNo X109.here hx rfl (hb hby at_237) rfl (teq (by decide : (3 : Int32) = (3 : Int32))).2 (XS.iload X109.here hx rfl (hb hby at_240) rfl (XS.ifNo X109.here hx rfl (hb hby at_242) rfl ((if0 _ _).trans (teq (by decide : (0 : Int32) = (0 : Int32))).2) hr))))))))
            show own_G _ p e below s _ _ _ (T109.setTop (mkF m 245 #[iv p1, iv p2, iv p3, iv p4, iv p5, iv (3 : Int32), iv z91_0, iv z93_0, iv z95_0, iv z97_0, rv b99, iv (0 : Int32), iv (0 : Int32), .unset] []))
            refine own_go ?_ (fun target hr => XS.iload X109.here hx rfl (hb hby at_245) rfl (XS.ifYes X109.here hx rfl (pc0 := 247) (pc' := 254) rfl (hb hby at_247) rfl ((if0 _ _).trans (teq (by decide : (0 : Int32) = (0 : Int32))).1) (by decide) (by decide) (XS.iconst X109.here hx rfl (hb hby at_254) (XS.istore X109.here hx rfl (hb hby at_255) rfl (l' := #[iv p1, iv p2, iv p3, iv p4, iv p5, iv (3 : Int32), iv z91_0, iv z93_0, iv z95_0, iv z97_0, rv b99, iv (0 : Int32), iv (0 : Int32), iv (0 : Int32)]) rfl (XS.aload X109.here hx rfl (hb hby at_257) rfl rfl hr)))))
            show own_G _ p e below s _ _ _ (T109.setTop (mkF m 259 #[iv p1, iv p2, iv p3, iv p4, iv p5, iv (3 : Int32), iv z91_0, iv z93_0, iv z95_0, iv z97_0, rv b99, iv (0 : Int32), iv (0 : Int32), iv (0 : Int32)] [(.ref b99)]))
            obtain ⟨_, _, ⟨T119, L119, k119, n119⟩, -, X119a, hS119a, hg119a, ⟨Lc119, hQ119, l119, y119, z119, H119c⟩, st119⟩ := callSS X109 hx (y := (⟨"com/example/prita/prita/gnss/GnssTime", "carriesTime", "(Ljava/lang/String;)Z"⟩ : MethodName)) hown (mvT hZ (hw _ (List.mem_of_getElem? (i := 27) rfl))) (mvT hZ (hw _ (List.mem_of_getElem? (i := 28) rfl))) (mvT hZ (hw _ (List.mem_of_getElem? (i := 29) rfl))) (mvT hZ (hw _ (List.mem_of_getElem? (i := 30) rfl))) (by decide) (backOfSH (s := s) (vm0 := s.vm) (W := 0) (rm_ct_3n l Z a0 hw [] b99 t109 kt109 z91_0 z93_0 z95_0 zc T109.heap n0 (Nat.le_trans (Nat.le_trans (Nat.le_trans (Nat.le_trans (Nat.le_trans (Nat.le_trans (Nat.le_trans (Nat.le_trans (Nat.le_trans (Nat.le_trans Z0 K91.1) K93.1) K95.1) K97.1) E99.1) E101.1) (Keep.of_wr W103).1) (Keep.of_wr W105).1) (Keep.of_wr W107).1) K109.1) P109_0 P109_2 P109_1 P109_3 ((((((((((hold.keep K91 all0).keep K93 all0).keep K95 all0).keep K97 all0).ext E99).ext E101).wr W103 g_b101).wr W105 g_b101).wr W107 g_b101).keep K109 (allS g_b99 all0)) S_COMPACT_STRINGS (by intro c hc; simp only [List.mem_cons, List.not_mem_nil, or_false] at hc; rcases hc with rfl | rfl | rfl; exact P91_0; exact P93_0; exact P95_0) hz (fun q => hc182 q.1) (fun q => hc224 q.2.2)) hZ (hw _ (List.mem_of_getElem? (i := 30) rfl)) (hw _ (List.mem_of_getElem? (i := 29) rfl)) (by decide) (by decide) hEL C110.1) (g := (mkF m 259 #[iv p1, iv p2, iv p3, iv p4, iv p5, iv (3 : Int32), iv z91_0, iv z93_0, iv z95_0, iv z97_0, rv b99, iv (0 : Int32), iv (0 : Int32), iv (0 : Int32)] [(.ref b99)])) rfl (by rw [hml]; rfl) (argsL := [(.ref b99)]) (rest := []) (lenOf pd__Ljava_lang_String__Z rfl) rfl (by show 2 * 0 + _ ≤ _; exact Nat.le_of_eq rfl) (hb hby at_259) (fun _ _ => ⟨rfl, rfl, (by decide : 7 + 4 ≤ _), (by decide : 42 + 32 ≤ _)⟩)
            dsimp only [Pt.U, Pt.locs, Pt.cells, Pt.slots] at X119a hS119a hg119a l119 y119 z119 st119 hQ119 H119c
            subst l119 y119 z119
            obtain ⟨X119, hS119, hZ, hown⟩ := rebS (s := s) (vm0 := s.vm) (State.WarmedH.since (State.WarmedH.refl s) 0) (Nat.zero_le _) X119a hS119a hg119a hZ hown
            obtain ⟨rfl, N119q, K119⟩ := hQ119
            have C120 := C110.trans H119c
            have S120_b99 := H119c.safe P109_0.lt S110_b99
            have N119 := Fr.app N109 N119q
            refine own_go ?_ (fun target hr => st119.trans (XS.iload X119.here hx rfl (hb hby at_262) rfl (XS.icmpNo X119.here hx rfl (hb hby at_264) rfl (teq (by decide : (0 : Int32) = (0 : Int32))).2 (XS.iconst X119.here hx rfl (hb hby at_267) (XS.goto X119.here hx rfl (pc0 := 268) (pc' := 272) rfl (hb hby at_268) (by decide) (by decide) hr)))))
            show own_G _ p e below s _ _ _ (T119.setTop (mkF m 272 #[iv p1, iv p2, iv p3, iv p4, iv p5, iv (3 : Int32), iv z91_0, iv z93_0, iv z95_0, iv z97_0, rv b99, iv (0 : Int32), iv (0 : Int32), iv (0 : Int32)] [(.int (1 : Int32))]))
            obtain ⟨fs, hr, hrun, hended, hRW⟩ := Stand.leaveW (s := s) (vm₁ := T119.vm) X119 hS119 (Nat.le_refl _) (v := some (.int (1 : Int32))) (fun h => by rw [Bd.returns] at h; cases h)
            have hCe := C120.trans (CHv.at (s := s) (vm0 := T119.vm) X119 hZ hEL C120.1)
            exact ⟨_, _, retN X119 hx (t := .boolean) Bd.returns (by simp) (hb hby at_272) hr, hrun, hended, _, _, rfl, ⟨rfl, N119, trivial⟩, (by rw [hh, show (T119.setFrames fs).heap = T119.heap from rfl]; exact hCe), hRW.1, hRW.2.1, hRW.2.2.1, hRW.2.2.2.mono (by decide) (by decide)⟩
        ·
          refine own_go ?_ (fun target hr => XS.icmpYes X109.here hx rfl (pc0 := 217) (pc' := 231) rfl (hb hby at_217) rfl (feq hc217).2 (by decide) (by decide) (XS.iconst X109.here hx rfl (hb hby at_231) (XS.istore X109.here hx rfl (hb hby at_232) rfl (l' := #[iv p1, iv p2, iv p3, iv p4, iv p5, iv (3 : Int32), iv z91_0, iv z93_0, iv z95_0, iv z97_0, rv b99, iv (0 : Int32), iv (0 : Int32), .unset]) rfl (XS.iload X109.here hx rfl (hb hby at_234) rfl (XS.iconst X109.here hx rfl (hb hby at_236) (XS.icmpNo X109.here hx rfl (hb hby at_237) rfl (teq (by decide : (3 : Int32) = (3 : Int32))).2 (XS.iload X109.here hx rfl (hb hby at_240) rfl (XS.ifNo X109.here hx rfl (hb hby at_242) rfl ((if0 _ _).trans (teq (by decide : (0 : Int32) = (0 : Int32))).2) hr))))))))
          show own_G _ p e below s _ _ _ (T109.setTop (mkF m 245 #[iv p1, iv p2, iv p3, iv p4, iv p5, iv (3 : Int32), iv z91_0, iv z93_0, iv z95_0, iv z97_0, rv b99, iv (0 : Int32), iv (0 : Int32), .unset] []))
          refine own_go ?_ (fun target hr => XS.iload X109.here hx rfl (hb hby at_245) rfl (XS.ifYes X109.here hx rfl (pc0 := 247) (pc' := 254) rfl (hb hby at_247) rfl ((if0 _ _).trans (teq (by decide : (0 : Int32) = (0 : Int32))).1) (by decide) (by decide) (XS.iconst X109.here hx rfl (hb hby at_254) (XS.istore X109.here hx rfl (hb hby at_255) rfl (l' := #[iv p1, iv p2, iv p3, iv p4, iv p5, iv (3 : Int32), iv z91_0, iv z93_0, iv z95_0, iv z97_0, rv b99, iv (0 : Int32), iv (0 : Int32), iv (0 : Int32)]) rfl (XS.aload X109.here hx rfl (hb hby at_257) rfl rfl hr)))))
          show own_G _ p e below s _ _ _ (T109.setTop (mkF m 259 #[iv p1, iv p2, iv p3, iv p4, iv p5, iv (3 : Int32), iv z91_0, iv z93_0, iv z95_0, iv z97_0, rv b99, iv (0 : Int32), iv (0 : Int32), iv (0 : Int32)] [(.ref b99)]))
          obtain ⟨_, _, ⟨T121, L121, k121, n121⟩, -, X121a, hS121a, hg121a, ⟨Lc121, hQ121, l121, y121, z121, H121c⟩, st121⟩ := callSS X109 hx (y := (⟨"com/example/prita/prita/gnss/GnssTime", "carriesTime", "(Ljava/lang/String;)Z"⟩ : MethodName)) hown (mvT hZ (hw _ (List.mem_of_getElem? (i := 27) rfl))) (mvT hZ (hw _ (List.mem_of_getElem? (i := 28) rfl))) (mvT hZ (hw _ (List.mem_of_getElem? (i := 29) rfl))) (mvT hZ (hw _ (List.mem_of_getElem? (i := 30) rfl))) (by decide) (backOfSH (s := s) (vm0 := s.vm) (W := 0) (rm_ct_3n l Z a0 hw [] b99 t109 kt109 z91_0 z93_0 z95_0 zc T109.heap n0 (Nat.le_trans (Nat.le_trans (Nat.le_trans (Nat.le_trans (Nat.le_trans (Nat.le_trans (Nat.le_trans (Nat.le_trans (Nat.le_trans (Nat.le_trans Z0 K91.1) K93.1) K95.1) K97.1) E99.1) E101.1) (Keep.of_wr W103).1) (Keep.of_wr W105).1) (Keep.of_wr W107).1) K109.1) P109_0 P109_2 P109_1 P109_3 ((((((((((hold.keep K91 all0).keep K93 all0).keep K95 all0).keep K97 all0).ext E99).ext E101).wr W103 g_b101).wr W105 g_b101).wr W107 g_b101).keep K109 (allS g_b99 all0)) S_COMPACT_STRINGS (by intro c hc; simp only [List.mem_cons, List.not_mem_nil, or_false] at hc; rcases hc with rfl | rfl | rfl; exact P91_0; exact P93_0; exact P95_0) hz (fun q => hc182 q.1) (fun q => hc217 q.2.1)) hZ (hw _ (List.mem_of_getElem? (i := 30) rfl)) (hw _ (List.mem_of_getElem? (i := 29) rfl)) (by decide) (by decide) hEL C110.1) (g := (mkF m 259 #[iv p1, iv p2, iv p3, iv p4, iv p5, iv (3 : Int32), iv z91_0, iv z93_0, iv z95_0, iv z97_0, rv b99, iv (0 : Int32), iv (0 : Int32), iv (0 : Int32)] [(.ref b99)])) rfl (by rw [hml]; rfl) (argsL := [(.ref b99)]) (rest := []) (lenOf pd__Ljava_lang_String__Z rfl) rfl (by show 2 * 0 + _ ≤ _; exact Nat.le_of_eq rfl) (hb hby at_259) (fun _ _ => ⟨rfl, rfl, (by decide : 7 + 4 ≤ _), (by decide : 42 + 32 ≤ _)⟩)
          dsimp only [Pt.U, Pt.locs, Pt.cells, Pt.slots] at X121a hS121a hg121a l121 y121 z121 st121 hQ121 H121c
          subst l121 y121 z121
          obtain ⟨X121, hS121, hZ, hown⟩ := rebS (s := s) (vm0 := s.vm) (State.WarmedH.since (State.WarmedH.refl s) 0) (Nat.zero_le _) X121a hS121a hg121a hZ hown
          obtain ⟨rfl, N121q, K121⟩ := hQ121
          have C122 := C110.trans H121c
          have S122_b99 := H121c.safe P109_0.lt S110_b99
          have N121 := Fr.app N109 N121q
          refine own_go ?_ (fun target hr => st121.trans (XS.iload X121.here hx rfl (hb hby at_262) rfl (XS.icmpNo X121.here hx rfl (hb hby at_264) rfl (teq (by decide : (0 : Int32) = (0 : Int32))).2 (XS.iconst X121.here hx rfl (hb hby at_267) (XS.goto X121.here hx rfl (pc0 := 268) (pc' := 272) rfl (hb hby at_268) (by decide) (by decide) hr)))))
          show own_G _ p e below s _ _ _ (T121.setTop (mkF m 272 #[iv p1, iv p2, iv p3, iv p4, iv p5, iv (3 : Int32), iv z91_0, iv z93_0, iv z95_0, iv z97_0, rv b99, iv (0 : Int32), iv (0 : Int32), iv (0 : Int32)] [(.int (1 : Int32))]))
          obtain ⟨fs, hr, hrun, hended, hRW⟩ := Stand.leaveW (s := s) (vm₁ := T121.vm) X121 hS121 (Nat.le_refl _) (v := some (.int (1 : Int32))) (fun h => by rw [Bd.returns] at h; cases h)
          have hCe := C122.trans (CHv.at (s := s) (vm0 := T121.vm) X121 hZ hEL C122.1)
          exact ⟨_, _, retN X121 hx (t := .boolean) Bd.returns (by simp) (hb hby at_272) hr, hrun, hended, _, _, rfl, ⟨rfl, N121, trivial⟩, (by rw [hh, show (T121.setFrames fs).heap = T121.heap from rfl]; exact hCe), hRW.1, hRW.2.1, hRW.2.2.1, hRW.2.2.2.mono (by decide) (by decide)⟩
      ·
        refine own_go ?_ (fun target hr => XS.icmpYes X109.here hx rfl (pc0 := 210) (pc' := 231) rfl (hb hby at_210) rfl (feq hc210).2 (by decide) (by decide) (XS.iconst X109.here hx rfl (hb hby at_231) (XS.istore X109.here hx rfl (hb hby at_232) rfl (l' := #[iv p1, iv p2, iv p3, iv p4, iv p5, iv (3 : Int32), iv z91_0, iv z93_0, iv z95_0, iv z97_0, rv b99, iv (0 : Int32), iv (0 : Int32), .unset]) rfl (XS.iload X109.here hx rfl (hb hby at_234) rfl (XS.iconst X109.here hx rfl (hb hby at_236) (XS.icmpNo X109.here hx rfl (hb hby at_237) rfl (teq (by decide : (3 : Int32) = (3 : Int32))).2 (XS.iload X109.here hx rfl (hb hby at_240) rfl (XS.ifNo X109.here hx rfl (hb hby at_242) rfl ((if0 _ _).trans (teq (by decide : (0 : Int32) = (0 : Int32))).2) hr))))))))
        show own_G _ p e below s _ _ _ (T109.setTop (mkF m 245 #[iv p1, iv p2, iv p3, iv p4, iv p5, iv (3 : Int32), iv z91_0, iv z93_0, iv z95_0, iv z97_0, rv b99, iv (0 : Int32), iv (0 : Int32), .unset] []))
        refine own_go ?_ (fun target hr => XS.iload X109.here hx rfl (hb hby at_245) rfl (XS.ifYes X109.here hx rfl (pc0 := 247) (pc' := 254) rfl (hb hby at_247) rfl ((if0 _ _).trans (teq (by decide : (0 : Int32) = (0 : Int32))).1) (by decide) (by decide) (XS.iconst X109.here hx rfl (hb hby at_254) (XS.istore X109.here hx rfl (hb hby at_255) rfl (l' := #[iv p1, iv p2, iv p3, iv p4, iv p5, iv (3 : Int32), iv z91_0, iv z93_0, iv z95_0, iv z97_0, rv b99, iv (0 : Int32), iv (0 : Int32), iv (0 : Int32)]) rfl (XS.aload X109.here hx rfl (hb hby at_257) rfl rfl hr)))))
        show own_G _ p e below s _ _ _ (T109.setTop (mkF m 259 #[iv p1, iv p2, iv p3, iv p4, iv p5, iv (3 : Int32), iv z91_0, iv z93_0, iv z95_0, iv z97_0, rv b99, iv (0 : Int32), iv (0 : Int32), iv (0 : Int32)] [(.ref b99)]))
        obtain ⟨_, _, ⟨T123, L123, k123, n123⟩, -, X123a, hS123a, hg123a, ⟨Lc123, hQ123, l123, y123, z123, H123c⟩, st123⟩ := callSS X109 hx (y := (⟨"com/example/prita/prita/gnss/GnssTime", "carriesTime", "(Ljava/lang/String;)Z"⟩ : MethodName)) hown (mvT hZ (hw _ (List.mem_of_getElem? (i := 27) rfl))) (mvT hZ (hw _ (List.mem_of_getElem? (i := 28) rfl))) (mvT hZ (hw _ (List.mem_of_getElem? (i := 29) rfl))) (mvT hZ (hw _ (List.mem_of_getElem? (i := 30) rfl))) (by decide) (backOfSH (s := s) (vm0 := s.vm) (W := 0) (rm_ct_3n l Z a0 hw [] b99 t109 kt109 z91_0 z93_0 z95_0 zc T109.heap n0 (Nat.le_trans (Nat.le_trans (Nat.le_trans (Nat.le_trans (Nat.le_trans (Nat.le_trans (Nat.le_trans (Nat.le_trans (Nat.le_trans (Nat.le_trans Z0 K91.1) K93.1) K95.1) K97.1) E99.1) E101.1) (Keep.of_wr W103).1) (Keep.of_wr W105).1) (Keep.of_wr W107).1) K109.1) P109_0 P109_2 P109_1 P109_3 ((((((((((hold.keep K91 all0).keep K93 all0).keep K95 all0).keep K97 all0).ext E99).ext E101).wr W103 g_b101).wr W105 g_b101).wr W107 g_b101).keep K109 (allS g_b99 all0)) S_COMPACT_STRINGS (by intro c hc; simp only [List.mem_cons, List.not_mem_nil, or_false] at hc; rcases hc with rfl | rfl | rfl; exact P91_0; exact P93_0; exact P95_0) hz (fun q => hc182 q.1) (fun q => hc210 q.1)) hZ (hw _ (List.mem_of_getElem? (i := 30) rfl)) (hw _ (List.mem_of_getElem? (i := 29) rfl)) (by decide) (by decide) hEL C110.1) (g := (mkF m 259 #[iv p1, iv p2, iv p3, iv p4, iv p5, iv (3 : Int32), iv z91_0, iv z93_0, iv z95_0, iv z97_0, rv b99, iv (0 : Int32), iv (0 : Int32), iv (0 : Int32)] [(.ref b99)])) rfl (by rw [hml]; rfl) (argsL := [(.ref b99)]) (rest := []) (lenOf pd__Ljava_lang_String__Z rfl) rfl (by show 2 * 0 + _ ≤ _; exact Nat.le_of_eq rfl) (hb hby at_259) (fun _ _ => ⟨rfl, rfl, (by decide : 7 + 4 ≤ _), (by decide : 42 + 32 ≤ _)⟩)
        dsimp only [Pt.U, Pt.locs, Pt.cells, Pt.slots] at X123a hS123a hg123a l123 y123 z123 st123 hQ123 H123c
        subst l123 y123 z123
        obtain ⟨X123, hS123, hZ, hown⟩ := rebS (s := s) (vm0 := s.vm) (State.WarmedH.since (State.WarmedH.refl s) 0) (Nat.zero_le _) X123a hS123a hg123a hZ hown
        obtain ⟨rfl, N123q, K123⟩ := hQ123
        have C124 := C110.trans H123c
        have S124_b99 := H123c.safe P109_0.lt S110_b99
        have N123 := Fr.app N109 N123q
        refine own_go ?_ (fun target hr => st123.trans (XS.iload X123.here hx rfl (hb hby at_262) rfl (XS.icmpNo X123.here hx rfl (hb hby at_264) rfl (teq (by decide : (0 : Int32) = (0 : Int32))).2 (XS.iconst X123.here hx rfl (hb hby at_267) (XS.goto X123.here hx rfl (pc0 := 268) (pc' := 272) rfl (hb hby at_268) (by decide) (by decide) hr)))))
        show own_G _ p e below s _ _ _ (T123.setTop (mkF m 272 #[iv p1, iv p2, iv p3, iv p4, iv p5, iv (3 : Int32), iv z91_0, iv z93_0, iv z95_0, iv z97_0, rv b99, iv (0 : Int32), iv (0 : Int32), iv (0 : Int32)] [(.int (1 : Int32))]))
        obtain ⟨fs, hr, hrun, hended, hRW⟩ := Stand.leaveW (s := s) (vm₁ := T123.vm) X123 hS123 (Nat.le_refl _) (v := some (.int (1 : Int32))) (fun h => by rw [Bd.returns] at h; cases h)
        have hCe := C124.trans (CHv.at (s := s) (vm0 := T123.vm) X123 hZ hEL C124.1)
        exact ⟨_, _, retN X123 hx (t := .boolean) Bd.returns (by simp) (hb hby at_272) hr, hrun, hended, _, _, rfl, ⟨rfl, N123, trivial⟩, (by rw [hh, show (T123.setFrames fs).heap = T123.heap from rfl]; exact hCe), hRW.1, hRW.2.1, hRW.2.2.1, hRW.2.2.2.mono (by decide) (by decide)⟩
  ·
    rw [hs6_4]
    show own_G _ p e below s _ _ _ (s₁.setTop (mkF m 6 #[iv p1, iv p2, iv p3, iv p4, iv p5, .unset, .unset, .unset, .unset, .unset, .unset, .unset, .unset, .unset] [(.int (4 : Int32))]))
    refine own_go ?_ (fun target hr => XS.istore X0.here hx rfl (hb hby at_6) rfl (l' := #[iv p1, iv p2, iv p3, iv p4, iv p5, iv (4 : Int32), .unset, .unset, .unset, .unset, .unset, .unset, .unset, .unset]) rfl (XS.iloadN X0.here hx rfl (hb hby at_8) rfl hr))
    show own_G _ p e below s _ _ _ (s₁.setTop (mkF m 9 #[iv p1, iv p2, iv p3, iv p4, iv p5, iv (4 : Int32), .unset, .unset, .unset, .unset, .unset, .unset, .unset, .unset] [(.int p2)]))
    obtain ⟨_, _, ⟨T125, L125, k125, n125⟩, -, X125, ⟨Lc125, hQ125, l125, y125, z125⟩, st125⟩ := Jvm.LawKit.callS X0 hx (y := (⟨"com/example/prita/prita/gnss/GnssTimeCarriesTimePinLaw", "pick", "(I)C"⟩ : MethodName)) hown (mvT hZ (hw _ (List.mem_of_getElem? (i := 1) rfl))) (mvT hZ (hw _ (List.mem_of_getElem? (i := 2) rfl))) (mvT hZ (hw _ (List.mem_of_getElem? (i := 3) rfl))) (mvT hZ (hw _ (List.mem_of_getElem? (i := 4) rfl))) (by decide) (backOf (W := 0) (rm1 l Z a0 hw [] p2 h0 n0 Z0 ) hZ (hw _ (List.mem_of_getElem? (i := 4) rfl)) (hw _ (List.mem_of_getElem? (i := 3) rfl)) (by decide) (by decide)) (g := (mkF m 9 #[iv p1, iv p2, iv p3, iv p4, iv p5, iv (4 : Int32), .unset, .unset, .unset, .unset, .unset, .unset, .unset, .unset] [(.int p2)])) rfl (by rw [hml]; rfl) (argsL := [(.int p2)]) (rest := []) (lenOf pd__I_C rfl) rfl (by show 2 * 0 + _ ≤ _; exact Nat.le_of_eq rfl) (hb hby at_9) (fun _ _ => ⟨rfl, e0, (by decide : 0 + 1 ≤ _), (by decide : 0 + 8 ≤ _)⟩)
    dsimp only [Pt.U, Pt.locs, Pt.cells, Pt.slots] at X125 l125 y125 z125 st125 hQ125
    subst l125 y125 z125
    obtain ⟨z125_0, rfl, N125q, K125, P125_0⟩ := hQ125
    have C126 := hC0.trans (CHr.keep K125 all0 hC0.1)
    have N125 := Fr.app N0 N125q
    refine own_go ?_ (fun target hr => st125 _ (XS.istore X125.here hx rfl (hb hby at_12) rfl (l' := #[iv p1, iv p2, iv p3, iv p4, iv p5, iv (4 : Int32), iv z125_0, .unset, .unset, .unset, .unset, .unset, .unset, .unset]) rfl (XS.iloadN X125.here hx rfl (hb hby at_14) rfl hr)))
    show own_G _ p e below s _ _ _ (T125.setTop (mkF m 15 #[iv p1, iv p2, iv p3, iv p4, iv p5, iv (4 : Int32), iv z125_0, .unset, .unset, .unset, .unset, .unset, .unset, .unset] [(.int p3)]))
    obtain ⟨_, _, ⟨T127, L127, k127, n127⟩, -, X127, ⟨Lc127, hQ127, l127, y127, z127⟩, st127⟩ := Jvm.LawKit.callS X125 hx (y := (⟨"com/example/prita/prita/gnss/GnssTimeCarriesTimePinLaw", "pick", "(I)C"⟩ : MethodName)) hown (mvT hZ (hw _ (List.mem_of_getElem? (i := 1) rfl))) (mvT hZ (hw _ (List.mem_of_getElem? (i := 2) rfl))) (mvT hZ (hw _ (List.mem_of_getElem? (i := 3) rfl))) (mvT hZ (hw _ (List.mem_of_getElem? (i := 4) rfl))) (by decide) (backOf (W := 0) (rm1 l Z a0 hw [] p3 T125.heap n0 (Nat.le_trans Z0 K125.1) ) hZ (hw _ (List.mem_of_getElem? (i := 4) rfl)) (hw _ (List.mem_of_getElem? (i := 3) rfl)) (by decide) (by decide)) (g := (mkF m 15 #[iv p1, iv p2, iv p3, iv p4, iv p5, iv (4 : Int32), iv z125_0, .unset, .unset, .unset, .unset, .unset, .unset, .unset] [(.int p3)])) rfl (by rw [hml]; rfl) (argsL := [(.int p3)]) (rest := []) (lenOf pd__I_C rfl) rfl (by show 2 * 0 + _ ≤ _; exact Nat.le_of_eq rfl) (hb hby at_15) (fun _ _ => ⟨rfl, rfl, (by decide : 1 + 1 ≤ _), (by decide : 8 + 8 ≤ _)⟩)
    dsimp only [Pt.U, Pt.locs, Pt.cells, Pt.slots] at X127 l127 y127 z127 st127 hQ127
    subst l127 y127 z127
    obtain ⟨z127_0, rfl, N127q, K127, P127_0⟩ := hQ127
    have C128 := C126.trans (CHr.keep K127 all0 C126.1)
    have N127 := Fr.app N125 N127q
    refine own_go ?_ (fun target hr => st127 _ (XS.istore X127.here hx rfl (hb hby at_18) rfl (l' := #[iv p1, iv p2, iv p3, iv p4, iv p5, iv (4 : Int32), iv z125_0, iv z127_0, .unset, .unset, .unset, .unset, .unset, .unset]) rfl (XS.iloadN X127.here hx rfl (hb hby at_20) rfl hr)))
    show own_G _ p e below s _ _ _ (T127.setTop (mkF m 21 #[iv p1, iv p2, iv p3, iv p4, iv p5, iv (4 : Int32), iv z125_0, iv z127_0, .unset, .unset, .unset, .unset, .unset, .unset] [(.int p4)]))
    obtain ⟨_, _, ⟨T129, L129, k129, n129⟩, -, X129, ⟨Lc129, hQ129, l129, y129, z129⟩, st129⟩ := Jvm.LawKit.callS X127 hx (y := (⟨"com/example/prita/prita/gnss/GnssTimeCarriesTimePinLaw", "pick", "(I)C"⟩ : MethodName)) hown (mvT hZ (hw _ (List.mem_of_getElem? (i := 1) rfl))) (mvT hZ (hw _ (List.mem_of_getElem? (i := 2) rfl))) (mvT hZ (hw _ (List.mem_of_getElem? (i := 3) rfl))) (mvT hZ (hw _ (List.mem_of_getElem? (i := 4) rfl))) (by decide) (backOf (W := 0) (rm1 l Z a0 hw [] p4 T127.heap n0 (Nat.le_trans (Nat.le_trans Z0 K125.1) K127.1) ) hZ (hw _ (List.mem_of_getElem? (i := 4) rfl)) (hw _ (List.mem_of_getElem? (i := 3) rfl)) (by decide) (by decide)) (g := (mkF m 21 #[iv p1, iv p2, iv p3, iv p4, iv p5, iv (4 : Int32), iv z125_0, iv z127_0, .unset, .unset, .unset, .unset, .unset, .unset] [(.int p4)])) rfl (by rw [hml]; rfl) (argsL := [(.int p4)]) (rest := []) (lenOf pd__I_C rfl) rfl (by show 2 * 0 + _ ≤ _; exact Nat.le_of_eq rfl) (hb hby at_21) (fun _ _ => ⟨rfl, rfl, (by decide : 2 + 1 ≤ _), (by decide : 16 + 8 ≤ _)⟩)
    dsimp only [Pt.U, Pt.locs, Pt.cells, Pt.slots] at X129 l129 y129 z129 st129 hQ129
    subst l129 y129 z129
    obtain ⟨z129_0, rfl, N129q, K129, P129_0⟩ := hQ129
    have C130 := C128.trans (CHr.keep K129 all0 C128.1)
    have N129 := Fr.app N127 N129q
    refine own_go ?_ (fun target hr => st129 _ (XS.istore X129.here hx rfl (hb hby at_24) rfl (l' := #[iv p1, iv p2, iv p3, iv p4, iv p5, iv (4 : Int32), iv z125_0, iv z127_0, iv z129_0, .unset, .unset, .unset, .unset, .unset]) rfl (XS.iload X129.here hx rfl (hb hby at_26) rfl hr)))
    show own_G _ p e below s _ _ _ (T129.setTop (mkF m 28 #[iv p1, iv p2, iv p3, iv p4, iv p5, iv (4 : Int32), iv z125_0, iv z127_0, iv z129_0, .unset, .unset, .unset, .unset, .unset] [(.int p5)]))
    obtain ⟨_, _, ⟨T131, L131, k131, n131⟩, -, X131, ⟨Lc131, hQ131, l131, y131, z131⟩, st131⟩ := Jvm.LawKit.callS X129 hx (y := (⟨"com/example/prita/prita/gnss/GnssTimeCarriesTimePinLaw", "pick", "(I)C"⟩ : MethodName)) hown (mvT hZ (hw _ (List.mem_of_getElem? (i := 1) rfl))) (mvT hZ (hw _ (List.mem_of_getElem? (i := 2) rfl))) (mvT hZ (hw _ (List.mem_of_getElem? (i := 3) rfl))) (mvT hZ (hw _ (List.mem_of_getElem? (i := 4) rfl))) (by decide) (backOf (W := 0) (rm1 l Z a0 hw [] p5 T129.heap n0 (Nat.le_trans (Nat.le_trans (Nat.le_trans Z0 K125.1) K127.1) K129.1) ) hZ (hw _ (List.mem_of_getElem? (i := 4) rfl)) (hw _ (List.mem_of_getElem? (i := 3) rfl)) (by decide) (by decide)) (g := (mkF m 28 #[iv p1, iv p2, iv p3, iv p4, iv p5, iv (4 : Int32), iv z125_0, iv z127_0, iv z129_0, .unset, .unset, .unset, .unset, .unset] [(.int p5)])) rfl (by rw [hml]; rfl) (argsL := [(.int p5)]) (rest := []) (lenOf pd__I_C rfl) rfl (by show 2 * 0 + _ ≤ _; exact Nat.le_of_eq rfl) (hb hby at_28) (fun _ _ => ⟨rfl, rfl, (by decide : 3 + 1 ≤ _), (by decide : 24 + 8 ≤ _)⟩)
    dsimp only [Pt.U, Pt.locs, Pt.cells, Pt.slots] at X131 l131 y131 z131 st131 hQ131
    subst l131 y131 z131
    obtain ⟨z131_0, rfl, N131q, K131, P131_0⟩ := hQ131
    have C132 := C130.trans (CHr.keep K131 all0 C130.1)
    have N131 := Fr.app N129 N131q
    refine own_go ?_ (fun target hr => st131 _ (XS.istore X131.here hx rfl (hb hby at_31) rfl (l' := #[iv p1, iv p2, iv p3, iv p4, iv p5, iv (4 : Int32), iv z125_0, iv z127_0, iv z129_0, iv z131_0, .unset, .unset, .unset, .unset]) rfl (XS.iload X131.here hx rfl (hb hby at_33) rfl (XS.ifYes X131.here hx rfl (pc0 := 35) (pc' := 53) rfl (hb hby at_35) rfl ((if0 _ _).trans (feq (by decide : ¬ ((4 : Int32) = (0 : Int32)))).2) (by decide) (by decide) (XS.iload X131.here hx rfl (hb hby at_53) rfl (XS.iconst X131.here hx rfl (hb hby at_55) (XS.icmpYes X131.here hx rfl (pc0 := 56) (pc' := 79) rfl (hb hby at_56) rfl (feq (by decide : ¬ ((4 : Int32) = (1 : Int32)))).2 (by decide) (by decide) (XS.iload X131.here hx rfl (hb hby at_79) rfl hr))))))))
    show own_G _ p e below s _ _ _ (T131.setTop (mkF m 81 #[iv p1, iv p2, iv p3, iv p4, iv p5, iv (4 : Int32), iv z125_0, iv z127_0, iv z129_0, iv z131_0, .unset, .unset, .unset, .unset] [(.int (4 : Int32))]))
    refine own_go ?_ (fun target hr => XS.iconst X131.here hx rfl (hb hby at_81) (XS.icmpYes X131.here hx rfl (pc0 := 82) (pc' := 110) rfl (hb hby at_82) rfl (feq (by decide : ¬ ((4 : Int32) = (2 : Int32)))).2 (by decide) (by decide) (XS.iload X131.here hx rfl (hb hby at_110) rfl (XS.iconst X131.here hx rfl (hb hby at_112) (XS.icmpYes X131.here hx rfl (pc0 := 113) (pc' := 146) rfl (hb hby at_113) rfl (feq (by decide : ¬ ((4 : Int32) = (3 : Int32)))).2 (by decide) (by decide) hr)))))
    show own_G _ p e below s _ _ _ (T131.setTop (mkF m 146 #[iv p1, iv p2, iv p3, iv p4, iv p5, iv (4 : Int32), iv z125_0, iv z127_0, iv z129_0, iv z131_0, .unset, .unset, .unset, .unset] []))
    obtain ⟨T133, h133, X133, e133, E133, A133, D133, -, st133⟩ := newO X131 hx hZ hown (hw _ (List.mem_of_getElem? (i := 6) rfl)) (hw _ (List.mem_of_getElem? (i := 7) rfl)) (hw _ (List.mem_of_getElem? (i := 8) rfl)) rfl (g := (mkF m 146 #[iv p1, iv p2, iv p3, iv p4, iv p5, iv (4 : Int32), iv z125_0, iv z127_0, iv z129_0, iv z131_0, .unset, .unset, .unset, .unset] [])) rfl (hb hby at_146) (by decide) (by decide)
    obtain ⟨b133, g133⟩ : ∃ z, z = T131.heap.size := ⟨_, rfl⟩
    rw [← g133] at A133 D133 st133
    have g_b133 : n0 ≤ b133 := Nat.le_trans (Nat.le_trans (Nat.le_trans (Nat.le_trans (Nat.le_trans Z0 K125.1) K127.1) K129.1) K131.1) (Nat.le_of_eq g133.symm)
    have S0_b133 : Safe Z consts_1 s.vm T131.heap b133 := Safe.new (Nat.le_of_eq g133.symm)
    have C134 := C132.trans (CHr.ext E133 C132.1)
    have S134_b133 := Safe.ext E133 C132.1 S0_b133
    have F133_21 : Fld Z h133 b133 "java/lang/String" "value" "[B" .null := D133 (Or.inr (hw _ (List.mem_of_getElem? (i := 21) rfl))) (ty := (.array .byte)) (by decide)
    have F133_22 : Fld Z h133 b133 "java/lang/String" "coder" "B" (.int (0 : Int32)) := D133 (Or.inr (hw _ (List.mem_of_getElem? (i := 22) rfl))) (ty := .byte) (by decide)
    refine own_go ?_ (fun target hr => st133 _ (XS.dup X133.here hx rfl (hb hby at_149) rfl rfl (XS.iconst X133.here hx rfl (hb hby at_150) hr)))
    show own_G _ p e below s _ _ _ (T133.setTop (mkF m 151 #[iv p1, iv p2, iv p3, iv p4, iv p5, iv (4 : Int32), iv z125_0, iv z127_0, iv z129_0, iv z131_0, .unset, .unset, .unset, .unset] [(.int (4 : Int32)), (.ref b133), (.ref b133)]))
    obtain ⟨T135, h135, k135, X135, e135, E135, A135, st135⟩ := newP X133 hx hZ (hw _ (List.mem_of_getElem? (i := 5) rfl)) e133 (g := (mkF m 151 #[iv p1, iv p2, iv p3, iv p4, iv p5, iv (4 : Int32), iv z125_0, iv z127_0, iv z129_0, iv z131_0, .unset, .unset, .unset, .unset] [(.int (4 : Int32)), (.ref b133), (.ref b133)])) rfl (hb hby at_151) rfl (by decide) (cap := 4) (by decide) (by decide) (by decide) (by decide)
    obtain ⟨b135, g135⟩ : ∃ z, z = h133.size := ⟨_, rfl⟩
    rw [← g135] at A135 st135
    have V135 : Arv Z h135 b135 k135 .char (4 : Int32) [(.int (0 : Int32)), (.int (0 : Int32)), (.int (0 : Int32)), (.int (0 : Int32))] (.int (0 : Int32)) := (Arv.new A135 (by decide)).pad (pad_rep [] (.int (0 : Int32)) 4)
    have g_b135 : n0 ≤ b135 := Nat.le_trans (Nat.le_trans (Nat.le_trans (Nat.le_trans (Nat.le_trans (Nat.le_trans Z0 K125.1) K127.1) K129.1) K131.1) E133.1) (Nat.le_of_eq g135.symm)
    have C136 := C134.trans (CHr.ext E135 C134.1)
    have S136_b133 := Safe.ext E135 C134.1 S134_b133
    refine own_go ?_ (fun target hr => st135 _ (XS.dup X135.here hx rfl (hb hby at_153) rfl rfl (XS.iconst X135.here hx rfl (hb hby at_154) (XS.iload X135.here hx rfl (hb hby at_155) rfl hr))))
    show own_G _ p e below s _ _ _ (T135.setTop (mkF m 157 #[iv p1, iv p2, iv p3, iv p4, iv p5, iv (4 : Int32), iv z125_0, iv z127_0, iv z129_0, iv z131_0, .unset, .unset, .unset, .unset] [(.int z125_0), (.int (0 : Int32)), (.ref b135), (.ref b135), (.ref b133), (.ref b133)]))
    obtain ⟨cl137, Ar137, qk137, S137, M137, H137, G137⟩ := id V135
    have hin137 : ¬ ((0 : Int32) < 0 ∨ cl137.slots.size ≤ ((0 : Int32)).toNatClampNeg) := inb_of S137 ⟨by decide, by decide⟩
    obtain ⟨T137, h137, X137, e137, W137, st137⟩ := stC X135 hx hZ e135 Ar137 (j := (0 : Int32)) hin137 (g := (mkF m 157 #[iv p1, iv p2, iv p3, iv p4, iv p5, iv (4 : Int32), iv z125_0, iv z127_0, iv z129_0, iv z131_0, .unset, .unset, .unset, .unset] [(.int z125_0), (.int (0 : Int32)), (.ref b135), (.ref b135), (.ref b133), (.ref b133)])) rfl rfl (hb hby at_157)
    rw [own_nar P125_0] at W137
    have V137 : Arv Z h137 b135 k135 .char (4 : Int32) [(.int z125_0), (.int (0 : Int32)), (.int (0 : Int32)), (.int (0 : Int32))] (.int (0 : Int32)) := Arv.set Ar137 qk137 S137 M137 H137 G137 (own_fitc P125_0) W137 0 rfl (Nat.le_of_ble_eq_true rfl)
    have N137 := Fr.snoc X137 N131 g_b135
    have C138 := C136.trans (CHr.wr W137 (own_safeV hZ.alike V135 (by decide)) C136.1)
    have S138_b133 := Safe.wr W137 (own_safeV hZ.alike V135 (by decide)) C136.1 S136_b133
    refine own_go ?_ (fun target hr => st137 _ (XS.dup X137.here hx rfl (hb hby at_158) rfl rfl (XS.iconst X137.here hx rfl (hb hby at_159) (XS.iload X137.here hx rfl (hb hby at_160) rfl hr))))
    show own_G _ p e below s _ _ _ (T137.setTop (mkF m 162 #[iv p1, iv p2, iv p3, iv p4, iv p5, iv (4 : Int32), iv z125_0, iv z127_0, iv z129_0, iv z131_0, .unset, .unset, .unset, .unset] [(.int z127_0), (.int (1 : Int32)), (.ref b135), (.ref b135), (.ref b133), (.ref b133)]))
    obtain ⟨cl139, Ar139, qk139, S139, M139, H139, G139⟩ := id V137
    have hin139 : ¬ ((1 : Int32) < 0 ∨ cl139.slots.size ≤ ((1 : Int32)).toNatClampNeg) := inb_of S139 ⟨by decide, by decide⟩
    obtain ⟨T139, h139, X139, e139, W139, st139⟩ := stC X137 hx hZ e137 Ar139 (j := (1 : Int32)) hin139 (g := (mkF m 162 #[iv p1, iv p2, iv p3, iv p4, iv p5, iv (4 : Int32), iv z125_0, iv z127_0, iv z129_0, iv z131_0, .unset, .unset, .unset, .unset] [(.int z127_0), (.int (1 : Int32)), (.ref b135), (.ref b135), (.ref b133), (.ref b133)])) rfl rfl (hb hby at_162)
    rw [own_nar P127_0] at W139
    have V139 : Arv Z h139 b135 k135 .char (4 : Int32) [(.int z125_0), (.int z127_0), (.int (0 : Int32)), (.int (0 : Int32))] (.int (0 : Int32)) := Arv.set Ar139 qk139 S139 M139 H139 G139 (own_fitc P127_0) W139 1 rfl (Nat.le_of_ble_eq_true rfl)
    have N139 := Fr.snoc X139 N137 g_b135
    have C140 := C138.trans (CHr.wr W139 (own_safeV hZ.alike V137 (by decide)) C138.1)
    have S140_b133 := Safe.wr W139 (own_safeV hZ.alike V137 (by decide)) C138.1 S138_b133
    refine own_go ?_ (fun target hr => st139 _ (XS.dup X139.here hx rfl (hb hby at_163) rfl rfl (XS.iconst X139.here hx rfl (hb hby at_164) (XS.iload X139.here hx rfl (hb hby at_165) rfl hr))))
    show own_G _ p e below s _ _ _ (T139.setTop (mkF m 167 #[iv p1, iv p2, iv p3, iv p4, iv p5, iv (4 : Int32), iv z125_0, iv z127_0, iv z129_0, iv z131_0, .unset, .unset, .unset, .unset] [(.int z129_0), (.int (2 : Int32)), (.ref b135), (.ref b135), (.ref b133), (.ref b133)]))
    obtain ⟨cl141, Ar141, qk141, S141, M141, H141, G141⟩ := id V139
    have hin141 : ¬ ((2 : Int32) < 0 ∨ cl141.slots.size ≤ ((2 : Int32)).toNatClampNeg) := inb_of S141 ⟨by decide, by decide⟩
    obtain ⟨T141, h141, X141, e141, W141, st141⟩ := stC X139 hx hZ e139 Ar141 (j := (2 : Int32)) hin141 (g := (mkF m 167 #[iv p1, iv p2, iv p3, iv p4, iv p5, iv (4 : Int32), iv z125_0, iv z127_0, iv z129_0, iv z131_0, .unset, .unset, .unset, .unset] [(.int z129_0), (.int (2 : Int32)), (.ref b135), (.ref b135), (.ref b133), (.ref b133)])) rfl rfl (hb hby at_167)
    rw [own_nar P129_0] at W141
    have V141 : Arv Z h141 b135 k135 .char (4 : Int32) [(.int z125_0), (.int z127_0), (.int z129_0), (.int (0 : Int32))] (.int (0 : Int32)) := Arv.set Ar141 qk141 S141 M141 H141 G141 (own_fitc P129_0) W141 2 rfl (Nat.le_of_ble_eq_true rfl)
    have N141 := Fr.snoc X141 N139 g_b135
    have C142 := C140.trans (CHr.wr W141 (own_safeV hZ.alike V139 (by decide)) C140.1)
    have S142_b133 := Safe.wr W141 (own_safeV hZ.alike V139 (by decide)) C140.1 S140_b133
    refine own_go ?_ (fun target hr => st141 _ (XS.dup X141.here hx rfl (hb hby at_168) rfl rfl (XS.iconst X141.here hx rfl (hb hby at_169) (XS.iload X141.here hx rfl (hb hby at_170) rfl hr))))
    show own_G _ p e below s _ _ _ (T141.setTop (mkF m 172 #[iv p1, iv p2, iv p3, iv p4, iv p5, iv (4 : Int32), iv z125_0, iv z127_0, iv z129_0, iv z131_0, .unset, .unset, .unset, .unset] [(.int z131_0), (.int (3 : Int32)), (.ref b135), (.ref b135), (.ref b133), (.ref b133)]))
    obtain ⟨cl143, Ar143, qk143, S143, M143, H143, G143⟩ := id V141
    have hin143 : ¬ ((3 : Int32) < 0 ∨ cl143.slots.size ≤ ((3 : Int32)).toNatClampNeg) := inb_of S143 ⟨by decide, by decide⟩
    obtain ⟨T143, h143, X143, e143, W143, st143⟩ := stC X141 hx hZ e141 Ar143 (j := (3 : Int32)) hin143 (g := (mkF m 172 #[iv p1, iv p2, iv p3, iv p4, iv p5, iv (4 : Int32), iv z125_0, iv z127_0, iv z129_0, iv z131_0, .unset, .unset, .unset, .unset] [(.int z131_0), (.int (3 : Int32)), (.ref b135), (.ref b135), (.ref b133), (.ref b133)])) rfl rfl (hb hby at_172)
    rw [own_nar P131_0] at W143
    have V143 : Arv Z h143 b135 k135 .char (4 : Int32) [(.int z125_0), (.int z127_0), (.int z129_0), (.int z131_0)] (.int (0 : Int32)) := Arv.set Ar143 qk143 S143 M143 H143 G143 (own_fitc P131_0) W143 3 rfl (Nat.le_of_ble_eq_true rfl)
    have N143 := Fr.snoc X143 N141 g_b135
    have C144 := C142.trans (CHr.wr W143 (own_safeV hZ.alike V141 (by decide)) C142.1)
    have S144_b133 := Safe.wr W143 (own_safeV hZ.alike V141 (by decide)) C142.1 S142_b133
    refine own_go ?_ (fun target hr => st143 _ hr)
    show own_G _ p e below s _ _ _ (T143.setTop (mkF m 173 #[iv p1, iv p2, iv p3, iv p4, iv p5, iv (4 : Int32), iv z125_0, iv z127_0, iv z129_0, iv z131_0, .unset, .unset, .unset, .unset] [(.ref b135), (.ref b133), (.ref b133)]))
    obtain ⟨_, _, ⟨T145, L145, k145, n145⟩, -, X145, ⟨Lc145, hQ145, l145, y145, z145⟩, st145⟩ := X143.specialBack hx (y := (⟨"java/lang/String", "<init>", "([C)V"⟩ : MethodName)) rfl hown (mvT hZ (hw _ (List.mem_of_getElem? (i := 9) rfl))) (mvT hZ (hw _ (List.mem_of_getElem? (i := 10) rfl))) (mvT hZ (hw _ (List.mem_of_getElem? (i := 11) rfl))) (by decide) (StrChars.Road.backV (W := 1) hZ hws (kI := 4) (hw _ (List.mem_of_getElem? (i := 7) rfl)) (cs := ([z125_0, z127_0, z129_0, z131_0] : List Int32)) (bs := (([z125_0, z127_0, z129_0, z131_0] : List Int32)).map (fun c => c.toInt8.toInt32)) (n := 4) g_b133 (Nat.le_trans (Nat.le_trans (Nat.le_trans (Nat.le_trans (Nat.le_trans (Nat.le_trans (Nat.le_trans (Nat.le_trans (Nat.le_trans (Nat.le_trans Z0 K125.1) K127.1) K129.1) K131.1) E133.1) E135.1) (Keep.of_wr W137).1) (Keep.of_wr W139).1) (Keep.of_wr W141).1) (Keep.of_wr W143).1) (((((A133.ext E135).wr W137).wr W139).wr W141).wr W143) (((((F133_21.ext E135).other W137 (Or.inl (Nat.ne_of_lt (Nat.lt_of_lt_of_le A133.lt (Nat.le_of_eq g135.symm))))).other W139 (Or.inl (Nat.ne_of_lt (Nat.lt_of_lt_of_le A133.lt (Nat.le_of_eq g135.symm))))).other W141 (Or.inl (Nat.ne_of_lt (Nat.lt_of_lt_of_le A133.lt (Nat.le_of_eq g135.symm))))).other W143 (Or.inl (Nat.ne_of_lt (Nat.lt_of_lt_of_le A133.lt (Nat.le_of_eq g135.symm))))) (((((F133_22.ext E135).other W137 (Or.inl (Nat.ne_of_lt (Nat.lt_of_lt_of_le A133.lt (Nat.le_of_eq g135.symm))))).other W139 (Or.inl (Nat.ne_of_lt (Nat.lt_of_lt_of_le A133.lt (Nat.le_of_eq g135.symm))))).other W141 (Or.inl (Nat.ne_of_lt (Nat.lt_of_lt_of_le A133.lt (Nat.le_of_eq g135.symm))))).other W143 (Or.inl (Nat.ne_of_lt (Nat.lt_of_lt_of_le A133.lt (Nat.le_of_eq g135.symm))))) V143 (S_COMPACT_STRINGS.ext ((((((((((hold.keep K125 all0).keep K127 all0).keep K129 all0).keep K131 all0).ext E133).ext E135).wr W137 g_b135).wr W139 g_b135).wr W141 g_b135).wr W143 g_b135).2) hz rfl rfl (by decide) (by decide) (by intro c hc; simp only [List.mem_cons, List.not_mem_nil, or_false] at hc; rcases hc with rfl | rfl | rfl | rfl; exact P125_0; exact P127_0; exact P129_0; exact P131_0) rfl (by decide) (by decide)) (g := (mkF m 173 #[iv p1, iv p2, iv p3, iv p4, iv p5, iv (4 : Int32), iv z125_0, iv z127_0, iv z129_0, iv z131_0, .unset, .unset, .unset, .unset] [(.ref b135), (.ref b133), (.ref b133)])) rfl (by rw [hml]; rfl) (Steps.refl _) (a := b133) (argsL := [(.ref b135)]) (rest := [(.ref b133)]) (lenOf pd___C_V rfl) rfl (by show 2 * 0 + _ ≤ _; exact Nat.le_of_eq rfl) (hb hby at_173) (fun _ _ => ⟨rfl, e143, (by decide : 6 + 1 ≤ _), (by decide : 40 + 4 ≤ _)⟩)
    dsimp only [Pt.U, Pt.locs, Pt.cells, Pt.slots] at X145 l145 y145 z145 st145 hQ145
    subst l145 y145 z145
    obtain ⟨rfl, N145q, K145, P145_0, P145_1, t145, kt145, y145a, y145b, y145c, P145_2, P145_3⟩ := hQ145
    have g_t145 : n0 ≤ t145 := Nat.le_trans (Nat.le_trans (Nat.le_trans (Nat.le_trans (Nat.le_trans (Nat.le_trans (Nat.le_trans (Nat.le_trans (Nat.le_trans (Nat.le_trans (Nat.le_trans Z0 K125.1) K127.1) K129.1) K131.1) E133.1) E135.1) (Keep.of_wr W137).1) (Keep.of_wr W139).1) (Keep.of_wr W141).1) (Keep.of_wr W143).1) y145b
    have C146 := C144.trans (CHr.keep K145 (allS S144_b133 all0) C144.1)
    have S146_b133 := Safe.keep K145 (allS S144_b133 all0) C144.1 S144_b133
    have N145 := Fr.app N143 N145q
    refine own_go ?_ (fun target hr => st145.trans (XS.astore X145.here hx rfl (hb hby at_176) rfl rfl (l' := #[iv p1, iv p2, iv p3, iv p4, iv p5, iv (4 : Int32), iv z125_0, iv z127_0, iv z129_0, iv z131_0, rv b133, .unset, .unset, .unset]) rfl (XS.iload X145.here hx rfl (hb hby at_178) rfl (XS.bipush X145.here hx rfl (hb hby at_180) hr))))
    show own_G _ p e below s _ _ _ (T145.setTop (mkF m 182 #[iv p1, iv p2, iv p3, iv p4, iv p5, iv (4 : Int32), iv z125_0, iv z127_0, iv z129_0, iv z131_0, rv b133, .unset, .unset, .unset] [(.int (82 : Int32)), (.int z125_0)]))
    by_cases hc182 : z125_0 = (82 : Int32)
    ·
      refine own_go ?_ (fun target hr => XS.icmpNo X145.here hx rfl (hb hby at_182) rfl (teq hc182).2 (XS.iload X145.here hx rfl (hb hby at_185) rfl (XS.bipush X145.here hx rfl (hb hby at_187) hr)))
      show own_G _ p e below s _ _ _ (T145.setTop (mkF m 189 #[iv p1, iv p2, iv p3, iv p4, iv p5, iv (4 : Int32), iv z125_0, iv z127_0, iv z129_0, iv z131_0, rv b133, .unset, .unset, .unset] [(.int (77 : Int32)), (.int z127_0)]))
      by_cases hc189 : z127_0 = (77 : Int32)
      ·
        refine own_go ?_ (fun target hr => XS.icmpNo X145.here hx rfl (hb hby at_189) rfl (teq hc189).2 (XS.iload X145.here hx rfl (hb hby at_192) rfl (XS.bipush X145.here hx rfl (hb hby at_194) hr)))
        show own_G _ p e below s _ _ _ (T145.setTop (mkF m 196 #[iv p1, iv p2, iv p3, iv p4, iv p5, iv (4 : Int32), iv z125_0, iv z127_0, iv z129_0, iv z131_0, rv b133, .unset, .unset, .unset] [(.int (67 : Int32)), (.int z129_0)]))
        by_cases hc196 : z129_0 = (67 : Int32)
        ·
          refine own_go ?_ (fun target hr => XS.icmpNo X145.here hx rfl (hb hby at_196) rfl (teq hc196).2 (XS.iconst X145.here hx rfl (hb hby at_199) (XS.goto X145.here hx rfl (pc0 := 200) (pc' := 204) rfl (hb hby at_200) (by decide) (by decide) (XS.istore X145.here hx rfl (hb hby at_204) rfl (l' := #[iv p1, iv p2, iv p3, iv p4, iv p5, iv (4 : Int32), iv z125_0, iv z127_0, iv z129_0, iv z131_0, rv b133, iv (1 : Int32), .unset, .unset]) rfl (XS.iload X145.here hx rfl (hb hby at_206) rfl (XS.bipush X145.here hx rfl (hb hby at_208) (XS.icmpYes X145.here hx rfl (pc0 := 210) (pc' := 231) rfl (hb hby at_210) rfl (feq (fun q => absurd (hc182.symm.trans q) (by decide))).2 (by decide) (by decide) (XS.iconst X145.here hx rfl (hb hby at_231) hr))))))))
          show own_G _ p e below s _ _ _ (T145.setTop (mkF m 232 #[iv p1, iv p2, iv p3, iv p4, iv p5, iv (4 : Int32), iv z125_0, iv z127_0, iv z129_0, iv z131_0, rv b133, iv (1 : Int32), .unset, .unset] [(.int (0 : Int32))]))
          refine own_go ?_ (fun target hr => XS.istore X145.here hx rfl (hb hby at_232) rfl (l' := #[iv p1, iv p2, iv p3, iv p4, iv p5, iv (4 : Int32), iv z125_0, iv z127_0, iv z129_0, iv z131_0, rv b133, iv (1 : Int32), iv (0 : Int32), .unset]) rfl (XS.iload X145.here hx rfl (hb hby at_234) rfl (XS.iconst X145.here hx rfl (hb hby at_236) (XS.icmpYes X145.here hx rfl (pc0 := 237) (pc' := 254) rfl (hb hby at_237) rfl (feq (by decide : ¬ ((4 : Int32) = (3 : Int32)))).2 (by decide) (by decide) (XS.iconst X145.here hx rfl (hb hby at_254) (XS.istore X145.here hx rfl (hb hby at_255) rfl (l' := #[iv p1, iv p2, iv p3, iv p4, iv p5, iv (4 : Int32), iv z125_0, iv z127_0, iv z129_0, iv z131_0, rv b133, iv (1 : Int32), iv (0 : Int32), iv (0 : Int32)]) rfl (XS.aload X145.here hx rfl (hb hby at_257) rfl rfl hr)))))))
          show own_G _ p e below s _ _ _ (T145.setTop (mkF m 259 #[iv p1, iv p2, iv p3, iv p4, iv p5, iv (4 : Int32), iv z125_0, iv z127_0, iv z129_0, iv z131_0, rv b133, iv (1 : Int32), iv (0 : Int32), iv (0 : Int32)] [(.ref b133)]))
          obtain ⟨_, _, ⟨T147, L147, k147, n147⟩, -, X147a, hS147a, hg147a, ⟨Lc147, hQ147, l147, y147, z147, H147c⟩, st147⟩ := callSS X145 hx (y := (⟨"com/example/prita/prita/gnss/GnssTime", "carriesTime", "(Ljava/lang/String;)Z"⟩ : MethodName)) hown (mvT hZ (hw _ (List.mem_of_getElem? (i := 27) rfl))) (mvT hZ (hw _ (List.mem_of_getElem? (i := 28) rfl))) (mvT hZ (hw _ (List.mem_of_getElem? (i := 29) rfl))) (mvT hZ (hw _ (List.mem_of_getElem? (i := 30) rfl))) (by decide) (backOfSH (s := s) (vm0 := s.vm) (W := 0) (rm_ct_4 l Z a0 hw [] b133 t145 kt145 z125_0 z127_0 z129_0 z131_0 zc T145.heap n0 (Nat.le_trans (Nat.le_trans (Nat.le_trans (Nat.le_trans (Nat.le_trans (Nat.le_trans (Nat.le_trans (Nat.le_trans (Nat.le_trans (Nat.le_trans (Nat.le_trans Z0 K125.1) K127.1) K129.1) K131.1) E133.1) E135.1) (Keep.of_wr W137).1) (Keep.of_wr W139).1) (Keep.of_wr W141).1) (Keep.of_wr W143).1) K145.1) P145_0 P145_2 P145_1 P145_3 (((((((((((hold.keep K125 all0).keep K127 all0).keep K129 all0).keep K131 all0).ext E133).ext E135).wr W137 g_b135).wr W139 g_b135).wr W141 g_b135).wr W143 g_b135).keep K145 (allS g_b133 all0)) S_COMPACT_STRINGS (by intro c hc; simp only [List.mem_cons, List.not_mem_nil, or_false] at hc; rcases hc with rfl | rfl | rfl | rfl; exact P125_0; exact P127_0; exact P129_0; exact P131_0) hz) hZ (hw _ (List.mem_of_getElem? (i := 30) rfl)) (hw _ (List.mem_of_getElem? (i := 29) rfl)) (by decide) (by decide) hEL C146.1) (g := (mkF m 259 #[iv p1, iv p2, iv p3, iv p4, iv p5, iv (4 : Int32), iv z125_0, iv z127_0, iv z129_0, iv z131_0, rv b133, iv (1 : Int32), iv (0 : Int32), iv (0 : Int32)] [(.ref b133)])) rfl (by rw [hml]; rfl) (argsL := [(.ref b133)]) (rest := []) (lenOf pd__Ljava_lang_String__Z rfl) rfl (by show 2 * 0 + _ ≤ _; exact Nat.le_of_eq rfl) (hb hby at_259) (fun _ _ => ⟨rfl, rfl, (by decide : 7 + 4 ≤ _), (by decide : 44 + 32 ≤ _)⟩)
          dsimp only [Pt.U, Pt.locs, Pt.cells, Pt.slots] at X147a hS147a hg147a l147 y147 z147 st147 hQ147 H147c
          subst l147 y147 z147
          obtain ⟨X147, hS147, hZ, hown⟩ := rebS (s := s) (vm0 := s.vm) (State.WarmedH.since (State.WarmedH.refl s) 0) (Nat.zero_le _) X147a hS147a hg147a hZ hown
          obtain ⟨rfl, N147q, K147⟩ := hQ147
          have C148 := C146.trans H147c
          have S148_b133 := H147c.safe P145_0.lt S146_b133
          have N147 := Fr.app N145 N147q
          refine own_go ?_ (fun target hr => st147.trans (XS.iload X147.here hx rfl (hb hby at_262) rfl (XS.icmpNo X147.here hx rfl (hb hby at_264) rfl (teq (by decide : (0 : Int32) = (0 : Int32))).2 (XS.iconst X147.here hx rfl (hb hby at_267) (XS.goto X147.here hx rfl (pc0 := 268) (pc' := 272) rfl (hb hby at_268) (by decide) (by decide) hr)))))
          show own_G _ p e below s _ _ _ (T147.setTop (mkF m 272 #[iv p1, iv p2, iv p3, iv p4, iv p5, iv (4 : Int32), iv z125_0, iv z127_0, iv z129_0, iv z131_0, rv b133, iv (1 : Int32), iv (0 : Int32), iv (0 : Int32)] [(.int (1 : Int32))]))
          obtain ⟨fs, hr, hrun, hended, hRW⟩ := Stand.leaveW (s := s) (vm₁ := T147.vm) X147 hS147 (Nat.le_refl _) (v := some (.int (1 : Int32))) (fun h => by rw [Bd.returns] at h; cases h)
          have hCe := C148.trans (CHv.at (s := s) (vm0 := T147.vm) X147 hZ hEL C148.1)
          exact ⟨_, _, retN X147 hx (t := .boolean) Bd.returns (by simp) (hb hby at_272) hr, hrun, hended, _, _, rfl, ⟨rfl, N147, trivial⟩, (by rw [hh, show (T147.setFrames fs).heap = T147.heap from rfl]; exact hCe), hRW.1, hRW.2.1, hRW.2.2.1, hRW.2.2.2.mono (by decide) (by decide)⟩
        ·
          refine own_go ?_ (fun target hr => XS.icmpYes X145.here hx rfl (pc0 := 196) (pc' := 203) rfl (hb hby at_196) rfl (feq hc196).2 (by decide) (by decide) (XS.iconst X145.here hx rfl (hb hby at_203) (XS.istore X145.here hx rfl (hb hby at_204) rfl (l' := #[iv p1, iv p2, iv p3, iv p4, iv p5, iv (4 : Int32), iv z125_0, iv z127_0, iv z129_0, iv z131_0, rv b133, iv (0 : Int32), .unset, .unset]) rfl (XS.iload X145.here hx rfl (hb hby at_206) rfl (XS.bipush X145.here hx rfl (hb hby at_208) (XS.icmpYes X145.here hx rfl (pc0 := 210) (pc' := 231) rfl (hb hby at_210) rfl (feq (fun q => absurd (hc182.symm.trans q) (by decide))).2 (by decide) (by decide) (XS.iconst X145.here hx rfl (hb hby at_231) (XS.istore X145.here hx rfl (hb hby at_232) rfl (l' := #[iv p1, iv p2, iv p3, iv p4, iv p5, iv (4 : Int32), iv z125_0, iv z127_0, iv z129_0, iv z131_0, rv b133, iv (0 : Int32), iv (0 : Int32), .unset]) rfl hr))))))))
          show own_G _ p e below s _ _ _ (T145.setTop (mkF m 234 #[iv p1, iv p2, iv p3, iv p4, iv p5, iv (4 : Int32), iv z125_0, iv z127_0, iv z129_0, iv z131_0, rv b133, iv (0 : Int32), iv (0 : Int32), .unset] []))
          refine own_go ?_ (fun target hr => XS.iload X145.here hx rfl (hb hby at_234) rfl (XS.iconst X145.here hx rfl (hb hby at_236) (XS.icmpYes X145.here hx rfl (pc0 := 237) (pc' := 254) rfl (hb hby at_237) rfl (feq (by decide : ¬ ((4 : Int32) = (3 : Int32)))).2 (by decide) (by decide) (XS.iconst X145.here hx rfl (hb hby at_254) (XS.istore X145.here hx rfl (hb hby at_255) rfl (l' := #[iv p1, iv p2, iv p3, iv p4, iv p5, iv (4 : Int32), iv z125_0, iv z127_0, iv z129_0, iv z131_0, rv b133, iv (0 : Int32), iv (0 : Int32), iv (0 : Int32)]) rfl (XS.aload X145.here hx rfl (hb hby at_257) rfl rfl hr))))))
          show own_G _ p e below s _ _ _ (T145.setTop (mkF m 259 #[iv p1, iv p2, iv p3, iv p4, iv p5, iv (4 : Int32), iv z125_0, iv z127_0, iv z129_0, iv z131_0, rv b133, iv (0 : Int32), iv (0 : Int32), iv (0 : Int32)] [(.ref b133)]))
          obtain ⟨_, _, ⟨T149, L149, k149, n149⟩, -, X149a, hS149a, hg149a, ⟨Lc149, hQ149, l149, y149, z149, H149c⟩, st149⟩ := callSS X145 hx (y := (⟨"com/example/prita/prita/gnss/GnssTime", "carriesTime", "(Ljava/lang/String;)Z"⟩ : MethodName)) hown (mvT hZ (hw _ (List.mem_of_getElem? (i := 27) rfl))) (mvT hZ (hw _ (List.mem_of_getElem? (i := 28) rfl))) (mvT hZ (hw _ (List.mem_of_getElem? (i := 29) rfl))) (mvT hZ (hw _ (List.mem_of_getElem? (i := 30) rfl))) (by decide) (backOfSH (s := s) (vm0 := s.vm) (W := 0) (rm_ct_4 l Z a0 hw [] b133 t145 kt145 z125_0 z127_0 z129_0 z131_0 zc T145.heap n0 (Nat.le_trans (Nat.le_trans (Nat.le_trans (Nat.le_trans (Nat.le_trans (Nat.le_trans (Nat.le_trans (Nat.le_trans (Nat.le_trans (Nat.le_trans (Nat.le_trans Z0 K125.1) K127.1) K129.1) K131.1) E133.1) E135.1) (Keep.of_wr W137).1) (Keep.of_wr W139).1) (Keep.of_wr W141).1) (Keep.of_wr W143).1) K145.1) P145_0 P145_2 P145_1 P145_3 (((((((((((hold.keep K125 all0).keep K127 all0).keep K129 all0).keep K131 all0).ext E133).ext E135).wr W137 g_b135).wr W139 g_b135).wr W141 g_b135).wr W143 g_b135).keep K145 (allS g_b133 all0)) S_COMPACT_STRINGS (by intro c hc; simp only [List.mem_cons, List.not_mem_nil, or_false] at hc; rcases hc with rfl | rfl | rfl | rfl; exact P125_0; exact P127_0; exact P129_0; exact P131_0) hz) hZ (hw _ (List.mem_of_getElem? (i := 30) rfl)) (hw _ (List.mem_of_getElem? (i := 29) rfl)) (by decide) (by decide) hEL C146.1) (g := (mkF m 259 #[iv p1, iv p2, iv p3, iv p4, iv p5, iv (4 : Int32), iv z125_0, iv z127_0, iv z129_0, iv z131_0, rv b133, iv (0 : Int32), iv (0 : Int32), iv (0 : Int32)] [(.ref b133)])) rfl (by rw [hml]; rfl) (argsL := [(.ref b133)]) (rest := []) (lenOf pd__Ljava_lang_String__Z rfl) rfl (by show 2 * 0 + _ ≤ _; exact Nat.le_of_eq rfl) (hb hby at_259) (fun _ _ => ⟨rfl, rfl, (by decide : 7 + 4 ≤ _), (by decide : 44 + 32 ≤ _)⟩)
          dsimp only [Pt.U, Pt.locs, Pt.cells, Pt.slots] at X149a hS149a hg149a l149 y149 z149 st149 hQ149 H149c
          subst l149 y149 z149
          obtain ⟨X149, hS149, hZ, hown⟩ := rebS (s := s) (vm0 := s.vm) (State.WarmedH.since (State.WarmedH.refl s) 0) (Nat.zero_le _) X149a hS149a hg149a hZ hown
          obtain ⟨rfl, N149q, K149⟩ := hQ149
          have C150 := C146.trans H149c
          have S150_b133 := H149c.safe P145_0.lt S146_b133
          have N149 := Fr.app N145 N149q
          refine own_go ?_ (fun target hr => st149.trans (XS.iload X149.here hx rfl (hb hby at_262) rfl (XS.icmpNo X149.here hx rfl (hb hby at_264) rfl (teq (by decide : (0 : Int32) = (0 : Int32))).2 (XS.iconst X149.here hx rfl (hb hby at_267) (XS.goto X149.here hx rfl (pc0 := 268) (pc' := 272) rfl (hb hby at_268) (by decide) (by decide) hr)))))
          show own_G _ p e below s _ _ _ (T149.setTop (mkF m 272 #[iv p1, iv p2, iv p3, iv p4, iv p5, iv (4 : Int32), iv z125_0, iv z127_0, iv z129_0, iv z131_0, rv b133, iv (0 : Int32), iv (0 : Int32), iv (0 : Int32)] [(.int (1 : Int32))]))
          obtain ⟨fs, hr, hrun, hended, hRW⟩ := Stand.leaveW (s := s) (vm₁ := T149.vm) X149 hS149 (Nat.le_refl _) (v := some (.int (1 : Int32))) (fun h => by rw [Bd.returns] at h; cases h)
          have hCe := C150.trans (CHv.at (s := s) (vm0 := T149.vm) X149 hZ hEL C150.1)
          exact ⟨_, _, retN X149 hx (t := .boolean) Bd.returns (by simp) (hb hby at_272) hr, hrun, hended, _, _, rfl, ⟨rfl, N149, trivial⟩, (by rw [hh, show (T149.setFrames fs).heap = T149.heap from rfl]; exact hCe), hRW.1, hRW.2.1, hRW.2.2.1, hRW.2.2.2.mono (by decide) (by decide)⟩
      ·
        refine own_go ?_ (fun target hr => XS.icmpYes X145.here hx rfl (pc0 := 189) (pc' := 203) rfl (hb hby at_189) rfl (feq hc189).2 (by decide) (by decide) (XS.iconst X145.here hx rfl (hb hby at_203) (XS.istore X145.here hx rfl (hb hby at_204) rfl (l' := #[iv p1, iv p2, iv p3, iv p4, iv p5, iv (4 : Int32), iv z125_0, iv z127_0, iv z129_0, iv z131_0, rv b133, iv (0 : Int32), .unset, .unset]) rfl (XS.iload X145.here hx rfl (hb hby at_206) rfl (XS.bipush X145.here hx rfl (hb hby at_208) (XS.icmpYes X145.here hx rfl (pc0 := 210) (pc' := 231) rfl (hb hby at_210) rfl (feq (fun q => absurd (hc182.symm.trans q) (by decide))).2 (by decide) (by decide) (XS.iconst X145.here hx rfl (hb hby at_231) (XS.istore X145.here hx rfl (hb hby at_232) rfl (l' := #[iv p1, iv p2, iv p3, iv p4, iv p5, iv (4 : Int32), iv z125_0, iv z127_0, iv z129_0, iv z131_0, rv b133, iv (0 : Int32), iv (0 : Int32), .unset]) rfl hr))))))))
        show own_G _ p e below s _ _ _ (T145.setTop (mkF m 234 #[iv p1, iv p2, iv p3, iv p4, iv p5, iv (4 : Int32), iv z125_0, iv z127_0, iv z129_0, iv z131_0, rv b133, iv (0 : Int32), iv (0 : Int32), .unset] []))
        refine own_go ?_ (fun target hr => XS.iload X145.here hx rfl (hb hby at_234) rfl (XS.iconst X145.here hx rfl (hb hby at_236) (XS.icmpYes X145.here hx rfl (pc0 := 237) (pc' := 254) rfl (hb hby at_237) rfl (feq (by decide : ¬ ((4 : Int32) = (3 : Int32)))).2 (by decide) (by decide) (XS.iconst X145.here hx rfl (hb hby at_254) (XS.istore X145.here hx rfl (hb hby at_255) rfl (l' := #[iv p1, iv p2, iv p3, iv p4, iv p5, iv (4 : Int32), iv z125_0, iv z127_0, iv z129_0, iv z131_0, rv b133, iv (0 : Int32), iv (0 : Int32), iv (0 : Int32)]) rfl (XS.aload X145.here hx rfl (hb hby at_257) rfl rfl hr))))))
        show own_G _ p e below s _ _ _ (T145.setTop (mkF m 259 #[iv p1, iv p2, iv p3, iv p4, iv p5, iv (4 : Int32), iv z125_0, iv z127_0, iv z129_0, iv z131_0, rv b133, iv (0 : Int32), iv (0 : Int32), iv (0 : Int32)] [(.ref b133)]))
        obtain ⟨_, _, ⟨T151, L151, k151, n151⟩, -, X151a, hS151a, hg151a, ⟨Lc151, hQ151, l151, y151, z151, H151c⟩, st151⟩ := callSS X145 hx (y := (⟨"com/example/prita/prita/gnss/GnssTime", "carriesTime", "(Ljava/lang/String;)Z"⟩ : MethodName)) hown (mvT hZ (hw _ (List.mem_of_getElem? (i := 27) rfl))) (mvT hZ (hw _ (List.mem_of_getElem? (i := 28) rfl))) (mvT hZ (hw _ (List.mem_of_getElem? (i := 29) rfl))) (mvT hZ (hw _ (List.mem_of_getElem? (i := 30) rfl))) (by decide) (backOfSH (s := s) (vm0 := s.vm) (W := 0) (rm_ct_4 l Z a0 hw [] b133 t145 kt145 z125_0 z127_0 z129_0 z131_0 zc T145.heap n0 (Nat.le_trans (Nat.le_trans (Nat.le_trans (Nat.le_trans (Nat.le_trans (Nat.le_trans (Nat.le_trans (Nat.le_trans (Nat.le_trans (Nat.le_trans (Nat.le_trans Z0 K125.1) K127.1) K129.1) K131.1) E133.1) E135.1) (Keep.of_wr W137).1) (Keep.of_wr W139).1) (Keep.of_wr W141).1) (Keep.of_wr W143).1) K145.1) P145_0 P145_2 P145_1 P145_3 (((((((((((hold.keep K125 all0).keep K127 all0).keep K129 all0).keep K131 all0).ext E133).ext E135).wr W137 g_b135).wr W139 g_b135).wr W141 g_b135).wr W143 g_b135).keep K145 (allS g_b133 all0)) S_COMPACT_STRINGS (by intro c hc; simp only [List.mem_cons, List.not_mem_nil, or_false] at hc; rcases hc with rfl | rfl | rfl | rfl; exact P125_0; exact P127_0; exact P129_0; exact P131_0) hz) hZ (hw _ (List.mem_of_getElem? (i := 30) rfl)) (hw _ (List.mem_of_getElem? (i := 29) rfl)) (by decide) (by decide) hEL C146.1) (g := (mkF m 259 #[iv p1, iv p2, iv p3, iv p4, iv p5, iv (4 : Int32), iv z125_0, iv z127_0, iv z129_0, iv z131_0, rv b133, iv (0 : Int32), iv (0 : Int32), iv (0 : Int32)] [(.ref b133)])) rfl (by rw [hml]; rfl) (argsL := [(.ref b133)]) (rest := []) (lenOf pd__Ljava_lang_String__Z rfl) rfl (by show 2 * 0 + _ ≤ _; exact Nat.le_of_eq rfl) (hb hby at_259) (fun _ _ => ⟨rfl, rfl, (by decide : 7 + 4 ≤ _), (by decide : 44 + 32 ≤ _)⟩)
        dsimp only [Pt.U, Pt.locs, Pt.cells, Pt.slots] at X151a hS151a hg151a l151 y151 z151 st151 hQ151 H151c
        subst l151 y151 z151
        obtain ⟨X151, hS151, hZ, hown⟩ := rebS (s := s) (vm0 := s.vm) (State.WarmedH.since (State.WarmedH.refl s) 0) (Nat.zero_le _) X151a hS151a hg151a hZ hown
        obtain ⟨rfl, N151q, K151⟩ := hQ151
        have C152 := C146.trans H151c
        have S152_b133 := H151c.safe P145_0.lt S146_b133
        have N151 := Fr.app N145 N151q
        refine own_go ?_ (fun target hr => st151.trans (XS.iload X151.here hx rfl (hb hby at_262) rfl (XS.icmpNo X151.here hx rfl (hb hby at_264) rfl (teq (by decide : (0 : Int32) = (0 : Int32))).2 (XS.iconst X151.here hx rfl (hb hby at_267) (XS.goto X151.here hx rfl (pc0 := 268) (pc' := 272) rfl (hb hby at_268) (by decide) (by decide) hr)))))
        show own_G _ p e below s _ _ _ (T151.setTop (mkF m 272 #[iv p1, iv p2, iv p3, iv p4, iv p5, iv (4 : Int32), iv z125_0, iv z127_0, iv z129_0, iv z131_0, rv b133, iv (0 : Int32), iv (0 : Int32), iv (0 : Int32)] [(.int (1 : Int32))]))
        obtain ⟨fs, hr, hrun, hended, hRW⟩ := Stand.leaveW (s := s) (vm₁ := T151.vm) X151 hS151 (Nat.le_refl _) (v := some (.int (1 : Int32))) (fun h => by rw [Bd.returns] at h; cases h)
        have hCe := C152.trans (CHv.at (s := s) (vm0 := T151.vm) X151 hZ hEL C152.1)
        exact ⟨_, _, retN X151 hx (t := .boolean) Bd.returns (by simp) (hb hby at_272) hr, hrun, hended, _, _, rfl, ⟨rfl, N151, trivial⟩, (by rw [hh, show (T151.setFrames fs).heap = T151.heap from rfl]; exact hCe), hRW.1, hRW.2.1, hRW.2.2.1, hRW.2.2.2.mono (by decide) (by decide)⟩
    ·
      refine own_go ?_ (fun target hr => XS.icmpYes X145.here hx rfl (pc0 := 182) (pc' := 203) rfl (hb hby at_182) rfl (feq hc182).2 (by decide) (by decide) (XS.iconst X145.here hx rfl (hb hby at_203) (XS.istore X145.here hx rfl (hb hby at_204) rfl (l' := #[iv p1, iv p2, iv p3, iv p4, iv p5, iv (4 : Int32), iv z125_0, iv z127_0, iv z129_0, iv z131_0, rv b133, iv (0 : Int32), .unset, .unset]) rfl (XS.iload X145.here hx rfl (hb hby at_206) rfl (XS.bipush X145.here hx rfl (hb hby at_208) hr)))))
      show own_G _ p e below s _ _ _ (T145.setTop (mkF m 210 #[iv p1, iv p2, iv p3, iv p4, iv p5, iv (4 : Int32), iv z125_0, iv z127_0, iv z129_0, iv z131_0, rv b133, iv (0 : Int32), .unset, .unset] [(.int (90 : Int32)), (.int z125_0)]))
      by_cases hc210 : z125_0 = (90 : Int32)
      ·
        refine own_go ?_ (fun target hr => XS.icmpNo X145.here hx rfl (hb hby at_210) rfl (teq hc210).2 (XS.iload X145.here hx rfl (hb hby at_213) rfl (XS.bipush X145.here hx rfl (hb hby at_215) hr)))
        show own_G _ p e below s _ _ _ (T145.setTop (mkF m 217 #[iv p1, iv p2, iv p3, iv p4, iv p5, iv (4 : Int32), iv z125_0, iv z127_0, iv z129_0, iv z131_0, rv b133, iv (0 : Int32), .unset, .unset] [(.int (68 : Int32)), (.int z127_0)]))
        by_cases hc217 : z127_0 = (68 : Int32)
        ·
          refine own_go ?_ (fun target hr => XS.icmpNo X145.here hx rfl (hb hby at_217) rfl (teq hc217).2 (XS.iload X145.here hx rfl (hb hby at_220) rfl (XS.bipush X145.here hx rfl (hb hby at_222) hr)))
          show own_G _ p e below s _ _ _ (T145.setTop (mkF m 224 #[iv p1, iv p2, iv p3, iv p4, iv p5, iv (4 : Int32), iv z125_0, iv z127_0, iv z129_0, iv z131_0, rv b133, iv (0 : Int32), .unset, .unset] [(.int (65 : Int32)), (.int z129_0)]))
          by_cases hc224 : z129_0 = (65 : Int32)
          ·
            refine own_go ?_ (fun target hr => XS.icmpNo X145.here hx rfl (hb hby at_224) rfl (teq hc224).2 (XS.iconst X145.here hx rfl (hb hby at_227) (XS.goto X145.here hx rfl (pc0 := 228) (pc' := 232) rfl (hb hby at_228) (by decide) (by decide) (XS.istore X145.here hx rfl (hb hby at_232) rfl (l' := #[iv p1, iv p2, iv p3, iv p4, iv p5, iv (4 : Int32), iv z125_0, iv z127_0, iv z129_0, iv z131_0, rv b133, iv (0 : Int32), iv (1 : Int32), .unset]) rfl (XS.iload X145.here hx rfl (hb hby at_234) rfl (XS.iconst X145.here hx rfl (hb hby at_236) (XS.icmpYes X145.here hx rfl (pc0 := 237) (pc' := 254) rfl (hb hby at_237) rfl (feq (by decide : ¬ ((4 : Int32) = (3 : Int32)))).2 (by decide) (by decide) (XS.iconst X145.here hx rfl (hb hby at_254) hr))))))))
            show own_G _ p e below s _ _ _ (T145.setTop (mkF m 255 #[iv p1, iv p2, iv p3, iv p4, iv p5, iv (4 : Int32), iv z125_0, iv z127_0, iv z129_0, iv z131_0, rv b133, iv (0 : Int32), iv (1 : Int32), .unset] [(.int (0 : Int32))]))
            refine own_go ?_ (fun target hr => XS.istore X145.here hx rfl (hb hby at_255) rfl (l' := #[iv p1, iv p2, iv p3, iv p4, iv p5, iv (4 : Int32), iv z125_0, iv z127_0, iv z129_0, iv z131_0, rv b133, iv (0 : Int32), iv (1 : Int32), iv (0 : Int32)]) rfl (XS.aload X145.here hx rfl (hb hby at_257) rfl rfl hr))
            show own_G _ p e below s _ _ _ (T145.setTop (mkF m 259 #[iv p1, iv p2, iv p3, iv p4, iv p5, iv (4 : Int32), iv z125_0, iv z127_0, iv z129_0, iv z131_0, rv b133, iv (0 : Int32), iv (1 : Int32), iv (0 : Int32)] [(.ref b133)]))
            obtain ⟨_, _, ⟨T153, L153, k153, n153⟩, -, X153a, hS153a, hg153a, ⟨Lc153, hQ153, l153, y153, z153, H153c⟩, st153⟩ := callSS X145 hx (y := (⟨"com/example/prita/prita/gnss/GnssTime", "carriesTime", "(Ljava/lang/String;)Z"⟩ : MethodName)) hown (mvT hZ (hw _ (List.mem_of_getElem? (i := 27) rfl))) (mvT hZ (hw _ (List.mem_of_getElem? (i := 28) rfl))) (mvT hZ (hw _ (List.mem_of_getElem? (i := 29) rfl))) (mvT hZ (hw _ (List.mem_of_getElem? (i := 30) rfl))) (by decide) (backOfSH (s := s) (vm0 := s.vm) (W := 0) (rm_ct_4 l Z a0 hw [] b133 t145 kt145 z125_0 z127_0 z129_0 z131_0 zc T145.heap n0 (Nat.le_trans (Nat.le_trans (Nat.le_trans (Nat.le_trans (Nat.le_trans (Nat.le_trans (Nat.le_trans (Nat.le_trans (Nat.le_trans (Nat.le_trans (Nat.le_trans Z0 K125.1) K127.1) K129.1) K131.1) E133.1) E135.1) (Keep.of_wr W137).1) (Keep.of_wr W139).1) (Keep.of_wr W141).1) (Keep.of_wr W143).1) K145.1) P145_0 P145_2 P145_1 P145_3 (((((((((((hold.keep K125 all0).keep K127 all0).keep K129 all0).keep K131 all0).ext E133).ext E135).wr W137 g_b135).wr W139 g_b135).wr W141 g_b135).wr W143 g_b135).keep K145 (allS g_b133 all0)) S_COMPACT_STRINGS (by intro c hc; simp only [List.mem_cons, List.not_mem_nil, or_false] at hc; rcases hc with rfl | rfl | rfl | rfl; exact P125_0; exact P127_0; exact P129_0; exact P131_0) hz) hZ (hw _ (List.mem_of_getElem? (i := 30) rfl)) (hw _ (List.mem_of_getElem? (i := 29) rfl)) (by decide) (by decide) hEL C146.1) (g := (mkF m 259 #[iv p1, iv p2, iv p3, iv p4, iv p5, iv (4 : Int32), iv z125_0, iv z127_0, iv z129_0, iv z131_0, rv b133, iv (0 : Int32), iv (1 : Int32), iv (0 : Int32)] [(.ref b133)])) rfl (by rw [hml]; rfl) (argsL := [(.ref b133)]) (rest := []) (lenOf pd__Ljava_lang_String__Z rfl) rfl (by show 2 * 0 + _ ≤ _; exact Nat.le_of_eq rfl) (hb hby at_259) (fun _ _ => ⟨rfl, rfl, (by decide : 7 + 4 ≤ _), (by decide : 44 + 32 ≤ _)⟩)
            dsimp only [Pt.U, Pt.locs, Pt.cells, Pt.slots] at X153a hS153a hg153a l153 y153 z153 st153 hQ153 H153c
            subst l153 y153 z153
            obtain ⟨X153, hS153, hZ, hown⟩ := rebS (s := s) (vm0 := s.vm) (State.WarmedH.since (State.WarmedH.refl s) 0) (Nat.zero_le _) X153a hS153a hg153a hZ hown
            obtain ⟨rfl, N153q, K153⟩ := hQ153
            have C154 := C146.trans H153c
            have S154_b133 := H153c.safe P145_0.lt S146_b133
            have N153 := Fr.app N145 N153q
            refine own_go ?_ (fun target hr => st153.trans (XS.iload X153.here hx rfl (hb hby at_262) rfl (XS.icmpNo X153.here hx rfl (hb hby at_264) rfl (teq (by decide : (0 : Int32) = (0 : Int32))).2 (XS.iconst X153.here hx rfl (hb hby at_267) (XS.goto X153.here hx rfl (pc0 := 268) (pc' := 272) rfl (hb hby at_268) (by decide) (by decide) hr)))))
            show own_G _ p e below s _ _ _ (T153.setTop (mkF m 272 #[iv p1, iv p2, iv p3, iv p4, iv p5, iv (4 : Int32), iv z125_0, iv z127_0, iv z129_0, iv z131_0, rv b133, iv (0 : Int32), iv (1 : Int32), iv (0 : Int32)] [(.int (1 : Int32))]))
            obtain ⟨fs, hr, hrun, hended, hRW⟩ := Stand.leaveW (s := s) (vm₁ := T153.vm) X153 hS153 (Nat.le_refl _) (v := some (.int (1 : Int32))) (fun h => by rw [Bd.returns] at h; cases h)
            have hCe := C154.trans (CHv.at (s := s) (vm0 := T153.vm) X153 hZ hEL C154.1)
            exact ⟨_, _, retN X153 hx (t := .boolean) Bd.returns (by simp) (hb hby at_272) hr, hrun, hended, _, _, rfl, ⟨rfl, N153, trivial⟩, (by rw [hh, show (T153.setFrames fs).heap = T153.heap from rfl]; exact hCe), hRW.1, hRW.2.1, hRW.2.2.1, hRW.2.2.2.mono (by decide) (by decide)⟩
          ·
            refine own_go ?_ (fun target hr => XS.icmpYes X145.here hx rfl (pc0 := 224) (pc' := 231) rfl (hb hby at_224) rfl (feq hc224).2 (by decide) (by decide) (XS.iconst X145.here hx rfl (hb hby at_231) (XS.istore X145.here hx rfl (hb hby at_232) rfl (l' := #[iv p1, iv p2, iv p3, iv p4, iv p5, iv (4 : Int32), iv z125_0, iv z127_0, iv z129_0, iv z131_0, rv b133, iv (0 : Int32), iv (0 : Int32), .unset]) rfl (XS.iload X145.here hx rfl (hb hby at_234) rfl (XS.iconst X145.here hx rfl (hb hby at_236) (XS.icmpYes X145.here hx rfl (pc0 := 237) (pc' := 254) rfl (hb hby at_237) rfl (feq (by decide : ¬ ((4 : Int32) = (3 : Int32)))).2 (by decide) (by decide) (XS.iconst X145.here hx rfl (hb hby at_254) (XS.istore X145.here hx rfl (hb hby at_255) rfl (l' := #[iv p1, iv p2, iv p3, iv p4, iv p5, iv (4 : Int32), iv z125_0, iv z127_0, iv z129_0, iv z131_0, rv b133, iv (0 : Int32), iv (0 : Int32), iv (0 : Int32)]) rfl hr))))))))
            show own_G _ p e below s _ _ _ (T145.setTop (mkF m 257 #[iv p1, iv p2, iv p3, iv p4, iv p5, iv (4 : Int32), iv z125_0, iv z127_0, iv z129_0, iv z131_0, rv b133, iv (0 : Int32), iv (0 : Int32), iv (0 : Int32)] []))
            refine own_go ?_ (fun target hr => XS.aload X145.here hx rfl (hb hby at_257) rfl rfl hr)
            show own_G _ p e below s _ _ _ (T145.setTop (mkF m 259 #[iv p1, iv p2, iv p3, iv p4, iv p5, iv (4 : Int32), iv z125_0, iv z127_0, iv z129_0, iv z131_0, rv b133, iv (0 : Int32), iv (0 : Int32), iv (0 : Int32)] [(.ref b133)]))
            obtain ⟨_, _, ⟨T155, L155, k155, n155⟩, -, X155a, hS155a, hg155a, ⟨Lc155, hQ155, l155, y155, z155, H155c⟩, st155⟩ := callSS X145 hx (y := (⟨"com/example/prita/prita/gnss/GnssTime", "carriesTime", "(Ljava/lang/String;)Z"⟩ : MethodName)) hown (mvT hZ (hw _ (List.mem_of_getElem? (i := 27) rfl))) (mvT hZ (hw _ (List.mem_of_getElem? (i := 28) rfl))) (mvT hZ (hw _ (List.mem_of_getElem? (i := 29) rfl))) (mvT hZ (hw _ (List.mem_of_getElem? (i := 30) rfl))) (by decide) (backOfSH (s := s) (vm0 := s.vm) (W := 0) (rm_ct_4 l Z a0 hw [] b133 t145 kt145 z125_0 z127_0 z129_0 z131_0 zc T145.heap n0 (Nat.le_trans (Nat.le_trans (Nat.le_trans (Nat.le_trans (Nat.le_trans (Nat.le_trans (Nat.le_trans (Nat.le_trans (Nat.le_trans (Nat.le_trans (Nat.le_trans Z0 K125.1) K127.1) K129.1) K131.1) E133.1) E135.1) (Keep.of_wr W137).1) (Keep.of_wr W139).1) (Keep.of_wr W141).1) (Keep.of_wr W143).1) K145.1) P145_0 P145_2 P145_1 P145_3 (((((((((((hold.keep K125 all0).keep K127 all0).keep K129 all0).keep K131 all0).ext E133).ext E135).wr W137 g_b135).wr W139 g_b135).wr W141 g_b135).wr W143 g_b135).keep K145 (allS g_b133 all0)) S_COMPACT_STRINGS (by intro c hc; simp only [List.mem_cons, List.not_mem_nil, or_false] at hc; rcases hc with rfl | rfl | rfl | rfl; exact P125_0; exact P127_0; exact P129_0; exact P131_0) hz) hZ (hw _ (List.mem_of_getElem? (i := 30) rfl)) (hw _ (List.mem_of_getElem? (i := 29) rfl)) (by decide) (by decide) hEL C146.1) (g := (mkF m 259 #[iv p1, iv p2, iv p3, iv p4, iv p5, iv (4 : Int32), iv z125_0, iv z127_0, iv z129_0, iv z131_0, rv b133, iv (0 : Int32), iv (0 : Int32), iv (0 : Int32)] [(.ref b133)])) rfl (by rw [hml]; rfl) (argsL := [(.ref b133)]) (rest := []) (lenOf pd__Ljava_lang_String__Z rfl) rfl (by show 2 * 0 + _ ≤ _; exact Nat.le_of_eq rfl) (hb hby at_259) (fun _ _ => ⟨rfl, rfl, (by decide : 7 + 4 ≤ _), (by decide : 44 + 32 ≤ _)⟩)
            dsimp only [Pt.U, Pt.locs, Pt.cells, Pt.slots] at X155a hS155a hg155a l155 y155 z155 st155 hQ155 H155c
            subst l155 y155 z155
            obtain ⟨X155, hS155, hZ, hown⟩ := rebS (s := s) (vm0 := s.vm) (State.WarmedH.since (State.WarmedH.refl s) 0) (Nat.zero_le _) X155a hS155a hg155a hZ hown
            obtain ⟨rfl, N155q, K155⟩ := hQ155
            have C156 := C146.trans H155c
            have S156_b133 := H155c.safe P145_0.lt S146_b133
            have N155 := Fr.app N145 N155q
            refine own_go ?_ (fun target hr => st155.trans (XS.iload X155.here hx rfl (hb hby at_262) rfl (XS.icmpNo X155.here hx rfl (hb hby at_264) rfl (teq (by decide : (0 : Int32) = (0 : Int32))).2 (XS.iconst X155.here hx rfl (hb hby at_267) (XS.goto X155.here hx rfl (pc0 := 268) (pc' := 272) rfl (hb hby at_268) (by decide) (by decide) hr)))))
            show own_G _ p e below s _ _ _ (T155.setTop (mkF m 272 #[iv p1, iv p2, iv p3, iv p4, iv p5, iv (4 : Int32), iv z125_0, iv z127_0, iv z129_0, iv z131_0, rv b133, iv (0 : Int32), iv (0 : Int32), iv (0 : Int32)] [(.int (1 : Int32))]))
            obtain ⟨fs, hr, hrun, hended, hRW⟩ := Stand.leaveW (s := s) (vm₁ := T155.vm) X155 hS155 (Nat.le_refl _) (v := some (.int (1 : Int32))) (fun h => by rw [Bd.returns] at h; cases h)
            have hCe := C156.trans (CHv.at (s := s) (vm0 := T155.vm) X155 hZ hEL C156.1)
            exact ⟨_, _, retN X155 hx (t := .boolean) Bd.returns (by simp) (hb hby at_272) hr, hrun, hended, _, _, rfl, ⟨rfl, N155, trivial⟩, (by rw [hh, show (T155.setFrames fs).heap = T155.heap from rfl]; exact hCe), hRW.1, hRW.2.1, hRW.2.2.1, hRW.2.2.2.mono (by decide) (by decide)⟩
        ·
          refine own_go ?_ (fun target hr => XS.icmpYes X145.here hx rfl (pc0 := 217) (pc' := 231) rfl (hb hby at_217) rfl (feq hc217).2 (by decide) (by decide) (XS.iconst X145.here hx rfl (hb hby at_231) (XS.istore X145.here hx rfl (hb hby at_232) rfl (l' := #[iv p1, iv p2, iv p3, iv p4, iv p5, iv (4 : Int32), iv z125_0, iv z127_0, iv z129_0, iv z131_0, rv b133, iv (0 : Int32), iv (0 : Int32), .unset]) rfl (XS.iload X145.here hx rfl (hb hby at_234) rfl (XS.iconst X145.here hx rfl (hb hby at_236) (XS.icmpYes X145.here hx rfl (pc0 := 237) (pc' := 254) rfl (hb hby at_237) rfl (feq (by decide : ¬ ((4 : Int32) = (3 : Int32)))).2 (by decide) (by decide) (XS.iconst X145.here hx rfl (hb hby at_254) (XS.istore X145.here hx rfl (hb hby at_255) rfl (l' := #[iv p1, iv p2, iv p3, iv p4, iv p5, iv (4 : Int32), iv z125_0, iv z127_0, iv z129_0, iv z131_0, rv b133, iv (0 : Int32), iv (0 : Int32), iv (0 : Int32)]) rfl hr))))))))
          show own_G _ p e below s _ _ _ (T145.setTop (mkF m 257 #[iv p1, iv p2, iv p3, iv p4, iv p5, iv (4 : Int32), iv z125_0, iv z127_0, iv z129_0, iv z131_0, rv b133, iv (0 : Int32), iv (0 : Int32), iv (0 : Int32)] []))
          refine own_go ?_ (fun target hr => XS.aload X145.here hx rfl (hb hby at_257) rfl rfl hr)
          show own_G _ p e below s _ _ _ (T145.setTop (mkF m 259 #[iv p1, iv p2, iv p3, iv p4, iv p5, iv (4 : Int32), iv z125_0, iv z127_0, iv z129_0, iv z131_0, rv b133, iv (0 : Int32), iv (0 : Int32), iv (0 : Int32)] [(.ref b133)]))
          obtain ⟨_, _, ⟨T157, L157, k157, n157⟩, -, X157a, hS157a, hg157a, ⟨Lc157, hQ157, l157, y157, z157, H157c⟩, st157⟩ := callSS X145 hx (y := (⟨"com/example/prita/prita/gnss/GnssTime", "carriesTime", "(Ljava/lang/String;)Z"⟩ : MethodName)) hown (mvT hZ (hw _ (List.mem_of_getElem? (i := 27) rfl))) (mvT hZ (hw _ (List.mem_of_getElem? (i := 28) rfl))) (mvT hZ (hw _ (List.mem_of_getElem? (i := 29) rfl))) (mvT hZ (hw _ (List.mem_of_getElem? (i := 30) rfl))) (by decide) (backOfSH (s := s) (vm0 := s.vm) (W := 0) (rm_ct_4 l Z a0 hw [] b133 t145 kt145 z125_0 z127_0 z129_0 z131_0 zc T145.heap n0 (Nat.le_trans (Nat.le_trans (Nat.le_trans (Nat.le_trans (Nat.le_trans (Nat.le_trans (Nat.le_trans (Nat.le_trans (Nat.le_trans (Nat.le_trans (Nat.le_trans Z0 K125.1) K127.1) K129.1) K131.1) E133.1) E135.1) (Keep.of_wr W137).1) (Keep.of_wr W139).1) (Keep.of_wr W141).1) (Keep.of_wr W143).1) K145.1) P145_0 P145_2 P145_1 P145_3 (((((((((((hold.keep K125 all0).keep K127 all0).keep K129 all0).keep K131 all0).ext E133).ext E135).wr W137 g_b135).wr W139 g_b135).wr W141 g_b135).wr W143 g_b135).keep K145 (allS g_b133 all0)) S_COMPACT_STRINGS (by intro c hc; simp only [List.mem_cons, List.not_mem_nil, or_false] at hc; rcases hc with rfl | rfl | rfl | rfl; exact P125_0; exact P127_0; exact P129_0; exact P131_0) hz) hZ (hw _ (List.mem_of_getElem? (i := 30) rfl)) (hw _ (List.mem_of_getElem? (i := 29) rfl)) (by decide) (by decide) hEL C146.1) (g := (mkF m 259 #[iv p1, iv p2, iv p3, iv p4, iv p5, iv (4 : Int32), iv z125_0, iv z127_0, iv z129_0, iv z131_0, rv b133, iv (0 : Int32), iv (0 : Int32), iv (0 : Int32)] [(.ref b133)])) rfl (by rw [hml]; rfl) (argsL := [(.ref b133)]) (rest := []) (lenOf pd__Ljava_lang_String__Z rfl) rfl (by show 2 * 0 + _ ≤ _; exact Nat.le_of_eq rfl) (hb hby at_259) (fun _ _ => ⟨rfl, rfl, (by decide : 7 + 4 ≤ _), (by decide : 44 + 32 ≤ _)⟩)
          dsimp only [Pt.U, Pt.locs, Pt.cells, Pt.slots] at X157a hS157a hg157a l157 y157 z157 st157 hQ157 H157c
          subst l157 y157 z157
          obtain ⟨X157, hS157, hZ, hown⟩ := rebS (s := s) (vm0 := s.vm) (State.WarmedH.since (State.WarmedH.refl s) 0) (Nat.zero_le _) X157a hS157a hg157a hZ hown
          obtain ⟨rfl, N157q, K157⟩ := hQ157
          have C158 := C146.trans H157c
          have S158_b133 := H157c.safe P145_0.lt S146_b133
          have N157 := Fr.app N145 N157q
          refine own_go ?_ (fun target hr => st157.trans (XS.iload X157.here hx rfl (hb hby at_262) rfl (XS.icmpNo X157.here hx rfl (hb hby at_264) rfl (teq (by decide : (0 : Int32) = (0 : Int32))).2 (XS.iconst X157.here hx rfl (hb hby at_267) (XS.goto X157.here hx rfl (pc0 := 268) (pc' := 272) rfl (hb hby at_268) (by decide) (by decide) hr)))))
          show own_G _ p e below s _ _ _ (T157.setTop (mkF m 272 #[iv p1, iv p2, iv p3, iv p4, iv p5, iv (4 : Int32), iv z125_0, iv z127_0, iv z129_0, iv z131_0, rv b133, iv (0 : Int32), iv (0 : Int32), iv (0 : Int32)] [(.int (1 : Int32))]))
          obtain ⟨fs, hr, hrun, hended, hRW⟩ := Stand.leaveW (s := s) (vm₁ := T157.vm) X157 hS157 (Nat.le_refl _) (v := some (.int (1 : Int32))) (fun h => by rw [Bd.returns] at h; cases h)
          have hCe := C158.trans (CHv.at (s := s) (vm0 := T157.vm) X157 hZ hEL C158.1)
          exact ⟨_, _, retN X157 hx (t := .boolean) Bd.returns (by simp) (hb hby at_272) hr, hrun, hended, _, _, rfl, ⟨rfl, N157, trivial⟩, (by rw [hh, show (T157.setFrames fs).heap = T157.heap from rfl]; exact hCe), hRW.1, hRW.2.1, hRW.2.2.1, hRW.2.2.2.mono (by decide) (by decide)⟩
      ·
        refine own_go ?_ (fun target hr => XS.icmpYes X145.here hx rfl (pc0 := 210) (pc' := 231) rfl (hb hby at_210) rfl (feq hc210).2 (by decide) (by decide) (XS.iconst X145.here hx rfl (hb hby at_231) (XS.istore X145.here hx rfl (hb hby at_232) rfl (l' := #[iv p1, iv p2, iv p3, iv p4, iv p5, iv (4 : Int32), iv z125_0, iv z127_0, iv z129_0, iv z131_0, rv b133, iv (0 : Int32), iv (0 : Int32), .unset]) rfl (XS.iload X145.here hx rfl (hb hby at_234) rfl (XS.iconst X145.here hx rfl (hb hby at_236) (XS.icmpYes X145.here hx rfl (pc0 := 237) (pc' := 254) rfl (hb hby at_237) rfl (feq (by decide : ¬ ((4 : Int32) = (3 : Int32)))).2 (by decide) (by decide) (XS.iconst X145.here hx rfl (hb hby at_254) (XS.istore X145.here hx rfl (hb hby at_255) rfl (l' := #[iv p1, iv p2, iv p3, iv p4, iv p5, iv (4 : Int32), iv z125_0, iv z127_0, iv z129_0, iv z131_0, rv b133, iv (0 : Int32), iv (0 : Int32), iv (0 : Int32)]) rfl hr))))))))
        show own_G _ p e below s _ _ _ (T145.setTop (mkF m 257 #[iv p1, iv p2, iv p3, iv p4, iv p5, iv (4 : Int32), iv z125_0, iv z127_0, iv z129_0, iv z131_0, rv b133, iv (0 : Int32), iv (0 : Int32), iv (0 : Int32)] []))
        refine own_go ?_ (fun target hr => XS.aload X145.here hx rfl (hb hby at_257) rfl rfl hr)
        show own_G _ p e below s _ _ _ (T145.setTop (mkF m 259 #[iv p1, iv p2, iv p3, iv p4, iv p5, iv (4 : Int32), iv z125_0, iv z127_0, iv z129_0, iv z131_0, rv b133, iv (0 : Int32), iv (0 : Int32), iv (0 : Int32)] [(.ref b133)]))
        obtain ⟨_, _, ⟨T159, L159, k159, n159⟩, -, X159a, hS159a, hg159a, ⟨Lc159, hQ159, l159, y159, z159, H159c⟩, st159⟩ := callSS X145 hx (y := (⟨"com/example/prita/prita/gnss/GnssTime", "carriesTime", "(Ljava/lang/String;)Z"⟩ : MethodName)) hown (mvT hZ (hw _ (List.mem_of_getElem? (i := 27) rfl))) (mvT hZ (hw _ (List.mem_of_getElem? (i := 28) rfl))) (mvT hZ (hw _ (List.mem_of_getElem? (i := 29) rfl))) (mvT hZ (hw _ (List.mem_of_getElem? (i := 30) rfl))) (by decide) (backOfSH (s := s) (vm0 := s.vm) (W := 0) (rm_ct_4 l Z a0 hw [] b133 t145 kt145 z125_0 z127_0 z129_0 z131_0 zc T145.heap n0 (Nat.le_trans (Nat.le_trans (Nat.le_trans (Nat.le_trans (Nat.le_trans (Nat.le_trans (Nat.le_trans (Nat.le_trans (Nat.le_trans (Nat.le_trans (Nat.le_trans Z0 K125.1) K127.1) K129.1) K131.1) E133.1) E135.1) (Keep.of_wr W137).1) (Keep.of_wr W139).1) (Keep.of_wr W141).1) (Keep.of_wr W143).1) K145.1) P145_0 P145_2 P145_1 P145_3 (((((((((((hold.keep K125 all0).keep K127 all0).keep K129 all0).keep K131 all0).ext E133).ext E135).wr W137 g_b135).wr W139 g_b135).wr W141 g_b135).wr W143 g_b135).keep K145 (allS g_b133 all0)) S_COMPACT_STRINGS (by intro c hc; simp only [List.mem_cons, List.not_mem_nil, or_false] at hc; rcases hc with rfl | rfl | rfl | rfl; exact P125_0; exact P127_0; exact P129_0; exact P131_0) hz) hZ (hw _ (List.mem_of_getElem? (i := 30) rfl)) (hw _ (List.mem_of_getElem? (i := 29) rfl)) (by decide) (by decide) hEL C146.1) (g := (mkF m 259 #[iv p1, iv p2, iv p3, iv p4, iv p5, iv (4 : Int32), iv z125_0, iv z127_0, iv z129_0, iv z131_0, rv b133, iv (0 : Int32), iv (0 : Int32), iv (0 : Int32)] [(.ref b133)])) rfl (by rw [hml]; rfl) (argsL := [(.ref b133)]) (rest := []) (lenOf pd__Ljava_lang_String__Z rfl) rfl (by show 2 * 0 + _ ≤ _; exact Nat.le_of_eq rfl) (hb hby at_259) (fun _ _ => ⟨rfl, rfl, (by decide : 7 + 4 ≤ _), (by decide : 44 + 32 ≤ _)⟩)
        dsimp only [Pt.U, Pt.locs, Pt.cells, Pt.slots] at X159a hS159a hg159a l159 y159 z159 st159 hQ159 H159c
        subst l159 y159 z159
        obtain ⟨X159, hS159, hZ, hown⟩ := rebS (s := s) (vm0 := s.vm) (State.WarmedH.since (State.WarmedH.refl s) 0) (Nat.zero_le _) X159a hS159a hg159a hZ hown
        obtain ⟨rfl, N159q, K159⟩ := hQ159
        have C160 := C146.trans H159c
        have S160_b133 := H159c.safe P145_0.lt S146_b133
        have N159 := Fr.app N145 N159q
        refine own_go ?_ (fun target hr => st159.trans (XS.iload X159.here hx rfl (hb hby at_262) rfl (XS.icmpNo X159.here hx rfl (hb hby at_264) rfl (teq (by decide : (0 : Int32) = (0 : Int32))).2 (XS.iconst X159.here hx rfl (hb hby at_267) (XS.goto X159.here hx rfl (pc0 := 268) (pc' := 272) rfl (hb hby at_268) (by decide) (by decide) hr)))))
        show own_G _ p e below s _ _ _ (T159.setTop (mkF m 272 #[iv p1, iv p2, iv p3, iv p4, iv p5, iv (4 : Int32), iv z125_0, iv z127_0, iv z129_0, iv z131_0, rv b133, iv (0 : Int32), iv (0 : Int32), iv (0 : Int32)] [(.int (1 : Int32))]))
        obtain ⟨fs, hr, hrun, hended, hRW⟩ := Stand.leaveW (s := s) (vm₁ := T159.vm) X159 hS159 (Nat.le_refl _) (v := some (.int (1 : Int32))) (fun h => by rw [Bd.returns] at h; cases h)
        have hCe := C160.trans (CHv.at (s := s) (vm0 := T159.vm) X159 hZ hEL C160.1)
        exact ⟨_, _, retN X159 hx (t := .boolean) Bd.returns (by simp) (hb hby at_272) hr, hrun, hended, _, _, rfl, ⟨rfl, N159, trivial⟩, (by rw [hh, show (T159.setFrames fs).heap = T159.heap from rfl]; exact hCe), hRW.1, hRW.2.1, hRW.2.2.1, hRW.2.2.2.mono (by decide) (by decide)⟩
set_option maxRecDepth 65536 in
set_option maxHeartbeats 40000000 in
theorem comes_1 {Post : Tables → Env → Array Value → State → Outcome → State → Prop} (hpost : ∀ tb e args s v u, (limb_1_1.after args s (.returned v) u = true ∧ limb_1_2.after args s (.returned v) u = true ∧ True) → ReturnedEndW s (.returned v) u (Jvm.fieldLocs frame_1_writes args s ++ Jvm.arrayLocs frame_1_arrays args s ++ Jvm.staticLocs frame_1_statics s) 32 3264 → Post tb e args s (.returned v) u) :
    ArmFor flags0 classFile x code maxLocals ret World_1 tables_1 room_1 Calls_1 rest_1 Pre_1 Post := by
  intro l hfl _ _ p e ha hc hk s m args below hf hA hF happ hP
  obtain ⟨hcalls, hrest, hpre⟩ := hP
  obtain ⟨-, -, -, hnamed, -, -, -, hat⟩ := (Spec.applies_iff hf).mp happ
  obtain ⟨hg, hn⟩ := and_e (Cond.before_iff.mp (show (Jvm.Cond.and given_1 narrow_1).before args s = true from hpre))
  obtain ⟨h1, g0⟩ := and_e hg
  obtain ⟨b0, g1⟩ := and_e g0
  obtain ⟨b1, g2⟩ := and_e g1
  obtain ⟨b2, g3⟩ := and_e g2
  obtain ⟨b3, g4⟩ := and_e g3
  obtain ⟨w0, w1, w2, w3, w4, rfl⟩ : ∃ w0 w1 w2 w3 w4 : Value, args = #[w0, w1, w2, w3, w4] := by
    have hs : args.size = 5 := by simpa [Cond.value, given_1] using h1
    obtain ⟨L⟩ := args
    match L, hs with
    | [w0, w1, w2, w3, w4], _ => exact ⟨w0, w1, w2, w3, w4, rfl⟩
  have hw := fun d (hd : d ∈ tables_1) => atoms_spec (ws := Jvm.Cond.code x code maxLocals ret :: tables_1) hat d (List.mem_cons_of_mem _ hd)
  have hfit : Fit s := fun {y c} hc i hi => by
    obtain ⟨ha, rfl⟩ := Array.getElem?_eq_some_iff.mp hc
    have q := List.all_eq_true.mp ((Array.all_eq_true_iff_forall_mem.mp hF) _ (Array.getElem_mem ha)) i (List.mem_range.mpr hi)
    simpa [Array.getElem?_eq_getElem hi] using q
  obtain ⟨i0, ev0⟩ := is_v b0
  obtain rfl : w0 = (.int i0) := Option.some.inj ev0
  obtain ⟨i1, ev1⟩ := is_v b1
  obtain rfl : w1 = (.int i1) := Option.some.inj ev1
  obtain ⟨i2, ev2⟩ := is_v b2
  obtain rfl : w2 = (.int i2) := Option.some.inj ev2
  obtain ⟨i3, ev3⟩ := is_v b3
  obtain rfl : w3 = (.int i3) := Option.some.inj ev3
  obtain ⟨i4, ev4⟩ := is_v g4
  obtain rfl : w4 = (.int i4) := Option.some.inj ev4
  obtain ⟨hsets, hown0⟩ := atoms_of _ (rest_1_c_eq ▸ (show rest_1_c.before _ s = true from hrest))
  have n5 := not_v (Cond.before_iff.mp (hsets _ (List.mem_of_getElem? (i := 2) rfl)))
  obtain ⟨zc, ez⟩ := is_v (Cond.before_iff.mp (hsets _ (List.mem_of_getElem? (i := 1) rfl)))
  have SZ : Sta s s.heap "java/lang/String" "COMPACT_STRINGS" "Z" (.int zc) := Sta.start ez (Or.inl (hsets _ (List.mem_of_getElem? (i := 0) rfl)))
  have hz : ¬ (zc = (0 : Int32)) := gotF (Cond.eq_ints ez (Term.int_eval (0))) n5
  have hCH : CHv s consts_1 s.vm s.heap := CHv.start (own_EW s _ hw) (fun p hp => hcalls.1 p hp) (hsets _ (List.mem_of_getElem? (i := 2) rfl)) (hw _ (List.mem_of_getElem? (i := 20) rfl)) (hw _ (List.mem_of_getElem? (i := 7) rfl))
  obtain ⟨n, o, h1, h2, h3, _, L, rfl, ⟨rfl, N, _⟩, -, hq⟩ := rm0 l s _ hw tables_1 i0 i1 i2 i3 i4 zc s.heap s.heap.size (Nat.le_refl _) (Old.start s) SZ hz p e ha hc hk s m _ below hf ((Spec.applies_iff_loose hf).mp happ).1 ⟨rfl, State.Warmed39.refl s, rfl, hCH⟩ trivial
  refine ⟨n, _, h1, h2, h3, hpost _ _ _ _ _ _ ⟨Cond.after_iff.mpr rfl, Cond.after_iff.mpr (eq_i res_at (Term.int_eval (1)) rfl), trivial⟩ ⟨hq.1, hq.2.1, hq.2.2.1, (hq.2.2.2.sift fun y hy => Or.inr (N y hy)).mono (by decide) (by decide)⟩⟩
theorem main_1_1 : Claimed_1_1 := comes_1 fun _ _ _ _ _ _ h hF => ⟨h.1, hF⟩
theorem main_1_2 : Claimed_1_2 := comes_1 fun _ _ _ _ _ _ h hF => ⟨h.2.1, hF⟩
end Jvm.Pilot.@@N@@
namespace Jvm.Pilot.@@N@@
open Jvm Jvm.ClassFile Sem Op Lib Jvm.Free Jvm.Stand Jvm.Pilot.@@N@@.Jvm.D
/-! MADE BY PROGRAM (witnessworld.py) out of the Statement's table words and the real class files: 18 classes; the members and pool entries that the words name. The judged class is class 1, her method 2. -/
namespace start1
open Jvm.ClassFile
def u (s : String) : CpInfo := .utf8 (stringToUtf16 s)
/-- a pool by its gaps: so many unusable entries, then the entry; so many at the end -/
def gap : Nat → List CpInfo → List CpInfo
  | 0, r => r
  | n + 1, r => .unusable :: gap n r
def poolList (es : List (Nat × CpInfo)) (last : Nat) : List CpInfo := es.foldr (fun e r => gap e.1 (e.2 :: r)) (gap last [])
def pool (es : List (Nat × CpInfo)) (last : Nat) : Array CpInfo := ⟨poolList es last⟩
def fileOf (pool : Array CpInfo) (this : Nat) (attrs : Array Attribute := #[]) (ms : Array MethodInfo := #[]) (fl : Nat := 33) (sup : Nat := 0) (ifs : Array Nat := #[]) (fds : Array FieldInfo := #[]) : ClassFile where
  minorVersion := 0
  majorVersion := 65
  constantPool := pool
  accessFlags := fl
  thisClass := this
  superClass := sup
  interfaces := ifs
  fields := fds
  methods := ms
  attributes := attrs
def plain (name : String) (sup : Option ClassId) : Class where
  name := name
  kind := .ordinary
  loader := none
  accessFlags := 33
  super := sup
  interfaces := #[]
  cf := none
  fields := #[]
  methods := #[]
  instanceTypes := #[]
  staticTypes := #[]
  resolved := #[]
  callSites := []
  init := .initialized
  statics := none
  mirror := none

def pool0 : Array CpInfo := pool [(5, u "<init>"), (0, u "()V"), (1, .class_ 10), (1, u "java/lang/Object")] 113

def k0c0 : Code := { maxStack := 0, maxLocals := 1, code := object_method_1_code, exceptionTable := #[], attributes := #[] }
def k0m0 : Method := { name := "<init>", desc := "()V", sig := { parameters := [], returnType := none }, accessFlags := 1, code := some k0c0 }
/-- java/lang/Object -/
def k0 : Class := { plain "java/lang/Object" none with
  accessFlags := 33
  interfaces := #[]
  cf := some (fileOf pool0 8 #[] #[{ accessFlags := 1, nameIndex := 5, descriptorIndex := 6, attributes := #[] }] 33 0 #[] #[])
  fields := #[]
  methods := #[k0m0]
  instanceTypes := #[]
  staticTypes := #[]
  resolved := Array.replicate 124 none
  statics := none }

def pool1 : Array CpInfo := pool [(2, .class_ 4), (1, u "java/lang/Object"), (0, u "<init>"), (0, u "()V"), (0, .integer 2147483647), (0, .methodref 9 10), (0, .class_ 11), (0, .nameAndType 12 13), (0, u "com/example/prita/prita/gnss/GnssTimeCarriesTimePinLaw"), (0, u "pick"), (0, u "(I)C"), (0, .class_ 15), (0, u "java/lang/String"), (0, .methodref 14 17), (0, .nameAndType 5 18), (0, u "([C)V"), (0, .methodref 20 21), (0, .class_ 22), (0, .nameAndType 23 24), (0, u "com/example/prita/prita/gnss/GnssTime"), (0, u "carriesTime"), (0, u "(Ljava/lang/String;)Z"), (3, u "law"), (0, u "(IIIII)Z")] 2

def k1m0 : Method := { name := "<init>", desc := "()V", sig := { parameters := [], returnType := none }, accessFlags := 1, code := none }
def k1c1 : Code := { maxStack := 4, maxLocals := 2, code := method_2_code, exceptionTable := #[], attributes := #[] }
def k1m1 : Method := { name := "pick", desc := "(I)C", sig := { parameters := [.int], returnType := some .char }, accessFlags := 10, code := some k1c1 }
def k1c2 : Code := { maxStack := 6, maxLocals := 14, code := code, exceptionTable := #[], attributes := #[] }
def k1m2 : Method := { name := "law", desc := "(IIIII)Z", sig := { parameters := [.int, .int, .int, .int, .int], returnType := some .boolean }, accessFlags := 9, code := some k1c2 }
/-- com/example/prita/prita/gnss/GnssTimeCarriesTimePinLaw -/
def k1 : Class := { plain "com/example/prita/prita/gnss/GnssTimeCarriesTimePinLaw" (some 0) with
  accessFlags := 49
  interfaces := #[]
  cf := some (fileOf pool1 9 #[] #[{ accessFlags := 1, nameIndex := 5, descriptorIndex := 6, attributes := #[] }, { accessFlags := 10, nameIndex := 12, descriptorIndex := 13, attributes := #[] }, { accessFlags := 9, nameIndex := 28, descriptorIndex := 29, attributes := #[] }] 49 2 #[] #[])
  fields := #[]
  methods := #[k1m0, k1m1, k1m2]
  instanceTypes := #[]
  staticTypes := #[]
  resolved := Array.replicate 32 none
  statics := none }

def pool2 : Array CpInfo := pool [(1, .class_ 2), (0, u "java/io/Serializable"), (0, .class_ 4), (0, u "java/lang/Object")] 2

/-- java/io/Serializable -/
def k2 : Class := { plain "java/io/Serializable" (some 0) with
  accessFlags := 1537
  interfaces := #[]
  cf := some (fileOf pool2 1 #[] #[] 1537 3 #[] #[])
  fields := #[]
  methods := #[]
  instanceTypes := #[]
  staticTypes := #[]
  resolved := Array.replicate 7 none
  statics := none }

def pool3 : Array CpInfo := pool [(1, .class_ 2), (0, u "java/lang/Comparable"), (0, .class_ 4), (0, u "java/lang/Object")] 7

/-- java/lang/Comparable -/
def k3 : Class := { plain "java/lang/Comparable" (some 0) with
  accessFlags := 1537
  interfaces := #[]
  cf := some (fileOf pool3 1 #[] #[] 1537 3 #[] #[])
  fields := #[]
  methods := #[]
  instanceTypes := #[]
  staticTypes := #[]
  resolved := Array.replicate 12 none
  statics := none }

def pool4 : Array CpInfo := pool [(2, .class_ 4), (1, u "java/lang/CharSequence"), (42, .class_ 48), (0, u "java/lang/CharSequence$1CodePointIterator"), (10, .class_ 60), (0, u "java/lang/CharSequence$1CharIterator"), (5, .class_ 67), (0, u "java/lang/Object")] 63

/-- java/lang/CharSequence -/
def k4 : Class := { plain "java/lang/CharSequence" (some 0) with
  accessFlags := 1537
  interfaces := #[]
  cf := some (fileOf pool4 2 #[.nestMembers #[47, 59]] #[] 1537 66 #[] #[])
  fields := #[]
  methods := #[]
  instanceTypes := #[]
  staticTypes := #[]
  resolved := Array.replicate 131 none
  statics := none }

def pool5 : Array CpInfo := pool [(1, .class_ 2), (0, u "java/lang/constant/Constable"), (0, .class_ 4), (0, u "java/lang/Object")] 6

/-- java/lang/constant/Constable -/
def k5 : Class := { plain "java/lang/constant/Constable" (some 0) with
  accessFlags := 1537
  interfaces := #[]
  cf := some (fileOf pool5 1 #[] #[] 1537 3 #[] #[])
  fields := #[]
  methods := #[]
  instanceTypes := #[]
  staticTypes := #[]
  resolved := Array.replicate 11 none
  statics := none }

def pool6 : Array CpInfo := pool [(1, .class_ 2), (0, u "java/lang/constant/ConstantDesc"), (0, .class_ 4), (0, u "java/lang/Object")] 32

/-- java/lang/constant/ConstantDesc -/
def k6 : Class := { plain "java/lang/constant/ConstantDesc" (some 0) with
  accessFlags := 1537
  interfaces := #[]
  cf := some (fileOf pool6 1 #[] #[] 1537 3 #[] #[])
  fields := #[]
  methods := #[]
  instanceTypes := #[]
  staticTypes := #[]
  resolved := Array.replicate 37 none
  statics := none }

def pool7 : Array CpInfo := pool [(1, .methodref 2 3), (0, .class_ 4), (0, .nameAndType 5 6), (0, u "java/lang/Object"), (0, u "<init>"), (0, u "()V"), (0, .string 8), (0, u ""), (0, .fieldref 10 11), (0, .class_ 12), (0, .nameAndType 13 14), (0, u "java/lang/String"), (0, u "value"), (0, u "[B"), (0, .fieldref 10 16), (0, .nameAndType 17 18), (0, u "coder"), (0, u "B"), (2, u "hash"), (0, u "I"), (2, u "hashIsZero"), (0, u "Z"), (0, .methodref 10 28), (0, .nameAndType 5 29), (0, u "([CIILjava/lang/Void;)V"), (8, .fieldref 10 39), (0, .nameAndType 40 26), (0, u "COMPACT_STRINGS"), (1, .class_ 44), (1, u "java/lang/StringUTF16"), (0, u "compress"), (1, .methodref 42 48), (0, .nameAndType 49 50), (0, u "coderFromArrayLen"), (0, u "([BI)B"), (56, .class_ 109), (1, u "java/lang/StringLatin1"), (67, .methodref 42 178), (0, .nameAndType 45 179), (0, u "([CII)[B"), (361, .methodref 107 542), (0, .nameAndType 543 544), (0, u "equals"), (0, u "([B[B)Z"), (28, u "(Ljava/lang/Object;)Z"), (1, .class_ 576), (0, u "java/lang/CharSequence"), (22, u "CASE_INSENSITIVE_ORDER"), (0, u "Ljava/util/Comparator;"), (409, u "([C)V"), (90, u "serialPersistentFields"), (0, u "[Ljava/io/ObjectStreamField;"), (0, .class_ 1104), (0, u "java/lang/String$CaseInsensitiveComparator"), (1, .class_ 1107), (0, u "java/io/Serializable"), (0, .class_ 1109), (0, u "java/lang/Comparable"), (0, .class_ 1111), (0, u "java/lang/constant/Constable"), (0, .class_ 1113), (0, u "java/lang/constant/ConstantDesc"), (2, u "serialVersionUID"), (0, u "J"), (3, u "REPL"), (0, u "C"), (2, u "LATIN1"), (1, u "UTF16")] 323

def k7m0 : Method := { name := "<init>", desc := "()V", sig := { parameters := [], returnType := none }, accessFlags := 1, code := none }
def k7c1 : Code := { maxStack := 5, maxLocals := 2, code := jdk_42_method_3_code, exceptionTable := #[], attributes := #[] }
def k7m1 : Method := { name := "<init>", desc := "([C)V", sig := { parameters := [(.array .char)], returnType := none }, accessFlags := 1, code := some k7c1 }
def k7c2 : Code := { maxStack := 2, maxLocals := 3, code := jdk_42_method_66_code, exceptionTable := #[], attributes := #[] }
def k7m2 : Method := { name := "equals", desc := "(Ljava/lang/Object;)Z", sig := { parameters := [(.object "java/lang/Object")], returnType := some .boolean }, accessFlags := 1, code := some k7c2 }
def k7c3 : Code := { maxStack := 4, maxLocals := 6, code := jdk_42_method_149_code, exceptionTable := #[], attributes := #[] }
def k7m3 : Method := { name := "<init>", desc := "([CIILjava/lang/Void;)V", sig := { parameters := [(.array .char), .int, .int, (.object "java/lang/Void")], returnType := none }, accessFlags := 2, code := some k7c3 }
/-- java/lang/String -/
def k7 : Class := { plain "java/lang/String" (some 0) with
  accessFlags := 49
  interfaces := #[2, 3, 4, 5, 6]
  cf := some (fileOf pool7 10 #[.nestMembers #[1103]] #[{ accessFlags := 1, nameIndex := 5, descriptorIndex := 6, attributes := #[] }, { accessFlags := 1, nameIndex := 5, descriptorIndex := 1010, attributes := #[] }, { accessFlags := 1, nameIndex := 543, descriptorIndex := 573, attributes := #[] }, { accessFlags := 2, nameIndex := 5, descriptorIndex := 29, attributes := #[] }] 49 2 #[1106, 1108, 575, 1110, 1112] #[{ accessFlags := 18, nameIndex := 13, descriptorIndex := 14, attributes := #[] }, { accessFlags := 18, nameIndex := 17, descriptorIndex := 18, attributes := #[] }, { accessFlags := 2, nameIndex := 21, descriptorIndex := 22, attributes := #[] }, { accessFlags := 2, nameIndex := 25, descriptorIndex := 26, attributes := #[] }, { accessFlags := 26, nameIndex := 1116, descriptorIndex := 1117, attributes := #[] }, { accessFlags := 24, nameIndex := 40, descriptorIndex := 26, attributes := #[] }, { accessFlags := 26, nameIndex := 1101, descriptorIndex := 1102, attributes := #[] }, { accessFlags := 26, nameIndex := 1121, descriptorIndex := 1122, attributes := #[] }, { accessFlags := 25, nameIndex := 599, descriptorIndex := 600, attributes := #[] }, { accessFlags := 24, nameIndex := 1125, descriptorIndex := 18, attributes := #[] }, { accessFlags := 24, nameIndex := 1127, descriptorIndex := 18, attributes := #[] }])
  fields := #[{ name := "value", type := (.array .byte), accessFlags := 18, slot := 0, constantValue := 0 }, { name := "coder", type := .byte, accessFlags := 18, slot := 1, constantValue := 0 }, { name := "hash", type := .int, accessFlags := 2, slot := 2, constantValue := 0 }, { name := "hashIsZero", type := .boolean, accessFlags := 2, slot := 3, constantValue := 0 }, { name := "serialVersionUID", type := .long, accessFlags := 26, slot := 0, constantValue := 0 }, { name := "COMPACT_STRINGS", type := .boolean, accessFlags := 24, slot := 1, constantValue := 0 }, { name := "serialPersistentFields", type := (.array (.object "java/io/ObjectStreamField")), accessFlags := 26, slot := 2, constantValue := 0 }, { name := "REPL", type := .char, accessFlags := 26, slot := 3, constantValue := 0 }, { name := "CASE_INSENSITIVE_ORDER", type := (.object "java/util/Comparator"), accessFlags := 25, slot := 4, constantValue := 0 }, { name := "LATIN1", type := .byte, accessFlags := 24, slot := 5, constantValue := 0 }, { name := "UTF16", type := .byte, accessFlags := 24, slot := 6, constantValue := 0 }]
  methods := #[k7m0, k7m1, k7m2, k7m3]
  instanceTypes := #[(.array .byte), .byte, .int, .boolean]
  staticTypes := #[.long, .boolean, (.array (.object "java/io/ObjectStreamField")), .char, (.object "java/util/Comparator"), .byte, .byte]
  resolved := Array.replicate 1451 none
  statics := some 0 }

def pool8 : Array CpInfo := pool [(2, .class_ 4), (1, u "java/lang/Object"), (3, .class_ 10), (1, u "com/example/prita/prita/gnss/GnssTime"), (0, u "fault"), (0, u "Lcom/example/prita/prita/arbiter/Reason;"), (2, u "unixEpochMs"), (0, u "J"), (8, u "carriesTime"), (0, u "(Ljava/lang/String;)Z"), (6, .string 34), (0, u "RMC"), (0, .methodref 36 37), (0, .class_ 38), (0, .nameAndType 39 40), (0, u "java/lang/String"), (0, u "equals"), (0, u "(Ljava/lang/Object;)Z"), (71, .string 113), (0, u "ZDA"), (90, u "MS_PER_DAY"), (1, u "GPS_EPOCH_YY"), (0, u "I"), (1, u "TIME"), (1, u "RMC_STATUS"), (1, u "RMC_DATE"), (1, u "ZDA_DAY"), (0, u "ZDA_MONTH"), (1, u "ZDA_YEAR")] 30

def k8c0 : Code := { maxStack := 2, maxLocals := 1, code := prog_17_method_3_code, exceptionTable := #[], attributes := #[] }
def k8m0 : Method := { name := "carriesTime", desc := "(Ljava/lang/String;)Z", sig := { parameters := [(.object "java/lang/String")], returnType := some .boolean }, accessFlags := 8, code := some k8c0 }
/-- com/example/prita/prita/gnss/GnssTime -/
def k8 : Class := { plain "com/example/prita/prita/gnss/GnssTime" (some 0) with
  accessFlags := 48
  interfaces := #[]
  cf := some (fileOf pool8 8 #[] #[{ accessFlags := 8, nameIndex := 25, descriptorIndex := 26, attributes := #[] }] 48 2 #[] #[{ accessFlags := 26, nameIndex := 204, descriptorIndex := 16, attributes := #[] }, { accessFlags := 26, nameIndex := 206, descriptorIndex := 207, attributes := #[] }, { accessFlags := 26, nameIndex := 209, descriptorIndex := 207, attributes := #[] }, { accessFlags := 26, nameIndex := 211, descriptorIndex := 207, attributes := #[] }, { accessFlags := 26, nameIndex := 213, descriptorIndex := 207, attributes := #[] }, { accessFlags := 26, nameIndex := 215, descriptorIndex := 207, attributes := #[] }, { accessFlags := 26, nameIndex := 216, descriptorIndex := 207, attributes := #[] }, { accessFlags := 26, nameIndex := 218, descriptorIndex := 207, attributes := #[] }, { accessFlags := 18, nameIndex := 11, descriptorIndex := 12, attributes := #[] }, { accessFlags := 18, nameIndex := 15, descriptorIndex := 16, attributes := #[] }])
  fields := #[{ name := "MS_PER_DAY", type := .long, accessFlags := 26, slot := 0, constantValue := 0 }, { name := "GPS_EPOCH_YY", type := .int, accessFlags := 26, slot := 1, constantValue := 0 }, { name := "TIME", type := .int, accessFlags := 26, slot := 2, constantValue := 0 }, { name := "RMC_STATUS", type := .int, accessFlags := 26, slot := 3, constantValue := 0 }, { name := "RMC_DATE", type := .int, accessFlags := 26, slot := 4, constantValue := 0 }, { name := "ZDA_DAY", type := .int, accessFlags := 26, slot := 5, constantValue := 0 }, { name := "ZDA_MONTH", type := .int, accessFlags := 26, slot := 6, constantValue := 0 }, { name := "ZDA_YEAR", type := .int, accessFlags := 26, slot := 7, constantValue := 0 }, { name := "fault", type := (.object "com/example/prita/prita/arbiter/Reason"), accessFlags := 18, slot := 0, constantValue := 0 }, { name := "unixEpochMs", type := .long, accessFlags := 18, slot := 1, constantValue := 0 }]
  methods := #[k8m0]
  instanceTypes := #[(.object "com/example/prita/prita/arbiter/Reason"), .long]
  staticTypes := #[.long, .int, .int, .int, .int, .int, .int, .int]
  resolved := Array.replicate 249 none
  statics := none }

def pool9 : Array CpInfo := pool [(4, .class_ 6), (1, u "java/lang/Object"), (0, u "<init>"), (0, u "()V"), (5, .class_ 16), (1, u "java/lang/StringLatin1"), (104, u "$assertionsDisabled"), (0, u "Z"), (98, .class_ 223), (1, u "java/lang/StringLatin1$LinesSpliterator"), (57, u "equals"), (0, u "([B[B)Z"), (107, .class_ 391), (0, u "java/lang/StringLatin1$CharsSpliterator")] 3

def k9m0 : Method := { name := "<init>", desc := "()V", sig := { parameters := [], returnType := none }, accessFlags := 0, code := none }
def k9c1 : Code := { maxStack := 3, maxLocals := 3, code := jdk_43_method_13_code, exceptionTable := #[], attributes := #[] }
def k9m1 : Method := { name := "equals", desc := "([B[B)Z", sig := { parameters := [(.array .byte), (.array .byte)], returnType := some .boolean }, accessFlags := 9, code := some k9c1 }
/-- java/lang/StringLatin1 -/
def k9 : Class := { plain "java/lang/StringLatin1" (some 0) with
  accessFlags := 48
  interfaces := #[]
  cf := some (fileOf pool9 14 #[.nestMembers #[390, 221]] #[{ accessFlags := 0, nameIndex := 7, descriptorIndex := 8, attributes := #[] }, { accessFlags := 9, nameIndex := 281, descriptorIndex := 282, attributes := #[] }] 48 4 #[] #[{ accessFlags := 4120, nameIndex := 121, descriptorIndex := 122, attributes := #[] }])
  fields := #[{ name := "$assertionsDisabled", type := .boolean, accessFlags := 4120, slot := 0, constantValue := 0 }]
  methods := #[k9m0, k9m1]
  instanceTypes := #[]
  staticTypes := #[.boolean]
  resolved := Array.replicate 395 none
  statics := none }

def pool10 : Array CpInfo := pool [(6, .class_ 8), (1, u "java/lang/Object"), (0, u "<init>"), (0, u "()V"), (1, .class_ 14), (1, u "java/lang/StringUTF16"), (31, u "$assertionsDisabled"), (0, u "Z"), (13, u "HI_BYTE_SHIFT"), (0, u "I"), (2, u "LO_BYTE_SHIFT"), (49, .methodref 12 116), (0, .nameAndType 117 118), (0, u "compress"), (0, u "([CI[BII)I"), (3, u "([CII)[B"), (138, u "coderFromArrayLen"), (0, u "([BI)B"), (106, .class_ 371), (1, u "java/lang/StringUTF16$LinesSpliterator"), (58, u "MAX_LENGTH"), (196, .class_ 628), (0, u "java/lang/StringUTF16$CodePointsSpliterator"), (0, .class_ 630), (0, u "java/lang/StringUTF16$CharsSpliterator")] 4

def k10m0 : Method := { name := "<init>", desc := "()V", sig := { parameters := [], returnType := none }, accessFlags := 0, code := none }
def k10c1 : Code := { maxStack := 2, maxLocals := 2, code := jdk_52_method_15_code, exceptionTable := #[], attributes := #[] }
def k10m1 : Method := { name := "coderFromArrayLen", desc := "([BI)B", sig := { parameters := [(.array .byte), .int], returnType := some .byte }, accessFlags := 8, code := some k10c1 }
def k10c2 : Code := { maxStack := 5, maxLocals := 6, code := jdk_52_method_16_code, exceptionTable := #[], attributes := #[] }
def k10m2 : Method := { name := "compress", desc := "([CII)[B", sig := { parameters := [(.array .char), .int, .int], returnType := some (.array .byte) }, accessFlags := 9, code := some k10c2 }
def k10c3 : Code := { maxStack := 3, maxLocals := 7, code := jdk_52_method_21_code, exceptionTable := #[], attributes := #[] }
def k10m3 : Method := { name := "compress", desc := "([CI[BII)I", sig := { parameters := [(.array .char), .int, (.array .byte), .int, .int], returnType := some .int }, accessFlags := 9, code := some k10c3 }
/-- java/lang/StringUTF16 -/
def k10 : Class := { plain "java/lang/StringUTF16" (some 0) with
  accessFlags := 48
  interfaces := #[]
  cf := some (fileOf pool10 12 #[.nestMembers #[627, 629, 369]] #[{ accessFlags := 0, nameIndex := 9, descriptorIndex := 10, attributes := #[] }, { accessFlags := 8, nameIndex := 261, descriptorIndex := 262, attributes := #[] }, { accessFlags := 9, nameIndex := 117, descriptorIndex := 122, attributes := #[] }, { accessFlags := 9, nameIndex := 117, descriptorIndex := 118, attributes := #[] }] 48 6 #[] #[{ accessFlags := 26, nameIndex := 61, descriptorIndex := 62, attributes := #[] }, { accessFlags := 26, nameIndex := 65, descriptorIndex := 62, attributes := #[] }, { accessFlags := 24, nameIndex := 430, descriptorIndex := 62, attributes := #[] }, { accessFlags := 4120, nameIndex := 46, descriptorIndex := 47, attributes := #[] }])
  fields := #[{ name := "HI_BYTE_SHIFT", type := .int, accessFlags := 26, slot := 0, constantValue := 0 }, { name := "LO_BYTE_SHIFT", type := .int, accessFlags := 26, slot := 1, constantValue := 0 }, { name := "MAX_LENGTH", type := .int, accessFlags := 24, slot := 2, constantValue := 0 }, { name := "$assertionsDisabled", type := .boolean, accessFlags := 4120, slot := 3, constantValue := 0 }]
  methods := #[k10m0, k10m1, k10m2, k10m3]
  instanceTypes := #[]
  staticTypes := #[.int, .int, .int, .boolean]
  resolved := Array.replicate 635 none
  statics := none }

def pool11 : Array CpInfo := pool [(2, .class_ 4), (1, u "java/lang/Object"), (0, u "<init>"), (0, u "()V"), (17, .class_ 26), (1, u "jdk/internal/util/Preconditions"), (28, .class_ 56), (0, u "jdk/internal/util/Preconditions$4"), (57, .class_ 115), (0, u "jdk/internal/util/Preconditions$1"), (7, u "SIOOBE_FORMATTER"), (0, u "Ljava/util/function/BiFunction;"), (0, .class_ 126), (0, u "jdk/internal/util/Preconditions$2"), (3, u "AIOOBE_FORMATTER"), (0, .class_ 132), (0, u "jdk/internal/util/Preconditions$3"), (3, u "IOOBE_FORMATTER")] 57

def k11m0 : Method := { name := "<init>", desc := "()V", sig := { parameters := [], returnType := none }, accessFlags := 1, code := none }
/-- jdk/internal/util/Preconditions -/
def k11 : Class := { plain "jdk/internal/util/Preconditions" (some 0) with
  accessFlags := 33
  interfaces := #[]
  cf := some (fileOf pool11 24 #[.nestMembers #[55, 131, 125, 114]] #[{ accessFlags := 1, nameIndex := 5, descriptorIndex := 6, attributes := #[] }] 33 2 #[] #[{ accessFlags := 25, nameIndex := 123, descriptorIndex := 124, attributes := #[] }, { accessFlags := 25, nameIndex := 130, descriptorIndex := 124, attributes := #[] }, { accessFlags := 25, nameIndex := 136, descriptorIndex := 124, attributes := #[] }])
  fields := #[{ name := "SIOOBE_FORMATTER", type := (.object "java/util/function/BiFunction"), accessFlags := 25, slot := 0, constantValue := 0 }, { name := "AIOOBE_FORMATTER", type := (.object "java/util/function/BiFunction"), accessFlags := 25, slot := 1, constantValue := 0 }, { name := "IOOBE_FORMATTER", type := (.object "java/util/function/BiFunction"), accessFlags := 25, slot := 2, constantValue := 0 }]
  methods := #[k11m0]
  instanceTypes := #[]
  staticTypes := #[(.object "java/util/function/BiFunction"), (.object "java/util/function/BiFunction"), (.object "java/util/function/BiFunction")]
  resolved := Array.replicate 194 none
  statics := some 1 }

def pool12 : Array CpInfo := pool [(9, u "<init>"), (6, .class_ 18), (1, u "java/lang/Object"), (0, u "()V"), (1, .class_ 23), (1, u "jdk/internal/util/ArraysSupport"), (0, u "LOG2_ARRAY_LONG_INDEX_SCALE"), (0, u "I"), (2, u "U"), (0, u "Ljdk/internal/misc/Unsafe;"), (8, u "BIG_ENDIAN"), (0, u "Z"), (8, u "LOG2_BYTE_BIT_SIZE"), (4, u "LOG2_ARRAY_INT_INDEX_SCALE"), (54, u "JLA"), (0, u "Ljdk/internal/access/JavaLangAccess;"), (11, u "LOG2_ARRAY_BOOLEAN_INDEX_SCALE"), (9, u "LOG2_ARRAY_BYTE_INDEX_SCALE"), (5, u "LOG2_ARRAY_CHAR_INDEX_SCALE"), (5, u "LOG2_ARRAY_SHORT_INDEX_SCALE"), (18, u "LOG2_ARRAY_FLOAT_INDEX_SCALE"), (24, u "LOG2_ARRAY_DOUBLE_INDEX_SCALE"), (89, u "T_BOOLEAN"), (2, u "T_CHAR"), (1, u "T_FLOAT"), (1, u "T_DOUBLE"), (1, u "T_BYTE"), (1, u "T_SHORT"), (1, u "T_INT"), (1, u "T_LONG"), (1, u "SOFT_MAX_ARRAY_LENGTH")] 83

def k12m0 : Method := { name := "<init>", desc := "()V", sig := { parameters := [], returnType := none }, accessFlags := 2, code := none }
/-- jdk/internal/util/ArraysSupport -/
def k12 : Class := { plain "jdk/internal/util/ArraysSupport" (some 0) with
  accessFlags := 33
  interfaces := #[]
  cf := some (fileOf pool12 21 #[] #[{ accessFlags := 2, nameIndex := 9, descriptorIndex := 19, attributes := #[] }] 33 16 #[] #[{ accessFlags := 24, nameIndex := 28, descriptorIndex := 29, attributes := #[] }, { accessFlags := 26, nameIndex := 38, descriptorIndex := 39, attributes := #[] }, { accessFlags := 25, nameIndex := 121, descriptorIndex := 25, attributes := #[] }, { accessFlags := 25, nameIndex := 131, descriptorIndex := 25, attributes := #[] }, { accessFlags := 25, nameIndex := 137, descriptorIndex := 25, attributes := #[] }, { accessFlags := 25, nameIndex := 143, descriptorIndex := 25, attributes := #[] }, { accessFlags := 25, nameIndex := 53, descriptorIndex := 25, attributes := #[] }, { accessFlags := 25, nameIndex := 24, descriptorIndex := 25, attributes := #[] }, { accessFlags := 25, nameIndex := 162, descriptorIndex := 25, attributes := #[] }, { accessFlags := 25, nameIndex := 187, descriptorIndex := 25, attributes := #[] }, { accessFlags := 26, nameIndex := 48, descriptorIndex := 25, attributes := #[] }, { accessFlags := 25, nameIndex := 277, descriptorIndex := 25, attributes := #[] }, { accessFlags := 25, nameIndex := 280, descriptorIndex := 25, attributes := #[] }, { accessFlags := 25, nameIndex := 282, descriptorIndex := 25, attributes := #[] }, { accessFlags := 25, nameIndex := 284, descriptorIndex := 25, attributes := #[] }, { accessFlags := 25, nameIndex := 286, descriptorIndex := 25, attributes := #[] }, { accessFlags := 25, nameIndex := 288, descriptorIndex := 25, attributes := #[] }, { accessFlags := 25, nameIndex := 290, descriptorIndex := 25, attributes := #[] }, { accessFlags := 25, nameIndex := 292, descriptorIndex := 25, attributes := #[] }, { accessFlags := 26, nameIndex := 108, descriptorIndex := 109, attributes := #[] }, { accessFlags := 25, nameIndex := 294, descriptorIndex := 25, attributes := #[] }])
  fields := #[{ name := "U", type := (.object "jdk/internal/misc/Unsafe"), accessFlags := 24, slot := 0, constantValue := 0 }, { name := "BIG_ENDIAN", type := .boolean, accessFlags := 26, slot := 1, constantValue := 0 }, { name := "LOG2_ARRAY_BOOLEAN_INDEX_SCALE", type := .int, accessFlags := 25, slot := 2, constantValue := 0 }, { name := "LOG2_ARRAY_BYTE_INDEX_SCALE", type := .int, accessFlags := 25, slot := 3, constantValue := 0 }, { name := "LOG2_ARRAY_CHAR_INDEX_SCALE", type := .int, accessFlags := 25, slot := 4, constantValue := 0 }, { name := "LOG2_ARRAY_SHORT_INDEX_SCALE", type := .int, accessFlags := 25, slot := 5, constantValue := 0 }, { name := "LOG2_ARRAY_INT_INDEX_SCALE", type := .int, accessFlags := 25, slot := 6, constantValue := 0 }, { name := "LOG2_ARRAY_LONG_INDEX_SCALE", type := .int, accessFlags := 25, slot := 7, constantValue := 0 }, { name := "LOG2_ARRAY_FLOAT_INDEX_SCALE", type := .int, accessFlags := 25, slot := 8, constantValue := 0 }, { name := "LOG2_ARRAY_DOUBLE_INDEX_SCALE", type := .int, accessFlags := 25, slot := 9, constantValue := 0 }, { name := "LOG2_BYTE_BIT_SIZE", type := .int, accessFlags := 26, slot := 10, constantValue := 0 }, { name := "T_BOOLEAN", type := .int, accessFlags := 25, slot := 11, constantValue := 0 }, { name := "T_CHAR", type := .int, accessFlags := 25, slot := 12, constantValue := 0 }, { name := "T_FLOAT", type := .int, accessFlags := 25, slot := 13, constantValue := 0 }, { name := "T_DOUBLE", type := .int, accessFlags := 25, slot := 14, constantValue := 0 }, { name := "T_BYTE", type := .int, accessFlags := 25, slot := 15, constantValue := 0 }, { name := "T_SHORT", type := .int, accessFlags := 25, slot := 16, constantValue := 0 }, { name := "T_INT", type := .int, accessFlags := 25, slot := 17, constantValue := 0 }, { name := "T_LONG", type := .int, accessFlags := 25, slot := 18, constantValue := 0 }, { name := "JLA", type := (.object "jdk/internal/access/JavaLangAccess"), accessFlags := 26, slot := 19, constantValue := 0 }, { name := "SOFT_MAX_ARRAY_LENGTH", type := .int, accessFlags := 25, slot := 20, constantValue := 0 }]
  methods := #[k12m0]
  instanceTypes := #[]
  staticTypes := #[(.object "jdk/internal/misc/Unsafe"), .boolean, .int, .int, .int, .int, .int, .int, .int, .int, .int, .int, .int, .int, .int, .int, .int, .int, .int, (.object "jdk/internal/access/JavaLangAccess"), .int]
  resolved := Array.replicate 378 none
  statics := none }

def pool13 : Array CpInfo := pool [(1, u "java/lang/Cloneable"), (0, .class_ 1), (0, u "java/lang/Object"), (0, .class_ 3)] 3

/-- java/lang/Cloneable -/
def k13 : Class := { plain "java/lang/Cloneable" (some 0) with
  accessFlags := 1537
  interfaces := #[]
  cf := some (fileOf pool13 2 #[] #[] 1537 4 #[] #[])
  fields := #[]
  methods := #[]
  instanceTypes := #[]
  staticTypes := #[]
  resolved := Array.replicate 8 none
  statics := none }

/-- the primitive byte -/
def k14 : Class := { plain "byte" none with kind := .primitive 'B', accessFlags := 0x411 }
/-- [B -/
def k15 : Class := { plain "[B" (some 0) with kind := .array 14 .byte, interfaces := #[13, 2], accessFlags := 1041 }

/-- the primitive char -/
def k16 : Class := { plain "char" none with kind := .primitive 'C', accessFlags := 0x411 }
/-- [C -/
def k17 : Class := { plain "[C" (some 0) with kind := .array 16 .char, interfaces := #[13, 2], accessFlags := 1041 }

def heap : Heap := #[{ cls := 7, slots := #[.long 0, .int 1, .null, .int 0, .null, .int 0, .int 0], vm := .statics 7 },
  { cls := 11, slots := #[.null, .null, .null], vm := .statics 11 }]
def classes : Array Class := #[k0, k1, k2, k3, k4, k5, k6, k7, k8, k9, k10, k11, k12, k13, k14, k15, k16, k17]
def interned : List (Array UInt16 × Addr) := []
def slotsUsed : Nat := 10
def theMethod : MethodId := ⟨1, 2⟩
def args0 : Array Value := #[.int 1, .int 2, .int 3, .int 4, .int 5]
def aboutOver (below : List Frame) : State where
  vm := { classes := classes, interned := interned.toArray }
  heap := heap
  slotsUsed := slotsUsed
  threads := #[{ frames := .invoking theMethod args0 :: below }]
def below0 : List Frame := [.native { method := ⟨0, 0⟩, args := #[] }]
def about1 : State := aboutOver below0
def p0 : Program := .bare "" "" ""
def e0 : Env := launch0.env 0 0 0
theorem w_frames : about1.frames = Frame.invoking theMethod args0 :: below0 := rfl
set_option maxRecDepth 65536 in
theorem w_args : argsFit about1.vm theMethod args0 = true := by decide +kernel
set_option maxRecDepth 65536 in
theorem w_heap : heapFits about1 = true := by decide +kernel
set_option maxRecDepth 65536 in
theorem w_runnable : about1.curStatus? = some .runnable := by decide +kernel
set_option maxRecDepth 65536 in
theorem w_alone : about1.alone = true := by decide +kernel
set_option maxRecDepth 65536 in
theorem w_named : about1.methodNamed? x = some theMethod := by decide +kernel
set_option maxRecDepth 65536 in
theorem w_hears : about1.hears theMethod below0 = true := by decide +kernel
set_option maxRecDepth 65536 in
theorem w_ripe : about1.ripe theMethod args0 below0 = true := by decide +kernel
theorem w_running : about1.status = .running := rfl
set_option maxRecDepth 65536 in
theorem w_room : about1.hasRoom e0.platform room_1 = true :=
  launch0.hasRoom_least _ room_1 (by decide +kernel) (by decide +kernel) (by decide +kernel) (by decide +kernel) (by decide +kernel) (by decide +kernel)
theorem allAtoms_all (ts : List Jvm.Cond) (a : Array Jvm.Value) (st : Jvm.State) : (allAtoms ts).before a st = ts.all (fun c => c.before a st) := by
  induction ts with
  | nil => rfl
  | cons c t ih =>
    show (Jvm.Cond.and c (allAtoms t)).before a st = _
    rw [Jvm.Cond.before_and, ih, List.all_cons]
def words1 : List Jvm.Cond := Jvm.Cond.code x code maxLocals ret :: tables_1
/-- a 'code' word, met by the world's own term for the bytes: nothing is compared byte by byte -/
theorem code_word {y : MethodName} {bytes : ByteArray} {mx : Nat} {rt : Option FieldType} {a : Array Value} {s : State} {m : MethodId} {meth : Method} {c : Code} (h1 : s.methodNamed? y = some m) (h2 : s.vm.method? m = some meth) (h3 : meth.code = some c) (h4 : c.code = bytes)
    (h5 : (c.maxLocals == mx && c.exceptionTable.isEmpty && decide (c.maxStack ≤ mostOperands) && decide (meth.sig.returnType = rt) && !meth.locks && decide (parseMethodDescriptor y.desc = some meth.sig)) = true) : (Jvm.Cond.code y bytes mx rt).before a s = true := by
  simp only [Bool.and_eq_true, beq_iff_eq, Bool.not_eq_true', decide_eq_true_eq] at h5
  obtain ⟨⟨⟨⟨⟨g1, g2⟩, g3⟩, g4⟩, g5⟩, g6⟩ := h5
  simp [Cond.before, Cond.holds, Cond.value, h1, h2, h3, h4, g1, g2, g3, g4, g5, g6]
def isCode : Jvm.Cond → Bool
  | .code _ _ _ _ => true
  | _ => false
theorem all_split {L : List Jvm.Cond} {P : Jvm.Cond → Bool} (h1 : L.all (fun c => isCode c || P c) = true) (h2 : ∀ c ∈ L.filter isCode, P c = true) : L.all P = true := by
  refine List.all_eq_true.mpr fun c hc => ?_
  have h := List.all_eq_true.mp h1 c hc
  rcases Bool.eq_false_or_eq_true (isCode c) with hi | hi
  · exact h2 c (List.mem_filter.mpr ⟨hc, hi⟩)
  · simpa [hi] using h
set_option maxRecDepth 65536 in
theorem w_c0 : (Jvm.Cond.code x code maxLocals ret).before args0 about1 = true := code_word (m := ⟨1, 2⟩) (meth := k1m2) (c := k1c2) (by decide +kernel) rfl rfl rfl (by decide +kernel)
set_option maxRecDepth 65536 in
theorem w_c1 : (Jvm.Cond.code ({ cls := "com/example/prita/prita/gnss/GnssTimeCarriesTimePinLaw", name := "pick", desc := "(I)C" } : Jvm.MethodName) method_2_code (2 : Nat) (Option.some Jvm.ClassFile.FieldType.char)).before args0 about1 = true := code_word (m := ⟨1, 1⟩) (meth := k1m1) (c := k1c1) (by decide +kernel) rfl rfl rfl (by decide +kernel)
set_option maxRecDepth 65536 in
theorem w_c2 : (Jvm.Cond.code ({ cls := "java/lang/String", name := "<init>", desc := "([C)V" } : Jvm.MethodName) jdk_42_method_3_code (2 : Nat) (Option.none : Option Jvm.ClassFile.FieldType)).before args0 about1 = true := code_word (m := ⟨7, 1⟩) (meth := k7m1) (c := k7c1) (by decide +kernel) rfl rfl rfl (by decide +kernel)
set_option maxRecDepth 65536 in
theorem w_c3 : (Jvm.Cond.code ({ cls := "java/lang/String", name := "<init>", desc := "([CIILjava/lang/Void;)V" } : Jvm.MethodName) jdk_42_method_149_code (6 : Nat) (Option.none : Option Jvm.ClassFile.FieldType)).before args0 about1 = true := code_word (m := ⟨7, 3⟩) (meth := k7m3) (c := k7c3) (by decide +kernel) rfl rfl rfl (by decide +kernel)
set_option maxRecDepth 65536 in
theorem w_c4 : (Jvm.Cond.code ({ cls := "java/lang/Object", name := "<init>", desc := "()V" } : Jvm.MethodName) object_method_1_code (1 : Nat) (Option.none : Option Jvm.ClassFile.FieldType)).before args0 about1 = true := code_word (m := ⟨0, 0⟩) (meth := k0m0) (c := k0c0) (by decide +kernel) rfl rfl rfl (by decide +kernel)
set_option maxRecDepth 65536 in
theorem w_c5 : (Jvm.Cond.code ({ cls := "com/example/prita/prita/gnss/GnssTime", name := "carriesTime", desc := "(Ljava/lang/String;)Z" } : Jvm.MethodName) prog_17_method_3_code (1 : Nat) (Option.some Jvm.ClassFile.FieldType.boolean)).before args0 about1 = true := code_word (m := ⟨8, 0⟩) (meth := k8m0) (c := k8c0) (by decide +kernel) rfl rfl rfl (by decide +kernel)
set_option maxRecDepth 65536 in
theorem w_c6 : (Jvm.Cond.code ({ cls := "java/lang/String", name := "equals", desc := "(Ljava/lang/Object;)Z" } : Jvm.MethodName) jdk_42_method_66_code (3 : Nat) (Option.some Jvm.ClassFile.FieldType.boolean)).before args0 about1 = true := code_word (m := ⟨7, 2⟩) (meth := k7m2) (c := k7c2) (by decide +kernel) rfl rfl rfl (by decide +kernel)
set_option maxRecDepth 65536 in
theorem w_c7 : (Jvm.Cond.code ({ cls := "java/lang/StringLatin1", name := "equals", desc := "([B[B)Z" } : Jvm.MethodName) jdk_43_method_13_code (3 : Nat) (Option.some Jvm.ClassFile.FieldType.boolean)).before args0 about1 = true := code_word (m := ⟨9, 1⟩) (meth := k9m1) (c := k9c1) (by decide +kernel) rfl rfl rfl (by decide +kernel)
set_option maxRecDepth 65536 in
theorem w_c8 : (Jvm.Cond.code ({ cls := "java/lang/StringUTF16", name := "compress", desc := "([CII)[B" } : Jvm.MethodName) jdk_52_method_16_code (6 : Nat) (Option.some (Jvm.ClassFile.FieldType.array Jvm.ClassFile.FieldType.byte))).before args0 about1 = true := code_word (m := ⟨10, 2⟩) (meth := k10m2) (c := k10c2) (by decide +kernel) rfl rfl rfl (by decide +kernel)
set_option maxRecDepth 65536 in
theorem w_c9 : (Jvm.Cond.code ({ cls := "java/lang/StringUTF16", name := "compress", desc := "([CI[BII)I" } : Jvm.MethodName) jdk_52_method_21_code (7 : Nat) (Option.some Jvm.ClassFile.FieldType.int)).before args0 about1 = true := code_word (m := ⟨10, 3⟩) (meth := k10m3) (c := k10c3) (by decide +kernel) rfl rfl rfl (by decide +kernel)
set_option maxRecDepth 65536 in
theorem w_c10 : (Jvm.Cond.code ({ cls := "java/lang/StringUTF16", name := "coderFromArrayLen", desc := "([BI)B" } : Jvm.MethodName) jdk_52_method_15_code (2 : Nat) (Option.some Jvm.ClassFile.FieldType.byte)).before args0 about1 = true := code_word (m := ⟨10, 1⟩) (meth := k10m1) (c := k10c1) (by decide +kernel) rfl rfl rfl (by decide +kernel)
def codes1 : List Jvm.Cond := [Jvm.Cond.code x code maxLocals ret, Jvm.Cond.code ({ cls := "com/example/prita/prita/gnss/GnssTimeCarriesTimePinLaw", name := "pick", desc := "(I)C" } : Jvm.MethodName) method_2_code (2 : Nat) (Option.some Jvm.ClassFile.FieldType.char), Jvm.Cond.code ({ cls := "java/lang/String", name := "<init>", desc := "([C)V" } : Jvm.MethodName) jdk_42_method_3_code (2 : Nat) (Option.none : Option Jvm.ClassFile.FieldType), Jvm.Cond.code ({ cls := "java/lang/String", name := "<init>", desc := "([CIILjava/lang/Void;)V" } : Jvm.MethodName) jdk_42_method_149_code (6 : Nat) (Option.none : Option Jvm.ClassFile.FieldType), Jvm.Cond.code ({ cls := "java/lang/Object", name := "<init>", desc := "()V" } : Jvm.MethodName) object_method_1_code (1 : Nat) (Option.none : Option Jvm.ClassFile.FieldType), Jvm.Cond.code ({ cls := "com/example/prita/prita/gnss/GnssTime", name := "carriesTime", desc := "(Ljava/lang/String;)Z" } : Jvm.MethodName) prog_17_method_3_code (1 : Nat) (Option.some Jvm.ClassFile.FieldType.boolean), Jvm.Cond.code ({ cls := "java/lang/String", name := "equals", desc := "(Ljava/lang/Object;)Z" } : Jvm.MethodName) jdk_42_method_66_code (3 : Nat) (Option.some Jvm.ClassFile.FieldType.boolean), Jvm.Cond.code ({ cls := "java/lang/StringLatin1", name := "equals", desc := "([B[B)Z" } : Jvm.MethodName) jdk_43_method_13_code (3 : Nat) (Option.some Jvm.ClassFile.FieldType.boolean), Jvm.Cond.code ({ cls := "java/lang/StringUTF16", name := "compress", desc := "([CII)[B" } : Jvm.MethodName) jdk_52_method_16_code (6 : Nat) (Option.some (Jvm.ClassFile.FieldType.array Jvm.ClassFile.FieldType.byte)), Jvm.Cond.code ({ cls := "java/lang/StringUTF16", name := "compress", desc := "([CI[BII)I" } : Jvm.MethodName) jdk_52_method_21_code (7 : Nat) (Option.some Jvm.ClassFile.FieldType.int), Jvm.Cond.code ({ cls := "java/lang/StringUTF16", name := "coderFromArrayLen", desc := "([BI)B" } : Jvm.MethodName) jdk_52_method_15_code (2 : Nat) (Option.some Jvm.ClassFile.FieldType.byte)]
set_option maxRecDepth 65536 in
theorem codes_eq : words1.filter isCode = codes1 := rfl
theorem w_codes : ∀ c ∈ words1.filter isCode, c.before args0 about1 = true := by
  rw [codes_eq]
  intro c hc
  simp only [codes1, List.mem_cons, List.not_mem_nil, or_false] at hc
  rcases hc with rfl | rfl | rfl | rfl | rfl | rfl | rfl | rfl | rfl | rfl | rfl
  · exact w_c0
  · exact w_c1
  · exact w_c2
  · exact w_c3
  · exact w_c4
  · exact w_c5
  · exact w_c6
  · exact w_c7
  · exact w_c8
  · exact w_c9
  · exact w_c10
set_option maxRecDepth 65536 in
theorem w_t1 : (words1.take 24).all (fun c => isCode c || c.before args0 about1) = true := by decide +kernel
set_option maxRecDepth 65536 in
theorem w_t2 : ((words1.drop 24).take 24).all (fun c => isCode c || c.before args0 about1) = true := by decide +kernel
set_option maxRecDepth 65536 in
theorem w_t3 : ((words1.drop 24).drop 24).all (fun c => isCode c || c.before args0 about1) = true := by decide +kernel
theorem w_tables : (allAtoms (Jvm.Cond.code x code maxLocals ret :: tables_1)).before args0 about1 = true := by
  rw [allAtoms_all]
  show words1.all (fun c => c.before args0 about1) = true
  refine all_split ?_ w_codes
  rw [← List.take_append_drop 24 words1, List.all_append, w_t1, ← List.take_append_drop 24 (words1.drop 24), List.all_append, w_t2, w_t3]
  rfl
set_option maxRecDepth 65536 in
theorem w_rest : rest_1_c.before args0 about1 = true := by decide +kernel
set_option maxRecDepth 65536 in
theorem w_case : (Jvm.Cond.and given_1 narrow_1).before args0 about1 = true := by decide +kernel
set_option maxRecDepth 65536 in
theorem w_consts : constsHeld consts_1 about1 := Jvm.Lit.constsHeldB_iff.mp (by decide +kernel)
theorem w_applies : (headSpec (Jvm.Cond.code x code maxLocals ret :: tables_1) room_1).applies x e0.platform about1 = true :=
  (Spec.applies_iff w_frames).mpr ⟨w_running, w_runnable, w_alone, w_named, w_hears, w_ripe, w_room, w_tables⟩
theorem atStart : AtStart classFile x code maxLocals ret World_1 tables_1 room_1 Calls_1 rest_1 Pre_1 launch0 p0 e0 about1 theMethod args0 below0 :=
  ⟨lists_1, trivial, launch0.admits_env _ _ _, launch0.least_env, fairChoices_fair.cas, fairChoices_fair.clock, w_frames, w_args, w_heap, w_applies, ⟨w_consts, trivial⟩, w_rest, w_case⟩
end start1
theorem witness_1 : WitnessClaimed_1 := ⟨start1.p0, start1.e0, start1.about1, start1.theMethod, start1.args0, start1.below0, start1.atStart⟩
end Jvm.Pilot.@@N@@
