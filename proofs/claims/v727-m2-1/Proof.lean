import JvmDerived
import JvmDerived.Pilot.@@N@@Statement
import JvmDerived.Pilot.@@N@@Code
set_option linter.unusedVariables false
set_option linter.unusedSimpArgs false
namespace Jvm.RoadKit
open Sem ClassFile Op Lib Jvm.Stand Jvm.Free Jvm.LawKit
section New
variable {p : Program} {l : Launch} {e : Env} {R : Room} {s : State} {m : MethodId} {args : Array Value} {below : List Frame} {meth : Method} {c : Code} {T : State} {locs : List Loc} {cells slots : Nat}
theorem retI (X : Stand p l e R s m args below meth c T locs cells slots) (hx : p.tables.exec = Jvm.exec) {pc : Nat} {Ls : Array Slot} {z : Int32} {rest : List Value} (hret : meth.sig.returnType = some .int) (hd : decode c.code pc = .ok (.ireturn, 1)) {fs : List Frame}
    (hl : ∀ (f : JFrame) (acts : List Action), f.method = m → f.locked = none → f.entered = [] → (doReturn e (T.setTop f) acts (some (.int z))).1 = T.setFrames fs) : Steps p.tables e below (T.setTop (mkF m pc Ls (.int z :: rest))) (T.setFrames fs) := by
  have hm' : T.vm.method? m = some meth := X.method'
  have hn : narrow .int (.int z) = .int z := rfl
  show Steps p.tables e below (T.setTop { method := m, pc := pc, locals := Ls, stack := _ :: rest, locked := none }) _
  jvm_step X.here [X.here.top, hx, hd, hm', hret, hn]
  first | (intro acts; rw [hl _ acts rfl rfl rfl]) | rw [hl _ _ rfl rfl rfl]
  exact Steps.refl _
end New
end Jvm.RoadKit
/- laws to paste: Road.backV (cut by pick.py; bodies as the Statement names them) -/
namespace Jvm.Pilot.@@N@@
namespace StrChars
open Jvm Sem ClassFile Op Lib Jvm.Stand Jvm.Free.XT Jvm.Free.ALB Jvm.Free.JM Jvm.Free
open Jvm.Lib.Cold (StaticIs)
/-- a char array whose places are chars -/
def Ch (a : Addr) (A : Cell) (U : State) : Prop := Arr .char a A U ∧ Typed .char A
theorem Ch.mv {a : Addr} {A : Cell} {U U' : State} (h : Ch a A U) (hal : U.vm.Alike U'.vm) (hh : U'.heap = U.heap) : Ch a A U' := ⟨h.1.mv hal hh, h.2⟩
theorem Ch.keep {a : Addr} {A : Cell} {U U' : State} (h : Ch a A U) (hal : U.vm.Alike U'.vm) (hk : U'.heap[a]? = some A) : Ch a A U' := ⟨h.1.keep hal hk, h.2⟩
/-- what place i of a char[]'s cell holds -/
def cv (A : Cell) (i : Nat) : Int32 := match A.slots[i]? with | some (.int x) => x | _ => 0
theorem Ch.get {a : Addr} {A : Cell} {U : State} (h : Ch a A U) {i : Nat} (hi : i < A.slots.size) : A.slots[i]? = some (.int (cv A i)) := by
  have e := Array.getElem?_eq_getElem hi
  have f := h.2 i _ e
  unfold cv; rw [e]
  generalize A.slots[i] = v at f
  cases v <;> simp [fits] at f ⊢
/-- the byte that i2b leaves of a char -/
def lo8 (x : Int32) : Int32 := x.toInt8.toInt32
theorem fits_lo8 (y : Int32) : fits .byte (.int (lo8 y)) = true := by
  have h1 := y.toInt8.le_toInt
  have h2 := y.toInt8.toInt_lt
  simp only [lo8, fits, Bool.and_eq_true, decide_eq_true_eq, Int32.le_iff_toInt_le, Int8.toInt_toInt32, show (-128 : Int32).toInt = -128 from by decide, show (127 : Int32).toInt = 127 from by decide]
  omega
/-- A' is A but that each place j of lo .. hi - 1 holds f j -/
def Laid (A A' : Cell) (lo hi : Nat) (f : Nat → Value) : Prop := A'.cls = A.cls ∧ A'.vm = A.vm ∧ A'.slots.size = A.slots.size ∧ ∀ i, A'.slots[i]? = if lo ≤ i ∧ i < hi then some (f i) else A.slots[i]?
theorem Laid.zero (A : Cell) (lo : Nat) (f : Nat → Value) : Laid A A lo (lo + 0) f := ⟨rfl, rfl, rfl, fun i => by rw [if_neg (by omega)]⟩
theorem Laid.step {A Ak : Cell} {lo k : Nat} {f : Nat → Value} {v : Value} (h : Laid A Ak lo k f) (hlo : lo ≤ k) (hk : k < Ak.slots.size) (hv : v = f k) : Laid A (Ak.setSlot k v) lo (k + 1) f := by
  refine ⟨h.1, h.2.1, by simpa [Cell.setSlot] using h.2.2.1, fun i => ?_⟩
  by_cases e : k = i
  · subst e; rw [Cell.slots_setSlot_self v hk, if_pos (by omega), hv]
  · rw [Cell.slots_setSlot_ne v e, h.2.2.2 i]
    by_cases q : lo ≤ i ∧ i < k
    · rw [if_pos q, if_pos (by omega)]
    · rw [if_neg q, if_neg (by omega)]
def U16 : String := "java/lang/StringUTF16"
namespace Cmp5
def yN : MethodName := ⟨"java/lang/StringUTF16", "compress", "([CI[BII)I"⟩
abbrev yB : ByteArray := jdk_52_method_21_code
theorem d0 : decode yB 0 = .ok (.iconst 0, 1) := by decide +kernel
theorem d1 : decode yB 1 = .ok (.istore 5, 2) := by decide +kernel
theorem d3 : decode yB 3 = .ok (.iload 5, 2) := by decide +kernel
theorem d5 : decode yB 5 = .ok (.iload 4, 2) := by decide +kernel
theorem d7 : decode yB 7 = .ok (.if_icmp (.ge) 37, 3) := by decide +kernel
theorem d10 : decode yB 10 = .ok (.aload_n 0, 1) := by decide +kernel
theorem d11 : decode yB 11 = .ok (.iload_n 1, 1) := by decide +kernel
theorem d12 : decode yB 12 = .ok (.caload, 1) := by decide +kernel
theorem d13 : decode yB 13 = .ok (.istore 6, 2) := by decide +kernel
theorem d15 : decode yB 15 = .ok (.iload 6, 2) := by decide +kernel
theorem d17 : decode yB 17 = .ok (.sipush 255, 3) := by decide +kernel
theorem d20 : decode yB 20 = .ok (.if_icmp (.le) 6, 3) := by decide +kernel
theorem d26 : decode yB 26 = .ok (.aload_n 2, 1) := by decide +kernel
theorem d27 : decode yB 27 = .ok (.iload_n 3, 1) := by decide +kernel
theorem d28 : decode yB 28 = .ok (.iload 6, 2) := by decide +kernel
theorem d30 : decode yB 30 = .ok (.i2b, 1) := by decide +kernel
theorem d31 : decode yB 31 = .ok (.bastore, 1) := by decide +kernel
theorem d32 : decode yB 32 = .ok (.iinc 1 1, 3) := by decide +kernel
theorem d35 : decode yB 35 = .ok (.iinc 3 1, 3) := by decide +kernel
theorem d38 : decode yB 38 = .ok (.iinc 5 1, 3) := by decide +kernel
theorem d41 : decode yB 41 = .ok (.goto (-38), 3) := by decide +kernel
theorem d44 : decode yB 44 = .ok (.iload 4, 2) := by decide +kernel
theorem d46 : decode yB 46 = .ok (.ireturn, 1) := by decide +kernel
def site : List Cond := []
def tab : Cond := tabOf yN yB 7 (some .int) site
def P (b : Addr) (A : Cell) (d : Addr) (B : Cell) (o q len : Nat) (args : Array Value) (s : State) : Prop := args = #[.ref b, .int (Int32.ofNat o), .ref d, .int (Int32.ofNat q), .int (Int32.ofNat len)] ∧ Ch b A s ∧ Arr .byte d B s ∧ b ≠ d ∧ o + len ≤ A.slots.size ∧ q + len ≤ B.slots.size ∧ ∀ i, i < len → ¬ 255 < cv A (o + i)
def E (b : Addr) (A : Cell) (d : Addr) (B : Cell) (o q len : Nat) (r : Option Value) (s u : State) : Prop := r = some (.int (Int32.ofNat len)) ∧ ∃ B', Put d B' s u ∧ Laid B B' q (q + len) (fun j => Value.int (lo8 (cv A (o + (j - q)))))
/-- no char of the range above 255: len; the places written hold each char's low byte -/
theorem law (l : Launch) (b : Addr) (A : Cell) (d : Addr) (B : Cell) (o q len : Nat) : Law l yN 5 5 0 0 yB 7 (some .int) site (P b A d B o q len) (E b A d B o q len) (copyLocs d q len) 0 0 := by
  refine Law.of_walk (plainFor_of_name (by decide +kernel)) (by decide +kernel) (by decide +kernel) (by decide) (fun _ _ h => by rw [h.1]; rfl) (fun _ U U' hal hh h => ⟨h.1, h.2.1.mv hal hh, h.2.2.1.mv hal hh, h.2.2.2⟩) (fun r U U' V V' h1 hal h2 h => ⟨h.1, h.2.elim fun B' q => ⟨B', q.1.mv h1 h2, q.2⟩⟩) ?_
  intro p e s m args below meth c s₁ X0 hexec hbytes hml hret hlk hnm hown hh0 W hP
  obtain ⟨rfl, hA, hB, hne, l1, l2, hp⟩ := hP
  have c1 : Steps p.tables e below (s₁.setTop (entryFrame m #[.ref b, .int (Int32.ofNat o), .ref d, .int (Int32.ofNat q), .int (Int32.ofNat len)] 7)) (s₁.setTop (mkF m 0 #[.val (.ref b), .val (.int (Int32.ofNat o)), .val (.ref d), .val (.int (Int32.ofNat q)), .val (.int (Int32.ofNat len)), .unset, .unset] [])) := entry rfl
  have hA0 := hA.1.mv X0.warmed.alike hh0
  have hB0 := hB.mv X0.warmed.alike hh0
  have a31 := hA.1.2.2.2
  have c2 : Steps p.tables e below (s₁.setTop (entryFrame m #[.ref b, .int (Int32.ofNat o), .ref d, .int (Int32.ofNat q), .int (Int32.ofNat len)] 7)) (s₁.setTop (mkF m 3 #[.val (.ref b), .val (.int (Int32.ofNat o)), .val (.ref d), .val (.int (Int32.ofNat q)), .val (.int (Int32.ofNat len)), .val (.int 0), .unset] [])) := c1.trans (by
    refine iconstV X0.here hexec rfl 0 (hb hbytes d0) (by decide) ?_
    refine XS.istore X0.here hexec rfl (hb hbytes d1) rfl rfl ?_
    exact Steps.refl _)
  have loop : ∀ (r i : Nat), i + r = len → ∀ (z : Slot), (z = .unset ∨ ∃ w, z = .val w ∧ w.category = 1) → ∀ (Tl : State) (Bk : Cell), Stand p l e { frames := 0, locals := 0, cells := 0, slots := 0 } s m #[.ref b, .int (Int32.ofNat o), .ref d, .int (Int32.ofNat q), .int (Int32.ofNat len)] below meth c Tl ([] ++ copyLocs d q i) 0 0 → Put d Bk s₁ Tl → Laid B Bk q (q + i) (fun j => Value.int (lo8 (cv A (o + (j - q))))) →
      Steps p.tables e below (s₁.setTop (entryFrame m #[.ref b, .int (Int32.ofNat o), .ref d, .int (Int32.ofNat q), .int (Int32.ofNat len)] 7)) (Tl.setTop (mkF m 3 #[.val (.ref b), .val (.int (Int32.ofNat (o + i))), .val (.ref d), .val (.int (Int32.ofNat (q + i))), .val (.int (Int32.ofNat len)), .val (.int (Int32.ofNat i)), z] [])) → ∃ (T' : State) (B' : Cell) (z' : Slot), Stand p l e { frames := 0, locals := 0, cells := 0, slots := 0 } s m #[.ref b, .int (Int32.ofNat o), .ref d, .int (Int32.ofNat q), .int (Int32.ofNat len)] below meth c T' ([] ++ copyLocs d q len) 0 0 ∧ Put d B' s₁ T' ∧ Laid B B' q (q + len) (fun j => Value.int (lo8 (cv A (o + (j - q))))) ∧
      Steps p.tables e below (s₁.setTop (entryFrame m #[.ref b, .int (Int32.ofNat o), .ref d, .int (Int32.ofNat q), .int (Int32.ofNat len)] 7)) (T'.setTop (mkF m 3 #[.val (.ref b), .val (.int (Int32.ofNat (o + len))), .val (.ref d), .val (.int (Int32.ofNat (q + len))), .val (.int (Int32.ofNat len)), .val (.int (Int32.ofNat len)), z'] [])) := by
    intro r
    induction r with
    | zero =>
      intro i hi z hz Tl Bk Xl pl fl cl
      have hil : i = len := by omega
      rw [hil] at Xl fl cl
      exact ⟨Tl, Bk, z, Xl, pl, fl, cl⟩
    | succ r ih =>
      intro i hi z hz Tl Bk Xl pl fl cl
      have all := X0.warmed.alike.symm.trans Xl.warmed.alike
      have hAl := hA0.keep all (pl.other hne hA0.1)
      have hBk := hB0.like all pl.1 fl.1 fl.2.1 fl.2.2.1
      have hlt : q + i < Bk.slots.size := by rw [fl.2.2.1]; omega
      have c3 : Steps p.tables e below (s₁.setTop (entryFrame m #[.ref b, .int (Int32.ofNat o), .ref d, .int (Int32.ofNat q), .int (Int32.ofNat len)] 7)) (Tl.setTop (mkF m 12 #[.val (.ref b), .val (.int (Int32.ofNat (o + i))), .val (.ref d), .val (.int (Int32.ofNat (q + i))), .val (.int (Int32.ofNat len)), .val (.int (Int32.ofNat i)), z] [.int (Int32.ofNat (o + i)), .ref b])) := cl.trans (by
        refine XS.iload Xl.here hexec rfl (hb hbytes d3) rfl ?_
        refine XS.iload Xl.here hexec rfl (hb hbytes d5) rfl ?_
        refine XS.icmpNo Xl.here hexec rfl (hb hbytes d7) rfl (ii_ge_f (lt32 (by omega) (by omega))) ?_
        refine XS.aloadN Xl.here hexec rfl (hb hbytes d10) rfl rfl ?_
        refine XS.iloadN Xl.here hexec rfl (hb hbytes d11) rfl ?_
        exact Steps.refl _)
      have c4 : Steps p.tables e below (s₁.setTop (entryFrame m #[.ref b, .int (Int32.ofNat o), .ref d, .int (Int32.ofNat q), .int (Int32.ofNat len)] 7)) (Tl.setTop (mkF m 13 #[.val (.ref b), .val (.int (Int32.ofNat (o + i))), .val (.ref d), .val (.int (Int32.ofNat (q + i))), .val (.int (Int32.ofNat len)), .val (.int (Int32.ofNat i)), z] [.int (cv A (o + i))])) := c3.trans (by
        refine Xl.aget hexec hAl rfl (hA.get (i := o + i) (by omega)) rfl rfl (hb hbytes d12) ?_
        exact Steps.refl _)
      have c5 : Steps p.tables e below (s₁.setTop (entryFrame m #[.ref b, .int (Int32.ofNat o), .ref d, .int (Int32.ofNat q), .int (Int32.ofNat len)] 7)) (Tl.setTop (mkF m 15 #[.val (.ref b), .val (.int (Int32.ofNat (o + i))), .val (.ref d), .val (.int (Int32.ofNat (q + i))), .val (.int (Int32.ofNat len)), .val (.int (Int32.ofNat i)), .val (.int (cv A (o + i)))] [])) := c4.trans (by
        refine XS.istoreS Xl.here hexec rfl (hb hbytes d13) rfl rfl hz ?_
        exact Steps.refl _)
      have c6 : Steps p.tables e below (s₁.setTop (entryFrame m #[.ref b, .int (Int32.ofNat o), .ref d, .int (Int32.ofNat q), .int (Int32.ofNat len)] 7)) (Tl.setTop (mkF m 31 #[.val (.ref b), .val (.int (Int32.ofNat (o + i))), .val (.ref d), .val (.int (Int32.ofNat (q + i))), .val (.int (Int32.ofNat len)), .val (.int (Int32.ofNat i)), .val (.int (cv A (o + i)))] [.int (lo8 (cv A (o + i))), .int (Int32.ofNat (q + i)), .ref d])) := c5.trans (by
        refine XS.iload Xl.here hexec rfl (hb hbytes d15) rfl ?_
        refine sipushV Xl.here hexec rfl 255 (hb hbytes d17) (by decide) ?_
        refine XS.icmpYes Xl.here hexec rfl (pc0 := 20) rfl (hb hbytes d20) rfl (ii_le_t (hp i (by omega))) (by decide) rfl ?_
        refine XS.aloadN Xl.here hexec rfl (hb hbytes d26) rfl rfl ?_
        refine XS.iloadN Xl.here hexec rfl (hb hbytes d27) rfl ?_
        refine XS.iload Xl.here hexec rfl (hb hbytes d28) rfl ?_
        refine i2b Xl.here hexec rfl (hb hbytes d30) rfl ?_
        exact Steps.refl _)
      obtain ⟨T7, X7, p7, st7⟩ := Xl.aput hexec hBk rfl hlt rfl (fits_lo8 (cv A (o + i))) (g := (mkF m 31 #[.val (.ref b), .val (.int (Int32.ofNat (o + i))), .val (.ref d), .val (.int (Int32.ofNat (q + i))), .val (.int (Int32.ofNat len)), .val (.int (Int32.ofNat i)), .val (.int (cv A (o + i)))] [.int (lo8 (cv A (o + i))), .int (Int32.ofNat (q + i)), .ref d])) rfl (rest := []) rfl (hb hbytes d31)
      have c8 : Steps p.tables e below (s₁.setTop (entryFrame m #[.ref b, .int (Int32.ofNat o), .ref d, .int (Int32.ofNat q), .int (Int32.ofNat len)] 7)) (T7.setTop (mkF m 32 #[.val (.ref b), .val (.int (Int32.ofNat (o + i))), .val (.ref d), .val (.int (Int32.ofNat (q + i))), .val (.int (Int32.ofNat len)), .val (.int (Int32.ofNat i)), .val (.int (cv A (o + i)))] [])) := c6.trans (st7 _ (Steps.refl _))
      have c9 : Steps p.tables e below (s₁.setTop (entryFrame m #[.ref b, .int (Int32.ofNat o), .ref d, .int (Int32.ofNat q), .int (Int32.ofNat len)] 7)) (T7.setTop (mkF m 3 #[.val (.ref b), .val (.int (Int32.ofNat (o + i) + 1)), .val (.ref d), .val (.int (Int32.ofNat (q + i) + 1)), .val (.int (Int32.ofNat len)), .val (.int (Int32.ofNat i + 1)), .val (.int (cv A (o + i)))] [])) := c8.trans (by
        refine iincV X7.here hexec rfl 1 (hb hbytes d32) (by decide) rfl rfl ?_
        refine iincV X7.here hexec rfl 1 (hb hbytes d35) (by decide) rfl rfl ?_
        refine iincV X7.here hexec rfl 1 (hb hbytes d38) (by decide) rfl rfl ?_
        refine XS.goto X7.here hexec rfl (pc0 := 41) rfl (hb hbytes d41) (by decide) rfl ?_
        exact Steps.refl _)
      have c10 : Steps p.tables e below (s₁.setTop (entryFrame m #[.ref b, .int (Int32.ofNat o), .ref d, .int (Int32.ofNat q), .int (Int32.ofNat len)] 7)) (T7.setTop (mkF m 3 #[.val (.ref b), .val (.int (Int32.ofNat (o + (i + 1)))), .val (.ref d), .val (.int (Int32.ofNat (q + (i + 1)))), .val (.int (Int32.ofNat len)), .val (.int (Int32.ofNat (i + 1))), .val (.int (cv A (o + i)))] [])) := by
        have := c9
        rw [succ32, succ32, succ32] at this
        exact this
      exact ih (i + 1) (by omega) _ (Or.inr ⟨_, rfl, rfl⟩) T7 _ (by rw [copyLocs_step, ← List.append_assoc]; exact X7) (pl.trans p7) (fl.step (by omega) hlt (by simp)) c10
  obtain ⟨T9, B9, z9, X9, p9, f9, g9⟩ := loop len 0 (by omega) .unset (Or.inl rfl) s₁ B (by simpa [copyLocs] using X0) ⟨hB0.1, fun _ _ => rfl, rfl⟩ (Laid.zero _ _ _) c2
  have c11 : Steps p.tables e below (s₁.setTop (entryFrame m #[.ref b, .int (Int32.ofNat o), .ref d, .int (Int32.ofNat q), .int (Int32.ofNat len)] 7)) (T9.setTop (mkF m 46 #[.val (.ref b), .val (.int (Int32.ofNat (o + len))), .val (.ref d), .val (.int (Int32.ofNat (q + len))), .val (.int (Int32.ofNat len)), .val (.int (Int32.ofNat len)), z9] [.int (Int32.ofNat len)])) := g9.trans (by
    refine XS.iload X9.here hexec rfl (hb hbytes d3) rfl ?_
    refine XS.iload X9.here hexec rfl (hb hbytes d5) rfl ?_
    refine XS.icmpYes X9.here hexec rfl (pc0 := 7) rfl (hb hbytes d7) rfl (ii_ge_t (nlt32 (by omega) (Nat.le_refl _))) (by decide) rfl ?_
    refine XS.iload X9.here hexec rfl (hb hbytes d44) rfl ?_
    exact Steps.refl _)
  exact ⟨T9, some (.int (Int32.ofNat len)), _, _, _, X9, by simp, rfl, rfl, (fun h => by cases h), ⟨rfl, B9, p9.from hh0, f9⟩, fun fs hl => c11.trans (X9.ireturnOut hexec hret rfl (Or.inl rfl) (hb hbytes d46) hl)⟩
end Cmp5
namespace Cmp3
def yN : MethodName := ⟨"java/lang/StringUTF16", "compress", "([CII)[B"⟩
abbrev yB : ByteArray := jdk_52_method_16_code
theorem d0 : decode yB 0 = .ok (.iload_n 2, 1) := by decide +kernel
theorem d1 : decode yB 1 = .ok (.newarray .byte, 2) := by decide +kernel
theorem d3 : decode yB 3 = .ok (.astore_n 3, 1) := by decide +kernel
theorem d4 : decode yB 4 = .ok (.aload_n 0, 1) := by decide +kernel
theorem d5 : decode yB 5 = .ok (.iload_n 1, 1) := by decide +kernel
theorem d6 : decode yB 6 = .ok (.aload_n 3, 1) := by decide +kernel
theorem d7 : decode yB 7 = .ok (.iconst 0, 1) := by decide +kernel
theorem d8 : decode yB 8 = .ok (.iload_n 2, 1) := by decide +kernel
theorem d9 : decode yB 9 = .ok (.invokestatic 115, 3) := by decide +kernel
theorem d12 : decode yB 12 = .ok (.istore 4, 2) := by decide +kernel
theorem d14 : decode yB 14 = .ok (.iload 4, 2) := by decide +kernel
theorem d16 : decode yB 16 = .ok (.iload_n 2, 1) := by decide +kernel
theorem d17 : decode yB 17 = .ok (.if_icmp (.eq) 40, 3) := by decide +kernel
theorem d57 : decode yB 57 = .ok (.aload_n 3, 1) := by decide +kernel
theorem d58 : decode yB 58 = .ok (.areturn, 1) := by decide +kernel
def site : List Cond := [.arrayClass .byte, Cmp5.tab] ++ staticW U16 115 Cmp5.yN
def tab : Cond := tabOf yN yB 6 (some (.array .byte)) site
def P (b : Addr) (A : Cell) (o len : Nat) (args : Array Value) (s : State) : Prop := args = #[.ref b, .int (Int32.ofNat o), .int (Int32.ofNat len)] ∧ Ch b A s ∧ o + len ≤ A.slots.size ∧ len ≤ 536870912 ∧ ∀ i, i < len → ¬ 255 < cv A (o + i)
def E (b : Addr) (A : Cell) (o len : Nat) (r : Option Value) (s u : State) : Prop := NewArr .byte "[B" len (fun j => .int (lo8 (cv A (o + j)))) r s u ∧ u.heap.size = s.heap.size + 1
/-- no char of the range above 255: a new byte[] of their low bytes -/
theorem law (l : Launch) (b : Addr) (A : Cell) (o len : Nat) : Law l yN 3 3 1 18 yB 6 (some (.array .byte)) site (P b A o len) (E b A o len) [] 1 len := by
  refine Law.of_walk (plainFor_of_name (by decide +kernel)) (by decide +kernel) (by decide +kernel) (by decide) (fun _ _ h => by rw [h.1]; rfl) (fun _ U U' hal hh h => ⟨h.1, h.2.1.mv hal hh, h.2.2⟩) (fun r U U' V V' h1 hal h2 h => ⟨NewArr.mv r U U' V V' h1 hal h2 h.1, by rw [h1, h2]; exact h.2⟩) ?_
  intro p e s m args below meth c s₁ X0 hexec hbytes hml hret hlk hnm hown hh0 W hP
  obtain ⟨rfl, hA, l1, l2, hp⟩ := hP
  have a31 := hA.1.2.2.2
  have c1 : Steps p.tables e below (s₁.setTop (entryFrame m #[.ref b, .int (Int32.ofNat o), .int (Int32.ofNat len)] 6)) (s₁.setTop (mkF m 0 #[.val (.ref b), .val (.int (Int32.ofNat o)), .val (.int (Int32.ofNat len)), .unset, .unset, .unset] [])) := entry rfl
  have c2 : Steps p.tables e below (s₁.setTop (entryFrame m #[.ref b, .int (Int32.ofNat o), .int (Int32.ofNat len)] 6)) (s₁.setTop (mkF m 1 #[.val (.ref b), .val (.int (Int32.ofNat o)), .val (.int (Int32.ofNat len)), .unset, .unset, .unset] [.int (Int32.ofNat len)])) := c1.trans (by
    refine XS.iloadN X0.here hexec rfl (hb hbytes d0) rfl ?_
    exact Steps.refl _)
  obtain ⟨T3, B3, X3, ba3, bs3, bv3, bh3, bf3, st3⟩ := X0.anew hexec (atype := .byte) (wk W (.arrayClass .byte)) rfl (by show len * 1 ≤ _; omega) (by omega) (g := (mkF m 1 #[.val (.ref b), .val (.int (Int32.ofNat o)), .val (.int (Int32.ofNat len)), .unset, .unset, .unset] [.int (Int32.ofNat len)])) rfl (hb hbytes d1) (rest := []) rfl (Nat.le_refl _) (by show 0 + len ≤ len; omega)
  rw [hh0] at ba3 st3
  have kp3 : XT.Kept s T3 := (XT.Kept.of_eq hh0).push bh3
  have hA3 := hA.keep X3.warmed.alike (kp3 _ _ hA.1.1)
  have hne : b ≠ s.heap.size := hA.1.ne
  have c4 : Steps p.tables e below (s₁.setTop (entryFrame m #[.ref b, .int (Int32.ofNat o), .int (Int32.ofNat len)] 6)) (T3.setTop (mkF m 3 #[.val (.ref b), .val (.int (Int32.ofNat o)), .val (.int (Int32.ofNat len)), .unset, .unset, .unset] [.ref s.heap.size])) := c2.trans (st3 _ (Steps.refl _))
  have c5 : Steps p.tables e below (s₁.setTop (entryFrame m #[.ref b, .int (Int32.ofNat o), .int (Int32.ofNat len)] 6)) (T3.setTop (mkF m 9 #[.val (.ref b), .val (.int (Int32.ofNat o)), .val (.int (Int32.ofNat len)), .val (.ref s.heap.size), .unset, .unset] [.int (Int32.ofNat len), .int 0, .ref s.heap.size, .int (Int32.ofNat o), .ref b])) := c4.trans (by
    refine XS.astoreN X3.here hexec rfl (hb hbytes d3) rfl rfl rfl ?_
    refine XS.aloadN X3.here hexec rfl (hb hbytes d4) rfl rfl ?_
    refine XS.iloadN X3.here hexec rfl (hb hbytes d5) rfl ?_
    refine XS.aloadN X3.here hexec rfl (hb hbytes d6) rfl rfl ?_
    refine iconstV X3.here hexec rfl 0 (hb hbytes d7) (by decide) ?_
    refine XS.iloadN X3.here hexec rfl (hb hbytes d8) rfl ?_
    exact Steps.refl _)
  obtain ⟨v6, T6, X6, E6, g6⟩ := X3.callS hexec (Cmp5.law l b A s.heap.size B3 o 0 len) hown (wks W (staticW U16 115 Cmp5.yN)) (wk W Cmp5.tab) (W := 0) (Nat.le_of_ble_eq_true rfl) (Nat.le_of_ble_eq_true rfl) (Nat.le_refl _) (by show 0 + len + 0 ≤ len; omega) (g := (mkF m 9 #[.val (.ref b), .val (.int (Int32.ofNat o)), .val (.int (Int32.ofNat len)), .val (.ref s.heap.size), .unset, .unset] [.int (Int32.ofNat len), .int (Int32.ofNat 0), .ref s.heap.size, .int (Int32.ofNat o), .ref b])) rfl (by rw [hml]; rfl) c5 (argsL := [.ref b, .int (Int32.ofNat o), .ref s.heap.size, .int (Int32.ofNat 0), .int (Int32.ofNat len)]) (rest := []) rfl rfl (by show 2 * 0 + 0 ≤ _; decide) (hb hbytes d9) (⟨rfl, hA3, ba3, hne, l1, by rw [bs3]; simp, hp⟩)
  obtain ⟨rfl, B6, p6, f6⟩ := E6
  have c7 : Steps p.tables e below (s₁.setTop (entryFrame m #[.ref b, .int (Int32.ofNat o), .int (Int32.ofNat len)] 6)) (T6.setTop (mkF m 12 #[.val (.ref b), .val (.int (Int32.ofNat o)), .val (.int (Int32.ofNat len)), .val (.ref s.heap.size), .unset, .unset] [.int (Int32.ofNat len)])) := g6
  have c8 : Steps p.tables e below (s₁.setTop (entryFrame m #[.ref b, .int (Int32.ofNat o), .int (Int32.ofNat len)] 6)) (T6.setTop (mkF m 58 #[.val (.ref b), .val (.int (Int32.ofNat o)), .val (.int (Int32.ofNat len)), .val (.ref s.heap.size), .val (.int (Int32.ofNat len)), .unset] [.ref s.heap.size])) := c7.trans (by
    refine XS.istore X6.here hexec rfl (hb hbytes d12) rfl rfl ?_
    refine XS.iload X6.here hexec rfl (hb hbytes d14) rfl ?_
    refine XS.iloadN X6.here hexec rfl (hb hbytes d16) rfl ?_
    refine XS.icmpYes X6.here hexec rfl (pc0 := 17) rfl (hb hbytes d17) rfl (ii_eq_t rfl) (by decide) rfl ?_
    refine XS.aloadN X6.here hexec rfl (hb hbytes d57) rfl rfl ?_
    exact Steps.refl _)
  have X8 := X6.wide (L' := []) (cells' := 1) (slots' := len) (fun x hx hlt => by
    simp only [List.nil_append, copyLocs, List.mem_map, List.mem_range] at hx
    obtain ⟨i, -, rfl⟩ := hx
    exact absurd hlt (Nat.lt_irrefl _)) (Nat.le_refl _) (by omega)
  exact ⟨T6, some (.ref s.heap.size), _, _, _, X8, rfl, rfl, rfl, (fun h => by cases h), ⟨⟨rfl, B6, ba3.like (X3.warmed.alike.symm.trans X6.warmed.alike) p6.1 f6.1 f6.2.1 f6.2.2.1, f6.2.1.trans bv3, by rw [X6.warmed.alike.findClass, f6.1]; exact bf3, by rw [f6.2.2.1, bs3]; simp, fun j hj => by rw [f6.2.2.2 j, if_pos (by omega)]; rfl, kp3.put p6 (Nat.le_refl _)⟩, by rw [p6.2.2, bh3, hh0]; simp⟩, fun fs hl => c8.trans (X8.areturnOut hexec rfl hret rfl (hb hbytes d58) hl)⟩
end Cmp3
namespace CodL
def yN : MethodName := ⟨"java/lang/StringUTF16", "coderFromArrayLen", "([BI)B"⟩
abbrev yB : ByteArray := jdk_52_method_15_code
theorem d0 : decode yB 0 = .ok (.iload_n 1, 1) := by decide +kernel
theorem d1 : decode yB 1 = .ok (.aload_n 0, 1) := by decide +kernel
theorem d2 : decode yB 2 = .ok (.arraylength, 1) := by decide +kernel
theorem d3 : decode yB 3 = .ok (.isub, 1) := by decide +kernel
theorem d4 : decode yB 4 = .ok (.bipush 31, 2) := by decide +kernel
theorem d6 : decode yB 6 = .ok (.iushr, 1) := by decide +kernel
theorem d7 : decode yB 7 = .ok (.i2b, 1) := by decide +kernel
theorem d8 : decode yB 8 = .ok (.ireturn, 1) := by decide +kernel
def site : List Cond := []
def tab : Cond := tabOf yN yB 2 (some .byte) site
def P (d : Addr) (B : Cell) (args : Array Value) (s : State) : Prop := args = #[.ref d, .int (Int32.ofNat B.slots.size)] ∧ Arr .byte d B s
def E (r : Option Value) (s u : State) : Prop := XT.PureE (some (.int 0)) r s u
/-- an array as long as the number of chars: LATIN1 -/
theorem law (l : Launch) (d : Addr) (B : Cell) : Law l yN 2 2 0 0 yB 2 (some .byte) site (P d B) E [] 0 0 := by
  refine Law.of_walk (plainFor_of_name (by decide +kernel)) (by decide +kernel) (by decide +kernel) (by decide) (fun _ _ h => by rw [h.1]; rfl) (fun _ U U' hal hh h => ⟨h.1, h.2.mv hal hh⟩) (fun r U U' V V' h1 hal h2 h => XT.PureE.mv r U U' V V' h1 hal h2 h) ?_
  intro p e s m args below meth c s₁ X0 hexec hbytes hml hret hlk hnm hown hh0 W hP
  obtain ⟨rfl, hB⟩ := hP
  have hB0 := hB.mv X0.warmed.alike hh0
  have c1 : Steps p.tables e below (s₁.setTop (entryFrame m #[.ref d, .int (Int32.ofNat B.slots.size)] 2)) (s₁.setTop (mkF m 0 #[.val (.ref d), .val (.int (Int32.ofNat B.slots.size))] [])) := entry rfl
  have c2 : Steps p.tables e below (s₁.setTop (entryFrame m #[.ref d, .int (Int32.ofNat B.slots.size)] 2)) (s₁.setTop (mkF m 2 #[.val (.ref d), .val (.int (Int32.ofNat B.slots.size))] [.ref d, .int (Int32.ofNat B.slots.size)])) := c1.trans (by
    refine XS.iloadN X0.here hexec rfl (hb hbytes d0) rfl ?_
    refine XS.aloadN X0.here hexec rfl (hb hbytes d1) rfl rfl ?_
    exact Steps.refl _)
  have c3 : Steps p.tables e below (s₁.setTop (entryFrame m #[.ref d, .int (Int32.ofNat B.slots.size)] 2)) (s₁.setTop (mkF m 8 #[.val (.ref d), .val (.int (Int32.ofNat B.slots.size))] [.int (lo8 (ushr (Int32.ofNat B.slots.size - Int32.ofNat B.slots.size) 31))])) := c2.trans (by
    refine X0.alen hexec hB0 rfl rfl (hb hbytes d2) ?_
    refine XS.isub X0.here hexec rfl (hb hbytes d3) rfl ?_
    refine bipushV X0.here hexec rfl 31 (hb hbytes d4) (by decide) ?_
    refine iushr X0.here hexec rfl (hb hbytes d6) rfl ?_
    refine i2b X0.here hexec rfl (hb hbytes d7) rfl ?_
    exact Steps.refl _)
  have e0 : lo8 (ushr (Int32.ofNat B.slots.size - Int32.ofNat B.slots.size) 31) = 0 := by rw [Int32.sub_self]; decide
  rw [e0] at c3
  exact ⟨s₁, some (.int 0), _, _, _, X0, rfl, rfl, rfl, (fun h => by cases h), ⟨rfl, hh0⟩, fun fs hl => c3.trans (X0.ireturnOut hexec hret rfl (Or.inr (Or.inr (Or.inl rfl))) (hb hbytes d8) hl)⟩
end CodL
/-- the String at a is Latin-1 over a new byte[] (the heap's one new cell): the low bytes of the len chars of A from o on; every cell but a is kept -/
def Got (a : Addr) (D : Cell) (fV fC : Field) (A : Cell) (o len : Nat) (r : Option Value) (s u : State) : Prop := r = none ∧ ∃ D' V : Cell, Blank "java/lang/String" a D' u ∧ Same D D' [fV.slot, fC.slot] ∧ D'.slots[fV.slot]? = some (.ref s.heap.size) ∧ D'.slots[fC.slot]? = some (.int 0) ∧ Arr .byte s.heap.size V u ∧ V.vm = .none ∧ u.vm.findClass "[B" = some V.cls ∧ V.slots.size = len ∧ (∀ j, j < len → V.slots[j]? = some (.int (lo8 (cv A (o + j))))) ∧ (∀ (y : Addr) (c : Cell), y ≠ a → s.heap[y]? = some c → u.heap[y]? = some c) ∧ u.heap.size = s.heap.size + 1
theorem Got.mv {a : Addr} {D A : Cell} {fV fC : Field} {o len : Nat} : ∀ r (U U' V V' : State), U'.heap = U.heap → V.vm.Alike V'.vm → V'.heap = V.heap → Got a D fV fC A o len r U V → Got a D fV fC A o len r U' V' :=
  fun r U U' V V' h1 hal h2 ⟨e0, D', X, a1, a2, a3, a4, a5, a6, a7, a8, a9, a10, a11⟩ => ⟨e0, D', X, a1.mv hal h2, a2, by rw [h1]; exact a3, a4, by rw [h1]; exact a5.mv hal h2, a6, by rw [hal.findClass]; exact a7, a8, a9, by rw [h1, h2]; exact a10, by rw [h1, h2]; exact a11⟩
namespace New4
def yN : MethodName := ⟨"java/lang/String", "<init>", "([CIILjava/lang/Void;)V"⟩
abbrev yB : ByteArray := jdk_42_method_149_code
theorem d0 : decode yB 0 = .ok (.aload_n 0, 1) := by decide +kernel
theorem d1 : decode yB 1 = .ok (.invokespecial 1, 3) := by decide +kernel
theorem d4 : decode yB 4 = .ok (.iload_n 3, 1) := by decide +kernel
theorem d5 : decode yB 5 = .ok (.ifCond (.ne) 22, 3) := by decide +kernel
theorem d27 : decode yB 27 = .ok (.getstatic 38, 3) := by decide +kernel
theorem d30 : decode yB 30 = .ok (.ifCond (.eq) 28, 3) := by decide +kernel
theorem d33 : decode yB 33 = .ok (.aload_n 1, 1) := by decide +kernel
theorem d34 : decode yB 34 = .ok (.iload_n 2, 1) := by decide +kernel
theorem d35 : decode yB 35 = .ok (.iload_n 3, 1) := by decide +kernel
theorem d36 : decode yB 36 = .ok (.invokestatic 177, 3) := by decide +kernel
theorem d39 : decode yB 39 = .ok (.astore 5, 2) := by decide +kernel
theorem d41 : decode yB 41 = .ok (.aload_n 0, 1) := by decide +kernel
theorem d42 : decode yB 42 = .ok (.aload 5, 2) := by decide +kernel
theorem d44 : decode yB 44 = .ok (.iload_n 3, 1) := by decide +kernel
theorem d45 : decode yB 45 = .ok (.invokestatic 47, 3) := by decide +kernel
theorem d48 : decode yB 48 = .ok (.putfield 15, 3) := by decide +kernel
theorem d51 : decode yB 51 = .ok (.aload_n 0, 1) := by decide +kernel
theorem d52 : decode yB 52 = .ok (.aload 5, 2) := by decide +kernel
theorem d54 : decode yB 54 = .ok (.putfield 9, 3) := by decide +kernel
theorem d57 : decode yB 57 = .ok (.return_, 1) := by decide +kernel
def site : List Cond := [.fieldLink "java/lang/String" 38 "java/lang/String" "COMPACT_STRINGS" "Z", Cmp3.tab, CodL.tab, .laysFinal "java/lang/String" "java/lang/String" "value" "[B", .fieldLink "java/lang/String" 9 "java/lang/String" "value" "[B", .laysFinal "java/lang/String" "java/lang/String" "coder" "B", .fieldLink "java/lang/String" 15 "java/lang/String" "coder" "B"] ++ objW "java/lang/String" 1 ++ staticW "java/lang/String" 177 Cmp3.yN ++ staticW "java/lang/String" 47 CodL.yN
def tab : Cond := tabOf yN yB 6 none site
def P (a : Addr) (D : Cell) (fV fC : Field) (b : Addr) (A : Cell) (z : Int32) (o len : Nat) (args : Array Value) (s : State) : Prop := args = #[.ref a, .ref b, .int (Int32.ofNat o), .int (Int32.ofNat len), .null] ∧ Blank "java/lang/String" a D s ∧ Found "java/lang/String" "value" "[B" fV s ∧ Found "java/lang/String" "coder" "B" fC s ∧ Ch b A s ∧ StaticIs s "java/lang/String" "COMPACT_STRINGS" "Z" (.int z) ∧ ¬ z = 0 ∧ 0 < len ∧ o + len ≤ A.slots.size ∧ len ≤ 536870912 ∧ ∀ i, i < len → ¬ 255 < cv A (o + i)
def E (a : Addr) (D : Cell) (fV fC : Field) (A : Cell) (o len : Nat) (r : Option Value) (s u : State) : Prop := Got a D fV fC A o len r s u
/-- len > 0, no char of the range above 255: a Latin-1 String of their low bytes -/
theorem law (l : Launch) (a : Addr) (D : Cell) (fV fC : Field) (b : Addr) (A : Cell) (z : Int32) (o len : Nat) : Law l yN 5 4 2 35 yB 6 none site (P a D fV fC b A z o len) (E a D fV fC A o len) [⟨a, fC.slot⟩, ⟨a, fV.slot⟩] 1 len := by
  refine Law.of_walk (plainFor_of_name (by decide +kernel)) (by decide +kernel) (by decide +kernel) (by decide) (fun _ _ h => by rw [h.1]; rfl) (fun _ U U' hal hh h => ⟨h.1, h.2.1.mv hal hh, h.2.2.1.al hal, h.2.2.2.1.al hal, h.2.2.2.2.1.mv hal hh, h.2.2.2.2.2.1.there hal hh, h.2.2.2.2.2.2⟩) (fun r U U' V V' h1 hal h2 h => Got.mv r U U' V V' h1 hal h2 h) ?_
  intro p e s m args below meth c s₁ X0 hexec hbytes hml hret hlk hnm hown hh0 W hP
  obtain ⟨rfl, hB, f1, f2, hA, s1, hz, l0, l1, l2, hp⟩ := hP
  have a31 := hA.1.2.2.2
  have c1 : Steps p.tables e below (s₁.setTop (entryFrame m #[.ref a, .ref b, .int (Int32.ofNat o), .int (Int32.ofNat len), .null] 6)) (s₁.setTop (mkF m 0 #[.val (.ref a), .val (.ref b), .val (.int (Int32.ofNat o)), .val (.int (Int32.ofNat len)), .val .null, .unset] [])) := entry rfl
  have c2 : Steps p.tables e below (s₁.setTop (entryFrame m #[.ref a, .ref b, .int (Int32.ofNat o), .int (Int32.ofNat len), .null] 6)) (s₁.setTop (mkF m 1 #[.val (.ref a), .val (.ref b), .val (.int (Int32.ofNat o)), .val (.int (Int32.ofNat len)), .val .null, .unset] [.ref a])) := c1.trans (by
    refine XS.aloadN X0.here hexec rfl (hb hbytes d0) rfl rfl ?_
    exact Steps.refl _)
  obtain ⟨T3, X3, q3, st3⟩ := X0.oinit hexec hown (wks W (objW "java/lang/String" 1)) (g := (mkF m 1 #[.val (.ref a), .val (.ref b), .val (.int (Int32.ofNat o)), .val (.int (Int32.ofNat len)), .val .null, .unset] [.ref a])) rfl (by rw [hml]; rfl) (rest := []) rfl (hb hbytes d1) (W := 0) (by show 2 * 0 + 0 ≤ _; decide) (Nat.le_of_ble_eq_true rfl) (Nat.le_of_ble_eq_true rfl)
  have hh3 := q3.trans hh0
  have c4 : Steps p.tables e below (s₁.setTop (entryFrame m #[.ref a, .ref b, .int (Int32.ofNat o), .int (Int32.ofNat len), .null] 6)) (T3.setTop (mkF m 27 #[.val (.ref a), .val (.ref b), .val (.int (Int32.ofNat o)), .val (.int (Int32.ofNat len)), .val .null, .unset] [])) := (c2.trans (st3 _ (Steps.refl _))).trans (by
    refine XS.iloadN X3.here hexec rfl (hb hbytes d4) rfl ?_
    refine XS.ifYes X3.here hexec rfl (pc0 := 5) rfl (hb hbytes d5) rfl (i0_ne_t (nz32 (by omega) l0)) (by decide) rfl ?_
    exact Steps.refl _)
  obtain ⟨T5, X5, q5, st5⟩ := X3.sget hexec hown (wk W (.fieldLink "java/lang/String" 38 "java/lang/String" "COMPACT_STRINGS" "Z")) s1 (fun _ _ h => by rw [hh3]; exact h) (g := (mkF m 27 #[.val (.ref a), .val (.ref b), .val (.int (Int32.ofNat o)), .val (.int (Int32.ofNat len)), .val .null, .unset] [])) rfl (hb hbytes d27)
  have hh5 := q5.trans hh3
  have c6 : Steps p.tables e below (s₁.setTop (entryFrame m #[.ref a, .ref b, .int (Int32.ofNat o), .int (Int32.ofNat len), .null] 6)) (T5.setTop (mkF m 30 #[.val (.ref a), .val (.ref b), .val (.int (Int32.ofNat o)), .val (.int (Int32.ofNat len)), .val .null, .unset] [.int z])) := c4.trans (st5 _ (Steps.refl _))
  have c7 : Steps p.tables e below (s₁.setTop (entryFrame m #[.ref a, .ref b, .int (Int32.ofNat o), .int (Int32.ofNat len), .null] 6)) (T5.setTop (mkF m 36 #[.val (.ref a), .val (.ref b), .val (.int (Int32.ofNat o)), .val (.int (Int32.ofNat len)), .val .null, .unset] [.int (Int32.ofNat len), .int (Int32.ofNat o), .ref b])) := c6.trans (by
    refine XS.ifNo X5.here hexec rfl (hb hbytes d30) rfl (i0_eq_f hz) ?_
    refine XS.aloadN X5.here hexec rfl (hb hbytes d33) rfl rfl ?_
    refine XS.iloadN X5.here hexec rfl (hb hbytes d34) rfl ?_
    refine XS.iloadN X5.here hexec rfl (hb hbytes d35) rfl ?_
    exact Steps.refl _)
  obtain ⟨v8, T8, X8, E8, g8⟩ := X5.callS hexec (Cmp3.law l b A o len) hown (wks W (staticW "java/lang/String" 177 Cmp3.yN)) (wk W Cmp3.tab) (W := 0) (Nat.le_of_ble_eq_true rfl) (Nat.le_of_ble_eq_true rfl) (Nat.le_refl _) (by show 0 + len ≤ len; omega) (g := (mkF m 36 #[.val (.ref a), .val (.ref b), .val (.int (Int32.ofNat o)), .val (.int (Int32.ofNat len)), .val .null, .unset] [.int (Int32.ofNat len), .int (Int32.ofNat o), .ref b])) rfl (by rw [hml]; rfl) c7 (argsL := [.ref b, .int (Int32.ofNat o), .int (Int32.ofNat len)]) (rest := []) rfl rfl (by show 2 * 0 + 0 ≤ _; decide) (hb hbytes d36) (⟨rfl, hA.mv X5.warmed.alike hh5, l1, l2, hp⟩)
  obtain ⟨e8, z8⟩ := E8
  obtain ⟨rfl, N, n1, n2, n3, n4, n5, n6⟩ := NewArr.mv _ T5 s _ _ hh5.symm (Vm.Alike.refl _) rfl e8
  rw [hh5] at z8
  have hB1 := hB.keep X8.warmed.alike (n6 _ _ hB.1)
  have hne : s.heap.size ≠ a := (Nat.ne_of_lt (Array.getElem?_eq_some_iff.mp hB.1).1).symm
  have c9 : Steps p.tables e below (s₁.setTop (entryFrame m #[.ref a, .ref b, .int (Int32.ofNat o), .int (Int32.ofNat len), .null] 6)) (T8.setTop (mkF m 39 #[.val (.ref a), .val (.ref b), .val (.int (Int32.ofNat o)), .val (.int (Int32.ofNat len)), .val .null, .unset] [.ref s.heap.size])) := g8
  have c10 : Steps p.tables e below (s₁.setTop (entryFrame m #[.ref a, .ref b, .int (Int32.ofNat o), .int (Int32.ofNat len), .null] 6)) (T8.setTop (mkF m 45 #[.val (.ref a), .val (.ref b), .val (.int (Int32.ofNat o)), .val (.int (Int32.ofNat len)), .val .null, .val (.ref s.heap.size)] [.int (Int32.ofNat N.slots.size), .ref s.heap.size, .ref a])) := by
    have hc : Steps p.tables e below (s₁.setTop (entryFrame m #[.ref a, .ref b, .int (Int32.ofNat o), .int (Int32.ofNat len), .null] 6)) (T8.setTop (mkF m 45 #[.val (.ref a), .val (.ref b), .val (.int (Int32.ofNat o)), .val (.int (Int32.ofNat len)), .val .null, .val (.ref s.heap.size)] [.int (Int32.ofNat len), .ref s.heap.size, .ref a])) := c9.trans (by
      refine XS.astore X8.here hexec rfl (hb hbytes d39) rfl rfl rfl ?_
      refine XS.aloadN X8.here hexec rfl (hb hbytes d41) rfl rfl ?_
      refine XS.aload X8.here hexec rfl (hb hbytes d42) rfl rfl ?_
      refine XS.iloadN X8.here hexec rfl (hb hbytes d44) rfl ?_
      exact Steps.refl _)
    rw [n4]; exact hc
  obtain ⟨v11, T11, X11, E11, g11⟩ := X8.callS hexec (CodL.law l s.heap.size N) hown (wks W (staticW "java/lang/String" 47 CodL.yN)) (wk W CodL.tab) (W := 1) (Nat.le_of_ble_eq_true rfl) (Nat.le_of_ble_eq_true rfl) (Nat.le_refl _) (by show 0 + len + 0 ≤ len; omega) (g := (mkF m 45 #[.val (.ref a), .val (.ref b), .val (.int (Int32.ofNat o)), .val (.int (Int32.ofNat len)), .val .null, .val (.ref s.heap.size)] [.int (Int32.ofNat N.slots.size), .ref s.heap.size, .ref a])) rfl (by rw [hml]; rfl) c10 (argsL := [.ref s.heap.size, .int (Int32.ofNat N.slots.size)]) (rest := [.ref a]) rfl rfl (by show 2 * 0 + (1 + 0) ≤ _; decide) (hb hbytes d45) (⟨rfl, n1⟩)
  obtain ⟨rfl, q11⟩ := E11
  have hB11 := hB1.mv (X8.warmed.alike.symm.trans X11.warmed.alike) q11
  have c12 : Steps p.tables e below (s₁.setTop (entryFrame m #[.ref a, .ref b, .int (Int32.ofNat o), .int (Int32.ofNat len), .null] 6)) (T11.setTop (mkF m 48 #[.val (.ref a), .val (.ref b), .val (.int (Int32.ofNat o)), .val (.int (Int32.ofNat len)), .val .null, .val (.ref s.heap.size)] [.int 0, .ref a])) := g11
  obtain ⟨T13, X13, p13, bl13, sl13, st13⟩ := X11.finit hexec hown (wk W (.fieldLink "java/lang/String" 15 "java/lang/String" "coder" "B")) (Or.inr ⟨_, (wk W (.laysFinal "java/lang/String" "java/lang/String" "coder" "B"))⟩) (Or.inl ⟨rfl, hnm⟩) f2 (Or.inl rfl) hB11 (t := .byte) (by decide +kernel) rfl (g := (mkF m 48 #[.val (.ref a), .val (.ref b), .val (.int (Int32.ofNat o)), .val (.int (Int32.ofNat len)), .val .null, .val (.ref s.heap.size)] [.int 0, .ref a])) rfl (rest := []) rfl (hb hbytes d48)
  have c14 : Steps p.tables e below (s₁.setTop (entryFrame m #[.ref a, .ref b, .int (Int32.ofNat o), .int (Int32.ofNat len), .null] 6)) (T13.setTop (mkF m 54 #[.val (.ref a), .val (.ref b), .val (.int (Int32.ofNat o)), .val (.int (Int32.ofNat len)), .val .null, .val (.ref s.heap.size)] [.ref s.heap.size, .ref a])) := (c12.trans (st13 _ (Steps.refl _))).trans (by
    refine XS.aloadN X13.here hexec rfl (hb hbytes d51) rfl rfl ?_
    refine XS.aload X13.here hexec rfl (hb hbytes d52) rfl rfl ?_
    exact Steps.refl _)
  obtain ⟨T15, X15, p15, bl15, sl15, st15⟩ := X13.finit hexec hown (wk W (.fieldLink "java/lang/String" 9 "java/lang/String" "value" "[B")) (Or.inr ⟨_, (wk W (.laysFinal "java/lang/String" "java/lang/String" "value" "[B"))⟩) (Or.inl ⟨rfl, hnm⟩) f1 (Or.inl rfl) bl13 (t := (.array .byte)) (by decide +kernel) rfl (g := (mkF m 54 #[.val (.ref a), .val (.ref b), .val (.int (Int32.ofNat o)), .val (.int (Int32.ofNat len)), .val .null, .val (.ref s.heap.size)] [.ref s.heap.size, .ref a])) rfl (rest := []) rfl (hb hbytes d54)
  have c16 : Steps p.tables e below (s₁.setTop (entryFrame m #[.ref a, .ref b, .int (Int32.ofNat o), .int (Int32.ofNat len), .null] 6)) (T15.setTop (mkF m 57 #[.val (.ref a), .val (.ref b), .val (.int (Int32.ofNat o)), .val (.int (Int32.ofNat len)), .val .null, .val (.ref s.heap.size)] [])) := c14.trans (st15 _ (Steps.refl _))
  have ap := apart (Or.inr ⟨_, (wk W (.laysFinal "java/lang/String" "java/lang/String" "value" "[B"))⟩) (Or.inr ⟨_, (wk W (.laysFinal "java/lang/String" "java/lang/String" "coder" "B"))⟩) f1 f2 (t₁ := .array .byte) (t₂ := .byte) (by decide +kernel) (by decide +kernel) (by decide)
  have al := X8.warmed.alike.symm.trans X15.warmed.alike
  have n7 : T11.heap[s.heap.size]? = some N := by rw [q11]; exact n1.1
  exact ⟨T15, none, _, _, _, X15, by simp, rfl, by omega, (fun _ => rfl), ⟨rfl, _, N, bl15, ((Same.refl D _).set _ (by simp)).set _ (by simp), sl15, (Cell.slots_setSlot_ne _ ap).trans sl13, n1.keep al (p15.other hne (p13.other hne n7)), n2, by rw [al.findClass]; exact n3, n4, n5, fun y c h1 h2 => p15.other h1 (p13.other h1 (by rw [q11]; exact n6 y c h2)), by rw [p15.2.2, p13.2.2, q11]; exact z8⟩, fun fs hl => c16.trans (X15.returnOut hexec hret (hb hbytes d57) hl)⟩
end New4
namespace New1
def yN : MethodName := ⟨"java/lang/String", "<init>", "([C)V"⟩
abbrev yB : ByteArray := jdk_42_method_3_code
theorem d0 : decode yB 0 = .ok (.aload_n 0, 1) := by decide +kernel
theorem d1 : decode yB 1 = .ok (.aload_n 1, 1) := by decide +kernel
theorem d2 : decode yB 2 = .ok (.iconst 0, 1) := by decide +kernel
theorem d3 : decode yB 3 = .ok (.aload_n 1, 1) := by decide +kernel
theorem d4 : decode yB 4 = .ok (.arraylength, 1) := by decide +kernel
theorem d5 : decode yB 5 = .ok (.aconst_null, 1) := by decide +kernel
theorem d6 : decode yB 6 = .ok (.invokespecial 27, 3) := by decide +kernel
theorem d9 : decode yB 9 = .ok (.return_, 1) := by decide +kernel
def site : List Cond := [New4.tab] ++ initW "java/lang/String" 27 New4.yN
def tab : Cond := tabOf yN yB 2 none site
def P (a : Addr) (D : Cell) (fV fC : Field) (b : Addr) (A : Cell) (z : Int32) (args : Array Value) (s : State) : Prop := args = #[.ref a, .ref b] ∧ Blank "java/lang/String" a D s ∧ Found "java/lang/String" "value" "[B" fV s ∧ Found "java/lang/String" "coder" "B" fC s ∧ Ch b A s ∧ StaticIs s "java/lang/String" "COMPACT_STRINGS" "Z" (.int z) ∧ ¬ z = 0 ∧ 0 < A.slots.size ∧ A.slots.size ≤ 536870912 ∧ ∀ i, i < A.slots.size → ¬ 255 < cv A i
def E (a : Addr) (D : Cell) (fV fC : Field) (A : Cell) (r : Option Value) (s u : State) : Prop := Got a D fV fC A 0 A.slots.size r s u
/-- new String(chars), not empty, no char above 255: a Latin-1 String of their low bytes -/
theorem law (l : Launch) (a : Addr) (D : Cell) (fV fC : Field) (b : Addr) (A : Cell) (z : Int32) : Law l yN 2 1 3 52 yB 2 none site (P a D fV fC b A z) (E a D fV fC A) [⟨a, fC.slot⟩, ⟨a, fV.slot⟩] 1 A.slots.size := by
  refine Law.of_walk (plainFor_of_name (by decide +kernel)) (by decide +kernel) (by decide +kernel) (by decide) (fun _ _ h => by rw [h.1]; rfl) (fun _ U U' hal hh h => ⟨h.1, h.2.1.mv hal hh, h.2.2.1.al hal, h.2.2.2.1.al hal, h.2.2.2.2.1.mv hal hh, h.2.2.2.2.2.1.there hal hh, h.2.2.2.2.2.2⟩) (fun r U U' V V' h1 hal h2 h => Got.mv r U U' V V' h1 hal h2 h) ?_
  intro p e s m args below meth c s₁ X0 hexec hbytes hml hret hlk hnm hown hh0 W hP
  obtain ⟨rfl, hB, f1, f2, hA, s1, hz, l0, l2, hp⟩ := hP
  have c1 : Steps p.tables e below (s₁.setTop (entryFrame m #[.ref a, .ref b] 2)) (s₁.setTop (mkF m 0 #[.val (.ref a), .val (.ref b)] [])) := entry rfl
  have c2 : Steps p.tables e below (s₁.setTop (entryFrame m #[.ref a, .ref b] 2)) (s₁.setTop (mkF m 6 #[.val (.ref a), .val (.ref b)] [.null, .int (Int32.ofNat A.slots.size), .int 0, .ref b, .ref a])) := c1.trans (by
    refine XS.aloadN X0.here hexec rfl (hb hbytes d0) rfl rfl ?_
    refine XS.aloadN X0.here hexec rfl (hb hbytes d1) rfl rfl ?_
    refine iconstV X0.here hexec rfl 0 (hb hbytes d2) (by decide) ?_
    refine XS.aloadN X0.here hexec rfl (hb hbytes d3) rfl rfl ?_
    refine X0.alen hexec (hA.1.mv X0.warmed.alike hh0) rfl rfl (hb hbytes d4) ?_
    refine XS.aconstNull X0.here hexec rfl (hb hbytes d5) ?_
    exact Steps.refl _)
  obtain ⟨v3, T3, X3, E3, g3⟩ := X0.callN hexec (New4.law l a D fV fC b A z 0 A.slots.size) rfl hown (wks W (initW "java/lang/String" 27 New4.yN)) (W New4.tab (by simp only [site, List.mem_cons, List.mem_append, true_or, or_true])) (W := 0) (Nat.le_of_ble_eq_true rfl) (Nat.le_of_ble_eq_true rfl) (Nat.le_refl _) (by show 0 + A.slots.size ≤ A.slots.size; omega) (g := (mkF m 6 #[.val (.ref a), .val (.ref b)] [.null, .int (Int32.ofNat A.slots.size), .int (Int32.ofNat 0), .ref b, .ref a])) rfl (by rw [hml]; rfl) c2 (argsL := [.ref b, .int (Int32.ofNat 0), .int (Int32.ofNat A.slots.size), .null]) (rest := []) rfl rfl (by show 2 * 0 + 0 ≤ _; decide) (hb hbytes d6) (⟨rfl, hB.mv X0.warmed.alike hh0, f1.al X0.warmed.alike, f2.al X0.warmed.alike, hA.mv X0.warmed.alike hh0, s1.there X0.warmed.alike hh0, hz, l0, by omega, l2, fun i hi => by rw [Nat.zero_add]; exact hp i hi⟩)
  have e0 := Got.mv _ s₁ s _ _ hh0.symm (Vm.Alike.refl _) rfl E3
  obtain rfl := e0.1
  have c4 : Steps p.tables e below (s₁.setTop (entryFrame m #[.ref a, .ref b] 2)) (T3.setTop (mkF m 9 #[.val (.ref a), .val (.ref b)] [])) := g3
  exact ⟨T3, none, _, _, _, X3, by simp, rfl, by omega, (fun _ => rfl), e0, fun fs hl => c4.trans (X3.returnOut hexec hret (hb hbytes d9) hl)⟩
theorem pays {l : Launch} {R : Room} {p : Program} {e : Env} {below : List Frame} {s : State} {sargs : Array Value} {len W : Nat} (a : Addr) (D : Cell) (fV fC : Field) (b : Addr) (A : Cell) (z : Int32) (htab : tab.before sargs s = true) (hfr : 4 ≤ R.frames) (hlo : W + 65 ≤ R.locals) :
    Back l R p e below s sargs yN len W (fun A₁ a₁ => A₁.cells + 1 ≤ R.cells ∧ A₁.slots + A.slots.size ≤ R.slots ∧ P a D fV fC b A z a₁ A₁.U) (fun A₁ _ v₁ B₁ => E a D fV fC A v₁ A₁.U B₁.U ∧ B₁.locs = A₁.locs ++ [⟨a, fC.slot⟩, ⟨a, fV.slot⟩] ∧ B₁.cells = A₁.cells + 1 ∧ B₁.slots = A₁.slots + A.slots.size) :=
  (law l a D fV fC b A z).pays htab hfr (by omega)
end New1
end StrChars
namespace StrChars.Road
open Jvm Sem ClassFile Op Lib Jvm.Stand Jvm.Free Jvm.Free.XT
open Jvm.Lib.Cold (StaticIs)
abbrev ST : String := "java/lang/String"
/-- every table word that New1's law asks, flat -/
abbrev words : List Jvm.Cond := [.code New1.yN New1.yB 2 none, .initialized ST, .methodLink ST 27 New4.yN, .instanceMethod New4.yN,
  .code New4.yN New4.yB 6 none, .fieldLink ST 38 ST "COMPACT_STRINGS" "Z", .laysFinal ST ST "value" "[B", .fieldLink ST 9 ST "value" "[B", .laysFinal ST ST "coder" "B", .fieldLink ST 15 ST "coder" "B",
  .methodLink ST 1 Lib.objectInit, .instanceMethod Lib.objectInit, .code Lib.objectInit ⟨#[0xb1]⟩ 1 none, .methodLink ST 177 Cmp3.yN, .static Cmp3.yN, .methodLink ST 47 CodL.yN, .static CodL.yN,
  .code Cmp3.yN Cmp3.yB 6 (some (.array .byte)), .initialized U16, .arrayClass .byte, .methodLink U16 115 Cmp5.yN, .static Cmp5.yN, .code Cmp5.yN Cmp5.yB 7 (some .int), .code CodL.yN CodL.yB 2 (some .byte)]
theorem tab_of {a : Array Value} {s : State} (h : ∀ w ∈ words, w.before a s = true) : New1.tab.before a s = true := by
  have h5 : Cmp5.tab.before a s = true := unparts (wk h (.code Cmp5.yN Cmp5.yB 7 (some .int))) (wks h (.initialized Cmp5.yN.cls :: Cmp5.site))
  have hc : CodL.tab.before a s = true := unparts (wk h (.code CodL.yN CodL.yB 2 (some .byte))) (wks h (.initialized CodL.yN.cls :: CodL.site))
  have q5 : ∀ w ∈ Cmp5.tab :: words, w.before a s = true := fun w hw => (List.mem_cons.mp hw).elim (fun e => e ▸ h5) (h w)
  have h3 : Cmp3.tab.before a s = true := unparts (wk q5 (.code Cmp3.yN Cmp3.yB 6 (some (.array .byte)))) (wks q5 (.initialized Cmp3.yN.cls :: Cmp3.site))
  have q3 : ∀ w ∈ Cmp3.tab :: CodL.tab :: words, w.before a s = true := fun w hw => (List.mem_cons.mp hw).elim (fun e => e ▸ h3) fun hw => (List.mem_cons.mp hw).elim (fun e => e ▸ hc) (h w)
  have h4 : New4.tab.before a s = true := unparts (wk q3 (.code New4.yN New4.yB 6 none)) (wks q3 (.initialized New4.yN.cls :: New4.site))
  have q4 : ∀ w ∈ New4.tab :: words, w.before a s = true := fun w hw => (List.mem_cons.mp hw).elim (fun e => e ▸ h4) (h w)
  exact unparts (wk q4 (.code New1.yN New1.yB 2 none)) (wks q4 (.initialized New1.yN.cls :: New1.site))
/-- the words ride from the start Z to the walk's own state -/
theorem moved {Z s : State} {a0 args : Array Value} (hZ : Z.Warmed39 s.vm) (hw : ∀ d ∈ words, d.before a0 Z = true) : ∀ d ∈ words, d.before args s = true := fun d hd => by
  have q := hw d hd
  have t : ∀ d ∈ words, d = .arrayClass .byte ∨ (d.onTables && d.keepsFace) = true := by decide +kernel
  rcases t d hd with rfl | t
  · exact RoadKit.mvA hZ q
  · exact RoadKit.mv hZ q t
/-- WHAT COMES BACK, over the tables of the start Z: h the heap at the call, h' behind it -/
def Q (Z : State) (x : Addr) (A : Cell) (h : Heap) (v : Option Value) (h' : Heap) (L : List Loc) : Prop := v = none ∧ (∀ y ∈ L, y.base = x) ∧ RoadKit.Keep h h' [x] ∧ h'.size = h.size + 1 ∧ RoadKit.Exa Z h' x ST ∧ RoadKit.Fld Z h' x ST "value" "[B" (.ref h.size) ∧ RoadKit.Fld Z h' x ST "coder" "B" (.int 0) ∧
  (∃ V : Cell, RoadKit.Arr Z h' h.size V .byte ∧ V.vm = .none ∧ Z.vm.findClass "[B" = some V.cls ∧ V.slots.size = A.slots.size ∧ ∀ j, j < A.slots.size → V.slots[j]? = some (.int (lo8 (cv A j)))) ∧
  ∀ (O n d : String) (w : Value), RoadKit.Fld Z h x O n d w → RoadKit.slotOf Z O n d ≠ RoadKit.slotOf Z ST "value" "[B" → RoadKit.slotOf Z O n d ≠ RoadKit.slotOf Z ST "coder" "B" → RoadKit.Fld Z h' x O n d w
/-- **new String(chars) AT A CALL, IN THE ROAD'S FORM**: for specialBack behind newO: x the fresh String, b the char[] with the cell A -/
theorem back {p : Program} {l : Launch} {e : Env} {R : Room} {s : State} {args : Array Value} {below : List Frame} {len W : Nat} {Z : State} {a0 : Array Value} {h : Heap} (hZ : Z.Warmed39 s.vm) (hw : ∀ d ∈ words, d.before a0 Z = true) {kI : Nat} (wi : (Jvm.Cond.instantiable ST kI).before a0 Z = true)
    {x b : Addr} {A : Cell} {z : Int32} {v0 c0 : Value} (E : RoadKit.Exa Z h x ST) (V : RoadKit.Fld Z h x ST "value" "[B" v0) (C : RoadKit.Fld Z h x ST "coder" "B" c0) (K : RoadKit.Arr Z h b A .char) (hty : Typed .char A) (S : RoadKit.Sta Z h ST "COMPACT_STRINGS" "Z" (.int z)) (hz : ¬ z = 0)
    (l0 : 0 < A.slots.size) (l2 : A.slots.size ≤ 536870912) (hp : ∀ i, i < A.slots.size → ¬ 255 < cv A i) (hfr : 4 ≤ R.frames) (hlo : W + 65 ≤ R.locals) :
    Back l R p e below s args New1.yN len W (fun P a => a = #[.ref x, .ref b] ∧ P.U.heap = h ∧ P.cells + 1 ≤ R.cells ∧ P.slots + A.slots.size ≤ R.slots)
      (fun P _ v B => ∃ L, Q Z x A h v B.U.heap L ∧ B.locs = P.locs ++ L ∧ B.cells = P.cells + 1 ∧ B.slots = P.slots + A.slots.size) := by
  intro m meth c P g ig mk a X hg hsize hdg hW hn hp'
  obtain ⟨rfl, rfl, r1, r2⟩ := hp'
  have al : Z.vm.Alike P.U.vm := hZ.alike.trans X.warmed.alike
  obtain ⟨D, cfV, kV, iV, fV, hD, gV, stV, knV, obV, asV, slV⟩ := id V
  obtain ⟨D', cfC, kC, iC, fC, hD', gC, stC, -, -, asC, slC⟩ := id C
  cases hD.symm.trans hD'
  obtain ⟨D2, kD, e1, e2, e3, e4, e5⟩ := id E
  cases hD.symm.trans e1
  obtain ⟨c2, k2, i1, i2, i3, -⟩ := Cond.instantiable_spec wi
  cases e2.symm.trans i1
  cases e3.symm.trans i2
  obtain ⟨kU, u1, u2⟩ := al.2.2 _ _ e3
  have hB : Blank ST x D P.U := ⟨hD, ⟨knV, fun q hq => by rw [hq] at obV; cases obV⟩, by rw [al.findClass]; exact e2, kU, u1, by rw [u2]; exact i3, by rw [u2]; exact e5 i3⟩
  have F1 : Found ST "value" "[B" fV P.U := ⟨SBG.found_only al ⟨cfV, kV, iV, gV⟩, stV⟩
  have F2 : Found ST "coder" "B" fC P.U := ⟨SBG.found_only al ⟨cfC, kC, iC, gC⟩, stC⟩
  have hA : Ch b A P.U := ⟨⟨K.1, State.isArrayOf_alike al K.2.1, K.2.2, by omega⟩, hty⟩
  have hS : StaticIs P.U ST "COMPACT_STRINGS" "Z" (.int z) := by
    obtain ⟨cfS, iS, kS, fS, st, cS, t1, t2, t3, t4, t5, t6, t7⟩ := S
    exact StaticIs.there (s := { Z with heap := P.U.heap }) ⟨cfS, iS, kS, fS, st, cS, t1, t2, t3, t4, t5, (fun q => by rw [q] at t6; cases t6), t7⟩ al rfl
  obtain ⟨v, B, X', ⟨⟨hv, E', V', q1, q2, q3, q4, q5, q6, q7, q8, q9, q10, q11⟩, hl, hc, hs⟩, st⟩ := New1.pays x D fV fC b A z (tab_of (moved hZ hw)) hfr hlo m meth c P g ig mk _ X hg hsize hdg hW hn ⟨r1, r2, rfl, hB, F1, F2, hA, hS, hz, l0, l2, hp⟩
  have al' : Z.vm.Alike B.U.vm := hZ.alike.trans X'.warmed.alike
  have hsz : E'.slots.size = D.slots.size := by
    obtain ⟨-, -, -, kB, w1, w2, w3⟩ := q1
    obtain ⟨kB', y1, y2⟩ := al'.2.2 _ _ e3
    rw [q2.2.1] at w1
    cases w1.symm.trans y1
    rw [w3, e5 i3, y2]
  refine ⟨v, B, X', ⟨_, ⟨hv, ?_, ⟨by omega, fun y cy hy hn' => q10 y cy (by simpa using hn') hy, fun y cy hy => ?_⟩, q11, ⟨E', _, q1.1, by rw [q2.2.1]; exact e2, by rw [q2.2.1]; exact e3, by rw [q2.1]; exact obV, fun _ => by rw [hsz]; exact e5 i3⟩,
    ⟨E', cfV, kV, iV, fV, q1.1, gV, stV, by rw [q2.1]; exact knV, by rw [q2.1]; exact obV, by rw [q2.2.1]; exact asV, q3⟩, ⟨E', cfC, kC, iC, fC, q1.1, gC, stC, by rw [q2.1]; exact knV, by rw [q2.1]; exact obV, by rw [q2.2.1]; exact asC, q4⟩,
    ⟨V', ⟨q5.1, State.isArrayOf_alike al'.symm q5.2.1, q5.2.2.1⟩, q6, by rw [← al'.findClass]; exact q7, q8, fun j hj => by have := q9 j hj; rwa [Nat.zero_add] at this⟩, fun O n d w F n1 n2 => ?_⟩, hl, hc, hs⟩, st⟩
  · intro y hy
    simp only [List.mem_cons, List.not_mem_nil, or_false] at hy
    rcases hy with rfl | rfl <;> rfl
  · by_cases q : y = x
    · subst q
      cases hD.symm.trans hy
      exact ⟨E', q1.1, q2.2.1, q2.1, hsz⟩
    · exact ⟨cy, q10 y cy q hy, rfl, rfl, rfl⟩
  · obtain ⟨D3, cf, k, i, f, g1, g2, g3, g4, g5, g6, g7⟩ := F
    cases hD.symm.trans g1
    simp only [RoadKit.slotOf, g2, gV, gC, Option.map_some, Option.getD_some] at n1 n2
    exact ⟨E', cf, k, i, f, q1.1, g2, g3, by rw [q2.1]; exact g4, by rw [q2.1]; exact g5, by rw [q2.2.1]; exact g6, by rw [q2.2.2 f.slot (by simp [n1, n2])]; exact g7⟩
end StrChars.Road
namespace StrChars.Road
open Jvm Sem ClassFile Op Lib Jvm.Stand Jvm.Free Jvm.Free.XT
/-- WHAT COMES BACK, the byte[] as a list of values -/
def QA (Z : State) (x : Addr) (zn : Int32) (cs : List Int32) (h : Heap) (v : Option Value) (h' : Heap) (L : List Loc) : Prop := v = none ∧ (∀ y ∈ L, y.base = x) ∧ RoadKit.Keep h h' [x] ∧ h'.size = h.size + 1 ∧ RoadKit.Exa Z h' x ST ∧ RoadKit.Fld Z h' x ST "value" "[B" (.ref h.size) ∧ RoadKit.Fld Z h' x ST "coder" "B" (.int 0) ∧
  (∃ kb, Z.vm.findClass "[B" = some kb ∧ RoadKit.Arv Z h' h.size kb .byte zn (cs.map fun c => .int (lo8 c)) (.int 0)) ∧
  ∀ (O n d : String) (w : Value), RoadKit.Fld Z h x O n d w → RoadKit.slotOf Z O n d ≠ RoadKit.slotOf Z ST "value" "[B" → RoadKit.slotOf Z O n d ≠ RoadKit.slotOf Z ST "coder" "B" → RoadKit.Fld Z h' x O n d w
/-- **new String(chars) AT A CALL, THE ARRAYS AS LISTS**: the char[] at b holds cs, not empty, no char above 255 -/
theorem backArv {p : Program} {l : Launch} {e : Env} {R : Room} {s : State} {args : Array Value} {below : List Frame} {len W : Nat} {Z : State} {a0 : Array Value} {h : Heap} (hZ : Z.Warmed39 s.vm) (hw : ∀ d ∈ words, d.before a0 Z = true) {kI : Nat} (wi : (Jvm.Cond.instantiable ST kI).before a0 Z = true)
    {x b : Addr} {k : ClassId} {zn z : Int32} {cs : List Int32} {dv v0 c0 : Value} (E : RoadKit.Exa Z h x ST) (V : RoadKit.Fld Z h x ST "value" "[B" v0) (C : RoadKit.Fld Z h x ST "coder" "B" c0) (K : RoadKit.Arv Z h b k .char zn (cs.map Value.int) dv) (S : RoadKit.Sta Z h ST "COMPACT_STRINGS" "Z" (.int z)) (hz : ¬ z = 0)
    (hlen : zn.toNatClampNeg = cs.length) (h0 : 0 < cs.length) (hbig : cs.length ≤ 536870912) (hall : ∀ c ∈ cs, ¬ 255 < c) (hfr : 4 ≤ R.frames) (hlo : W + 65 ≤ R.locals) :
    Back l R p e below s args New1.yN len W (fun P a => a = #[.ref x, .ref b] ∧ P.U.heap = h ∧ P.cells + 1 ≤ R.cells ∧ P.slots + cs.length ≤ R.slots)
      (fun P _ v B => ∃ L, QA Z x zn cs h v B.U.heap L ∧ B.locs = P.locs ++ L ∧ B.cells = P.cells + 1 ∧ B.slots = P.slots + cs.length) := by
  obtain ⟨A, K1, K2, K3, K4, K5, K6⟩ := K
  have e : A.slots.size = cs.length := K3.trans hlen
  have hat : ∀ (i : Nat) (hi : i < cs.length), A.slots[i]? = some (.int cs[i]) := fun i hi => by rw [K5 i (by omega)]; simp [List.getD_eq_getElem?_getD, hi]
  have hcv : ∀ (i : Nat) (hi : i < cs.length), cv A i = cs[i] := fun i hi => by unfold cv; rw [hat i hi]
  have hty : Typed .char A := fun i v hv => by
    have hi : i < A.slots.size := (Array.getElem?_eq_some_iff.mp hv).1
    have q := K5 i hi
    rw [hv] at q
    rw [Option.some.inj q]
    exact K6 i hi
  refine Back.mono (back hZ hw wi E V C K1 hty S hz (by omega) (by omega) (fun i hi => by rw [hcv i (by omega)]; exact hall _ (List.getElem_mem _)) hfr hlo) (fun P a hp => ⟨hp.1, hp.2.1, hp.2.2.1, by rw [e]; exact hp.2.2.2⟩) (fun P a v B hp hq => ?_)
  obtain ⟨L, ⟨q1, q2, q3, q4, q5, q6, q7, ⟨V', v1, v2, v3, v4, v5⟩, q9⟩, hl, hc, hs⟩ := hq
  refine ⟨L, ⟨q1, q2, q3, q4, q5, q6, q7, ⟨V'.cls, v3, V', v1, rfl, by rw [v4, e, hlen], K4, fun i hi => ?_, fun i hi => ?_⟩, q9⟩, hl, hc, by rw [hs, e]⟩
  · have hi' : i < cs.length := by omega
    rw [v5 i (by omega), hcv i hi']; simp [List.getD_eq_getElem?_getD, hi']
  · have hi' : i < cs.length := by omega
    simp only [List.getD_eq_getElem?_getD, List.getElem?_map, List.getElem?_eq_getElem hi', Option.map_some, Option.getD_some]
    exact fits_lo8 _
end StrChars.Road
namespace StrChars.Road
open Jvm Sem ClassFile Op Lib Jvm.Stand Jvm.Free Jvm.Free.XT
/-- WHAT COMES BACK, in the writer's own shape -/
def QV (Z : State) (x : Addr) (N : Int32) (bs : List Int32) (h : Heap) (n0 : Nat) (v : Option Value) (h' : Heap) (L : List Loc) : Prop := v = none ∧ RoadKit.Fr n0 L ∧ RoadKit.Keep h h' [x] ∧ RoadKit.Exa Z h' x ST ∧ RoadKit.Fld Z h' x ST "coder" "B" (.int 0) ∧
  ∃ (t : Addr) (kb : ClassId), n0 ≤ t ∧ h.size ≤ t ∧ ¬ t = x ∧ RoadKit.Fld Z h' x ST "value" "[B" (.ref t) ∧ RoadKit.Arv Z h' t kb .byte N (bs.map Value.int) (.int 0)
/-- **new String(chars) AT A CALL, FOR THE WRITER**: a char[] of n known ints, each 0 to 255 -/
theorem backV {p : Program} {l : Launch} {e : Env} {R : Room} {s : State} {args : Array Value} {below : List Frame} {len W : Nat} {Z : State} {a0 : Array Value} {h : Heap} (hZ : Z.Warmed39 s.vm) (hw : ∀ d ∈ words, d.before a0 Z = true) {kI : Nat} (wi : (Jvm.Cond.instantiable ST kI).before a0 Z = true)
    {x b : Addr} {kC : ClassId} {cs bs : List Int32} {d v0 c0 : Value} {z N : Int32} {n n0 : Nat} (hx0 : n0 ≤ x) (hh0 : n0 ≤ h.size) (E : RoadKit.Exa Z h x ST) (V : RoadKit.Fld Z h x ST "value" "[B" v0) (C : RoadKit.Fld Z h x ST "coder" "B" c0) (K : RoadKit.Arv Z h b kC .char N (cs.map Value.int) d) (S : RoadKit.Sta Z h ST "COMPACT_STRINGS" "Z" (.int z)) (hz : ¬ z = 0)
    (hn : cs.length = n) (hN : N = Int32.ofNat n) (l0 : 0 < n) (l2 : n ≤ 4000) (hp : ∀ c ∈ cs, ¬ c < 0 ∧ ¬ (255 : Int32) < c) (hb : bs = cs.map (fun c => c.toInt8.toInt32)) (hfr : 4 ≤ R.frames) (hlo : W + 65 ≤ R.locals) :
    Back l R p e below s args (⟨"java/lang/String", "<init>", "([C)V"⟩ : MethodName) len W (fun P a => a = #[.ref x, .ref b] ∧ P.U.heap = h ∧ P.cells + 1 ≤ R.cells ∧ P.slots + n ≤ R.slots)
      (fun P _ v B => ∃ L, QV Z x N bs h n0 v B.U.heap L ∧ B.locs = P.locs ++ L ∧ B.cells = P.cells + 1 ∧ B.slots = P.slots + n) := by
  subst hn hN hb
  refine Back.mono (backArv hZ hw wi E V C K S hz (n32 (by omega)) l0 (by omega) (fun c hc => (hp c hc).2) hfr hlo) (fun P a hp => hp) (fun P a v B hp hq => ?_)
  obtain ⟨L, ⟨q1, q2, q3, q4, q5, q6, q7, ⟨kb, v1, v2⟩, q9⟩, hl, hc, hs⟩ := hq
  exact ⟨L, ⟨q1, fun y hy => by rw [q2 y hy]; exact hx0, q3, q5, q7, h.size, kb, hh0, Nat.le_refl _, Nat.ne_of_gt E.lt, q6, by rw [List.map_map]; exact v2⟩, hl, hc, hs⟩
end StrChars.Road
end Jvm.Pilot.@@N@@
namespace Jvm.Pilot.@@N@@
open Jvm Jvm.ClassFile Sem Op Lib Jvm.Free Jvm.Stand Jvm.LawKit Jvm.RoadKit Bundle Jvm.Pilot.@@N@@.Jvm.D
/-- from Y the run comes to an end of which Q tells -/
def own_G (FE : State → Outcome → State → List Loc → Nat → Nat → Prop) (p : Program) (e : Env) (below : List Frame) (s : State) (C S : Nat) (Q : Option Value → Heap → List Loc → Prop) (Y : State) : Prop :=
  ∃ s₂ o, Steps p.tables e below Y s₂ ∧ s₂.status = .running ∧ Ended s₂ below o ∧ ∃ v L, o = .returned v ∧ Q v s₂.heap L ∧ FE s o s₂ L C S
theorem own_go {FE : State → Outcome → State → List Loc → Nat → Nat → Prop} {p : Program} {e : Env} {below : List Frame} {s : State} {C S : Nat} {Q : Option Value → Heap → List Loc → Prop} {Y Y' : State} (k : own_G FE p e below s C S Q Y') (h : ∀ target, Steps p.tables e below Y' target → Steps p.tables e below Y target) : own_G FE p e below s C S Q Y :=
  let ⟨s₂, o, h1, r⟩ := k; ⟨s₂, o, h _ h1, r⟩
theorem ltr {a b c : Nat} (h : a ≤ b) (k : b ≤ c) : a ≤ c := Nat.le_trans h k
theorem leq {a b : Nat} (h : a = b) : a ≤ b := Nat.le_of_eq h
abbrev own_H {FE : State → Outcome → State → List Loc → Nat → Nat → Prop} {p : Program} {e : Env} {below : List Frame} {s : State} {C S : Nat} {Q : Option Value → Heap → List Loc → Prop} (Y : State) : Prop := own_G FE p e below s C S Q Y
theorem tm {d : Jvm.Cond} (i : Nat) (h : tables_1[i]? = some d) : d ∈ tables_1 := List.mem_of_getElem? h
abbrev y0_ : MethodName := ⟨"java/lang/StringLatin1", "canEncode", "(C)Z"⟩
abbrev y1_ : MethodName := ⟨"java/lang/StringLatin1", "toBytes", "(C)[B"⟩
abbrev y2_ : MethodName := ⟨"java/lang/String", "<init>", "([BB)V"⟩
abbrev y3_ : MethodName := ⟨"java/lang/String", "valueOf", "(C)Ljava/lang/String;"⟩
abbrev y4_ : MethodName := ⟨"java/lang/String", "<init>", "([CIILjava/lang/Void;)V"⟩
abbrev y5_ : MethodName := ⟨"java/lang/String", "<init>", "([C)V"⟩
abbrev y6_ : MethodName := ⟨"com/example/ninkasi/ninkasi/csv/CsvRecordGetPinLaw", "mk", "(I)Ljava/lang/String;"⟩
abbrev y7_ : MethodName := ⟨"java/util/AbstractCollection", "<init>", "()V"⟩
abbrev y8_ : MethodName := ⟨"java/util/AbstractList", "<init>", "()V"⟩
abbrev y9_ : MethodName := ⟨"java/util/ArrayList", "<init>", "()V"⟩
abbrev y10_ : MethodName := ⟨"java/lang/Math", "max", "(II)I"⟩
abbrev y11_ : MethodName := ⟨"java/util/ArrayList", "grow", "(I)[Ljava/lang/Object;"⟩
abbrev y12_ : MethodName := ⟨"java/util/ArrayList", "grow", "()[Ljava/lang/Object;"⟩
abbrev y13_ : MethodName := ⟨"java/util/ArrayList", "add", "(Ljava/lang/Object;[Ljava/lang/Object;I)V"⟩
abbrev y14_ : MethodName := ⟨"java/util/ArrayList", "add", "(Ljava/lang/Object;)Z"⟩
abbrev y15_ : MethodName := ⟨"java/util/ImmutableCollections$AbstractImmutableCollection", "<init>", "()V"⟩
abbrev y16_ : MethodName := ⟨"java/util/ImmutableCollections$AbstractImmutableList", "<init>", "()V"⟩
abbrev y17_ : MethodName := ⟨"java/util/Objects", "requireNonNull", "(Ljava/lang/Object;)Ljava/lang/Object;"⟩
abbrev y18_ : MethodName := ⟨"java/util/ImmutableCollections$List12", "<init>", "(Ljava/lang/Object;)V"⟩
abbrev y19_ : MethodName := ⟨"java/util/ImmutableCollections$List12", "<init>", "(Ljava/lang/Object;Ljava/lang/Object;)V"⟩
abbrev y20_ : MethodName := ⟨"java/util/ImmutableCollections$ListN", "<init>", "([Ljava/lang/Object;Z)V"⟩
abbrev y21_ : MethodName := ⟨"java/lang/Math", "min", "(II)I"⟩
abbrev y22_ : MethodName := ⟨"java/util/Arrays", "copyOf", "([Ljava/lang/Object;ILjava/lang/Class;)[Ljava/lang/Object;"⟩
abbrev y23_ : MethodName := ⟨"java/util/Arrays", "copyOf", "([Ljava/lang/Object;I)[Ljava/lang/Object;"⟩
abbrev y24_ : MethodName := ⟨"java/util/ArrayList", "toArray", "()[Ljava/lang/Object;"⟩
abbrev y25_ : MethodName := ⟨"java/util/ArrayList", "isEmpty", "()Z"⟩
abbrev y26_ : MethodName := ⟨"java/util/List", "of", "([Ljava/lang/Object;)Ljava/util/List;"⟩
abbrev y27_ : MethodName := ⟨"java/util/ImmutableCollections", "listCopy", "(Ljava/util/Collection;)Ljava/util/List;"⟩
abbrev y28_ : MethodName := ⟨"java/util/Collection", "isEmpty", "()Z"⟩
abbrev y29_ : MethodName := ⟨"java/util/Collection", "toArray", "()[Ljava/lang/Object;"⟩
abbrev y30_ : MethodName := ⟨"java/util/List", "copyOf", "(Ljava/util/Collection;)Ljava/util/List;"⟩
abbrev y31_ : MethodName := ⟨"java/util/ImmutableCollections", "listFromArray", "([Ljava/lang/Object;)Ljava/util/List;"⟩
abbrev y32_ : MethodName := ⟨"com/example/ninkasi/ninkasi/csv/CsvRecord", "<init>", "(Ljava/util/List;Ljava/util/List;)V"⟩
abbrev y33_ : MethodName := ⟨"java/util/ImmutableCollections$List12", "get", "(I)Ljava/lang/Object;"⟩
abbrev y34_ : MethodName := ⟨"com/example/ninkasi/ninkasi/csv/CsvRecord", "get", "(I)Ljava/lang/String;"⟩
abbrev y35_ : MethodName := ⟨"java/util/List", "get", "(I)Ljava/lang/Object;"⟩
abbrev y36_ : MethodName := ⟨"java/util/ImmutableCollections$ListN", "get", "(I)Ljava/lang/Object;"⟩
abbrev y37_ : MethodName := ⟨"java/lang/String", "equals", "(Ljava/lang/Object;)Z"⟩
abbrev R0_ : Room := { frames := 0, cells := 0, slots := 0, locals := 0 }
abbrev R1_ : Room := { frames := 0, cells := 1, slots := 1, locals := 0 }
abbrev R2_ : Room := { frames := 1, cells := 0, slots := 0, locals := 12 }
abbrev R3_ : Room := { frames := 2, cells := 2, slots := 5, locals := 27 }
abbrev R4_ : Room := { frames := 1, cells := 4, slots := 8, locals := 12 }
abbrev R5_ : Room := { frames := 2, cells := 4, slots := 8, locals := 29 }
abbrev R6_ : Room := { frames := 4, cells := 6, slots := 12, locals := 66 }
abbrev R7_ : Room := { frames := 2, cells := 0, slots := 0, locals := 24 }
abbrev R8_ : Room := { frames := 3, cells := 0, slots := 0, locals := 36 }
abbrev R9_ : Room := { frames := 1, cells := 1, slots := 10, locals := 14 }
abbrev R10_ : Room := { frames := 2, cells := 1, slots := 10, locals := 29 }
abbrev R11_ : Room := { frames := 3, cells := 1, slots := 10, locals := 41 }
abbrev R12_ : Room := { frames := 4, cells := 1, slots := 10, locals := 56 }
abbrev R13_ : Room := { frames := 1, cells := 0, slots := 0, locals := 15 }
abbrev R14_ : Room := { frames := 4, cells := 0, slots := 0, locals := 48 }
abbrev R15_ : Room := { frames := 1, cells := 1, slots := 1, locals := 60 }
abbrev R16_ : Room := { frames := 2, cells := 1, slots := 1, locals := 75 }
abbrev R17_ : Room := { frames := 3, cells := 1, slots := 1, locals := 88 }
abbrev R18_ : Room := { frames := 5, cells := 1, slots := 2, locals := 62 }
abbrev R19_ : Room := { frames := 6, cells := 2, slots := 3, locals := 100 }
abbrev R20_ : Room := { frames := 7, cells := 2, slots := 3, locals := 113 }
abbrev R21_ : Room := { frames := 1, cells := 1, slots := 2, locals := 60 }
abbrev R22_ : Room := { frames := 2, cells := 1, slots := 2, locals := 75 }
abbrev R23_ : Room := { frames := 3, cells := 1, slots := 2, locals := 88 }
abbrev R24_ : Room := { frames := 5, cells := 1, slots := 2, locals := 63 }
abbrev R25_ : Room := { frames := 6, cells := 2, slots := 4, locals := 100 }
abbrev R26_ : Room := { frames := 7, cells := 2, slots := 4, locals := 113 }
abbrev R27_ : Room := { frames := 1, cells := 1, slots := 3, locals := 60 }
abbrev R28_ : Room := { frames := 2, cells := 1, slots := 3, locals := 75 }
abbrev R29_ : Room := { frames := 3, cells := 1, slots := 3, locals := 88 }
abbrev R30_ : Room := { frames := 5, cells := 2, slots := 5, locals := 63 }
abbrev R31_ : Room := { frames := 6, cells := 2, slots := 5, locals := 77 }
abbrev R32_ : Room := { frames := 7, cells := 3, slots := 8, locals := 100 }
abbrev R33_ : Room := { frames := 8, cells := 3, slots := 8, locals := 113 }
abbrev R34_ : Room := { frames := 1, cells := 1, slots := 4, locals := 60 }
abbrev R35_ : Room := { frames := 2, cells := 1, slots := 4, locals := 75 }
abbrev R36_ : Room := { frames := 3, cells := 1, slots := 4, locals := 88 }
abbrev R37_ : Room := { frames := 5, cells := 2, slots := 6, locals := 63 }
abbrev R38_ : Room := { frames := 6, cells := 2, slots := 6, locals := 77 }
abbrev R39_ : Room := { frames := 7, cells := 3, slots := 10, locals := 100 }
abbrev R40_ : Room := { frames := 8, cells := 3, slots := 10, locals := 113 }
abbrev R41_ : Room := { frames := 9, cells := 5, slots := 13, locals := 126 }
abbrev R42_ : Room := { frames := 1, cells := 0, slots := 0, locals := 13 }
abbrev R43_ : Room := { frames := 9, cells := 5, slots := 14, locals := 126 }
abbrev R44_ : Room := { frames := 9, cells := 6, slots := 18, locals := 126 }
abbrev R45_ : Room := { frames := 9, cells := 6, slots := 20, locals := 126 }
abbrev own_FE (Z : State) (s : State) (o : Outcome) (t : State) (L : List Loc) (C S : Nat) : Prop := CHr Z consts_1 s.vm s.heap t.vm t.heap ∧ ReturnedEndW s o t L C S
theorem own_safeV {Z : State} {EL : List (String × Nat)} {vm : Vm} {h : Heap} {a : Addr} {k : ClassId} {ty : FieldType} {z : Int32} {vs : List Value} {d : Value} (hal : Z.vm.Alike vm) (F : Arv Z h a k ty z vs d) (ht : ty ≠ .byte) : Safe Z EL vm h a := by
  obtain ⟨cl, A, -⟩ := F; exact Safe.arr hal A ht
theorem own_EW (Z : State) (a0 : Array Value) (hw : ∀ d ∈ tables_1, d.before a0 Z = true) : EW Z a0 consts_1 := (EW.cons (hw _ (tm 81 rfl)) (by decide) (EW.cons (hw _ (tm 82 rfl)) (by decide) (EW.cons (hw _ (tm 83 rfl)) (by decide) (EW.cons (hw _ (tm 84 rfl)) (by decide) (EW.cons (hw _ (tm 18 rfl)) (by decide) EW.nil)))))
theorem own_char (x : Int32) : ¬ nar .char ((x &&& (255 : Int32)).toUInt32.toUInt16.toUInt32.toInt32) < 0 ∧ ¬ (255 : Int32) < nar .char ((x &&& (255 : Int32)).toUInt32.toUInt16.toUInt32.toInt32) := by
  have t : ∀ k : Fin 256, ¬ nar .char ((Int32.ofNat k.val).toUInt32.toUInt16.toUInt32.toInt32) < 0 ∧ ¬ (255 : Int32) < nar .char ((Int32.ofNat k.val).toUInt32.toUInt16.toUInt32.toInt32) := by decide +kernel
  have h : (x &&& 255).toBitVec.toNat < 256 := by
    simp only [Int32.toBitVec_and, BitVec.toNat_and]
    exact Nat.lt_succ_of_le Nat.and_le_right
  have e : (x &&& 255) = Int32.ofNat (x &&& 255).toBitVec.toNat := by
    apply Int32.toBitVec_inj.mp
    show _ = BitVec.ofNat 32 _
    rw [BitVec.ofNat_toNat]; simp
  rw [e]
  exact t ⟨_, h⟩
theorem own_le255 (x : Int32) : ¬ ((255 : Int32) < ((x &&& (255 : Int32)).toUInt32.toUInt16.toUInt32.toInt32)) := by
  rw [i2c_mask]
  have h := c_and x 255 (by decide)
  rw [Int32.lt_iff_toInt_lt]
  omega
theorem own_and7 (x : Int32) : x &&& 7 = 0 ∨ x &&& 7 = 1 ∨ x &&& 7 = 2 ∨ x &&& 7 = 3 ∨ x &&& 7 = 4 ∨ x &&& 7 = 5 ∨ x &&& 7 = 6 ∨ x &&& 7 = 7 := by
  have h := c_mask x 7 3 (by decide) (by decide)
  simp only [← Int32.toInt_inj]
  have e0 : (0 : Int32).toInt = 0 := rfl
  have e1 : (1 : Int32).toInt = 1 := rfl
  have e2 : (2 : Int32).toInt = 2 := rfl
  have e3 : (3 : Int32).toInt = 3 := rfl
  have e4 : (4 : Int32).toInt = 4 := rfl
  have e5 : (5 : Int32).toInt = 5 := rfl
  have e6 : (6 : Int32).toInt = 6 := rfl
  have e7 : (7 : Int32).toInt = 7 := rfl
  rw [e0, e1, e2, e3, e4, e5, e6, e7]
  omega
theorem own_mod5 (x : Int32) : (x &&& 2147483647) % 5 = 0 ∨ (x &&& 2147483647) % 5 = 1 ∨ (x &&& 2147483647) % 5 = 2 ∨ (x &&& 2147483647) % 5 = 3 ∨ (x &&& 2147483647) % 5 = 4 := by
  have h := c_mask x 2147483647 31 (by decide) (by decide)
  have k := c_irem (x &&& 2147483647) 5 5 rfl
  simp only [← Int32.toInt_inj]
  have e0 : (0 : Int32).toInt = 0 := rfl
  have e1 : (1 : Int32).toInt = 1 := rfl
  have e2 : (2 : Int32).toInt = 2 := rfl
  have e3 : (3 : Int32).toInt = 3 := rfl
  have e4 : (4 : Int32).toInt = 4 := rfl
  rw [e0, e1, e2, e3, e4]
  omega
theorem own_nar {c : Int32} (h : ¬ c < 0 ∧ ¬ (255 : Int32) < c) : nar .char c = c := by
  have k := c_i2c c
  have e0 : (0 : Int32).toInt = 0 := rfl
  have e1 : (255 : Int32).toInt = 255 := rfl
  rw [Int32.lt_iff_toInt_lt, Int32.lt_iff_toInt_lt, e0, e1] at h
  apply Int32.toInt_inj.mp
  show (c.toUInt32.toUInt16.toUInt32.toInt32).toInt = c.toInt
  omega
theorem own_fitc {c : Int32} (h : ¬ c < 0 ∧ ¬ (255 : Int32) < c) : fits .char (.int c) = true := by
  have k := fits_nar_char c
  rwa [own_nar h] at k
theorem own_up (cs : List Int32) (h : ∀ c ∈ cs, ¬ c < 0 ∧ ¬ (255 : Int32) < c) : ∀ c ∈ cs, ¬ c < 0 ∧ ¬ (65535 : Int32) < c := fun c hc => ⟨(h c hc).1, fun q => (h c hc).2 (by
  rw [Int32.lt_iff_toInt_lt] at q ⊢
  have e1 : (65535 : Int32).toInt = 65535 := rfl
  have e2 : (255 : Int32).toInt = 255 := rfl
  omega)⟩
theorem own_safe_null {Z : State} {EL : List (String × Nat)} {vm : Vm} {h : Heap} {x : Addr} (hal : Z.vm.Alike vm) (E : Exa Z h x "java/lang/String") (F : Fld Z h x "java/lang/String" "value" "[B" .null) : Safe Z EL vm h x := fun B => by
  obtain ⟨cell, cf, k, i, f, f1, f2, f3, f4, f5, f6, f7⟩ := F
  obtain ⟨p, -, u, a, -, q, -, G, rfl | rfl⟩ := B
  · cases (show h[q.sa]? = some q.sC from G.ha).symm.trans f1
    obtain ⟨cS, ⟨⟨-, -, -, ⟨c1, k1, i1, g1, -⟩, -, -, -, v1, -⟩, -⟩, -⟩ := G
    obtain ⟨k3, e3, -⟩ := State.fieldFound?_setVm (s := Z) hal f2
    have e4 := (show (Wst Z vm h).fieldFound? _ _ _ = _ from e3).symm.trans g1
    simp only [Option.some.injEq, Prod.mk.injEq] at e4
    rw [← e4.2.2.2, f7] at v1
    cases v1
  · obtain ⟨ce, kk, e1, e2, e3, -, -⟩ := E
    cases (show h[q.sd]? = some q.SA from G.hd).symm.trans e1
    obtain ⟨cS, -, -, fB, -⟩ := G
    have fB' : vm.findClass "[B" = some q.SA.cls := fB
    rw [hal.findClass] at fB'
    exact ids_ne e2 fB' (by decide) rfl
theorem own_eqint {args : Array Value} {s : State} {t : Term} {k : Int32} (h : (Jvm.Cond.eq t (.int k)).value args s none s [] = some true) : t.eval args s none [] s = some (.int k) := by
  simp only [Cond.value, Term.eval] at h
  cases ht : t.eval args s none [] s with
  | none => simp [ht] at h
  | some x => cases x <;> simp [ht] at h ⊢; exact h
theorem own_empty {args : Array Value} {s : State} {t : Term} {a : Addr} {cl : Cell} {ty : FieldType} (hf : Fit s) (ev : t.eval args s none [] s = some (.ref a)) (A : Arr s s.heap a cl ty) (h : (Jvm.Cond.eq (.length t) (.int 0)).value args s none s [] = some true) : Arv s s.heap a cl.cls ty (0 : Int32) [] .null := by
  have hl := own_eqint h
  have ha : s.arrayAt? a = some cl := Arr.fin (Vm.Alike.refl _) A
  have q : cl.slots.size < 2 ^ 31 ∧ cl.slots.size.toInt32 = 0 := by
    simp only [Term.eval, ev, Option.bind_eq_bind, Option.bind_some, ha] at hl
    split at hl
    · rename_i hn
      exact ⟨hn, by simpa using hl⟩
    · cases hl
  exact Arv.start hf A q.1 q.2 (by decide) rfl trivial
theorem own_root {Z : State} {a0 : Array Value} {O K : String} {t : ClassId} (w : (Jvm.Cond.noSuperclass O).before a0 Z = true) (g1 : Z.vm.findClass K = some t) (hn : O ≠ K) : NS Z O K := by
  obtain ⟨c, k, h1, h2, h3, -, -⟩ := Cond.noSuperclass_spec w
  have ne := ids_ne h1 g1 hn
  refine ⟨c, t, h1, g1, fun fuel => ?_⟩
  cases fuel with
  | zero => rfl
  | succ f => simp [Vm.isSubclassAux, ne, h2, h3]
theorem own_no {Z : State} {a0 : Array Value} {C S K : String} {n : Nat} (w : (Jvm.Cond.superclass C S).before a0 Z = true) (wi : (Jvm.Cond.instantiable K n).before a0 Z = true) (N : NS Z C K) (hn : C ≠ K) : ∃ c t, Z.vm.findClass C = some c ∧ Z.vm.findClass K = some t ∧ Z.vm.assignable c t = false := by
  obtain ⟨c, t, h0, g0, n3⟩ := N
  obtain ⟨p, k, kp, h1, h2, h3, h4, h5, -, h7⟩ := Cond.superclass_spec h0 w
  obtain ⟨t', k', g1, g2, g3, g4, -⟩ := Cond.instantiable_spec wi
  cases g0.symm.trans g1
  have ne := ids_ne h0 g0 hn
  have g5 : k'.isInterface = false := (Bool.or_eq_false_iff.mp g4).1
  refine ⟨c, t, h0, g0, ?_⟩
  show Z.vm.assignableAux (255 + 1) c t = false
  simp [Vm.assignableAux, ne, h2, g2, h5, g3, g5, Vm.isSubclass, n3]
theorem own_mvM {Z s : State} {a0 args : Array Value} {own host : String} {y : MethodName} {index : Nat} (hZ : Z.Warmed39 s.vm) (w : (Jvm.Cond.methodLinkNest own index y host).before a0 Z = true) : (Jvm.Cond.methodLinkNest own index y host).before args s = true := (Cond.methodLinkNest_wide hZ w :)
theorem own_mir {Z s : State} {args : Array Value} {C : String} {a : Addr} (hZ : Z.Warmed39 s.vm) (M : Mir Z C a) : (Term.mirror C).eval args s none [] s = some (.ref a) := by
  obtain ⟨c, k, m1, m2, m3, -⟩ := M
  obtain ⟨k', q, ek⟩ := hZ.alike.2.2 _ _ m2
  have f1 : s.vm.findClass C = some c := by rw [hZ.alike.findClass]; exact m1
  have f3 : k'.mirror = some a := by rw [ek]; exact m3
  simp [Term.eval, f1, q, f3]
theorem own_notinst {Z : State} {a0 : Array Value} (hw : ∀ d ∈ tables_1, d.before a0 Z = true) {K : String} {n : Nat} (wi : (Jvm.Cond.instantiable K n).before a0 Z = true) (h1 : "java/util/ArrayList" ≠ K) (h2 : "java/util/AbstractList" ≠ K) (h3 : "java/util/AbstractCollection" ≠ K) (h4 : "java/lang/Object" ≠ K) : ∃ c t, Z.vm.findClass "java/util/ArrayList" = some c ∧ Z.vm.findClass K = some t ∧ Z.vm.assignable c t = false := by
  obtain ⟨t, k', g1, -⟩ := Cond.instantiable_spec wi
  exact own_no (hw _ (tm 103 rfl)) wi (NS.step (hw _ (tm 103 rfl)) (NS.step (hw _ (tm 104 rfl)) (NS.step (hw _ (tm 105 rfl)) (own_root (hw _ (tm 106 rfl)) g1 h4) h3) h2) h1) h1
theorem own_and3 (x : Int32) : x &&& 3 = 0 ∨ x &&& 3 = 1 ∨ x &&& 3 = 2 ∨ x &&& 3 = 3 := by
  have h := c_mask x 3 2 (by decide) (by decide)
  simp only [← Int32.toInt_inj]
  have e0 : (0 : Int32).toInt = 0 := rfl
  have e1 : (1 : Int32).toInt = 1 := rfl
  have e2 : (2 : Int32).toInt = 2 := rfl
  have e3 : (3 : Int32).toInt = 3 := rfl
  rw [e0, e1, e2, e3]
  omega
theorem own_cnt (x : Int32) : (1 : Int32) + (x &&& 3) = 1 ∨ (1 : Int32) + (x &&& 3) = 2 ∨ (1 : Int32) + (x &&& 3) = 3 ∨ (1 : Int32) + (x &&& 3) = 4 := by
  rcases own_and3 x with h | h | h | h <;> rw [h] <;> decide
theorem own_md1 (x : Int32) : (x &&& (2147483647 : Int32)) % (1 : Int32) = 0 := by
  have h := c_mask x 2147483647 31 (by decide) (by decide)
  have k := c_irem (x &&& 2147483647) 1 1 rfl
  simp only [← Int32.toInt_inj]
  have e0 : (0 : Int32).toInt = 0 := rfl
  rw [e0]
  omega
theorem own_md2 (x : Int32) : (x &&& (2147483647 : Int32)) % (2 : Int32) = 0 ∨ (x &&& (2147483647 : Int32)) % (2 : Int32) = 1 := by
  have h := c_mask x 2147483647 31 (by decide) (by decide)
  have k := c_irem (x &&& 2147483647) 2 2 rfl
  simp only [← Int32.toInt_inj]
  have e0 : (0 : Int32).toInt = 0 := rfl
  have e1 : (1 : Int32).toInt = 1 := rfl
  rw [e0, e1]
  omega
theorem own_md3 (x : Int32) : (x &&& (2147483647 : Int32)) % (3 : Int32) = 0 ∨ (x &&& (2147483647 : Int32)) % (3 : Int32) = 1 ∨ (x &&& (2147483647 : Int32)) % (3 : Int32) = 2 := by
  have h := c_mask x 2147483647 31 (by decide) (by decide)
  have k := c_irem (x &&& 2147483647) 3 3 rfl
  simp only [← Int32.toInt_inj]
  have e0 : (0 : Int32).toInt = 0 := rfl
  have e1 : (1 : Int32).toInt = 1 := rfl
  have e2 : (2 : Int32).toInt = 2 := rfl
  rw [e0, e1, e2]
  omega
theorem own_md4 (x : Int32) : (x &&& (2147483647 : Int32)) % (4 : Int32) = 0 ∨ (x &&& (2147483647 : Int32)) % (4 : Int32) = 1 ∨ (x &&& (2147483647 : Int32)) % (4 : Int32) = 2 ∨ (x &&& (2147483647 : Int32)) % (4 : Int32) = 3 := by
  have h := c_mask x 2147483647 31 (by decide) (by decide)
  have k := c_irem (x &&& 2147483647) 4 4 rfl
  simp only [← Int32.toInt_inj]
  have e0 : (0 : Int32).toInt = 0 := rfl
  have e1 : (1 : Int32).toInt = 1 := rfl
  have e2 : (2 : Int32).toInt = 2 := rfl
  have e3 : (3 : Int32).toInt = 3 := rfl
  rw [e0, e1, e2, e3]
  omega
theorem d33_0 : decode jdk_43_method_3_code 0 = .ok (.iload_n 0, 1) := by decide +kernel
theorem d33_1 : decode jdk_43_method_3_code 1 = .ok (.sipush 255, 3) := by decide +kernel
theorem d33_4 : decode jdk_43_method_3_code 4 = .ok (.if_icmp .gt 7, 3) := by decide +kernel
theorem d33_7 : decode jdk_43_method_3_code 7 = .ok (.iconst 1, 1) := by decide +kernel
theorem d33_8 : decode jdk_43_method_3_code 8 = .ok (.goto 4, 3) := by decide +kernel
theorem d33_12 : decode jdk_43_method_3_code 12 = .ok (.ireturn, 1) := by decide +kernel
theorem pn_33 : plainName "java/lang/StringLatin1" = true := by first | (simp [plainName, overriddenIn]; done) | decide +kernel
theorem ef_33 (m : MethodId) (x0 : Int32) : entryFrame m #[(.int x0)] 1 = mkF m 0 #[iv x0] [] := by first | (simp [entryFrame, mkF, argsToLocals, Value.category]; done) | rfl
def Q_rm33 (Z : State) (p1 : Int32) (h0 : Heap) (n0 : Nat) : Option Value → Heap → List Loc → Prop := fun v h L => v = some (.int (1 : Int32)) ∧ Fr n0 L ∧ h = h0
set_option maxRecDepth 65536 in
set_option maxHeartbeats 40000000 in
theorem rm33 (l : Launch) (Z : State) (a0 : Array Value) (hw : ∀ d ∈ tables_1, d.before a0 Z = true) (ws : List Jvm.Cond) (p1 : Int32) (h0 : Heap) (n0 : Nat) (Z0 : n0 ≤ h0.size) (hp : ¬ ((255 : Int32) < p1)) :
    MetFree l y0_ (head1 (Jvm.Cond.code y0_ jdk_43_method_3_code 1 (some .boolean) :: ws) R0_) (fun a U => a = #[(.int p1)] ∧ Z.Warmed39 U.vm ∧ U.heap = h0) (fun _ _ _ _ _ => True) (fun _ U o U' => ∃ v L, o = .returned v ∧ (Q_rm33 Z p1 h0 n0) v U'.heap L ∧ FrameEnd U o U' L R0_.cells R0_.slots) := by
  refine MetFree.of_bodySF (plainFor_of_name pn_33) hisR ?_
  intro p e s m args below meth c s₁ Bd hml0 hP hK
  obtain ⟨rfl, hZ, hh⟩ := hP
  have hx := Bd.exec
  have hby := Bd.bytes
  have hml : c.maxLocals = 1 := hml0
  have hown : s.vm.findClass "java/lang/StringLatin1" = some m.cls := findClass_of_methodNamed Bd.named
  have hnm := (name_of_methodNamed Bd.named Bd.method).1
  have X0 : Stand p l e R0_ s m #[(.int p1)] below meth c s₁ [] 0 0 := Stand.of_body Bd
  have e0 : s₁.heap = h0 := by rw [← hh, Bd.state]; rfl
  have N0 := Fr.nil n0
  show own_G FrameEnd p e below s R0_.cells R0_.slots (Q_rm33 Z p1 h0 n0) (s₁.setTop (entryFrame m #[(.int p1)] 1))
  refine own_go (Y' := s₁.setTop (mkF m 0 #[iv p1] [])) ?_ (fun t k => castTop (ef_33 m p1) k)
  refine own_go ?_ (fun _ hr => XS.iloadN X0.here hx rfl (hb hby d33_0) rfl (XS.sipush X0.here hx rfl (hb hby d33_1) (XS.icmpNo X0.here hx rfl (hb hby d33_4) rfl (flt hp).2.2.1 (XS.iconst X0.here hx rfl (hb hby d33_7) (XS.goto X0.here hx rfl (pc0 := 8) (pc' := 12) rfl (hb hby d33_8) (by decide) (by decide) hr)))))
  show own_H (s₁.setTop (mkF m 12 #[iv p1] [(.int (1 : Int32))]))
  obtain ⟨fs, hr, hrun, hended, hW, hsame⟩ := X0.leave (v := some (.int (1 : Int32))) (fun h => by rw [Bd.returns] at h; cases h)
  exact ⟨_, _, retN X0 hx (t := .boolean) Bd.returns (by simp) (hb hby d33_12) hr, hrun, hended, _, _, rfl, ⟨rfl, N0, e0⟩, ⟨_, rfl⟩, hW, hsame.mono (by decide) (by decide)⟩
theorem d34_0 : decode jdk_43_method_46_code 0 = .ok (.iconst 1, 1) := by decide +kernel
theorem d34_1 : decode jdk_43_method_46_code 1 = .ok (.newarray .byte, 2) := by decide +kernel
theorem d34_3 : decode jdk_43_method_46_code 3 = .ok (.dup, 1) := by decide +kernel
theorem d34_4 : decode jdk_43_method_46_code 4 = .ok (.iconst 0, 1) := by decide +kernel
theorem d34_5 : decode jdk_43_method_46_code 5 = .ok (.iload_n 0, 1) := by decide +kernel
theorem d34_6 : decode jdk_43_method_46_code 6 = .ok (.i2b, 1) := by decide +kernel
theorem d34_7 : decode jdk_43_method_46_code 7 = .ok (.bastore, 1) := by decide +kernel
theorem d34_8 : decode jdk_43_method_46_code 8 = .ok (.areturn, 1) := by decide +kernel
theorem pn_34 : plainName "java/lang/StringLatin1" = true := by first | (simp [plainName, overriddenIn]; done) | decide +kernel
theorem ef_34 (m : MethodId) (x0 : Int32) : entryFrame m #[(.int x0)] 1 = mkF m 0 #[iv x0] [] := by first | (simp [entryFrame, mkF, argsToLocals, Value.category]; done) | rfl
def Q_rm34 (Z : State) (p1 : Int32) (h0 : Heap) (n0 : Nat) : Option Value → Heap → List Loc → Prop := fun v h L => ∃ (nb : Addr), v = some (.ref nb) ∧ Fr n0 L ∧ Keep h0 h [] ∧ h0.size ≤ nb
set_option maxRecDepth 65536 in
set_option maxHeartbeats 40000000 in
theorem rm34 (l : Launch) (Z : State) (a0 : Array Value) (hw : ∀ d ∈ tables_1, d.before a0 Z = true) (ws : List Jvm.Cond) (p1 : Int32) (h0 : Heap) (n0 : Nat) (Z0 : n0 ≤ h0.size) :
    MetFree l y1_ (head1 (Jvm.Cond.code y1_ jdk_43_method_46_code 1 (some (.array .byte)) :: ws) R1_) (fun a U => a = #[(.int p1)] ∧ Z.Warmed39 U.vm ∧ U.heap = h0) (fun _ _ _ _ _ => True) (fun _ U o U' => ∃ v L, o = .returned v ∧ (Q_rm34 Z p1 h0 n0) v U'.heap L ∧ FrameEnd U o U' L R1_.cells R1_.slots) := by
  refine MetFree.of_bodySF (plainFor_of_name pn_34) hisR ?_
  intro p e s m args below meth c s₁ Bd hml0 hP hK
  obtain ⟨rfl, hZ, hh⟩ := hP
  have hx := Bd.exec
  have hby := Bd.bytes
  have hml : c.maxLocals = 1 := hml0
  have hown : s.vm.findClass "java/lang/StringLatin1" = some m.cls := findClass_of_methodNamed Bd.named
  have hnm := (name_of_methodNamed Bd.named Bd.method).1
  have X0 : Stand p l e R1_ s m #[(.int p1)] below meth c s₁ [] 0 0 := Stand.of_body Bd
  have e0 : s₁.heap = h0 := by rw [← hh, Bd.state]; rfl
  have N0 := Fr.nil n0
  show own_G FrameEnd p e below s R1_.cells R1_.slots (Q_rm34 Z p1 h0 n0) (s₁.setTop (entryFrame m #[(.int p1)] 1))
  refine own_go (Y' := s₁.setTop (mkF m 0 #[iv p1] [])) ?_ (fun t k => castTop (ef_34 m p1) k)
  refine own_go ?_ (fun _ hr => XS.iconst X0.here hx rfl (hb hby d34_0) hr)
  show own_H (s₁.setTop (mkF m 1 #[iv p1] [(.int (1 : Int32))]))
  obtain ⟨T1, h1, k1, X1, e1, E1, A1, st1⟩ := newP X0 hx hZ (hw _ (tm 19 rfl)) e0 (g := (mkF m 1 #[iv p1] [(.int (1 : Int32))])) rfl (hb hby d34_1) rfl (by decide) (cap := 1) (by decide) (by decide) (by decide) (by decide)
  obtain ⟨b1, g1⟩ : ∃ z, z = h0.size := ⟨_, rfl⟩
  rw [← g1] at A1 st1
  have V1 : Arv Z h1 b1 k1 .byte (1 : Int32) [(.int (0 : Int32))] (.int (0 : Int32)) := (Arv.new A1 (by decide)).pad (pad_rep [] (.int (0 : Int32)) 1)
  have g_b1 : n0 ≤ b1 := ltr Z0 (leq g1.symm)
  have sz_b1 : h0.size ≤ b1 := ltr (Keep.refl h0 []).1 (leq g1.symm)
  refine own_go ?_ (fun _ hr => st1 _ (XS.dup X1.here hx rfl (hb hby d34_3) rfl rfl (XS.iconst X1.here hx rfl (hb hby d34_4) (XS.iloadN X1.here hx rfl (hb hby d34_5) rfl (XS.i2b X1.here hx rfl (hb hby d34_6) rfl hr)))))
  show own_H (T1.setTop (mkF m 7 #[iv p1] [(.int (p1.toInt8.toInt32)), (.int (0 : Int32)), (.ref b1), (.ref b1)]))
  obtain ⟨cl2, Ar2, qk2, S2, M2, H2, G2⟩ := id V1
  have hin2 : ¬ ((0 : Int32) < 0 ∨ cl2.slots.size ≤ ((0 : Int32)).toNatClampNeg) := inb_of S2 ⟨by decide, by decide⟩
  obtain ⟨T2, h2, X2, e2, W2, st2⟩ := stB X1 hx hZ e1 Ar2 (j := (0 : Int32)) hin2 (g := (mkF m 7 #[iv p1] [(.int (p1.toInt8.toInt32)), (.int (0 : Int32)), (.ref b1), (.ref b1)])) rfl rfl (hb hby d34_7)
  have V2 : Arv Z h2 b1 k1 .byte (1 : Int32) [(.int (nar .byte (p1.toInt8.toInt32)))] (.int (0 : Int32)) := Arv.set Ar2 qk2 S2 M2 H2 G2 (fits_nar_byte _) W2 0 rfl (Nat.le_of_ble_eq_true rfl)
  have N2 := Fr.snoc X2 N0 g_b1
  refine own_go ?_ (fun _ hr => st2 _ hr)
  show own_H (T2.setTop (mkF m 8 #[iv p1] [(.ref b1)]))
  obtain ⟨fs, hr, hrun, hended, hW, hsame⟩ := X2.leave (v := some (.ref b1)) (fun h => by rw [Bd.returns] at h; cases h)
  exact ⟨_, _, retOut X2 hx Bd.returns rfl (Or.inr (Or.inr (Or.inr (Or.inr ⟨rfl, rfl, rfl⟩)))) (hb hby d34_8) hr, hrun, hended, _, _, rfl, (by rw [show (T2.setFrames fs).heap = h2 from e2]; exact ⟨b1, rfl, N2, (((Keep.refl h0 []).ext E1).wr W2 (Or.inr sz_b1)), sz_b1⟩), ⟨_, rfl⟩, hW, hsame.mono (by decide) (by decide)⟩
theorem d35_0 : decode jdk_42_method_151_code 0 = .ok (.aload_n 0, 1) := by decide +kernel
theorem d35_1 : decode jdk_42_method_151_code 1 = .ok (.invokespecial 1, 3) := by decide +kernel
theorem d35_4 : decode jdk_42_method_151_code 4 = .ok (.aload_n 0, 1) := by decide +kernel
theorem d35_5 : decode jdk_42_method_151_code 5 = .ok (.aload_n 1, 1) := by decide +kernel
theorem d35_6 : decode jdk_42_method_151_code 6 = .ok (.putfield 9, 3) := by decide +kernel
theorem d35_9 : decode jdk_42_method_151_code 9 = .ok (.aload_n 0, 1) := by decide +kernel
theorem d35_10 : decode jdk_42_method_151_code 10 = .ok (.iload_n 2, 1) := by decide +kernel
theorem d35_11 : decode jdk_42_method_151_code 11 = .ok (.putfield 15, 3) := by decide +kernel
theorem d35_14 : decode jdk_42_method_151_code 14 = .ok (.return_, 1) := by decide +kernel
theorem pn_35 : plainName "java/lang/String" = true := by first | (simp [plainName, overriddenIn]; done) | decide +kernel
theorem ef_35 (m : MethodId) (x0 : Addr) (x1 : Addr) (x2 : Int32) : entryFrame m #[(.ref x0), (.ref x1), (.int x2)] 3 = mkF m 0 #[rv x0, rv x1, iv x2] [] := by first | (simp [entryFrame, mkF, argsToLocals, Value.category]; done) | rfl
def Q_rm35 (Z : State) (a1 : Addr) (a2 : Addr) (p3 : Int32) (u1 : Value) (u2 : Value) (h0 : Heap) (n0 : Nat) : Option Value → Heap → List Loc → Prop := fun v h L => v = none ∧ Fr n0 L ∧ Keep h0 h [a1] ∧ Exa Z h a1 "java/lang/String"
set_option maxRecDepth 65536 in
set_option maxHeartbeats 40000000 in
theorem rm35 (l : Launch) (Z : State) (a0 : Array Value) (hw : ∀ d ∈ tables_1, d.before a0 Z = true) (ws : List Jvm.Cond) (a1 : Addr) (a2 : Addr) (p3 : Int32) (u1 : Value) (u2 : Value) (h0 : Heap) (n0 : Nat) (Z0 : n0 ≤ h0.size) (E_a1 : Exa Z h0 a1 "java/lang/String") (F_a1_value : Fld Z h0 a1 "java/lang/String" "value" "[B" u1) (F_a1_coder : Fld Z h0 a1 "java/lang/String" "coder" "B" u2) (g_a1 : n0 ≤ a1) :
    MetFree l y2_ (head1 (Jvm.Cond.code y2_ jdk_42_method_151_code 3 none :: ws) R2_) (fun a U => a = #[(.ref a1), (.ref a2), (.int p3)] ∧ Z.Warmed39 U.vm ∧ U.heap = h0) (fun _ _ _ _ _ => True) (fun _ U o U' => ∃ v L, o = .returned v ∧ (Q_rm35 Z a1 a2 p3 u1 u2 h0 n0) v U'.heap L ∧ FrameEnd U o U' L R2_.cells R2_.slots) := by
  refine MetFree.of_bodySF (plainFor_of_name pn_35) hisR ?_
  intro p e s m args below meth c s₁ Bd hml0 hP hK
  obtain ⟨rfl, hZ, hh⟩ := hP
  have hx := Bd.exec
  have hby := Bd.bytes
  have hml : c.maxLocals = 3 := hml0
  have hown : s.vm.findClass "java/lang/String" = some m.cls := findClass_of_methodNamed Bd.named
  have hnm := (name_of_methodNamed Bd.named Bd.method).1
  have X0 : Stand p l e R2_ s m #[(.ref a1), (.ref a2), (.int p3)] below meth c s₁ [] 0 0 := Stand.of_body Bd
  have e0 : s₁.heap = h0 := by rw [← hh, Bd.state]; rfl
  have N0 := Fr.nil n0
  show own_G FrameEnd p e below s R2_.cells R2_.slots (Q_rm35 Z a1 a2 p3 u1 u2 h0 n0) (s₁.setTop (entryFrame m #[(.ref a1), (.ref a2), (.int p3)] 3))
  refine own_go (Y' := s₁.setTop (mkF m 0 #[rv a1, rv a2, iv p3] [])) ?_ (fun t k => castTop (ef_35 m a1 a2 p3) k)
  refine own_go ?_ (fun _ hr => XS.aloadN X0.here hx rfl (hb hby d35_0) rfl rfl hr)
  show own_H (s₁.setTop (mkF m 1 #[rv a1, rv a2, iv p3] [(.ref a1)]))
  obtain ⟨T1, X1, e1, st1⟩ := initO X0 hx hZ hown (hw _ (tm 15 rfl)) (hw _ (tm 16 rfl)) (hw _ (tm 17 rfl)) e0 (g := (mkF m 1 #[rv a1, rv a2, iv p3] [(.ref a1)])) rfl (by rw [hml]; rfl) rfl (hb hby d35_1) (by decide) (W := 0) (by show 2 * 0 + _ ≤ _; exact Nat.le_of_eq rfl) (by decide)
  refine own_go ?_ (fun _ hr => st1 _ (XS.aloadN X1.here hx rfl (hb hby d35_4) rfl rfl (XS.aloadN X1.here hx rfl (hb hby d35_5) rfl rfl hr)))
  show own_H (T1.setTop (mkF m 6 #[rv a1, rv a2, iv p3] [(.ref a2), (.ref a1)]))
  obtain ⟨T2, h2, X2, e2, W2, st2⟩ := putF X1 hx hZ hown (host := "") (Or.inl (hw _ (tm 24 rfl))) Via.refl e1 F_a1_value E_a1 (Or.inr ⟨(hw _ (tm 20 rfl)), rfl, hnm⟩) (hw _ (tm 5 rfl)) (ty := (.array .byte)) (by decide) rfl rfl (g := (mkF m 6 #[rv a1, rv a2, iv p3] [(.ref a2), (.ref a1)])) rfl rfl (hb hby d35_6)
  have Fw2 := F_a1_value.same W2
  have N2 := Fr.snoc X2 N0 g_a1
  refine own_go ?_ (fun _ hr => st2 _ (XS.aloadN X2.here hx rfl (hb hby d35_9) rfl rfl (XS.iloadN X2.here hx rfl (hb hby d35_10) rfl hr)))
  show own_H (T2.setTop (mkF m 11 #[rv a1, rv a2, iv p3] [(.int p3), (.ref a1)]))
  obtain ⟨T3, h3, X3, e3, W3, st3⟩ := putFN X2 hx hZ hown (hw _ (tm 25 rfl)) Via.refl e2 (F_a1_coder.other W2 (Or.inr (slot_ne (Or.inr (hw _ (tm 21 rfl))) (Or.inr (hw _ (tm 20 rfl))) (by decide) (t := .byte) (t' := (.array .byte)) (by decide) (by decide)))) (E_a1.wr W2) (Or.inr ⟨(hw _ (tm 21 rfl)), rfl, hnm⟩) (hw _ (tm 5 rfl)) (ty := .byte) (v' := (.int (nar .byte p3))) (by decide) rfl (fits_nar_byte _) (g := (mkF m 11 #[rv a1, rv a2, iv p3] [(.int p3), (.ref a1)])) rfl rfl (hb hby d35_11)
  have Fw3 := (F_a1_coder.other W2 (Or.inr (slot_ne (Or.inr (hw _ (tm 21 rfl))) (Or.inr (hw _ (tm 20 rfl))) (by decide) (t := .byte) (t' := (.array .byte)) (by decide) (by decide)))).same W3
  have N3 := Fr.snoc X3 N2 g_a1
  refine own_go ?_ (fun _ hr => st3 _ hr)
  show own_H (T3.setTop (mkF m 14 #[rv a1, rv a2, iv p3] []))
  obtain ⟨fs, hr, hrun, hended, hW, hsame⟩ := X3.leave (v := none) (fun _ => rfl)
  exact ⟨_, _, X3.returnOut hx Bd.returns (hb hby d35_14) hr, hrun, hended, _, _, rfl, (by rw [show (T3.setFrames fs).heap = h3 from e3]; exact ⟨rfl, N3, (((Keep.refl h0 [a1]).wr W2 (Or.inl (List.mem_of_getElem? (i := 0) rfl))).wr W3 (Or.inl (List.mem_of_getElem? (i := 0) rfl))), ((E_a1.wr W2).wr W3)⟩), ⟨_, rfl⟩, hW, hsame.mono (by decide) (by decide)⟩
theorem d32_0 : decode jdk_42_method_139_code 0 = .ok (.getstatic 38, 3) := by decide +kernel
theorem d32_3 : decode jdk_42_method_139_code 3 = .ok (.ifCond .eq 23, 3) := by decide +kernel
theorem d32_6 : decode jdk_42_method_139_code 6 = .ok (.iload_n 0, 1) := by decide +kernel
theorem d32_7 : decode jdk_42_method_139_code 7 = .ok (.invokestatic 1015, 3) := by decide +kernel
theorem d32_10 : decode jdk_42_method_139_code 10 = .ok (.ifCond .eq 16, 3) := by decide +kernel
theorem d32_13 : decode jdk_42_method_139_code 13 = .ok (.new 10, 3) := by decide +kernel
theorem d32_16 : decode jdk_42_method_139_code 16 = .ok (.dup, 1) := by decide +kernel
theorem d32_17 : decode jdk_42_method_139_code 17 = .ok (.iload_n 0, 1) := by decide +kernel
theorem d32_18 : decode jdk_42_method_139_code 18 = .ok (.invokestatic 1018, 3) := by decide +kernel
theorem d32_21 : decode jdk_42_method_139_code 21 = .ok (.iconst 0, 1) := by decide +kernel
theorem d32_22 : decode jdk_42_method_139_code 22 = .ok (.invokespecial 209, 3) := by decide +kernel
theorem d32_25 : decode jdk_42_method_139_code 25 = .ok (.areturn, 1) := by decide +kernel
theorem pn_32 : plainName "java/lang/String" = true := by first | (simp [plainName, overriddenIn]; done) | decide +kernel
theorem pd__C_Z : parseMethodDescriptor "(C)Z" = some ⟨[.char], some .boolean⟩ := by decide +kernel
theorem pd__C__B : parseMethodDescriptor "(C)[B" = some ⟨[.char], some (.array .byte)⟩ := by decide +kernel
theorem pd___BB_V : parseMethodDescriptor "([BB)V" = some ⟨[(.array .byte), .byte], none⟩ := by decide +kernel
theorem ef_32 (m : MethodId) (x0 : Int32) : entryFrame m #[(.int x0)] 1 = mkF m 0 #[iv x0] [] := by first | (simp [entryFrame, mkF, argsToLocals, Value.category]; done) | rfl
def Q_rm32 (Z : State) (p1 : Int32) (zc : Int32) (h0 : Heap) (n0 : Nat) : Option Value → Heap → List Loc → Prop := fun v h L => ∃ (ns : Addr), v = some (.ref ns) ∧ Fr n0 L ∧ Keep h0 h [] ∧ h0.size ≤ ns ∧ Exa Z h ns "java/lang/String"
set_option maxRecDepth 65536 in
set_option maxHeartbeats 40000000 in
theorem rm32 (l : Launch) (Z : State) (a0 : Array Value) (hw : ∀ d ∈ tables_1, d.before a0 Z = true) (ws : List Jvm.Cond) (p1 : Int32) (zc : Int32) (h0 : Heap) (n0 : Nat) (Z0 : n0 ≤ h0.size) (hold : Old Z n0 h0) (S_COMPACT_STRINGS : Sta Z Z.heap "java/lang/String" "COMPACT_STRINGS" "Z" (.int zc)) (hz : ¬ (zc = (0 : Int32))) (hp : ¬ ((255 : Int32) < p1)) :
    MetFree l y3_ (head1 (Jvm.Cond.code y3_ jdk_42_method_139_code 1 (some (.object "java/lang/String")) :: ws) R3_) (fun a U => a = #[(.int p1)] ∧ Z.Warmed39 U.vm ∧ U.heap = h0) (fun _ _ _ _ _ => True) (fun _ U o U' => ∃ v L, o = .returned v ∧ (Q_rm32 Z p1 zc h0 n0) v U'.heap L ∧ FrameEnd U o U' L R3_.cells R3_.slots) := by
  refine MetFree.of_bodySF (plainFor_of_name pn_32) hisR ?_
  intro p e s m args below meth c s₁ Bd hml0 hP hK
  obtain ⟨rfl, hZ, hh⟩ := hP
  have hx := Bd.exec
  have hby := Bd.bytes
  have hml : c.maxLocals = 1 := hml0
  have hown : s.vm.findClass "java/lang/String" = some m.cls := findClass_of_methodNamed Bd.named
  have hnm := (name_of_methodNamed Bd.named Bd.method).1
  have X0 : Stand p l e R3_ s m #[(.int p1)] below meth c s₁ [] 0 0 := Stand.of_body Bd
  have e0 : s₁.heap = h0 := by rw [← hh, Bd.state]; rfl
  have N0 := Fr.nil n0
  show own_G FrameEnd p e below s R3_.cells R3_.slots (Q_rm32 Z p1 zc h0 n0) (s₁.setTop (entryFrame m #[(.int p1)] 1))
  refine own_go (Y' := s₁.setTop (mkF m 0 #[iv p1] [])) ?_ (fun t k => castTop (ef_32 m p1) k)
  obtain ⟨T1, X1, e1, st1⟩ := getS2 X0 hx hZ hown (host := "") (Or.inl (hw _ (tm 230 rfl))) Via.refl e0 (S_COMPACT_STRINGS.ext hold.2) (g := (mkF m 0 #[iv p1] [])) rfl (hb hby d32_0)
  refine own_go ?_ (fun _ hr => st1 _ (XS.ifNo X1.here hx rfl (hb hby d32_3) rfl ((if0 _ _).trans (feq hz).1) (XS.iloadN X1.here hx rfl (hb hby d32_6) rfl hr)))
  show own_H (T1.setTop (mkF m 7 #[iv p1] [(.int p1)]))
  obtain ⟨_, _, ⟨T2, L2, k2, n2⟩, -, X2, ⟨Lc2, hQ2, l2, y2, z2⟩, st2⟩ := Jvm.LawKit.callS X1 hx (y := y0_) hown (mvT hZ (hw _ (tm 231 rfl))) (mvT hZ (hw _ (tm 232 rfl))) (mvT hZ (hw _ (tm 233 rfl))) (mvT hZ (hw _ (tm 234 rfl))) (by decide) (backOf (W := 0) (rm33 l Z a0 hw [] p1 h0 n0 Z0 hp) hZ (hw _ (tm 234 rfl)) (hw _ (tm 233 rfl)) (by decide) (by decide)) (g := (mkF m 7 #[iv p1] [(.int p1)])) rfl (by rw [hml]; rfl) (argsL := [(.int p1)]) (rest := []) (lenOf pd__C_Z rfl) rfl (by show 2 * 0 + _ ≤ _; exact Nat.le_of_eq rfl) (hb hby d32_7) (fun _ _ => ⟨rfl, e1, (by decide : 0 + 0 ≤ _), (by decide : 0 + 0 ≤ _)⟩)
  dsimp only [Pt.U, Pt.locs, Pt.cells, Pt.slots] at X2 l2 y2 z2 st2 hQ2
  subst l2 y2 z2
  obtain ⟨rfl, N2q, e2⟩ := hQ2
  have N2 := Fr.app N0 N2q
  refine own_go ?_ (fun _ hr => st2 _ (XS.ifNo X2.here hx rfl (hb hby d32_10) rfl ((if0 _ _).trans (feq (by decide : ¬ ((1 : Int32) = (0 : Int32)))).1) hr))
  show own_H (T2.setTop (mkF m 13 #[iv p1] []))
  obtain ⟨T3, h3, X3, e3, E3, A3, D3, -, st3⟩ := newO X2 hx hZ hown (hw _ (tm 235 rfl)) (hw _ (tm 5 rfl)) (hw _ (tm 6 rfl)) e2 (g := (mkF m 13 #[iv p1] [])) rfl (hb hby d32_13) (by decide) (by decide)
  obtain ⟨b3, g3⟩ : ∃ z, z = h0.size := ⟨_, rfl⟩
  rw [← g3] at A3 D3 st3
  have g_b3 : n0 ≤ b3 := ltr Z0 (leq g3.symm)
  have sz_b3 : h0.size ≤ b3 := ltr (Keep.refl h0 []).1 (leq g3.symm)
  have F3_20 : Fld Z h3 b3 "java/lang/String" "value" "[B" .null := D3 (Or.inr (hw _ (tm 20 rfl))) (ty := (.array .byte)) (by decide)
  have F3_21 : Fld Z h3 b3 "java/lang/String" "coder" "B" (.int (0 : Int32)) := D3 (Or.inr (hw _ (tm 21 rfl))) (ty := .byte) (by decide)
  refine own_go ?_ (fun _ hr => st3 _ (XS.dup X3.here hx rfl (hb hby d32_16) rfl rfl (XS.iloadN X3.here hx rfl (hb hby d32_17) rfl hr)))
  show own_H (T3.setTop (mkF m 18 #[iv p1] [(.int p1), (.ref b3), (.ref b3)]))
  obtain ⟨_, _, ⟨T4, L4, k4, n4⟩, -, X4, ⟨Lc4, hQ4, l4, y4, z4⟩, st4⟩ := Jvm.LawKit.callS X3 hx (y := y1_) hown (mvT hZ (hw _ (tm 236 rfl))) (mvT hZ (hw _ (tm 237 rfl))) (mvT hZ (hw _ (tm 233 rfl))) (mvT hZ (hw _ (tm 238 rfl))) (by decide) (backOf (W := 2) (rm34 l Z a0 hw [] p1 h3 n0 (ltr Z0 E3.1) ) hZ (hw _ (tm 238 rfl)) (hw _ (tm 233 rfl)) (by decide) (by decide)) (g := (mkF m 18 #[iv p1] [(.int p1), (.ref b3), (.ref b3)])) rfl (by rw [hml]; rfl) (argsL := [(.int p1)]) (rest := [(.ref b3), (.ref b3)]) (lenOf pd__C__B rfl) rfl (by show 2 * 0 + _ ≤ _; exact Nat.le_of_eq rfl) (hb hby d32_18) (fun _ _ => ⟨rfl, e3, (by decide : 1 + 1 ≤ _), (by decide : 4 + 1 ≤ _)⟩)
  dsimp only [Pt.U, Pt.locs, Pt.cells, Pt.slots] at X4 l4 y4 z4 st4 hQ4
  subst l4 y4 z4
  obtain ⟨b4_0, rfl, N4q, K4, yb4_0⟩ := hQ4
  have g_b4_0 : n0 ≤ b4_0 := ltr (ltr Z0 E3.1) yb4_0
  have sz_b4_0 : h0.size ≤ b4_0 := ltr ((Keep.refl h0 []).ext E3).1 yb4_0
  have N4 := Fr.app N2 N4q
  refine own_go ?_ (fun _ hr => st4 _ (XS.iconst X4.here hx rfl (hb hby d32_21) hr))
  show own_H (T4.setTop (mkF m 22 #[iv p1] [(.int (0 : Int32)), (.ref b4_0), (.ref b3), (.ref b3)]))
  obtain ⟨_, _, ⟨T5, L5, k5, n5⟩, -, X5, ⟨Lc5, hQ5, l5, y5, z5⟩, st5⟩ := X4.specialBack hx (y := y2_) rfl hown (mvT hZ (hw _ (tm 239 rfl))) (mvT hZ (hw _ (tm 240 rfl))) (mvT hZ (hw _ (tm 241 rfl))) (by decide) (backOf (W := 1) (rm35 l Z a0 hw [] b3 b4_0 (0 : Int32) (.null) (.int (0 : Int32)) T4.heap n0 (ltr (ltr Z0 E3.1) K4.1) (A3.keep K4) (F3_20.keep K4 nin0) (F3_21.keep K4 nin0) g_b3) hZ (hw _ (tm 241 rfl)) (hw _ (tm 6 rfl)) (by decide) (by decide)) (g := (mkF m 22 #[iv p1] [(.int (0 : Int32)), (.ref b4_0), (.ref b3), (.ref b3)])) rfl (by rw [hml]; rfl) (Steps.refl _) (a := b3) (argsL := [(.ref b4_0), (.int (0 : Int32))]) (rest := [(.ref b3)]) (lenOf pd___BB_V rfl) rfl (by show 2 * 0 + _ ≤ _; exact Nat.le_of_eq rfl) (hb hby d32_22) (fun _ _ => ⟨rfl, rfl, (by decide : 2 + 0 ≤ _), (by decide : 5 + 0 ≤ _)⟩)
  dsimp only [Pt.U, Pt.locs, Pt.cells, Pt.slots] at X5 l5 y5 z5 st5 hQ5
  subst l5 y5 z5
  obtain ⟨rfl, N5q, K5, P5_0⟩ := hQ5
  have N5 := Fr.app N4 N5q
  refine own_go ?_ (fun _ hr => st5.trans hr)
  show own_H (T5.setTop (mkF m 25 #[iv p1] [(.ref b3)]))
  obtain ⟨fs, hr, hrun, hended, hW, hsame⟩ := X5.leave (v := some (.ref b3)) (fun h => by rw [Bd.returns] at h; cases h)
  exact ⟨_, _, retOut X5 hx Bd.returns rfl (Or.inr (Or.inr (Or.inr (Or.inr ⟨rfl, rfl, rfl⟩)))) (hb hby d32_25) hr, hrun, hended, _, _, rfl, ⟨b3, rfl, N5, ((((Keep.refl h0 []).ext E3).trans K4 all0).trans K5 (allS (Or.inr sz_b3) all0)), sz_b3, P5_0⟩, ⟨_, rfl⟩, hW, hsame.mono (by decide) (by decide)⟩
theorem d3_0 : decode jdk_42_method_149_code 0 = .ok (.aload_n 0, 1) := by decide +kernel
theorem d3_1 : decode jdk_42_method_149_code 1 = .ok (.invokespecial 1, 3) := by decide +kernel
theorem d3_4 : decode jdk_42_method_149_code 4 = .ok (.iload_n 3, 1) := by decide +kernel
theorem d3_5 : decode jdk_42_method_149_code 5 = .ok (.ifCond .ne 22, 3) := by decide +kernel
theorem d3_8 : decode jdk_42_method_149_code 8 = .ok (.aload_n 0, 1) := by decide +kernel
theorem d3_9 : decode jdk_42_method_149_code 9 = .ok (.ldc 7, 2) := by decide +kernel
theorem d3_11 : decode jdk_42_method_149_code 11 = .ok (.getfield 9, 3) := by decide +kernel
theorem d3_14 : decode jdk_42_method_149_code 14 = .ok (.putfield 9, 3) := by decide +kernel
theorem d3_17 : decode jdk_42_method_149_code 17 = .ok (.aload_n 0, 1) := by decide +kernel
theorem d3_18 : decode jdk_42_method_149_code 18 = .ok (.ldc 7, 2) := by decide +kernel
theorem d3_20 : decode jdk_42_method_149_code 20 = .ok (.getfield 15, 3) := by decide +kernel
theorem d3_23 : decode jdk_42_method_149_code 23 = .ok (.putfield 15, 3) := by decide +kernel
theorem d3_26 : decode jdk_42_method_149_code 26 = .ok (.return_, 1) := by decide +kernel
theorem pn_3 : plainName "java/lang/String" = true := by first | (simp [plainName, overriddenIn]; done) | decide +kernel
theorem ef_3 (m : MethodId) (x0 : Addr) (x1 : Addr) (x2 : Int32) (x3 : Int32) : entryFrame m #[(.ref x0), (.ref x1), (.int x2), (.int x3), .null] 6 = mkF m 0 #[rv x0, rv x1, iv x2, iv x3, .val .null, .unset] [] := by first | (simp [entryFrame, mkF, argsToLocals, Value.category]; done) | rfl
def Q_rm_sinit2 (Z : State) (a1 : Addr) (a2 : Addr) (u2 : Value) (h0 : Heap) (n0 : Nat) : Option Value → Heap → List Loc → Prop := fun v h L => ∃ (t : Addr) (kt : ClassId), v = none ∧ Fr n0 L ∧ Keep h0 h [a1] ∧ Exa Z h a1 "java/lang/String" ∧ Fld Z h a1 "java/lang/String" "value" "[B" (.ref t) ∧ Fld Z h a1 "java/lang/String" "coder" "B" (.int (0 : Int32)) ∧ Arv Z h t kt .byte (0 : Int32) [] (.int (0 : Int32))
set_option maxRecDepth 65536 in
set_option maxHeartbeats 40000000 in
theorem rm_sinit2 (l : Launch) (Z : State) (a0 : Array Value) (hw : ∀ d ∈ tables_1, d.before a0 Z = true) (ws : List Jvm.Cond) (a1 : Addr) (a2 : Addr) (u2 : Value) (h0 : Heap) (n0 : Nat) (Z0 : n0 ≤ h0.size) (E_a1 : Exa Z h0 a1 "java/lang/String") (F_a1_value : Fld Z h0 a1 "java/lang/String" "value" "[B" .null) (F_a1_coder : Fld Z h0 a1 "java/lang/String" "coder" "B" u2) (g_a1 : n0 ≤ a1) :
    MetFree l y4_ (head1 (Jvm.Cond.code y4_ jdk_42_method_149_code 6 none :: ws) R4_) (fun a U => a = #[(.ref a1), (.ref a2), (.int (0 : Int32)), (.int (0 : Int32)), .null] ∧ Z.Warmed39 U.vm ∧ U.heap = h0 ∧ CHv Z consts_1 U.vm h0) (fun _ _ _ _ _ => True) (fun _ U o U' => ∃ v L, o = .returned v ∧ (Q_rm_sinit2 Z a1 a2 u2 h0 n0) v U'.heap L ∧ own_FE Z U o U' L R4_.cells R4_.slots) := by
  refine MetFree.of_bodySF (plainFor_of_name pn_3) hisR ?_
  intro p e s m args below meth c s₁ Bd hml0 hP hK
  obtain ⟨rfl, hZ, hh, hCH⟩ := hP
  have hx := Bd.exec
  have hby := Bd.bytes
  have hml : c.maxLocals = 6 := hml0
  have hown : s.vm.findClass "java/lang/String" = some m.cls := findClass_of_methodNamed Bd.named
  have hnm := (name_of_methodNamed Bd.named Bd.method).1
  have X0 : Stand p l e R4_ s m #[(.ref a1), (.ref a2), (.int (0 : Int32)), (.int (0 : Int32)), .null] below meth c s₁ [] 0 0 := Stand.of_body Bd
  have e0 : s₁.heap = h0 := by rw [← hh, Bd.state]; rfl
  have N0 := Fr.nil n0
  show own_G (own_FE Z) p e below s R4_.cells R4_.slots (Q_rm_sinit2 Z a1 a2 u2 h0 n0) (s₁.setTop (entryFrame m #[(.ref a1), (.ref a2), (.int (0 : Int32)), (.int (0 : Int32)), .null] 6))
  refine own_go (Y' := s₁.setTop (mkF m 0 #[rv a1, rv a2, iv (0 : Int32), iv (0 : Int32), .val .null, .unset] [])) ?_ (fun t k => castTop (ef_3 m a1 a2 (0 : Int32) (0 : Int32)) k)
  have hC0 := CHr.refl hCH
  have hEL := own_EW Z a0 hw
  have wS : ∀ a ∈ Bundle.stringAtoms, a.before a0 Z = true := fun d hd => hw d ((by decide +kernel : ∀ d ∈ Bundle.stringAtoms, d ∈ tables_1) d hd)
  have Sf_a1 : Safe Z consts_1 s.vm h0 a1 := own_safe_null hZ.alike E_a1 F_a1_value
  refine own_go ?_ (fun _ hr => XS.aloadN X0.here hx rfl (hb hby d3_0) rfl rfl hr)
  show own_H (s₁.setTop (mkF m 1 #[rv a1, rv a2, iv (0 : Int32), iv (0 : Int32), .val .null, .unset] [(.ref a1)]))
  obtain ⟨T1, X1, e1, st1⟩ := initO X0 hx hZ hown (hw _ (tm 15 rfl)) (hw _ (tm 16 rfl)) (hw _ (tm 17 rfl)) e0 (g := (mkF m 1 #[rv a1, rv a2, iv (0 : Int32), iv (0 : Int32), .val .null, .unset] [(.ref a1)])) rfl (by rw [hml]; rfl) rfl (hb hby d3_1) (by decide) (W := 0) (by show 2 * 0 + _ ≤ _; exact Nat.le_of_eq rfl) (by decide)
  refine own_go ?_ (fun _ hr => st1 _ (XS.iloadN X1.here hx rfl (hb hby d3_4) rfl (XS.ifNo X1.here hx rfl (hb hby d3_5) rfl ((if0 _ _).trans (teq (by decide : (0 : Int32) = (0 : Int32))).2) (XS.aloadN X1.here hx rfl (hb hby d3_8) rfl rfl hr))))
  show own_H (T1.setTop (mkF m 9 #[rv a1, rv a2, iv (0 : Int32), iv (0 : Int32), .val .null, .unset] [(.ref a1)]))
  obtain ⟨c2, T2, h2, k2, d2, kd2, X2, e2, E2, hS2, hk2, hZ, hown, P2_0, P2_1, P2_2, P2_3, lc2, ld2, H2c, L2, hne2, st2⟩ := ldcCH (s := s) (vm0 := s.vm) X1 hx hZ hown (hw _ (tm 18 rfl)) wS e1 (State.WarmedH.since (State.WarmedH.refl s) 0) (Nat.zero_le _) hEL (List.mem_of_getElem? (i := 4) rfl) hC0.1 (vs := []) (z := (0 : Int32)) ⟨by decide, rfl⟩ (by decide) rfl (g := (mkF m 9 #[rv a1, rv a2, iv (0 : Int32), iv (0 : Int32), .val .null, .unset] [(.ref a1)])) rfl (hb hby d3_9) (n := 0) (by decide) (by decide) (by decide) (by decide)
  have C3 := hC0.trans H2c
  have S3_a1 := H2c.safe E_a1.lt Sf_a1
  refine own_go ?_ (fun _ hr => st2 _ hr)
  show own_H (T2.setTop (mkF m 11 #[rv a1, rv a2, iv (0 : Int32), iv (0 : Int32), .val .null, .unset] [(.ref c2), (.ref a1)]))
  obtain ⟨T4, X4, e4, st4⟩ := getF X2 hx hZ hown (host := "") (Or.inl (hw _ (tm 24 rfl))) Via.refl e2 P2_2 (g := (mkF m 11 #[rv a1, rv a2, iv (0 : Int32), iv (0 : Int32), .val .null, .unset] [(.ref c2), (.ref a1)])) rfl rfl (hb hby d3_11)
  refine own_go ?_ (fun _ hr => st4 _ hr)
  show own_H (T4.setTop (mkF m 14 #[rv a1, rv a2, iv (0 : Int32), iv (0 : Int32), .val .null, .unset] [(.ref d2), (.ref a1)]))
  obtain ⟨T5, h5, X5, e5, W5, st5⟩ := putF X4 hx hZ hown (host := "") (Or.inl (hw _ (tm 24 rfl))) Via.refl e4 (F_a1_value.ext E2) (E_a1.ext E2) (Or.inr ⟨(hw _ (tm 20 rfl)), rfl, hnm⟩) (hw _ (tm 5 rfl)) (ty := (.array .byte)) (by decide) rfl rfl (g := (mkF m 14 #[rv a1, rv a2, iv (0 : Int32), iv (0 : Int32), .val .null, .unset] [(.ref d2), (.ref a1)])) rfl rfl (hb hby d3_14)
  have Fw5 := (F_a1_value.ext E2).same W5
  have N5 := Fr.snoc X5 N0 g_a1
  have C6 := C3.trans (CHr.wr W5 S3_a1 C3.1)
  have S6_a1 := Safe.wr W5 S3_a1 C3.1 S3_a1
  refine own_go ?_ (fun _ hr => st5 _ (XS.aloadN X5.here hx rfl (hb hby d3_17) rfl rfl hr))
  show own_H (T5.setTop (mkF m 18 #[rv a1, rv a2, iv (0 : Int32), iv (0 : Int32), .val .null, .unset] [(.ref a1)]))
  obtain ⟨c7, T7, h7, k7, d7, kd7, X7, e7, E7, hS7, hk7, hZ, hown, P7_0, P7_1, P7_2, P7_3, lc7, ld7, H7c, L7, hne7, st7⟩ := ldcCH (s := s) (vm0 := T2.vm) X5 hx hZ hown (hw _ (tm 18 rfl)) wS e5 hS2 (ltr hk2 (Keep.of_wr W5).1) hEL (List.mem_of_getElem? (i := 4) rfl) C6.1 (vs := []) (z := (0 : Int32)) ⟨by decide, rfl⟩ (by decide) rfl (g := (mkF m 18 #[rv a1, rv a2, iv (0 : Int32), iv (0 : Int32), .val .null, .unset] [(.ref a1)])) rfl (hb hby d3_18) (n := 0) (by decide) (by decide) (by decide) (by decide)
  have C8 := C6.trans H7c
  have S8_a1 := H7c.safe ((E_a1.ext E2).wr W5).lt S6_a1
  refine own_go ?_ (fun _ hr => st7 _ hr)
  show own_H (T7.setTop (mkF m 20 #[rv a1, rv a2, iv (0 : Int32), iv (0 : Int32), .val .null, .unset] [(.ref c7), (.ref a1)]))
  obtain ⟨T9, X9, e9, st9⟩ := getF X7 hx hZ hown (host := "") (Or.inl (hw _ (tm 25 rfl))) Via.refl e7 P7_1 (g := (mkF m 20 #[rv a1, rv a2, iv (0 : Int32), iv (0 : Int32), .val .null, .unset] [(.ref c7), (.ref a1)])) rfl rfl (hb hby d3_20)
  refine own_go ?_ (fun _ hr => st9 _ hr)
  show own_H (T9.setTop (mkF m 23 #[rv a1, rv a2, iv (0 : Int32), iv (0 : Int32), .val .null, .unset] [(.int (0 : Int32)), (.ref a1)]))
  obtain ⟨T10, h10, X10, e10, W10, st10⟩ := putFN X9 hx hZ hown (hw _ (tm 25 rfl)) Via.refl e9 (((F_a1_coder.ext E2).other W5 (Or.inr (slot_ne (Or.inr (hw _ (tm 21 rfl))) (Or.inr (hw _ (tm 20 rfl))) (by decide) (t := .byte) (t' := (.array .byte)) (by decide) (by decide)))).ext E7) (((E_a1.ext E2).wr W5).ext E7) (Or.inr ⟨(hw _ (tm 21 rfl)), rfl, hnm⟩) (hw _ (tm 5 rfl)) (ty := .byte) (v' := (.int (nar .byte (0 : Int32)))) (by decide) rfl (fits_nar_byte _) (g := (mkF m 23 #[rv a1, rv a2, iv (0 : Int32), iv (0 : Int32), .val .null, .unset] [(.int (0 : Int32)), (.ref a1)])) rfl rfl (hb hby d3_23)
  have Fw10 := (((F_a1_coder.ext E2).other W5 (Or.inr (slot_ne (Or.inr (hw _ (tm 21 rfl))) (Or.inr (hw _ (tm 20 rfl))) (by decide) (t := .byte) (t' := (.array .byte)) (by decide) (by decide)))).ext E7).same W10
  have N10 := Fr.snoc X10 N5 g_a1
  have C11 := C8.trans (CHr.wr W10 S8_a1 C8.1)
  have S11_a1 := Safe.wr W10 S8_a1 C8.1 S8_a1
  refine own_go ?_ (fun _ hr => st10 _ hr)
  show own_H (T10.setTop (mkF m 26 #[rv a1, rv a2, iv (0 : Int32), iv (0 : Int32), .val .null, .unset] []))
  obtain ⟨fs, hr, hrun, hended, hRW⟩ := Stand.leaveW (s := s) (vm₁ := T7.vm) X10 hS7 (by rw [e10]; exact (ltr hk7 (Keep.of_wr W10).1)) (v := none) (fun _ => rfl)
  have hCe := C11.trans (CHv.at (s := s) (vm0 := T7.vm) X10 hZ hEL C11.1)
  exact ⟨_, _, X10.returnOut hx Bd.returns (hb hby d3_26) hr, hrun, hended, _, _, rfl, (by rw [show (T10.setFrames fs).heap = h10 from e10]; exact ⟨d2, kd2, rfl, N10, (((((Keep.refl h0 [a1]).ext E2).wr W5 (Or.inl (List.mem_of_getElem? (i := 0) rfl))).ext E7).wr W10 (Or.inl (List.mem_of_getElem? (i := 0) rfl))), ((((E_a1.ext E2).wr W5).ext E7).wr W10), ((Fw5.ext E7).other W10 (Or.inr (slot_ne (Or.inr (hw _ (tm 20 rfl))) (Or.inr (hw _ (tm 21 rfl))) (by decide) (t := (.array .byte)) (t' := .byte) (by decide) (by decide)))), Fw10, (((P2_3.other W5 (Ne.symm (hne2 a1 S3_a1).2)).ext E7).other W10 (Ne.symm (hne2 a1 S3_a1).2))⟩), (by rw [hh, show (T10.setFrames fs).heap = h10 from e10]; exact hCe), hRW.1, hRW.2.1, hRW.2.2.1, hRW.2.2.2.mono (by decide) (by decide)⟩
theorem d2_0 : decode jdk_42_method_3_code 0 = .ok (.aload_n 0, 1) := by decide +kernel
theorem d2_1 : decode jdk_42_method_3_code 1 = .ok (.aload_n 1, 1) := by decide +kernel
theorem d2_2 : decode jdk_42_method_3_code 2 = .ok (.iconst 0, 1) := by decide +kernel
theorem d2_3 : decode jdk_42_method_3_code 3 = .ok (.aload_n 1, 1) := by decide +kernel
theorem d2_4 : decode jdk_42_method_3_code 4 = .ok (.arraylength, 1) := by decide +kernel
theorem d2_5 : decode jdk_42_method_3_code 5 = .ok (.aconst_null, 1) := by decide +kernel
theorem d2_6 : decode jdk_42_method_3_code 6 = .ok (.invokespecial 27, 3) := by decide +kernel
theorem d2_9 : decode jdk_42_method_3_code 9 = .ok (.return_, 1) := by decide +kernel
theorem pn_2 : plainName "java/lang/String" = true := by first | (simp [plainName, overriddenIn]; done) | decide +kernel
theorem pd___CIILjava_lang_Void__V : parseMethodDescriptor "([CIILjava/lang/Void;)V" = some ⟨[(.array .char), .int, .int, (.object "java/lang/Void")], none⟩ := by decide +kernel
theorem ef_2 (m : MethodId) (x0 : Addr) (x1 : Addr) : entryFrame m #[(.ref x0), (.ref x1)] 2 = mkF m 0 #[rv x0, rv x1] [] := by first | (simp [entryFrame, mkF, argsToLocals, Value.category]; done) | rfl
def Q_rm_sinit1 (Z : State) (a1 : Addr) (a2 : Addr) (u2 : Value) (kc : ClassId) (h0 : Heap) (n0 : Nat) : Option Value → Heap → List Loc → Prop := fun v h L => ∃ (t : Addr) (kt : ClassId), v = none ∧ Fr n0 L ∧ Keep h0 h [a1] ∧ Exa Z h a1 "java/lang/String" ∧ Fld Z h a1 "java/lang/String" "value" "[B" (.ref t) ∧ Fld Z h a1 "java/lang/String" "coder" "B" (.int (0 : Int32)) ∧ Arv Z h t kt .byte (0 : Int32) [] (.int (0 : Int32))
set_option maxRecDepth 65536 in
set_option maxHeartbeats 40000000 in
theorem rm_sinit1 (l : Launch) (Z : State) (a0 : Array Value) (hw : ∀ d ∈ tables_1, d.before a0 Z = true) (ws : List Jvm.Cond) (a1 : Addr) (a2 : Addr) (u2 : Value) (kc : ClassId) (h0 : Heap) (n0 : Nat) (Z0 : n0 ≤ h0.size) (E_a1 : Exa Z h0 a1 "java/lang/String") (F_a1_value : Fld Z h0 a1 "java/lang/String" "value" "[B" .null) (F_a1_coder : Fld Z h0 a1 "java/lang/String" "coder" "B" u2) (g_a1 : n0 ≤ a1) (V_a2 : Arv Z h0 a2 kc .char (0 : Int32) [] (.int (0 : Int32))) :
    MetFree l y5_ (head1 (Jvm.Cond.code y5_ jdk_42_method_3_code 2 none :: ws) R5_) (fun a U => a = #[(.ref a1), (.ref a2)] ∧ Z.Warmed39 U.vm ∧ U.heap = h0 ∧ CHv Z consts_1 U.vm h0) (fun _ _ _ _ _ => True) (fun _ U o U' => ∃ v L, o = .returned v ∧ (Q_rm_sinit1 Z a1 a2 u2 kc h0 n0) v U'.heap L ∧ own_FE Z U o U' L R5_.cells R5_.slots) := by
  refine MetFree.of_bodySF (plainFor_of_name pn_2) hisR ?_
  intro p e s m args below meth c s₁ Bd hml0 hP hK
  obtain ⟨rfl, hZ, hh, hCH⟩ := hP
  have hx := Bd.exec
  have hby := Bd.bytes
  have hml : c.maxLocals = 2 := hml0
  have hown : s.vm.findClass "java/lang/String" = some m.cls := findClass_of_methodNamed Bd.named
  have hnm := (name_of_methodNamed Bd.named Bd.method).1
  have X0 : Stand p l e R5_ s m #[(.ref a1), (.ref a2)] below meth c s₁ [] 0 0 := Stand.of_body Bd
  have e0 : s₁.heap = h0 := by rw [← hh, Bd.state]; rfl
  have N0 := Fr.nil n0
  show own_G (own_FE Z) p e below s R5_.cells R5_.slots (Q_rm_sinit1 Z a1 a2 u2 kc h0 n0) (s₁.setTop (entryFrame m #[(.ref a1), (.ref a2)] 2))
  refine own_go (Y' := s₁.setTop (mkF m 0 #[rv a1, rv a2] [])) ?_ (fun t k => castTop (ef_2 m a1 a2) k)
  have hC0 := CHr.refl hCH
  have hEL := own_EW Z a0 hw
  have wS : ∀ a ∈ Bundle.stringAtoms, a.before a0 Z = true := fun d hd => hw d ((by decide +kernel : ∀ d ∈ Bundle.stringAtoms, d ∈ tables_1) d hd)
  refine own_go ?_ (fun _ hr => XS.aloadN X0.here hx rfl (hb hby d2_0) rfl rfl (XS.aloadN X0.here hx rfl (hb hby d2_1) rfl rfl (XS.iconst X0.here hx rfl (hb hby d2_2) (XS.aloadN X0.here hx rfl (hb hby d2_3) rfl rfl hr))))
  show own_H (s₁.setTop (mkF m 4 #[rv a1, rv a2] [(.ref a2), (.int (0 : Int32)), (.ref a2), (.ref a1)]))
  obtain ⟨cl1, Ar1, -, S1, M1, -, -⟩ := id V_a2
  refine own_go ?_ (fun _ hr => X0.arraylength hx (by rw [e0]; exact Ar1.1) (State.isArrayOf_alike hZ.alike Ar1.2.1) (g := (mkF m 4 #[rv a1, rv a2] [(.ref a2), (.int (0 : Int32)), (.ref a2), (.ref a1)])) rfl rfl (hb hby d2_4) _ hr)
  rw [len_of S1 M1]
  show own_H (s₁.setTop (mkF m 5 #[rv a1, rv a2] [(.int (0 : Int32)), (.int (0 : Int32)), (.ref a2), (.ref a1)]))
  refine own_go ?_ (fun _ hr => XS.aconstNull X0.here hx rfl (hb hby d2_5) hr)
  show own_H (s₁.setTop (mkF m 6 #[rv a1, rv a2] [.null, (.int (0 : Int32)), (.int (0 : Int32)), (.ref a2), (.ref a1)]))
  obtain ⟨_, _, ⟨T2, L2, k2, n2⟩, -, X2a, hS2a, hg2a, ⟨Lc2, hQ2, l2, y2, z2, H2c⟩, st2⟩ := X0.specialBackS hx (y := y4_) rfl hown (mvT hZ (hw _ (tm 11 rfl))) (mvT hZ (hw _ (tm 12 rfl))) (mvT hZ (hw _ (tm 14 rfl))) (by decide) (backOfSH (s := s) (vm0 := s.vm) (W := 0) (rm_sinit2 l Z a0 hw [] a1 a2 (u2) h0 n0 Z0 E_a1 F_a1_value F_a1_coder g_a1) hZ (hw _ (tm 14 rfl)) (hw _ (tm 6 rfl)) (by decide) (by decide) hEL hC0.1) (g := (mkF m 6 #[rv a1, rv a2] [.null, (.int (0 : Int32)), (.int (0 : Int32)), (.ref a2), (.ref a1)])) rfl (by rw [hml]; rfl) (Steps.refl _) (a := a1) (argsL := [(.ref a2), (.int (0 : Int32)), (.int (0 : Int32)), .null]) (rest := []) (lenOf pd___CIILjava_lang_Void__V rfl) rfl (by show 2 * 0 + _ ≤ _; exact Nat.le_of_eq rfl) (hb hby d2_6) (fun _ _ => ⟨rfl, e0, (by decide : 0 + 4 ≤ _), (by decide : 0 + 8 ≤ _)⟩)
  dsimp only [Pt.U, Pt.locs, Pt.cells, Pt.slots] at X2a hS2a hg2a l2 y2 z2 st2 hQ2 H2c
  subst l2 y2 z2
  obtain ⟨X2, hS2, hZ, hown⟩ := rebS (s := s) (vm0 := s.vm) (State.WarmedH.since (State.WarmedH.refl s) 0) (Nat.zero_le _) X2a hS2a hg2a hZ hown
  obtain ⟨b2_0, kb2_1, rfl, N2q, K2, P2_0, P2_1, P2_2, P2_3⟩ := hQ2
  have C3 := hC0.trans H2c
  have N2 := Fr.app N0 N2q
  refine own_go ?_ (fun _ hr => st2.trans hr)
  show own_H (T2.setTop (mkF m 9 #[rv a1, rv a2] []))
  obtain ⟨fs, hr, hrun, hended, hRW⟩ := Stand.leaveW (s := s) (vm₁ := T2.vm) X2 hS2 (Nat.le_refl _) (v := none) (fun _ => rfl)
  have hCe := C3.trans (CHv.at (s := s) (vm0 := T2.vm) X2 hZ hEL C3.1)
  exact ⟨_, _, X2.returnOut hx Bd.returns (hb hby d2_9) hr, hrun, hended, _, _, rfl, ⟨b2_0, kb2_1, rfl, N2, ((Keep.refl h0 [a1]).trans K2 (allS (Or.inl (List.mem_of_getElem? (i := 0) rfl)) all0)), P2_0, P2_1, P2_2, P2_3⟩, (by rw [hh, show (T2.setFrames fs).heap = T2.heap from rfl]; exact hCe), hRW.1, hRW.2.1, hRW.2.2.1, hRW.2.2.2.mono (by decide) (by decide)⟩
theorem d1_0 : decode method_3_code 0 = .ok (.iload_n 0, 1) := by decide +kernel
theorem d1_1 : decode method_3_code 1 = .ok (.bipush 24, 2) := by decide +kernel
theorem d1_3 : decode method_3_code 3 = .ok (.iushr, 1) := by decide +kernel
theorem d1_4 : decode method_3_code 4 = .ok (.iconst 3, 1) := by decide +kernel
theorem d1_5 : decode method_3_code 5 = .ok (.iand, 1) := by decide +kernel
theorem d1_6 : decode method_3_code 6 = .ok (.istore_n 1, 1) := by decide +kernel
theorem d1_7 : decode method_3_code 7 = .ok (.iload_n 0, 1) := by decide +kernel
theorem d1_8 : decode method_3_code 8 = .ok (.sipush 255, 3) := by decide +kernel
theorem d1_11 : decode method_3_code 11 = .ok (.iand, 1) := by decide +kernel
theorem d1_12 : decode method_3_code 12 = .ok (.i2c, 1) := by decide +kernel
theorem d1_13 : decode method_3_code 13 = .ok (.istore_n 2, 1) := by decide +kernel
theorem d1_14 : decode method_3_code 14 = .ok (.iload_n 0, 1) := by decide +kernel
theorem d1_15 : decode method_3_code 15 = .ok (.bipush 8, 2) := by decide +kernel
theorem d1_17 : decode method_3_code 17 = .ok (.iushr, 1) := by decide +kernel
theorem d1_18 : decode method_3_code 18 = .ok (.sipush 255, 3) := by decide +kernel
theorem d1_21 : decode method_3_code 21 = .ok (.iand, 1) := by decide +kernel
theorem d1_22 : decode method_3_code 22 = .ok (.i2c, 1) := by decide +kernel
theorem d1_23 : decode method_3_code 23 = .ok (.istore_n 3, 1) := by decide +kernel
theorem d1_24 : decode method_3_code 24 = .ok (.iload_n 0, 1) := by decide +kernel
theorem d1_25 : decode method_3_code 25 = .ok (.bipush 16, 2) := by decide +kernel
theorem d1_27 : decode method_3_code 27 = .ok (.iushr, 1) := by decide +kernel
theorem d1_28 : decode method_3_code 28 = .ok (.sipush 255, 3) := by decide +kernel
theorem d1_31 : decode method_3_code 31 = .ok (.iand, 1) := by decide +kernel
theorem d1_32 : decode method_3_code 32 = .ok (.i2c, 1) := by decide +kernel
theorem d1_33 : decode method_3_code 33 = .ok (.istore 4, 2) := by decide +kernel
theorem d1_35 : decode method_3_code 35 = .ok (.iload_n 1, 1) := by decide +kernel
theorem d1_36 : decode method_3_code 36 = .ok (.ifCond .ne 14, 3) := by decide +kernel
theorem d1_39 : decode method_3_code 39 = .ok (.new 38, 3) := by decide +kernel
theorem d1_42 : decode method_3_code 42 = .ok (.dup, 1) := by decide +kernel
theorem d1_43 : decode method_3_code 43 = .ok (.iconst 0, 1) := by decide +kernel
theorem d1_44 : decode method_3_code 44 = .ok (.newarray .char, 2) := by decide +kernel
theorem d1_46 : decode method_3_code 46 = .ok (.invokespecial 42, 3) := by decide +kernel
theorem d1_49 : decode method_3_code 49 = .ok (.areturn, 1) := by decide +kernel
theorem d1_50 : decode method_3_code 50 = .ok (.iload_n 1, 1) := by decide +kernel
theorem d1_51 : decode method_3_code 51 = .ok (.iconst 1, 1) := by decide +kernel
theorem d1_52 : decode method_3_code 52 = .ok (.if_icmp .ne 8, 3) := by decide +kernel
theorem d1_55 : decode method_3_code 55 = .ok (.iload_n 2, 1) := by decide +kernel
theorem d1_56 : decode method_3_code 56 = .ok (.invokestatic 45, 3) := by decide +kernel
theorem d1_59 : decode method_3_code 59 = .ok (.areturn, 1) := by decide +kernel
theorem d1_60 : decode method_3_code 60 = .ok (.iload_n 1, 1) := by decide +kernel
theorem d1_61 : decode method_3_code 61 = .ok (.iconst 2, 1) := by decide +kernel
theorem d1_62 : decode method_3_code 62 = .ok (.if_icmp .ne 22, 3) := by decide +kernel
theorem d1_65 : decode method_3_code 65 = .ok (.new 38, 3) := by decide +kernel
theorem d1_68 : decode method_3_code 68 = .ok (.dup, 1) := by decide +kernel
theorem d1_69 : decode method_3_code 69 = .ok (.iconst 2, 1) := by decide +kernel
theorem d1_70 : decode method_3_code 70 = .ok (.newarray .char, 2) := by decide +kernel
theorem d1_72 : decode method_3_code 72 = .ok (.dup, 1) := by decide +kernel
theorem d1_73 : decode method_3_code 73 = .ok (.iconst 0, 1) := by decide +kernel
theorem d1_74 : decode method_3_code 74 = .ok (.iload_n 2, 1) := by decide +kernel
theorem d1_75 : decode method_3_code 75 = .ok (.castore, 1) := by decide +kernel
theorem d1_76 : decode method_3_code 76 = .ok (.dup, 1) := by decide +kernel
theorem d1_77 : decode method_3_code 77 = .ok (.iconst 1, 1) := by decide +kernel
theorem d1_78 : decode method_3_code 78 = .ok (.iload_n 3, 1) := by decide +kernel
theorem d1_79 : decode method_3_code 79 = .ok (.castore, 1) := by decide +kernel
theorem d1_80 : decode method_3_code 80 = .ok (.invokespecial 42, 3) := by decide +kernel
theorem d1_83 : decode method_3_code 83 = .ok (.areturn, 1) := by decide +kernel
theorem d1_84 : decode method_3_code 84 = .ok (.new 38, 3) := by decide +kernel
theorem d1_87 : decode method_3_code 87 = .ok (.dup, 1) := by decide +kernel
theorem d1_88 : decode method_3_code 88 = .ok (.iconst 3, 1) := by decide +kernel
theorem d1_89 : decode method_3_code 89 = .ok (.newarray .char, 2) := by decide +kernel
theorem d1_91 : decode method_3_code 91 = .ok (.dup, 1) := by decide +kernel
theorem d1_92 : decode method_3_code 92 = .ok (.iconst 0, 1) := by decide +kernel
theorem d1_93 : decode method_3_code 93 = .ok (.iload_n 2, 1) := by decide +kernel
theorem d1_94 : decode method_3_code 94 = .ok (.castore, 1) := by decide +kernel
theorem d1_95 : decode method_3_code 95 = .ok (.dup, 1) := by decide +kernel
theorem d1_96 : decode method_3_code 96 = .ok (.iconst 1, 1) := by decide +kernel
theorem d1_97 : decode method_3_code 97 = .ok (.iload_n 3, 1) := by decide +kernel
theorem d1_98 : decode method_3_code 98 = .ok (.castore, 1) := by decide +kernel
theorem d1_99 : decode method_3_code 99 = .ok (.dup, 1) := by decide +kernel
theorem d1_100 : decode method_3_code 100 = .ok (.iconst 2, 1) := by decide +kernel
theorem d1_101 : decode method_3_code 101 = .ok (.iload 4, 2) := by decide +kernel
theorem d1_103 : decode method_3_code 103 = .ok (.castore, 1) := by decide +kernel
theorem d1_104 : decode method_3_code 104 = .ok (.invokespecial 42, 3) := by decide +kernel
theorem d1_107 : decode method_3_code 107 = .ok (.areturn, 1) := by decide +kernel
theorem pn_1 : plainName "com/example/ninkasi/ninkasi/csv/CsvRecordGetPinLaw" = true := by first | (simp [plainName, overriddenIn]; done) | decide +kernel
theorem pd___C_V : parseMethodDescriptor "([C)V" = some ⟨[(.array .char)], none⟩ := by decide +kernel
theorem pd__C_Ljava_lang_String_ : parseMethodDescriptor "(C)Ljava/lang/String;" = some ⟨[.char], some (.object "java/lang/String")⟩ := by decide +kernel
theorem ef_1 (m : MethodId) (x0 : Int32) : entryFrame m #[(.int x0)] 5 = mkF m 0 #[iv x0, .unset, .unset, .unset, .unset] [] := by first | (simp [entryFrame, mkF, argsToLocals, Value.category]; done) | rfl
def Q_rm_mk (Z : State) (p1 : Int32) (zc : Int32) (h0 : Heap) (n0 : Nat) : Option Value → Heap → List Loc → Prop := fun v h L => ∃ (ns : Addr), v = some (.ref ns) ∧ Fr n0 L ∧ Keep h0 h [] ∧ h0.size ≤ ns ∧ Exa Z h ns "java/lang/String"
set_option maxRecDepth 65536 in
set_option maxHeartbeats 40000000 in
theorem rm_mk (l : Launch) (Z : State) (a0 : Array Value) (hw : ∀ d ∈ tables_1, d.before a0 Z = true) (ws : List Jvm.Cond) (p1 : Int32) (zc : Int32) (h0 : Heap) (n0 : Nat) (Z0 : n0 ≤ h0.size) (hold : Old Z n0 h0) (S_COMPACT_STRINGS : Sta Z Z.heap "java/lang/String" "COMPACT_STRINGS" "Z" (.int zc)) (hz : ¬ (zc = (0 : Int32))) :
    MetFree l y6_ (head1 (Jvm.Cond.code y6_ method_3_code 5 (some (.object "java/lang/String")) :: ws) R6_) (fun a U => a = #[(.int p1)] ∧ Z.Warmed39 U.vm ∧ U.heap = h0 ∧ CHv Z consts_1 U.vm h0) (fun _ _ _ _ _ => True) (fun _ U o U' => ∃ v L, o = .returned v ∧ (Q_rm_mk Z p1 zc h0 n0) v U'.heap L ∧ own_FE Z U o U' L R6_.cells R6_.slots) := by
  refine MetFree.of_bodySF (plainFor_of_name pn_1) hisR ?_
  intro p e s m args below meth c s₁ Bd hml0 hP hK
  obtain ⟨rfl, hZ, hh, hCH⟩ := hP
  have hx := Bd.exec
  have hby := Bd.bytes
  have hml : c.maxLocals = 5 := hml0
  have hown : s.vm.findClass "com/example/ninkasi/ninkasi/csv/CsvRecordGetPinLaw" = some m.cls := findClass_of_methodNamed Bd.named
  have hnm := (name_of_methodNamed Bd.named Bd.method).1
  have X0 : Stand p l e R6_ s m #[(.int p1)] below meth c s₁ [] 0 0 := Stand.of_body Bd
  have e0 : s₁.heap = h0 := by rw [← hh, Bd.state]; rfl
  have N0 := Fr.nil n0
  show own_G (own_FE Z) p e below s R6_.cells R6_.slots (Q_rm_mk Z p1 zc h0 n0) (s₁.setTop (entryFrame m #[(.int p1)] 5))
  refine own_go (Y' := s₁.setTop (mkF m 0 #[iv p1, .unset, .unset, .unset, .unset] [])) ?_ (fun t k => castTop (ef_1 m p1) k)
  have hC0 := CHr.refl hCH
  have hEL := own_EW Z a0 hw
  have wS : ∀ a ∈ Bundle.stringAtoms, a.before a0 Z = true := fun d hd => hw d ((by decide +kernel : ∀ d ∈ Bundle.stringAtoms, d ∈ tables_1) d hd)
  have hws : ∀ d ∈ StrChars.Road.words, d.before a0 Z = true := fun d hd => hw d ((by decide +kernel : ∀ d ∈ StrChars.Road.words, d ∈ tables_1) d hd)
  refine own_go ?_ (fun _ hr => XS.iloadN X0.here hx rfl (hb hby d1_0) rfl (XS.bipush X0.here hx rfl (hb hby d1_1) (XS.iushr X0.here hx rfl (hb hby d1_3) rfl (XS.iconst X0.here hx rfl (hb hby d1_4) (XS.iand X0.here hx rfl (hb hby d1_5) rfl (XS.istoreN X0.here hx rfl (hb hby d1_6) rfl (l' := #[iv p1, iv (((p1.toUInt32 >>> ((24 : Int32) &&& 31).toUInt32).toInt32) &&& (3 : Int32)), .unset, .unset, .unset]) rfl (XS.iloadN X0.here hx rfl (hb hby d1_7) rfl (XS.sipush X0.here hx rfl (hb hby d1_8) hr))))))))
  show own_H (s₁.setTop (mkF m 11 #[iv p1, iv (((p1.toUInt32 >>> ((24 : Int32) &&& 31).toUInt32).toInt32) &&& (3 : Int32)), .unset, .unset, .unset] [(.int (255 : Int32)), (.int p1)]))
  refine own_go ?_ (fun _ hr => XS.iand X0.here hx rfl (hb hby d1_11) rfl (XS.i2c X0.here hx rfl (hb hby d1_12) rfl (XS.istoreN X0.here hx rfl (hb hby d1_13) rfl (l' := #[iv p1, iv (((p1.toUInt32 >>> ((24 : Int32) &&& 31).toUInt32).toInt32) &&& (3 : Int32)), iv ((p1 &&& (255 : Int32)).toUInt32.toUInt16.toUInt32.toInt32), .unset, .unset]) rfl (XS.iloadN X0.here hx rfl (hb hby d1_14) rfl (XS.bipush X0.here hx rfl (hb hby d1_15) (XS.iushr X0.here hx rfl (hb hby d1_17) rfl (XS.sipush X0.here hx rfl (hb hby d1_18) (XS.iand X0.here hx rfl (hb hby d1_21) rfl hr))))))))
  show own_H (s₁.setTop (mkF m 22 #[iv p1, iv (((p1.toUInt32 >>> ((24 : Int32) &&& 31).toUInt32).toInt32) &&& (3 : Int32)), iv ((p1 &&& (255 : Int32)).toUInt32.toUInt16.toUInt32.toInt32), .unset, .unset] [(.int (((p1.toUInt32 >>> ((8 : Int32) &&& 31).toUInt32).toInt32) &&& (255 : Int32)))]))
  refine own_go ?_ (fun _ hr => XS.i2c X0.here hx rfl (hb hby d1_22) rfl (XS.istoreN X0.here hx rfl (hb hby d1_23) rfl (l' := #[iv p1, iv (((p1.toUInt32 >>> ((24 : Int32) &&& 31).toUInt32).toInt32) &&& (3 : Int32)), iv ((p1 &&& (255 : Int32)).toUInt32.toUInt16.toUInt32.toInt32), iv ((((p1.toUInt32 >>> ((8 : Int32) &&& 31).toUInt32).toInt32) &&& (255 : Int32)).toUInt32.toUInt16.toUInt32.toInt32), .unset]) rfl (XS.iloadN X0.here hx rfl (hb hby d1_24) rfl (XS.bipush X0.here hx rfl (hb hby d1_25) (XS.iushr X0.here hx rfl (hb hby d1_27) rfl (XS.sipush X0.here hx rfl (hb hby d1_28) (XS.iand X0.here hx rfl (hb hby d1_31) rfl (XS.i2c X0.here hx rfl (hb hby d1_32) rfl hr))))))))
  show own_H (s₁.setTop (mkF m 33 #[iv p1, iv (((p1.toUInt32 >>> ((24 : Int32) &&& 31).toUInt32).toInt32) &&& (3 : Int32)), iv ((p1 &&& (255 : Int32)).toUInt32.toUInt16.toUInt32.toInt32), iv ((((p1.toUInt32 >>> ((8 : Int32) &&& 31).toUInt32).toInt32) &&& (255 : Int32)).toUInt32.toUInt16.toUInt32.toInt32), .unset] [(.int ((((p1.toUInt32 >>> ((16 : Int32) &&& 31).toUInt32).toInt32) &&& (255 : Int32)).toUInt32.toUInt16.toUInt32.toInt32))]))
  refine own_go ?_ (fun _ hr => XS.istore X0.here hx rfl (hb hby d1_33) rfl (l' := #[iv p1, iv (((p1.toUInt32 >>> ((24 : Int32) &&& 31).toUInt32).toInt32) &&& (3 : Int32)), iv ((p1 &&& (255 : Int32)).toUInt32.toUInt16.toUInt32.toInt32), iv ((((p1.toUInt32 >>> ((8 : Int32) &&& 31).toUInt32).toInt32) &&& (255 : Int32)).toUInt32.toUInt16.toUInt32.toInt32), iv ((((p1.toUInt32 >>> ((16 : Int32) &&& 31).toUInt32).toInt32) &&& (255 : Int32)).toUInt32.toUInt16.toUInt32.toInt32)]) rfl (XS.iloadN X0.here hx rfl (hb hby d1_35) rfl hr))
  show own_H (s₁.setTop (mkF m 36 #[iv p1, iv (((p1.toUInt32 >>> ((24 : Int32) &&& 31).toUInt32).toInt32) &&& (3 : Int32)), iv ((p1 &&& (255 : Int32)).toUInt32.toUInt16.toUInt32.toInt32), iv ((((p1.toUInt32 >>> ((8 : Int32) &&& 31).toUInt32).toInt32) &&& (255 : Int32)).toUInt32.toUInt16.toUInt32.toInt32), iv ((((p1.toUInt32 >>> ((16 : Int32) &&& 31).toUInt32).toInt32) &&& (255 : Int32)).toUInt32.toUInt16.toUInt32.toInt32)] [(.int (((p1.toUInt32 >>> ((24 : Int32) &&& 31).toUInt32).toInt32) &&& (3 : Int32)))]))
  by_cases hc36 : (((p1.toUInt32 >>> ((24 : Int32) &&& 31).toUInt32).toInt32) &&& (3 : Int32)) = (0 : Int32)
  ·
    refine own_go ?_ (fun _ hr => XS.ifNo X0.here hx rfl (hb hby d1_36) rfl ((if0 _ _).trans (teq hc36).2) hr)
    show own_H (s₁.setTop (mkF m 39 #[iv p1, iv (((p1.toUInt32 >>> ((24 : Int32) &&& 31).toUInt32).toInt32) &&& (3 : Int32)), iv ((p1 &&& (255 : Int32)).toUInt32.toUInt16.toUInt32.toInt32), iv ((((p1.toUInt32 >>> ((8 : Int32) &&& 31).toUInt32).toInt32) &&& (255 : Int32)).toUInt32.toUInt16.toUInt32.toInt32), iv ((((p1.toUInt32 >>> ((16 : Int32) &&& 31).toUInt32).toInt32) &&& (255 : Int32)).toUInt32.toUInt16.toUInt32.toInt32)] []))
    obtain ⟨T1, h1, X1, e1, E1, A1, D1, -, st1⟩ := newO X0 hx hZ hown (hw _ (tm 4 rfl)) (hw _ (tm 5 rfl)) (hw _ (tm 6 rfl)) e0 (g := (mkF m 39 #[iv p1, iv (((p1.toUInt32 >>> ((24 : Int32) &&& 31).toUInt32).toInt32) &&& (3 : Int32)), iv ((p1 &&& (255 : Int32)).toUInt32.toUInt16.toUInt32.toInt32), iv ((((p1.toUInt32 >>> ((8 : Int32) &&& 31).toUInt32).toInt32) &&& (255 : Int32)).toUInt32.toUInt16.toUInt32.toInt32), iv ((((p1.toUInt32 >>> ((16 : Int32) &&& 31).toUInt32).toInt32) &&& (255 : Int32)).toUInt32.toUInt16.toUInt32.toInt32)] [])) rfl (hb hby d1_39) (by decide) (by decide)
    obtain ⟨b1, g1⟩ : ∃ z, z = h0.size := ⟨_, rfl⟩
    rw [← g1] at A1 D1 st1
    have g_b1 : n0 ≤ b1 := ltr Z0 (leq g1.symm)
    have sz_b1 : h0.size ≤ b1 := ltr (Keep.refl h0 []).1 (leq g1.symm)
    have S0_b1 : Safe Z consts_1 s.vm h0 b1 := Safe.new (leq g1.symm)
    have C2 := hC0.trans (CHr.ext E1 hC0.1)
    have S2_b1 := Safe.ext E1 hC0.1 S0_b1
    have F1_20 : Fld Z h1 b1 "java/lang/String" "value" "[B" .null := D1 (Or.inr (hw _ (tm 20 rfl))) (ty := (.array .byte)) (by decide)
    have F1_21 : Fld Z h1 b1 "java/lang/String" "coder" "B" (.int (0 : Int32)) := D1 (Or.inr (hw _ (tm 21 rfl))) (ty := .byte) (by decide)
    refine own_go ?_ (fun _ hr => st1 _ (XS.dup X1.here hx rfl (hb hby d1_42) rfl rfl (XS.iconst X1.here hx rfl (hb hby d1_43) hr)))
    show own_H (T1.setTop (mkF m 44 #[iv p1, iv (((p1.toUInt32 >>> ((24 : Int32) &&& 31).toUInt32).toInt32) &&& (3 : Int32)), iv ((p1 &&& (255 : Int32)).toUInt32.toUInt16.toUInt32.toInt32), iv ((((p1.toUInt32 >>> ((8 : Int32) &&& 31).toUInt32).toInt32) &&& (255 : Int32)).toUInt32.toUInt16.toUInt32.toInt32), iv ((((p1.toUInt32 >>> ((16 : Int32) &&& 31).toUInt32).toInt32) &&& (255 : Int32)).toUInt32.toUInt16.toUInt32.toInt32)] [(.int (0 : Int32)), (.ref b1), (.ref b1)]))
    obtain ⟨T3, h3, k3, X3, e3, E3, A3, st3⟩ := newP X1 hx hZ (hw _ (tm 7 rfl)) e1 (g := (mkF m 44 #[iv p1, iv (((p1.toUInt32 >>> ((24 : Int32) &&& 31).toUInt32).toInt32) &&& (3 : Int32)), iv ((p1 &&& (255 : Int32)).toUInt32.toUInt16.toUInt32.toInt32), iv ((((p1.toUInt32 >>> ((8 : Int32) &&& 31).toUInt32).toInt32) &&& (255 : Int32)).toUInt32.toUInt16.toUInt32.toInt32), iv ((((p1.toUInt32 >>> ((16 : Int32) &&& 31).toUInt32).toInt32) &&& (255 : Int32)).toUInt32.toUInt16.toUInt32.toInt32)] [(.int (0 : Int32)), (.ref b1), (.ref b1)])) rfl (hb hby d1_44) rfl (by decide) (cap := 0) (by decide) (by decide) (by decide) (by decide)
    obtain ⟨b3, g3⟩ : ∃ z, z = h1.size := ⟨_, rfl⟩
    rw [← g3] at A3 st3
    have V3 : Arv Z h3 b3 k3 .char (0 : Int32) [] (.int (0 : Int32)) := (Arv.new A3 (by decide)).pad (pad_rep [] (.int (0 : Int32)) 0)
    have g_b3 : n0 ≤ b3 := ltr (ltr Z0 E1.1) (leq g3.symm)
    have sz_b3 : h0.size ≤ b3 := ltr ((Keep.refl h0 []).ext E1).1 (leq g3.symm)
    have C4 := C2.trans (CHr.ext E3 C2.1)
    have S4_b1 := Safe.ext E3 C2.1 S2_b1
    refine own_go ?_ (fun _ hr => st3 _ hr)
    show own_H (T3.setTop (mkF m 46 #[iv p1, iv (((p1.toUInt32 >>> ((24 : Int32) &&& 31).toUInt32).toInt32) &&& (3 : Int32)), iv ((p1 &&& (255 : Int32)).toUInt32.toUInt16.toUInt32.toInt32), iv ((((p1.toUInt32 >>> ((8 : Int32) &&& 31).toUInt32).toInt32) &&& (255 : Int32)).toUInt32.toUInt16.toUInt32.toInt32), iv ((((p1.toUInt32 >>> ((16 : Int32) &&& 31).toUInt32).toInt32) &&& (255 : Int32)).toUInt32.toUInt16.toUInt32.toInt32)] [(.ref b3), (.ref b1), (.ref b1)]))
    obtain ⟨_, _, ⟨T5, L5, k5, n5⟩, -, X5a, hS5a, hg5a, ⟨Lc5, hQ5, l5, y5, z5, H5c⟩, st5⟩ := X3.specialBackS hx (y := y5_) rfl hown (mvT hZ (hw _ (tm 8 rfl))) (mvT hZ (hw _ (tm 9 rfl))) (mvT hZ (hw _ (tm 10 rfl))) (by decide) (backOfSH (s := s) (vm0 := s.vm) (W := 1) (rm_sinit1 l Z a0 hw [] b1 b3 (.int (0 : Int32)) k3 h3 n0 (ltr (ltr Z0 E1.1) E3.1) (A1.ext E3) (F1_20.ext E3) (F1_21.ext E3) g_b1 V3) hZ (hw _ (tm 10 rfl)) (hw _ (tm 6 rfl)) (by decide) (by decide) hEL C4.1) (g := (mkF m 46 #[iv p1, iv (((p1.toUInt32 >>> ((24 : Int32) &&& 31).toUInt32).toInt32) &&& (3 : Int32)), iv ((p1 &&& (255 : Int32)).toUInt32.toUInt16.toUInt32.toInt32), iv ((((p1.toUInt32 >>> ((8 : Int32) &&& 31).toUInt32).toInt32) &&& (255 : Int32)).toUInt32.toUInt16.toUInt32.toInt32), iv ((((p1.toUInt32 >>> ((16 : Int32) &&& 31).toUInt32).toInt32) &&& (255 : Int32)).toUInt32.toUInt16.toUInt32.toInt32)] [(.ref b3), (.ref b1), (.ref b1)])) rfl (by rw [hml]; rfl) (Steps.refl _) (a := b1) (argsL := [(.ref b3)]) (rest := [(.ref b1)]) (lenOf pd___C_V rfl) rfl (by show 2 * 0 + _ ≤ _; exact Nat.le_of_eq rfl) (hb hby d1_46) (fun _ _ => ⟨rfl, e3, (by decide : 2 + 4 ≤ _), (by decide : 4 + 8 ≤ _)⟩)
    dsimp only [Pt.U, Pt.locs, Pt.cells, Pt.slots] at X5a hS5a hg5a l5 y5 z5 st5 hQ5 H5c
    subst l5 y5 z5
    obtain ⟨X5, hS5, hZ, hown⟩ := rebS (s := s) (vm0 := s.vm) (State.WarmedH.since (State.WarmedH.refl s) 0) (Nat.zero_le _) X5a hS5a hg5a hZ hown
    obtain ⟨b5_0, kb5_1, rfl, N5q, K5, P5_0, P5_1, P5_2, P5_3⟩ := hQ5
    have C6 := C4.trans H5c
    have S6_b1 := H5c.safe (A1.ext E3).lt S4_b1
    have N5 := Fr.app N0 N5q
    refine own_go ?_ (fun _ hr => st5.trans hr)
    show own_H (T5.setTop (mkF m 49 #[iv p1, iv (((p1.toUInt32 >>> ((24 : Int32) &&& 31).toUInt32).toInt32) &&& (3 : Int32)), iv ((p1 &&& (255 : Int32)).toUInt32.toUInt16.toUInt32.toInt32), iv ((((p1.toUInt32 >>> ((8 : Int32) &&& 31).toUInt32).toInt32) &&& (255 : Int32)).toUInt32.toUInt16.toUInt32.toInt32), iv ((((p1.toUInt32 >>> ((16 : Int32) &&& 31).toUInt32).toInt32) &&& (255 : Int32)).toUInt32.toUInt16.toUInt32.toInt32)] [(.ref b1)]))
    obtain ⟨fs, hr, hrun, hended, hRW⟩ := Stand.leaveW (s := s) (vm₁ := T5.vm) X5 hS5 (Nat.le_refl _) (v := some (.ref b1)) (fun h => by rw [Bd.returns] at h; cases h)
    have hCe := C6.trans (CHv.at (s := s) (vm0 := T5.vm) X5 hZ hEL C6.1)
    exact ⟨_, _, retOut X5 hx Bd.returns rfl (Or.inr (Or.inr (Or.inr (Or.inr ⟨rfl, rfl, rfl⟩)))) (hb hby d1_49) hr, hrun, hended, _, _, rfl, ⟨b1, rfl, N5, ((((Keep.refl h0 []).ext E1).ext E3).trans K5 (allS (Or.inr sz_b1) all0)), sz_b1, P5_0⟩, (by rw [hh, show (T5.setFrames fs).heap = T5.heap from rfl]; exact hCe), hRW.1, hRW.2.1, hRW.2.2.1, hRW.2.2.2.mono (by decide) (by decide)⟩
  ·
    refine own_go ?_ (fun _ hr => XS.ifYes X0.here hx rfl (pc0 := 36) (pc' := 50) rfl (hb hby d1_36) rfl ((if0 _ _).trans (feq hc36).2) (by decide) (by decide) (XS.iloadN X0.here hx rfl (hb hby d1_50) rfl (XS.iconst X0.here hx rfl (hb hby d1_51) hr)))
    show own_H (s₁.setTop (mkF m 52 #[iv p1, iv (((p1.toUInt32 >>> ((24 : Int32) &&& 31).toUInt32).toInt32) &&& (3 : Int32)), iv ((p1 &&& (255 : Int32)).toUInt32.toUInt16.toUInt32.toInt32), iv ((((p1.toUInt32 >>> ((8 : Int32) &&& 31).toUInt32).toInt32) &&& (255 : Int32)).toUInt32.toUInt16.toUInt32.toInt32), iv ((((p1.toUInt32 >>> ((16 : Int32) &&& 31).toUInt32).toInt32) &&& (255 : Int32)).toUInt32.toUInt16.toUInt32.toInt32)] [(.int (1 : Int32)), (.int (((p1.toUInt32 >>> ((24 : Int32) &&& 31).toUInt32).toInt32) &&& (3 : Int32)))]))
    by_cases hc52 : (((p1.toUInt32 >>> ((24 : Int32) &&& 31).toUInt32).toInt32) &&& (3 : Int32)) = (1 : Int32)
    ·
      refine own_go ?_ (fun _ hr => XS.icmpNo X0.here hx rfl (hb hby d1_52) rfl (teq hc52).2 (XS.iloadN X0.here hx rfl (hb hby d1_55) rfl hr))
      show own_H (s₁.setTop (mkF m 56 #[iv p1, iv (((p1.toUInt32 >>> ((24 : Int32) &&& 31).toUInt32).toInt32) &&& (3 : Int32)), iv ((p1 &&& (255 : Int32)).toUInt32.toUInt16.toUInt32.toInt32), iv ((((p1.toUInt32 >>> ((8 : Int32) &&& 31).toUInt32).toInt32) &&& (255 : Int32)).toUInt32.toUInt16.toUInt32.toInt32), iv ((((p1.toUInt32 >>> ((16 : Int32) &&& 31).toUInt32).toInt32) &&& (255 : Int32)).toUInt32.toUInt16.toUInt32.toInt32)] [(.int ((p1 &&& (255 : Int32)).toUInt32.toUInt16.toUInt32.toInt32))]))
      obtain ⟨_, _, ⟨T7, L7, k7, n7⟩, -, X7, ⟨Lc7, hQ7, l7, y7, z7⟩, st7⟩ := Jvm.LawKit.callS X0 hx (y := y3_) hown (mvT hZ (hw _ (tm 227 rfl))) (mvT hZ (hw _ (tm 228 rfl))) (mvT hZ (hw _ (tm 6 rfl))) (mvT hZ (hw _ (tm 229 rfl))) (by decide) (backOf (W := 0) (rm32 l Z a0 hw [] ((p1 &&& (255 : Int32)).toUInt32.toUInt16.toUInt32.toInt32) zc h0 n0 Z0 hold S_COMPACT_STRINGS hz (own_le255 p1)) hZ (hw _ (tm 229 rfl)) (hw _ (tm 6 rfl)) (by decide) (by decide)) (g := (mkF m 56 #[iv p1, iv (((p1.toUInt32 >>> ((24 : Int32) &&& 31).toUInt32).toInt32) &&& (3 : Int32)), iv ((p1 &&& (255 : Int32)).toUInt32.toUInt16.toUInt32.toInt32), iv ((((p1.toUInt32 >>> ((8 : Int32) &&& 31).toUInt32).toInt32) &&& (255 : Int32)).toUInt32.toUInt16.toUInt32.toInt32), iv ((((p1.toUInt32 >>> ((16 : Int32) &&& 31).toUInt32).toInt32) &&& (255 : Int32)).toUInt32.toUInt16.toUInt32.toInt32)] [(.int ((p1 &&& (255 : Int32)).toUInt32.toUInt16.toUInt32.toInt32))])) rfl (by rw [hml]; rfl) (argsL := [(.int ((p1 &&& (255 : Int32)).toUInt32.toUInt16.toUInt32.toInt32))]) (rest := []) (lenOf pd__C_Ljava_lang_String_ rfl) rfl (by show 2 * 0 + _ ≤ _; exact Nat.le_of_eq rfl) (hb hby d1_56) (fun _ _ => ⟨rfl, e0, (by decide : 0 + 2 ≤ _), (by decide : 0 + 5 ≤ _)⟩)
      dsimp only [Pt.U, Pt.locs, Pt.cells, Pt.slots] at X7 l7 y7 z7 st7 hQ7
      subst l7 y7 z7
      obtain ⟨b7_0, rfl, N7q, K7, yb7_0, P7_0⟩ := hQ7
      have g_b7_0 : n0 ≤ b7_0 := ltr Z0 yb7_0
      have sz_b7_0 : h0.size ≤ b7_0 := ltr (Keep.refl h0 []).1 yb7_0
      have C8 := hC0.trans (CHr.keep K7 all0 hC0.1)
      have N7 := Fr.app N0 N7q
      refine own_go ?_ (fun _ hr => st7 _ hr)
      show own_H (T7.setTop (mkF m 59 #[iv p1, iv (((p1.toUInt32 >>> ((24 : Int32) &&& 31).toUInt32).toInt32) &&& (3 : Int32)), iv ((p1 &&& (255 : Int32)).toUInt32.toUInt16.toUInt32.toInt32), iv ((((p1.toUInt32 >>> ((8 : Int32) &&& 31).toUInt32).toInt32) &&& (255 : Int32)).toUInt32.toUInt16.toUInt32.toInt32), iv ((((p1.toUInt32 >>> ((16 : Int32) &&& 31).toUInt32).toInt32) &&& (255 : Int32)).toUInt32.toUInt16.toUInt32.toInt32)] [(.ref b7_0)]))
      obtain ⟨fs, hr, hrun, hended, hRW⟩ := Stand.leaveW (s := s) (vm₁ := s.vm) X7 (State.WarmedH.since (State.WarmedH.refl s) 0) (Nat.zero_le _) (v := some (.ref b7_0)) (fun h => by rw [Bd.returns] at h; cases h)
      have hCe := C8.trans (CHv.at (s := s) (vm0 := s.vm) X7 hZ hEL C8.1)
      exact ⟨_, _, retOut X7 hx Bd.returns rfl (Or.inr (Or.inr (Or.inr (Or.inr ⟨rfl, rfl, rfl⟩)))) (hb hby d1_59) hr, hrun, hended, _, _, rfl, ⟨b7_0, rfl, N7, ((Keep.refl h0 []).trans K7 all0), sz_b7_0, P7_0⟩, (by rw [hh, show (T7.setFrames fs).heap = T7.heap from rfl]; exact hCe), hRW.1, hRW.2.1, hRW.2.2.1, hRW.2.2.2.mono (by decide) (by decide)⟩
    ·
      refine own_go ?_ (fun _ hr => XS.icmpYes X0.here hx rfl (pc0 := 52) (pc' := 60) rfl (hb hby d1_52) rfl (feq hc52).2 (by decide) (by decide) (XS.iloadN X0.here hx rfl (hb hby d1_60) rfl (XS.iconst X0.here hx rfl (hb hby d1_61) hr)))
      show own_H (s₁.setTop (mkF m 62 #[iv p1, iv (((p1.toUInt32 >>> ((24 : Int32) &&& 31).toUInt32).toInt32) &&& (3 : Int32)), iv ((p1 &&& (255 : Int32)).toUInt32.toUInt16.toUInt32.toInt32), iv ((((p1.toUInt32 >>> ((8 : Int32) &&& 31).toUInt32).toInt32) &&& (255 : Int32)).toUInt32.toUInt16.toUInt32.toInt32), iv ((((p1.toUInt32 >>> ((16 : Int32) &&& 31).toUInt32).toInt32) &&& (255 : Int32)).toUInt32.toUInt16.toUInt32.toInt32)] [(.int (2 : Int32)), (.int (((p1.toUInt32 >>> ((24 : Int32) &&& 31).toUInt32).toInt32) &&& (3 : Int32)))]))
      by_cases hc62 : (((p1.toUInt32 >>> ((24 : Int32) &&& 31).toUInt32).toInt32) &&& (3 : Int32)) = (2 : Int32)
      ·
        refine own_go ?_ (fun _ hr => XS.icmpNo X0.here hx rfl (hb hby d1_62) rfl (teq hc62).2 hr)
        show own_H (s₁.setTop (mkF m 65 #[iv p1, iv (((p1.toUInt32 >>> ((24 : Int32) &&& 31).toUInt32).toInt32) &&& (3 : Int32)), iv ((p1 &&& (255 : Int32)).toUInt32.toUInt16.toUInt32.toInt32), iv ((((p1.toUInt32 >>> ((8 : Int32) &&& 31).toUInt32).toInt32) &&& (255 : Int32)).toUInt32.toUInt16.toUInt32.toInt32), iv ((((p1.toUInt32 >>> ((16 : Int32) &&& 31).toUInt32).toInt32) &&& (255 : Int32)).toUInt32.toUInt16.toUInt32.toInt32)] []))
        obtain ⟨T9, h9, X9, e9, E9, A9, D9, -, st9⟩ := newO X0 hx hZ hown (hw _ (tm 4 rfl)) (hw _ (tm 5 rfl)) (hw _ (tm 6 rfl)) e0 (g := (mkF m 65 #[iv p1, iv (((p1.toUInt32 >>> ((24 : Int32) &&& 31).toUInt32).toInt32) &&& (3 : Int32)), iv ((p1 &&& (255 : Int32)).toUInt32.toUInt16.toUInt32.toInt32), iv ((((p1.toUInt32 >>> ((8 : Int32) &&& 31).toUInt32).toInt32) &&& (255 : Int32)).toUInt32.toUInt16.toUInt32.toInt32), iv ((((p1.toUInt32 >>> ((16 : Int32) &&& 31).toUInt32).toInt32) &&& (255 : Int32)).toUInt32.toUInt16.toUInt32.toInt32)] [])) rfl (hb hby d1_65) (by decide) (by decide)
        obtain ⟨b9, g9⟩ : ∃ z, z = h0.size := ⟨_, rfl⟩
        rw [← g9] at A9 D9 st9
        have g_b9 : n0 ≤ b9 := ltr Z0 (leq g9.symm)
        have sz_b9 : h0.size ≤ b9 := ltr (Keep.refl h0 []).1 (leq g9.symm)
        have S0_b9 : Safe Z consts_1 s.vm h0 b9 := Safe.new (leq g9.symm)
        have C10 := hC0.trans (CHr.ext E9 hC0.1)
        have S10_b9 := Safe.ext E9 hC0.1 S0_b9
        have F9_20 : Fld Z h9 b9 "java/lang/String" "value" "[B" .null := D9 (Or.inr (hw _ (tm 20 rfl))) (ty := (.array .byte)) (by decide)
        have F9_21 : Fld Z h9 b9 "java/lang/String" "coder" "B" (.int (0 : Int32)) := D9 (Or.inr (hw _ (tm 21 rfl))) (ty := .byte) (by decide)
        refine own_go ?_ (fun _ hr => st9 _ (XS.dup X9.here hx rfl (hb hby d1_68) rfl rfl (XS.iconst X9.here hx rfl (hb hby d1_69) hr)))
        show own_H (T9.setTop (mkF m 70 #[iv p1, iv (((p1.toUInt32 >>> ((24 : Int32) &&& 31).toUInt32).toInt32) &&& (3 : Int32)), iv ((p1 &&& (255 : Int32)).toUInt32.toUInt16.toUInt32.toInt32), iv ((((p1.toUInt32 >>> ((8 : Int32) &&& 31).toUInt32).toInt32) &&& (255 : Int32)).toUInt32.toUInt16.toUInt32.toInt32), iv ((((p1.toUInt32 >>> ((16 : Int32) &&& 31).toUInt32).toInt32) &&& (255 : Int32)).toUInt32.toUInt16.toUInt32.toInt32)] [(.int (2 : Int32)), (.ref b9), (.ref b9)]))
        obtain ⟨T11, h11, k11, X11, e11, E11, A11, st11⟩ := newP X9 hx hZ (hw _ (tm 7 rfl)) e9 (g := (mkF m 70 #[iv p1, iv (((p1.toUInt32 >>> ((24 : Int32) &&& 31).toUInt32).toInt32) &&& (3 : Int32)), iv ((p1 &&& (255 : Int32)).toUInt32.toUInt16.toUInt32.toInt32), iv ((((p1.toUInt32 >>> ((8 : Int32) &&& 31).toUInt32).toInt32) &&& (255 : Int32)).toUInt32.toUInt16.toUInt32.toInt32), iv ((((p1.toUInt32 >>> ((16 : Int32) &&& 31).toUInt32).toInt32) &&& (255 : Int32)).toUInt32.toUInt16.toUInt32.toInt32)] [(.int (2 : Int32)), (.ref b9), (.ref b9)])) rfl (hb hby d1_70) rfl (by decide) (cap := 2) (by decide) (by decide) (by decide) (by decide)
        obtain ⟨b11, g11⟩ : ∃ z, z = h9.size := ⟨_, rfl⟩
        rw [← g11] at A11 st11
        have V11 : Arv Z h11 b11 k11 .char (2 : Int32) [(.int (0 : Int32)), (.int (0 : Int32))] (.int (0 : Int32)) := (Arv.new A11 (by decide)).pad (pad_rep [] (.int (0 : Int32)) 2)
        have g_b11 : n0 ≤ b11 := ltr (ltr Z0 E9.1) (leq g11.symm)
        have sz_b11 : h0.size ≤ b11 := ltr ((Keep.refl h0 []).ext E9).1 (leq g11.symm)
        have C12 := C10.trans (CHr.ext E11 C10.1)
        have S12_b9 := Safe.ext E11 C10.1 S10_b9
        refine own_go ?_ (fun _ hr => st11 _ (XS.dup X11.here hx rfl (hb hby d1_72) rfl rfl (XS.iconst X11.here hx rfl (hb hby d1_73) (XS.iloadN X11.here hx rfl (hb hby d1_74) rfl hr))))
        show own_H (T11.setTop (mkF m 75 #[iv p1, iv (((p1.toUInt32 >>> ((24 : Int32) &&& 31).toUInt32).toInt32) &&& (3 : Int32)), iv ((p1 &&& (255 : Int32)).toUInt32.toUInt16.toUInt32.toInt32), iv ((((p1.toUInt32 >>> ((8 : Int32) &&& 31).toUInt32).toInt32) &&& (255 : Int32)).toUInt32.toUInt16.toUInt32.toInt32), iv ((((p1.toUInt32 >>> ((16 : Int32) &&& 31).toUInt32).toInt32) &&& (255 : Int32)).toUInt32.toUInt16.toUInt32.toInt32)] [(.int ((p1 &&& (255 : Int32)).toUInt32.toUInt16.toUInt32.toInt32)), (.int (0 : Int32)), (.ref b11), (.ref b11), (.ref b9), (.ref b9)]))
        obtain ⟨cl13, Ar13, qk13, S13, M13, H13, G13⟩ := id V11
        have hin13 : ¬ ((0 : Int32) < 0 ∨ cl13.slots.size ≤ ((0 : Int32)).toNatClampNeg) := inb_of S13 ⟨by decide, by decide⟩
        obtain ⟨T13, h13, X13, e13, W13, st13⟩ := stC X11 hx hZ e11 Ar13 (j := (0 : Int32)) hin13 (g := (mkF m 75 #[iv p1, iv (((p1.toUInt32 >>> ((24 : Int32) &&& 31).toUInt32).toInt32) &&& (3 : Int32)), iv ((p1 &&& (255 : Int32)).toUInt32.toUInt16.toUInt32.toInt32), iv ((((p1.toUInt32 >>> ((8 : Int32) &&& 31).toUInt32).toInt32) &&& (255 : Int32)).toUInt32.toUInt16.toUInt32.toInt32), iv ((((p1.toUInt32 >>> ((16 : Int32) &&& 31).toUInt32).toInt32) &&& (255 : Int32)).toUInt32.toUInt16.toUInt32.toInt32)] [(.int ((p1 &&& (255 : Int32)).toUInt32.toUInt16.toUInt32.toInt32)), (.int (0 : Int32)), (.ref b11), (.ref b11), (.ref b9), (.ref b9)])) rfl rfl (hb hby d1_75)
        have V13 : Arv Z h13 b11 k11 .char (2 : Int32) [(.int (nar .char ((p1 &&& (255 : Int32)).toUInt32.toUInt16.toUInt32.toInt32))), (.int (0 : Int32))] (.int (0 : Int32)) := Arv.set Ar13 qk13 S13 M13 H13 G13 (fits_nar_char _) W13 0 rfl (Nat.le_of_ble_eq_true rfl)
        have N13 := Fr.snoc X13 N0 g_b11
        have C14 := C12.trans (CHr.wr W13 (own_safeV hZ.alike V11 (by decide)) C12.1)
        have S14_b9 := Safe.wr W13 (own_safeV hZ.alike V11 (by decide)) C12.1 S12_b9
        refine own_go ?_ (fun _ hr => st13 _ (XS.dup X13.here hx rfl (hb hby d1_76) rfl rfl (XS.iconst X13.here hx rfl (hb hby d1_77) (XS.iloadN X13.here hx rfl (hb hby d1_78) rfl hr))))
        show own_H (T13.setTop (mkF m 79 #[iv p1, iv (((p1.toUInt32 >>> ((24 : Int32) &&& 31).toUInt32).toInt32) &&& (3 : Int32)), iv ((p1 &&& (255 : Int32)).toUInt32.toUInt16.toUInt32.toInt32), iv ((((p1.toUInt32 >>> ((8 : Int32) &&& 31).toUInt32).toInt32) &&& (255 : Int32)).toUInt32.toUInt16.toUInt32.toInt32), iv ((((p1.toUInt32 >>> ((16 : Int32) &&& 31).toUInt32).toInt32) &&& (255 : Int32)).toUInt32.toUInt16.toUInt32.toInt32)] [(.int ((((p1.toUInt32 >>> ((8 : Int32) &&& 31).toUInt32).toInt32) &&& (255 : Int32)).toUInt32.toUInt16.toUInt32.toInt32)), (.int (1 : Int32)), (.ref b11), (.ref b11), (.ref b9), (.ref b9)]))
        obtain ⟨cl15, Ar15, qk15, S15, M15, H15, G15⟩ := id V13
        have hin15 : ¬ ((1 : Int32) < 0 ∨ cl15.slots.size ≤ ((1 : Int32)).toNatClampNeg) := inb_of S15 ⟨by decide, by decide⟩
        obtain ⟨T15, h15, X15, e15, W15, st15⟩ := stC X13 hx hZ e13 Ar15 (j := (1 : Int32)) hin15 (g := (mkF m 79 #[iv p1, iv (((p1.toUInt32 >>> ((24 : Int32) &&& 31).toUInt32).toInt32) &&& (3 : Int32)), iv ((p1 &&& (255 : Int32)).toUInt32.toUInt16.toUInt32.toInt32), iv ((((p1.toUInt32 >>> ((8 : Int32) &&& 31).toUInt32).toInt32) &&& (255 : Int32)).toUInt32.toUInt16.toUInt32.toInt32), iv ((((p1.toUInt32 >>> ((16 : Int32) &&& 31).toUInt32).toInt32) &&& (255 : Int32)).toUInt32.toUInt16.toUInt32.toInt32)] [(.int ((((p1.toUInt32 >>> ((8 : Int32) &&& 31).toUInt32).toInt32) &&& (255 : Int32)).toUInt32.toUInt16.toUInt32.toInt32)), (.int (1 : Int32)), (.ref b11), (.ref b11), (.ref b9), (.ref b9)])) rfl rfl (hb hby d1_79)
        have V15 : Arv Z h15 b11 k11 .char (2 : Int32) [(.int (nar .char ((p1 &&& (255 : Int32)).toUInt32.toUInt16.toUInt32.toInt32))), (.int (nar .char ((((p1.toUInt32 >>> ((8 : Int32) &&& 31).toUInt32).toInt32) &&& (255 : Int32)).toUInt32.toUInt16.toUInt32.toInt32)))] (.int (0 : Int32)) := Arv.set Ar15 qk15 S15 M15 H15 G15 (fits_nar_char _) W15 1 rfl (Nat.le_of_ble_eq_true rfl)
        have N15 := Fr.snoc X15 N13 g_b11
        have C16 := C14.trans (CHr.wr W15 (own_safeV hZ.alike V13 (by decide)) C14.1)
        have S16_b9 := Safe.wr W15 (own_safeV hZ.alike V13 (by decide)) C14.1 S14_b9
        refine own_go ?_ (fun _ hr => st15 _ hr)
        show own_H (T15.setTop (mkF m 80 #[iv p1, iv (((p1.toUInt32 >>> ((24 : Int32) &&& 31).toUInt32).toInt32) &&& (3 : Int32)), iv ((p1 &&& (255 : Int32)).toUInt32.toUInt16.toUInt32.toInt32), iv ((((p1.toUInt32 >>> ((8 : Int32) &&& 31).toUInt32).toInt32) &&& (255 : Int32)).toUInt32.toUInt16.toUInt32.toInt32), iv ((((p1.toUInt32 >>> ((16 : Int32) &&& 31).toUInt32).toInt32) &&& (255 : Int32)).toUInt32.toUInt16.toUInt32.toInt32)] [(.ref b11), (.ref b9), (.ref b9)]))
        obtain ⟨_, _, ⟨T17, L17, k17, n17⟩, -, X17, ⟨Lc17, hQ17, l17, y17, z17⟩, st17⟩ := X15.specialBack hx (y := y5_) rfl hown (mvT hZ (hw _ (tm 8 rfl))) (mvT hZ (hw _ (tm 9 rfl))) (mvT hZ (hw _ (tm 10 rfl))) (by decide) (StrChars.Road.backV (W := 1) hZ hws (kI := 4) (hw _ (tm 5 rfl)) (cs := ([(nar .char ((p1 &&& (255 : Int32)).toUInt32.toUInt16.toUInt32.toInt32)), (nar .char ((((p1.toUInt32 >>> ((8 : Int32) &&& 31).toUInt32).toInt32) &&& (255 : Int32)).toUInt32.toUInt16.toUInt32.toInt32))] : List Int32)) (bs := (([(nar .char ((p1 &&& (255 : Int32)).toUInt32.toUInt16.toUInt32.toInt32)), (nar .char ((((p1.toUInt32 >>> ((8 : Int32) &&& 31).toUInt32).toInt32) &&& (255 : Int32)).toUInt32.toUInt16.toUInt32.toInt32))] : List Int32)).map (fun c => c.toInt8.toInt32)) (n := 2) g_b9 (ltr (ltr (ltr (ltr Z0 E9.1) E11.1) (Keep.of_wr W13).1) (Keep.of_wr W15).1) (((A9.ext E11).wr W13).wr W15) (((F9_20.ext E11).other W13 (Or.inl (Nat.ne_of_lt (Nat.lt_of_lt_of_le A9.lt (leq g11.symm))))).other W15 (Or.inl (Nat.ne_of_lt (Nat.lt_of_lt_of_le A9.lt (leq g11.symm))))) (((F9_21.ext E11).other W13 (Or.inl (Nat.ne_of_lt (Nat.lt_of_lt_of_le A9.lt (leq g11.symm))))).other W15 (Or.inl (Nat.ne_of_lt (Nat.lt_of_lt_of_le A9.lt (leq g11.symm))))) V15 (S_COMPACT_STRINGS.ext ((((hold.ext E9).ext E11).wr W13 g_b11).wr W15 g_b11).2) hz rfl rfl (by decide) (by decide) (by intro c hc; simp only [List.mem_cons, List.not_mem_nil, or_false] at hc; rcases hc with rfl | rfl; exact own_char p1; exact own_char ((p1.toUInt32 >>> ((8 : Int32) &&& 31).toUInt32).toInt32)) rfl (by decide) (by decide)) (g := (mkF m 80 #[iv p1, iv (((p1.toUInt32 >>> ((24 : Int32) &&& 31).toUInt32).toInt32) &&& (3 : Int32)), iv ((p1 &&& (255 : Int32)).toUInt32.toUInt16.toUInt32.toInt32), iv ((((p1.toUInt32 >>> ((8 : Int32) &&& 31).toUInt32).toInt32) &&& (255 : Int32)).toUInt32.toUInt16.toUInt32.toInt32), iv ((((p1.toUInt32 >>> ((16 : Int32) &&& 31).toUInt32).toInt32) &&& (255 : Int32)).toUInt32.toUInt16.toUInt32.toInt32)] [(.ref b11), (.ref b9), (.ref b9)])) rfl (by rw [hml]; rfl) (Steps.refl _) (a := b9) (argsL := [(.ref b11)]) (rest := [(.ref b9)]) (lenOf pd___C_V rfl) rfl (by show 2 * 0 + _ ≤ _; exact Nat.le_of_eq rfl) (hb hby d1_80) (fun _ _ => ⟨rfl, e15, (by decide : 2 + 1 ≤ _), (by decide : 6 + 2 ≤ _)⟩)
        dsimp only [Pt.U, Pt.locs, Pt.cells, Pt.slots] at X17 l17 y17 z17 st17 hQ17
        subst l17 y17 z17
        obtain ⟨rfl, N17q, K17, P17_0, P17_1, t17, kt17, y17a, y17b, y17c, P17_2, P17_3⟩ := hQ17
        have g_t17 : n0 ≤ t17 := ltr (ltr (ltr (ltr (ltr Z0 E9.1) E11.1) (Keep.of_wr W13).1) (Keep.of_wr W15).1) y17b
        have sz_t17 : h0.size ≤ t17 := ltr (((((Keep.refl h0 []).ext E9).ext E11).wr W13 (Or.inr sz_b11)).wr W15 (Or.inr sz_b11)).1 y17b
        have C18 := C16.trans (CHr.keep K17 (allS S16_b9 all0) C16.1)
        have S18_b9 := Safe.keep K17 (allS S16_b9 all0) C16.1 S16_b9
        have N17 := Fr.app N15 N17q
        refine own_go ?_ (fun _ hr => st17.trans hr)
        show own_H (T17.setTop (mkF m 83 #[iv p1, iv (((p1.toUInt32 >>> ((24 : Int32) &&& 31).toUInt32).toInt32) &&& (3 : Int32)), iv ((p1 &&& (255 : Int32)).toUInt32.toUInt16.toUInt32.toInt32), iv ((((p1.toUInt32 >>> ((8 : Int32) &&& 31).toUInt32).toInt32) &&& (255 : Int32)).toUInt32.toUInt16.toUInt32.toInt32), iv ((((p1.toUInt32 >>> ((16 : Int32) &&& 31).toUInt32).toInt32) &&& (255 : Int32)).toUInt32.toUInt16.toUInt32.toInt32)] [(.ref b9)]))
        obtain ⟨fs, hr, hrun, hended, hRW⟩ := Stand.leaveW (s := s) (vm₁ := s.vm) X17 (State.WarmedH.since (State.WarmedH.refl s) 0) (Nat.zero_le _) (v := some (.ref b9)) (fun h => by rw [Bd.returns] at h; cases h)
        have hCe := C18.trans (CHv.at (s := s) (vm0 := s.vm) X17 hZ hEL C18.1)
        exact ⟨_, _, retOut X17 hx Bd.returns rfl (Or.inr (Or.inr (Or.inr (Or.inr ⟨rfl, rfl, rfl⟩)))) (hb hby d1_83) hr, hrun, hended, _, _, rfl, ⟨b9, rfl, N17, ((((((Keep.refl h0 []).ext E9).ext E11).wr W13 (Or.inr sz_b11)).wr W15 (Or.inr sz_b11)).trans K17 (allS (Or.inr sz_b9) all0)), sz_b9, P17_0⟩, (by rw [hh, show (T17.setFrames fs).heap = T17.heap from rfl]; exact hCe), hRW.1, hRW.2.1, hRW.2.2.1, hRW.2.2.2.mono (by decide) (by decide)⟩
      ·
        refine own_go ?_ (fun _ hr => XS.icmpYes X0.here hx rfl (pc0 := 62) (pc' := 84) rfl (hb hby d1_62) rfl (feq hc62).2 (by decide) (by decide) hr)
        show own_H (s₁.setTop (mkF m 84 #[iv p1, iv (((p1.toUInt32 >>> ((24 : Int32) &&& 31).toUInt32).toInt32) &&& (3 : Int32)), iv ((p1 &&& (255 : Int32)).toUInt32.toUInt16.toUInt32.toInt32), iv ((((p1.toUInt32 >>> ((8 : Int32) &&& 31).toUInt32).toInt32) &&& (255 : Int32)).toUInt32.toUInt16.toUInt32.toInt32), iv ((((p1.toUInt32 >>> ((16 : Int32) &&& 31).toUInt32).toInt32) &&& (255 : Int32)).toUInt32.toUInt16.toUInt32.toInt32)] []))
        obtain ⟨T19, h19, X19, e19, E19, A19, D19, -, st19⟩ := newO X0 hx hZ hown (hw _ (tm 4 rfl)) (hw _ (tm 5 rfl)) (hw _ (tm 6 rfl)) e0 (g := (mkF m 84 #[iv p1, iv (((p1.toUInt32 >>> ((24 : Int32) &&& 31).toUInt32).toInt32) &&& (3 : Int32)), iv ((p1 &&& (255 : Int32)).toUInt32.toUInt16.toUInt32.toInt32), iv ((((p1.toUInt32 >>> ((8 : Int32) &&& 31).toUInt32).toInt32) &&& (255 : Int32)).toUInt32.toUInt16.toUInt32.toInt32), iv ((((p1.toUInt32 >>> ((16 : Int32) &&& 31).toUInt32).toInt32) &&& (255 : Int32)).toUInt32.toUInt16.toUInt32.toInt32)] [])) rfl (hb hby d1_84) (by decide) (by decide)
        obtain ⟨b19, g19⟩ : ∃ z, z = h0.size := ⟨_, rfl⟩
        rw [← g19] at A19 D19 st19
        have g_b19 : n0 ≤ b19 := ltr Z0 (leq g19.symm)
        have sz_b19 : h0.size ≤ b19 := ltr (Keep.refl h0 []).1 (leq g19.symm)
        have S0_b19 : Safe Z consts_1 s.vm h0 b19 := Safe.new (leq g19.symm)
        have C20 := hC0.trans (CHr.ext E19 hC0.1)
        have S20_b19 := Safe.ext E19 hC0.1 S0_b19
        have F19_20 : Fld Z h19 b19 "java/lang/String" "value" "[B" .null := D19 (Or.inr (hw _ (tm 20 rfl))) (ty := (.array .byte)) (by decide)
        have F19_21 : Fld Z h19 b19 "java/lang/String" "coder" "B" (.int (0 : Int32)) := D19 (Or.inr (hw _ (tm 21 rfl))) (ty := .byte) (by decide)
        refine own_go ?_ (fun _ hr => st19 _ (XS.dup X19.here hx rfl (hb hby d1_87) rfl rfl (XS.iconst X19.here hx rfl (hb hby d1_88) hr)))
        show own_H (T19.setTop (mkF m 89 #[iv p1, iv (((p1.toUInt32 >>> ((24 : Int32) &&& 31).toUInt32).toInt32) &&& (3 : Int32)), iv ((p1 &&& (255 : Int32)).toUInt32.toUInt16.toUInt32.toInt32), iv ((((p1.toUInt32 >>> ((8 : Int32) &&& 31).toUInt32).toInt32) &&& (255 : Int32)).toUInt32.toUInt16.toUInt32.toInt32), iv ((((p1.toUInt32 >>> ((16 : Int32) &&& 31).toUInt32).toInt32) &&& (255 : Int32)).toUInt32.toUInt16.toUInt32.toInt32)] [(.int (3 : Int32)), (.ref b19), (.ref b19)]))
        obtain ⟨T21, h21, k21, X21, e21, E21, A21, st21⟩ := newP X19 hx hZ (hw _ (tm 7 rfl)) e19 (g := (mkF m 89 #[iv p1, iv (((p1.toUInt32 >>> ((24 : Int32) &&& 31).toUInt32).toInt32) &&& (3 : Int32)), iv ((p1 &&& (255 : Int32)).toUInt32.toUInt16.toUInt32.toInt32), iv ((((p1.toUInt32 >>> ((8 : Int32) &&& 31).toUInt32).toInt32) &&& (255 : Int32)).toUInt32.toUInt16.toUInt32.toInt32), iv ((((p1.toUInt32 >>> ((16 : Int32) &&& 31).toUInt32).toInt32) &&& (255 : Int32)).toUInt32.toUInt16.toUInt32.toInt32)] [(.int (3 : Int32)), (.ref b19), (.ref b19)])) rfl (hb hby d1_89) rfl (by decide) (cap := 3) (by decide) (by decide) (by decide) (by decide)
        obtain ⟨b21, g21⟩ : ∃ z, z = h19.size := ⟨_, rfl⟩
        rw [← g21] at A21 st21
        have V21 : Arv Z h21 b21 k21 .char (3 : Int32) [(.int (0 : Int32)), (.int (0 : Int32)), (.int (0 : Int32))] (.int (0 : Int32)) := (Arv.new A21 (by decide)).pad (pad_rep [] (.int (0 : Int32)) 3)
        have g_b21 : n0 ≤ b21 := ltr (ltr Z0 E19.1) (leq g21.symm)
        have sz_b21 : h0.size ≤ b21 := ltr ((Keep.refl h0 []).ext E19).1 (leq g21.symm)
        have C22 := C20.trans (CHr.ext E21 C20.1)
        have S22_b19 := Safe.ext E21 C20.1 S20_b19
        refine own_go ?_ (fun _ hr => st21 _ (XS.dup X21.here hx rfl (hb hby d1_91) rfl rfl (XS.iconst X21.here hx rfl (hb hby d1_92) (XS.iloadN X21.here hx rfl (hb hby d1_93) rfl hr))))
        show own_H (T21.setTop (mkF m 94 #[iv p1, iv (((p1.toUInt32 >>> ((24 : Int32) &&& 31).toUInt32).toInt32) &&& (3 : Int32)), iv ((p1 &&& (255 : Int32)).toUInt32.toUInt16.toUInt32.toInt32), iv ((((p1.toUInt32 >>> ((8 : Int32) &&& 31).toUInt32).toInt32) &&& (255 : Int32)).toUInt32.toUInt16.toUInt32.toInt32), iv ((((p1.toUInt32 >>> ((16 : Int32) &&& 31).toUInt32).toInt32) &&& (255 : Int32)).toUInt32.toUInt16.toUInt32.toInt32)] [(.int ((p1 &&& (255 : Int32)).toUInt32.toUInt16.toUInt32.toInt32)), (.int (0 : Int32)), (.ref b21), (.ref b21), (.ref b19), (.ref b19)]))
        obtain ⟨cl23, Ar23, qk23, S23, M23, H23, G23⟩ := id V21
        have hin23 : ¬ ((0 : Int32) < 0 ∨ cl23.slots.size ≤ ((0 : Int32)).toNatClampNeg) := inb_of S23 ⟨by decide, by decide⟩
        obtain ⟨T23, h23, X23, e23, W23, st23⟩ := stC X21 hx hZ e21 Ar23 (j := (0 : Int32)) hin23 (g := (mkF m 94 #[iv p1, iv (((p1.toUInt32 >>> ((24 : Int32) &&& 31).toUInt32).toInt32) &&& (3 : Int32)), iv ((p1 &&& (255 : Int32)).toUInt32.toUInt16.toUInt32.toInt32), iv ((((p1.toUInt32 >>> ((8 : Int32) &&& 31).toUInt32).toInt32) &&& (255 : Int32)).toUInt32.toUInt16.toUInt32.toInt32), iv ((((p1.toUInt32 >>> ((16 : Int32) &&& 31).toUInt32).toInt32) &&& (255 : Int32)).toUInt32.toUInt16.toUInt32.toInt32)] [(.int ((p1 &&& (255 : Int32)).toUInt32.toUInt16.toUInt32.toInt32)), (.int (0 : Int32)), (.ref b21), (.ref b21), (.ref b19), (.ref b19)])) rfl rfl (hb hby d1_94)
        have V23 : Arv Z h23 b21 k21 .char (3 : Int32) [(.int (nar .char ((p1 &&& (255 : Int32)).toUInt32.toUInt16.toUInt32.toInt32))), (.int (0 : Int32)), (.int (0 : Int32))] (.int (0 : Int32)) := Arv.set Ar23 qk23 S23 M23 H23 G23 (fits_nar_char _) W23 0 rfl (Nat.le_of_ble_eq_true rfl)
        have N23 := Fr.snoc X23 N0 g_b21
        have C24 := C22.trans (CHr.wr W23 (own_safeV hZ.alike V21 (by decide)) C22.1)
        have S24_b19 := Safe.wr W23 (own_safeV hZ.alike V21 (by decide)) C22.1 S22_b19
        refine own_go ?_ (fun _ hr => st23 _ (XS.dup X23.here hx rfl (hb hby d1_95) rfl rfl (XS.iconst X23.here hx rfl (hb hby d1_96) (XS.iloadN X23.here hx rfl (hb hby d1_97) rfl hr))))
        show own_H (T23.setTop (mkF m 98 #[iv p1, iv (((p1.toUInt32 >>> ((24 : Int32) &&& 31).toUInt32).toInt32) &&& (3 : Int32)), iv ((p1 &&& (255 : Int32)).toUInt32.toUInt16.toUInt32.toInt32), iv ((((p1.toUInt32 >>> ((8 : Int32) &&& 31).toUInt32).toInt32) &&& (255 : Int32)).toUInt32.toUInt16.toUInt32.toInt32), iv ((((p1.toUInt32 >>> ((16 : Int32) &&& 31).toUInt32).toInt32) &&& (255 : Int32)).toUInt32.toUInt16.toUInt32.toInt32)] [(.int ((((p1.toUInt32 >>> ((8 : Int32) &&& 31).toUInt32).toInt32) &&& (255 : Int32)).toUInt32.toUInt16.toUInt32.toInt32)), (.int (1 : Int32)), (.ref b21), (.ref b21), (.ref b19), (.ref b19)]))
        obtain ⟨cl25, Ar25, qk25, S25, M25, H25, G25⟩ := id V23
        have hin25 : ¬ ((1 : Int32) < 0 ∨ cl25.slots.size ≤ ((1 : Int32)).toNatClampNeg) := inb_of S25 ⟨by decide, by decide⟩
        obtain ⟨T25, h25, X25, e25, W25, st25⟩ := stC X23 hx hZ e23 Ar25 (j := (1 : Int32)) hin25 (g := (mkF m 98 #[iv p1, iv (((p1.toUInt32 >>> ((24 : Int32) &&& 31).toUInt32).toInt32) &&& (3 : Int32)), iv ((p1 &&& (255 : Int32)).toUInt32.toUInt16.toUInt32.toInt32), iv ((((p1.toUInt32 >>> ((8 : Int32) &&& 31).toUInt32).toInt32) &&& (255 : Int32)).toUInt32.toUInt16.toUInt32.toInt32), iv ((((p1.toUInt32 >>> ((16 : Int32) &&& 31).toUInt32).toInt32) &&& (255 : Int32)).toUInt32.toUInt16.toUInt32.toInt32)] [(.int ((((p1.toUInt32 >>> ((8 : Int32) &&& 31).toUInt32).toInt32) &&& (255 : Int32)).toUInt32.toUInt16.toUInt32.toInt32)), (.int (1 : Int32)), (.ref b21), (.ref b21), (.ref b19), (.ref b19)])) rfl rfl (hb hby d1_98)
        have V25 : Arv Z h25 b21 k21 .char (3 : Int32) [(.int (nar .char ((p1 &&& (255 : Int32)).toUInt32.toUInt16.toUInt32.toInt32))), (.int (nar .char ((((p1.toUInt32 >>> ((8 : Int32) &&& 31).toUInt32).toInt32) &&& (255 : Int32)).toUInt32.toUInt16.toUInt32.toInt32))), (.int (0 : Int32))] (.int (0 : Int32)) := Arv.set Ar25 qk25 S25 M25 H25 G25 (fits_nar_char _) W25 1 rfl (Nat.le_of_ble_eq_true rfl)
        have N25 := Fr.snoc X25 N23 g_b21
        have C26 := C24.trans (CHr.wr W25 (own_safeV hZ.alike V23 (by decide)) C24.1)
        have S26_b19 := Safe.wr W25 (own_safeV hZ.alike V23 (by decide)) C24.1 S24_b19
        refine own_go ?_ (fun _ hr => st25 _ (XS.dup X25.here hx rfl (hb hby d1_99) rfl rfl (XS.iconst X25.here hx rfl (hb hby d1_100) (XS.iload X25.here hx rfl (hb hby d1_101) rfl hr))))
        show own_H (T25.setTop (mkF m 103 #[iv p1, iv (((p1.toUInt32 >>> ((24 : Int32) &&& 31).toUInt32).toInt32) &&& (3 : Int32)), iv ((p1 &&& (255 : Int32)).toUInt32.toUInt16.toUInt32.toInt32), iv ((((p1.toUInt32 >>> ((8 : Int32) &&& 31).toUInt32).toInt32) &&& (255 : Int32)).toUInt32.toUInt16.toUInt32.toInt32), iv ((((p1.toUInt32 >>> ((16 : Int32) &&& 31).toUInt32).toInt32) &&& (255 : Int32)).toUInt32.toUInt16.toUInt32.toInt32)] [(.int ((((p1.toUInt32 >>> ((16 : Int32) &&& 31).toUInt32).toInt32) &&& (255 : Int32)).toUInt32.toUInt16.toUInt32.toInt32)), (.int (2 : Int32)), (.ref b21), (.ref b21), (.ref b19), (.ref b19)]))
        obtain ⟨cl27, Ar27, qk27, S27, M27, H27, G27⟩ := id V25
        have hin27 : ¬ ((2 : Int32) < 0 ∨ cl27.slots.size ≤ ((2 : Int32)).toNatClampNeg) := inb_of S27 ⟨by decide, by decide⟩
        obtain ⟨T27, h27, X27, e27, W27, st27⟩ := stC X25 hx hZ e25 Ar27 (j := (2 : Int32)) hin27 (g := (mkF m 103 #[iv p1, iv (((p1.toUInt32 >>> ((24 : Int32) &&& 31).toUInt32).toInt32) &&& (3 : Int32)), iv ((p1 &&& (255 : Int32)).toUInt32.toUInt16.toUInt32.toInt32), iv ((((p1.toUInt32 >>> ((8 : Int32) &&& 31).toUInt32).toInt32) &&& (255 : Int32)).toUInt32.toUInt16.toUInt32.toInt32), iv ((((p1.toUInt32 >>> ((16 : Int32) &&& 31).toUInt32).toInt32) &&& (255 : Int32)).toUInt32.toUInt16.toUInt32.toInt32)] [(.int ((((p1.toUInt32 >>> ((16 : Int32) &&& 31).toUInt32).toInt32) &&& (255 : Int32)).toUInt32.toUInt16.toUInt32.toInt32)), (.int (2 : Int32)), (.ref b21), (.ref b21), (.ref b19), (.ref b19)])) rfl rfl (hb hby d1_103)
        have V27 : Arv Z h27 b21 k21 .char (3 : Int32) [(.int (nar .char ((p1 &&& (255 : Int32)).toUInt32.toUInt16.toUInt32.toInt32))), (.int (nar .char ((((p1.toUInt32 >>> ((8 : Int32) &&& 31).toUInt32).toInt32) &&& (255 : Int32)).toUInt32.toUInt16.toUInt32.toInt32))), (.int (nar .char ((((p1.toUInt32 >>> ((16 : Int32) &&& 31).toUInt32).toInt32) &&& (255 : Int32)).toUInt32.toUInt16.toUInt32.toInt32)))] (.int (0 : Int32)) := Arv.set Ar27 qk27 S27 M27 H27 G27 (fits_nar_char _) W27 2 rfl (Nat.le_of_ble_eq_true rfl)
        have N27 := Fr.snoc X27 N25 g_b21
        have C28 := C26.trans (CHr.wr W27 (own_safeV hZ.alike V25 (by decide)) C26.1)
        have S28_b19 := Safe.wr W27 (own_safeV hZ.alike V25 (by decide)) C26.1 S26_b19
        refine own_go ?_ (fun _ hr => st27 _ hr)
        show own_H (T27.setTop (mkF m 104 #[iv p1, iv (((p1.toUInt32 >>> ((24 : Int32) &&& 31).toUInt32).toInt32) &&& (3 : Int32)), iv ((p1 &&& (255 : Int32)).toUInt32.toUInt16.toUInt32.toInt32), iv ((((p1.toUInt32 >>> ((8 : Int32) &&& 31).toUInt32).toInt32) &&& (255 : Int32)).toUInt32.toUInt16.toUInt32.toInt32), iv ((((p1.toUInt32 >>> ((16 : Int32) &&& 31).toUInt32).toInt32) &&& (255 : Int32)).toUInt32.toUInt16.toUInt32.toInt32)] [(.ref b21), (.ref b19), (.ref b19)]))
        obtain ⟨_, _, ⟨T29, L29, k29, n29⟩, -, X29, ⟨Lc29, hQ29, l29, y29, z29⟩, st29⟩ := X27.specialBack hx (y := y5_) rfl hown (mvT hZ (hw _ (tm 8 rfl))) (mvT hZ (hw _ (tm 9 rfl))) (mvT hZ (hw _ (tm 10 rfl))) (by decide) (StrChars.Road.backV (W := 1) hZ hws (kI := 4) (hw _ (tm 5 rfl)) (cs := ([(nar .char ((p1 &&& (255 : Int32)).toUInt32.toUInt16.toUInt32.toInt32)), (nar .char ((((p1.toUInt32 >>> ((8 : Int32) &&& 31).toUInt32).toInt32) &&& (255 : Int32)).toUInt32.toUInt16.toUInt32.toInt32)), (nar .char ((((p1.toUInt32 >>> ((16 : Int32) &&& 31).toUInt32).toInt32) &&& (255 : Int32)).toUInt32.toUInt16.toUInt32.toInt32))] : List Int32)) (bs := (([(nar .char ((p1 &&& (255 : Int32)).toUInt32.toUInt16.toUInt32.toInt32)), (nar .char ((((p1.toUInt32 >>> ((8 : Int32) &&& 31).toUInt32).toInt32) &&& (255 : Int32)).toUInt32.toUInt16.toUInt32.toInt32)), (nar .char ((((p1.toUInt32 >>> ((16 : Int32) &&& 31).toUInt32).toInt32) &&& (255 : Int32)).toUInt32.toUInt16.toUInt32.toInt32))] : List Int32)).map (fun c => c.toInt8.toInt32)) (n := 3) g_b19 (ltr (ltr (ltr (ltr (ltr Z0 E19.1) E21.1) (Keep.of_wr W23).1) (Keep.of_wr W25).1) (Keep.of_wr W27).1) ((((A19.ext E21).wr W23).wr W25).wr W27) ((((F19_20.ext E21).other W23 (Or.inl (Nat.ne_of_lt (Nat.lt_of_lt_of_le A19.lt (leq g21.symm))))).other W25 (Or.inl (Nat.ne_of_lt (Nat.lt_of_lt_of_le A19.lt (leq g21.symm))))).other W27 (Or.inl (Nat.ne_of_lt (Nat.lt_of_lt_of_le A19.lt (leq g21.symm))))) ((((F19_21.ext E21).other W23 (Or.inl (Nat.ne_of_lt (Nat.lt_of_lt_of_le A19.lt (leq g21.symm))))).other W25 (Or.inl (Nat.ne_of_lt (Nat.lt_of_lt_of_le A19.lt (leq g21.symm))))).other W27 (Or.inl (Nat.ne_of_lt (Nat.lt_of_lt_of_le A19.lt (leq g21.symm))))) V27 (S_COMPACT_STRINGS.ext (((((hold.ext E19).ext E21).wr W23 g_b21).wr W25 g_b21).wr W27 g_b21).2) hz rfl rfl (by decide) (by decide) (by intro c hc; simp only [List.mem_cons, List.not_mem_nil, or_false] at hc; rcases hc with rfl | rfl | rfl; exact own_char p1; exact own_char ((p1.toUInt32 >>> ((8 : Int32) &&& 31).toUInt32).toInt32); exact own_char ((p1.toUInt32 >>> ((16 : Int32) &&& 31).toUInt32).toInt32)) rfl (by decide) (by decide)) (g := (mkF m 104 #[iv p1, iv (((p1.toUInt32 >>> ((24 : Int32) &&& 31).toUInt32).toInt32) &&& (3 : Int32)), iv ((p1 &&& (255 : Int32)).toUInt32.toUInt16.toUInt32.toInt32), iv ((((p1.toUInt32 >>> ((8 : Int32) &&& 31).toUInt32).toInt32) &&& (255 : Int32)).toUInt32.toUInt16.toUInt32.toInt32), iv ((((p1.toUInt32 >>> ((16 : Int32) &&& 31).toUInt32).toInt32) &&& (255 : Int32)).toUInt32.toUInt16.toUInt32.toInt32)] [(.ref b21), (.ref b19), (.ref b19)])) rfl (by rw [hml]; rfl) (Steps.refl _) (a := b19) (argsL := [(.ref b21)]) (rest := [(.ref b19)]) (lenOf pd___C_V rfl) rfl (by show 2 * 0 + _ ≤ _; exact Nat.le_of_eq rfl) (hb hby d1_104) (fun _ _ => ⟨rfl, e27, (by decide : 2 + 1 ≤ _), (by decide : 7 + 3 ≤ _)⟩)
        dsimp only [Pt.U, Pt.locs, Pt.cells, Pt.slots] at X29 l29 y29 z29 st29 hQ29
        subst l29 y29 z29
        obtain ⟨rfl, N29q, K29, P29_0, P29_1, t29, kt29, y29a, y29b, y29c, P29_2, P29_3⟩ := hQ29
        have g_t29 : n0 ≤ t29 := ltr (ltr (ltr (ltr (ltr (ltr Z0 E19.1) E21.1) (Keep.of_wr W23).1) (Keep.of_wr W25).1) (Keep.of_wr W27).1) y29b
        have sz_t29 : h0.size ≤ t29 := ltr ((((((Keep.refl h0 []).ext E19).ext E21).wr W23 (Or.inr sz_b21)).wr W25 (Or.inr sz_b21)).wr W27 (Or.inr sz_b21)).1 y29b
        have C30 := C28.trans (CHr.keep K29 (allS S28_b19 all0) C28.1)
        have S30_b19 := Safe.keep K29 (allS S28_b19 all0) C28.1 S28_b19
        have N29 := Fr.app N27 N29q
        refine own_go ?_ (fun _ hr => st29.trans hr)
        show own_H (T29.setTop (mkF m 107 #[iv p1, iv (((p1.toUInt32 >>> ((24 : Int32) &&& 31).toUInt32).toInt32) &&& (3 : Int32)), iv ((p1 &&& (255 : Int32)).toUInt32.toUInt16.toUInt32.toInt32), iv ((((p1.toUInt32 >>> ((8 : Int32) &&& 31).toUInt32).toInt32) &&& (255 : Int32)).toUInt32.toUInt16.toUInt32.toInt32), iv ((((p1.toUInt32 >>> ((16 : Int32) &&& 31).toUInt32).toInt32) &&& (255 : Int32)).toUInt32.toUInt16.toUInt32.toInt32)] [(.ref b19)]))
        obtain ⟨fs, hr, hrun, hended, hRW⟩ := Stand.leaveW (s := s) (vm₁ := s.vm) X29 (State.WarmedH.since (State.WarmedH.refl s) 0) (Nat.zero_le _) (v := some (.ref b19)) (fun h => by rw [Bd.returns] at h; cases h)
        have hCe := C30.trans (CHv.at (s := s) (vm0 := s.vm) X29 hZ hEL C30.1)
        exact ⟨_, _, retOut X29 hx Bd.returns rfl (Or.inr (Or.inr (Or.inr (Or.inr ⟨rfl, rfl, rfl⟩)))) (hb hby d1_107) hr, hrun, hended, _, _, rfl, ⟨b19, rfl, N29, (((((((Keep.refl h0 []).ext E19).ext E21).wr W23 (Or.inr sz_b21)).wr W25 (Or.inr sz_b21)).wr W27 (Or.inr sz_b21)).trans K29 (allS (Or.inr sz_b19) all0)), sz_b19, P29_0⟩, (by rw [hh, show (T29.setFrames fs).heap = T29.heap from rfl]; exact hCe), hRW.1, hRW.2.1, hRW.2.2.1, hRW.2.2.2.mono (by decide) (by decide)⟩
theorem d7_0 : decode jdk_22_method_1_code 0 = .ok (.aload_n 0, 1) := by decide +kernel
theorem d7_1 : decode jdk_22_method_1_code 1 = .ok (.invokespecial 1, 3) := by decide +kernel
theorem d7_4 : decode jdk_22_method_1_code 4 = .ok (.return_, 1) := by decide +kernel
theorem pn_7 : plainName "java/util/AbstractCollection" = true := by first | (simp [plainName, overriddenIn]; done) | decide +kernel
theorem ef_7 (m : MethodId) (x0 : Addr) : entryFrame m #[(.ref x0)] 1 = mkF m 0 #[rv x0] [] := by first | (simp [entryFrame, mkF, argsToLocals, Value.category]; done) | rfl
def Q_rm7 (Z : State) (a1 : Addr) (h0 : Heap) (n0 : Nat) : Option Value → Heap → List Loc → Prop := fun v h L => v = none ∧ Fr n0 L ∧ h = h0
set_option maxRecDepth 65536 in
set_option maxHeartbeats 40000000 in
theorem rm7 (l : Launch) (Z : State) (a0 : Array Value) (hw : ∀ d ∈ tables_1, d.before a0 Z = true) (ws : List Jvm.Cond) (a1 : Addr) (h0 : Heap) (n0 : Nat) (Z0 : n0 ≤ h0.size) :
    MetFree l y7_ (head1 (Jvm.Cond.code y7_ jdk_22_method_1_code 1 none :: ws) R2_) (fun a U => a = #[(.ref a1)] ∧ Z.Warmed39 U.vm ∧ U.heap = h0) (fun _ _ _ _ _ => True) (fun _ U o U' => ∃ v L, o = .returned v ∧ (Q_rm7 Z a1 h0 n0) v U'.heap L ∧ FrameEnd U o U' L R2_.cells R2_.slots) := by
  refine MetFree.of_bodySF (plainFor_of_name pn_7) hisR ?_
  intro p e s m args below meth c s₁ Bd hml0 hP hK
  obtain ⟨rfl, hZ, hh⟩ := hP
  have hx := Bd.exec
  have hby := Bd.bytes
  have hml : c.maxLocals = 1 := hml0
  have hown : s.vm.findClass "java/util/AbstractCollection" = some m.cls := findClass_of_methodNamed Bd.named
  have hnm := (name_of_methodNamed Bd.named Bd.method).1
  have X0 : Stand p l e R2_ s m #[(.ref a1)] below meth c s₁ [] 0 0 := Stand.of_body Bd
  have e0 : s₁.heap = h0 := by rw [← hh, Bd.state]; rfl
  have N0 := Fr.nil n0
  show own_G FrameEnd p e below s R2_.cells R2_.slots (Q_rm7 Z a1 h0 n0) (s₁.setTop (entryFrame m #[(.ref a1)] 1))
  refine own_go (Y' := s₁.setTop (mkF m 0 #[rv a1] [])) ?_ (fun t k => castTop (ef_7 m a1) k)
  refine own_go ?_ (fun _ hr => XS.aloadN X0.here hx rfl (hb hby d7_0) rfl rfl hr)
  show own_H (s₁.setTop (mkF m 1 #[rv a1] [(.ref a1)]))
  obtain ⟨T1, X1, e1, st1⟩ := initO X0 hx hZ hown (hw _ (tm 44 rfl)) (hw _ (tm 16 rfl)) (hw _ (tm 17 rfl)) e0 (g := (mkF m 1 #[rv a1] [(.ref a1)])) rfl (by rw [hml]; rfl) rfl (hb hby d7_1) (by decide) (W := 0) (by show 2 * 0 + _ ≤ _; exact Nat.le_of_eq rfl) (by decide)
  refine own_go ?_ (fun _ hr => st1 _ hr)
  show own_H (T1.setTop (mkF m 4 #[rv a1] []))
  obtain ⟨fs, hr, hrun, hended, hW, hsame⟩ := X1.leave (v := none) (fun _ => rfl)
  exact ⟨_, _, X1.returnOut hx Bd.returns (hb hby d7_4) hr, hrun, hended, _, _, rfl, ⟨rfl, N0, e1⟩, ⟨_, rfl⟩, hW, hsame.mono (by decide) (by decide)⟩
theorem d6_0 : decode jdk_39_method_1_code 0 = .ok (.aload_n 0, 1) := by decide +kernel
theorem d6_1 : decode jdk_39_method_1_code 1 = .ok (.invokespecial 1, 3) := by decide +kernel
theorem d6_4 : decode jdk_39_method_1_code 4 = .ok (.aload_n 0, 1) := by decide +kernel
theorem d6_5 : decode jdk_39_method_1_code 5 = .ok (.iconst 0, 1) := by decide +kernel
theorem d6_6 : decode jdk_39_method_1_code 6 = .ok (.putfield 7, 3) := by decide +kernel
theorem d6_9 : decode jdk_39_method_1_code 9 = .ok (.return_, 1) := by decide +kernel
theorem pn_6 : plainName "java/util/AbstractList" = true := by first | (simp [plainName, overriddenIn]; done) | decide +kernel
theorem pd___V : parseMethodDescriptor "()V" = some ⟨[], none⟩ := by decide +kernel
theorem ef_6 (m : MethodId) (x0 : Addr) : entryFrame m #[(.ref x0)] 1 = mkF m 0 #[rv x0] [] := by first | (simp [entryFrame, mkF, argsToLocals, Value.category]; done) | rfl
def Q_rm6 (Z : State) (a1 : Addr) (u0 : Value) (u1 : Value) (u2 : Value) (h0 : Heap) (n0 : Nat) : Option Value → Heap → List Loc → Prop := fun v h L => v = none ∧ Fr n0 L ∧ Keep h0 h [a1] ∧ Exa Z h a1 "java/util/ArrayList" ∧ Fld Z h a1 "java/util/AbstractList" "modCount" "I" (.int (0 : Int32)) ∧ Fld Z h a1 "java/util/ArrayList" "elementData" "[Ljava/lang/Object;" u1 ∧ Fld Z h a1 "java/util/ArrayList" "size" "I" u2
set_option maxRecDepth 65536 in
set_option maxHeartbeats 40000000 in
theorem rm6 (l : Launch) (Z : State) (a0 : Array Value) (hw : ∀ d ∈ tables_1, d.before a0 Z = true) (ws : List Jvm.Cond) (a1 : Addr) (u0 : Value) (u1 : Value) (u2 : Value) (h0 : Heap) (n0 : Nat) (Z0 : n0 ≤ h0.size) (E_a1 : Exa Z h0 a1 "java/util/ArrayList") (F_a1_modCount : Fld Z h0 a1 "java/util/AbstractList" "modCount" "I" u0) (F_a1_elementData : Fld Z h0 a1 "java/util/ArrayList" "elementData" "[Ljava/lang/Object;" u1) (F_a1_size : Fld Z h0 a1 "java/util/ArrayList" "size" "I" u2) (g_a1 : n0 ≤ a1) :
    MetFree l y8_ (head1 (Jvm.Cond.code y8_ jdk_39_method_1_code 1 none :: ws) R7_) (fun a U => a = #[(.ref a1)] ∧ Z.Warmed39 U.vm ∧ U.heap = h0) (fun _ _ _ _ _ => True) (fun _ U o U' => ∃ v L, o = .returned v ∧ (Q_rm6 Z a1 u0 u1 u2 h0 n0) v U'.heap L ∧ FrameEnd U o U' L R7_.cells R7_.slots) := by
  refine MetFree.of_bodySF (plainFor_of_name pn_6) hisR ?_
  intro p e s m args below meth c s₁ Bd hml0 hP hK
  obtain ⟨rfl, hZ, hh⟩ := hP
  have hx := Bd.exec
  have hby := Bd.bytes
  have hml : c.maxLocals = 1 := hml0
  have hown : s.vm.findClass "java/util/AbstractList" = some m.cls := findClass_of_methodNamed Bd.named
  have hnm := (name_of_methodNamed Bd.named Bd.method).1
  have X0 : Stand p l e R7_ s m #[(.ref a1)] below meth c s₁ [] 0 0 := Stand.of_body Bd
  have e0 : s₁.heap = h0 := by rw [← hh, Bd.state]; rfl
  have N0 := Fr.nil n0
  show own_G FrameEnd p e below s R7_.cells R7_.slots (Q_rm6 Z a1 u0 u1 u2 h0 n0) (s₁.setTop (entryFrame m #[(.ref a1)] 1))
  refine own_go (Y' := s₁.setTop (mkF m 0 #[rv a1] [])) ?_ (fun t k => castTop (ef_6 m a1) k)
  refine own_go ?_ (fun _ hr => XS.aloadN X0.here hx rfl (hb hby d6_0) rfl rfl hr)
  show own_H (s₁.setTop (mkF m 1 #[rv a1] [(.ref a1)]))
  obtain ⟨_, _, ⟨T1, L1, k1, n1⟩, -, X1, ⟨Lc1, hQ1, l1, y1, z1⟩, st1⟩ := X0.specialBack hx (y := y7_) rfl hown (mvT hZ (hw _ (tm 38 rfl))) (mvT hZ (hw _ (tm 39 rfl))) (mvT hZ (hw _ (tm 43 rfl))) (by decide) (backOf (W := 0) (rm7 l Z a0 hw [] a1 h0 n0 Z0 ) hZ (hw _ (tm 43 rfl)) (hw _ (tm 42 rfl)) (by decide) (by decide)) (g := (mkF m 1 #[rv a1] [(.ref a1)])) rfl (by rw [hml]; rfl) (Steps.refl _) (a := a1) (argsL := []) (rest := []) (lenOf pd___V rfl) rfl (by show 2 * 0 + _ ≤ _; exact Nat.le_of_eq rfl) (hb hby d6_1) (fun _ _ => ⟨rfl, e0, (by decide : 0 + 0 ≤ _), (by decide : 0 + 0 ≤ _)⟩)
  dsimp only [Pt.U, Pt.locs, Pt.cells, Pt.slots] at X1 l1 y1 z1 st1 hQ1
  subst l1 y1 z1
  obtain ⟨rfl, N1q, e1⟩ := hQ1
  have N1 := Fr.app N0 N1q
  refine own_go ?_ (fun _ hr => st1.trans (XS.aloadN X1.here hx rfl (hb hby d6_4) rfl rfl (XS.iconst X1.here hx rfl (hb hby d6_5) hr)))
  show own_H (T1.setTop (mkF m 6 #[rv a1] [(.int (0 : Int32)), (.ref a1)]))
  obtain ⟨T2, h2, X2, e2, W2, st2⟩ := putF X1 hx hZ hown (host := "") (Or.inl (hw _ (tm 45 rfl))) Via.refl e1 F_a1_modCount E_a1 (Or.inl (hw _ (tm 46 rfl))) (hw _ (tm 27 rfl)) (ty := .int) (by decide) rfl rfl (g := (mkF m 6 #[rv a1] [(.int (0 : Int32)), (.ref a1)])) rfl rfl (hb hby d6_6)
  have Fw2 := F_a1_modCount.same W2
  have N2 := Fr.snoc X2 N1 g_a1
  refine own_go ?_ (fun _ hr => st2 _ hr)
  show own_H (T2.setTop (mkF m 9 #[rv a1] []))
  obtain ⟨fs, hr, hrun, hended, hW, hsame⟩ := X2.leave (v := none) (fun _ => rfl)
  exact ⟨_, _, X2.returnOut hx Bd.returns (hb hby d6_9) hr, hrun, hended, _, _, rfl, (by rw [show (T2.setFrames fs).heap = h2 from e2]; exact ⟨rfl, N2, ((Keep.refl h0 [a1]).wr W2 (Or.inl (List.mem_of_getElem? (i := 0) rfl))), (E_a1.wr W2), Fw2, (F_a1_elementData.other W2 (Or.inr (slot_ne (Or.inl (hw _ (tm 49 rfl))) (Or.inl (hw _ (tm 46 rfl))) (by decide) (t := (.array (.object "java/lang/Object"))) (t' := .int) (by decide) (by decide)))), (F_a1_size.other W2 (Or.inr (slot_ne (Or.inl (hw _ (tm 58 rfl))) (Or.inl (hw _ (tm 46 rfl))) (by decide) (t := .int) (t' := .int) (by decide) (by decide))))⟩), ⟨_, rfl⟩, hW, hsame.mono (by decide) (by decide)⟩
theorem d5_0 : decode jdk_38_method_2_code 0 = .ok (.aload_n 0, 1) := by decide +kernel
theorem d5_1 : decode jdk_38_method_2_code 1 = .ok (.invokespecial 1, 3) := by decide +kernel
theorem d5_4 : decode jdk_38_method_2_code 4 = .ok (.aload_n 0, 1) := by decide +kernel
theorem d5_5 : decode jdk_38_method_2_code 5 = .ok (.getstatic 39, 3) := by decide +kernel
theorem d5_8 : decode jdk_38_method_2_code 8 = .ok (.putfield 9, 3) := by decide +kernel
theorem d5_11 : decode jdk_38_method_2_code 11 = .ok (.return_, 1) := by decide +kernel
theorem pn_5 : plainName "java/util/ArrayList" = true := by first | (simp [plainName, overriddenIn]; done) | decide +kernel
theorem ef_5 (m : MethodId) (x0 : Addr) : entryFrame m #[(.ref x0)] 1 = mkF m 0 #[rv x0] [] := by first | (simp [entryFrame, mkF, argsToLocals, Value.category]; done) | rfl
def Q_rm5 (Z : State) (a1 : Addr) (u0 : Value) (u1 : Value) (u2 : Value) (wE : Addr) (h0 : Heap) (n0 : Nat) : Option Value → Heap → List Loc → Prop := fun v h L => v = none ∧ Fr n0 L ∧ Keep h0 h [a1] ∧ Exa Z h a1 "java/util/ArrayList" ∧ Fld Z h a1 "java/util/AbstractList" "modCount" "I" (.int (0 : Int32)) ∧ Fld Z h a1 "java/util/ArrayList" "elementData" "[Ljava/lang/Object;" (.ref wE) ∧ Fld Z h a1 "java/util/ArrayList" "size" "I" u2
set_option maxRecDepth 65536 in
set_option maxHeartbeats 40000000 in
theorem rm5 (l : Launch) (Z : State) (a0 : Array Value) (hw : ∀ d ∈ tables_1, d.before a0 Z = true) (ws : List Jvm.Cond) (a1 : Addr) (u0 : Value) (u1 : Value) (u2 : Value) (wE : Addr) (h0 : Heap) (n0 : Nat) (Z0 : n0 ≤ h0.size) (E_a1 : Exa Z h0 a1 "java/util/ArrayList") (F_a1_modCount : Fld Z h0 a1 "java/util/AbstractList" "modCount" "I" u0) (F_a1_elementData : Fld Z h0 a1 "java/util/ArrayList" "elementData" "[Ljava/lang/Object;" u1) (F_a1_size : Fld Z h0 a1 "java/util/ArrayList" "size" "I" u2) (g_a1 : n0 ≤ a1) (hold : Old Z n0 h0) (S_DEFAULTCAPACITY_EMPTY_ELEMENTDATA : Sta Z Z.heap "java/util/ArrayList" "DEFAULTCAPACITY_EMPTY_ELEMENTDATA" "[Ljava/lang/Object;" (.ref wE)) :
    MetFree l y9_ (head1 (Jvm.Cond.code y9_ jdk_38_method_2_code 1 none :: ws) R8_) (fun a U => a = #[(.ref a1)] ∧ Z.Warmed39 U.vm ∧ U.heap = h0) (fun _ _ _ _ _ => True) (fun _ U o U' => ∃ v L, o = .returned v ∧ (Q_rm5 Z a1 u0 u1 u2 wE h0 n0) v U'.heap L ∧ FrameEnd U o U' L R8_.cells R8_.slots) := by
  refine MetFree.of_bodySF (plainFor_of_name pn_5) hisR ?_
  intro p e s m args below meth c s₁ Bd hml0 hP hK
  obtain ⟨rfl, hZ, hh⟩ := hP
  have hx := Bd.exec
  have hby := Bd.bytes
  have hml : c.maxLocals = 1 := hml0
  have hown : s.vm.findClass "java/util/ArrayList" = some m.cls := findClass_of_methodNamed Bd.named
  have hnm := (name_of_methodNamed Bd.named Bd.method).1
  have X0 : Stand p l e R8_ s m #[(.ref a1)] below meth c s₁ [] 0 0 := Stand.of_body Bd
  have e0 : s₁.heap = h0 := by rw [← hh, Bd.state]; rfl
  have N0 := Fr.nil n0
  show own_G FrameEnd p e below s R8_.cells R8_.slots (Q_rm5 Z a1 u0 u1 u2 wE h0 n0) (s₁.setTop (entryFrame m #[(.ref a1)] 1))
  refine own_go (Y' := s₁.setTop (mkF m 0 #[rv a1] [])) ?_ (fun t k => castTop (ef_5 m a1) k)
  refine own_go ?_ (fun _ hr => XS.aloadN X0.here hx rfl (hb hby d5_0) rfl rfl hr)
  show own_H (s₁.setTop (mkF m 1 #[rv a1] [(.ref a1)]))
  obtain ⟨_, _, ⟨T1, L1, k1, n1⟩, -, X1, ⟨Lc1, hQ1, l1, y1, z1⟩, st1⟩ := X0.specialBack hx (y := y8_) rfl hown (mvT hZ (hw _ (tm 32 rfl))) (mvT hZ (hw _ (tm 33 rfl))) (mvT hZ (hw _ (tm 37 rfl))) (by decide) (backOf (W := 0) (rm6 l Z a0 hw [] a1 (u0) (u1) (u2) h0 n0 Z0 E_a1 F_a1_modCount F_a1_elementData F_a1_size g_a1) hZ (hw _ (tm 37 rfl)) (hw _ (tm 36 rfl)) (by decide) (by decide)) (g := (mkF m 1 #[rv a1] [(.ref a1)])) rfl (by rw [hml]; rfl) (Steps.refl _) (a := a1) (argsL := []) (rest := []) (lenOf pd___V rfl) rfl (by show 2 * 0 + _ ≤ _; exact Nat.le_of_eq rfl) (hb hby d5_1) (fun _ _ => ⟨rfl, e0, (by decide : 0 + 0 ≤ _), (by decide : 0 + 0 ≤ _)⟩)
  dsimp only [Pt.U, Pt.locs, Pt.cells, Pt.slots] at X1 l1 y1 z1 st1 hQ1
  subst l1 y1 z1
  obtain ⟨rfl, N1q, K1, P1_0, P1_1, P1_2, P1_3⟩ := hQ1
  have N1 := Fr.app N0 N1q
  refine own_go ?_ (fun _ hr => st1.trans (XS.aloadN X1.here hx rfl (hb hby d5_4) rfl rfl hr))
  show own_H (T1.setTop (mkF m 5 #[rv a1] [(.ref a1)]))
  obtain ⟨T2, X2, e2, st2⟩ := getS2 X1 hx hZ hown (host := "") (Or.inl (hw _ (tm 47 rfl))) Via.refl rfl (S_DEFAULTCAPACITY_EMPTY_ELEMENTDATA.ext (hold.keep K1 (allS g_a1 all0)).2) (g := (mkF m 5 #[rv a1] [(.ref a1)])) rfl (hb hby d5_5)
  refine own_go ?_ (fun _ hr => st2 _ hr)
  show own_H (T2.setTop (mkF m 8 #[rv a1] [(.ref wE), (.ref a1)]))
  obtain ⟨T3, h3, X3, e3, W3, st3⟩ := putF X2 hx hZ hown (host := "") (Or.inl (hw _ (tm 48 rfl))) Via.refl e2 P1_2 P1_0 (Or.inl (hw _ (tm 49 rfl))) (hw _ (tm 27 rfl)) (ty := (.array (.object "java/lang/Object"))) (by decide) rfl rfl (g := (mkF m 8 #[rv a1] [(.ref wE), (.ref a1)])) rfl rfl (hb hby d5_8)
  have Fw3 := P1_2.same W3
  have N3 := Fr.snoc X3 N1 g_a1
  refine own_go ?_ (fun _ hr => st3 _ hr)
  show own_H (T3.setTop (mkF m 11 #[rv a1] []))
  obtain ⟨fs, hr, hrun, hended, hW, hsame⟩ := X3.leave (v := none) (fun _ => rfl)
  exact ⟨_, _, X3.returnOut hx Bd.returns (hb hby d5_11) hr, hrun, hended, _, _, rfl, (by rw [show (T3.setFrames fs).heap = h3 from e3]; exact ⟨rfl, N3, (((Keep.refl h0 [a1]).trans K1 (allS (Or.inl (List.mem_of_getElem? (i := 0) rfl)) all0)).wr W3 (Or.inl (List.mem_of_getElem? (i := 0) rfl))), (P1_0.wr W3), (P1_1.other W3 (Or.inr (slot_ne (Or.inl (hw _ (tm 46 rfl))) (Or.inl (hw _ (tm 49 rfl))) (by decide) (t := .int) (t' := (.array (.object "java/lang/Object"))) (by decide) (by decide)))), Fw3, (P1_3.other W3 (Or.inr (slot_ne (Or.inl (hw _ (tm 58 rfl))) (Or.inl (hw _ (tm 49 rfl))) (by decide) (t := .int) (t' := (.array (.object "java/lang/Object"))) (by decide) (by decide))))⟩), ⟨_, rfl⟩, hW, hsame.mono (by decide) (by decide)⟩
theorem d12_0 : decode jdk_29_method_65_code 0 = .ok (.iload_n 0, 1) := by decide +kernel
theorem d12_1 : decode jdk_29_method_65_code 1 = .ok (.iload_n 1, 1) := by decide +kernel
theorem d12_2 : decode jdk_29_method_65_code 2 = .ok (.if_icmp .lt 7, 3) := by decide +kernel
theorem d12_5 : decode jdk_29_method_65_code 5 = .ok (.iload_n 0, 1) := by decide +kernel
theorem d12_6 : decode jdk_29_method_65_code 6 = .ok (.goto 4, 3) := by decide +kernel
theorem d12_10 : decode jdk_29_method_65_code 10 = .ok (.ireturn, 1) := by decide +kernel
theorem ef_12 (m : MethodId) (x0 : Int32) (x1 : Int32) : entryFrame m #[(.int x0), (.int x1)] 2 = mkF m 0 #[iv x0, iv x1] [] := by first | (simp [entryFrame, mkF, argsToLocals, Value.category]; done) | rfl
def Q_rm_max (Z : State)  (h0 : Heap) (n0 : Nat) : Option Value → Heap → List Loc → Prop := fun v h L => v = some (.int (10 : Int32)) ∧ Fr n0 L ∧ h = h0
set_option maxRecDepth 65536 in
set_option maxHeartbeats 40000000 in
theorem rm_max (l : Launch) (Z : State) (a0 : Array Value) (hw : ∀ d ∈ tables_1, d.before a0 Z = true) (ws : List Jvm.Cond)  (h0 : Heap) (n0 : Nat) (Z0 : n0 ≤ h0.size) :
    MetFree l y10_ (head1 (Jvm.Cond.code y10_ jdk_29_method_65_code 2 (some .int) :: ws) R0_) (fun a U => a = #[(.int (10 : Int32)), (.int (1 : Int32))] ∧ Z.Warmed39 U.vm ∧ U.heap = h0) (fun _ _ _ _ _ => True) (fun _ U o U' => ∃ v L, o = .returned v ∧ (Q_rm_max Z  h0 n0) v U'.heap L ∧ FrameEnd U o U' L R0_.cells R0_.slots) := by
  refine MetFree.of_bodySF (Jvm.Free.JP.mathPlain rfl (by decide +kernel)) hisR ?_
  intro p e s m args below meth c s₁ Bd hml0 hP hK
  obtain ⟨rfl, hZ, hh⟩ := hP
  have hx := Bd.exec
  have hby := Bd.bytes
  have hml : c.maxLocals = 2 := hml0
  have hown : s.vm.findClass "java/lang/Math" = some m.cls := findClass_of_methodNamed Bd.named
  have hnm := (name_of_methodNamed Bd.named Bd.method).1
  have X0 : Stand p l e R0_ s m #[(.int (10 : Int32)), (.int (1 : Int32))] below meth c s₁ [] 0 0 := Stand.of_body Bd
  have e0 : s₁.heap = h0 := by rw [← hh, Bd.state]; rfl
  have N0 := Fr.nil n0
  show own_G FrameEnd p e below s R0_.cells R0_.slots (Q_rm_max Z  h0 n0) (s₁.setTop (entryFrame m #[(.int (10 : Int32)), (.int (1 : Int32))] 2))
  refine own_go (Y' := s₁.setTop (mkF m 0 #[iv (10 : Int32), iv (1 : Int32)] [])) ?_ (fun t k => castTop (ef_12 m (10 : Int32) (1 : Int32)) k)
  refine own_go ?_ (fun _ hr => XS.iloadN X0.here hx rfl (hb hby d12_0) rfl (XS.iloadN X0.here hx rfl (hb hby d12_1) rfl (XS.icmpNo X0.here hx rfl (hb hby d12_2) rfl (flt (by decide : ¬ ((10 : Int32) < (1 : Int32)))).1 (XS.iloadN X0.here hx rfl (hb hby d12_5) rfl (XS.goto X0.here hx rfl (pc0 := 6) (pc' := 10) rfl (hb hby d12_6) (by decide) (by decide) hr)))))
  show own_H (s₁.setTop (mkF m 10 #[iv (10 : Int32), iv (1 : Int32)] [(.int (10 : Int32))]))
  obtain ⟨fs, hr, hrun, hended, hW, hsame⟩ := X0.leave (v := some (.int (10 : Int32))) (fun h => by rw [Bd.returns] at h; cases h)
  exact ⟨_, _, retI X0 hx Bd.returns (hb hby d12_10) hr, hrun, hended, _, _, rfl, ⟨rfl, N0, e0⟩, ⟨_, rfl⟩, hW, hsame.mono (by decide) (by decide)⟩
theorem d11_0 : decode jdk_38_method_6_code 0 = .ok (.aload_n 0, 1) := by decide +kernel
theorem d11_1 : decode jdk_38_method_6_code 1 = .ok (.getfield 9, 3) := by decide +kernel
theorem d11_4 : decode jdk_38_method_6_code 4 = .ok (.arraylength, 1) := by decide +kernel
theorem d11_5 : decode jdk_38_method_6_code 5 = .ok (.istore_n 2, 1) := by decide +kernel
theorem d11_6 : decode jdk_38_method_6_code 6 = .ok (.iload_n 2, 1) := by decide +kernel
theorem d11_7 : decode jdk_38_method_6_code 7 = .ok (.ifCond .gt 13, 3) := by decide +kernel
theorem d11_10 : decode jdk_38_method_6_code 10 = .ok (.aload_n 0, 1) := by decide +kernel
theorem d11_11 : decode jdk_38_method_6_code 11 = .ok (.getfield 9, 3) := by decide +kernel
theorem d11_14 : decode jdk_38_method_6_code 14 = .ok (.getstatic 39, 3) := by decide +kernel
theorem d11_17 : decode jdk_38_method_6_code 17 = .ok (.if_acmp .eq 28, 3) := by decide +kernel
theorem d11_45 : decode jdk_38_method_6_code 45 = .ok (.aload_n 0, 1) := by decide +kernel
theorem d11_46 : decode jdk_38_method_6_code 46 = .ok (.bipush 10, 2) := by decide +kernel
theorem d11_48 : decode jdk_38_method_6_code 48 = .ok (.iload_n 1, 1) := by decide +kernel
theorem d11_49 : decode jdk_38_method_6_code 49 = .ok (.invokestatic 79, 3) := by decide +kernel
theorem d11_52 : decode jdk_38_method_6_code 52 = .ok (.anewarray 7, 3) := by decide +kernel
theorem d11_55 : decode jdk_38_method_6_code 55 = .ok (.dup_x1, 1) := by decide +kernel
theorem d11_56 : decode jdk_38_method_6_code 56 = .ok (.putfield 9, 3) := by decide +kernel
theorem d11_59 : decode jdk_38_method_6_code 59 = .ok (.areturn, 1) := by decide +kernel
theorem pn_11 : plainName "java/util/ArrayList" = true := by first | (simp [plainName, overriddenIn]; done) | decide +kernel
theorem pd__II_I : parseMethodDescriptor "(II)I" = some ⟨[.int, .int], some .int⟩ := by decide +kernel
theorem ef_11 (m : MethodId) (x0 : Addr) (x1 : Int32) : entryFrame m #[(.ref x0), (.int x1)] 4 = mkF m 0 #[rv x0, iv x1, .unset, .unset] [] := by first | (simp [entryFrame, mkF, argsToLocals, Value.category]; done) | rfl
def Q_rm_grow1 (Z : State) (a1 : Addr) (mc : Int32) (wE : Addr) (kE : ClassId) (h0 : Heap) (n0 : Nat) : Option Value → Heap → List Loc → Prop := fun v h L => ∃ (nb : Addr) (nk : ClassId), v = some (.ref nb) ∧ Fr n0 L ∧ Keep h0 h [a1] ∧ h0.size ≤ nb ∧ Exa Z h a1 "java/util/ArrayList" ∧ Fld Z h a1 "java/util/AbstractList" "modCount" "I" (.int mc) ∧ Fld Z h a1 "java/util/ArrayList" "elementData" "[Ljava/lang/Object;" (.ref nb) ∧ Fld Z h a1 "java/util/ArrayList" "size" "I" (.int (0 : Int32)) ∧ Arv Z h nb nk (.object "java/lang/Object") (10 : Int32) [.null, .null, .null, .null, .null, .null, .null, .null, .null, .null] .null ∧ Exa Z h nb "[Ljava/lang/Object;" ∧ Ovr Z nk "java/lang/Object"
set_option maxRecDepth 65536 in
set_option maxHeartbeats 40000000 in
theorem rm_grow1 (l : Launch) (Z : State) (a0 : Array Value) (hw : ∀ d ∈ tables_1, d.before a0 Z = true) (ws : List Jvm.Cond) (a1 : Addr) (mc : Int32) (wE : Addr) (kE : ClassId) (h0 : Heap) (n0 : Nat) (Z0 : n0 ≤ h0.size) (E_a1 : Exa Z h0 a1 "java/util/ArrayList") (F_a1_modCount : Fld Z h0 a1 "java/util/AbstractList" "modCount" "I" (.int mc)) (F_a1_elementData : Fld Z h0 a1 "java/util/ArrayList" "elementData" "[Ljava/lang/Object;" (.ref wE)) (F_a1_size : Fld Z h0 a1 "java/util/ArrayList" "size" "I" (.int (0 : Int32))) (g_a1 : n0 ≤ a1) (hold : Old Z n0 h0) (S_DEFAULTCAPACITY_EMPTY_ELEMENTDATA : Sta Z Z.heap "java/util/ArrayList" "DEFAULTCAPACITY_EMPTY_ELEMENTDATA" "[Ljava/lang/Object;" (.ref wE)) (V_wE : Arv Z Z.heap wE kE (.object "java/lang/Object") (0 : Int32) [] .null) :
    MetFree l y11_ (head1 (Jvm.Cond.code y11_ jdk_38_method_6_code 4 (some (.array (.object "java/lang/Object"))) :: ws) R9_) (fun a U => a = #[(.ref a1), (.int (1 : Int32))] ∧ Z.Warmed39 U.vm ∧ U.heap = h0) (fun _ _ _ _ _ => True) (fun _ U o U' => ∃ v L, o = .returned v ∧ (Q_rm_grow1 Z a1 mc wE kE h0 n0) v U'.heap L ∧ FrameEnd U o U' L R9_.cells R9_.slots) := by
  refine MetFree.of_bodySF (plainFor_of_name pn_11) hisR ?_
  intro p e s m args below meth c s₁ Bd hml0 hP hK
  obtain ⟨rfl, hZ, hh⟩ := hP
  have hx := Bd.exec
  have hby := Bd.bytes
  have hml : c.maxLocals = 4 := hml0
  have hown : s.vm.findClass "java/util/ArrayList" = some m.cls := findClass_of_methodNamed Bd.named
  have hnm := (name_of_methodNamed Bd.named Bd.method).1
  have X0 : Stand p l e R9_ s m #[(.ref a1), (.int (1 : Int32))] below meth c s₁ [] 0 0 := Stand.of_body Bd
  have e0 : s₁.heap = h0 := by rw [← hh, Bd.state]; rfl
  have N0 := Fr.nil n0
  show own_G FrameEnd p e below s R9_.cells R9_.slots (Q_rm_grow1 Z a1 mc wE kE h0 n0) (s₁.setTop (entryFrame m #[(.ref a1), (.int (1 : Int32))] 4))
  refine own_go (Y' := s₁.setTop (mkF m 0 #[rv a1, iv (1 : Int32), .unset, .unset] [])) ?_ (fun t k => castTop (ef_11 m a1 (1 : Int32)) k)
  refine own_go ?_ (fun _ hr => XS.aloadN X0.here hx rfl (hb hby d11_0) rfl rfl hr)
  show own_H (s₁.setTop (mkF m 1 #[rv a1, iv (1 : Int32), .unset, .unset] [(.ref a1)]))
  obtain ⟨T1, X1, e1, st1⟩ := getF X0 hx hZ hown (host := "") (Or.inl (hw _ (tm 48 rfl))) Via.refl e0 F_a1_elementData (g := (mkF m 1 #[rv a1, iv (1 : Int32), .unset, .unset] [(.ref a1)])) rfl rfl (hb hby d11_1)
  refine own_go ?_ (fun _ hr => st1 _ hr)
  show own_H (T1.setTop (mkF m 4 #[rv a1, iv (1 : Int32), .unset, .unset] [(.ref wE)]))
  obtain ⟨cl2, Ar2, -, S2, M2, -, -⟩ := id (V_wE.ext hold.2)
  refine own_go ?_ (fun _ hr => X1.arraylength hx (by rw [e1]; exact Ar2.1) (State.isArrayOf_alike hZ.alike Ar2.2.1) (g := (mkF m 4 #[rv a1, iv (1 : Int32), .unset, .unset] [(.ref wE)])) rfl rfl (hb hby d11_4) _ hr)
  rw [len_of S2 M2]
  show own_H (T1.setTop (mkF m 5 #[rv a1, iv (1 : Int32), .unset, .unset] [(.int (0 : Int32))]))
  refine own_go ?_ (fun _ hr => XS.istoreN X1.here hx rfl (hb hby d11_5) rfl (l' := #[rv a1, iv (1 : Int32), iv (0 : Int32), .unset]) rfl (XS.iloadN X1.here hx rfl (hb hby d11_6) rfl (XS.ifNo X1.here hx rfl (hb hby d11_7) rfl ((if0 _ _).trans (flt (by decide : ¬ ((0 : Int32) < (0 : Int32)))).2.2.1) (XS.aloadN X1.here hx rfl (hb hby d11_10) rfl rfl hr))))
  show own_H (T1.setTop (mkF m 11 #[rv a1, iv (1 : Int32), iv (0 : Int32), .unset] [(.ref a1)]))
  obtain ⟨T3, X3, e3, st3⟩ := getF X1 hx hZ hown (host := "") (Or.inl (hw _ (tm 48 rfl))) Via.refl e1 F_a1_elementData (g := (mkF m 11 #[rv a1, iv (1 : Int32), iv (0 : Int32), .unset] [(.ref a1)])) rfl rfl (hb hby d11_11)
  refine own_go ?_ (fun _ hr => st3 _ hr)
  show own_H (T3.setTop (mkF m 14 #[rv a1, iv (1 : Int32), iv (0 : Int32), .unset] [(.ref wE)]))
  obtain ⟨T4, X4, e4, st4⟩ := getS2 X3 hx hZ hown (host := "") (Or.inl (hw _ (tm 47 rfl))) Via.refl e3 (S_DEFAULTCAPACITY_EMPTY_ELEMENTDATA.ext hold.2) (g := (mkF m 14 #[rv a1, iv (1 : Int32), iv (0 : Int32), .unset] [(.ref wE)])) rfl (hb hby d11_14)
  refine own_go ?_ (fun _ hr => st4 _ (Jvm.RoadKit.acmp (g := (mkF m 17 #[rv a1, iv (1 : Int32), iv (0 : Int32), .unset] [(.ref wE), (.ref wE)])) X4 hx rfl rfl rfl (pc0 := 17) (pc' := 45) (same := true) rfl (hb hby d11_17) rfl (decide_eq_true rfl) (by decide) (by decide) (XS.aloadN X4.here hx rfl (hb hby d11_45) rfl rfl (XS.bipush X4.here hx rfl (hb hby d11_46) (XS.iloadN X4.here hx rfl (hb hby d11_48) rfl hr)))))
  show own_H (T4.setTop (mkF m 49 #[rv a1, iv (1 : Int32), iv (0 : Int32), .unset] [(.int (1 : Int32)), (.int (10 : Int32)), (.ref a1)]))
  obtain ⟨_, _, ⟨T5, L5, k5, n5⟩, -, X5, ⟨Lc5, hQ5, l5, y5, z5⟩, st5⟩ := Jvm.LawKit.callS X4 hx (y := y10_) hown (mvT hZ (hw _ (tm 74 rfl))) (mvT hZ (hw _ (tm 75 rfl))) (mvT hZ (hw _ (tm 76 rfl))) (mvT hZ (hw _ (tm 77 rfl))) (by decide) (backOf (W := 1) (rm_max l Z a0 hw []  h0 n0 Z0 ) hZ (hw _ (tm 77 rfl)) (hw _ (tm 76 rfl)) (by decide) (by decide)) (g := (mkF m 49 #[rv a1, iv (1 : Int32), iv (0 : Int32), .unset] [(.int (1 : Int32)), (.int (10 : Int32)), (.ref a1)])) rfl (by rw [hml]; rfl) (argsL := [(.int (10 : Int32)), (.int (1 : Int32))]) (rest := [(.ref a1)]) (lenOf pd__II_I rfl) rfl (by show 2 * 0 + _ ≤ _; exact Nat.le_of_eq rfl) (hb hby d11_49) (fun _ _ => ⟨rfl, e4, (by decide : 0 + 0 ≤ _), (by decide : 0 + 0 ≤ _)⟩)
  dsimp only [Pt.U, Pt.locs, Pt.cells, Pt.slots] at X5 l5 y5 z5 st5 hQ5
  subst l5 y5 z5
  obtain ⟨rfl, N5q, e5⟩ := hQ5
  have N5 := Fr.app N0 N5q
  refine own_go ?_ (fun _ hr => st5 _ hr)
  show own_H (T5.setTop (mkF m 52 #[rv a1, iv (1 : Int32), iv (0 : Int32), .unset] [(.int (10 : Int32)), (.ref a1)]))
  obtain ⟨T6, h6, k6, X6, e6, E6, A6, B6, O6, st6⟩ := newRE X5 hx hZ hown (hw _ (tm 78 rfl)) (hw _ (tm 79 rfl)) e5 (g := (mkF m 52 #[rv a1, iv (1 : Int32), iv (0 : Int32), .unset] [(.int (10 : Int32)), (.ref a1)])) rfl (hb hby d11_52) rfl (by decide) (cap := 10) (by decide) (by decide) (by decide) (by decide) (ad := "[Ljava/lang/Object;") (by decide)
  obtain ⟨b6, g6⟩ : ∃ z, z = h0.size := ⟨_, rfl⟩
  rw [← g6] at A6 B6 st6
  have V6 : Arv Z h6 b6 k6 (.object "java/lang/Object") (10 : Int32) [.null, .null, .null, .null, .null, .null, .null, .null, .null, .null] .null := (Arv.new A6 (by decide)).pad (pad_rep [] .null 10)
  have g_b6 : n0 ≤ b6 := ltr Z0 (leq g6.symm)
  have sz_b6 : h0.size ≤ b6 := ltr (Keep.refl h0 [a1]).1 (leq g6.symm)
  refine own_go ?_ (fun _ hr => st6 _ (XS.dupX1 X6.here hx rfl (hb hby d11_55) rfl rfl rfl hr))
  show own_H (T6.setTop (mkF m 56 #[rv a1, iv (1 : Int32), iv (0 : Int32), .unset] [(.ref b6), (.ref a1), (.ref b6)]))
  obtain ⟨T7, h7, X7, e7, W7, st7⟩ := putF X6 hx hZ hown (host := "") (Or.inl (hw _ (tm 48 rfl))) Via.refl e6 (F_a1_elementData.ext E6) (E_a1.ext E6) (Or.inl (hw _ (tm 49 rfl))) (hw _ (tm 27 rfl)) (ty := (.array (.object "java/lang/Object"))) (by decide) rfl rfl (g := (mkF m 56 #[rv a1, iv (1 : Int32), iv (0 : Int32), .unset] [(.ref b6), (.ref a1), (.ref b6)])) rfl rfl (hb hby d11_56)
  have Fw7 := (F_a1_elementData.ext E6).same W7
  have N7 := Fr.snoc X7 N5 g_a1
  refine own_go ?_ (fun _ hr => st7 _ hr)
  show own_H (T7.setTop (mkF m 59 #[rv a1, iv (1 : Int32), iv (0 : Int32), .unset] [(.ref b6)]))
  obtain ⟨fs, hr, hrun, hended, hW, hsame⟩ := X7.leave (v := some (.ref b6)) (fun h => by rw [Bd.returns] at h; cases h)
  exact ⟨_, _, retOut X7 hx Bd.returns rfl (Or.inr (Or.inr (Or.inr (Or.inr ⟨rfl, rfl, rfl⟩)))) (hb hby d11_59) hr, hrun, hended, _, _, rfl, (by rw [show (T7.setFrames fs).heap = h7 from e7]; exact ⟨b6, k6, rfl, N7, (((Keep.refl h0 [a1]).ext E6).wr W7 (Or.inl (List.mem_of_getElem? (i := 0) rfl))), sz_b6, ((E_a1.ext E6).wr W7), ((F_a1_modCount.ext E6).other W7 (Or.inr (slot_ne (Or.inl (hw _ (tm 46 rfl))) (Or.inl (hw _ (tm 49 rfl))) (by decide) (t := .int) (t' := (.array (.object "java/lang/Object"))) (by decide) (by decide)))), Fw7, ((F_a1_size.ext E6).other W7 (Or.inr (slot_ne (Or.inl (hw _ (tm 58 rfl))) (Or.inl (hw _ (tm 49 rfl))) (by decide) (t := .int) (t' := (.array (.object "java/lang/Object"))) (by decide) (by decide)))), (V6.other W7 (Ne.symm (Nat.ne_of_lt (Nat.lt_of_lt_of_le E_a1.lt (leq g6.symm))))), (B6.wr W7), O6⟩), ⟨_, rfl⟩, hW, hsame.mono (by decide) (by decide)⟩
theorem d10_0 : decode jdk_38_method_7_code 0 = .ok (.aload_n 0, 1) := by decide +kernel
theorem d10_1 : decode jdk_38_method_7_code 1 = .ok (.aload_n 0, 1) := by decide +kernel
theorem d10_2 : decode jdk_38_method_7_code 2 = .ok (.getfield 48, 3) := by decide +kernel
theorem d10_5 : decode jdk_38_method_7_code 5 = .ok (.iconst 1, 1) := by decide +kernel
theorem d10_6 : decode jdk_38_method_7_code 6 = .ok (.iadd, 1) := by decide +kernel
theorem d10_7 : decode jdk_38_method_7_code 7 = .ok (.invokevirtual 69, 3) := by decide +kernel
theorem d10_10 : decode jdk_38_method_7_code 10 = .ok (.areturn, 1) := by decide +kernel
theorem pn_10 : plainName "java/util/ArrayList" = true := by first | (simp [plainName, overriddenIn]; done) | decide +kernel
theorem pd__I__Ljava_lang_Object_ : parseMethodDescriptor "(I)[Ljava/lang/Object;" = some ⟨[.int], some (.array (.object "java/lang/Object"))⟩ := by decide +kernel
theorem ef_10 (m : MethodId) (x0 : Addr) : entryFrame m #[(.ref x0)] 1 = mkF m 0 #[rv x0] [] := by first | (simp [entryFrame, mkF, argsToLocals, Value.category]; done) | rfl
def Q_rm_grow0 (Z : State) (a1 : Addr) (mc : Int32) (wE : Addr) (kE : ClassId) (h0 : Heap) (n0 : Nat) : Option Value → Heap → List Loc → Prop := fun v h L => ∃ (nb : Addr) (nk : ClassId), v = some (.ref nb) ∧ Fr n0 L ∧ Keep h0 h [a1] ∧ h0.size ≤ nb ∧ Exa Z h a1 "java/util/ArrayList" ∧ Fld Z h a1 "java/util/AbstractList" "modCount" "I" (.int mc) ∧ Fld Z h a1 "java/util/ArrayList" "elementData" "[Ljava/lang/Object;" (.ref nb) ∧ Fld Z h a1 "java/util/ArrayList" "size" "I" (.int (0 : Int32)) ∧ Arv Z h nb nk (.object "java/lang/Object") (10 : Int32) [.null, .null, .null, .null, .null, .null, .null, .null, .null, .null] .null ∧ Exa Z h nb "[Ljava/lang/Object;" ∧ Ovr Z nk "java/lang/Object"
set_option maxRecDepth 65536 in
set_option maxHeartbeats 40000000 in
theorem rm_grow0 (l : Launch) (Z : State) (a0 : Array Value) (hw : ∀ d ∈ tables_1, d.before a0 Z = true) (ws : List Jvm.Cond) (a1 : Addr) (mc : Int32) (wE : Addr) (kE : ClassId) (h0 : Heap) (n0 : Nat) (Z0 : n0 ≤ h0.size) (E_a1 : Exa Z h0 a1 "java/util/ArrayList") (F_a1_modCount : Fld Z h0 a1 "java/util/AbstractList" "modCount" "I" (.int mc)) (F_a1_elementData : Fld Z h0 a1 "java/util/ArrayList" "elementData" "[Ljava/lang/Object;" (.ref wE)) (F_a1_size : Fld Z h0 a1 "java/util/ArrayList" "size" "I" (.int (0 : Int32))) (g_a1 : n0 ≤ a1) (hold : Old Z n0 h0) (S_DEFAULTCAPACITY_EMPTY_ELEMENTDATA : Sta Z Z.heap "java/util/ArrayList" "DEFAULTCAPACITY_EMPTY_ELEMENTDATA" "[Ljava/lang/Object;" (.ref wE)) (V_wE : Arv Z Z.heap wE kE (.object "java/lang/Object") (0 : Int32) [] .null) :
    MetFree l y12_ (head1 (Jvm.Cond.code y12_ jdk_38_method_7_code 1 (some (.array (.object "java/lang/Object"))) :: ws) R10_) (fun a U => a = #[(.ref a1)] ∧ Z.Warmed39 U.vm ∧ U.heap = h0) (fun _ _ _ _ _ => True) (fun _ U o U' => ∃ v L, o = .returned v ∧ (Q_rm_grow0 Z a1 mc wE kE h0 n0) v U'.heap L ∧ FrameEnd U o U' L R10_.cells R10_.slots) := by
  refine MetFree.of_bodySF (plainFor_of_name pn_10) hisR ?_
  intro p e s m args below meth c s₁ Bd hml0 hP hK
  obtain ⟨rfl, hZ, hh⟩ := hP
  have hx := Bd.exec
  have hby := Bd.bytes
  have hml : c.maxLocals = 1 := hml0
  have hown : s.vm.findClass "java/util/ArrayList" = some m.cls := findClass_of_methodNamed Bd.named
  have hnm := (name_of_methodNamed Bd.named Bd.method).1
  have X0 : Stand p l e R10_ s m #[(.ref a1)] below meth c s₁ [] 0 0 := Stand.of_body Bd
  have e0 : s₁.heap = h0 := by rw [← hh, Bd.state]; rfl
  have N0 := Fr.nil n0
  show own_G FrameEnd p e below s R10_.cells R10_.slots (Q_rm_grow0 Z a1 mc wE kE h0 n0) (s₁.setTop (entryFrame m #[(.ref a1)] 1))
  refine own_go (Y' := s₁.setTop (mkF m 0 #[rv a1] [])) ?_ (fun t k => castTop (ef_10 m a1) k)
  refine own_go ?_ (fun _ hr => XS.aloadN X0.here hx rfl (hb hby d10_0) rfl rfl (XS.aloadN X0.here hx rfl (hb hby d10_1) rfl rfl hr))
  show own_H (s₁.setTop (mkF m 2 #[rv a1] [(.ref a1), (.ref a1)]))
  obtain ⟨T1, X1, e1, st1⟩ := getF X0 hx hZ hown (host := "") (Or.inl (hw _ (tm 57 rfl))) Via.refl e0 F_a1_size (g := (mkF m 2 #[rv a1] [(.ref a1), (.ref a1)])) rfl rfl (hb hby d10_2)
  refine own_go ?_ (fun _ hr => st1 _ (XS.iconst X1.here hx rfl (hb hby d10_5) (XS.iadd X1.here hx rfl (hb hby d10_6) rfl hr)))
  show own_H (T1.setTop (mkF m 7 #[rv a1] [(.int (1 : Int32)), (.ref a1)]))
  obtain ⟨cq2, qp2, qp2'⟩ := E_a1.cell
  obtain ⟨_, _, ⟨T2, L2, k2, n2⟩, -, X2, ⟨Lc2, hQ2, l2, y2, z2⟩, st2⟩ := X1.privateBack hx (y := y11_) hown (mvT hZ (hw _ (tm 69 rfl))) (mvT hZ (hw _ (tm 70 rfl))) (mvT hZ (hw _ (tm 72 rfl))) (Cond.privateMethod_at (mvP hZ (hw _ (tm 71 rfl)) (args := #[]))) (mvT hZ (hw _ (tm 73 rfl))) (by decide) (backOf (W := 0) (rm_grow1 l Z a0 hw [] a1 mc wE kE h0 n0 Z0 E_a1 F_a1_modCount F_a1_elementData F_a1_size g_a1 hold S_DEFAULTCAPACITY_EMPTY_ELEMENTDATA V_wE) hZ (hw _ (tm 73 rfl)) (hw _ (tm 28 rfl)) (by decide) (by decide)) (g := (mkF m 7 #[rv a1] [(.int (1 : Int32)), (.ref a1)])) rfl (by rw [hml]; rfl) (Steps.refl _) (a := a1) (by rw [e1]; exact qp2) qp2' (argsL := [(.int (1 : Int32))]) (rest := []) (lenOf pd__I__Ljava_lang_Object_ rfl) rfl (by show 2 * 0 + _ ≤ _; exact Nat.le_of_eq rfl) (hb hby d10_7) (fun _ _ => ⟨rfl, e1, (by decide : 0 + 1 ≤ _), (by decide : 0 + 10 ≤ _)⟩)
  dsimp only [Pt.U, Pt.locs, Pt.cells, Pt.slots] at X2 l2 y2 z2 st2 hQ2
  subst l2 y2 z2
  obtain ⟨b2_0, kb2_1, rfl, N2q, K2, yb2_0, P2_0, P2_1, P2_2, P2_3, P2_4, P2_5, P2_6⟩ := hQ2
  have g_b2_0 : n0 ≤ b2_0 := ltr Z0 yb2_0
  have sz_b2_0 : h0.size ≤ b2_0 := ltr (Keep.refl h0 [a1]).1 yb2_0
  have N2 := Fr.app N0 N2q
  refine own_go ?_ (fun _ hr => st2.trans hr)
  show own_H (T2.setTop (mkF m 10 #[rv a1] [(.ref b2_0)]))
  obtain ⟨fs, hr, hrun, hended, hW, hsame⟩ := X2.leave (v := some (.ref b2_0)) (fun h => by rw [Bd.returns] at h; cases h)
  exact ⟨_, _, retOut X2 hx Bd.returns rfl (Or.inr (Or.inr (Or.inr (Or.inr ⟨rfl, rfl, rfl⟩)))) (hb hby d10_10) hr, hrun, hended, _, _, rfl, ⟨b2_0, kb2_1, rfl, N2, ((Keep.refl h0 [a1]).trans K2 (allS (Or.inl (List.mem_of_getElem? (i := 0) rfl)) all0)), sz_b2_0, P2_0, P2_1, P2_2, P2_3, P2_4, P2_5, P2_6⟩, ⟨_, rfl⟩, hW, hsame.mono (by decide) (by decide)⟩
theorem d9_0 : decode jdk_38_method_24_code 0 = .ok (.iload_n 3, 1) := by decide +kernel
theorem d9_1 : decode jdk_38_method_24_code 1 = .ok (.aload_n 2, 1) := by decide +kernel
theorem d9_2 : decode jdk_38_method_24_code 2 = .ok (.arraylength, 1) := by decide +kernel
theorem d9_3 : decode jdk_38_method_24_code 3 = .ok (.if_icmp .ne 8, 3) := by decide +kernel
theorem d9_6 : decode jdk_38_method_24_code 6 = .ok (.aload_n 0, 1) := by decide +kernel
theorem d9_7 : decode jdk_38_method_24_code 7 = .ok (.invokevirtual 129, 3) := by decide +kernel
theorem d9_10 : decode jdk_38_method_24_code 10 = .ok (.astore_n 2, 1) := by decide +kernel
theorem d9_11 : decode jdk_38_method_24_code 11 = .ok (.aload_n 2, 1) := by decide +kernel
theorem d9_12 : decode jdk_38_method_24_code 12 = .ok (.iload_n 3, 1) := by decide +kernel
theorem d9_13 : decode jdk_38_method_24_code 13 = .ok (.aload_n 1, 1) := by decide +kernel
theorem d9_14 : decode jdk_38_method_24_code 14 = .ok (.aastore, 1) := by decide +kernel
theorem d9_15 : decode jdk_38_method_24_code 15 = .ok (.aload_n 0, 1) := by decide +kernel
theorem d9_16 : decode jdk_38_method_24_code 16 = .ok (.iload_n 3, 1) := by decide +kernel
theorem d9_17 : decode jdk_38_method_24_code 17 = .ok (.iconst 1, 1) := by decide +kernel
theorem d9_18 : decode jdk_38_method_24_code 18 = .ok (.iadd, 1) := by decide +kernel
theorem d9_19 : decode jdk_38_method_24_code 19 = .ok (.putfield 48, 3) := by decide +kernel
theorem d9_22 : decode jdk_38_method_24_code 22 = .ok (.return_, 1) := by decide +kernel
theorem pn_9 : plainName "java/util/ArrayList" = true := by first | (simp [plainName, overriddenIn]; done) | decide +kernel
theorem pd____Ljava_lang_Object_ : parseMethodDescriptor "()[Ljava/lang/Object;" = some ⟨[], some (.array (.object "java/lang/Object"))⟩ := by decide +kernel
theorem ef_9 (m : MethodId) (x0 : Addr) (x1 : Addr) (x2 : Addr) (x3 : Int32) : entryFrame m #[(.ref x0), (.ref x1), (.ref x2), (.int x3)] 4 = mkF m 0 #[rv x0, rv x1, rv x2, iv x3] [] := by first | (simp [entryFrame, mkF, argsToLocals, Value.category]; done) | rfl
def Q_rm_add3_0 (Z : State) (a1 : Addr) (a2 : Addr) (wE : Addr) (mc : Int32) (kE : ClassId) (h0 : Heap) (n0 : Nat) : Option Value → Heap → List Loc → Prop := fun v h L => ∃ (nb : Addr) (nk : ClassId), v = none ∧ Fr n0 L ∧ Keep h0 h [a1] ∧ h0.size ≤ nb ∧ Exa Z h a1 "java/util/ArrayList" ∧ Fld Z h a1 "java/util/AbstractList" "modCount" "I" (.int mc) ∧ Fld Z h a1 "java/util/ArrayList" "elementData" "[Ljava/lang/Object;" (.ref nb) ∧ Fld Z h a1 "java/util/ArrayList" "size" "I" (.int (1 : Int32)) ∧ Arv Z h nb nk (.object "java/lang/Object") (10 : Int32) [(.ref a2), .null, .null, .null, .null, .null, .null, .null, .null, .null] .null ∧ Exa Z h nb "[Ljava/lang/Object;" ∧ Ovr Z nk "java/lang/Object"
set_option maxRecDepth 65536 in
set_option maxHeartbeats 40000000 in
theorem rm_add3_0 (l : Launch) (Z : State) (a0 : Array Value) (hw : ∀ d ∈ tables_1, d.before a0 Z = true) (ws : List Jvm.Cond) (a1 : Addr) (a2 : Addr) (wE : Addr) (mc : Int32) (kE : ClassId) (h0 : Heap) (n0 : Nat) (Z0 : n0 ≤ h0.size) (E_a1 : Exa Z h0 a1 "java/util/ArrayList") (F_a1_modCount : Fld Z h0 a1 "java/util/AbstractList" "modCount" "I" (.int mc)) (F_a1_elementData : Fld Z h0 a1 "java/util/ArrayList" "elementData" "[Ljava/lang/Object;" (.ref wE)) (F_a1_size : Fld Z h0 a1 "java/util/ArrayList" "size" "I" (.int (0 : Int32))) (g_a1 : n0 ≤ a1) (hold : Old Z n0 h0) (S_DEFAULTCAPACITY_EMPTY_ELEMENTDATA : Sta Z Z.heap "java/util/ArrayList" "DEFAULTCAPACITY_EMPTY_ELEMENTDATA" "[Ljava/lang/Object;" (.ref wE)) (V_wE : Arv Z Z.heap wE kE (.object "java/lang/Object") (0 : Int32) [] .null) (E_a2 : Exa Z h0 a2 "java/lang/String") :
    MetFree l y13_ (head1 (Jvm.Cond.code y13_ jdk_38_method_24_code 4 none :: ws) R11_) (fun a U => a = #[(.ref a1), (.ref a2), (.ref wE), (.int (0 : Int32))] ∧ Z.Warmed39 U.vm ∧ U.heap = h0) (fun _ _ _ _ _ => True) (fun _ U o U' => ∃ v L, o = .returned v ∧ (Q_rm_add3_0 Z a1 a2 wE mc kE h0 n0) v U'.heap L ∧ FrameEnd U o U' L R11_.cells R11_.slots) := by
  refine MetFree.of_bodySF (plainFor_of_name pn_9) hisR ?_
  intro p e s m args below meth c s₁ Bd hml0 hP hK
  obtain ⟨rfl, hZ, hh⟩ := hP
  have hx := Bd.exec
  have hby := Bd.bytes
  have hml : c.maxLocals = 4 := hml0
  have hown : s.vm.findClass "java/util/ArrayList" = some m.cls := findClass_of_methodNamed Bd.named
  have hnm := (name_of_methodNamed Bd.named Bd.method).1
  have X0 : Stand p l e R11_ s m #[(.ref a1), (.ref a2), (.ref wE), (.int (0 : Int32))] below meth c s₁ [] 0 0 := Stand.of_body Bd
  have e0 : s₁.heap = h0 := by rw [← hh, Bd.state]; rfl
  have N0 := Fr.nil n0
  show own_G FrameEnd p e below s R11_.cells R11_.slots (Q_rm_add3_0 Z a1 a2 wE mc kE h0 n0) (s₁.setTop (entryFrame m #[(.ref a1), (.ref a2), (.ref wE), (.int (0 : Int32))] 4))
  refine own_go (Y' := s₁.setTop (mkF m 0 #[rv a1, rv a2, rv wE, iv (0 : Int32)] [])) ?_ (fun t k => castTop (ef_9 m a1 a2 wE (0 : Int32)) k)
  refine own_go ?_ (fun _ hr => XS.iloadN X0.here hx rfl (hb hby d9_0) rfl (XS.aloadN X0.here hx rfl (hb hby d9_1) rfl rfl hr))
  show own_H (s₁.setTop (mkF m 2 #[rv a1, rv a2, rv wE, iv (0 : Int32)] [(.ref wE), (.int (0 : Int32))]))
  obtain ⟨cl1, Ar1, -, S1, M1, -, -⟩ := id (V_wE.ext hold.2)
  refine own_go ?_ (fun _ hr => X0.arraylength hx (by rw [e0]; exact Ar1.1) (State.isArrayOf_alike hZ.alike Ar1.2.1) (g := (mkF m 2 #[rv a1, rv a2, rv wE, iv (0 : Int32)] [(.ref wE), (.int (0 : Int32))])) rfl rfl (hb hby d9_2) _ hr)
  rw [len_of S1 M1]
  show own_H (s₁.setTop (mkF m 3 #[rv a1, rv a2, rv wE, iv (0 : Int32)] [(.int (0 : Int32)), (.int (0 : Int32))]))
  refine own_go ?_ (fun _ hr => XS.icmpNo X0.here hx rfl (hb hby d9_3) rfl (teq (by decide : (0 : Int32) = (0 : Int32))).2 (XS.aloadN X0.here hx rfl (hb hby d9_6) rfl rfl hr))
  show own_H (s₁.setTop (mkF m 7 #[rv a1, rv a2, rv wE, iv (0 : Int32)] [(.ref a1)]))
  obtain ⟨cq2, qp2, qp2'⟩ := E_a1.cell
  obtain ⟨_, _, ⟨T2, L2, k2, n2⟩, -, X2, ⟨Lc2, hQ2, l2, y2, z2⟩, st2⟩ := X0.privateBack hx (y := y12_) hown (mvT hZ (hw _ (tm 64 rfl))) (mvT hZ (hw _ (tm 65 rfl))) (mvT hZ (hw _ (tm 67 rfl))) (Cond.privateMethod_at (mvP hZ (hw _ (tm 66 rfl)) (args := #[]))) (mvT hZ (hw _ (tm 68 rfl))) (by decide) (backOf (W := 0) (rm_grow0 l Z a0 hw [] a1 mc wE kE h0 n0 Z0 E_a1 F_a1_modCount F_a1_elementData F_a1_size g_a1 hold S_DEFAULTCAPACITY_EMPTY_ELEMENTDATA V_wE) hZ (hw _ (tm 68 rfl)) (hw _ (tm 28 rfl)) (by decide) (by decide)) (g := (mkF m 7 #[rv a1, rv a2, rv wE, iv (0 : Int32)] [(.ref a1)])) rfl (by rw [hml]; rfl) (Steps.refl _) (a := a1) (by rw [e0]; exact qp2) qp2' (argsL := []) (rest := []) (lenOf pd____Ljava_lang_Object_ rfl) rfl (by show 2 * 0 + _ ≤ _; exact Nat.le_of_eq rfl) (hb hby d9_7) (fun _ _ => ⟨rfl, e0, (by decide : 0 + 1 ≤ _), (by decide : 0 + 10 ≤ _)⟩)
  dsimp only [Pt.U, Pt.locs, Pt.cells, Pt.slots] at X2 l2 y2 z2 st2 hQ2
  subst l2 y2 z2
  obtain ⟨b2_0, kb2_1, rfl, N2q, K2, yb2_0, P2_0, P2_1, P2_2, P2_3, P2_4, P2_5, P2_6⟩ := hQ2
  have g_b2_0 : n0 ≤ b2_0 := ltr Z0 yb2_0
  have sz_b2_0 : h0.size ≤ b2_0 := ltr (Keep.refl h0 [a1]).1 yb2_0
  have N2 := Fr.app N0 N2q
  refine own_go ?_ (fun _ hr => st2.trans (XS.astoreN X2.here hx rfl (hb hby d9_10) rfl rfl (l' := #[rv a1, rv a2, rv b2_0, iv (0 : Int32)]) rfl (XS.aloadN X2.here hx rfl (hb hby d9_11) rfl rfl (XS.iloadN X2.here hx rfl (hb hby d9_12) rfl (XS.aloadN X2.here hx rfl (hb hby d9_13) rfl rfl hr)))))
  show own_H (T2.setTop (mkF m 14 #[rv a1, rv a2, rv b2_0, iv (0 : Int32)] [(.ref a2), (.int (0 : Int32)), (.ref b2_0)]))
  obtain ⟨cl3, Ar3, qk3, S3, M3, H3, G3⟩ := id P2_4
  have hin3 : ¬ ((0 : Int32) < 0 ∨ cl3.slots.size ≤ ((0 : Int32)).toNatClampNeg) := inb_of S3 ⟨by decide, by decide⟩
  obtain ⟨T3, h3, X3, e3, W3, st3⟩ := stR X2 hx hZ rfl Ar3 (j := (0 : Int32)) hin3 rfl (Sto.ofV Ar3 qk3 P2_6 (Ins.of_exa (E_a2.keep K2) (hw _ (tm 80 rfl)))) (g := (mkF m 14 #[rv a1, rv a2, rv b2_0, iv (0 : Int32)] [(.ref a2), (.int (0 : Int32)), (.ref b2_0)])) rfl rfl (hb hby d9_14)
  have V3 : Arv Z h3 b2_0 kb2_1 (.object "java/lang/Object") (10 : Int32) [(.ref a2), .null, .null, .null, .null, .null, .null, .null, .null, .null] .null := Arv.set Ar3 qk3 S3 M3 H3 G3 rfl W3 0 rfl (Nat.le_of_ble_eq_true rfl)
  have N3 := Fr.snoc X3 N2 g_b2_0
  refine own_go ?_ (fun _ hr => st3 _ (XS.aloadN X3.here hx rfl (hb hby d9_15) rfl rfl (XS.iloadN X3.here hx rfl (hb hby d9_16) rfl (XS.iconst X3.here hx rfl (hb hby d9_17) (XS.iadd X3.here hx rfl (hb hby d9_18) rfl hr)))))
  show own_H (T3.setTop (mkF m 19 #[rv a1, rv a2, rv b2_0, iv (0 : Int32)] [(.int (1 : Int32)), (.ref a1)]))
  obtain ⟨T4, h4, X4, e4, W4, st4⟩ := putF X3 hx hZ hown (host := "") (Or.inl (hw _ (tm 57 rfl))) Via.refl e3 (P2_3.other W3 (Or.inl (Nat.ne_of_lt (Nat.lt_of_lt_of_le E_a1.lt yb2_0)))) (P2_0.wr W3) (Or.inl (hw _ (tm 58 rfl))) (hw _ (tm 27 rfl)) (ty := .int) (by decide) rfl rfl (g := (mkF m 19 #[rv a1, rv a2, rv b2_0, iv (0 : Int32)] [(.int (1 : Int32)), (.ref a1)])) rfl rfl (hb hby d9_19)
  have Fw4 := (P2_3.other W3 (Or.inl (Nat.ne_of_lt (Nat.lt_of_lt_of_le E_a1.lt yb2_0)))).same W4
  have N4 := Fr.snoc X4 N3 g_a1
  refine own_go ?_ (fun _ hr => st4 _ hr)
  show own_H (T4.setTop (mkF m 22 #[rv a1, rv a2, rv b2_0, iv (0 : Int32)] []))
  obtain ⟨fs, hr, hrun, hended, hW, hsame⟩ := X4.leave (v := none) (fun _ => rfl)
  exact ⟨_, _, X4.returnOut hx Bd.returns (hb hby d9_22) hr, hrun, hended, _, _, rfl, (by rw [show (T4.setFrames fs).heap = h4 from e4]; exact ⟨b2_0, kb2_1, rfl, N4, ((((Keep.refl h0 [a1]).trans K2 (allS (Or.inl (List.mem_of_getElem? (i := 0) rfl)) all0)).wr W3 (Or.inr sz_b2_0)).wr W4 (Or.inl (List.mem_of_getElem? (i := 0) rfl))), sz_b2_0, ((P2_0.wr W3).wr W4), ((P2_1.other W3 (Or.inl (Nat.ne_of_lt (Nat.lt_of_lt_of_le E_a1.lt yb2_0)))).other W4 (Or.inr (slot_ne (Or.inl (hw _ (tm 46 rfl))) (Or.inl (hw _ (tm 58 rfl))) (by decide) (t := .int) (t' := .int) (by decide) (by decide)))), ((P2_2.other W3 (Or.inl (Nat.ne_of_lt (Nat.lt_of_lt_of_le E_a1.lt yb2_0)))).other W4 (Or.inr (slot_ne (Or.inl (hw _ (tm 49 rfl))) (Or.inl (hw _ (tm 58 rfl))) (by decide) (t := (.array (.object "java/lang/Object"))) (t' := .int) (by decide) (by decide)))), Fw4, (V3.other W4 (Ne.symm (Nat.ne_of_lt (Nat.lt_of_lt_of_le E_a1.lt yb2_0)))), ((P2_5.wr W3).wr W4), P2_6⟩), ⟨_, rfl⟩, hW, hsame.mono (by decide) (by decide)⟩
theorem d8_0 : decode jdk_38_method_25_code 0 = .ok (.aload_n 0, 1) := by decide +kernel
theorem d8_1 : decode jdk_38_method_25_code 1 = .ok (.dup, 1) := by decide +kernel
theorem d8_2 : decode jdk_38_method_25_code 2 = .ok (.getfield 63, 3) := by decide +kernel
theorem d8_5 : decode jdk_38_method_25_code 5 = .ok (.iconst 1, 1) := by decide +kernel
theorem d8_6 : decode jdk_38_method_25_code 6 = .ok (.iadd, 1) := by decide +kernel
theorem d8_7 : decode jdk_38_method_25_code 7 = .ok (.putfield 63, 3) := by decide +kernel
theorem d8_10 : decode jdk_38_method_25_code 10 = .ok (.aload_n 0, 1) := by decide +kernel
theorem d8_11 : decode jdk_38_method_25_code 11 = .ok (.aload_n 1, 1) := by decide +kernel
theorem d8_12 : decode jdk_38_method_25_code 12 = .ok (.aload_n 0, 1) := by decide +kernel
theorem d8_13 : decode jdk_38_method_25_code 13 = .ok (.getfield 9, 3) := by decide +kernel
theorem d8_16 : decode jdk_38_method_25_code 16 = .ok (.aload_n 0, 1) := by decide +kernel
theorem d8_17 : decode jdk_38_method_25_code 17 = .ok (.getfield 48, 3) := by decide +kernel
theorem d8_20 : decode jdk_38_method_25_code 20 = .ok (.invokevirtual 131, 3) := by decide +kernel
theorem d8_23 : decode jdk_38_method_25_code 23 = .ok (.iconst 1, 1) := by decide +kernel
theorem d8_24 : decode jdk_38_method_25_code 24 = .ok (.ireturn, 1) := by decide +kernel
theorem pn_8 : plainName "java/util/ArrayList" = true := by first | (simp [plainName, overriddenIn]; done) | decide +kernel
theorem pd__Ljava_lang_Object__Ljava_lang_Object_I_V : parseMethodDescriptor "(Ljava/lang/Object;[Ljava/lang/Object;I)V" = some ⟨[(.object "java/lang/Object"), (.array (.object "java/lang/Object")), .int], none⟩ := by decide +kernel
theorem ef_8 (m : MethodId) (x0 : Addr) (x1 : Addr) : entryFrame m #[(.ref x0), (.ref x1)] 2 = mkF m 0 #[rv x0, rv x1] [] := by first | (simp [entryFrame, mkF, argsToLocals, Value.category]; done) | rfl
def Q_rm_add1_0 (Z : State) (a1 : Addr) (a2 : Addr) (mc : Int32) (wE : Addr) (kE : ClassId) (h0 : Heap) (n0 : Nat) : Option Value → Heap → List Loc → Prop := fun v h L => ∃ (nb : Addr) (nk : ClassId), v = some (.int (1 : Int32)) ∧ Fr n0 L ∧ Keep h0 h [a1] ∧ h0.size ≤ nb ∧ Exa Z h a1 "java/util/ArrayList" ∧ Fld Z h a1 "java/util/AbstractList" "modCount" "I" (.int (mc + (1 : Int32))) ∧ Fld Z h a1 "java/util/ArrayList" "elementData" "[Ljava/lang/Object;" (.ref nb) ∧ Fld Z h a1 "java/util/ArrayList" "size" "I" (.int (1 : Int32)) ∧ Arv Z h nb nk (.object "java/lang/Object") (10 : Int32) [(.ref a2), .null, .null, .null, .null, .null, .null, .null, .null, .null] .null ∧ Exa Z h nb "[Ljava/lang/Object;" ∧ Ovr Z nk "java/lang/Object"
set_option maxRecDepth 65536 in
set_option maxHeartbeats 40000000 in
theorem rm_add1_0 (l : Launch) (Z : State) (a0 : Array Value) (hw : ∀ d ∈ tables_1, d.before a0 Z = true) (ws : List Jvm.Cond) (a1 : Addr) (a2 : Addr) (mc : Int32) (wE : Addr) (kE : ClassId) (h0 : Heap) (n0 : Nat) (Z0 : n0 ≤ h0.size) (E_a1 : Exa Z h0 a1 "java/util/ArrayList") (F_a1_modCount : Fld Z h0 a1 "java/util/AbstractList" "modCount" "I" (.int mc)) (F_a1_elementData : Fld Z h0 a1 "java/util/ArrayList" "elementData" "[Ljava/lang/Object;" (.ref wE)) (F_a1_size : Fld Z h0 a1 "java/util/ArrayList" "size" "I" (.int (0 : Int32))) (g_a1 : n0 ≤ a1) (hold : Old Z n0 h0) (S_DEFAULTCAPACITY_EMPTY_ELEMENTDATA : Sta Z Z.heap "java/util/ArrayList" "DEFAULTCAPACITY_EMPTY_ELEMENTDATA" "[Ljava/lang/Object;" (.ref wE)) (V_wE : Arv Z Z.heap wE kE (.object "java/lang/Object") (0 : Int32) [] .null) (E_a2 : Exa Z h0 a2 "java/lang/String") :
    MetFree l y14_ (head1 (Jvm.Cond.code y14_ jdk_38_method_25_code 2 (some .boolean) :: ws) R12_) (fun a U => a = #[(.ref a1), (.ref a2)] ∧ Z.Warmed39 U.vm ∧ U.heap = h0) (fun _ _ _ _ _ => True) (fun _ U o U' => ∃ v L, o = .returned v ∧ (Q_rm_add1_0 Z a1 a2 mc wE kE h0 n0) v U'.heap L ∧ FrameEnd U o U' L R12_.cells R12_.slots) := by
  refine MetFree.of_bodySF (plainFor_of_name pn_8) hisR ?_
  intro p e s m args below meth c s₁ Bd hml0 hP hK
  obtain ⟨rfl, hZ, hh⟩ := hP
  have hx := Bd.exec
  have hby := Bd.bytes
  have hml : c.maxLocals = 2 := hml0
  have hown : s.vm.findClass "java/util/ArrayList" = some m.cls := findClass_of_methodNamed Bd.named
  have hnm := (name_of_methodNamed Bd.named Bd.method).1
  have X0 : Stand p l e R12_ s m #[(.ref a1), (.ref a2)] below meth c s₁ [] 0 0 := Stand.of_body Bd
  have e0 : s₁.heap = h0 := by rw [← hh, Bd.state]; rfl
  have N0 := Fr.nil n0
  show own_G FrameEnd p e below s R12_.cells R12_.slots (Q_rm_add1_0 Z a1 a2 mc wE kE h0 n0) (s₁.setTop (entryFrame m #[(.ref a1), (.ref a2)] 2))
  refine own_go (Y' := s₁.setTop (mkF m 0 #[rv a1, rv a2] [])) ?_ (fun t k => castTop (ef_8 m a1 a2) k)
  refine own_go ?_ (fun _ hr => XS.aloadN X0.here hx rfl (hb hby d8_0) rfl rfl (XS.dup X0.here hx rfl (hb hby d8_1) rfl rfl hr))
  show own_H (s₁.setTop (mkF m 2 #[rv a1, rv a2] [(.ref a1), (.ref a1)]))
  obtain ⟨T1, X1, e1, st1⟩ := getF X0 hx hZ hown (host := "") (Or.inl (hw _ (tm 55 rfl))) (Via.of (hw _ (tm 56 rfl))) e0 F_a1_modCount (g := (mkF m 2 #[rv a1, rv a2] [(.ref a1), (.ref a1)])) rfl rfl (hb hby d8_2)
  refine own_go ?_ (fun _ hr => st1 _ (XS.iconst X1.here hx rfl (hb hby d8_5) (XS.iadd X1.here hx rfl (hb hby d8_6) rfl hr)))
  show own_H (T1.setTop (mkF m 7 #[rv a1, rv a2] [(.int (mc + (1 : Int32))), (.ref a1)]))
  obtain ⟨T2, h2, X2, e2, W2, st2⟩ := putF X1 hx hZ hown (host := "") (Or.inl (hw _ (tm 55 rfl))) (Via.of (hw _ (tm 56 rfl))) e1 F_a1_modCount E_a1 (Or.inl (hw _ (tm 46 rfl))) (hw _ (tm 27 rfl)) (ty := .int) (by decide) rfl rfl (g := (mkF m 7 #[rv a1, rv a2] [(.int (mc + (1 : Int32))), (.ref a1)])) rfl rfl (hb hby d8_7)
  have Fw2 := F_a1_modCount.same W2
  have N2 := Fr.snoc X2 N0 g_a1
  refine own_go ?_ (fun _ hr => st2 _ (XS.aloadN X2.here hx rfl (hb hby d8_10) rfl rfl (XS.aloadN X2.here hx rfl (hb hby d8_11) rfl rfl (XS.aloadN X2.here hx rfl (hb hby d8_12) rfl rfl hr))))
  show own_H (T2.setTop (mkF m 13 #[rv a1, rv a2] [(.ref a1), (.ref a2), (.ref a1)]))
  obtain ⟨T3, X3, e3, st3⟩ := getF X2 hx hZ hown (host := "") (Or.inl (hw _ (tm 48 rfl))) Via.refl e2 (F_a1_elementData.other W2 (Or.inr (slot_ne (Or.inl (hw _ (tm 49 rfl))) (Or.inl (hw _ (tm 46 rfl))) (by decide) (t := (.array (.object "java/lang/Object"))) (t' := .int) (by decide) (by decide)))) (g := (mkF m 13 #[rv a1, rv a2] [(.ref a1), (.ref a2), (.ref a1)])) rfl rfl (hb hby d8_13)
  refine own_go ?_ (fun _ hr => st3 _ (XS.aloadN X3.here hx rfl (hb hby d8_16) rfl rfl hr))
  show own_H (T3.setTop (mkF m 17 #[rv a1, rv a2] [(.ref a1), (.ref wE), (.ref a2), (.ref a1)]))
  obtain ⟨T4, X4, e4, st4⟩ := getF X3 hx hZ hown (host := "") (Or.inl (hw _ (tm 57 rfl))) Via.refl e3 (F_a1_size.other W2 (Or.inr (slot_ne (Or.inl (hw _ (tm 58 rfl))) (Or.inl (hw _ (tm 46 rfl))) (by decide) (t := .int) (t' := .int) (by decide) (by decide)))) (g := (mkF m 17 #[rv a1, rv a2] [(.ref a1), (.ref wE), (.ref a2), (.ref a1)])) rfl rfl (hb hby d8_17)
  refine own_go ?_ (fun _ hr => st4 _ hr)
  show own_H (T4.setTop (mkF m 20 #[rv a1, rv a2] [(.int (0 : Int32)), (.ref wE), (.ref a2), (.ref a1)]))
  obtain ⟨cq5, qp5, qp5'⟩ := (E_a1.wr W2).cell
  obtain ⟨_, _, ⟨T5, L5, k5, n5⟩, -, X5, ⟨Lc5, hQ5, l5, y5, z5⟩, st5⟩ := X4.privateBack hx (y := y13_) hown (mvT hZ (hw _ (tm 59 rfl))) (mvT hZ (hw _ (tm 60 rfl))) (mvT hZ (hw _ (tm 62 rfl))) (Cond.privateMethod_at (mvP hZ (hw _ (tm 61 rfl)) (args := #[]))) (mvT hZ (hw _ (tm 63 rfl))) (by decide) (backOf (W := 0) (rm_add3_0 l Z a0 hw [] a1 a2 wE (mc + (1 : Int32)) kE h2 n0 (ltr Z0 (Keep.of_wr W2).1) (E_a1.wr W2) Fw2 (F_a1_elementData.other W2 (Or.inr (slot_ne (Or.inl (hw _ (tm 49 rfl))) (Or.inl (hw _ (tm 46 rfl))) (by decide) (t := (.array (.object "java/lang/Object"))) (t' := .int) (by decide) (by decide)))) (F_a1_size.other W2 (Or.inr (slot_ne (Or.inl (hw _ (tm 58 rfl))) (Or.inl (hw _ (tm 46 rfl))) (by decide) (t := .int) (t' := .int) (by decide) (by decide)))) g_a1 (hold.wr W2 g_a1) S_DEFAULTCAPACITY_EMPTY_ELEMENTDATA V_wE (E_a2.wr W2)) hZ (hw _ (tm 63 rfl)) (hw _ (tm 28 rfl)) (by decide) (by decide)) (g := (mkF m 20 #[rv a1, rv a2] [(.int (0 : Int32)), (.ref wE), (.ref a2), (.ref a1)])) rfl (by rw [hml]; rfl) (Steps.refl _) (a := a1) (by rw [e4]; exact qp5) qp5' (argsL := [(.ref a2), (.ref wE), (.int (0 : Int32))]) (rest := []) (lenOf pd__Ljava_lang_Object__Ljava_lang_Object_I_V rfl) rfl (by show 2 * 0 + _ ≤ _; exact Nat.le_of_eq rfl) (hb hby d8_20) (fun _ _ => ⟨rfl, e4, (by decide : 0 + 1 ≤ _), (by decide : 0 + 10 ≤ _)⟩)
  dsimp only [Pt.U, Pt.locs, Pt.cells, Pt.slots] at X5 l5 y5 z5 st5 hQ5
  subst l5 y5 z5
  obtain ⟨b5_0, kb5_1, rfl, N5q, K5, yb5_0, P5_0, P5_1, P5_2, P5_3, P5_4, P5_5, P5_6⟩ := hQ5
  have g_b5_0 : n0 ≤ b5_0 := ltr (ltr Z0 (Keep.of_wr W2).1) yb5_0
  have sz_b5_0 : h0.size ≤ b5_0 := ltr ((Keep.refl h0 [a1]).wr W2 (Or.inl (List.mem_of_getElem? (i := 0) rfl))).1 yb5_0
  have N5 := Fr.app N2 N5q
  refine own_go ?_ (fun _ hr => st5.trans (XS.iconst X5.here hx rfl (hb hby d8_23) hr))
  show own_H (T5.setTop (mkF m 24 #[rv a1, rv a2] [(.int (1 : Int32))]))
  obtain ⟨fs, hr, hrun, hended, hW, hsame⟩ := X5.leave (v := some (.int (1 : Int32))) (fun h => by rw [Bd.returns] at h; cases h)
  exact ⟨_, _, retN X5 hx (t := .boolean) Bd.returns (by simp) (hb hby d8_24) hr, hrun, hended, _, _, rfl, ⟨b5_0, kb5_1, rfl, N5, (((Keep.refl h0 [a1]).wr W2 (Or.inl (List.mem_of_getElem? (i := 0) rfl))).trans K5 (allS (Or.inl (List.mem_of_getElem? (i := 0) rfl)) all0)), sz_b5_0, P5_0, P5_1, P5_2, P5_3, P5_4, P5_5, P5_6⟩, ⟨_, rfl⟩, hW, hsame.mono (by decide) (by decide)⟩
def Q_rm_add3_1 (Z : State) (a1 : Addr) (a2 : Addr) (b : Addr) (mc : Int32) (kb : ClassId) (el0 : Addr) (h0 : Heap) (n0 : Nat) : Option Value → Heap → List Loc → Prop := fun v h L => v = none ∧ Fr n0 L ∧ Keep h0 h [a1, b] ∧ Exa Z h a1 "java/util/ArrayList" ∧ Fld Z h a1 "java/util/AbstractList" "modCount" "I" (.int mc) ∧ Fld Z h a1 "java/util/ArrayList" "elementData" "[Ljava/lang/Object;" (.ref b) ∧ Fld Z h a1 "java/util/ArrayList" "size" "I" (.int (2 : Int32)) ∧ Arv Z h b kb (.object "java/lang/Object") (10 : Int32) [(.ref el0), (.ref a2), .null, .null, .null, .null, .null, .null, .null, .null] .null
set_option maxRecDepth 65536 in
set_option maxHeartbeats 40000000 in
theorem rm_add3_1 (l : Launch) (Z : State) (a0 : Array Value) (hw : ∀ d ∈ tables_1, d.before a0 Z = true) (ws : List Jvm.Cond) (a1 : Addr) (a2 : Addr) (b : Addr) (mc : Int32) (kb : ClassId) (el0 : Addr) (h0 : Heap) (n0 : Nat) (Z0 : n0 ≤ h0.size) (E_a1 : Exa Z h0 a1 "java/util/ArrayList") (F_a1_modCount : Fld Z h0 a1 "java/util/AbstractList" "modCount" "I" (.int mc)) (F_a1_elementData : Fld Z h0 a1 "java/util/ArrayList" "elementData" "[Ljava/lang/Object;" (.ref b)) (F_a1_size : Fld Z h0 a1 "java/util/ArrayList" "size" "I" (.int (1 : Int32))) (V_b : Arv Z h0 b kb (.object "java/lang/Object") (10 : Int32) [(.ref el0), .null, .null, .null, .null, .null, .null, .null, .null, .null] .null) (ov_kb : Ovr Z kb "java/lang/Object") (E_a2 : Exa Z h0 a2 "java/lang/String") (g_a1 : n0 ≤ a1) (g_b : n0 ≤ b) (ne_a1_b : a1 ≠ b) :
    MetFree l y13_ (head1 (Jvm.Cond.code y13_ jdk_38_method_24_code 4 none :: ws) R0_) (fun a U => a = #[(.ref a1), (.ref a2), (.ref b), (.int (1 : Int32))] ∧ Z.Warmed39 U.vm ∧ U.heap = h0) (fun _ _ _ _ _ => True) (fun _ U o U' => ∃ v L, o = .returned v ∧ (Q_rm_add3_1 Z a1 a2 b mc kb el0 h0 n0) v U'.heap L ∧ FrameEnd U o U' L R0_.cells R0_.slots) := by
  refine MetFree.of_bodySF (plainFor_of_name pn_9) hisR ?_
  intro p e s m args below meth c s₁ Bd hml0 hP hK
  obtain ⟨rfl, hZ, hh⟩ := hP
  have hx := Bd.exec
  have hby := Bd.bytes
  have hml : c.maxLocals = 4 := hml0
  have hown : s.vm.findClass "java/util/ArrayList" = some m.cls := findClass_of_methodNamed Bd.named
  have hnm := (name_of_methodNamed Bd.named Bd.method).1
  have X0 : Stand p l e R0_ s m #[(.ref a1), (.ref a2), (.ref b), (.int (1 : Int32))] below meth c s₁ [] 0 0 := Stand.of_body Bd
  have e0 : s₁.heap = h0 := by rw [← hh, Bd.state]; rfl
  have N0 := Fr.nil n0
  show own_G FrameEnd p e below s R0_.cells R0_.slots (Q_rm_add3_1 Z a1 a2 b mc kb el0 h0 n0) (s₁.setTop (entryFrame m #[(.ref a1), (.ref a2), (.ref b), (.int (1 : Int32))] 4))
  refine own_go (Y' := s₁.setTop (mkF m 0 #[rv a1, rv a2, rv b, iv (1 : Int32)] [])) ?_ (fun t k => castTop (ef_9 m a1 a2 b (1 : Int32)) k)
  refine own_go ?_ (fun _ hr => XS.iloadN X0.here hx rfl (hb hby d9_0) rfl (XS.aloadN X0.here hx rfl (hb hby d9_1) rfl rfl hr))
  show own_H (s₁.setTop (mkF m 2 #[rv a1, rv a2, rv b, iv (1 : Int32)] [(.ref b), (.int (1 : Int32))]))
  obtain ⟨cl1, Ar1, -, S1, M1, -, -⟩ := id V_b
  refine own_go ?_ (fun _ hr => X0.arraylength hx (by rw [e0]; exact Ar1.1) (State.isArrayOf_alike hZ.alike Ar1.2.1) (g := (mkF m 2 #[rv a1, rv a2, rv b, iv (1 : Int32)] [(.ref b), (.int (1 : Int32))])) rfl rfl (hb hby d9_2) _ hr)
  rw [len_of S1 M1]
  show own_H (s₁.setTop (mkF m 3 #[rv a1, rv a2, rv b, iv (1 : Int32)] [(.int (10 : Int32)), (.int (1 : Int32))]))
  refine own_go ?_ (fun _ hr => XS.icmpYes X0.here hx rfl (pc0 := 3) (pc' := 11) rfl (hb hby d9_3) rfl (feq (by decide : ¬ ((1 : Int32) = (10 : Int32)))).2 (by decide) (by decide) (XS.aloadN X0.here hx rfl (hb hby d9_11) rfl rfl (XS.iloadN X0.here hx rfl (hb hby d9_12) rfl (XS.aloadN X0.here hx rfl (hb hby d9_13) rfl rfl hr))))
  show own_H (s₁.setTop (mkF m 14 #[rv a1, rv a2, rv b, iv (1 : Int32)] [(.ref a2), (.int (1 : Int32)), (.ref b)]))
  obtain ⟨cl2, Ar2, qk2, S2, M2, H2, G2⟩ := id V_b
  have hin2 : ¬ ((1 : Int32) < 0 ∨ cl2.slots.size ≤ ((1 : Int32)).toNatClampNeg) := inb_of S2 ⟨by decide, by decide⟩
  obtain ⟨T2, h2, X2, e2, W2, st2⟩ := stR X0 hx hZ e0 Ar2 (j := (1 : Int32)) hin2 rfl (Sto.ofV Ar2 qk2 ov_kb (Ins.of_exa E_a2 (hw _ (tm 80 rfl)))) (g := (mkF m 14 #[rv a1, rv a2, rv b, iv (1 : Int32)] [(.ref a2), (.int (1 : Int32)), (.ref b)])) rfl rfl (hb hby d9_14)
  have V2 : Arv Z h2 b kb (.object "java/lang/Object") (10 : Int32) [(.ref el0), (.ref a2), .null, .null, .null, .null, .null, .null, .null, .null] .null := Arv.set Ar2 qk2 S2 M2 H2 G2 rfl W2 1 rfl (Nat.le_of_ble_eq_true rfl)
  have N2 := Fr.snoc X2 N0 g_b
  refine own_go ?_ (fun _ hr => st2 _ (XS.aloadN X2.here hx rfl (hb hby d9_15) rfl rfl (XS.iloadN X2.here hx rfl (hb hby d9_16) rfl (XS.iconst X2.here hx rfl (hb hby d9_17) (XS.iadd X2.here hx rfl (hb hby d9_18) rfl hr)))))
  show own_H (T2.setTop (mkF m 19 #[rv a1, rv a2, rv b, iv (1 : Int32)] [(.int (2 : Int32)), (.ref a1)]))
  obtain ⟨T3, h3, X3, e3, W3, st3⟩ := putF X2 hx hZ hown (host := "") (Or.inl (hw _ (tm 57 rfl))) Via.refl e2 (F_a1_size.other W2 (Or.inl ne_a1_b)) (E_a1.wr W2) (Or.inl (hw _ (tm 58 rfl))) (hw _ (tm 27 rfl)) (ty := .int) (by decide) rfl rfl (g := (mkF m 19 #[rv a1, rv a2, rv b, iv (1 : Int32)] [(.int (2 : Int32)), (.ref a1)])) rfl rfl (hb hby d9_19)
  have Fw3 := (F_a1_size.other W2 (Or.inl ne_a1_b)).same W3
  have N3 := Fr.snoc X3 N2 g_a1
  refine own_go ?_ (fun _ hr => st3 _ hr)
  show own_H (T3.setTop (mkF m 22 #[rv a1, rv a2, rv b, iv (1 : Int32)] []))
  obtain ⟨fs, hr, hrun, hended, hW, hsame⟩ := X3.leave (v := none) (fun _ => rfl)
  exact ⟨_, _, X3.returnOut hx Bd.returns (hb hby d9_22) hr, hrun, hended, _, _, rfl, (by rw [show (T3.setFrames fs).heap = h3 from e3]; exact ⟨rfl, N3, (((Keep.refl h0 [a1, b]).wr W2 (Or.inl (List.mem_of_getElem? (i := 1) rfl))).wr W3 (Or.inl (List.mem_of_getElem? (i := 0) rfl))), ((E_a1.wr W2).wr W3), ((F_a1_modCount.other W2 (Or.inl ne_a1_b)).other W3 (Or.inr (slot_ne (Or.inl (hw _ (tm 46 rfl))) (Or.inl (hw _ (tm 58 rfl))) (by decide) (t := .int) (t' := .int) (by decide) (by decide)))), ((F_a1_elementData.other W2 (Or.inl ne_a1_b)).other W3 (Or.inr (slot_ne (Or.inl (hw _ (tm 49 rfl))) (Or.inl (hw _ (tm 58 rfl))) (by decide) (t := (.array (.object "java/lang/Object"))) (t' := .int) (by decide) (by decide)))), Fw3, (V2.other W3 (Ne.symm ne_a1_b))⟩), ⟨_, rfl⟩, hW, hsame.mono (by decide) (by decide)⟩
def Q_rm_add1_1 (Z : State) (a1 : Addr) (a2 : Addr) (mc : Int32) (b : Addr) (kb : ClassId) (el0 : Addr) (h0 : Heap) (n0 : Nat) : Option Value → Heap → List Loc → Prop := fun v h L => v = some (.int (1 : Int32)) ∧ Fr n0 L ∧ Keep h0 h [a1, b] ∧ Exa Z h a1 "java/util/ArrayList" ∧ Fld Z h a1 "java/util/AbstractList" "modCount" "I" (.int (mc + (1 : Int32))) ∧ Fld Z h a1 "java/util/ArrayList" "elementData" "[Ljava/lang/Object;" (.ref b) ∧ Fld Z h a1 "java/util/ArrayList" "size" "I" (.int (2 : Int32)) ∧ Arv Z h b kb (.object "java/lang/Object") (10 : Int32) [(.ref el0), (.ref a2), .null, .null, .null, .null, .null, .null, .null, .null] .null
set_option maxRecDepth 65536 in
set_option maxHeartbeats 40000000 in
theorem rm_add1_1 (l : Launch) (Z : State) (a0 : Array Value) (hw : ∀ d ∈ tables_1, d.before a0 Z = true) (ws : List Jvm.Cond) (a1 : Addr) (a2 : Addr) (mc : Int32) (b : Addr) (kb : ClassId) (el0 : Addr) (h0 : Heap) (n0 : Nat) (Z0 : n0 ≤ h0.size) (E_a1 : Exa Z h0 a1 "java/util/ArrayList") (F_a1_modCount : Fld Z h0 a1 "java/util/AbstractList" "modCount" "I" (.int mc)) (F_a1_elementData : Fld Z h0 a1 "java/util/ArrayList" "elementData" "[Ljava/lang/Object;" (.ref b)) (F_a1_size : Fld Z h0 a1 "java/util/ArrayList" "size" "I" (.int (1 : Int32))) (V_b : Arv Z h0 b kb (.object "java/lang/Object") (10 : Int32) [(.ref el0), .null, .null, .null, .null, .null, .null, .null, .null, .null] .null) (ov_kb : Ovr Z kb "java/lang/Object") (E_a2 : Exa Z h0 a2 "java/lang/String") (g_a1 : n0 ≤ a1) (g_b : n0 ≤ b) (ne_a1_b : a1 ≠ b) :
    MetFree l y14_ (head1 (Jvm.Cond.code y14_ jdk_38_method_25_code 2 (some .boolean) :: ws) R13_) (fun a U => a = #[(.ref a1), (.ref a2)] ∧ Z.Warmed39 U.vm ∧ U.heap = h0) (fun _ _ _ _ _ => True) (fun _ U o U' => ∃ v L, o = .returned v ∧ (Q_rm_add1_1 Z a1 a2 mc b kb el0 h0 n0) v U'.heap L ∧ FrameEnd U o U' L R13_.cells R13_.slots) := by
  refine MetFree.of_bodySF (plainFor_of_name pn_8) hisR ?_
  intro p e s m args below meth c s₁ Bd hml0 hP hK
  obtain ⟨rfl, hZ, hh⟩ := hP
  have hx := Bd.exec
  have hby := Bd.bytes
  have hml : c.maxLocals = 2 := hml0
  have hown : s.vm.findClass "java/util/ArrayList" = some m.cls := findClass_of_methodNamed Bd.named
  have hnm := (name_of_methodNamed Bd.named Bd.method).1
  have X0 : Stand p l e R13_ s m #[(.ref a1), (.ref a2)] below meth c s₁ [] 0 0 := Stand.of_body Bd
  have e0 : s₁.heap = h0 := by rw [← hh, Bd.state]; rfl
  have N0 := Fr.nil n0
  show own_G FrameEnd p e below s R13_.cells R13_.slots (Q_rm_add1_1 Z a1 a2 mc b kb el0 h0 n0) (s₁.setTop (entryFrame m #[(.ref a1), (.ref a2)] 2))
  refine own_go (Y' := s₁.setTop (mkF m 0 #[rv a1, rv a2] [])) ?_ (fun t k => castTop (ef_8 m a1 a2) k)
  refine own_go ?_ (fun _ hr => XS.aloadN X0.here hx rfl (hb hby d8_0) rfl rfl (XS.dup X0.here hx rfl (hb hby d8_1) rfl rfl hr))
  show own_H (s₁.setTop (mkF m 2 #[rv a1, rv a2] [(.ref a1), (.ref a1)]))
  obtain ⟨T1, X1, e1, st1⟩ := getF X0 hx hZ hown (host := "") (Or.inl (hw _ (tm 55 rfl))) (Via.of (hw _ (tm 56 rfl))) e0 F_a1_modCount (g := (mkF m 2 #[rv a1, rv a2] [(.ref a1), (.ref a1)])) rfl rfl (hb hby d8_2)
  refine own_go ?_ (fun _ hr => st1 _ (XS.iconst X1.here hx rfl (hb hby d8_5) (XS.iadd X1.here hx rfl (hb hby d8_6) rfl hr)))
  show own_H (T1.setTop (mkF m 7 #[rv a1, rv a2] [(.int (mc + (1 : Int32))), (.ref a1)]))
  obtain ⟨T2, h2, X2, e2, W2, st2⟩ := putF X1 hx hZ hown (host := "") (Or.inl (hw _ (tm 55 rfl))) (Via.of (hw _ (tm 56 rfl))) e1 F_a1_modCount E_a1 (Or.inl (hw _ (tm 46 rfl))) (hw _ (tm 27 rfl)) (ty := .int) (by decide) rfl rfl (g := (mkF m 7 #[rv a1, rv a2] [(.int (mc + (1 : Int32))), (.ref a1)])) rfl rfl (hb hby d8_7)
  have Fw2 := F_a1_modCount.same W2
  have N2 := Fr.snoc X2 N0 g_a1
  refine own_go ?_ (fun _ hr => st2 _ (XS.aloadN X2.here hx rfl (hb hby d8_10) rfl rfl (XS.aloadN X2.here hx rfl (hb hby d8_11) rfl rfl (XS.aloadN X2.here hx rfl (hb hby d8_12) rfl rfl hr))))
  show own_H (T2.setTop (mkF m 13 #[rv a1, rv a2] [(.ref a1), (.ref a2), (.ref a1)]))
  obtain ⟨T3, X3, e3, st3⟩ := getF X2 hx hZ hown (host := "") (Or.inl (hw _ (tm 48 rfl))) Via.refl e2 (F_a1_elementData.other W2 (Or.inr (slot_ne (Or.inl (hw _ (tm 49 rfl))) (Or.inl (hw _ (tm 46 rfl))) (by decide) (t := (.array (.object "java/lang/Object"))) (t' := .int) (by decide) (by decide)))) (g := (mkF m 13 #[rv a1, rv a2] [(.ref a1), (.ref a2), (.ref a1)])) rfl rfl (hb hby d8_13)
  refine own_go ?_ (fun _ hr => st3 _ (XS.aloadN X3.here hx rfl (hb hby d8_16) rfl rfl hr))
  show own_H (T3.setTop (mkF m 17 #[rv a1, rv a2] [(.ref a1), (.ref b), (.ref a2), (.ref a1)]))
  obtain ⟨T4, X4, e4, st4⟩ := getF X3 hx hZ hown (host := "") (Or.inl (hw _ (tm 57 rfl))) Via.refl e3 (F_a1_size.other W2 (Or.inr (slot_ne (Or.inl (hw _ (tm 58 rfl))) (Or.inl (hw _ (tm 46 rfl))) (by decide) (t := .int) (t' := .int) (by decide) (by decide)))) (g := (mkF m 17 #[rv a1, rv a2] [(.ref a1), (.ref b), (.ref a2), (.ref a1)])) rfl rfl (hb hby d8_17)
  refine own_go ?_ (fun _ hr => st4 _ hr)
  show own_H (T4.setTop (mkF m 20 #[rv a1, rv a2] [(.int (1 : Int32)), (.ref b), (.ref a2), (.ref a1)]))
  obtain ⟨cq5, qp5, qp5'⟩ := (E_a1.wr W2).cell
  obtain ⟨_, _, ⟨T5, L5, k5, n5⟩, -, X5, ⟨Lc5, hQ5, l5, y5, z5⟩, st5⟩ := X4.privateBack hx (y := y13_) hown (mvT hZ (hw _ (tm 59 rfl))) (mvT hZ (hw _ (tm 60 rfl))) (mvT hZ (hw _ (tm 62 rfl))) (Cond.privateMethod_at (mvP hZ (hw _ (tm 61 rfl)) (args := #[]))) (mvT hZ (hw _ (tm 63 rfl))) (by decide) (backOf (W := 0) (rm_add3_1 l Z a0 hw [] a1 a2 b (mc + (1 : Int32)) kb el0 h2 n0 (ltr Z0 (Keep.of_wr W2).1) (E_a1.wr W2) Fw2 (F_a1_elementData.other W2 (Or.inr (slot_ne (Or.inl (hw _ (tm 49 rfl))) (Or.inl (hw _ (tm 46 rfl))) (by decide) (t := (.array (.object "java/lang/Object"))) (t' := .int) (by decide) (by decide)))) (F_a1_size.other W2 (Or.inr (slot_ne (Or.inl (hw _ (tm 58 rfl))) (Or.inl (hw _ (tm 46 rfl))) (by decide) (t := .int) (t' := .int) (by decide) (by decide)))) (V_b.other W2 (Ne.symm ne_a1_b)) ov_kb (E_a2.wr W2) g_a1 g_b ne_a1_b) hZ (hw _ (tm 63 rfl)) (hw _ (tm 28 rfl)) (by decide) (by decide)) (g := (mkF m 20 #[rv a1, rv a2] [(.int (1 : Int32)), (.ref b), (.ref a2), (.ref a1)])) rfl (by rw [hml]; rfl) (Steps.refl _) (a := a1) (by rw [e4]; exact qp5) qp5' (argsL := [(.ref a2), (.ref b), (.int (1 : Int32))]) (rest := []) (lenOf pd__Ljava_lang_Object__Ljava_lang_Object_I_V rfl) rfl (by show 2 * 0 + _ ≤ _; exact Nat.le_of_eq rfl) (hb hby d8_20) (fun _ _ => ⟨rfl, e4, (by decide : 0 + 0 ≤ _), (by decide : 0 + 0 ≤ _)⟩)
  dsimp only [Pt.U, Pt.locs, Pt.cells, Pt.slots] at X5 l5 y5 z5 st5 hQ5
  subst l5 y5 z5
  obtain ⟨rfl, N5q, K5, P5_0, P5_1, P5_2, P5_3, P5_4⟩ := hQ5
  have N5 := Fr.app N2 N5q
  refine own_go ?_ (fun _ hr => st5.trans (XS.iconst X5.here hx rfl (hb hby d8_23) hr))
  show own_H (T5.setTop (mkF m 24 #[rv a1, rv a2] [(.int (1 : Int32))]))
  obtain ⟨fs, hr, hrun, hended, hW, hsame⟩ := X5.leave (v := some (.int (1 : Int32))) (fun h => by rw [Bd.returns] at h; cases h)
  exact ⟨_, _, retN X5 hx (t := .boolean) Bd.returns (by simp) (hb hby d8_24) hr, hrun, hended, _, _, rfl, ⟨rfl, N5, (((Keep.refl h0 [a1, b]).wr W2 (Or.inl (List.mem_of_getElem? (i := 0) rfl))).trans K5 (allS (Or.inl (List.mem_of_getElem? (i := 0) rfl)) (allS (Or.inl (List.mem_of_getElem? (i := 1) rfl)) all0))), P5_0, P5_1, P5_2, P5_3, P5_4⟩, ⟨_, rfl⟩, hW, hsame.mono (by decide) (by decide)⟩
def Q_rm_add3_2 (Z : State) (a1 : Addr) (a2 : Addr) (b : Addr) (mc : Int32) (kb : ClassId) (el0 : Addr) (el1 : Addr) (h0 : Heap) (n0 : Nat) : Option Value → Heap → List Loc → Prop := fun v h L => v = none ∧ Fr n0 L ∧ Keep h0 h [a1, b] ∧ Exa Z h a1 "java/util/ArrayList" ∧ Fld Z h a1 "java/util/AbstractList" "modCount" "I" (.int mc) ∧ Fld Z h a1 "java/util/ArrayList" "elementData" "[Ljava/lang/Object;" (.ref b) ∧ Fld Z h a1 "java/util/ArrayList" "size" "I" (.int (3 : Int32)) ∧ Arv Z h b kb (.object "java/lang/Object") (10 : Int32) [(.ref el0), (.ref el1), (.ref a2), .null, .null, .null, .null, .null, .null, .null] .null
set_option maxRecDepth 65536 in
set_option maxHeartbeats 40000000 in
theorem rm_add3_2 (l : Launch) (Z : State) (a0 : Array Value) (hw : ∀ d ∈ tables_1, d.before a0 Z = true) (ws : List Jvm.Cond) (a1 : Addr) (a2 : Addr) (b : Addr) (mc : Int32) (kb : ClassId) (el0 : Addr) (el1 : Addr) (h0 : Heap) (n0 : Nat) (Z0 : n0 ≤ h0.size) (E_a1 : Exa Z h0 a1 "java/util/ArrayList") (F_a1_modCount : Fld Z h0 a1 "java/util/AbstractList" "modCount" "I" (.int mc)) (F_a1_elementData : Fld Z h0 a1 "java/util/ArrayList" "elementData" "[Ljava/lang/Object;" (.ref b)) (F_a1_size : Fld Z h0 a1 "java/util/ArrayList" "size" "I" (.int (2 : Int32))) (V_b : Arv Z h0 b kb (.object "java/lang/Object") (10 : Int32) [(.ref el0), (.ref el1), .null, .null, .null, .null, .null, .null, .null, .null] .null) (ov_kb : Ovr Z kb "java/lang/Object") (E_a2 : Exa Z h0 a2 "java/lang/String") (g_a1 : n0 ≤ a1) (g_b : n0 ≤ b) (ne_a1_b : a1 ≠ b) :
    MetFree l y13_ (head1 (Jvm.Cond.code y13_ jdk_38_method_24_code 4 none :: ws) R0_) (fun a U => a = #[(.ref a1), (.ref a2), (.ref b), (.int (2 : Int32))] ∧ Z.Warmed39 U.vm ∧ U.heap = h0) (fun _ _ _ _ _ => True) (fun _ U o U' => ∃ v L, o = .returned v ∧ (Q_rm_add3_2 Z a1 a2 b mc kb el0 el1 h0 n0) v U'.heap L ∧ FrameEnd U o U' L R0_.cells R0_.slots) := by
  refine MetFree.of_bodySF (plainFor_of_name pn_9) hisR ?_
  intro p e s m args below meth c s₁ Bd hml0 hP hK
  obtain ⟨rfl, hZ, hh⟩ := hP
  have hx := Bd.exec
  have hby := Bd.bytes
  have hml : c.maxLocals = 4 := hml0
  have hown : s.vm.findClass "java/util/ArrayList" = some m.cls := findClass_of_methodNamed Bd.named
  have hnm := (name_of_methodNamed Bd.named Bd.method).1
  have X0 : Stand p l e R0_ s m #[(.ref a1), (.ref a2), (.ref b), (.int (2 : Int32))] below meth c s₁ [] 0 0 := Stand.of_body Bd
  have e0 : s₁.heap = h0 := by rw [← hh, Bd.state]; rfl
  have N0 := Fr.nil n0
  show own_G FrameEnd p e below s R0_.cells R0_.slots (Q_rm_add3_2 Z a1 a2 b mc kb el0 el1 h0 n0) (s₁.setTop (entryFrame m #[(.ref a1), (.ref a2), (.ref b), (.int (2 : Int32))] 4))
  refine own_go (Y' := s₁.setTop (mkF m 0 #[rv a1, rv a2, rv b, iv (2 : Int32)] [])) ?_ (fun t k => castTop (ef_9 m a1 a2 b (2 : Int32)) k)
  refine own_go ?_ (fun _ hr => XS.iloadN X0.here hx rfl (hb hby d9_0) rfl (XS.aloadN X0.here hx rfl (hb hby d9_1) rfl rfl hr))
  show own_H (s₁.setTop (mkF m 2 #[rv a1, rv a2, rv b, iv (2 : Int32)] [(.ref b), (.int (2 : Int32))]))
  obtain ⟨cl1, Ar1, -, S1, M1, -, -⟩ := id V_b
  refine own_go ?_ (fun _ hr => X0.arraylength hx (by rw [e0]; exact Ar1.1) (State.isArrayOf_alike hZ.alike Ar1.2.1) (g := (mkF m 2 #[rv a1, rv a2, rv b, iv (2 : Int32)] [(.ref b), (.int (2 : Int32))])) rfl rfl (hb hby d9_2) _ hr)
  rw [len_of S1 M1]
  show own_H (s₁.setTop (mkF m 3 #[rv a1, rv a2, rv b, iv (2 : Int32)] [(.int (10 : Int32)), (.int (2 : Int32))]))
  refine own_go ?_ (fun _ hr => XS.icmpYes X0.here hx rfl (pc0 := 3) (pc' := 11) rfl (hb hby d9_3) rfl (feq (by decide : ¬ ((2 : Int32) = (10 : Int32)))).2 (by decide) (by decide) (XS.aloadN X0.here hx rfl (hb hby d9_11) rfl rfl (XS.iloadN X0.here hx rfl (hb hby d9_12) rfl (XS.aloadN X0.here hx rfl (hb hby d9_13) rfl rfl hr))))
  show own_H (s₁.setTop (mkF m 14 #[rv a1, rv a2, rv b, iv (2 : Int32)] [(.ref a2), (.int (2 : Int32)), (.ref b)]))
  obtain ⟨cl2, Ar2, qk2, S2, M2, H2, G2⟩ := id V_b
  have hin2 : ¬ ((2 : Int32) < 0 ∨ cl2.slots.size ≤ ((2 : Int32)).toNatClampNeg) := inb_of S2 ⟨by decide, by decide⟩
  obtain ⟨T2, h2, X2, e2, W2, st2⟩ := stR X0 hx hZ e0 Ar2 (j := (2 : Int32)) hin2 rfl (Sto.ofV Ar2 qk2 ov_kb (Ins.of_exa E_a2 (hw _ (tm 80 rfl)))) (g := (mkF m 14 #[rv a1, rv a2, rv b, iv (2 : Int32)] [(.ref a2), (.int (2 : Int32)), (.ref b)])) rfl rfl (hb hby d9_14)
  have V2 : Arv Z h2 b kb (.object "java/lang/Object") (10 : Int32) [(.ref el0), (.ref el1), (.ref a2), .null, .null, .null, .null, .null, .null, .null] .null := Arv.set Ar2 qk2 S2 M2 H2 G2 rfl W2 2 rfl (Nat.le_of_ble_eq_true rfl)
  have N2 := Fr.snoc X2 N0 g_b
  refine own_go ?_ (fun _ hr => st2 _ (XS.aloadN X2.here hx rfl (hb hby d9_15) rfl rfl (XS.iloadN X2.here hx rfl (hb hby d9_16) rfl (XS.iconst X2.here hx rfl (hb hby d9_17) (XS.iadd X2.here hx rfl (hb hby d9_18) rfl hr)))))
  show own_H (T2.setTop (mkF m 19 #[rv a1, rv a2, rv b, iv (2 : Int32)] [(.int (3 : Int32)), (.ref a1)]))
  obtain ⟨T3, h3, X3, e3, W3, st3⟩ := putF X2 hx hZ hown (host := "") (Or.inl (hw _ (tm 57 rfl))) Via.refl e2 (F_a1_size.other W2 (Or.inl ne_a1_b)) (E_a1.wr W2) (Or.inl (hw _ (tm 58 rfl))) (hw _ (tm 27 rfl)) (ty := .int) (by decide) rfl rfl (g := (mkF m 19 #[rv a1, rv a2, rv b, iv (2 : Int32)] [(.int (3 : Int32)), (.ref a1)])) rfl rfl (hb hby d9_19)
  have Fw3 := (F_a1_size.other W2 (Or.inl ne_a1_b)).same W3
  have N3 := Fr.snoc X3 N2 g_a1
  refine own_go ?_ (fun _ hr => st3 _ hr)
  show own_H (T3.setTop (mkF m 22 #[rv a1, rv a2, rv b, iv (2 : Int32)] []))
  obtain ⟨fs, hr, hrun, hended, hW, hsame⟩ := X3.leave (v := none) (fun _ => rfl)
  exact ⟨_, _, X3.returnOut hx Bd.returns (hb hby d9_22) hr, hrun, hended, _, _, rfl, (by rw [show (T3.setFrames fs).heap = h3 from e3]; exact ⟨rfl, N3, (((Keep.refl h0 [a1, b]).wr W2 (Or.inl (List.mem_of_getElem? (i := 1) rfl))).wr W3 (Or.inl (List.mem_of_getElem? (i := 0) rfl))), ((E_a1.wr W2).wr W3), ((F_a1_modCount.other W2 (Or.inl ne_a1_b)).other W3 (Or.inr (slot_ne (Or.inl (hw _ (tm 46 rfl))) (Or.inl (hw _ (tm 58 rfl))) (by decide) (t := .int) (t' := .int) (by decide) (by decide)))), ((F_a1_elementData.other W2 (Or.inl ne_a1_b)).other W3 (Or.inr (slot_ne (Or.inl (hw _ (tm 49 rfl))) (Or.inl (hw _ (tm 58 rfl))) (by decide) (t := (.array (.object "java/lang/Object"))) (t' := .int) (by decide) (by decide)))), Fw3, (V2.other W3 (Ne.symm ne_a1_b))⟩), ⟨_, rfl⟩, hW, hsame.mono (by decide) (by decide)⟩
def Q_rm_add1_2 (Z : State) (a1 : Addr) (a2 : Addr) (mc : Int32) (b : Addr) (kb : ClassId) (el0 : Addr) (el1 : Addr) (h0 : Heap) (n0 : Nat) : Option Value → Heap → List Loc → Prop := fun v h L => v = some (.int (1 : Int32)) ∧ Fr n0 L ∧ Keep h0 h [a1, b] ∧ Exa Z h a1 "java/util/ArrayList" ∧ Fld Z h a1 "java/util/AbstractList" "modCount" "I" (.int (mc + (1 : Int32))) ∧ Fld Z h a1 "java/util/ArrayList" "elementData" "[Ljava/lang/Object;" (.ref b) ∧ Fld Z h a1 "java/util/ArrayList" "size" "I" (.int (3 : Int32)) ∧ Arv Z h b kb (.object "java/lang/Object") (10 : Int32) [(.ref el0), (.ref el1), (.ref a2), .null, .null, .null, .null, .null, .null, .null] .null
set_option maxRecDepth 65536 in
set_option maxHeartbeats 40000000 in
theorem rm_add1_2 (l : Launch) (Z : State) (a0 : Array Value) (hw : ∀ d ∈ tables_1, d.before a0 Z = true) (ws : List Jvm.Cond) (a1 : Addr) (a2 : Addr) (mc : Int32) (b : Addr) (kb : ClassId) (el0 : Addr) (el1 : Addr) (h0 : Heap) (n0 : Nat) (Z0 : n0 ≤ h0.size) (E_a1 : Exa Z h0 a1 "java/util/ArrayList") (F_a1_modCount : Fld Z h0 a1 "java/util/AbstractList" "modCount" "I" (.int mc)) (F_a1_elementData : Fld Z h0 a1 "java/util/ArrayList" "elementData" "[Ljava/lang/Object;" (.ref b)) (F_a1_size : Fld Z h0 a1 "java/util/ArrayList" "size" "I" (.int (2 : Int32))) (V_b : Arv Z h0 b kb (.object "java/lang/Object") (10 : Int32) [(.ref el0), (.ref el1), .null, .null, .null, .null, .null, .null, .null, .null] .null) (ov_kb : Ovr Z kb "java/lang/Object") (E_a2 : Exa Z h0 a2 "java/lang/String") (g_a1 : n0 ≤ a1) (g_b : n0 ≤ b) (ne_a1_b : a1 ≠ b) :
    MetFree l y14_ (head1 (Jvm.Cond.code y14_ jdk_38_method_25_code 2 (some .boolean) :: ws) R13_) (fun a U => a = #[(.ref a1), (.ref a2)] ∧ Z.Warmed39 U.vm ∧ U.heap = h0) (fun _ _ _ _ _ => True) (fun _ U o U' => ∃ v L, o = .returned v ∧ (Q_rm_add1_2 Z a1 a2 mc b kb el0 el1 h0 n0) v U'.heap L ∧ FrameEnd U o U' L R13_.cells R13_.slots) := by
  refine MetFree.of_bodySF (plainFor_of_name pn_8) hisR ?_
  intro p e s m args below meth c s₁ Bd hml0 hP hK
  obtain ⟨rfl, hZ, hh⟩ := hP
  have hx := Bd.exec
  have hby := Bd.bytes
  have hml : c.maxLocals = 2 := hml0
  have hown : s.vm.findClass "java/util/ArrayList" = some m.cls := findClass_of_methodNamed Bd.named
  have hnm := (name_of_methodNamed Bd.named Bd.method).1
  have X0 : Stand p l e R13_ s m #[(.ref a1), (.ref a2)] below meth c s₁ [] 0 0 := Stand.of_body Bd
  have e0 : s₁.heap = h0 := by rw [← hh, Bd.state]; rfl
  have N0 := Fr.nil n0
  show own_G FrameEnd p e below s R13_.cells R13_.slots (Q_rm_add1_2 Z a1 a2 mc b kb el0 el1 h0 n0) (s₁.setTop (entryFrame m #[(.ref a1), (.ref a2)] 2))
  refine own_go (Y' := s₁.setTop (mkF m 0 #[rv a1, rv a2] [])) ?_ (fun t k => castTop (ef_8 m a1 a2) k)
  refine own_go ?_ (fun _ hr => XS.aloadN X0.here hx rfl (hb hby d8_0) rfl rfl (XS.dup X0.here hx rfl (hb hby d8_1) rfl rfl hr))
  show own_H (s₁.setTop (mkF m 2 #[rv a1, rv a2] [(.ref a1), (.ref a1)]))
  obtain ⟨T1, X1, e1, st1⟩ := getF X0 hx hZ hown (host := "") (Or.inl (hw _ (tm 55 rfl))) (Via.of (hw _ (tm 56 rfl))) e0 F_a1_modCount (g := (mkF m 2 #[rv a1, rv a2] [(.ref a1), (.ref a1)])) rfl rfl (hb hby d8_2)
  refine own_go ?_ (fun _ hr => st1 _ (XS.iconst X1.here hx rfl (hb hby d8_5) (XS.iadd X1.here hx rfl (hb hby d8_6) rfl hr)))
  show own_H (T1.setTop (mkF m 7 #[rv a1, rv a2] [(.int (mc + (1 : Int32))), (.ref a1)]))
  obtain ⟨T2, h2, X2, e2, W2, st2⟩ := putF X1 hx hZ hown (host := "") (Or.inl (hw _ (tm 55 rfl))) (Via.of (hw _ (tm 56 rfl))) e1 F_a1_modCount E_a1 (Or.inl (hw _ (tm 46 rfl))) (hw _ (tm 27 rfl)) (ty := .int) (by decide) rfl rfl (g := (mkF m 7 #[rv a1, rv a2] [(.int (mc + (1 : Int32))), (.ref a1)])) rfl rfl (hb hby d8_7)
  have Fw2 := F_a1_modCount.same W2
  have N2 := Fr.snoc X2 N0 g_a1
  refine own_go ?_ (fun _ hr => st2 _ (XS.aloadN X2.here hx rfl (hb hby d8_10) rfl rfl (XS.aloadN X2.here hx rfl (hb hby d8_11) rfl rfl (XS.aloadN X2.here hx rfl (hb hby d8_12) rfl rfl hr))))
  show own_H (T2.setTop (mkF m 13 #[rv a1, rv a2] [(.ref a1), (.ref a2), (.ref a1)]))
  obtain ⟨T3, X3, e3, st3⟩ := getF X2 hx hZ hown (host := "") (Or.inl (hw _ (tm 48 rfl))) Via.refl e2 (F_a1_elementData.other W2 (Or.inr (slot_ne (Or.inl (hw _ (tm 49 rfl))) (Or.inl (hw _ (tm 46 rfl))) (by decide) (t := (.array (.object "java/lang/Object"))) (t' := .int) (by decide) (by decide)))) (g := (mkF m 13 #[rv a1, rv a2] [(.ref a1), (.ref a2), (.ref a1)])) rfl rfl (hb hby d8_13)
  refine own_go ?_ (fun _ hr => st3 _ (XS.aloadN X3.here hx rfl (hb hby d8_16) rfl rfl hr))
  show own_H (T3.setTop (mkF m 17 #[rv a1, rv a2] [(.ref a1), (.ref b), (.ref a2), (.ref a1)]))
  obtain ⟨T4, X4, e4, st4⟩ := getF X3 hx hZ hown (host := "") (Or.inl (hw _ (tm 57 rfl))) Via.refl e3 (F_a1_size.other W2 (Or.inr (slot_ne (Or.inl (hw _ (tm 58 rfl))) (Or.inl (hw _ (tm 46 rfl))) (by decide) (t := .int) (t' := .int) (by decide) (by decide)))) (g := (mkF m 17 #[rv a1, rv a2] [(.ref a1), (.ref b), (.ref a2), (.ref a1)])) rfl rfl (hb hby d8_17)
  refine own_go ?_ (fun _ hr => st4 _ hr)
  show own_H (T4.setTop (mkF m 20 #[rv a1, rv a2] [(.int (2 : Int32)), (.ref b), (.ref a2), (.ref a1)]))
  obtain ⟨cq5, qp5, qp5'⟩ := (E_a1.wr W2).cell
  obtain ⟨_, _, ⟨T5, L5, k5, n5⟩, -, X5, ⟨Lc5, hQ5, l5, y5, z5⟩, st5⟩ := X4.privateBack hx (y := y13_) hown (mvT hZ (hw _ (tm 59 rfl))) (mvT hZ (hw _ (tm 60 rfl))) (mvT hZ (hw _ (tm 62 rfl))) (Cond.privateMethod_at (mvP hZ (hw _ (tm 61 rfl)) (args := #[]))) (mvT hZ (hw _ (tm 63 rfl))) (by decide) (backOf (W := 0) (rm_add3_2 l Z a0 hw [] a1 a2 b (mc + (1 : Int32)) kb el0 el1 h2 n0 (ltr Z0 (Keep.of_wr W2).1) (E_a1.wr W2) Fw2 (F_a1_elementData.other W2 (Or.inr (slot_ne (Or.inl (hw _ (tm 49 rfl))) (Or.inl (hw _ (tm 46 rfl))) (by decide) (t := (.array (.object "java/lang/Object"))) (t' := .int) (by decide) (by decide)))) (F_a1_size.other W2 (Or.inr (slot_ne (Or.inl (hw _ (tm 58 rfl))) (Or.inl (hw _ (tm 46 rfl))) (by decide) (t := .int) (t' := .int) (by decide) (by decide)))) (V_b.other W2 (Ne.symm ne_a1_b)) ov_kb (E_a2.wr W2) g_a1 g_b ne_a1_b) hZ (hw _ (tm 63 rfl)) (hw _ (tm 28 rfl)) (by decide) (by decide)) (g := (mkF m 20 #[rv a1, rv a2] [(.int (2 : Int32)), (.ref b), (.ref a2), (.ref a1)])) rfl (by rw [hml]; rfl) (Steps.refl _) (a := a1) (by rw [e4]; exact qp5) qp5' (argsL := [(.ref a2), (.ref b), (.int (2 : Int32))]) (rest := []) (lenOf pd__Ljava_lang_Object__Ljava_lang_Object_I_V rfl) rfl (by show 2 * 0 + _ ≤ _; exact Nat.le_of_eq rfl) (hb hby d8_20) (fun _ _ => ⟨rfl, e4, (by decide : 0 + 0 ≤ _), (by decide : 0 + 0 ≤ _)⟩)
  dsimp only [Pt.U, Pt.locs, Pt.cells, Pt.slots] at X5 l5 y5 z5 st5 hQ5
  subst l5 y5 z5
  obtain ⟨rfl, N5q, K5, P5_0, P5_1, P5_2, P5_3, P5_4⟩ := hQ5
  have N5 := Fr.app N2 N5q
  refine own_go ?_ (fun _ hr => st5.trans (XS.iconst X5.here hx rfl (hb hby d8_23) hr))
  show own_H (T5.setTop (mkF m 24 #[rv a1, rv a2] [(.int (1 : Int32))]))
  obtain ⟨fs, hr, hrun, hended, hW, hsame⟩ := X5.leave (v := some (.int (1 : Int32))) (fun h => by rw [Bd.returns] at h; cases h)
  exact ⟨_, _, retN X5 hx (t := .boolean) Bd.returns (by simp) (hb hby d8_24) hr, hrun, hended, _, _, rfl, ⟨rfl, N5, (((Keep.refl h0 [a1, b]).wr W2 (Or.inl (List.mem_of_getElem? (i := 0) rfl))).trans K5 (allS (Or.inl (List.mem_of_getElem? (i := 0) rfl)) (allS (Or.inl (List.mem_of_getElem? (i := 1) rfl)) all0))), P5_0, P5_1, P5_2, P5_3, P5_4⟩, ⟨_, rfl⟩, hW, hsame.mono (by decide) (by decide)⟩
def Q_rm_add3_3 (Z : State) (a1 : Addr) (a2 : Addr) (b : Addr) (mc : Int32) (kb : ClassId) (el0 : Addr) (el1 : Addr) (el2 : Addr) (h0 : Heap) (n0 : Nat) : Option Value → Heap → List Loc → Prop := fun v h L => v = none ∧ Fr n0 L ∧ Keep h0 h [a1, b] ∧ Exa Z h a1 "java/util/ArrayList" ∧ Fld Z h a1 "java/util/AbstractList" "modCount" "I" (.int mc) ∧ Fld Z h a1 "java/util/ArrayList" "elementData" "[Ljava/lang/Object;" (.ref b) ∧ Fld Z h a1 "java/util/ArrayList" "size" "I" (.int (4 : Int32)) ∧ Arv Z h b kb (.object "java/lang/Object") (10 : Int32) [(.ref el0), (.ref el1), (.ref el2), (.ref a2), .null, .null, .null, .null, .null, .null] .null
set_option maxRecDepth 65536 in
set_option maxHeartbeats 40000000 in
theorem rm_add3_3 (l : Launch) (Z : State) (a0 : Array Value) (hw : ∀ d ∈ tables_1, d.before a0 Z = true) (ws : List Jvm.Cond) (a1 : Addr) (a2 : Addr) (b : Addr) (mc : Int32) (kb : ClassId) (el0 : Addr) (el1 : Addr) (el2 : Addr) (h0 : Heap) (n0 : Nat) (Z0 : n0 ≤ h0.size) (E_a1 : Exa Z h0 a1 "java/util/ArrayList") (F_a1_modCount : Fld Z h0 a1 "java/util/AbstractList" "modCount" "I" (.int mc)) (F_a1_elementData : Fld Z h0 a1 "java/util/ArrayList" "elementData" "[Ljava/lang/Object;" (.ref b)) (F_a1_size : Fld Z h0 a1 "java/util/ArrayList" "size" "I" (.int (3 : Int32))) (V_b : Arv Z h0 b kb (.object "java/lang/Object") (10 : Int32) [(.ref el0), (.ref el1), (.ref el2), .null, .null, .null, .null, .null, .null, .null] .null) (ov_kb : Ovr Z kb "java/lang/Object") (E_a2 : Exa Z h0 a2 "java/lang/String") (g_a1 : n0 ≤ a1) (g_b : n0 ≤ b) (ne_a1_b : a1 ≠ b) :
    MetFree l y13_ (head1 (Jvm.Cond.code y13_ jdk_38_method_24_code 4 none :: ws) R0_) (fun a U => a = #[(.ref a1), (.ref a2), (.ref b), (.int (3 : Int32))] ∧ Z.Warmed39 U.vm ∧ U.heap = h0) (fun _ _ _ _ _ => True) (fun _ U o U' => ∃ v L, o = .returned v ∧ (Q_rm_add3_3 Z a1 a2 b mc kb el0 el1 el2 h0 n0) v U'.heap L ∧ FrameEnd U o U' L R0_.cells R0_.slots) := by
  refine MetFree.of_bodySF (plainFor_of_name pn_9) hisR ?_
  intro p e s m args below meth c s₁ Bd hml0 hP hK
  obtain ⟨rfl, hZ, hh⟩ := hP
  have hx := Bd.exec
  have hby := Bd.bytes
  have hml : c.maxLocals = 4 := hml0
  have hown : s.vm.findClass "java/util/ArrayList" = some m.cls := findClass_of_methodNamed Bd.named
  have hnm := (name_of_methodNamed Bd.named Bd.method).1
  have X0 : Stand p l e R0_ s m #[(.ref a1), (.ref a2), (.ref b), (.int (3 : Int32))] below meth c s₁ [] 0 0 := Stand.of_body Bd
  have e0 : s₁.heap = h0 := by rw [← hh, Bd.state]; rfl
  have N0 := Fr.nil n0
  show own_G FrameEnd p e below s R0_.cells R0_.slots (Q_rm_add3_3 Z a1 a2 b mc kb el0 el1 el2 h0 n0) (s₁.setTop (entryFrame m #[(.ref a1), (.ref a2), (.ref b), (.int (3 : Int32))] 4))
  refine own_go (Y' := s₁.setTop (mkF m 0 #[rv a1, rv a2, rv b, iv (3 : Int32)] [])) ?_ (fun t k => castTop (ef_9 m a1 a2 b (3 : Int32)) k)
  refine own_go ?_ (fun _ hr => XS.iloadN X0.here hx rfl (hb hby d9_0) rfl (XS.aloadN X0.here hx rfl (hb hby d9_1) rfl rfl hr))
  show own_H (s₁.setTop (mkF m 2 #[rv a1, rv a2, rv b, iv (3 : Int32)] [(.ref b), (.int (3 : Int32))]))
  obtain ⟨cl1, Ar1, -, S1, M1, -, -⟩ := id V_b
  refine own_go ?_ (fun _ hr => X0.arraylength hx (by rw [e0]; exact Ar1.1) (State.isArrayOf_alike hZ.alike Ar1.2.1) (g := (mkF m 2 #[rv a1, rv a2, rv b, iv (3 : Int32)] [(.ref b), (.int (3 : Int32))])) rfl rfl (hb hby d9_2) _ hr)
  rw [len_of S1 M1]
  show own_H (s₁.setTop (mkF m 3 #[rv a1, rv a2, rv b, iv (3 : Int32)] [(.int (10 : Int32)), (.int (3 : Int32))]))
  refine own_go ?_ (fun _ hr => XS.icmpYes X0.here hx rfl (pc0 := 3) (pc' := 11) rfl (hb hby d9_3) rfl (feq (by decide : ¬ ((3 : Int32) = (10 : Int32)))).2 (by decide) (by decide) (XS.aloadN X0.here hx rfl (hb hby d9_11) rfl rfl (XS.iloadN X0.here hx rfl (hb hby d9_12) rfl (XS.aloadN X0.here hx rfl (hb hby d9_13) rfl rfl hr))))
  show own_H (s₁.setTop (mkF m 14 #[rv a1, rv a2, rv b, iv (3 : Int32)] [(.ref a2), (.int (3 : Int32)), (.ref b)]))
  obtain ⟨cl2, Ar2, qk2, S2, M2, H2, G2⟩ := id V_b
  have hin2 : ¬ ((3 : Int32) < 0 ∨ cl2.slots.size ≤ ((3 : Int32)).toNatClampNeg) := inb_of S2 ⟨by decide, by decide⟩
  obtain ⟨T2, h2, X2, e2, W2, st2⟩ := stR X0 hx hZ e0 Ar2 (j := (3 : Int32)) hin2 rfl (Sto.ofV Ar2 qk2 ov_kb (Ins.of_exa E_a2 (hw _ (tm 80 rfl)))) (g := (mkF m 14 #[rv a1, rv a2, rv b, iv (3 : Int32)] [(.ref a2), (.int (3 : Int32)), (.ref b)])) rfl rfl (hb hby d9_14)
  have V2 : Arv Z h2 b kb (.object "java/lang/Object") (10 : Int32) [(.ref el0), (.ref el1), (.ref el2), (.ref a2), .null, .null, .null, .null, .null, .null] .null := Arv.set Ar2 qk2 S2 M2 H2 G2 rfl W2 3 rfl (Nat.le_of_ble_eq_true rfl)
  have N2 := Fr.snoc X2 N0 g_b
  refine own_go ?_ (fun _ hr => st2 _ (XS.aloadN X2.here hx rfl (hb hby d9_15) rfl rfl (XS.iloadN X2.here hx rfl (hb hby d9_16) rfl (XS.iconst X2.here hx rfl (hb hby d9_17) (XS.iadd X2.here hx rfl (hb hby d9_18) rfl hr)))))
  show own_H (T2.setTop (mkF m 19 #[rv a1, rv a2, rv b, iv (3 : Int32)] [(.int (4 : Int32)), (.ref a1)]))
  obtain ⟨T3, h3, X3, e3, W3, st3⟩ := putF X2 hx hZ hown (host := "") (Or.inl (hw _ (tm 57 rfl))) Via.refl e2 (F_a1_size.other W2 (Or.inl ne_a1_b)) (E_a1.wr W2) (Or.inl (hw _ (tm 58 rfl))) (hw _ (tm 27 rfl)) (ty := .int) (by decide) rfl rfl (g := (mkF m 19 #[rv a1, rv a2, rv b, iv (3 : Int32)] [(.int (4 : Int32)), (.ref a1)])) rfl rfl (hb hby d9_19)
  have Fw3 := (F_a1_size.other W2 (Or.inl ne_a1_b)).same W3
  have N3 := Fr.snoc X3 N2 g_a1
  refine own_go ?_ (fun _ hr => st3 _ hr)
  show own_H (T3.setTop (mkF m 22 #[rv a1, rv a2, rv b, iv (3 : Int32)] []))
  obtain ⟨fs, hr, hrun, hended, hW, hsame⟩ := X3.leave (v := none) (fun _ => rfl)
  exact ⟨_, _, X3.returnOut hx Bd.returns (hb hby d9_22) hr, hrun, hended, _, _, rfl, (by rw [show (T3.setFrames fs).heap = h3 from e3]; exact ⟨rfl, N3, (((Keep.refl h0 [a1, b]).wr W2 (Or.inl (List.mem_of_getElem? (i := 1) rfl))).wr W3 (Or.inl (List.mem_of_getElem? (i := 0) rfl))), ((E_a1.wr W2).wr W3), ((F_a1_modCount.other W2 (Or.inl ne_a1_b)).other W3 (Or.inr (slot_ne (Or.inl (hw _ (tm 46 rfl))) (Or.inl (hw _ (tm 58 rfl))) (by decide) (t := .int) (t' := .int) (by decide) (by decide)))), ((F_a1_elementData.other W2 (Or.inl ne_a1_b)).other W3 (Or.inr (slot_ne (Or.inl (hw _ (tm 49 rfl))) (Or.inl (hw _ (tm 58 rfl))) (by decide) (t := (.array (.object "java/lang/Object"))) (t' := .int) (by decide) (by decide)))), Fw3, (V2.other W3 (Ne.symm ne_a1_b))⟩), ⟨_, rfl⟩, hW, hsame.mono (by decide) (by decide)⟩
def Q_rm_add1_3 (Z : State) (a1 : Addr) (a2 : Addr) (mc : Int32) (b : Addr) (kb : ClassId) (el0 : Addr) (el1 : Addr) (el2 : Addr) (h0 : Heap) (n0 : Nat) : Option Value → Heap → List Loc → Prop := fun v h L => v = some (.int (1 : Int32)) ∧ Fr n0 L ∧ Keep h0 h [a1, b] ∧ Exa Z h a1 "java/util/ArrayList" ∧ Fld Z h a1 "java/util/AbstractList" "modCount" "I" (.int (mc + (1 : Int32))) ∧ Fld Z h a1 "java/util/ArrayList" "elementData" "[Ljava/lang/Object;" (.ref b) ∧ Fld Z h a1 "java/util/ArrayList" "size" "I" (.int (4 : Int32)) ∧ Arv Z h b kb (.object "java/lang/Object") (10 : Int32) [(.ref el0), (.ref el1), (.ref el2), (.ref a2), .null, .null, .null, .null, .null, .null] .null
set_option maxRecDepth 65536 in
set_option maxHeartbeats 40000000 in
theorem rm_add1_3 (l : Launch) (Z : State) (a0 : Array Value) (hw : ∀ d ∈ tables_1, d.before a0 Z = true) (ws : List Jvm.Cond) (a1 : Addr) (a2 : Addr) (mc : Int32) (b : Addr) (kb : ClassId) (el0 : Addr) (el1 : Addr) (el2 : Addr) (h0 : Heap) (n0 : Nat) (Z0 : n0 ≤ h0.size) (E_a1 : Exa Z h0 a1 "java/util/ArrayList") (F_a1_modCount : Fld Z h0 a1 "java/util/AbstractList" "modCount" "I" (.int mc)) (F_a1_elementData : Fld Z h0 a1 "java/util/ArrayList" "elementData" "[Ljava/lang/Object;" (.ref b)) (F_a1_size : Fld Z h0 a1 "java/util/ArrayList" "size" "I" (.int (3 : Int32))) (V_b : Arv Z h0 b kb (.object "java/lang/Object") (10 : Int32) [(.ref el0), (.ref el1), (.ref el2), .null, .null, .null, .null, .null, .null, .null] .null) (ov_kb : Ovr Z kb "java/lang/Object") (E_a2 : Exa Z h0 a2 "java/lang/String") (g_a1 : n0 ≤ a1) (g_b : n0 ≤ b) (ne_a1_b : a1 ≠ b) :
    MetFree l y14_ (head1 (Jvm.Cond.code y14_ jdk_38_method_25_code 2 (some .boolean) :: ws) R13_) (fun a U => a = #[(.ref a1), (.ref a2)] ∧ Z.Warmed39 U.vm ∧ U.heap = h0) (fun _ _ _ _ _ => True) (fun _ U o U' => ∃ v L, o = .returned v ∧ (Q_rm_add1_3 Z a1 a2 mc b kb el0 el1 el2 h0 n0) v U'.heap L ∧ FrameEnd U o U' L R13_.cells R13_.slots) := by
  refine MetFree.of_bodySF (plainFor_of_name pn_8) hisR ?_
  intro p e s m args below meth c s₁ Bd hml0 hP hK
  obtain ⟨rfl, hZ, hh⟩ := hP
  have hx := Bd.exec
  have hby := Bd.bytes
  have hml : c.maxLocals = 2 := hml0
  have hown : s.vm.findClass "java/util/ArrayList" = some m.cls := findClass_of_methodNamed Bd.named
  have hnm := (name_of_methodNamed Bd.named Bd.method).1
  have X0 : Stand p l e R13_ s m #[(.ref a1), (.ref a2)] below meth c s₁ [] 0 0 := Stand.of_body Bd
  have e0 : s₁.heap = h0 := by rw [← hh, Bd.state]; rfl
  have N0 := Fr.nil n0
  show own_G FrameEnd p e below s R13_.cells R13_.slots (Q_rm_add1_3 Z a1 a2 mc b kb el0 el1 el2 h0 n0) (s₁.setTop (entryFrame m #[(.ref a1), (.ref a2)] 2))
  refine own_go (Y' := s₁.setTop (mkF m 0 #[rv a1, rv a2] [])) ?_ (fun t k => castTop (ef_8 m a1 a2) k)
  refine own_go ?_ (fun _ hr => XS.aloadN X0.here hx rfl (hb hby d8_0) rfl rfl (XS.dup X0.here hx rfl (hb hby d8_1) rfl rfl hr))
  show own_H (s₁.setTop (mkF m 2 #[rv a1, rv a2] [(.ref a1), (.ref a1)]))
  obtain ⟨T1, X1, e1, st1⟩ := getF X0 hx hZ hown (host := "") (Or.inl (hw _ (tm 55 rfl))) (Via.of (hw _ (tm 56 rfl))) e0 F_a1_modCount (g := (mkF m 2 #[rv a1, rv a2] [(.ref a1), (.ref a1)])) rfl rfl (hb hby d8_2)
  refine own_go ?_ (fun _ hr => st1 _ (XS.iconst X1.here hx rfl (hb hby d8_5) (XS.iadd X1.here hx rfl (hb hby d8_6) rfl hr)))
  show own_H (T1.setTop (mkF m 7 #[rv a1, rv a2] [(.int (mc + (1 : Int32))), (.ref a1)]))
  obtain ⟨T2, h2, X2, e2, W2, st2⟩ := putF X1 hx hZ hown (host := "") (Or.inl (hw _ (tm 55 rfl))) (Via.of (hw _ (tm 56 rfl))) e1 F_a1_modCount E_a1 (Or.inl (hw _ (tm 46 rfl))) (hw _ (tm 27 rfl)) (ty := .int) (by decide) rfl rfl (g := (mkF m 7 #[rv a1, rv a2] [(.int (mc + (1 : Int32))), (.ref a1)])) rfl rfl (hb hby d8_7)
  have Fw2 := F_a1_modCount.same W2
  have N2 := Fr.snoc X2 N0 g_a1
  refine own_go ?_ (fun _ hr => st2 _ (XS.aloadN X2.here hx rfl (hb hby d8_10) rfl rfl (XS.aloadN X2.here hx rfl (hb hby d8_11) rfl rfl (XS.aloadN X2.here hx rfl (hb hby d8_12) rfl rfl hr))))
  show own_H (T2.setTop (mkF m 13 #[rv a1, rv a2] [(.ref a1), (.ref a2), (.ref a1)]))
  obtain ⟨T3, X3, e3, st3⟩ := getF X2 hx hZ hown (host := "") (Or.inl (hw _ (tm 48 rfl))) Via.refl e2 (F_a1_elementData.other W2 (Or.inr (slot_ne (Or.inl (hw _ (tm 49 rfl))) (Or.inl (hw _ (tm 46 rfl))) (by decide) (t := (.array (.object "java/lang/Object"))) (t' := .int) (by decide) (by decide)))) (g := (mkF m 13 #[rv a1, rv a2] [(.ref a1), (.ref a2), (.ref a1)])) rfl rfl (hb hby d8_13)
  refine own_go ?_ (fun _ hr => st3 _ (XS.aloadN X3.here hx rfl (hb hby d8_16) rfl rfl hr))
  show own_H (T3.setTop (mkF m 17 #[rv a1, rv a2] [(.ref a1), (.ref b), (.ref a2), (.ref a1)]))
  obtain ⟨T4, X4, e4, st4⟩ := getF X3 hx hZ hown (host := "") (Or.inl (hw _ (tm 57 rfl))) Via.refl e3 (F_a1_size.other W2 (Or.inr (slot_ne (Or.inl (hw _ (tm 58 rfl))) (Or.inl (hw _ (tm 46 rfl))) (by decide) (t := .int) (t' := .int) (by decide) (by decide)))) (g := (mkF m 17 #[rv a1, rv a2] [(.ref a1), (.ref b), (.ref a2), (.ref a1)])) rfl rfl (hb hby d8_17)
  refine own_go ?_ (fun _ hr => st4 _ hr)
  show own_H (T4.setTop (mkF m 20 #[rv a1, rv a2] [(.int (3 : Int32)), (.ref b), (.ref a2), (.ref a1)]))
  obtain ⟨cq5, qp5, qp5'⟩ := (E_a1.wr W2).cell
  obtain ⟨_, _, ⟨T5, L5, k5, n5⟩, -, X5, ⟨Lc5, hQ5, l5, y5, z5⟩, st5⟩ := X4.privateBack hx (y := y13_) hown (mvT hZ (hw _ (tm 59 rfl))) (mvT hZ (hw _ (tm 60 rfl))) (mvT hZ (hw _ (tm 62 rfl))) (Cond.privateMethod_at (mvP hZ (hw _ (tm 61 rfl)) (args := #[]))) (mvT hZ (hw _ (tm 63 rfl))) (by decide) (backOf (W := 0) (rm_add3_3 l Z a0 hw [] a1 a2 b (mc + (1 : Int32)) kb el0 el1 el2 h2 n0 (ltr Z0 (Keep.of_wr W2).1) (E_a1.wr W2) Fw2 (F_a1_elementData.other W2 (Or.inr (slot_ne (Or.inl (hw _ (tm 49 rfl))) (Or.inl (hw _ (tm 46 rfl))) (by decide) (t := (.array (.object "java/lang/Object"))) (t' := .int) (by decide) (by decide)))) (F_a1_size.other W2 (Or.inr (slot_ne (Or.inl (hw _ (tm 58 rfl))) (Or.inl (hw _ (tm 46 rfl))) (by decide) (t := .int) (t' := .int) (by decide) (by decide)))) (V_b.other W2 (Ne.symm ne_a1_b)) ov_kb (E_a2.wr W2) g_a1 g_b ne_a1_b) hZ (hw _ (tm 63 rfl)) (hw _ (tm 28 rfl)) (by decide) (by decide)) (g := (mkF m 20 #[rv a1, rv a2] [(.int (3 : Int32)), (.ref b), (.ref a2), (.ref a1)])) rfl (by rw [hml]; rfl) (Steps.refl _) (a := a1) (by rw [e4]; exact qp5) qp5' (argsL := [(.ref a2), (.ref b), (.int (3 : Int32))]) (rest := []) (lenOf pd__Ljava_lang_Object__Ljava_lang_Object_I_V rfl) rfl (by show 2 * 0 + _ ≤ _; exact Nat.le_of_eq rfl) (hb hby d8_20) (fun _ _ => ⟨rfl, e4, (by decide : 0 + 0 ≤ _), (by decide : 0 + 0 ≤ _)⟩)
  dsimp only [Pt.U, Pt.locs, Pt.cells, Pt.slots] at X5 l5 y5 z5 st5 hQ5
  subst l5 y5 z5
  obtain ⟨rfl, N5q, K5, P5_0, P5_1, P5_2, P5_3, P5_4⟩ := hQ5
  have N5 := Fr.app N2 N5q
  refine own_go ?_ (fun _ hr => st5.trans (XS.iconst X5.here hx rfl (hb hby d8_23) hr))
  show own_H (T5.setTop (mkF m 24 #[rv a1, rv a2] [(.int (1 : Int32))]))
  obtain ⟨fs, hr, hrun, hended, hW, hsame⟩ := X5.leave (v := some (.int (1 : Int32))) (fun h => by rw [Bd.returns] at h; cases h)
  exact ⟨_, _, retN X5 hx (t := .boolean) Bd.returns (by simp) (hb hby d8_24) hr, hrun, hended, _, _, rfl, ⟨rfl, N5, (((Keep.refl h0 [a1, b]).wr W2 (Or.inl (List.mem_of_getElem? (i := 0) rfl))).trans K5 (allS (Or.inl (List.mem_of_getElem? (i := 0) rfl)) (allS (Or.inl (List.mem_of_getElem? (i := 1) rfl)) all0))), P5_0, P5_1, P5_2, P5_3, P5_4⟩, ⟨_, rfl⟩, hW, hsame.mono (by decide) (by decide)⟩
theorem d24_0 : decode jdk_47_method_1_code 0 = .ok (.aload_n 0, 1) := by decide +kernel
theorem d24_1 : decode jdk_47_method_1_code 1 = .ok (.invokespecial 1, 3) := by decide +kernel
theorem d24_4 : decode jdk_47_method_1_code 4 = .ok (.return_, 1) := by decide +kernel
theorem pn_24 : plainName "java/util/ImmutableCollections$AbstractImmutableCollection" = true := by first | (simp [plainName, overriddenIn]; done) | decide +kernel
theorem ef_24 (m : MethodId) (x0 : Addr) : entryFrame m #[(.ref x0)] 1 = mkF m 0 #[rv x0] [] := by first | (simp [entryFrame, mkF, argsToLocals, Value.category]; done) | rfl
def Q_rm24 (Z : State) (a1 : Addr) (h0 : Heap) (n0 : Nat) : Option Value → Heap → List Loc → Prop := fun v h L => v = none ∧ Fr n0 L ∧ h = h0
set_option maxRecDepth 65536 in
set_option maxHeartbeats 40000000 in
theorem rm24 (l : Launch) (Z : State) (a0 : Array Value) (hw : ∀ d ∈ tables_1, d.before a0 Z = true) (ws : List Jvm.Cond) (a1 : Addr) (h0 : Heap) (n0 : Nat) (Z0 : n0 ≤ h0.size) :
    MetFree l y15_ (head1 (Jvm.Cond.code y15_ jdk_47_method_1_code 1 none :: ws) R7_) (fun a U => a = #[(.ref a1)] ∧ Z.Warmed39 U.vm ∧ U.heap = h0) (fun _ _ _ _ _ => True) (fun _ U o U' => ∃ v L, o = .returned v ∧ (Q_rm24 Z a1 h0 n0) v U'.heap L ∧ FrameEnd U o U' L R7_.cells R7_.slots) := by
  refine MetFree.of_bodySF (plainFor_of_name pn_24) hisR ?_
  intro p e s m args below meth c s₁ Bd hml0 hP hK
  obtain ⟨rfl, hZ, hh⟩ := hP
  have hx := Bd.exec
  have hby := Bd.bytes
  have hml : c.maxLocals = 1 := hml0
  have hown : s.vm.findClass "java/util/ImmutableCollections$AbstractImmutableCollection" = some m.cls := findClass_of_methodNamed Bd.named
  have hnm := (name_of_methodNamed Bd.named Bd.method).1
  have X0 : Stand p l e R7_ s m #[(.ref a1)] below meth c s₁ [] 0 0 := Stand.of_body Bd
  have e0 : s₁.heap = h0 := by rw [← hh, Bd.state]; rfl
  have N0 := Fr.nil n0
  show own_G FrameEnd p e below s R7_.cells R7_.slots (Q_rm24 Z a1 h0 n0) (s₁.setTop (entryFrame m #[(.ref a1)] 1))
  refine own_go (Y' := s₁.setTop (mkF m 0 #[rv a1] [])) ?_ (fun t k => castTop (ef_24 m a1) k)
  refine own_go ?_ (fun _ hr => XS.aloadN X0.here hx rfl (hb hby d24_0) rfl rfl hr)
  show own_H (s₁.setTop (mkF m 1 #[rv a1] [(.ref a1)]))
  obtain ⟨_, _, ⟨T1, L1, k1, n1⟩, -, X1, ⟨Lc1, hQ1, l1, y1, z1⟩, st1⟩ := X0.specialBack hx (y := y7_) rfl hown (mvT hZ (hw _ (tm 169 rfl))) (mvT hZ (hw _ (tm 39 rfl))) (mvT hZ (hw _ (tm 43 rfl))) (by decide) (backOf (W := 0) (rm7 l Z a0 hw [] a1 h0 n0 Z0 ) hZ (hw _ (tm 43 rfl)) (hw _ (tm 42 rfl)) (by decide) (by decide)) (g := (mkF m 1 #[rv a1] [(.ref a1)])) rfl (by rw [hml]; rfl) (Steps.refl _) (a := a1) (argsL := []) (rest := []) (lenOf pd___V rfl) rfl (by show 2 * 0 + _ ≤ _; exact Nat.le_of_eq rfl) (hb hby d24_1) (fun _ _ => ⟨rfl, e0, (by decide : 0 + 0 ≤ _), (by decide : 0 + 0 ≤ _)⟩)
  dsimp only [Pt.U, Pt.locs, Pt.cells, Pt.slots] at X1 l1 y1 z1 st1 hQ1
  subst l1 y1 z1
  obtain ⟨rfl, N1q, e1⟩ := hQ1
  have N1 := Fr.app N0 N1q
  refine own_go ?_ (fun _ hr => st1.trans hr)
  show own_H (T1.setTop (mkF m 4 #[rv a1] []))
  obtain ⟨fs, hr, hrun, hended, hW, hsame⟩ := X1.leave (v := none) (fun _ => rfl)
  exact ⟨_, _, X1.returnOut hx Bd.returns (hb hby d24_4) hr, hrun, hended, _, _, rfl, ⟨rfl, N1, e1⟩, ⟨_, rfl⟩, hW, hsame.mono (by decide) (by decide)⟩
theorem d23_0 : decode jdk_46_method_1_code 0 = .ok (.aload_n 0, 1) := by decide +kernel
theorem d23_1 : decode jdk_46_method_1_code 1 = .ok (.invokespecial 1, 3) := by decide +kernel
theorem d23_4 : decode jdk_46_method_1_code 4 = .ok (.return_, 1) := by decide +kernel
theorem pn_23 : plainName "java/util/ImmutableCollections$AbstractImmutableList" = true := by first | (simp [plainName, overriddenIn]; done) | decide +kernel
theorem ef_23 (m : MethodId) (x0 : Addr) : entryFrame m #[(.ref x0)] 1 = mkF m 0 #[rv x0] [] := by first | (simp [entryFrame, mkF, argsToLocals, Value.category]; done) | rfl
def Q_rm23 (Z : State) (a1 : Addr) (h0 : Heap) (n0 : Nat) : Option Value → Heap → List Loc → Prop := fun v h L => v = none ∧ Fr n0 L ∧ h = h0
set_option maxRecDepth 65536 in
set_option maxHeartbeats 40000000 in
theorem rm23 (l : Launch) (Z : State) (a0 : Array Value) (hw : ∀ d ∈ tables_1, d.before a0 Z = true) (ws : List Jvm.Cond) (a1 : Addr) (h0 : Heap) (n0 : Nat) (Z0 : n0 ≤ h0.size) :
    MetFree l y16_ (head1 (Jvm.Cond.code y16_ jdk_46_method_1_code 1 none :: ws) R8_) (fun a U => a = #[(.ref a1)] ∧ Z.Warmed39 U.vm ∧ U.heap = h0) (fun _ _ _ _ _ => True) (fun _ U o U' => ∃ v L, o = .returned v ∧ (Q_rm23 Z a1 h0 n0) v U'.heap L ∧ FrameEnd U o U' L R8_.cells R8_.slots) := by
  refine MetFree.of_bodySF (plainFor_of_name pn_23) hisR ?_
  intro p e s m args below meth c s₁ Bd hml0 hP hK
  obtain ⟨rfl, hZ, hh⟩ := hP
  have hx := Bd.exec
  have hby := Bd.bytes
  have hml : c.maxLocals = 1 := hml0
  have hown : s.vm.findClass "java/util/ImmutableCollections$AbstractImmutableList" = some m.cls := findClass_of_methodNamed Bd.named
  have hnm := (name_of_methodNamed Bd.named Bd.method).1
  have X0 : Stand p l e R8_ s m #[(.ref a1)] below meth c s₁ [] 0 0 := Stand.of_body Bd
  have e0 : s₁.heap = h0 := by rw [← hh, Bd.state]; rfl
  have N0 := Fr.nil n0
  show own_G FrameEnd p e below s R8_.cells R8_.slots (Q_rm23 Z a1 h0 n0) (s₁.setTop (entryFrame m #[(.ref a1)] 1))
  refine own_go (Y' := s₁.setTop (mkF m 0 #[rv a1] [])) ?_ (fun t k => castTop (ef_23 m a1) k)
  refine own_go ?_ (fun _ hr => XS.aloadN X0.here hx rfl (hb hby d23_0) rfl rfl hr)
  show own_H (s₁.setTop (mkF m 1 #[rv a1] [(.ref a1)]))
  obtain ⟨_, _, ⟨T1, L1, k1, n1⟩, -, X1, ⟨Lc1, hQ1, l1, y1, z1⟩, st1⟩ := X0.specialBack hx (y := y15_) rfl hown (mvT hZ (hw _ (tm 163 rfl))) (mvT hZ (hw _ (tm 164 rfl))) (mvT hZ (hw _ (tm 168 rfl))) (by decide) (backOf (W := 0) (rm24 l Z a0 hw [] a1 h0 n0 Z0 ) hZ (hw _ (tm 168 rfl)) (hw _ (tm 167 rfl)) (by decide) (by decide)) (g := (mkF m 1 #[rv a1] [(.ref a1)])) rfl (by rw [hml]; rfl) (Steps.refl _) (a := a1) (argsL := []) (rest := []) (lenOf pd___V rfl) rfl (by show 2 * 0 + _ ≤ _; exact Nat.le_of_eq rfl) (hb hby d23_1) (fun _ _ => ⟨rfl, e0, (by decide : 0 + 0 ≤ _), (by decide : 0 + 0 ≤ _)⟩)
  dsimp only [Pt.U, Pt.locs, Pt.cells, Pt.slots] at X1 l1 y1 z1 st1 hQ1
  subst l1 y1 z1
  obtain ⟨rfl, N1q, e1⟩ := hQ1
  have N1 := Fr.app N0 N1q
  refine own_go ?_ (fun _ hr => st1.trans hr)
  show own_H (T1.setTop (mkF m 4 #[rv a1] []))
  obtain ⟨fs, hr, hrun, hended, hW, hsame⟩ := X1.leave (v := none) (fun _ => rfl)
  exact ⟨_, _, X1.returnOut hx Bd.returns (hb hby d23_4) hr, hrun, hended, _, _, rfl, ⟨rfl, N1, e1⟩, ⟨_, rfl⟩, hW, hsame.mono (by decide) (by decide)⟩
theorem d25_0 : decode jdk_31_method_10_code 0 = .ok (.aload_n 0, 1) := by decide +kernel
theorem d25_1 : decode jdk_31_method_10_code 1 = .ok (.ifnonnull 11, 3) := by decide +kernel
theorem d25_12 : decode jdk_31_method_10_code 12 = .ok (.aload_n 0, 1) := by decide +kernel
theorem d25_13 : decode jdk_31_method_10_code 13 = .ok (.areturn, 1) := by decide +kernel
theorem pn_25 : plainName "java/util/Objects" = true := by first | (simp [plainName, overriddenIn]; done) | decide +kernel
theorem ef_25 (m : MethodId) (x0 : Addr) : entryFrame m #[(.ref x0)] 1 = mkF m 0 #[rv x0] [] := by first | (simp [entryFrame, mkF, argsToLocals, Value.category]; done) | rfl
def Q_rm25 (Z : State) (a1 : Addr) (h0 : Heap) (n0 : Nat) : Option Value → Heap → List Loc → Prop := fun v h L => v = some (.ref a1) ∧ Fr n0 L ∧ h = h0
set_option maxRecDepth 65536 in
set_option maxHeartbeats 40000000 in
theorem rm25 (l : Launch) (Z : State) (a0 : Array Value) (hw : ∀ d ∈ tables_1, d.before a0 Z = true) (ws : List Jvm.Cond) (a1 : Addr) (h0 : Heap) (n0 : Nat) (Z0 : n0 ≤ h0.size) :
    MetFree l y17_ (head1 (Jvm.Cond.code y17_ jdk_31_method_10_code 1 (some (.object "java/lang/Object")) :: ws) R0_) (fun a U => a = #[(.ref a1)] ∧ Z.Warmed39 U.vm ∧ U.heap = h0) (fun _ _ _ _ _ => True) (fun _ U o U' => ∃ v L, o = .returned v ∧ (Q_rm25 Z a1 h0 n0) v U'.heap L ∧ FrameEnd U o U' L R0_.cells R0_.slots) := by
  refine MetFree.of_bodySF (plainFor_of_name pn_25) hisR ?_
  intro p e s m args below meth c s₁ Bd hml0 hP hK
  obtain ⟨rfl, hZ, hh⟩ := hP
  have hx := Bd.exec
  have hby := Bd.bytes
  have hml : c.maxLocals = 1 := hml0
  have hown : s.vm.findClass "java/util/Objects" = some m.cls := findClass_of_methodNamed Bd.named
  have hnm := (name_of_methodNamed Bd.named Bd.method).1
  have X0 : Stand p l e R0_ s m #[(.ref a1)] below meth c s₁ [] 0 0 := Stand.of_body Bd
  have e0 : s₁.heap = h0 := by rw [← hh, Bd.state]; rfl
  have N0 := Fr.nil n0
  show own_G FrameEnd p e below s R0_.cells R0_.slots (Q_rm25 Z a1 h0 n0) (s₁.setTop (entryFrame m #[(.ref a1)] 1))
  refine own_go (Y' := s₁.setTop (mkF m 0 #[rv a1] [])) ?_ (fun t k => castTop (ef_25 m a1) k)
  refine own_go ?_ (fun _ hr => XS.aloadN X0.here hx rfl (hb hby d25_0) rfl rfl (XS.ifnonnullYes X0.here hx rfl (pc0 := 1) (pc' := 12) rfl (hb hby d25_1) rfl (by decide) (by decide) (XS.aloadN X0.here hx rfl (hb hby d25_12) rfl rfl hr)))
  show own_H (s₁.setTop (mkF m 13 #[rv a1] [(.ref a1)]))
  obtain ⟨fs, hr, hrun, hended, hW, hsame⟩ := X0.leave (v := some (.ref a1)) (fun h => by rw [Bd.returns] at h; cases h)
  exact ⟨_, _, retOut X0 hx Bd.returns rfl (Or.inr (Or.inr (Or.inr (Or.inr ⟨rfl, rfl, rfl⟩)))) (hb hby d25_13) hr, hrun, hended, _, _, rfl, ⟨rfl, N0, e0⟩, ⟨_, rfl⟩, hW, hsame.mono (by decide) (by decide)⟩
theorem d22_0 : decode jdk_44_method_1_code 0 = .ok (.aload_n 0, 1) := by decide +kernel
theorem d22_1 : decode jdk_44_method_1_code 1 = .ok (.invokespecial 1, 3) := by decide +kernel
theorem d22_4 : decode jdk_44_method_1_code 4 = .ok (.aload_n 0, 1) := by decide +kernel
theorem d22_5 : decode jdk_44_method_1_code 5 = .ok (.aload_n 1, 1) := by decide +kernel
theorem d22_6 : decode jdk_44_method_1_code 6 = .ok (.invokestatic 7, 3) := by decide +kernel
theorem d22_9 : decode jdk_44_method_1_code 9 = .ok (.putfield 13, 3) := by decide +kernel
theorem d22_12 : decode jdk_44_method_1_code 12 = .ok (.aload_n 0, 1) := by decide +kernel
theorem d22_13 : decode jdk_44_method_1_code 13 = .ok (.getstatic 19, 3) := by decide +kernel
theorem d22_16 : decode jdk_44_method_1_code 16 = .ok (.putfield 24, 3) := by decide +kernel
theorem d22_19 : decode jdk_44_method_1_code 19 = .ok (.return_, 1) := by decide +kernel
theorem pn_22 : plainName "java/util/ImmutableCollections$List12" = true := by first | (simp [plainName, overriddenIn]; done) | decide +kernel
theorem pd__Ljava_lang_Object__Ljava_lang_Object_ : parseMethodDescriptor "(Ljava/lang/Object;)Ljava/lang/Object;" = some ⟨[(.object "java/lang/Object")], some (.object "java/lang/Object")⟩ := by decide +kernel
theorem ef_22 (m : MethodId) (x0 : Addr) (x1 : Addr) : entryFrame m #[(.ref x0), (.ref x1)] 2 = mkF m 0 #[rv x0, rv x1] [] := by first | (simp [entryFrame, mkF, argsToLocals, Value.category]; done) | rfl
def Q_rm_l12_1 (Z : State) (a1 : Addr) (a2 : Addr) (u0 : Value) (u1 : Value) (wM : Addr) (h0 : Heap) (n0 : Nat) : Option Value → Heap → List Loc → Prop := fun v h L => v = none ∧ Fr n0 L ∧ Keep h0 h [a1] ∧ Exa Z h a1 "java/util/ImmutableCollections$List12" ∧ Fld Z h a1 "java/util/ImmutableCollections$List12" "e0" "Ljava/lang/Object;" (.ref a2) ∧ Fld Z h a1 "java/util/ImmutableCollections$List12" "e1" "Ljava/lang/Object;" (.ref wM)
set_option maxRecDepth 65536 in
set_option maxHeartbeats 40000000 in
theorem rm_l12_1 (l : Launch) (Z : State) (a0 : Array Value) (hw : ∀ d ∈ tables_1, d.before a0 Z = true) (ws : List Jvm.Cond) (a1 : Addr) (a2 : Addr) (u0 : Value) (u1 : Value) (wM : Addr) (h0 : Heap) (n0 : Nat) (Z0 : n0 ≤ h0.size) (E_a1 : Exa Z h0 a1 "java/util/ImmutableCollections$List12") (F_a1_e0 : Fld Z h0 a1 "java/util/ImmutableCollections$List12" "e0" "Ljava/lang/Object;" u0) (F_a1_e1 : Fld Z h0 a1 "java/util/ImmutableCollections$List12" "e1" "Ljava/lang/Object;" u1) (g_a1 : n0 ≤ a1) (hold : Old Z n0 h0) (S_EMPTY : Sta Z Z.heap "java/util/ImmutableCollections" "EMPTY" "Ljava/lang/Object;" (.ref wM)) :
    MetFree l y18_ (head1 (Jvm.Cond.code y18_ jdk_44_method_1_code 2 none :: ws) R14_) (fun a U => a = #[(.ref a1), (.ref a2)] ∧ Z.Warmed39 U.vm ∧ U.heap = h0) (fun _ _ _ _ _ => True) (fun _ U o U' => ∃ v L, o = .returned v ∧ (Q_rm_l12_1 Z a1 a2 u0 u1 wM h0 n0) v U'.heap L ∧ FrameEnd U o U' L R14_.cells R14_.slots) := by
  refine MetFree.of_bodySF (plainFor_of_name pn_22) hisR ?_
  intro p e s m args below meth c s₁ Bd hml0 hP hK
  obtain ⟨rfl, hZ, hh⟩ := hP
  have hx := Bd.exec
  have hby := Bd.bytes
  have hml : c.maxLocals = 2 := hml0
  have hown : s.vm.findClass "java/util/ImmutableCollections$List12" = some m.cls := findClass_of_methodNamed Bd.named
  have hnm := (name_of_methodNamed Bd.named Bd.method).1
  have X0 : Stand p l e R14_ s m #[(.ref a1), (.ref a2)] below meth c s₁ [] 0 0 := Stand.of_body Bd
  have e0 : s₁.heap = h0 := by rw [← hh, Bd.state]; rfl
  have N0 := Fr.nil n0
  show own_G FrameEnd p e below s R14_.cells R14_.slots (Q_rm_l12_1 Z a1 a2 u0 u1 wM h0 n0) (s₁.setTop (entryFrame m #[(.ref a1), (.ref a2)] 2))
  refine own_go (Y' := s₁.setTop (mkF m 0 #[rv a1, rv a2] [])) ?_ (fun t k => castTop (ef_22 m a1 a2) k)
  refine own_go ?_ (fun _ hr => XS.aloadN X0.here hx rfl (hb hby d22_0) rfl rfl hr)
  show own_H (s₁.setTop (mkF m 1 #[rv a1, rv a2] [(.ref a1)]))
  obtain ⟨_, _, ⟨T1, L1, k1, n1⟩, -, X1, ⟨Lc1, hQ1, l1, y1, z1⟩, st1⟩ := X0.specialBack hx (y := y16_) rfl hown (mvT hZ (hw _ (tm 157 rfl))) (mvT hZ (hw _ (tm 158 rfl))) (mvT hZ (hw _ (tm 162 rfl))) (by decide) (backOf (W := 0) (rm23 l Z a0 hw [] a1 h0 n0 Z0 ) hZ (hw _ (tm 162 rfl)) (hw _ (tm 161 rfl)) (by decide) (by decide)) (g := (mkF m 1 #[rv a1, rv a2] [(.ref a1)])) rfl (by rw [hml]; rfl) (Steps.refl _) (a := a1) (argsL := []) (rest := []) (lenOf pd___V rfl) rfl (by show 2 * 0 + _ ≤ _; exact Nat.le_of_eq rfl) (hb hby d22_1) (fun _ _ => ⟨rfl, e0, (by decide : 0 + 0 ≤ _), (by decide : 0 + 0 ≤ _)⟩)
  dsimp only [Pt.U, Pt.locs, Pt.cells, Pt.slots] at X1 l1 y1 z1 st1 hQ1
  subst l1 y1 z1
  obtain ⟨rfl, N1q, e1⟩ := hQ1
  have N1 := Fr.app N0 N1q
  refine own_go ?_ (fun _ hr => st1.trans (XS.aloadN X1.here hx rfl (hb hby d22_4) rfl rfl (XS.aloadN X1.here hx rfl (hb hby d22_5) rfl rfl hr)))
  show own_H (T1.setTop (mkF m 6 #[rv a1, rv a2] [(.ref a2), (.ref a1)]))
  obtain ⟨_, _, ⟨T2, L2, k2, n2⟩, -, X2, ⟨Lc2, hQ2, l2, y2, z2⟩, st2⟩ := Jvm.LawKit.callS X1 hx (y := y17_) hown (mvT hZ (hw _ (tm 171 rfl))) (mvT hZ (hw _ (tm 172 rfl))) (mvT hZ (hw _ (tm 173 rfl))) (mvT hZ (hw _ (tm 174 rfl))) (by decide) (backOf (W := 1) (rm25 l Z a0 hw [] a2 h0 n0 Z0 ) hZ (hw _ (tm 174 rfl)) (hw _ (tm 173 rfl)) (by decide) (by decide)) (g := (mkF m 6 #[rv a1, rv a2] [(.ref a2), (.ref a1)])) rfl (by rw [hml]; rfl) (argsL := [(.ref a2)]) (rest := [(.ref a1)]) (lenOf pd__Ljava_lang_Object__Ljava_lang_Object_ rfl) rfl (by show 2 * 0 + _ ≤ _; exact Nat.le_of_eq rfl) (hb hby d22_6) (fun _ _ => ⟨rfl, e1, (by decide : 0 + 0 ≤ _), (by decide : 0 + 0 ≤ _)⟩)
  dsimp only [Pt.U, Pt.locs, Pt.cells, Pt.slots] at X2 l2 y2 z2 st2 hQ2
  subst l2 y2 z2
  obtain ⟨rfl, N2q, e2⟩ := hQ2
  have N2 := Fr.app N1 N2q
  refine own_go ?_ (fun _ hr => st2 _ hr)
  show own_H (T2.setTop (mkF m 9 #[rv a1, rv a2] [(.ref a2), (.ref a1)]))
  obtain ⟨T3, h3, X3, e3, W3, st3⟩ := putF X2 hx hZ hown (host := "") (Or.inl (hw _ (tm 175 rfl))) Via.refl e2 F_a1_e0 E_a1 (Or.inr ⟨(hw _ (tm 176 rfl)), rfl, hnm⟩) (hw _ (tm 151 rfl)) (ty := (.object "java/lang/Object")) (by decide) rfl rfl (g := (mkF m 9 #[rv a1, rv a2] [(.ref a2), (.ref a1)])) rfl rfl (hb hby d22_9)
  have Fw3 := F_a1_e0.same W3
  have N3 := Fr.snoc X3 N2 g_a1
  refine own_go ?_ (fun _ hr => st3 _ (XS.aloadN X3.here hx rfl (hb hby d22_12) rfl rfl hr))
  show own_H (T3.setTop (mkF m 13 #[rv a1, rv a2] [(.ref a1)]))
  obtain ⟨T4, X4, e4, st4⟩ := getS2 X3 hx hZ hown (Or.inr (hw _ (tm 177 rfl))) Via.refl e3 (S_EMPTY.ext (hold.wr W3 g_a1).2) (g := (mkF m 13 #[rv a1, rv a2] [(.ref a1)])) rfl (hb hby d22_13)
  refine own_go ?_ (fun _ hr => st4 _ hr)
  show own_H (T4.setTop (mkF m 16 #[rv a1, rv a2] [(.ref wM), (.ref a1)]))
  obtain ⟨T5, h5, X5, e5, W5, st5⟩ := putF X4 hx hZ hown (host := "") (Or.inl (hw _ (tm 178 rfl))) Via.refl e4 (F_a1_e1.other W3 (Or.inr (slot_ne (Or.inr (hw _ (tm 179 rfl))) (Or.inr (hw _ (tm 176 rfl))) (by decide) (t := (.object "java/lang/Object")) (t' := (.object "java/lang/Object")) (by decide) (by decide)))) (E_a1.wr W3) (Or.inr ⟨(hw _ (tm 179 rfl)), rfl, hnm⟩) (hw _ (tm 151 rfl)) (ty := (.object "java/lang/Object")) (by decide) rfl rfl (g := (mkF m 16 #[rv a1, rv a2] [(.ref wM), (.ref a1)])) rfl rfl (hb hby d22_16)
  have Fw5 := (F_a1_e1.other W3 (Or.inr (slot_ne (Or.inr (hw _ (tm 179 rfl))) (Or.inr (hw _ (tm 176 rfl))) (by decide) (t := (.object "java/lang/Object")) (t' := (.object "java/lang/Object")) (by decide) (by decide)))).same W5
  have N5 := Fr.snoc X5 N3 g_a1
  refine own_go ?_ (fun _ hr => st5 _ hr)
  show own_H (T5.setTop (mkF m 19 #[rv a1, rv a2] []))
  obtain ⟨fs, hr, hrun, hended, hW, hsame⟩ := X5.leave (v := none) (fun _ => rfl)
  exact ⟨_, _, X5.returnOut hx Bd.returns (hb hby d22_19) hr, hrun, hended, _, _, rfl, (by rw [show (T5.setFrames fs).heap = h5 from e5]; exact ⟨rfl, N5, (((Keep.refl h0 [a1]).wr W3 (Or.inl (List.mem_of_getElem? (i := 0) rfl))).wr W5 (Or.inl (List.mem_of_getElem? (i := 0) rfl))), ((E_a1.wr W3).wr W5), (Fw3.other W5 (Or.inr (slot_ne (Or.inr (hw _ (tm 176 rfl))) (Or.inr (hw _ (tm 179 rfl))) (by decide) (t := (.object "java/lang/Object")) (t' := (.object "java/lang/Object")) (by decide) (by decide)))), Fw5⟩), ⟨_, rfl⟩, hW, hsame.mono (by decide) (by decide)⟩
theorem d31_0 : decode jdk_44_method_2_code 0 = .ok (.aload_n 0, 1) := by decide +kernel
theorem d31_1 : decode jdk_44_method_2_code 1 = .ok (.invokespecial 1, 3) := by decide +kernel
theorem d31_4 : decode jdk_44_method_2_code 4 = .ok (.aload_n 0, 1) := by decide +kernel
theorem d31_5 : decode jdk_44_method_2_code 5 = .ok (.aload_n 1, 1) := by decide +kernel
theorem d31_6 : decode jdk_44_method_2_code 6 = .ok (.invokestatic 7, 3) := by decide +kernel
theorem d31_9 : decode jdk_44_method_2_code 9 = .ok (.putfield 13, 3) := by decide +kernel
theorem d31_12 : decode jdk_44_method_2_code 12 = .ok (.aload_n 0, 1) := by decide +kernel
theorem d31_13 : decode jdk_44_method_2_code 13 = .ok (.aload_n 2, 1) := by decide +kernel
theorem d31_14 : decode jdk_44_method_2_code 14 = .ok (.invokestatic 7, 3) := by decide +kernel
theorem d31_17 : decode jdk_44_method_2_code 17 = .ok (.putfield 24, 3) := by decide +kernel
theorem d31_20 : decode jdk_44_method_2_code 20 = .ok (.return_, 1) := by decide +kernel
theorem pn_31 : plainName "java/util/ImmutableCollections$List12" = true := by first | (simp [plainName, overriddenIn]; done) | decide +kernel
theorem ef_31 (m : MethodId) (x0 : Addr) (x1 : Addr) (x2 : Addr) : entryFrame m #[(.ref x0), (.ref x1), (.ref x2)] 3 = mkF m 0 #[rv x0, rv x1, rv x2] [] := by first | (simp [entryFrame, mkF, argsToLocals, Value.category]; done) | rfl
def Q_rm_l12_2 (Z : State) (a1 : Addr) (a2 : Addr) (a3 : Addr) (u0 : Value) (u1 : Value) (h0 : Heap) (n0 : Nat) : Option Value → Heap → List Loc → Prop := fun v h L => v = none ∧ Fr n0 L ∧ Keep h0 h [a1] ∧ Exa Z h a1 "java/util/ImmutableCollections$List12" ∧ Fld Z h a1 "java/util/ImmutableCollections$List12" "e0" "Ljava/lang/Object;" (.ref a2) ∧ Fld Z h a1 "java/util/ImmutableCollections$List12" "e1" "Ljava/lang/Object;" (.ref a3)
set_option maxRecDepth 65536 in
set_option maxHeartbeats 40000000 in
theorem rm_l12_2 (l : Launch) (Z : State) (a0 : Array Value) (hw : ∀ d ∈ tables_1, d.before a0 Z = true) (ws : List Jvm.Cond) (a1 : Addr) (a2 : Addr) (a3 : Addr) (u0 : Value) (u1 : Value) (h0 : Heap) (n0 : Nat) (Z0 : n0 ≤ h0.size) (E_a1 : Exa Z h0 a1 "java/util/ImmutableCollections$List12") (F_a1_e0 : Fld Z h0 a1 "java/util/ImmutableCollections$List12" "e0" "Ljava/lang/Object;" u0) (F_a1_e1 : Fld Z h0 a1 "java/util/ImmutableCollections$List12" "e1" "Ljava/lang/Object;" u1) (g_a1 : n0 ≤ a1) :
    MetFree l y19_ (head1 (Jvm.Cond.code y19_ jdk_44_method_2_code 3 none :: ws) R14_) (fun a U => a = #[(.ref a1), (.ref a2), (.ref a3)] ∧ Z.Warmed39 U.vm ∧ U.heap = h0) (fun _ _ _ _ _ => True) (fun _ U o U' => ∃ v L, o = .returned v ∧ (Q_rm_l12_2 Z a1 a2 a3 u0 u1 h0 n0) v U'.heap L ∧ FrameEnd U o U' L R14_.cells R14_.slots) := by
  refine MetFree.of_bodySF (plainFor_of_name pn_31) hisR ?_
  intro p e s m args below meth c s₁ Bd hml0 hP hK
  obtain ⟨rfl, hZ, hh⟩ := hP
  have hx := Bd.exec
  have hby := Bd.bytes
  have hml : c.maxLocals = 3 := hml0
  have hown : s.vm.findClass "java/util/ImmutableCollections$List12" = some m.cls := findClass_of_methodNamed Bd.named
  have hnm := (name_of_methodNamed Bd.named Bd.method).1
  have X0 : Stand p l e R14_ s m #[(.ref a1), (.ref a2), (.ref a3)] below meth c s₁ [] 0 0 := Stand.of_body Bd
  have e0 : s₁.heap = h0 := by rw [← hh, Bd.state]; rfl
  have N0 := Fr.nil n0
  show own_G FrameEnd p e below s R14_.cells R14_.slots (Q_rm_l12_2 Z a1 a2 a3 u0 u1 h0 n0) (s₁.setTop (entryFrame m #[(.ref a1), (.ref a2), (.ref a3)] 3))
  refine own_go (Y' := s₁.setTop (mkF m 0 #[rv a1, rv a2, rv a3] [])) ?_ (fun t k => castTop (ef_31 m a1 a2 a3) k)
  refine own_go ?_ (fun _ hr => XS.aloadN X0.here hx rfl (hb hby d31_0) rfl rfl hr)
  show own_H (s₁.setTop (mkF m 1 #[rv a1, rv a2, rv a3] [(.ref a1)]))
  obtain ⟨_, _, ⟨T1, L1, k1, n1⟩, -, X1, ⟨Lc1, hQ1, l1, y1, z1⟩, st1⟩ := X0.specialBack hx (y := y16_) rfl hown (mvT hZ (hw _ (tm 157 rfl))) (mvT hZ (hw _ (tm 158 rfl))) (mvT hZ (hw _ (tm 162 rfl))) (by decide) (backOf (W := 0) (rm23 l Z a0 hw [] a1 h0 n0 Z0 ) hZ (hw _ (tm 162 rfl)) (hw _ (tm 161 rfl)) (by decide) (by decide)) (g := (mkF m 1 #[rv a1, rv a2, rv a3] [(.ref a1)])) rfl (by rw [hml]; rfl) (Steps.refl _) (a := a1) (argsL := []) (rest := []) (lenOf pd___V rfl) rfl (by show 2 * 0 + _ ≤ _; exact Nat.le_of_eq rfl) (hb hby d31_1) (fun _ _ => ⟨rfl, e0, (by decide : 0 + 0 ≤ _), (by decide : 0 + 0 ≤ _)⟩)
  dsimp only [Pt.U, Pt.locs, Pt.cells, Pt.slots] at X1 l1 y1 z1 st1 hQ1
  subst l1 y1 z1
  obtain ⟨rfl, N1q, e1⟩ := hQ1
  have N1 := Fr.app N0 N1q
  refine own_go ?_ (fun _ hr => st1.trans (XS.aloadN X1.here hx rfl (hb hby d31_4) rfl rfl (XS.aloadN X1.here hx rfl (hb hby d31_5) rfl rfl hr)))
  show own_H (T1.setTop (mkF m 6 #[rv a1, rv a2, rv a3] [(.ref a2), (.ref a1)]))
  obtain ⟨_, _, ⟨T2, L2, k2, n2⟩, -, X2, ⟨Lc2, hQ2, l2, y2, z2⟩, st2⟩ := Jvm.LawKit.callS X1 hx (y := y17_) hown (mvT hZ (hw _ (tm 171 rfl))) (mvT hZ (hw _ (tm 172 rfl))) (mvT hZ (hw _ (tm 173 rfl))) (mvT hZ (hw _ (tm 174 rfl))) (by decide) (backOf (W := 1) (rm25 l Z a0 hw [] a2 h0 n0 Z0 ) hZ (hw _ (tm 174 rfl)) (hw _ (tm 173 rfl)) (by decide) (by decide)) (g := (mkF m 6 #[rv a1, rv a2, rv a3] [(.ref a2), (.ref a1)])) rfl (by rw [hml]; rfl) (argsL := [(.ref a2)]) (rest := [(.ref a1)]) (lenOf pd__Ljava_lang_Object__Ljava_lang_Object_ rfl) rfl (by show 2 * 0 + _ ≤ _; exact Nat.le_of_eq rfl) (hb hby d31_6) (fun _ _ => ⟨rfl, e1, (by decide : 0 + 0 ≤ _), (by decide : 0 + 0 ≤ _)⟩)
  dsimp only [Pt.U, Pt.locs, Pt.cells, Pt.slots] at X2 l2 y2 z2 st2 hQ2
  subst l2 y2 z2
  obtain ⟨rfl, N2q, e2⟩ := hQ2
  have N2 := Fr.app N1 N2q
  refine own_go ?_ (fun _ hr => st2 _ hr)
  show own_H (T2.setTop (mkF m 9 #[rv a1, rv a2, rv a3] [(.ref a2), (.ref a1)]))
  obtain ⟨T3, h3, X3, e3, W3, st3⟩ := putF X2 hx hZ hown (host := "") (Or.inl (hw _ (tm 175 rfl))) Via.refl e2 F_a1_e0 E_a1 (Or.inr ⟨(hw _ (tm 176 rfl)), rfl, hnm⟩) (hw _ (tm 151 rfl)) (ty := (.object "java/lang/Object")) (by decide) rfl rfl (g := (mkF m 9 #[rv a1, rv a2, rv a3] [(.ref a2), (.ref a1)])) rfl rfl (hb hby d31_9)
  have Fw3 := F_a1_e0.same W3
  have N3 := Fr.snoc X3 N2 g_a1
  refine own_go ?_ (fun _ hr => st3 _ (XS.aloadN X3.here hx rfl (hb hby d31_12) rfl rfl (XS.aloadN X3.here hx rfl (hb hby d31_13) rfl rfl hr)))
  show own_H (T3.setTop (mkF m 14 #[rv a1, rv a2, rv a3] [(.ref a3), (.ref a1)]))
  obtain ⟨_, _, ⟨T4, L4, k4, n4⟩, -, X4, ⟨Lc4, hQ4, l4, y4, z4⟩, st4⟩ := Jvm.LawKit.callS X3 hx (y := y17_) hown (mvT hZ (hw _ (tm 171 rfl))) (mvT hZ (hw _ (tm 172 rfl))) (mvT hZ (hw _ (tm 173 rfl))) (mvT hZ (hw _ (tm 174 rfl))) (by decide) (backOf (W := 1) (rm25 l Z a0 hw [] a3 h3 n0 (ltr Z0 (Keep.of_wr W3).1) ) hZ (hw _ (tm 174 rfl)) (hw _ (tm 173 rfl)) (by decide) (by decide)) (g := (mkF m 14 #[rv a1, rv a2, rv a3] [(.ref a3), (.ref a1)])) rfl (by rw [hml]; rfl) (argsL := [(.ref a3)]) (rest := [(.ref a1)]) (lenOf pd__Ljava_lang_Object__Ljava_lang_Object_ rfl) rfl (by show 2 * 0 + _ ≤ _; exact Nat.le_of_eq rfl) (hb hby d31_14) (fun _ _ => ⟨rfl, e3, (by decide : 0 + 0 ≤ _), (by decide : 0 + 0 ≤ _)⟩)
  dsimp only [Pt.U, Pt.locs, Pt.cells, Pt.slots] at X4 l4 y4 z4 st4 hQ4
  subst l4 y4 z4
  obtain ⟨rfl, N4q, e4⟩ := hQ4
  have N4 := Fr.app N3 N4q
  refine own_go ?_ (fun _ hr => st4 _ hr)
  show own_H (T4.setTop (mkF m 17 #[rv a1, rv a2, rv a3] [(.ref a3), (.ref a1)]))
  obtain ⟨T5, h5, X5, e5, W5, st5⟩ := putF X4 hx hZ hown (host := "") (Or.inl (hw _ (tm 178 rfl))) Via.refl e4 (F_a1_e1.other W3 (Or.inr (slot_ne (Or.inr (hw _ (tm 179 rfl))) (Or.inr (hw _ (tm 176 rfl))) (by decide) (t := (.object "java/lang/Object")) (t' := (.object "java/lang/Object")) (by decide) (by decide)))) (E_a1.wr W3) (Or.inr ⟨(hw _ (tm 179 rfl)), rfl, hnm⟩) (hw _ (tm 151 rfl)) (ty := (.object "java/lang/Object")) (by decide) rfl rfl (g := (mkF m 17 #[rv a1, rv a2, rv a3] [(.ref a3), (.ref a1)])) rfl rfl (hb hby d31_17)
  have Fw5 := (F_a1_e1.other W3 (Or.inr (slot_ne (Or.inr (hw _ (tm 179 rfl))) (Or.inr (hw _ (tm 176 rfl))) (by decide) (t := (.object "java/lang/Object")) (t' := (.object "java/lang/Object")) (by decide) (by decide)))).same W5
  have N5 := Fr.snoc X5 N4 g_a1
  refine own_go ?_ (fun _ hr => st5 _ hr)
  show own_H (T5.setTop (mkF m 20 #[rv a1, rv a2, rv a3] []))
  obtain ⟨fs, hr, hrun, hended, hW, hsame⟩ := X5.leave (v := none) (fun _ => rfl)
  exact ⟨_, _, X5.returnOut hx Bd.returns (hb hby d31_20) hr, hrun, hended, _, _, rfl, (by rw [show (T5.setFrames fs).heap = h5 from e5]; exact ⟨rfl, N5, (((Keep.refl h0 [a1]).wr W3 (Or.inl (List.mem_of_getElem? (i := 0) rfl))).wr W5 (Or.inl (List.mem_of_getElem? (i := 0) rfl))), ((E_a1.wr W3).wr W5), (Fw3.other W5 (Or.inr (slot_ne (Or.inr (hw _ (tm 176 rfl))) (Or.inr (hw _ (tm 179 rfl))) (by decide) (t := (.object "java/lang/Object")) (t' := (.object "java/lang/Object")) (by decide) (by decide)))), Fw5⟩), ⟨_, rfl⟩, hW, hsame.mono (by decide) (by decide)⟩
theorem d27_0 : decode jdk_45_method_1_code 0 = .ok (.aload_n 0, 1) := by decide +kernel
theorem d27_1 : decode jdk_45_method_1_code 1 = .ok (.invokespecial 1, 3) := by decide +kernel
theorem d27_4 : decode jdk_45_method_1_code 4 = .ok (.aload_n 0, 1) := by decide +kernel
theorem d27_5 : decode jdk_45_method_1_code 5 = .ok (.aload_n 1, 1) := by decide +kernel
theorem d27_6 : decode jdk_45_method_1_code 6 = .ok (.putfield 7, 3) := by decide +kernel
theorem d27_9 : decode jdk_45_method_1_code 9 = .ok (.aload_n 0, 1) := by decide +kernel
theorem d27_10 : decode jdk_45_method_1_code 10 = .ok (.iload_n 2, 1) := by decide +kernel
theorem d27_11 : decode jdk_45_method_1_code 11 = .ok (.putfield 13, 3) := by decide +kernel
theorem d27_14 : decode jdk_45_method_1_code 14 = .ok (.return_, 1) := by decide +kernel
theorem pn_27 : plainName "java/util/ImmutableCollections$ListN" = true := by first | (simp [plainName, overriddenIn]; done) | decide +kernel
theorem ef_27 (m : MethodId) (x0 : Addr) (x1 : Addr) (x2 : Int32) : entryFrame m #[(.ref x0), (.ref x1), (.int x2)] 3 = mkF m 0 #[rv x0, rv x1, iv x2] [] := by first | (simp [entryFrame, mkF, argsToLocals, Value.category]; done) | rfl
def Q_rm_lN (Z : State) (a1 : Addr) (a2 : Addr) (u0 : Value) (u1 : Value) (h0 : Heap) (n0 : Nat) : Option Value → Heap → List Loc → Prop := fun v h L => v = none ∧ Fr n0 L ∧ Keep h0 h [a1] ∧ Exa Z h a1 "java/util/ImmutableCollections$ListN" ∧ Fld Z h a1 "java/util/ImmutableCollections$ListN" "elements" "[Ljava/lang/Object;" (.ref a2)
set_option maxRecDepth 65536 in
set_option maxHeartbeats 40000000 in
theorem rm_lN (l : Launch) (Z : State) (a0 : Array Value) (hw : ∀ d ∈ tables_1, d.before a0 Z = true) (ws : List Jvm.Cond) (a1 : Addr) (a2 : Addr) (u0 : Value) (u1 : Value) (h0 : Heap) (n0 : Nat) (Z0 : n0 ≤ h0.size) (E_a1 : Exa Z h0 a1 "java/util/ImmutableCollections$ListN") (F_a1_elements : Fld Z h0 a1 "java/util/ImmutableCollections$ListN" "elements" "[Ljava/lang/Object;" u0) (F_a1_allowNulls : Fld Z h0 a1 "java/util/ImmutableCollections$ListN" "allowNulls" "Z" u1) (g_a1 : n0 ≤ a1) :
    MetFree l y20_ (head1 (Jvm.Cond.code y20_ jdk_45_method_1_code 3 none :: ws) R14_) (fun a U => a = #[(.ref a1), (.ref a2), (.int (0 : Int32))] ∧ Z.Warmed39 U.vm ∧ U.heap = h0) (fun _ _ _ _ _ => True) (fun _ U o U' => ∃ v L, o = .returned v ∧ (Q_rm_lN Z a1 a2 u0 u1 h0 n0) v U'.heap L ∧ FrameEnd U o U' L R14_.cells R14_.slots) := by
  refine MetFree.of_bodySF (plainFor_of_name pn_27) hisR ?_
  intro p e s m args below meth c s₁ Bd hml0 hP hK
  obtain ⟨rfl, hZ, hh⟩ := hP
  have hx := Bd.exec
  have hby := Bd.bytes
  have hml : c.maxLocals = 3 := hml0
  have hown : s.vm.findClass "java/util/ImmutableCollections$ListN" = some m.cls := findClass_of_methodNamed Bd.named
  have hnm := (name_of_methodNamed Bd.named Bd.method).1
  have X0 : Stand p l e R14_ s m #[(.ref a1), (.ref a2), (.int (0 : Int32))] below meth c s₁ [] 0 0 := Stand.of_body Bd
  have e0 : s₁.heap = h0 := by rw [← hh, Bd.state]; rfl
  have N0 := Fr.nil n0
  show own_G FrameEnd p e below s R14_.cells R14_.slots (Q_rm_lN Z a1 a2 u0 u1 h0 n0) (s₁.setTop (entryFrame m #[(.ref a1), (.ref a2), (.int (0 : Int32))] 3))
  refine own_go (Y' := s₁.setTop (mkF m 0 #[rv a1, rv a2, iv (0 : Int32)] [])) ?_ (fun t k => castTop (ef_27 m a1 a2 (0 : Int32)) k)
  refine own_go ?_ (fun _ hr => XS.aloadN X0.here hx rfl (hb hby d27_0) rfl rfl hr)
  show own_H (s₁.setTop (mkF m 1 #[rv a1, rv a2, iv (0 : Int32)] [(.ref a1)]))
  obtain ⟨_, _, ⟨T1, L1, k1, n1⟩, -, X1, ⟨Lc1, hQ1, l1, y1, z1⟩, st1⟩ := X0.specialBack hx (y := y16_) rfl hown (mvT hZ (hw _ (tm 193 rfl))) (mvT hZ (hw _ (tm 158 rfl))) (mvT hZ (hw _ (tm 162 rfl))) (by decide) (backOf (W := 0) (rm23 l Z a0 hw [] a1 h0 n0 Z0 ) hZ (hw _ (tm 162 rfl)) (hw _ (tm 161 rfl)) (by decide) (by decide)) (g := (mkF m 1 #[rv a1, rv a2, iv (0 : Int32)] [(.ref a1)])) rfl (by rw [hml]; rfl) (Steps.refl _) (a := a1) (argsL := []) (rest := []) (lenOf pd___V rfl) rfl (by show 2 * 0 + _ ≤ _; exact Nat.le_of_eq rfl) (hb hby d27_1) (fun _ _ => ⟨rfl, e0, (by decide : 0 + 0 ≤ _), (by decide : 0 + 0 ≤ _)⟩)
  dsimp only [Pt.U, Pt.locs, Pt.cells, Pt.slots] at X1 l1 y1 z1 st1 hQ1
  subst l1 y1 z1
  obtain ⟨rfl, N1q, e1⟩ := hQ1
  have N1 := Fr.app N0 N1q
  refine own_go ?_ (fun _ hr => st1.trans (XS.aloadN X1.here hx rfl (hb hby d27_4) rfl rfl (XS.aloadN X1.here hx rfl (hb hby d27_5) rfl rfl hr)))
  show own_H (T1.setTop (mkF m 6 #[rv a1, rv a2, iv (0 : Int32)] [(.ref a2), (.ref a1)]))
  obtain ⟨T2, h2, X2, e2, W2, st2⟩ := putF X1 hx hZ hown (host := "") (Or.inl (hw _ (tm 197 rfl))) Via.refl e1 F_a1_elements E_a1 (Or.inr ⟨(hw _ (tm 198 rfl)), rfl, hnm⟩) (hw _ (tm 187 rfl)) (ty := (.array (.object "java/lang/Object"))) (by decide) rfl rfl (g := (mkF m 6 #[rv a1, rv a2, iv (0 : Int32)] [(.ref a2), (.ref a1)])) rfl rfl (hb hby d27_6)
  have Fw2 := F_a1_elements.same W2
  have N2 := Fr.snoc X2 N1 g_a1
  refine own_go ?_ (fun _ hr => st2 _ (XS.aloadN X2.here hx rfl (hb hby d27_9) rfl rfl (XS.iloadN X2.here hx rfl (hb hby d27_10) rfl hr)))
  show own_H (T2.setTop (mkF m 11 #[rv a1, rv a2, iv (0 : Int32)] [(.int (0 : Int32)), (.ref a1)]))
  obtain ⟨T3, h3, X3, e3, W3, st3⟩ := putFN X2 hx hZ hown (hw _ (tm 199 rfl)) Via.refl e2 (F_a1_allowNulls.other W2 (Or.inr (slot_ne (Or.inr (hw _ (tm 200 rfl))) (Or.inr (hw _ (tm 198 rfl))) (by decide) (t := .boolean) (t' := (.array (.object "java/lang/Object"))) (by decide) (by decide)))) (E_a1.wr W2) (Or.inr ⟨(hw _ (tm 200 rfl)), rfl, hnm⟩) (hw _ (tm 187 rfl)) (ty := .boolean) (v' := (.int (nar .boolean (0 : Int32)))) (by decide) rfl (fits_nar_bool _) (g := (mkF m 11 #[rv a1, rv a2, iv (0 : Int32)] [(.int (0 : Int32)), (.ref a1)])) rfl rfl (hb hby d27_11)
  have Fw3 := (F_a1_allowNulls.other W2 (Or.inr (slot_ne (Or.inr (hw _ (tm 200 rfl))) (Or.inr (hw _ (tm 198 rfl))) (by decide) (t := .boolean) (t' := (.array (.object "java/lang/Object"))) (by decide) (by decide)))).same W3
  have N3 := Fr.snoc X3 N2 g_a1
  refine own_go ?_ (fun _ hr => st3 _ hr)
  show own_H (T3.setTop (mkF m 14 #[rv a1, rv a2, iv (0 : Int32)] []))
  obtain ⟨fs, hr, hrun, hended, hW, hsame⟩ := X3.leave (v := none) (fun _ => rfl)
  exact ⟨_, _, X3.returnOut hx Bd.returns (hb hby d27_14) hr, hrun, hended, _, _, rfl, (by rw [show (T3.setFrames fs).heap = h3 from e3]; exact ⟨rfl, N3, (((Keep.refl h0 [a1]).wr W2 (Or.inl (List.mem_of_getElem? (i := 0) rfl))).wr W3 (Or.inl (List.mem_of_getElem? (i := 0) rfl))), ((E_a1.wr W2).wr W3), (Fw2.other W3 (Or.inr (slot_ne (Or.inr (hw _ (tm 198 rfl))) (Or.inr (hw _ (tm 200 rfl))) (by decide) (t := (.array (.object "java/lang/Object"))) (t' := .boolean) (by decide) (by decide))))⟩), ⟨_, rfl⟩, hW, hsame.mono (by decide) (by decide)⟩
theorem d20_0 : decode jdk_29_method_69_code 0 = .ok (.iload_n 0, 1) := by decide +kernel
theorem d20_1 : decode jdk_29_method_69_code 1 = .ok (.iload_n 1, 1) := by decide +kernel
theorem d20_2 : decode jdk_29_method_69_code 2 = .ok (.if_icmp .gt 7, 3) := by decide +kernel
theorem d20_9 : decode jdk_29_method_69_code 9 = .ok (.iload_n 1, 1) := by decide +kernel
theorem d20_10 : decode jdk_29_method_69_code 10 = .ok (.ireturn, 1) := by decide +kernel
theorem ef_20 (m : MethodId) (x0 : Int32) (x1 : Int32) : entryFrame m #[(.int x0), (.int x1)] 2 = mkF m 0 #[iv x0, iv x1] [] := by first | (simp [entryFrame, mkF, argsToLocals, Value.category]; done) | rfl
def Q_rm_min_1 (Z : State)  (h0 : Heap) (n0 : Nat) : Option Value → Heap → List Loc → Prop := fun v h L => v = some (.int (1 : Int32)) ∧ Fr n0 L ∧ h = h0
set_option maxRecDepth 65536 in
set_option maxHeartbeats 40000000 in
theorem rm_min_1 (l : Launch) (Z : State) (a0 : Array Value) (hw : ∀ d ∈ tables_1, d.before a0 Z = true) (ws : List Jvm.Cond)  (h0 : Heap) (n0 : Nat) (Z0 : n0 ≤ h0.size) :
    MetFree l y21_ (head1 (Jvm.Cond.code y21_ jdk_29_method_69_code 2 (some .int) :: ws) R0_) (fun a U => a = #[(.int (10 : Int32)), (.int (1 : Int32))] ∧ Z.Warmed39 U.vm ∧ U.heap = h0) (fun _ _ _ _ _ => True) (fun _ U o U' => ∃ v L, o = .returned v ∧ (Q_rm_min_1 Z  h0 n0) v U'.heap L ∧ FrameEnd U o U' L R0_.cells R0_.slots) := by
  refine MetFree.of_bodySF (Jvm.Free.JP.mathPlain rfl (by decide +kernel)) hisR ?_
  intro p e s m args below meth c s₁ Bd hml0 hP hK
  obtain ⟨rfl, hZ, hh⟩ := hP
  have hx := Bd.exec
  have hby := Bd.bytes
  have hml : c.maxLocals = 2 := hml0
  have hown : s.vm.findClass "java/lang/Math" = some m.cls := findClass_of_methodNamed Bd.named
  have hnm := (name_of_methodNamed Bd.named Bd.method).1
  have X0 : Stand p l e R0_ s m #[(.int (10 : Int32)), (.int (1 : Int32))] below meth c s₁ [] 0 0 := Stand.of_body Bd
  have e0 : s₁.heap = h0 := by rw [← hh, Bd.state]; rfl
  have N0 := Fr.nil n0
  show own_G FrameEnd p e below s R0_.cells R0_.slots (Q_rm_min_1 Z  h0 n0) (s₁.setTop (entryFrame m #[(.int (10 : Int32)), (.int (1 : Int32))] 2))
  refine own_go (Y' := s₁.setTop (mkF m 0 #[iv (10 : Int32), iv (1 : Int32)] [])) ?_ (fun t k => castTop (ef_20 m (10 : Int32) (1 : Int32)) k)
  refine own_go ?_ (fun _ hr => XS.iloadN X0.here hx rfl (hb hby d20_0) rfl (XS.iloadN X0.here hx rfl (hb hby d20_1) rfl (XS.icmpYes X0.here hx rfl (pc0 := 2) (pc' := 9) rfl (hb hby d20_2) rfl (tlt (by decide : (1 : Int32) < (10 : Int32))).2.2.1 (by decide) (by decide) (XS.iloadN X0.here hx rfl (hb hby d20_9) rfl hr))))
  show own_H (s₁.setTop (mkF m 10 #[iv (10 : Int32), iv (1 : Int32)] [(.int (1 : Int32))]))
  obtain ⟨fs, hr, hrun, hended, hW, hsame⟩ := X0.leave (v := some (.int (1 : Int32))) (fun h => by rw [Bd.returns] at h; cases h)
  exact ⟨_, _, retI X0 hx Bd.returns (hb hby d20_10) hr, hrun, hended, _, _, rfl, ⟨rfl, N0, e0⟩, ⟨_, rfl⟩, hW, hsame.mono (by decide) (by decide)⟩
theorem d19_0 : decode jdk_65_method_120_code 0 = .ok (.aload_n 2, 1) := by decide +kernel
theorem d19_1 : decode jdk_65_method_120_code 1 = .ok (.ldc 110, 2) := by decide +kernel
theorem d19_3 : decode jdk_65_method_120_code 3 = .ok (.if_acmp .ne 10, 3) := by decide +kernel
theorem d19_6 : decode jdk_65_method_120_code 6 = .ok (.iload_n 1, 1) := by decide +kernel
theorem d19_7 : decode jdk_65_method_120_code 7 = .ok (.anewarray 2, 3) := by decide +kernel
theorem d19_10 : decode jdk_65_method_120_code 10 = .ok (.goto 14, 3) := by decide +kernel
theorem d19_24 : decode jdk_65_method_120_code 24 = .ok (.astore_n 3, 1) := by decide +kernel
theorem d19_25 : decode jdk_65_method_120_code 25 = .ok (.aload_n 0, 1) := by decide +kernel
theorem d19_26 : decode jdk_65_method_120_code 26 = .ok (.iconst 0, 1) := by decide +kernel
theorem d19_27 : decode jdk_65_method_120_code 27 = .ok (.aload_n 3, 1) := by decide +kernel
theorem d19_28 : decode jdk_65_method_120_code 28 = .ok (.iconst 0, 1) := by decide +kernel
theorem d19_29 : decode jdk_65_method_120_code 29 = .ok (.aload_n 0, 1) := by decide +kernel
theorem d19_30 : decode jdk_65_method_120_code 30 = .ok (.arraylength, 1) := by decide +kernel
theorem d19_31 : decode jdk_65_method_120_code 31 = .ok (.iload_n 1, 1) := by decide +kernel
theorem d19_32 : decode jdk_65_method_120_code 32 = .ok (.invokestatic 304, 3) := by decide +kernel
theorem d19_35 : decode jdk_65_method_120_code 35 = .ok (.invokestatic 150, 3) := by decide +kernel
theorem d19_38 : decode jdk_65_method_120_code 38 = .ok (.aload_n 3, 1) := by decide +kernel
theorem d19_39 : decode jdk_65_method_120_code 39 = .ok (.areturn, 1) := by decide +kernel
theorem pn_19 : plainName "java/util/Arrays" = true := by first | (simp [plainName, overriddenIn]; done) | decide +kernel
theorem ef_19 (m : MethodId) (x0 : Addr) (x1 : Int32) (x2 : Addr) : entryFrame m #[(.ref x0), (.int x1), (.ref x2)] 4 = mkF m 0 #[rv x0, iv x1, rv x2, .unset] [] := by first | (simp [entryFrame, mkF, argsToLocals, Value.category]; done) | rfl
def Q_rm_copy3_1 (Z : State) (b : Addr) (mO : Addr) (kb : ClassId) (el0 : Addr) (h0 : Heap) (n0 : Nat) : Option Value → Heap → List Loc → Prop := fun v h L => ∃ (nb : Addr) (nk : ClassId), v = some (.ref nb) ∧ Fr n0 L ∧ Keep h0 h [] ∧ h0.size ≤ nb ∧ Arv Z h nb nk (.object "java/lang/Object") (1 : Int32) [(.ref el0)] .null ∧ Exa Z h nb "[Ljava/lang/Object;" ∧ Ovr Z nk "java/lang/Object"
set_option maxRecDepth 65536 in
set_option maxHeartbeats 40000000 in
theorem rm_copy3_1 (l : Launch) (Z : State) (a0 : Array Value) (hw : ∀ d ∈ tables_1, d.before a0 Z = true) (ws : List Jvm.Cond) (b : Addr) (mO : Addr) (kb : ClassId) (el0 : Addr) (h0 : Heap) (n0 : Nat) (Z0 : n0 ≤ h0.size) (V_b : Arv Z h0 b kb (.object "java/lang/Object") (10 : Int32) [(.ref el0), .null, .null, .null, .null, .null, .null, .null, .null, .null] .null) (E_b : Exa Z h0 b "[Ljava/lang/Object;") (E_el0 : Exa Z h0 el0 "java/lang/String") (mir_mO : Mir Z "[Ljava/lang/Object;" mO) :
    MetFree l y22_ (head1 (Jvm.Cond.code y22_ jdk_65_method_120_code 4 (some (.array (.object "java/lang/Object"))) :: ws) R15_) (fun a U => a = #[(.ref b), (.int (1 : Int32)), (.ref mO)] ∧ Z.Warmed39 U.vm ∧ U.heap = h0) (fun _ _ _ _ _ => True) (fun _ U o U' => ∃ v L, o = .returned v ∧ (Q_rm_copy3_1 Z b mO kb el0 h0 n0) v U'.heap L ∧ FrameEnd U o U' L R15_.cells R15_.slots) := by
  refine MetFree.of_bodySF (plainFor_of_name pn_19) hisR ?_
  intro p e s m args below meth c s₁ Bd hml0 hP hK
  obtain ⟨rfl, hZ, hh⟩ := hP
  have hx := Bd.exec
  have hby := Bd.bytes
  have hml : c.maxLocals = 4 := hml0
  have hown : s.vm.findClass "java/util/Arrays" = some m.cls := findClass_of_methodNamed Bd.named
  have hnm := (name_of_methodNamed Bd.named Bd.method).1
  have X0 : Stand p l e R15_ s m #[(.ref b), (.int (1 : Int32)), (.ref mO)] below meth c s₁ [] 0 0 := Stand.of_body Bd
  have e0 : s₁.heap = h0 := by rw [← hh, Bd.state]; rfl
  have N0 := Fr.nil n0
  show own_G FrameEnd p e below s R15_.cells R15_.slots (Q_rm_copy3_1 Z b mO kb el0 h0 n0) (s₁.setTop (entryFrame m #[(.ref b), (.int (1 : Int32)), (.ref mO)] 4))
  refine own_go (Y' := s₁.setTop (mkF m 0 #[rv b, iv (1 : Int32), rv mO, .unset] [])) ?_ (fun t k => castTop (ef_19 m b (1 : Int32) mO) k)
  refine own_go ?_ (fun _ hr => XS.aloadN X0.here hx rfl (hb hby d19_0) rfl rfl hr)
  show own_H (s₁.setTop (mkF m 1 #[rv b, iv (1 : Int32), rv mO, .unset] [(.ref mO)]))
  obtain ⟨vm1, X1, st1⟩ := X0.ldcMirror hx hown (mvT hZ (hw _ (tm 138 rfl))) (own_mir hZ mir_mO) (g := (mkF m 1 #[rv b, iv (1 : Int32), rv mO, .unset] [(.ref mO)])) rfl (hb hby d19_1)
  refine own_go ?_ (fun _ hr => st1 _ (Jvm.RoadKit.acmp (g := (mkF m 3 #[rv b, iv (1 : Int32), rv mO, .unset] [(.ref mO), (.ref mO)])) X1 hx rfl rfl rfl (pc0 := 3) (pc' := 6) (same := true) rfl (hb hby d19_3) rfl (decide_eq_true rfl) (by decide) (by decide) (XS.iloadN X1.here hx rfl (hb hby d19_6) rfl hr)))
  show own_H ((s₁.setVm vm1).setTop (mkF m 7 #[rv b, iv (1 : Int32), rv mO, .unset] [(.int (1 : Int32))]))
  obtain ⟨T2, h2, k2, X2, e2, E2, A2, B2, O2, st2⟩ := newRE X1 hx hZ hown (hw _ (tm 139 rfl)) (hw _ (tm 79 rfl)) e0 (g := (mkF m 7 #[rv b, iv (1 : Int32), rv mO, .unset] [(.int (1 : Int32))])) rfl (hb hby d19_7) rfl (by decide) (cap := 1) (by decide) (by decide) (by decide) (by decide) (ad := "[Ljava/lang/Object;") (by decide)
  obtain ⟨b2, g2⟩ : ∃ z, z = h0.size := ⟨_, rfl⟩
  rw [← g2] at A2 B2 st2
  have V2 : Arv Z h2 b2 k2 (.object "java/lang/Object") (1 : Int32) [.null] .null := (Arv.new A2 (by decide)).pad (pad_rep [] .null 1)
  have g_b2 : n0 ≤ b2 := ltr Z0 (leq g2.symm)
  have sz_b2 : h0.size ≤ b2 := ltr (Keep.refl h0 []).1 (leq g2.symm)
  refine own_go ?_ (fun _ hr => st2 _ (XS.goto X2.here hx rfl (pc0 := 10) (pc' := 24) rfl (hb hby d19_10) (by decide) (by decide) (XS.astoreN X2.here hx rfl (hb hby d19_24) rfl rfl (l' := #[rv b, iv (1 : Int32), rv mO, rv b2]) rfl (XS.aloadN X2.here hx rfl (hb hby d19_25) rfl rfl (XS.iconst X2.here hx rfl (hb hby d19_26) (XS.aloadN X2.here hx rfl (hb hby d19_27) rfl rfl (XS.iconst X2.here hx rfl (hb hby d19_28) (XS.aloadN X2.here hx rfl (hb hby d19_29) rfl rfl hr))))))))
  show own_H (T2.setTop (mkF m 30 #[rv b, iv (1 : Int32), rv mO, rv b2] [(.ref b), (.int (0 : Int32)), (.ref b2), (.int (0 : Int32)), (.ref b)]))
  obtain ⟨cl3, Ar3, -, S3, M3, -, -⟩ := id (V_b.ext E2)
  refine own_go ?_ (fun _ hr => X2.arraylength hx (by rw [e2]; exact Ar3.1) (State.isArrayOf_alike hZ.alike Ar3.2.1) (g := (mkF m 30 #[rv b, iv (1 : Int32), rv mO, rv b2] [(.ref b), (.int (0 : Int32)), (.ref b2), (.int (0 : Int32)), (.ref b)])) rfl rfl (hb hby d19_30) _ hr)
  rw [len_of S3 M3]
  show own_H (T2.setTop (mkF m 31 #[rv b, iv (1 : Int32), rv mO, rv b2] [(.int (10 : Int32)), (.int (0 : Int32)), (.ref b2), (.int (0 : Int32)), (.ref b)]))
  refine own_go ?_ (fun _ hr => XS.iloadN X2.here hx rfl (hb hby d19_31) rfl hr)
  show own_H (T2.setTop (mkF m 32 #[rv b, iv (1 : Int32), rv mO, rv b2] [(.int (1 : Int32)), (.int (10 : Int32)), (.int (0 : Int32)), (.ref b2), (.int (0 : Int32)), (.ref b)]))
  obtain ⟨_, _, ⟨T4, L4, k4, n4⟩, -, X4, ⟨Lc4, hQ4, l4, y4, z4⟩, st4⟩ := Jvm.LawKit.callS X2 hx (y := y21_) hown (mvT hZ (hw _ (tm 140 rfl))) (mvT hZ (hw _ (tm 141 rfl))) (mvT hZ (hw _ (tm 76 rfl))) (mvT hZ (hw _ (tm 142 rfl))) (by decide) (backOf (W := 4) (rm_min_1 l Z a0 hw []  h2 n0 (ltr Z0 E2.1) ) hZ (hw _ (tm 142 rfl)) (hw _ (tm 76 rfl)) (by decide) (by decide)) (g := (mkF m 32 #[rv b, iv (1 : Int32), rv mO, rv b2] [(.int (1 : Int32)), (.int (10 : Int32)), (.int (0 : Int32)), (.ref b2), (.int (0 : Int32)), (.ref b)])) rfl (by rw [hml]; rfl) (argsL := [(.int (10 : Int32)), (.int (1 : Int32))]) (rest := [(.int (0 : Int32)), (.ref b2), (.int (0 : Int32)), (.ref b)]) (lenOf pd__II_I rfl) rfl (by show 2 * 0 + _ ≤ _; exact Nat.le_of_eq rfl) (hb hby d19_32) (fun _ _ => ⟨rfl, e2, (by decide : 1 + 0 ≤ _), (by decide : 1 + 0 ≤ _)⟩)
  dsimp only [Pt.U, Pt.locs, Pt.cells, Pt.slots] at X4 l4 y4 z4 st4 hQ4
  subst l4 y4 z4
  obtain ⟨rfl, N4q, e4⟩ := hQ4
  have N4 := Fr.app N0 N4q
  refine own_go ?_ (fun _ hr => st4 _ hr)
  show own_H (T4.setTop (mkF m 35 #[rv b, iv (1 : Int32), rv mO, rv b2] [(.int (1 : Int32)), (.int (0 : Int32)), (.ref b2), (.int (0 : Int32)), (.ref b)]))
  obtain ⟨cb5, Ab5, qb5, -⟩ := id V2
  obtain ⟨T5, h5, L5, X5, e5, N5, K5, V5, st5⟩ := cpA X4 hx hZ hown (hw _ (tm 143 rfl)) (hw _ (tm 146 rfl)) (hw _ (tm 144 rfl)) (hw _ (tm 145 rfl)) e4 (V_b.ext E2) V2 (us := [(.ref el0)]) (Or.inr ⟨rfl, rfl, ⟨Sto.ofV Ab5 qb5 O2 (Ins.of_exa (E_el0.ext E2) (hw _ (tm 80 rfl))), trivial⟩⟩) (by decide) (by decide) (by decide) (by decide) (by decide) rfl (by decide) N4 g_b2 (g := (mkF m 35 #[rv b, iv (1 : Int32), rv mO, rv b2] [(.int (1 : Int32)), (.int (0 : Int32)), (.ref b2), (.int (0 : Int32)), (.ref b)])) rfl (by rw [hml]; rfl) rfl (hb hby d19_35) (by decide) (W := 0) (by show 2 * 0 + _ ≤ _; exact Nat.le_of_eq rfl) (by decide)
  have V5a : Arv Z h5 b2 k2 (.object "java/lang/Object") (1 : Int32) [(.ref el0)] .null := V5
  refine own_go ?_ (fun _ hr => st5 _ (XS.aloadN X5.here hx rfl (hb hby d19_38) rfl rfl hr))
  show own_H (T5.setTop (mkF m 39 #[rv b, iv (1 : Int32), rv mO, rv b2] [(.ref b2)]))
  obtain ⟨fs, hr, hrun, hended, hW, hsame⟩ := X5.leave (v := some (.ref b2)) (fun h => by rw [Bd.returns] at h; cases h)
  exact ⟨_, _, retOut X5 hx Bd.returns rfl (Or.inr (Or.inr (Or.inr (Or.inr ⟨rfl, rfl, rfl⟩)))) (hb hby d19_39) hr, hrun, hended, _, _, rfl, (by rw [show (T5.setFrames fs).heap = h5 from e5]; exact ⟨b2, k2, rfl, N5, (((Keep.refl h0 []).ext E2).trans K5 (allS (Or.inr sz_b2) all0)), sz_b2, V5a, (B2.keep K5), O2⟩), ⟨_, rfl⟩, hW, hsame.mono (by decide) (by decide)⟩
theorem d18_0 : decode jdk_65_method_119_code 0 = .ok (.aload_n 0, 1) := by decide +kernel
theorem d18_1 : decode jdk_65_method_119_code 1 = .ok (.iload_n 1, 1) := by decide +kernel
theorem d18_2 : decode jdk_65_method_119_code 2 = .ok (.aload_n 0, 1) := by decide +kernel
theorem d18_3 : decode jdk_65_method_119_code 3 = .ok (.invokevirtual 86, 3) := by decide +kernel
theorem d18_6 : decode jdk_65_method_119_code 6 = .ok (.invokestatic 300, 3) := by decide +kernel
theorem d18_9 : decode jdk_65_method_119_code 9 = .ok (.areturn, 1) := by decide +kernel
theorem pn_18 : plainName "java/util/Arrays" = true := by first | (simp [plainName, overriddenIn]; done) | decide +kernel
theorem pd___Ljava_lang_Object_ILjava_lang_Class___Ljava_lang_Object_ : parseMethodDescriptor "([Ljava/lang/Object;ILjava/lang/Class;)[Ljava/lang/Object;" = some ⟨[(.array (.object "java/lang/Object")), .int, (.object "java/lang/Class")], some (.array (.object "java/lang/Object"))⟩ := by decide +kernel
theorem ef_18 (m : MethodId) (x0 : Addr) (x1 : Int32) : entryFrame m #[(.ref x0), (.int x1)] 2 = mkF m 0 #[rv x0, iv x1] [] := by first | (simp [entryFrame, mkF, argsToLocals, Value.category]; done) | rfl
def Q_rm_copy2_1 (Z : State) (b : Addr) (mO : Addr) (kb : ClassId) (el0 : Addr) (h0 : Heap) (n0 : Nat) : Option Value → Heap → List Loc → Prop := fun v h L => ∃ (nb : Addr) (nk : ClassId), v = some (.ref nb) ∧ Fr n0 L ∧ Keep h0 h [] ∧ h0.size ≤ nb ∧ Arv Z h nb nk (.object "java/lang/Object") (1 : Int32) [(.ref el0)] .null ∧ Exa Z h nb "[Ljava/lang/Object;" ∧ Ovr Z nk "java/lang/Object"
set_option maxRecDepth 65536 in
set_option maxHeartbeats 40000000 in
theorem rm_copy2_1 (l : Launch) (Z : State) (a0 : Array Value) (hw : ∀ d ∈ tables_1, d.before a0 Z = true) (ws : List Jvm.Cond) (b : Addr) (mO : Addr) (kb : ClassId) (el0 : Addr) (h0 : Heap) (n0 : Nat) (Z0 : n0 ≤ h0.size) (V_b : Arv Z h0 b kb (.object "java/lang/Object") (10 : Int32) [(.ref el0), .null, .null, .null, .null, .null, .null, .null, .null, .null] .null) (E_b : Exa Z h0 b "[Ljava/lang/Object;") (E_el0 : Exa Z h0 el0 "java/lang/String") (mir_mO : Mir Z "[Ljava/lang/Object;" mO) :
    MetFree l y23_ (head1 (Jvm.Cond.code y23_ jdk_65_method_119_code 2 (some (.array (.object "java/lang/Object"))) :: ws) R16_) (fun a U => a = #[(.ref b), (.int (1 : Int32))] ∧ Z.Warmed39 U.vm ∧ U.heap = h0) (fun _ _ _ _ _ => True) (fun _ U o U' => ∃ v L, o = .returned v ∧ (Q_rm_copy2_1 Z b mO kb el0 h0 n0) v U'.heap L ∧ FrameEnd U o U' L R16_.cells R16_.slots) := by
  refine MetFree.of_bodySF (plainFor_of_name pn_18) hisR ?_
  intro p e s m args below meth c s₁ Bd hml0 hP hK
  obtain ⟨rfl, hZ, hh⟩ := hP
  have hx := Bd.exec
  have hby := Bd.bytes
  have hml : c.maxLocals = 2 := hml0
  have hown : s.vm.findClass "java/util/Arrays" = some m.cls := findClass_of_methodNamed Bd.named
  have hnm := (name_of_methodNamed Bd.named Bd.method).1
  have X0 : Stand p l e R16_ s m #[(.ref b), (.int (1 : Int32))] below meth c s₁ [] 0 0 := Stand.of_body Bd
  have e0 : s₁.heap = h0 := by rw [← hh, Bd.state]; rfl
  have N0 := Fr.nil n0
  show own_G FrameEnd p e below s R16_.cells R16_.slots (Q_rm_copy2_1 Z b mO kb el0 h0 n0) (s₁.setTop (entryFrame m #[(.ref b), (.int (1 : Int32))] 2))
  refine own_go (Y' := s₁.setTop (mkF m 0 #[rv b, iv (1 : Int32)] [])) ?_ (fun t k => castTop (ef_18 m b (1 : Int32)) k)
  refine own_go ?_ (fun _ hr => XS.aloadN X0.here hx rfl (hb hby d18_0) rfl rfl (XS.iloadN X0.here hx rfl (hb hby d18_1) rfl (XS.aloadN X0.here hx rfl (hb hby d18_2) rfl rfl hr)))
  show own_H (s₁.setTop (mkF m 3 #[rv b, iv (1 : Int32)] [(.ref b), (.int (1 : Int32)), (.ref b)]))
  obtain ⟨T1, X1, e1, st1⟩ := gcls X0 hx hZ hown (hw _ (tm 129 rfl)) (hw _ (tm 130 rfl)) (hw _ (tm 106 rfl)) (hw _ (tm 132 rfl)) (hw _ (tm 131 rfl)) (hw _ (tm 133 rfl)) e0 E_b mir_mO (g := (mkF m 3 #[rv b, iv (1 : Int32)] [(.ref b), (.int (1 : Int32)), (.ref b)])) rfl (by rw [hml]; rfl) rfl (hb hby d18_3) (by decide) (W := 2) (by show 2 * 0 + _ ≤ _; exact Nat.le_of_eq rfl) (by decide)
  refine own_go ?_ (fun _ hr => st1 _ hr)
  show own_H (T1.setTop (mkF m 6 #[rv b, iv (1 : Int32)] [(.ref mO), (.int (1 : Int32)), (.ref b)]))
  obtain ⟨_, _, ⟨T2, L2, k2, n2⟩, -, X2, ⟨Lc2, hQ2, l2, y2, z2⟩, st2⟩ := Jvm.LawKit.callS X1 hx (y := y22_) hown (mvT hZ (hw _ (tm 135 rfl))) (mvT hZ (hw _ (tm 136 rfl))) (mvT hZ (hw _ (tm 127 rfl))) (mvT hZ (hw _ (tm 137 rfl))) (by decide) (backOf (W := 0) (rm_copy3_1 l Z a0 hw [] b mO kb el0 h0 n0 Z0 V_b E_b E_el0 mir_mO) hZ (hw _ (tm 137 rfl)) (hw _ (tm 127 rfl)) (by decide) (by decide)) (g := (mkF m 6 #[rv b, iv (1 : Int32)] [(.ref mO), (.int (1 : Int32)), (.ref b)])) rfl (by rw [hml]; rfl) (argsL := [(.ref b), (.int (1 : Int32)), (.ref mO)]) (rest := []) (lenOf pd___Ljava_lang_Object_ILjava_lang_Class___Ljava_lang_Object_ rfl) rfl (by show 2 * 0 + _ ≤ _; exact Nat.le_of_eq rfl) (hb hby d18_6) (fun _ _ => ⟨rfl, e1, (by decide : 0 + 1 ≤ _), (by decide : 0 + 1 ≤ _)⟩)
  dsimp only [Pt.U, Pt.locs, Pt.cells, Pt.slots] at X2 l2 y2 z2 st2 hQ2
  subst l2 y2 z2
  obtain ⟨b2_0, kb2_1, rfl, N2q, K2, yb2_0, P2_0, P2_1, P2_2⟩ := hQ2
  have g_b2_0 : n0 ≤ b2_0 := ltr Z0 yb2_0
  have sz_b2_0 : h0.size ≤ b2_0 := ltr (Keep.refl h0 []).1 yb2_0
  have N2 := Fr.app N0 N2q
  refine own_go ?_ (fun _ hr => st2 _ hr)
  show own_H (T2.setTop (mkF m 9 #[rv b, iv (1 : Int32)] [(.ref b2_0)]))
  obtain ⟨fs, hr, hrun, hended, hW, hsame⟩ := X2.leave (v := some (.ref b2_0)) (fun h => by rw [Bd.returns] at h; cases h)
  exact ⟨_, _, retOut X2 hx Bd.returns rfl (Or.inr (Or.inr (Or.inr (Or.inr ⟨rfl, rfl, rfl⟩)))) (hb hby d18_9) hr, hrun, hended, _, _, rfl, ⟨b2_0, kb2_1, rfl, N2, ((Keep.refl h0 []).trans K2 all0), sz_b2_0, P2_0, P2_1, P2_2⟩, ⟨_, rfl⟩, hW, hsame.mono (by decide) (by decide)⟩
theorem d17_0 : decode jdk_38_method_16_code 0 = .ok (.aload_n 0, 1) := by decide +kernel
theorem d17_1 : decode jdk_38_method_16_code 1 = .ok (.getfield 9, 3) := by decide +kernel
theorem d17_4 : decode jdk_38_method_16_code 4 = .ok (.aload_n 0, 1) := by decide +kernel
theorem d17_5 : decode jdk_38_method_16_code 5 = .ok (.getfield 48, 3) := by decide +kernel
theorem d17_8 : decode jdk_38_method_16_code 8 = .ok (.invokestatic 66, 3) := by decide +kernel
theorem d17_11 : decode jdk_38_method_16_code 11 = .ok (.areturn, 1) := by decide +kernel
theorem pn_17 : plainName "java/util/ArrayList" = true := by first | (simp [plainName, overriddenIn]; done) | decide +kernel
theorem pd___Ljava_lang_Object_I__Ljava_lang_Object_ : parseMethodDescriptor "([Ljava/lang/Object;I)[Ljava/lang/Object;" = some ⟨[(.array (.object "java/lang/Object")), .int], some (.array (.object "java/lang/Object"))⟩ := by decide +kernel
theorem ef_17 (m : MethodId) (x0 : Addr) : entryFrame m #[(.ref x0)] 1 = mkF m 0 #[rv x0] [] := by first | (simp [entryFrame, mkF, argsToLocals, Value.category]; done) | rfl
def Q_rm_toArray_1 (Z : State) (a1 : Addr) (b : Addr) (mO : Addr) (kb : ClassId) (el0 : Addr) (h0 : Heap) (n0 : Nat) : Option Value → Heap → List Loc → Prop := fun v h L => ∃ (nb : Addr) (nk : ClassId), v = some (.ref nb) ∧ Fr n0 L ∧ Keep h0 h [] ∧ h0.size ≤ nb ∧ Arv Z h nb nk (.object "java/lang/Object") (1 : Int32) [(.ref el0)] .null ∧ Exa Z h nb "[Ljava/lang/Object;" ∧ Ovr Z nk "java/lang/Object"
set_option maxRecDepth 65536 in
set_option maxHeartbeats 40000000 in
theorem rm_toArray_1 (l : Launch) (Z : State) (a0 : Array Value) (hw : ∀ d ∈ tables_1, d.before a0 Z = true) (ws : List Jvm.Cond) (a1 : Addr) (b : Addr) (mO : Addr) (kb : ClassId) (el0 : Addr) (h0 : Heap) (n0 : Nat) (Z0 : n0 ≤ h0.size) (E_a1 : Exa Z h0 a1 "java/util/ArrayList") (F_a1_elementData : Fld Z h0 a1 "java/util/ArrayList" "elementData" "[Ljava/lang/Object;" (.ref b)) (F_a1_size : Fld Z h0 a1 "java/util/ArrayList" "size" "I" (.int (1 : Int32))) (V_b : Arv Z h0 b kb (.object "java/lang/Object") (10 : Int32) [(.ref el0), .null, .null, .null, .null, .null, .null, .null, .null, .null] .null) (E_b : Exa Z h0 b "[Ljava/lang/Object;") (E_el0 : Exa Z h0 el0 "java/lang/String") (mir_mO : Mir Z "[Ljava/lang/Object;" mO) :
    MetFree l y24_ (head1 (Jvm.Cond.code y24_ jdk_38_method_16_code 1 (some (.array (.object "java/lang/Object"))) :: ws) R17_) (fun a U => a = #[(.ref a1)] ∧ Z.Warmed39 U.vm ∧ U.heap = h0) (fun _ _ _ _ _ => True) (fun _ U o U' => ∃ v L, o = .returned v ∧ (Q_rm_toArray_1 Z a1 b mO kb el0 h0 n0) v U'.heap L ∧ FrameEnd U o U' L R17_.cells R17_.slots) := by
  refine MetFree.of_bodySF (plainFor_of_name pn_17) hisR ?_
  intro p e s m args below meth c s₁ Bd hml0 hP hK
  obtain ⟨rfl, hZ, hh⟩ := hP
  have hx := Bd.exec
  have hby := Bd.bytes
  have hml : c.maxLocals = 1 := hml0
  have hown : s.vm.findClass "java/util/ArrayList" = some m.cls := findClass_of_methodNamed Bd.named
  have hnm := (name_of_methodNamed Bd.named Bd.method).1
  have X0 : Stand p l e R17_ s m #[(.ref a1)] below meth c s₁ [] 0 0 := Stand.of_body Bd
  have e0 : s₁.heap = h0 := by rw [← hh, Bd.state]; rfl
  have N0 := Fr.nil n0
  show own_G FrameEnd p e below s R17_.cells R17_.slots (Q_rm_toArray_1 Z a1 b mO kb el0 h0 n0) (s₁.setTop (entryFrame m #[(.ref a1)] 1))
  refine own_go (Y' := s₁.setTop (mkF m 0 #[rv a1] [])) ?_ (fun t k => castTop (ef_17 m a1) k)
  refine own_go ?_ (fun _ hr => XS.aloadN X0.here hx rfl (hb hby d17_0) rfl rfl hr)
  show own_H (s₁.setTop (mkF m 1 #[rv a1] [(.ref a1)]))
  obtain ⟨T1, X1, e1, st1⟩ := getF X0 hx hZ hown (host := "") (Or.inl (hw _ (tm 48 rfl))) Via.refl e0 F_a1_elementData (g := (mkF m 1 #[rv a1] [(.ref a1)])) rfl rfl (hb hby d17_1)
  refine own_go ?_ (fun _ hr => st1 _ (XS.aloadN X1.here hx rfl (hb hby d17_4) rfl rfl hr))
  show own_H (T1.setTop (mkF m 5 #[rv a1] [(.ref a1), (.ref b)]))
  obtain ⟨T2, X2, e2, st2⟩ := getF X1 hx hZ hown (host := "") (Or.inl (hw _ (tm 57 rfl))) Via.refl e1 F_a1_size (g := (mkF m 5 #[rv a1] [(.ref a1), (.ref b)])) rfl rfl (hb hby d17_5)
  refine own_go ?_ (fun _ hr => st2 _ hr)
  show own_H (T2.setTop (mkF m 8 #[rv a1] [(.int (1 : Int32)), (.ref b)]))
  obtain ⟨_, _, ⟨T3, L3, k3, n3⟩, -, X3, ⟨Lc3, hQ3, l3, y3, z3⟩, st3⟩ := Jvm.LawKit.callS X2 hx (y := y23_) hown (mvT hZ (hw _ (tm 125 rfl))) (mvT hZ (hw _ (tm 126 rfl))) (mvT hZ (hw _ (tm 127 rfl))) (mvT hZ (hw _ (tm 128 rfl))) (by decide) (backOf (W := 0) (rm_copy2_1 l Z a0 hw [] b mO kb el0 h0 n0 Z0 V_b E_b E_el0 mir_mO) hZ (hw _ (tm 128 rfl)) (hw _ (tm 127 rfl)) (by decide) (by decide)) (g := (mkF m 8 #[rv a1] [(.int (1 : Int32)), (.ref b)])) rfl (by rw [hml]; rfl) (argsL := [(.ref b), (.int (1 : Int32))]) (rest := []) (lenOf pd___Ljava_lang_Object_I__Ljava_lang_Object_ rfl) rfl (by show 2 * 0 + _ ≤ _; exact Nat.le_of_eq rfl) (hb hby d17_8) (fun _ _ => ⟨rfl, e2, (by decide : 0 + 1 ≤ _), (by decide : 0 + 1 ≤ _)⟩)
  dsimp only [Pt.U, Pt.locs, Pt.cells, Pt.slots] at X3 l3 y3 z3 st3 hQ3
  subst l3 y3 z3
  obtain ⟨b3_0, kb3_1, rfl, N3q, K3, yb3_0, P3_0, P3_1, P3_2⟩ := hQ3
  have g_b3_0 : n0 ≤ b3_0 := ltr Z0 yb3_0
  have sz_b3_0 : h0.size ≤ b3_0 := ltr (Keep.refl h0 []).1 yb3_0
  have N3 := Fr.app N0 N3q
  refine own_go ?_ (fun _ hr => st3 _ hr)
  show own_H (T3.setTop (mkF m 11 #[rv a1] [(.ref b3_0)]))
  obtain ⟨fs, hr, hrun, hended, hW, hsame⟩ := X3.leave (v := some (.ref b3_0)) (fun h => by rw [Bd.returns] at h; cases h)
  exact ⟨_, _, retOut X3 hx Bd.returns rfl (Or.inr (Or.inr (Or.inr (Or.inr ⟨rfl, rfl, rfl⟩)))) (hb hby d17_11) hr, hrun, hended, _, _, rfl, ⟨b3_0, kb3_1, rfl, N3, ((Keep.refl h0 []).trans K3 all0), sz_b3_0, P3_0, P3_1, P3_2⟩, ⟨_, rfl⟩, hW, hsame.mono (by decide) (by decide)⟩
theorem d16_0 : decode jdk_38_method_9_code 0 = .ok (.aload_n 0, 1) := by decide +kernel
theorem d16_1 : decode jdk_38_method_9_code 1 = .ok (.getfield 48, 3) := by decide +kernel
theorem d16_4 : decode jdk_38_method_9_code 4 = .ok (.ifCond .ne 7, 3) := by decide +kernel
theorem d16_11 : decode jdk_38_method_9_code 11 = .ok (.iconst 0, 1) := by decide +kernel
theorem d16_12 : decode jdk_38_method_9_code 12 = .ok (.ireturn, 1) := by decide +kernel
theorem pn_16 : plainName "java/util/ArrayList" = true := by first | (simp [plainName, overriddenIn]; done) | decide +kernel
theorem ef_16 (m : MethodId) (x0 : Addr) : entryFrame m #[(.ref x0)] 1 = mkF m 0 #[rv x0] [] := by first | (simp [entryFrame, mkF, argsToLocals, Value.category]; done) | rfl
def Q_rm_isEmpty_1 (Z : State) (a1 : Addr) (h0 : Heap) (n0 : Nat) : Option Value → Heap → List Loc → Prop := fun v h L => v = some (.int (0 : Int32)) ∧ Fr n0 L ∧ h = h0
set_option maxRecDepth 65536 in
set_option maxHeartbeats 40000000 in
theorem rm_isEmpty_1 (l : Launch) (Z : State) (a0 : Array Value) (hw : ∀ d ∈ tables_1, d.before a0 Z = true) (ws : List Jvm.Cond) (a1 : Addr) (h0 : Heap) (n0 : Nat) (Z0 : n0 ≤ h0.size) (F_a1_size : Fld Z h0 a1 "java/util/ArrayList" "size" "I" (.int (1 : Int32))) :
    MetFree l y25_ (head1 (Jvm.Cond.code y25_ jdk_38_method_9_code 1 (some .boolean) :: ws) R0_) (fun a U => a = #[(.ref a1)] ∧ Z.Warmed39 U.vm ∧ U.heap = h0) (fun _ _ _ _ _ => True) (fun _ U o U' => ∃ v L, o = .returned v ∧ (Q_rm_isEmpty_1 Z a1 h0 n0) v U'.heap L ∧ FrameEnd U o U' L R0_.cells R0_.slots) := by
  refine MetFree.of_bodySF (plainFor_of_name pn_16) hisR ?_
  intro p e s m args below meth c s₁ Bd hml0 hP hK
  obtain ⟨rfl, hZ, hh⟩ := hP
  have hx := Bd.exec
  have hby := Bd.bytes
  have hml : c.maxLocals = 1 := hml0
  have hown : s.vm.findClass "java/util/ArrayList" = some m.cls := findClass_of_methodNamed Bd.named
  have hnm := (name_of_methodNamed Bd.named Bd.method).1
  have X0 : Stand p l e R0_ s m #[(.ref a1)] below meth c s₁ [] 0 0 := Stand.of_body Bd
  have e0 : s₁.heap = h0 := by rw [← hh, Bd.state]; rfl
  have N0 := Fr.nil n0
  show own_G FrameEnd p e below s R0_.cells R0_.slots (Q_rm_isEmpty_1 Z a1 h0 n0) (s₁.setTop (entryFrame m #[(.ref a1)] 1))
  refine own_go (Y' := s₁.setTop (mkF m 0 #[rv a1] [])) ?_ (fun t k => castTop (ef_16 m a1) k)
  refine own_go ?_ (fun _ hr => XS.aloadN X0.here hx rfl (hb hby d16_0) rfl rfl hr)
  show own_H (s₁.setTop (mkF m 1 #[rv a1] [(.ref a1)]))
  obtain ⟨T1, X1, e1, st1⟩ := getF X0 hx hZ hown (host := "") (Or.inl (hw _ (tm 57 rfl))) Via.refl e0 F_a1_size (g := (mkF m 1 #[rv a1] [(.ref a1)])) rfl rfl (hb hby d16_1)
  refine own_go ?_ (fun _ hr => st1 _ (XS.ifYes X1.here hx rfl (pc0 := 4) (pc' := 11) rfl (hb hby d16_4) rfl ((if0 _ _).trans (feq (by decide : ¬ ((1 : Int32) = (0 : Int32)))).2) (by decide) (by decide) (XS.iconst X1.here hx rfl (hb hby d16_11) hr)))
  show own_H (T1.setTop (mkF m 12 #[rv a1] [(.int (0 : Int32))]))
  obtain ⟨fs, hr, hrun, hended, hW, hsame⟩ := X1.leave (v := some (.int (0 : Int32))) (fun h => by rw [Bd.returns] at h; cases h)
  exact ⟨_, _, retN X1 hx (t := .boolean) Bd.returns (by simp) (hb hby d16_12) hr, hrun, hended, _, _, rfl, ⟨rfl, N0, e1⟩, ⟨_, rfl⟩, hW, hsame.mono (by decide) (by decide)⟩
theorem d21_0 : decode jdk_40_method_47_code 0 = .ok (.aload_n 0, 1) := by decide +kernel
theorem d21_1 : decode jdk_40_method_47_code 1 = .ok (.arraylength, 1) := by decide +kernel
theorem d21_2 : decode jdk_40_method_47_code 2 = .ok (.tableswitch 57 0 2 #[26, 32, 43], 26) := by decide +kernel
theorem d21_34 : decode jdk_40_method_47_code 34 = .ok (.new 96, 3) := by decide +kernel
theorem d21_37 : decode jdk_40_method_47_code 37 = .ok (.dup, 1) := by decide +kernel
theorem d21_38 : decode jdk_40_method_47_code 38 = .ok (.aload_n 0, 1) := by decide +kernel
theorem d21_39 : decode jdk_40_method_47_code 39 = .ok (.iconst 0, 1) := by decide +kernel
theorem d21_40 : decode jdk_40_method_47_code 40 = .ok (.aaload, 1) := by decide +kernel
theorem d21_41 : decode jdk_40_method_47_code 41 = .ok (.invokespecial 98, 3) := by decide +kernel
theorem d21_44 : decode jdk_40_method_47_code 44 = .ok (.areturn, 1) := by decide +kernel
theorem pn_21 : plainName "java/util/List" = true := by first | (simp [plainName, overriddenIn]; done) | decide +kernel
theorem pd__Ljava_lang_Object__V : parseMethodDescriptor "(Ljava/lang/Object;)V" = some ⟨[(.object "java/lang/Object")], none⟩ := by decide +kernel
theorem ef_21 (m : MethodId) (x0 : Addr) : entryFrame m #[(.ref x0)] 2 = mkF m 0 #[rv x0, .unset] [] := by first | (simp [entryFrame, mkF, argsToLocals, Value.category]; done) | rfl
def Q_rm_of_1 (Z : State) (a1 : Addr) (ka : ClassId) (el0 : Addr) (wM : Addr) (h0 : Heap) (n0 : Nat) : Option Value → Heap → List Loc → Prop := fun v h L => ∃ (nl : Addr), v = some (.ref nl) ∧ Fr n0 L ∧ Keep h0 h [] ∧ h0.size ≤ nl ∧ Exa Z h nl "java/util/ImmutableCollections$List12" ∧ Fld Z h nl "java/util/ImmutableCollections$List12" "e0" "Ljava/lang/Object;" (.ref el0) ∧ Fld Z h nl "java/util/ImmutableCollections$List12" "e1" "Ljava/lang/Object;" (.ref wM)
set_option maxRecDepth 65536 in
set_option maxHeartbeats 40000000 in
theorem rm_of_1 (l : Launch) (Z : State) (a0 : Array Value) (hw : ∀ d ∈ tables_1, d.before a0 Z = true) (ws : List Jvm.Cond) (a1 : Addr) (ka : ClassId) (el0 : Addr) (wM : Addr) (h0 : Heap) (n0 : Nat) (Z0 : n0 ≤ h0.size) (V_a1 : Arv Z h0 a1 ka (.object "java/lang/Object") (1 : Int32) [(.ref el0)] .null) (E_el0 : Exa Z h0 el0 "java/lang/String") (hold : Old Z n0 h0) (S_EMPTY : Sta Z Z.heap "java/util/ImmutableCollections" "EMPTY" "Ljava/lang/Object;" (.ref wM)) :
    MetFree l y26_ (head1 (Jvm.Cond.code y26_ jdk_40_method_47_code 2 (some (.object "java/util/List")) :: ws) R18_) (fun a U => a = #[(.ref a1)] ∧ Z.Warmed39 U.vm ∧ U.heap = h0) (fun _ _ _ _ _ => True) (fun _ U o U' => ∃ v L, o = .returned v ∧ (Q_rm_of_1 Z a1 ka el0 wM h0 n0) v U'.heap L ∧ FrameEnd U o U' L R18_.cells R18_.slots) := by
  refine MetFree.of_bodySF (plainFor_of_name pn_21) hisR ?_
  intro p e s m args below meth c s₁ Bd hml0 hP hK
  obtain ⟨rfl, hZ, hh⟩ := hP
  have hx := Bd.exec
  have hby := Bd.bytes
  have hml : c.maxLocals = 2 := hml0
  have hown : s.vm.findClass "java/util/List" = some m.cls := findClass_of_methodNamed Bd.named
  have hnm := (name_of_methodNamed Bd.named Bd.method).1
  have X0 : Stand p l e R18_ s m #[(.ref a1)] below meth c s₁ [] 0 0 := Stand.of_body Bd
  have e0 : s₁.heap = h0 := by rw [← hh, Bd.state]; rfl
  have N0 := Fr.nil n0
  show own_G FrameEnd p e below s R18_.cells R18_.slots (Q_rm_of_1 Z a1 ka el0 wM h0 n0) (s₁.setTop (entryFrame m #[(.ref a1)] 2))
  refine own_go (Y' := s₁.setTop (mkF m 0 #[rv a1, .unset] [])) ?_ (fun t k => castTop (ef_21 m a1) k)
  refine own_go ?_ (fun _ hr => XS.aloadN X0.here hx rfl (hb hby d21_0) rfl rfl hr)
  show own_H (s₁.setTop (mkF m 1 #[rv a1, .unset] [(.ref a1)]))
  obtain ⟨cl1, Ar1, -, S1, M1, -, -⟩ := id V_a1
  refine own_go ?_ (fun _ hr => X0.arraylength hx (by rw [e0]; exact Ar1.1) (State.isArrayOf_alike hZ.alike Ar1.2.1) (g := (mkF m 1 #[rv a1, .unset] [(.ref a1)])) rfl rfl (hb hby d21_1) _ hr)
  rw [len_of S1 M1]
  show own_H (s₁.setTop (mkF m 2 #[rv a1, .unset] [(.int (1 : Int32))]))
  refine own_go ?_ (fun _ hr => XS.tswIn X0.here hx rfl (pc0 := 2) (pc' := 34) rfl (hb hby d21_2) rfl (by decide) rfl (by decide) (by decide) hr)
  show own_H (s₁.setTop (mkF m 34 #[rv a1, .unset] []))
  obtain ⟨T2, h2, X2, e2, E2, A2, D2, -, st2⟩ := newO X0 hx hZ hown (hw _ (tm 150 rfl)) (hw _ (tm 151 rfl)) (hw _ (tm 152 rfl)) e0 (g := (mkF m 34 #[rv a1, .unset] [])) rfl (hb hby d21_34) (by decide) (by decide)
  obtain ⟨b2, g2⟩ : ∃ z, z = h0.size := ⟨_, rfl⟩
  rw [← g2] at A2 D2 st2
  have g_b2 : n0 ≤ b2 := ltr Z0 (leq g2.symm)
  have sz_b2 : h0.size ≤ b2 := ltr (Keep.refl h0 []).1 (leq g2.symm)
  have F2_176 : Fld Z h2 b2 "java/util/ImmutableCollections$List12" "e0" "Ljava/lang/Object;" .null := D2 (Or.inr (hw _ (tm 176 rfl))) (ty := (.object "java/lang/Object")) (by decide)
  have F2_179 : Fld Z h2 b2 "java/util/ImmutableCollections$List12" "e1" "Ljava/lang/Object;" .null := D2 (Or.inr (hw _ (tm 179 rfl))) (ty := (.object "java/lang/Object")) (by decide)
  refine own_go ?_ (fun _ hr => st2 _ (XS.dup X2.here hx rfl (hb hby d21_37) rfl rfl (XS.aloadN X2.here hx rfl (hb hby d21_38) rfl rfl (XS.iconst X2.here hx rfl (hb hby d21_39) hr))))
  show own_H (T2.setTop (mkF m 40 #[rv a1, .unset] [(.int (0 : Int32)), (.ref a1), (.ref b2), (.ref b2)]))
  obtain ⟨cl3, Ar3, qk3, S3, M3, H3, G3⟩ := id (V_a1.ext E2)
  have hin3 : ¬ ((0 : Int32) < 0 ∨ cl3.slots.size ≤ ((0 : Int32)).toNatClampNeg) := inb_of S3 ⟨by decide, by decide⟩
  refine own_go ?_ (fun _ hr => X2.aaload hx (j := (0 : Int32)) (v := (.ref el0)) (by rw [e2]; exact Ar3.1) (State.isArrayOf_alike hZ.alike Ar3.2.1) rfl Ar3.2.2 hin3 (Has.at H3 hin3 rfl) (g := (mkF m 40 #[rv a1, .unset] [(.int (0 : Int32)), (.ref a1), (.ref b2), (.ref b2)])) rfl rfl (hb hby d21_40) _ hr)
  show own_H (T2.setTop (mkF m 41 #[rv a1, .unset] [(.ref el0), (.ref b2), (.ref b2)]))
  obtain ⟨_, _, ⟨T4, L4, k4, n4⟩, -, X4, ⟨Lc4, hQ4, l4, y4, z4⟩, st4⟩ := X2.specialBack hx (y := y18_) rfl hown (mvT hZ (hw _ (tm 153 rfl))) (mvT hZ (hw _ (tm 154 rfl))) (mvT hZ (hw _ (tm 156 rfl))) (by decide) (backOf (W := 1) (rm_l12_1 l Z a0 hw [] b2 el0 (.null) (.null) wM h2 n0 (ltr Z0 E2.1) A2 F2_176 F2_179 g_b2 (hold.ext E2) S_EMPTY) hZ (hw _ (tm 156 rfl)) (hw _ (tm 152 rfl)) (by decide) (by decide)) (g := (mkF m 41 #[rv a1, .unset] [(.ref el0), (.ref b2), (.ref b2)])) rfl (by rw [hml]; rfl) (Steps.refl _) (a := b2) (argsL := [(.ref el0)]) (rest := [(.ref b2)]) (lenOf pd__Ljava_lang_Object__V rfl) rfl (by show 2 * 0 + _ ≤ _; exact Nat.le_of_eq rfl) (hb hby d21_41) (fun _ _ => ⟨rfl, e2, (by decide : 1 + 0 ≤ _), (by decide : 2 + 0 ≤ _)⟩)
  dsimp only [Pt.U, Pt.locs, Pt.cells, Pt.slots] at X4 l4 y4 z4 st4 hQ4
  subst l4 y4 z4
  obtain ⟨rfl, N4q, K4, P4_0, P4_1, P4_2⟩ := hQ4
  have N4 := Fr.app N0 N4q
  refine own_go ?_ (fun _ hr => st4.trans hr)
  show own_H (T4.setTop (mkF m 44 #[rv a1, .unset] [(.ref b2)]))
  obtain ⟨fs, hr, hrun, hended, hW, hsame⟩ := X4.leave (v := some (.ref b2)) (fun h => by rw [Bd.returns] at h; cases h)
  exact ⟨_, _, retOut X4 hx Bd.returns rfl (Or.inr (Or.inr (Or.inr (Or.inr ⟨rfl, rfl, rfl⟩)))) (hb hby d21_44) hr, hrun, hended, _, _, rfl, ⟨b2, rfl, N4, (((Keep.refl h0 []).ext E2).trans K4 (allS (Or.inr sz_b2) all0)), sz_b2, P4_0, P4_1, P4_2⟩, ⟨_, rfl⟩, hW, hsame.mono (by decide) (by decide)⟩
theorem d15_0 : decode jdk_56_method_3_code 0 = .ok (.aload_n 0, 1) := by decide +kernel
theorem d15_1 : decode jdk_56_method_3_code 1 = .ok (.instanceof 10, 3) := by decide +kernel
theorem d15_4 : decode jdk_56_method_3_code 4 = .ok (.ifCond .ne 22, 3) := by decide +kernel
theorem d15_7 : decode jdk_56_method_3_code 7 = .ok (.aload_n 0, 1) := by decide +kernel
theorem d15_8 : decode jdk_56_method_3_code 8 = .ok (.instanceof 12, 3) := by decide +kernel
theorem d15_11 : decode jdk_56_method_3_code 11 = .ok (.ifCond .eq 20, 3) := by decide +kernel
theorem d15_31 : decode jdk_56_method_3_code 31 = .ok (.aload_n 0, 1) := by decide +kernel
theorem d15_32 : decode jdk_56_method_3_code 32 = .ok (.invokeinterface 20 1, 5) := by decide +kernel
theorem d15_37 : decode jdk_56_method_3_code 37 = .ok (.ifCond .eq 7, 3) := by decide +kernel
theorem d15_44 : decode jdk_56_method_3_code 44 = .ok (.aload_n 0, 1) := by decide +kernel
theorem d15_45 : decode jdk_56_method_3_code 45 = .ok (.invokeinterface 30 1, 5) := by decide +kernel
theorem d15_50 : decode jdk_56_method_3_code 50 = .ok (.invokestatic 34, 3) := by decide +kernel
theorem d15_53 : decode jdk_56_method_3_code 53 = .ok (.areturn, 1) := by decide +kernel
theorem pn_15 : plainName "java/util/ImmutableCollections" = true := by first | (simp [plainName, overriddenIn]; done) | decide +kernel
theorem pd___Z : parseMethodDescriptor "()Z" = some ⟨[], some .boolean⟩ := by decide +kernel
theorem pd___Ljava_lang_Object__Ljava_util_List_ : parseMethodDescriptor "([Ljava/lang/Object;)Ljava/util/List;" = some ⟨[(.array (.object "java/lang/Object"))], some (.object "java/util/List")⟩ := by decide +kernel
theorem ef_15 (m : MethodId) (x0 : Addr) : entryFrame m #[(.ref x0)] 2 = mkF m 0 #[rv x0, .unset] [] := by first | (simp [entryFrame, mkF, argsToLocals, Value.category]; done) | rfl
def Q_rm_lc_1 (Z : State) (a1 : Addr) (b : Addr) (mO : Addr) (kb : ClassId) (el0 : Addr) (wM : Addr) (h0 : Heap) (n0 : Nat) : Option Value → Heap → List Loc → Prop := fun v h L => ∃ (nl : Addr), v = some (.ref nl) ∧ Fr n0 L ∧ Keep h0 h [] ∧ h0.size ≤ nl ∧ Exa Z h nl "java/util/ImmutableCollections$List12" ∧ Fld Z h nl "java/util/ImmutableCollections$List12" "e0" "Ljava/lang/Object;" (.ref el0) ∧ Fld Z h nl "java/util/ImmutableCollections$List12" "e1" "Ljava/lang/Object;" (.ref wM)
set_option maxRecDepth 65536 in
set_option maxHeartbeats 40000000 in
theorem rm_lc_1 (l : Launch) (Z : State) (a0 : Array Value) (hw : ∀ d ∈ tables_1, d.before a0 Z = true) (ws : List Jvm.Cond) (a1 : Addr) (b : Addr) (mO : Addr) (kb : ClassId) (el0 : Addr) (wM : Addr) (h0 : Heap) (n0 : Nat) (Z0 : n0 ≤ h0.size) (E_a1 : Exa Z h0 a1 "java/util/ArrayList") (F_a1_elementData : Fld Z h0 a1 "java/util/ArrayList" "elementData" "[Ljava/lang/Object;" (.ref b)) (F_a1_size : Fld Z h0 a1 "java/util/ArrayList" "size" "I" (.int (1 : Int32))) (V_b : Arv Z h0 b kb (.object "java/lang/Object") (10 : Int32) [(.ref el0), .null, .null, .null, .null, .null, .null, .null, .null, .null] .null) (E_b : Exa Z h0 b "[Ljava/lang/Object;") (E_el0 : Exa Z h0 el0 "java/lang/String") (mir_mO : Mir Z "[Ljava/lang/Object;" mO) (hold : Old Z n0 h0) (S_EMPTY : Sta Z Z.heap "java/util/ImmutableCollections" "EMPTY" "Ljava/lang/Object;" (.ref wM)) :
    MetFree l y27_ (head1 (Jvm.Cond.code y27_ jdk_56_method_3_code 2 (some (.object "java/util/List")) :: ws) R19_) (fun a U => a = #[(.ref a1)] ∧ Z.Warmed39 U.vm ∧ U.heap = h0) (fun _ _ _ _ _ => True) (fun _ U o U' => ∃ v L, o = .returned v ∧ (Q_rm_lc_1 Z a1 b mO kb el0 wM h0 n0) v U'.heap L ∧ FrameEnd U o U' L R19_.cells R19_.slots) := by
  refine MetFree.of_bodySF (plainFor_of_name pn_15) hisR ?_
  intro p e s m args below meth c s₁ Bd hml0 hP hK
  obtain ⟨rfl, hZ, hh⟩ := hP
  have hx := Bd.exec
  have hby := Bd.bytes
  have hml : c.maxLocals = 2 := hml0
  have hown : s.vm.findClass "java/util/ImmutableCollections" = some m.cls := findClass_of_methodNamed Bd.named
  have hnm := (name_of_methodNamed Bd.named Bd.method).1
  have X0 : Stand p l e R19_ s m #[(.ref a1)] below meth c s₁ [] 0 0 := Stand.of_body Bd
  have e0 : s₁.heap = h0 := by rw [← hh, Bd.state]; rfl
  have N0 := Fr.nil n0
  show own_G FrameEnd p e below s R19_.cells R19_.slots (Q_rm_lc_1 Z a1 b mO kb el0 wM h0 n0) (s₁.setTop (entryFrame m #[(.ref a1)] 2))
  refine own_go (Y' := s₁.setTop (mkF m 0 #[rv a1, .unset] [])) ?_ (fun t k => castTop (ef_15 m a1) k)
  refine own_go ?_ (fun _ hr => XS.aloadN X0.here hx rfl (hb hby d15_0) rfl rfl hr)
  show own_H (s₁.setTop (mkF m 1 #[rv a1, .unset] [(.ref a1)]))
  obtain ⟨T1, X1, e1, st1⟩ := instNo X0 hx hZ hown (hw _ (tm 102 rfl)) e0 E_a1 (own_notinst hw (hw _ (tm 151 rfl)) (by decide) (by decide) (by decide) (by decide)) (g := (mkF m 1 #[rv a1, .unset] [(.ref a1)])) rfl rfl (hb hby d15_1)
  refine own_go ?_ (fun _ hr => st1 _ (XS.ifNo X1.here hx rfl (hb hby d15_4) rfl ((if0 _ _).trans (teq (by decide : (0 : Int32) = (0 : Int32))).2) (XS.aloadN X1.here hx rfl (hb hby d15_7) rfl rfl hr)))
  show own_H (T1.setTop (mkF m 8 #[rv a1, .unset] [(.ref a1)]))
  obtain ⟨T2, X2, e2, st2⟩ := instNo X1 hx hZ hown (hw _ (tm 107 rfl)) e1 E_a1 (own_notinst hw (hw _ (tm 187 rfl)) (by decide) (by decide) (by decide) (by decide)) (g := (mkF m 8 #[rv a1, .unset] [(.ref a1)])) rfl rfl (hb hby d15_8)
  refine own_go ?_ (fun _ hr => st2 _ (XS.ifYes X2.here hx rfl (pc0 := 11) (pc' := 31) rfl (hb hby d15_11) rfl ((if0 _ _).trans (teq (by decide : (0 : Int32) = (0 : Int32))).1) (by decide) (by decide) (XS.aloadN X2.here hx rfl (hb hby d15_31) rfl rfl hr)))
  show own_H (T2.setTop (mkF m 32 #[rv a1, .unset] [(.ref a1)]))
  obtain ⟨cq3, kq3, q3a, q3b, q3c⟩ := isOf hZ e2 E_a1
  obtain ⟨_, _, ⟨T3, L3, k3, n3⟩, -, X3, ⟨Lc3, hQ3, l3, y3, z3⟩, st3⟩ := X2.interfaceBack hx (xi := y28_) (y := y25_) hown (mvT hZ (hw _ (tm 108 rfl))) (mvT hZ (hw _ (tm 109 rfl))) (mvT hZ (hw _ (tm 110 rfl))) (mvT hZ (hw _ (tm 111 rfl))) (mvT hZ (hw _ (tm 112 rfl))) (mvT hZ (hw _ (tm 113 rfl))) (mvT hZ (hw _ (tm 114 rfl))) (mvT hZ (hw _ (tm 115 rfl))) (by decide) (backOf (W := 0) (rm_isEmpty_1 l Z a0 hw [] a1 h0 n0 Z0 F_a1_size) hZ (hw _ (tm 116 rfl)) (hw _ (tm 28 rfl)) (by decide) (by decide)) q3a q3b q3c (g := (mkF m 32 #[rv a1, .unset] [(.ref a1)])) rfl (by rw [hml]; rfl) (Steps.refl _) (argsL := []) (rest := []) (lenOf pd___Z rfl) rfl (by show 2 * 0 + _ ≤ _; exact Nat.le_of_eq rfl) (hb hby d15_32) (fun _ _ => ⟨rfl, e2, (by decide : 0 + 0 ≤ _), (by decide : 0 + 0 ≤ _)⟩)
  dsimp only [Pt.U, Pt.locs, Pt.cells, Pt.slots] at X3 l3 y3 z3 st3 hQ3
  subst l3 y3 z3
  obtain ⟨rfl, N3q, e3⟩ := hQ3
  have N3 := Fr.app N0 N3q
  refine own_go ?_ (fun _ hr => st3.trans (XS.ifYes X3.here hx rfl (pc0 := 37) (pc' := 44) rfl (hb hby d15_37) rfl ((if0 _ _).trans (teq (by decide : (0 : Int32) = (0 : Int32))).1) (by decide) (by decide) (XS.aloadN X3.here hx rfl (hb hby d15_44) rfl rfl hr)))
  show own_H (T3.setTop (mkF m 45 #[rv a1, .unset] [(.ref a1)]))
  obtain ⟨cq4, kq4, q4a, q4b, q4c⟩ := isOf hZ e3 E_a1
  obtain ⟨_, _, ⟨T4, L4, k4, n4⟩, -, X4, ⟨Lc4, hQ4, l4, y4, z4⟩, st4⟩ := X3.interfaceBack hx (xi := y29_) (y := y24_) hown (mvT hZ (hw _ (tm 117 rfl))) (mvT hZ (hw _ (tm 118 rfl))) (mvT hZ (hw _ (tm 119 rfl))) (mvT hZ (hw _ (tm 120 rfl))) (mvT hZ (hw _ (tm 121 rfl))) (mvT hZ (hw _ (tm 122 rfl))) (mvT hZ (hw _ (tm 123 rfl))) (mvT hZ (hw _ (tm 115 rfl))) (by decide) (backOf (W := 0) (rm_toArray_1 l Z a0 hw [] a1 b mO kb el0 h0 n0 Z0 E_a1 F_a1_elementData F_a1_size V_b E_b E_el0 mir_mO) hZ (hw _ (tm 124 rfl)) (hw _ (tm 28 rfl)) (by decide) (by decide)) q4a q4b q4c (g := (mkF m 45 #[rv a1, .unset] [(.ref a1)])) rfl (by rw [hml]; rfl) (Steps.refl _) (argsL := []) (rest := []) (lenOf pd____Ljava_lang_Object_ rfl) rfl (by show 2 * 0 + _ ≤ _; exact Nat.le_of_eq rfl) (hb hby d15_45) (fun _ _ => ⟨rfl, e3, (by decide : 0 + 1 ≤ _), (by decide : 0 + 1 ≤ _)⟩)
  dsimp only [Pt.U, Pt.locs, Pt.cells, Pt.slots] at X4 l4 y4 z4 st4 hQ4
  subst l4 y4 z4
  obtain ⟨b4_0, kb4_1, rfl, N4q, K4, yb4_0, P4_0, P4_1, P4_2⟩ := hQ4
  have g_b4_0 : n0 ≤ b4_0 := ltr Z0 yb4_0
  have sz_b4_0 : h0.size ≤ b4_0 := ltr (Keep.refl h0 []).1 yb4_0
  have N4 := Fr.app N3 N4q
  refine own_go ?_ (fun _ hr => st4.trans hr)
  show own_H (T4.setTop (mkF m 50 #[rv a1, .unset] [(.ref b4_0)]))
  obtain ⟨_, _, ⟨T5, L5, k5, n5⟩, -, X5, ⟨Lc5, hQ5, l5, y5, z5⟩, st5⟩ := Jvm.LawKit.callS X4 hx (y := y26_) hown (mvT hZ (hw _ (tm 147 rfl))) (mvT hZ (hw _ (tm 148 rfl))) (mvT hZ (hw _ (tm 96 rfl))) (mvT hZ (hw _ (tm 149 rfl))) (by decide) (backOf (W := 0) (rm_of_1 l Z a0 hw [] b4_0 kb4_1 el0 wM T4.heap n0 (ltr Z0 K4.1) P4_0 (E_el0.keep K4) (hold.keep K4 all0) S_EMPTY) hZ (hw _ (tm 149 rfl)) (hw _ (tm 96 rfl)) (by decide) (by decide)) (g := (mkF m 50 #[rv a1, .unset] [(.ref b4_0)])) rfl (by rw [hml]; rfl) (argsL := [(.ref b4_0)]) (rest := []) (lenOf pd___Ljava_lang_Object__Ljava_util_List_ rfl) rfl (by show 2 * 0 + _ ≤ _; exact Nat.le_of_eq rfl) (hb hby d15_50) (fun _ _ => ⟨rfl, rfl, (by decide : 1 + 1 ≤ _), (by decide : 1 + 2 ≤ _)⟩)
  dsimp only [Pt.U, Pt.locs, Pt.cells, Pt.slots] at X5 l5 y5 z5 st5 hQ5
  subst l5 y5 z5
  obtain ⟨b5_0, rfl, N5q, K5, yb5_0, P5_0, P5_1, P5_2⟩ := hQ5
  have g_b5_0 : n0 ≤ b5_0 := ltr (ltr Z0 K4.1) yb5_0
  have sz_b5_0 : h0.size ≤ b5_0 := ltr ((Keep.refl h0 []).trans K4 all0).1 yb5_0
  have N5 := Fr.app N4 N5q
  refine own_go ?_ (fun _ hr => st5 _ hr)
  show own_H (T5.setTop (mkF m 53 #[rv a1, .unset] [(.ref b5_0)]))
  obtain ⟨fs, hr, hrun, hended, hW, hsame⟩ := X5.leave (v := some (.ref b5_0)) (fun h => by rw [Bd.returns] at h; cases h)
  exact ⟨_, _, retOut X5 hx Bd.returns rfl (Or.inr (Or.inr (Or.inr (Or.inr ⟨rfl, rfl, rfl⟩)))) (hb hby d15_53) hr, hrun, hended, _, _, rfl, ⟨b5_0, rfl, N5, (((Keep.refl h0 []).trans K4 all0).trans K5 all0), sz_b5_0, P5_0, P5_1, P5_2⟩, ⟨_, rfl⟩, hW, hsame.mono (by decide) (by decide)⟩
theorem d14_0 : decode jdk_40_method_48_code 0 = .ok (.aload_n 0, 1) := by decide +kernel
theorem d14_1 : decode jdk_40_method_48_code 1 = .ok (.invokestatic 112, 3) := by decide +kernel
theorem d14_4 : decode jdk_40_method_48_code 4 = .ok (.areturn, 1) := by decide +kernel
theorem pn_14 : plainName "java/util/List" = true := by first | (simp [plainName, overriddenIn]; done) | decide +kernel
theorem pd__Ljava_util_Collection__Ljava_util_List_ : parseMethodDescriptor "(Ljava/util/Collection;)Ljava/util/List;" = some ⟨[(.object "java/util/Collection")], some (.object "java/util/List")⟩ := by decide +kernel
theorem ef_14 (m : MethodId) (x0 : Addr) : entryFrame m #[(.ref x0)] 1 = mkF m 0 #[rv x0] [] := by first | (simp [entryFrame, mkF, argsToLocals, Value.category]; done) | rfl
def Q_rm_cp_1 (Z : State) (a1 : Addr) (b : Addr) (mO : Addr) (kb : ClassId) (el0 : Addr) (wM : Addr) (h0 : Heap) (n0 : Nat) : Option Value → Heap → List Loc → Prop := fun v h L => ∃ (nl : Addr), v = some (.ref nl) ∧ Fr n0 L ∧ Keep h0 h [] ∧ h0.size ≤ nl ∧ Exa Z h nl "java/util/ImmutableCollections$List12" ∧ Fld Z h nl "java/util/ImmutableCollections$List12" "e0" "Ljava/lang/Object;" (.ref el0) ∧ Fld Z h nl "java/util/ImmutableCollections$List12" "e1" "Ljava/lang/Object;" (.ref wM)
set_option maxRecDepth 65536 in
set_option maxHeartbeats 40000000 in
theorem rm_cp_1 (l : Launch) (Z : State) (a0 : Array Value) (hw : ∀ d ∈ tables_1, d.before a0 Z = true) (ws : List Jvm.Cond) (a1 : Addr) (b : Addr) (mO : Addr) (kb : ClassId) (el0 : Addr) (wM : Addr) (h0 : Heap) (n0 : Nat) (Z0 : n0 ≤ h0.size) (E_a1 : Exa Z h0 a1 "java/util/ArrayList") (F_a1_elementData : Fld Z h0 a1 "java/util/ArrayList" "elementData" "[Ljava/lang/Object;" (.ref b)) (F_a1_size : Fld Z h0 a1 "java/util/ArrayList" "size" "I" (.int (1 : Int32))) (V_b : Arv Z h0 b kb (.object "java/lang/Object") (10 : Int32) [(.ref el0), .null, .null, .null, .null, .null, .null, .null, .null, .null] .null) (E_b : Exa Z h0 b "[Ljava/lang/Object;") (E_el0 : Exa Z h0 el0 "java/lang/String") (mir_mO : Mir Z "[Ljava/lang/Object;" mO) (hold : Old Z n0 h0) (S_EMPTY : Sta Z Z.heap "java/util/ImmutableCollections" "EMPTY" "Ljava/lang/Object;" (.ref wM)) :
    MetFree l y30_ (head1 (Jvm.Cond.code y30_ jdk_40_method_48_code 1 (some (.object "java/util/List")) :: ws) R20_) (fun a U => a = #[(.ref a1)] ∧ Z.Warmed39 U.vm ∧ U.heap = h0) (fun _ _ _ _ _ => True) (fun _ U o U' => ∃ v L, o = .returned v ∧ (Q_rm_cp_1 Z a1 b mO kb el0 wM h0 n0) v U'.heap L ∧ FrameEnd U o U' L R20_.cells R20_.slots) := by
  refine MetFree.of_bodySF (plainFor_of_name pn_14) hisR ?_
  intro p e s m args below meth c s₁ Bd hml0 hP hK
  obtain ⟨rfl, hZ, hh⟩ := hP
  have hx := Bd.exec
  have hby := Bd.bytes
  have hml : c.maxLocals = 1 := hml0
  have hown : s.vm.findClass "java/util/List" = some m.cls := findClass_of_methodNamed Bd.named
  have hnm := (name_of_methodNamed Bd.named Bd.method).1
  have X0 : Stand p l e R20_ s m #[(.ref a1)] below meth c s₁ [] 0 0 := Stand.of_body Bd
  have e0 : s₁.heap = h0 := by rw [← hh, Bd.state]; rfl
  have N0 := Fr.nil n0
  show own_G FrameEnd p e below s R20_.cells R20_.slots (Q_rm_cp_1 Z a1 b mO kb el0 wM h0 n0) (s₁.setTop (entryFrame m #[(.ref a1)] 1))
  refine own_go (Y' := s₁.setTop (mkF m 0 #[rv a1] [])) ?_ (fun t k => castTop (ef_14 m a1) k)
  refine own_go ?_ (fun _ hr => XS.aloadN X0.here hx rfl (hb hby d14_0) rfl rfl hr)
  show own_H (s₁.setTop (mkF m 1 #[rv a1] [(.ref a1)]))
  obtain ⟨_, _, ⟨T1, L1, k1, n1⟩, -, X1, ⟨Lc1, hQ1, l1, y1, z1⟩, st1⟩ := Jvm.LawKit.callS X0 hx (y := y27_) hown (mvT hZ (hw _ (tm 98 rfl))) (mvT hZ (hw _ (tm 99 rfl))) (mvT hZ (hw _ (tm 100 rfl))) (mvT hZ (hw _ (tm 101 rfl))) (by decide) (backOf (W := 0) (rm_lc_1 l Z a0 hw [] a1 b mO kb el0 wM h0 n0 Z0 E_a1 F_a1_elementData F_a1_size V_b E_b E_el0 mir_mO hold S_EMPTY) hZ (hw _ (tm 101 rfl)) (hw _ (tm 100 rfl)) (by decide) (by decide)) (g := (mkF m 1 #[rv a1] [(.ref a1)])) rfl (by rw [hml]; rfl) (argsL := [(.ref a1)]) (rest := []) (lenOf pd__Ljava_util_Collection__Ljava_util_List_ rfl) rfl (by show 2 * 0 + _ ≤ _; exact Nat.le_of_eq rfl) (hb hby d14_1) (fun _ _ => ⟨rfl, e0, (by decide : 0 + 2 ≤ _), (by decide : 0 + 3 ≤ _)⟩)
  dsimp only [Pt.U, Pt.locs, Pt.cells, Pt.slots] at X1 l1 y1 z1 st1 hQ1
  subst l1 y1 z1
  obtain ⟨b1_0, rfl, N1q, K1, yb1_0, P1_0, P1_1, P1_2⟩ := hQ1
  have g_b1_0 : n0 ≤ b1_0 := ltr Z0 yb1_0
  have sz_b1_0 : h0.size ≤ b1_0 := ltr (Keep.refl h0 []).1 yb1_0
  have N1 := Fr.app N0 N1q
  refine own_go ?_ (fun _ hr => st1 _ hr)
  show own_H (T1.setTop (mkF m 4 #[rv a1] [(.ref b1_0)]))
  obtain ⟨fs, hr, hrun, hended, hW, hsame⟩ := X1.leave (v := some (.ref b1_0)) (fun h => by rw [Bd.returns] at h; cases h)
  exact ⟨_, _, retOut X1 hx Bd.returns rfl (Or.inr (Or.inr (Or.inr (Or.inr ⟨rfl, rfl, rfl⟩)))) (hb hby d14_4) hr, hrun, hended, _, _, rfl, ⟨b1_0, rfl, N1, ((Keep.refl h0 []).trans K1 all0), sz_b1_0, P1_0, P1_1, P1_2⟩, ⟨_, rfl⟩, hW, hsame.mono (by decide) (by decide)⟩
def Q_rm_min_2 (Z : State)  (h0 : Heap) (n0 : Nat) : Option Value → Heap → List Loc → Prop := fun v h L => v = some (.int (2 : Int32)) ∧ Fr n0 L ∧ h = h0
set_option maxRecDepth 65536 in
set_option maxHeartbeats 40000000 in
theorem rm_min_2 (l : Launch) (Z : State) (a0 : Array Value) (hw : ∀ d ∈ tables_1, d.before a0 Z = true) (ws : List Jvm.Cond)  (h0 : Heap) (n0 : Nat) (Z0 : n0 ≤ h0.size) :
    MetFree l y21_ (head1 (Jvm.Cond.code y21_ jdk_29_method_69_code 2 (some .int) :: ws) R0_) (fun a U => a = #[(.int (10 : Int32)), (.int (2 : Int32))] ∧ Z.Warmed39 U.vm ∧ U.heap = h0) (fun _ _ _ _ _ => True) (fun _ U o U' => ∃ v L, o = .returned v ∧ (Q_rm_min_2 Z  h0 n0) v U'.heap L ∧ FrameEnd U o U' L R0_.cells R0_.slots) := by
  refine MetFree.of_bodySF (Jvm.Free.JP.mathPlain rfl (by decide +kernel)) hisR ?_
  intro p e s m args below meth c s₁ Bd hml0 hP hK
  obtain ⟨rfl, hZ, hh⟩ := hP
  have hx := Bd.exec
  have hby := Bd.bytes
  have hml : c.maxLocals = 2 := hml0
  have hown : s.vm.findClass "java/lang/Math" = some m.cls := findClass_of_methodNamed Bd.named
  have hnm := (name_of_methodNamed Bd.named Bd.method).1
  have X0 : Stand p l e R0_ s m #[(.int (10 : Int32)), (.int (2 : Int32))] below meth c s₁ [] 0 0 := Stand.of_body Bd
  have e0 : s₁.heap = h0 := by rw [← hh, Bd.state]; rfl
  have N0 := Fr.nil n0
  show own_G FrameEnd p e below s R0_.cells R0_.slots (Q_rm_min_2 Z  h0 n0) (s₁.setTop (entryFrame m #[(.int (10 : Int32)), (.int (2 : Int32))] 2))
  refine own_go (Y' := s₁.setTop (mkF m 0 #[iv (10 : Int32), iv (2 : Int32)] [])) ?_ (fun t k => castTop (ef_20 m (10 : Int32) (2 : Int32)) k)
  refine own_go ?_ (fun _ hr => XS.iloadN X0.here hx rfl (hb hby d20_0) rfl (XS.iloadN X0.here hx rfl (hb hby d20_1) rfl (XS.icmpYes X0.here hx rfl (pc0 := 2) (pc' := 9) rfl (hb hby d20_2) rfl (tlt (by decide : (2 : Int32) < (10 : Int32))).2.2.1 (by decide) (by decide) (XS.iloadN X0.here hx rfl (hb hby d20_9) rfl hr))))
  show own_H (s₁.setTop (mkF m 10 #[iv (10 : Int32), iv (2 : Int32)] [(.int (2 : Int32))]))
  obtain ⟨fs, hr, hrun, hended, hW, hsame⟩ := X0.leave (v := some (.int (2 : Int32))) (fun h => by rw [Bd.returns] at h; cases h)
  exact ⟨_, _, retI X0 hx Bd.returns (hb hby d20_10) hr, hrun, hended, _, _, rfl, ⟨rfl, N0, e0⟩, ⟨_, rfl⟩, hW, hsame.mono (by decide) (by decide)⟩
def Q_rm_copy3_2 (Z : State) (b : Addr) (mO : Addr) (kb : ClassId) (el0 : Addr) (el1 : Addr) (h0 : Heap) (n0 : Nat) : Option Value → Heap → List Loc → Prop := fun v h L => ∃ (nb : Addr) (nk : ClassId), v = some (.ref nb) ∧ Fr n0 L ∧ Keep h0 h [] ∧ h0.size ≤ nb ∧ Arv Z h nb nk (.object "java/lang/Object") (2 : Int32) [(.ref el0), (.ref el1)] .null ∧ Exa Z h nb "[Ljava/lang/Object;" ∧ Ovr Z nk "java/lang/Object"
set_option maxRecDepth 65536 in
set_option maxHeartbeats 40000000 in
theorem rm_copy3_2 (l : Launch) (Z : State) (a0 : Array Value) (hw : ∀ d ∈ tables_1, d.before a0 Z = true) (ws : List Jvm.Cond) (b : Addr) (mO : Addr) (kb : ClassId) (el0 : Addr) (el1 : Addr) (h0 : Heap) (n0 : Nat) (Z0 : n0 ≤ h0.size) (V_b : Arv Z h0 b kb (.object "java/lang/Object") (10 : Int32) [(.ref el0), (.ref el1), .null, .null, .null, .null, .null, .null, .null, .null] .null) (E_b : Exa Z h0 b "[Ljava/lang/Object;") (E_el0 : Exa Z h0 el0 "java/lang/String") (E_el1 : Exa Z h0 el1 "java/lang/String") (mir_mO : Mir Z "[Ljava/lang/Object;" mO) :
    MetFree l y22_ (head1 (Jvm.Cond.code y22_ jdk_65_method_120_code 4 (some (.array (.object "java/lang/Object"))) :: ws) R21_) (fun a U => a = #[(.ref b), (.int (2 : Int32)), (.ref mO)] ∧ Z.Warmed39 U.vm ∧ U.heap = h0) (fun _ _ _ _ _ => True) (fun _ U o U' => ∃ v L, o = .returned v ∧ (Q_rm_copy3_2 Z b mO kb el0 el1 h0 n0) v U'.heap L ∧ FrameEnd U o U' L R21_.cells R21_.slots) := by
  refine MetFree.of_bodySF (plainFor_of_name pn_19) hisR ?_
  intro p e s m args below meth c s₁ Bd hml0 hP hK
  obtain ⟨rfl, hZ, hh⟩ := hP
  have hx := Bd.exec
  have hby := Bd.bytes
  have hml : c.maxLocals = 4 := hml0
  have hown : s.vm.findClass "java/util/Arrays" = some m.cls := findClass_of_methodNamed Bd.named
  have hnm := (name_of_methodNamed Bd.named Bd.method).1
  have X0 : Stand p l e R21_ s m #[(.ref b), (.int (2 : Int32)), (.ref mO)] below meth c s₁ [] 0 0 := Stand.of_body Bd
  have e0 : s₁.heap = h0 := by rw [← hh, Bd.state]; rfl
  have N0 := Fr.nil n0
  show own_G FrameEnd p e below s R21_.cells R21_.slots (Q_rm_copy3_2 Z b mO kb el0 el1 h0 n0) (s₁.setTop (entryFrame m #[(.ref b), (.int (2 : Int32)), (.ref mO)] 4))
  refine own_go (Y' := s₁.setTop (mkF m 0 #[rv b, iv (2 : Int32), rv mO, .unset] [])) ?_ (fun t k => castTop (ef_19 m b (2 : Int32) mO) k)
  refine own_go ?_ (fun _ hr => XS.aloadN X0.here hx rfl (hb hby d19_0) rfl rfl hr)
  show own_H (s₁.setTop (mkF m 1 #[rv b, iv (2 : Int32), rv mO, .unset] [(.ref mO)]))
  obtain ⟨vm1, X1, st1⟩ := X0.ldcMirror hx hown (mvT hZ (hw _ (tm 138 rfl))) (own_mir hZ mir_mO) (g := (mkF m 1 #[rv b, iv (2 : Int32), rv mO, .unset] [(.ref mO)])) rfl (hb hby d19_1)
  refine own_go ?_ (fun _ hr => st1 _ (Jvm.RoadKit.acmp (g := (mkF m 3 #[rv b, iv (2 : Int32), rv mO, .unset] [(.ref mO), (.ref mO)])) X1 hx rfl rfl rfl (pc0 := 3) (pc' := 6) (same := true) rfl (hb hby d19_3) rfl (decide_eq_true rfl) (by decide) (by decide) (XS.iloadN X1.here hx rfl (hb hby d19_6) rfl hr)))
  show own_H ((s₁.setVm vm1).setTop (mkF m 7 #[rv b, iv (2 : Int32), rv mO, .unset] [(.int (2 : Int32))]))
  obtain ⟨T2, h2, k2, X2, e2, E2, A2, B2, O2, st2⟩ := newRE X1 hx hZ hown (hw _ (tm 139 rfl)) (hw _ (tm 79 rfl)) e0 (g := (mkF m 7 #[rv b, iv (2 : Int32), rv mO, .unset] [(.int (2 : Int32))])) rfl (hb hby d19_7) rfl (by decide) (cap := 2) (by decide) (by decide) (by decide) (by decide) (ad := "[Ljava/lang/Object;") (by decide)
  obtain ⟨b2, g2⟩ : ∃ z, z = h0.size := ⟨_, rfl⟩
  rw [← g2] at A2 B2 st2
  have V2 : Arv Z h2 b2 k2 (.object "java/lang/Object") (2 : Int32) [.null, .null] .null := (Arv.new A2 (by decide)).pad (pad_rep [] .null 2)
  have g_b2 : n0 ≤ b2 := ltr Z0 (leq g2.symm)
  have sz_b2 : h0.size ≤ b2 := ltr (Keep.refl h0 []).1 (leq g2.symm)
  refine own_go ?_ (fun _ hr => st2 _ (XS.goto X2.here hx rfl (pc0 := 10) (pc' := 24) rfl (hb hby d19_10) (by decide) (by decide) (XS.astoreN X2.here hx rfl (hb hby d19_24) rfl rfl (l' := #[rv b, iv (2 : Int32), rv mO, rv b2]) rfl (XS.aloadN X2.here hx rfl (hb hby d19_25) rfl rfl (XS.iconst X2.here hx rfl (hb hby d19_26) (XS.aloadN X2.here hx rfl (hb hby d19_27) rfl rfl (XS.iconst X2.here hx rfl (hb hby d19_28) (XS.aloadN X2.here hx rfl (hb hby d19_29) rfl rfl hr))))))))
  show own_H (T2.setTop (mkF m 30 #[rv b, iv (2 : Int32), rv mO, rv b2] [(.ref b), (.int (0 : Int32)), (.ref b2), (.int (0 : Int32)), (.ref b)]))
  obtain ⟨cl3, Ar3, -, S3, M3, -, -⟩ := id (V_b.ext E2)
  refine own_go ?_ (fun _ hr => X2.arraylength hx (by rw [e2]; exact Ar3.1) (State.isArrayOf_alike hZ.alike Ar3.2.1) (g := (mkF m 30 #[rv b, iv (2 : Int32), rv mO, rv b2] [(.ref b), (.int (0 : Int32)), (.ref b2), (.int (0 : Int32)), (.ref b)])) rfl rfl (hb hby d19_30) _ hr)
  rw [len_of S3 M3]
  show own_H (T2.setTop (mkF m 31 #[rv b, iv (2 : Int32), rv mO, rv b2] [(.int (10 : Int32)), (.int (0 : Int32)), (.ref b2), (.int (0 : Int32)), (.ref b)]))
  refine own_go ?_ (fun _ hr => XS.iloadN X2.here hx rfl (hb hby d19_31) rfl hr)
  show own_H (T2.setTop (mkF m 32 #[rv b, iv (2 : Int32), rv mO, rv b2] [(.int (2 : Int32)), (.int (10 : Int32)), (.int (0 : Int32)), (.ref b2), (.int (0 : Int32)), (.ref b)]))
  obtain ⟨_, _, ⟨T4, L4, k4, n4⟩, -, X4, ⟨Lc4, hQ4, l4, y4, z4⟩, st4⟩ := Jvm.LawKit.callS X2 hx (y := y21_) hown (mvT hZ (hw _ (tm 140 rfl))) (mvT hZ (hw _ (tm 141 rfl))) (mvT hZ (hw _ (tm 76 rfl))) (mvT hZ (hw _ (tm 142 rfl))) (by decide) (backOf (W := 4) (rm_min_2 l Z a0 hw []  h2 n0 (ltr Z0 E2.1) ) hZ (hw _ (tm 142 rfl)) (hw _ (tm 76 rfl)) (by decide) (by decide)) (g := (mkF m 32 #[rv b, iv (2 : Int32), rv mO, rv b2] [(.int (2 : Int32)), (.int (10 : Int32)), (.int (0 : Int32)), (.ref b2), (.int (0 : Int32)), (.ref b)])) rfl (by rw [hml]; rfl) (argsL := [(.int (10 : Int32)), (.int (2 : Int32))]) (rest := [(.int (0 : Int32)), (.ref b2), (.int (0 : Int32)), (.ref b)]) (lenOf pd__II_I rfl) rfl (by show 2 * 0 + _ ≤ _; exact Nat.le_of_eq rfl) (hb hby d19_32) (fun _ _ => ⟨rfl, e2, (by decide : 1 + 0 ≤ _), (by decide : 2 + 0 ≤ _)⟩)
  dsimp only [Pt.U, Pt.locs, Pt.cells, Pt.slots] at X4 l4 y4 z4 st4 hQ4
  subst l4 y4 z4
  obtain ⟨rfl, N4q, e4⟩ := hQ4
  have N4 := Fr.app N0 N4q
  refine own_go ?_ (fun _ hr => st4 _ hr)
  show own_H (T4.setTop (mkF m 35 #[rv b, iv (2 : Int32), rv mO, rv b2] [(.int (2 : Int32)), (.int (0 : Int32)), (.ref b2), (.int (0 : Int32)), (.ref b)]))
  obtain ⟨cb5, Ab5, qb5, -⟩ := id V2
  obtain ⟨T5, h5, L5, X5, e5, N5, K5, V5, st5⟩ := cpA X4 hx hZ hown (hw _ (tm 143 rfl)) (hw _ (tm 146 rfl)) (hw _ (tm 144 rfl)) (hw _ (tm 145 rfl)) e4 (V_b.ext E2) V2 (us := [(.ref el0), (.ref el1)]) (Or.inr ⟨rfl, rfl, ⟨Sto.ofV Ab5 qb5 O2 (Ins.of_exa (E_el0.ext E2) (hw _ (tm 80 rfl))), ⟨Sto.ofV Ab5 qb5 O2 (Ins.of_exa (E_el1.ext E2) (hw _ (tm 80 rfl))), trivial⟩⟩⟩) (by decide) (by decide) (by decide) (by decide) (by decide) rfl (by decide) N4 g_b2 (g := (mkF m 35 #[rv b, iv (2 : Int32), rv mO, rv b2] [(.int (2 : Int32)), (.int (0 : Int32)), (.ref b2), (.int (0 : Int32)), (.ref b)])) rfl (by rw [hml]; rfl) rfl (hb hby d19_35) (by decide) (W := 0) (by show 2 * 0 + _ ≤ _; exact Nat.le_of_eq rfl) (by decide)
  have V5a : Arv Z h5 b2 k2 (.object "java/lang/Object") (2 : Int32) [(.ref el0), (.ref el1)] .null := V5
  refine own_go ?_ (fun _ hr => st5 _ (XS.aloadN X5.here hx rfl (hb hby d19_38) rfl rfl hr))
  show own_H (T5.setTop (mkF m 39 #[rv b, iv (2 : Int32), rv mO, rv b2] [(.ref b2)]))
  obtain ⟨fs, hr, hrun, hended, hW, hsame⟩ := X5.leave (v := some (.ref b2)) (fun h => by rw [Bd.returns] at h; cases h)
  exact ⟨_, _, retOut X5 hx Bd.returns rfl (Or.inr (Or.inr (Or.inr (Or.inr ⟨rfl, rfl, rfl⟩)))) (hb hby d19_39) hr, hrun, hended, _, _, rfl, (by rw [show (T5.setFrames fs).heap = h5 from e5]; exact ⟨b2, k2, rfl, N5, (((Keep.refl h0 []).ext E2).trans K5 (allS (Or.inr sz_b2) all0)), sz_b2, V5a, (B2.keep K5), O2⟩), ⟨_, rfl⟩, hW, hsame.mono (by decide) (by decide)⟩
def Q_rm_copy2_2 (Z : State) (b : Addr) (mO : Addr) (kb : ClassId) (el0 : Addr) (el1 : Addr) (h0 : Heap) (n0 : Nat) : Option Value → Heap → List Loc → Prop := fun v h L => ∃ (nb : Addr) (nk : ClassId), v = some (.ref nb) ∧ Fr n0 L ∧ Keep h0 h [] ∧ h0.size ≤ nb ∧ Arv Z h nb nk (.object "java/lang/Object") (2 : Int32) [(.ref el0), (.ref el1)] .null ∧ Exa Z h nb "[Ljava/lang/Object;" ∧ Ovr Z nk "java/lang/Object"
set_option maxRecDepth 65536 in
set_option maxHeartbeats 40000000 in
theorem rm_copy2_2 (l : Launch) (Z : State) (a0 : Array Value) (hw : ∀ d ∈ tables_1, d.before a0 Z = true) (ws : List Jvm.Cond) (b : Addr) (mO : Addr) (kb : ClassId) (el0 : Addr) (el1 : Addr) (h0 : Heap) (n0 : Nat) (Z0 : n0 ≤ h0.size) (V_b : Arv Z h0 b kb (.object "java/lang/Object") (10 : Int32) [(.ref el0), (.ref el1), .null, .null, .null, .null, .null, .null, .null, .null] .null) (E_b : Exa Z h0 b "[Ljava/lang/Object;") (E_el0 : Exa Z h0 el0 "java/lang/String") (E_el1 : Exa Z h0 el1 "java/lang/String") (mir_mO : Mir Z "[Ljava/lang/Object;" mO) :
    MetFree l y23_ (head1 (Jvm.Cond.code y23_ jdk_65_method_119_code 2 (some (.array (.object "java/lang/Object"))) :: ws) R22_) (fun a U => a = #[(.ref b), (.int (2 : Int32))] ∧ Z.Warmed39 U.vm ∧ U.heap = h0) (fun _ _ _ _ _ => True) (fun _ U o U' => ∃ v L, o = .returned v ∧ (Q_rm_copy2_2 Z b mO kb el0 el1 h0 n0) v U'.heap L ∧ FrameEnd U o U' L R22_.cells R22_.slots) := by
  refine MetFree.of_bodySF (plainFor_of_name pn_18) hisR ?_
  intro p e s m args below meth c s₁ Bd hml0 hP hK
  obtain ⟨rfl, hZ, hh⟩ := hP
  have hx := Bd.exec
  have hby := Bd.bytes
  have hml : c.maxLocals = 2 := hml0
  have hown : s.vm.findClass "java/util/Arrays" = some m.cls := findClass_of_methodNamed Bd.named
  have hnm := (name_of_methodNamed Bd.named Bd.method).1
  have X0 : Stand p l e R22_ s m #[(.ref b), (.int (2 : Int32))] below meth c s₁ [] 0 0 := Stand.of_body Bd
  have e0 : s₁.heap = h0 := by rw [← hh, Bd.state]; rfl
  have N0 := Fr.nil n0
  show own_G FrameEnd p e below s R22_.cells R22_.slots (Q_rm_copy2_2 Z b mO kb el0 el1 h0 n0) (s₁.setTop (entryFrame m #[(.ref b), (.int (2 : Int32))] 2))
  refine own_go (Y' := s₁.setTop (mkF m 0 #[rv b, iv (2 : Int32)] [])) ?_ (fun t k => castTop (ef_18 m b (2 : Int32)) k)
  refine own_go ?_ (fun _ hr => XS.aloadN X0.here hx rfl (hb hby d18_0) rfl rfl (XS.iloadN X0.here hx rfl (hb hby d18_1) rfl (XS.aloadN X0.here hx rfl (hb hby d18_2) rfl rfl hr)))
  show own_H (s₁.setTop (mkF m 3 #[rv b, iv (2 : Int32)] [(.ref b), (.int (2 : Int32)), (.ref b)]))
  obtain ⟨T1, X1, e1, st1⟩ := gcls X0 hx hZ hown (hw _ (tm 129 rfl)) (hw _ (tm 130 rfl)) (hw _ (tm 106 rfl)) (hw _ (tm 132 rfl)) (hw _ (tm 131 rfl)) (hw _ (tm 133 rfl)) e0 E_b mir_mO (g := (mkF m 3 #[rv b, iv (2 : Int32)] [(.ref b), (.int (2 : Int32)), (.ref b)])) rfl (by rw [hml]; rfl) rfl (hb hby d18_3) (by decide) (W := 2) (by show 2 * 0 + _ ≤ _; exact Nat.le_of_eq rfl) (by decide)
  refine own_go ?_ (fun _ hr => st1 _ hr)
  show own_H (T1.setTop (mkF m 6 #[rv b, iv (2 : Int32)] [(.ref mO), (.int (2 : Int32)), (.ref b)]))
  obtain ⟨_, _, ⟨T2, L2, k2, n2⟩, -, X2, ⟨Lc2, hQ2, l2, y2, z2⟩, st2⟩ := Jvm.LawKit.callS X1 hx (y := y22_) hown (mvT hZ (hw _ (tm 135 rfl))) (mvT hZ (hw _ (tm 136 rfl))) (mvT hZ (hw _ (tm 127 rfl))) (mvT hZ (hw _ (tm 137 rfl))) (by decide) (backOf (W := 0) (rm_copy3_2 l Z a0 hw [] b mO kb el0 el1 h0 n0 Z0 V_b E_b E_el0 E_el1 mir_mO) hZ (hw _ (tm 137 rfl)) (hw _ (tm 127 rfl)) (by decide) (by decide)) (g := (mkF m 6 #[rv b, iv (2 : Int32)] [(.ref mO), (.int (2 : Int32)), (.ref b)])) rfl (by rw [hml]; rfl) (argsL := [(.ref b), (.int (2 : Int32)), (.ref mO)]) (rest := []) (lenOf pd___Ljava_lang_Object_ILjava_lang_Class___Ljava_lang_Object_ rfl) rfl (by show 2 * 0 + _ ≤ _; exact Nat.le_of_eq rfl) (hb hby d18_6) (fun _ _ => ⟨rfl, e1, (by decide : 0 + 1 ≤ _), (by decide : 0 + 2 ≤ _)⟩)
  dsimp only [Pt.U, Pt.locs, Pt.cells, Pt.slots] at X2 l2 y2 z2 st2 hQ2
  subst l2 y2 z2
  obtain ⟨b2_0, kb2_1, rfl, N2q, K2, yb2_0, P2_0, P2_1, P2_2⟩ := hQ2
  have g_b2_0 : n0 ≤ b2_0 := ltr Z0 yb2_0
  have sz_b2_0 : h0.size ≤ b2_0 := ltr (Keep.refl h0 []).1 yb2_0
  have N2 := Fr.app N0 N2q
  refine own_go ?_ (fun _ hr => st2 _ hr)
  show own_H (T2.setTop (mkF m 9 #[rv b, iv (2 : Int32)] [(.ref b2_0)]))
  obtain ⟨fs, hr, hrun, hended, hW, hsame⟩ := X2.leave (v := some (.ref b2_0)) (fun h => by rw [Bd.returns] at h; cases h)
  exact ⟨_, _, retOut X2 hx Bd.returns rfl (Or.inr (Or.inr (Or.inr (Or.inr ⟨rfl, rfl, rfl⟩)))) (hb hby d18_9) hr, hrun, hended, _, _, rfl, ⟨b2_0, kb2_1, rfl, N2, ((Keep.refl h0 []).trans K2 all0), sz_b2_0, P2_0, P2_1, P2_2⟩, ⟨_, rfl⟩, hW, hsame.mono (by decide) (by decide)⟩
def Q_rm_toArray_2 (Z : State) (a1 : Addr) (b : Addr) (mO : Addr) (kb : ClassId) (el0 : Addr) (el1 : Addr) (h0 : Heap) (n0 : Nat) : Option Value → Heap → List Loc → Prop := fun v h L => ∃ (nb : Addr) (nk : ClassId), v = some (.ref nb) ∧ Fr n0 L ∧ Keep h0 h [] ∧ h0.size ≤ nb ∧ Arv Z h nb nk (.object "java/lang/Object") (2 : Int32) [(.ref el0), (.ref el1)] .null ∧ Exa Z h nb "[Ljava/lang/Object;" ∧ Ovr Z nk "java/lang/Object"
set_option maxRecDepth 65536 in
set_option maxHeartbeats 40000000 in
theorem rm_toArray_2 (l : Launch) (Z : State) (a0 : Array Value) (hw : ∀ d ∈ tables_1, d.before a0 Z = true) (ws : List Jvm.Cond) (a1 : Addr) (b : Addr) (mO : Addr) (kb : ClassId) (el0 : Addr) (el1 : Addr) (h0 : Heap) (n0 : Nat) (Z0 : n0 ≤ h0.size) (E_a1 : Exa Z h0 a1 "java/util/ArrayList") (F_a1_elementData : Fld Z h0 a1 "java/util/ArrayList" "elementData" "[Ljava/lang/Object;" (.ref b)) (F_a1_size : Fld Z h0 a1 "java/util/ArrayList" "size" "I" (.int (2 : Int32))) (V_b : Arv Z h0 b kb (.object "java/lang/Object") (10 : Int32) [(.ref el0), (.ref el1), .null, .null, .null, .null, .null, .null, .null, .null] .null) (E_b : Exa Z h0 b "[Ljava/lang/Object;") (E_el0 : Exa Z h0 el0 "java/lang/String") (E_el1 : Exa Z h0 el1 "java/lang/String") (mir_mO : Mir Z "[Ljava/lang/Object;" mO) :
    MetFree l y24_ (head1 (Jvm.Cond.code y24_ jdk_38_method_16_code 1 (some (.array (.object "java/lang/Object"))) :: ws) R23_) (fun a U => a = #[(.ref a1)] ∧ Z.Warmed39 U.vm ∧ U.heap = h0) (fun _ _ _ _ _ => True) (fun _ U o U' => ∃ v L, o = .returned v ∧ (Q_rm_toArray_2 Z a1 b mO kb el0 el1 h0 n0) v U'.heap L ∧ FrameEnd U o U' L R23_.cells R23_.slots) := by
  refine MetFree.of_bodySF (plainFor_of_name pn_17) hisR ?_
  intro p e s m args below meth c s₁ Bd hml0 hP hK
  obtain ⟨rfl, hZ, hh⟩ := hP
  have hx := Bd.exec
  have hby := Bd.bytes
  have hml : c.maxLocals = 1 := hml0
  have hown : s.vm.findClass "java/util/ArrayList" = some m.cls := findClass_of_methodNamed Bd.named
  have hnm := (name_of_methodNamed Bd.named Bd.method).1
  have X0 : Stand p l e R23_ s m #[(.ref a1)] below meth c s₁ [] 0 0 := Stand.of_body Bd
  have e0 : s₁.heap = h0 := by rw [← hh, Bd.state]; rfl
  have N0 := Fr.nil n0
  show own_G FrameEnd p e below s R23_.cells R23_.slots (Q_rm_toArray_2 Z a1 b mO kb el0 el1 h0 n0) (s₁.setTop (entryFrame m #[(.ref a1)] 1))
  refine own_go (Y' := s₁.setTop (mkF m 0 #[rv a1] [])) ?_ (fun t k => castTop (ef_17 m a1) k)
  refine own_go ?_ (fun _ hr => XS.aloadN X0.here hx rfl (hb hby d17_0) rfl rfl hr)
  show own_H (s₁.setTop (mkF m 1 #[rv a1] [(.ref a1)]))
  obtain ⟨T1, X1, e1, st1⟩ := getF X0 hx hZ hown (host := "") (Or.inl (hw _ (tm 48 rfl))) Via.refl e0 F_a1_elementData (g := (mkF m 1 #[rv a1] [(.ref a1)])) rfl rfl (hb hby d17_1)
  refine own_go ?_ (fun _ hr => st1 _ (XS.aloadN X1.here hx rfl (hb hby d17_4) rfl rfl hr))
  show own_H (T1.setTop (mkF m 5 #[rv a1] [(.ref a1), (.ref b)]))
  obtain ⟨T2, X2, e2, st2⟩ := getF X1 hx hZ hown (host := "") (Or.inl (hw _ (tm 57 rfl))) Via.refl e1 F_a1_size (g := (mkF m 5 #[rv a1] [(.ref a1), (.ref b)])) rfl rfl (hb hby d17_5)
  refine own_go ?_ (fun _ hr => st2 _ hr)
  show own_H (T2.setTop (mkF m 8 #[rv a1] [(.int (2 : Int32)), (.ref b)]))
  obtain ⟨_, _, ⟨T3, L3, k3, n3⟩, -, X3, ⟨Lc3, hQ3, l3, y3, z3⟩, st3⟩ := Jvm.LawKit.callS X2 hx (y := y23_) hown (mvT hZ (hw _ (tm 125 rfl))) (mvT hZ (hw _ (tm 126 rfl))) (mvT hZ (hw _ (tm 127 rfl))) (mvT hZ (hw _ (tm 128 rfl))) (by decide) (backOf (W := 0) (rm_copy2_2 l Z a0 hw [] b mO kb el0 el1 h0 n0 Z0 V_b E_b E_el0 E_el1 mir_mO) hZ (hw _ (tm 128 rfl)) (hw _ (tm 127 rfl)) (by decide) (by decide)) (g := (mkF m 8 #[rv a1] [(.int (2 : Int32)), (.ref b)])) rfl (by rw [hml]; rfl) (argsL := [(.ref b), (.int (2 : Int32))]) (rest := []) (lenOf pd___Ljava_lang_Object_I__Ljava_lang_Object_ rfl) rfl (by show 2 * 0 + _ ≤ _; exact Nat.le_of_eq rfl) (hb hby d17_8) (fun _ _ => ⟨rfl, e2, (by decide : 0 + 1 ≤ _), (by decide : 0 + 2 ≤ _)⟩)
  dsimp only [Pt.U, Pt.locs, Pt.cells, Pt.slots] at X3 l3 y3 z3 st3 hQ3
  subst l3 y3 z3
  obtain ⟨b3_0, kb3_1, rfl, N3q, K3, yb3_0, P3_0, P3_1, P3_2⟩ := hQ3
  have g_b3_0 : n0 ≤ b3_0 := ltr Z0 yb3_0
  have sz_b3_0 : h0.size ≤ b3_0 := ltr (Keep.refl h0 []).1 yb3_0
  have N3 := Fr.app N0 N3q
  refine own_go ?_ (fun _ hr => st3 _ hr)
  show own_H (T3.setTop (mkF m 11 #[rv a1] [(.ref b3_0)]))
  obtain ⟨fs, hr, hrun, hended, hW, hsame⟩ := X3.leave (v := some (.ref b3_0)) (fun h => by rw [Bd.returns] at h; cases h)
  exact ⟨_, _, retOut X3 hx Bd.returns rfl (Or.inr (Or.inr (Or.inr (Or.inr ⟨rfl, rfl, rfl⟩)))) (hb hby d17_11) hr, hrun, hended, _, _, rfl, ⟨b3_0, kb3_1, rfl, N3, ((Keep.refl h0 []).trans K3 all0), sz_b3_0, P3_0, P3_1, P3_2⟩, ⟨_, rfl⟩, hW, hsame.mono (by decide) (by decide)⟩
def Q_rm_isEmpty_2 (Z : State) (a1 : Addr) (h0 : Heap) (n0 : Nat) : Option Value → Heap → List Loc → Prop := fun v h L => v = some (.int (0 : Int32)) ∧ Fr n0 L ∧ h = h0
set_option maxRecDepth 65536 in
set_option maxHeartbeats 40000000 in
theorem rm_isEmpty_2 (l : Launch) (Z : State) (a0 : Array Value) (hw : ∀ d ∈ tables_1, d.before a0 Z = true) (ws : List Jvm.Cond) (a1 : Addr) (h0 : Heap) (n0 : Nat) (Z0 : n0 ≤ h0.size) (F_a1_size : Fld Z h0 a1 "java/util/ArrayList" "size" "I" (.int (2 : Int32))) :
    MetFree l y25_ (head1 (Jvm.Cond.code y25_ jdk_38_method_9_code 1 (some .boolean) :: ws) R0_) (fun a U => a = #[(.ref a1)] ∧ Z.Warmed39 U.vm ∧ U.heap = h0) (fun _ _ _ _ _ => True) (fun _ U o U' => ∃ v L, o = .returned v ∧ (Q_rm_isEmpty_2 Z a1 h0 n0) v U'.heap L ∧ FrameEnd U o U' L R0_.cells R0_.slots) := by
  refine MetFree.of_bodySF (plainFor_of_name pn_16) hisR ?_
  intro p e s m args below meth c s₁ Bd hml0 hP hK
  obtain ⟨rfl, hZ, hh⟩ := hP
  have hx := Bd.exec
  have hby := Bd.bytes
  have hml : c.maxLocals = 1 := hml0
  have hown : s.vm.findClass "java/util/ArrayList" = some m.cls := findClass_of_methodNamed Bd.named
  have hnm := (name_of_methodNamed Bd.named Bd.method).1
  have X0 : Stand p l e R0_ s m #[(.ref a1)] below meth c s₁ [] 0 0 := Stand.of_body Bd
  have e0 : s₁.heap = h0 := by rw [← hh, Bd.state]; rfl
  have N0 := Fr.nil n0
  show own_G FrameEnd p e below s R0_.cells R0_.slots (Q_rm_isEmpty_2 Z a1 h0 n0) (s₁.setTop (entryFrame m #[(.ref a1)] 1))
  refine own_go (Y' := s₁.setTop (mkF m 0 #[rv a1] [])) ?_ (fun t k => castTop (ef_16 m a1) k)
  refine own_go ?_ (fun _ hr => XS.aloadN X0.here hx rfl (hb hby d16_0) rfl rfl hr)
  show own_H (s₁.setTop (mkF m 1 #[rv a1] [(.ref a1)]))
  obtain ⟨T1, X1, e1, st1⟩ := getF X0 hx hZ hown (host := "") (Or.inl (hw _ (tm 57 rfl))) Via.refl e0 F_a1_size (g := (mkF m 1 #[rv a1] [(.ref a1)])) rfl rfl (hb hby d16_1)
  refine own_go ?_ (fun _ hr => st1 _ (XS.ifYes X1.here hx rfl (pc0 := 4) (pc' := 11) rfl (hb hby d16_4) rfl ((if0 _ _).trans (feq (by decide : ¬ ((2 : Int32) = (0 : Int32)))).2) (by decide) (by decide) (XS.iconst X1.here hx rfl (hb hby d16_11) hr)))
  show own_H (T1.setTop (mkF m 12 #[rv a1] [(.int (0 : Int32))]))
  obtain ⟨fs, hr, hrun, hended, hW, hsame⟩ := X1.leave (v := some (.int (0 : Int32))) (fun h => by rw [Bd.returns] at h; cases h)
  exact ⟨_, _, retN X1 hx (t := .boolean) Bd.returns (by simp) (hb hby d16_12) hr, hrun, hended, _, _, rfl, ⟨rfl, N0, e1⟩, ⟨_, rfl⟩, hW, hsame.mono (by decide) (by decide)⟩
theorem d21_45 : decode jdk_40_method_47_code 45 = .ok (.new 96, 3) := by decide +kernel
theorem d21_48 : decode jdk_40_method_47_code 48 = .ok (.dup, 1) := by decide +kernel
theorem d21_49 : decode jdk_40_method_47_code 49 = .ok (.aload_n 0, 1) := by decide +kernel
theorem d21_50 : decode jdk_40_method_47_code 50 = .ok (.iconst 0, 1) := by decide +kernel
theorem d21_51 : decode jdk_40_method_47_code 51 = .ok (.aaload, 1) := by decide +kernel
theorem d21_52 : decode jdk_40_method_47_code 52 = .ok (.aload_n 0, 1) := by decide +kernel
theorem d21_53 : decode jdk_40_method_47_code 53 = .ok (.iconst 1, 1) := by decide +kernel
theorem d21_54 : decode jdk_40_method_47_code 54 = .ok (.aaload, 1) := by decide +kernel
theorem d21_55 : decode jdk_40_method_47_code 55 = .ok (.invokespecial 100, 3) := by decide +kernel
theorem d21_58 : decode jdk_40_method_47_code 58 = .ok (.areturn, 1) := by decide +kernel
theorem pd__Ljava_lang_Object_Ljava_lang_Object__V : parseMethodDescriptor "(Ljava/lang/Object;Ljava/lang/Object;)V" = some ⟨[(.object "java/lang/Object"), (.object "java/lang/Object")], none⟩ := by decide +kernel
def Q_rm_of_2 (Z : State) (a1 : Addr) (ka : ClassId) (el0 : Addr) (el1 : Addr) (h0 : Heap) (n0 : Nat) : Option Value → Heap → List Loc → Prop := fun v h L => ∃ (nl : Addr), v = some (.ref nl) ∧ Fr n0 L ∧ Keep h0 h [] ∧ h0.size ≤ nl ∧ Exa Z h nl "java/util/ImmutableCollections$List12" ∧ Fld Z h nl "java/util/ImmutableCollections$List12" "e0" "Ljava/lang/Object;" (.ref el0) ∧ Fld Z h nl "java/util/ImmutableCollections$List12" "e1" "Ljava/lang/Object;" (.ref el1)
set_option maxRecDepth 65536 in
set_option maxHeartbeats 40000000 in
theorem rm_of_2 (l : Launch) (Z : State) (a0 : Array Value) (hw : ∀ d ∈ tables_1, d.before a0 Z = true) (ws : List Jvm.Cond) (a1 : Addr) (ka : ClassId) (el0 : Addr) (el1 : Addr) (h0 : Heap) (n0 : Nat) (Z0 : n0 ≤ h0.size) (V_a1 : Arv Z h0 a1 ka (.object "java/lang/Object") (2 : Int32) [(.ref el0), (.ref el1)] .null) (E_el0 : Exa Z h0 el0 "java/lang/String") (E_el1 : Exa Z h0 el1 "java/lang/String") :
    MetFree l y26_ (head1 (Jvm.Cond.code y26_ jdk_40_method_47_code 2 (some (.object "java/util/List")) :: ws) R24_) (fun a U => a = #[(.ref a1)] ∧ Z.Warmed39 U.vm ∧ U.heap = h0) (fun _ _ _ _ _ => True) (fun _ U o U' => ∃ v L, o = .returned v ∧ (Q_rm_of_2 Z a1 ka el0 el1 h0 n0) v U'.heap L ∧ FrameEnd U o U' L R24_.cells R24_.slots) := by
  refine MetFree.of_bodySF (plainFor_of_name pn_21) hisR ?_
  intro p e s m args below meth c s₁ Bd hml0 hP hK
  obtain ⟨rfl, hZ, hh⟩ := hP
  have hx := Bd.exec
  have hby := Bd.bytes
  have hml : c.maxLocals = 2 := hml0
  have hown : s.vm.findClass "java/util/List" = some m.cls := findClass_of_methodNamed Bd.named
  have hnm := (name_of_methodNamed Bd.named Bd.method).1
  have X0 : Stand p l e R24_ s m #[(.ref a1)] below meth c s₁ [] 0 0 := Stand.of_body Bd
  have e0 : s₁.heap = h0 := by rw [← hh, Bd.state]; rfl
  have N0 := Fr.nil n0
  show own_G FrameEnd p e below s R24_.cells R24_.slots (Q_rm_of_2 Z a1 ka el0 el1 h0 n0) (s₁.setTop (entryFrame m #[(.ref a1)] 2))
  refine own_go (Y' := s₁.setTop (mkF m 0 #[rv a1, .unset] [])) ?_ (fun t k => castTop (ef_21 m a1) k)
  refine own_go ?_ (fun _ hr => XS.aloadN X0.here hx rfl (hb hby d21_0) rfl rfl hr)
  show own_H (s₁.setTop (mkF m 1 #[rv a1, .unset] [(.ref a1)]))
  obtain ⟨cl1, Ar1, -, S1, M1, -, -⟩ := id V_a1
  refine own_go ?_ (fun _ hr => X0.arraylength hx (by rw [e0]; exact Ar1.1) (State.isArrayOf_alike hZ.alike Ar1.2.1) (g := (mkF m 1 #[rv a1, .unset] [(.ref a1)])) rfl rfl (hb hby d21_1) _ hr)
  rw [len_of S1 M1]
  show own_H (s₁.setTop (mkF m 2 #[rv a1, .unset] [(.int (2 : Int32))]))
  refine own_go ?_ (fun _ hr => XS.tswIn X0.here hx rfl (pc0 := 2) (pc' := 45) rfl (hb hby d21_2) rfl (by decide) rfl (by decide) (by decide) hr)
  show own_H (s₁.setTop (mkF m 45 #[rv a1, .unset] []))
  obtain ⟨T2, h2, X2, e2, E2, A2, D2, -, st2⟩ := newO X0 hx hZ hown (hw _ (tm 150 rfl)) (hw _ (tm 151 rfl)) (hw _ (tm 152 rfl)) e0 (g := (mkF m 45 #[rv a1, .unset] [])) rfl (hb hby d21_45) (by decide) (by decide)
  obtain ⟨b2, g2⟩ : ∃ z, z = h0.size := ⟨_, rfl⟩
  rw [← g2] at A2 D2 st2
  have g_b2 : n0 ≤ b2 := ltr Z0 (leq g2.symm)
  have sz_b2 : h0.size ≤ b2 := ltr (Keep.refl h0 []).1 (leq g2.symm)
  have F2_176 : Fld Z h2 b2 "java/util/ImmutableCollections$List12" "e0" "Ljava/lang/Object;" .null := D2 (Or.inr (hw _ (tm 176 rfl))) (ty := (.object "java/lang/Object")) (by decide)
  have F2_179 : Fld Z h2 b2 "java/util/ImmutableCollections$List12" "e1" "Ljava/lang/Object;" .null := D2 (Or.inr (hw _ (tm 179 rfl))) (ty := (.object "java/lang/Object")) (by decide)
  refine own_go ?_ (fun _ hr => st2 _ (XS.dup X2.here hx rfl (hb hby d21_48) rfl rfl (XS.aloadN X2.here hx rfl (hb hby d21_49) rfl rfl (XS.iconst X2.here hx rfl (hb hby d21_50) hr))))
  show own_H (T2.setTop (mkF m 51 #[rv a1, .unset] [(.int (0 : Int32)), (.ref a1), (.ref b2), (.ref b2)]))
  obtain ⟨cl3, Ar3, qk3, S3, M3, H3, G3⟩ := id (V_a1.ext E2)
  have hin3 : ¬ ((0 : Int32) < 0 ∨ cl3.slots.size ≤ ((0 : Int32)).toNatClampNeg) := inb_of S3 ⟨by decide, by decide⟩
  refine own_go ?_ (fun _ hr => X2.aaload hx (j := (0 : Int32)) (v := (.ref el0)) (by rw [e2]; exact Ar3.1) (State.isArrayOf_alike hZ.alike Ar3.2.1) rfl Ar3.2.2 hin3 (Has.at H3 hin3 rfl) (g := (mkF m 51 #[rv a1, .unset] [(.int (0 : Int32)), (.ref a1), (.ref b2), (.ref b2)])) rfl rfl (hb hby d21_51) _ (XS.aloadN X2.here hx rfl (hb hby d21_52) rfl rfl (XS.iconst X2.here hx rfl (hb hby d21_53) hr)))
  show own_H (T2.setTop (mkF m 54 #[rv a1, .unset] [(.int (1 : Int32)), (.ref a1), (.ref el0), (.ref b2), (.ref b2)]))
  obtain ⟨cl4, Ar4, qk4, S4, M4, H4, G4⟩ := id (V_a1.ext E2)
  have hin4 : ¬ ((1 : Int32) < 0 ∨ cl4.slots.size ≤ ((1 : Int32)).toNatClampNeg) := inb_of S4 ⟨by decide, by decide⟩
  refine own_go ?_ (fun _ hr => X2.aaload hx (j := (1 : Int32)) (v := (.ref el1)) (by rw [e2]; exact Ar4.1) (State.isArrayOf_alike hZ.alike Ar4.2.1) rfl Ar4.2.2 hin4 (Has.at H4 hin4 rfl) (g := (mkF m 54 #[rv a1, .unset] [(.int (1 : Int32)), (.ref a1), (.ref el0), (.ref b2), (.ref b2)])) rfl rfl (hb hby d21_54) _ hr)
  show own_H (T2.setTop (mkF m 55 #[rv a1, .unset] [(.ref el1), (.ref el0), (.ref b2), (.ref b2)]))
  obtain ⟨_, _, ⟨T5, L5, k5, n5⟩, -, X5, ⟨Lc5, hQ5, l5, y5, z5⟩, st5⟩ := X2.specialBack hx (y := y19_) rfl hown (mvT hZ (hw _ (tm 224 rfl))) (mvT hZ (hw _ (tm 225 rfl))) (mvT hZ (hw _ (tm 226 rfl))) (by decide) (backOf (W := 1) (rm_l12_2 l Z a0 hw [] b2 el0 el1 (.null) (.null) h2 n0 (ltr Z0 E2.1) A2 F2_176 F2_179 g_b2) hZ (hw _ (tm 226 rfl)) (hw _ (tm 152 rfl)) (by decide) (by decide)) (g := (mkF m 55 #[rv a1, .unset] [(.ref el1), (.ref el0), (.ref b2), (.ref b2)])) rfl (by rw [hml]; rfl) (Steps.refl _) (a := b2) (argsL := [(.ref el0), (.ref el1)]) (rest := [(.ref b2)]) (lenOf pd__Ljava_lang_Object_Ljava_lang_Object__V rfl) rfl (by show 2 * 0 + _ ≤ _; exact Nat.le_of_eq rfl) (hb hby d21_55) (fun _ _ => ⟨rfl, e2, (by decide : 1 + 0 ≤ _), (by decide : 2 + 0 ≤ _)⟩)
  dsimp only [Pt.U, Pt.locs, Pt.cells, Pt.slots] at X5 l5 y5 z5 st5 hQ5
  subst l5 y5 z5
  obtain ⟨rfl, N5q, K5, P5_0, P5_1, P5_2⟩ := hQ5
  have N5 := Fr.app N0 N5q
  refine own_go ?_ (fun _ hr => st5.trans hr)
  show own_H (T5.setTop (mkF m 58 #[rv a1, .unset] [(.ref b2)]))
  obtain ⟨fs, hr, hrun, hended, hW, hsame⟩ := X5.leave (v := some (.ref b2)) (fun h => by rw [Bd.returns] at h; cases h)
  exact ⟨_, _, retOut X5 hx Bd.returns rfl (Or.inr (Or.inr (Or.inr (Or.inr ⟨rfl, rfl, rfl⟩)))) (hb hby d21_58) hr, hrun, hended, _, _, rfl, ⟨b2, rfl, N5, (((Keep.refl h0 []).ext E2).trans K5 (allS (Or.inr sz_b2) all0)), sz_b2, P5_0, P5_1, P5_2⟩, ⟨_, rfl⟩, hW, hsame.mono (by decide) (by decide)⟩
def Q_rm_lc_2 (Z : State) (a1 : Addr) (b : Addr) (mO : Addr) (kb : ClassId) (el0 : Addr) (el1 : Addr) (h0 : Heap) (n0 : Nat) : Option Value → Heap → List Loc → Prop := fun v h L => ∃ (nl : Addr), v = some (.ref nl) ∧ Fr n0 L ∧ Keep h0 h [] ∧ h0.size ≤ nl ∧ Exa Z h nl "java/util/ImmutableCollections$List12" ∧ Fld Z h nl "java/util/ImmutableCollections$List12" "e0" "Ljava/lang/Object;" (.ref el0) ∧ Fld Z h nl "java/util/ImmutableCollections$List12" "e1" "Ljava/lang/Object;" (.ref el1)
set_option maxRecDepth 65536 in
set_option maxHeartbeats 40000000 in
theorem rm_lc_2 (l : Launch) (Z : State) (a0 : Array Value) (hw : ∀ d ∈ tables_1, d.before a0 Z = true) (ws : List Jvm.Cond) (a1 : Addr) (b : Addr) (mO : Addr) (kb : ClassId) (el0 : Addr) (el1 : Addr) (h0 : Heap) (n0 : Nat) (Z0 : n0 ≤ h0.size) (E_a1 : Exa Z h0 a1 "java/util/ArrayList") (F_a1_elementData : Fld Z h0 a1 "java/util/ArrayList" "elementData" "[Ljava/lang/Object;" (.ref b)) (F_a1_size : Fld Z h0 a1 "java/util/ArrayList" "size" "I" (.int (2 : Int32))) (V_b : Arv Z h0 b kb (.object "java/lang/Object") (10 : Int32) [(.ref el0), (.ref el1), .null, .null, .null, .null, .null, .null, .null, .null] .null) (E_b : Exa Z h0 b "[Ljava/lang/Object;") (E_el0 : Exa Z h0 el0 "java/lang/String") (E_el1 : Exa Z h0 el1 "java/lang/String") (mir_mO : Mir Z "[Ljava/lang/Object;" mO) :
    MetFree l y27_ (head1 (Jvm.Cond.code y27_ jdk_56_method_3_code 2 (some (.object "java/util/List")) :: ws) R25_) (fun a U => a = #[(.ref a1)] ∧ Z.Warmed39 U.vm ∧ U.heap = h0) (fun _ _ _ _ _ => True) (fun _ U o U' => ∃ v L, o = .returned v ∧ (Q_rm_lc_2 Z a1 b mO kb el0 el1 h0 n0) v U'.heap L ∧ FrameEnd U o U' L R25_.cells R25_.slots) := by
  refine MetFree.of_bodySF (plainFor_of_name pn_15) hisR ?_
  intro p e s m args below meth c s₁ Bd hml0 hP hK
  obtain ⟨rfl, hZ, hh⟩ := hP
  have hx := Bd.exec
  have hby := Bd.bytes
  have hml : c.maxLocals = 2 := hml0
  have hown : s.vm.findClass "java/util/ImmutableCollections" = some m.cls := findClass_of_methodNamed Bd.named
  have hnm := (name_of_methodNamed Bd.named Bd.method).1
  have X0 : Stand p l e R25_ s m #[(.ref a1)] below meth c s₁ [] 0 0 := Stand.of_body Bd
  have e0 : s₁.heap = h0 := by rw [← hh, Bd.state]; rfl
  have N0 := Fr.nil n0
  show own_G FrameEnd p e below s R25_.cells R25_.slots (Q_rm_lc_2 Z a1 b mO kb el0 el1 h0 n0) (s₁.setTop (entryFrame m #[(.ref a1)] 2))
  refine own_go (Y' := s₁.setTop (mkF m 0 #[rv a1, .unset] [])) ?_ (fun t k => castTop (ef_15 m a1) k)
  refine own_go ?_ (fun _ hr => XS.aloadN X0.here hx rfl (hb hby d15_0) rfl rfl hr)
  show own_H (s₁.setTop (mkF m 1 #[rv a1, .unset] [(.ref a1)]))
  obtain ⟨T1, X1, e1, st1⟩ := instNo X0 hx hZ hown (hw _ (tm 102 rfl)) e0 E_a1 (own_notinst hw (hw _ (tm 151 rfl)) (by decide) (by decide) (by decide) (by decide)) (g := (mkF m 1 #[rv a1, .unset] [(.ref a1)])) rfl rfl (hb hby d15_1)
  refine own_go ?_ (fun _ hr => st1 _ (XS.ifNo X1.here hx rfl (hb hby d15_4) rfl ((if0 _ _).trans (teq (by decide : (0 : Int32) = (0 : Int32))).2) (XS.aloadN X1.here hx rfl (hb hby d15_7) rfl rfl hr)))
  show own_H (T1.setTop (mkF m 8 #[rv a1, .unset] [(.ref a1)]))
  obtain ⟨T2, X2, e2, st2⟩ := instNo X1 hx hZ hown (hw _ (tm 107 rfl)) e1 E_a1 (own_notinst hw (hw _ (tm 187 rfl)) (by decide) (by decide) (by decide) (by decide)) (g := (mkF m 8 #[rv a1, .unset] [(.ref a1)])) rfl rfl (hb hby d15_8)
  refine own_go ?_ (fun _ hr => st2 _ (XS.ifYes X2.here hx rfl (pc0 := 11) (pc' := 31) rfl (hb hby d15_11) rfl ((if0 _ _).trans (teq (by decide : (0 : Int32) = (0 : Int32))).1) (by decide) (by decide) (XS.aloadN X2.here hx rfl (hb hby d15_31) rfl rfl hr)))
  show own_H (T2.setTop (mkF m 32 #[rv a1, .unset] [(.ref a1)]))
  obtain ⟨cq3, kq3, q3a, q3b, q3c⟩ := isOf hZ e2 E_a1
  obtain ⟨_, _, ⟨T3, L3, k3, n3⟩, -, X3, ⟨Lc3, hQ3, l3, y3, z3⟩, st3⟩ := X2.interfaceBack hx (xi := y28_) (y := y25_) hown (mvT hZ (hw _ (tm 108 rfl))) (mvT hZ (hw _ (tm 109 rfl))) (mvT hZ (hw _ (tm 110 rfl))) (mvT hZ (hw _ (tm 111 rfl))) (mvT hZ (hw _ (tm 112 rfl))) (mvT hZ (hw _ (tm 113 rfl))) (mvT hZ (hw _ (tm 114 rfl))) (mvT hZ (hw _ (tm 115 rfl))) (by decide) (backOf (W := 0) (rm_isEmpty_2 l Z a0 hw [] a1 h0 n0 Z0 F_a1_size) hZ (hw _ (tm 116 rfl)) (hw _ (tm 28 rfl)) (by decide) (by decide)) q3a q3b q3c (g := (mkF m 32 #[rv a1, .unset] [(.ref a1)])) rfl (by rw [hml]; rfl) (Steps.refl _) (argsL := []) (rest := []) (lenOf pd___Z rfl) rfl (by show 2 * 0 + _ ≤ _; exact Nat.le_of_eq rfl) (hb hby d15_32) (fun _ _ => ⟨rfl, e2, (by decide : 0 + 0 ≤ _), (by decide : 0 + 0 ≤ _)⟩)
  dsimp only [Pt.U, Pt.locs, Pt.cells, Pt.slots] at X3 l3 y3 z3 st3 hQ3
  subst l3 y3 z3
  obtain ⟨rfl, N3q, e3⟩ := hQ3
  have N3 := Fr.app N0 N3q
  refine own_go ?_ (fun _ hr => st3.trans (XS.ifYes X3.here hx rfl (pc0 := 37) (pc' := 44) rfl (hb hby d15_37) rfl ((if0 _ _).trans (teq (by decide : (0 : Int32) = (0 : Int32))).1) (by decide) (by decide) (XS.aloadN X3.here hx rfl (hb hby d15_44) rfl rfl hr)))
  show own_H (T3.setTop (mkF m 45 #[rv a1, .unset] [(.ref a1)]))
  obtain ⟨cq4, kq4, q4a, q4b, q4c⟩ := isOf hZ e3 E_a1
  obtain ⟨_, _, ⟨T4, L4, k4, n4⟩, -, X4, ⟨Lc4, hQ4, l4, y4, z4⟩, st4⟩ := X3.interfaceBack hx (xi := y29_) (y := y24_) hown (mvT hZ (hw _ (tm 117 rfl))) (mvT hZ (hw _ (tm 118 rfl))) (mvT hZ (hw _ (tm 119 rfl))) (mvT hZ (hw _ (tm 120 rfl))) (mvT hZ (hw _ (tm 121 rfl))) (mvT hZ (hw _ (tm 122 rfl))) (mvT hZ (hw _ (tm 123 rfl))) (mvT hZ (hw _ (tm 115 rfl))) (by decide) (backOf (W := 0) (rm_toArray_2 l Z a0 hw [] a1 b mO kb el0 el1 h0 n0 Z0 E_a1 F_a1_elementData F_a1_size V_b E_b E_el0 E_el1 mir_mO) hZ (hw _ (tm 124 rfl)) (hw _ (tm 28 rfl)) (by decide) (by decide)) q4a q4b q4c (g := (mkF m 45 #[rv a1, .unset] [(.ref a1)])) rfl (by rw [hml]; rfl) (Steps.refl _) (argsL := []) (rest := []) (lenOf pd____Ljava_lang_Object_ rfl) rfl (by show 2 * 0 + _ ≤ _; exact Nat.le_of_eq rfl) (hb hby d15_45) (fun _ _ => ⟨rfl, e3, (by decide : 0 + 1 ≤ _), (by decide : 0 + 2 ≤ _)⟩)
  dsimp only [Pt.U, Pt.locs, Pt.cells, Pt.slots] at X4 l4 y4 z4 st4 hQ4
  subst l4 y4 z4
  obtain ⟨b4_0, kb4_1, rfl, N4q, K4, yb4_0, P4_0, P4_1, P4_2⟩ := hQ4
  have g_b4_0 : n0 ≤ b4_0 := ltr Z0 yb4_0
  have sz_b4_0 : h0.size ≤ b4_0 := ltr (Keep.refl h0 []).1 yb4_0
  have N4 := Fr.app N3 N4q
  refine own_go ?_ (fun _ hr => st4.trans hr)
  show own_H (T4.setTop (mkF m 50 #[rv a1, .unset] [(.ref b4_0)]))
  obtain ⟨_, _, ⟨T5, L5, k5, n5⟩, -, X5, ⟨Lc5, hQ5, l5, y5, z5⟩, st5⟩ := Jvm.LawKit.callS X4 hx (y := y26_) hown (mvT hZ (hw _ (tm 147 rfl))) (mvT hZ (hw _ (tm 148 rfl))) (mvT hZ (hw _ (tm 96 rfl))) (mvT hZ (hw _ (tm 149 rfl))) (by decide) (backOf (W := 0) (rm_of_2 l Z a0 hw [] b4_0 kb4_1 el0 el1 T4.heap n0 (ltr Z0 K4.1) P4_0 (E_el0.keep K4) (E_el1.keep K4)) hZ (hw _ (tm 149 rfl)) (hw _ (tm 96 rfl)) (by decide) (by decide)) (g := (mkF m 50 #[rv a1, .unset] [(.ref b4_0)])) rfl (by rw [hml]; rfl) (argsL := [(.ref b4_0)]) (rest := []) (lenOf pd___Ljava_lang_Object__Ljava_util_List_ rfl) rfl (by show 2 * 0 + _ ≤ _; exact Nat.le_of_eq rfl) (hb hby d15_50) (fun _ _ => ⟨rfl, rfl, (by decide : 1 + 1 ≤ _), (by decide : 2 + 2 ≤ _)⟩)
  dsimp only [Pt.U, Pt.locs, Pt.cells, Pt.slots] at X5 l5 y5 z5 st5 hQ5
  subst l5 y5 z5
  obtain ⟨b5_0, rfl, N5q, K5, yb5_0, P5_0, P5_1, P5_2⟩ := hQ5
  have g_b5_0 : n0 ≤ b5_0 := ltr (ltr Z0 K4.1) yb5_0
  have sz_b5_0 : h0.size ≤ b5_0 := ltr ((Keep.refl h0 []).trans K4 all0).1 yb5_0
  have N5 := Fr.app N4 N5q
  refine own_go ?_ (fun _ hr => st5 _ hr)
  show own_H (T5.setTop (mkF m 53 #[rv a1, .unset] [(.ref b5_0)]))
  obtain ⟨fs, hr, hrun, hended, hW, hsame⟩ := X5.leave (v := some (.ref b5_0)) (fun h => by rw [Bd.returns] at h; cases h)
  exact ⟨_, _, retOut X5 hx Bd.returns rfl (Or.inr (Or.inr (Or.inr (Or.inr ⟨rfl, rfl, rfl⟩)))) (hb hby d15_53) hr, hrun, hended, _, _, rfl, ⟨b5_0, rfl, N5, (((Keep.refl h0 []).trans K4 all0).trans K5 all0), sz_b5_0, P5_0, P5_1, P5_2⟩, ⟨_, rfl⟩, hW, hsame.mono (by decide) (by decide)⟩
def Q_rm_cp_2 (Z : State) (a1 : Addr) (b : Addr) (mO : Addr) (kb : ClassId) (el0 : Addr) (el1 : Addr) (h0 : Heap) (n0 : Nat) : Option Value → Heap → List Loc → Prop := fun v h L => ∃ (nl : Addr), v = some (.ref nl) ∧ Fr n0 L ∧ Keep h0 h [] ∧ h0.size ≤ nl ∧ Exa Z h nl "java/util/ImmutableCollections$List12" ∧ Fld Z h nl "java/util/ImmutableCollections$List12" "e0" "Ljava/lang/Object;" (.ref el0) ∧ Fld Z h nl "java/util/ImmutableCollections$List12" "e1" "Ljava/lang/Object;" (.ref el1)
set_option maxRecDepth 65536 in
set_option maxHeartbeats 40000000 in
theorem rm_cp_2 (l : Launch) (Z : State) (a0 : Array Value) (hw : ∀ d ∈ tables_1, d.before a0 Z = true) (ws : List Jvm.Cond) (a1 : Addr) (b : Addr) (mO : Addr) (kb : ClassId) (el0 : Addr) (el1 : Addr) (h0 : Heap) (n0 : Nat) (Z0 : n0 ≤ h0.size) (E_a1 : Exa Z h0 a1 "java/util/ArrayList") (F_a1_elementData : Fld Z h0 a1 "java/util/ArrayList" "elementData" "[Ljava/lang/Object;" (.ref b)) (F_a1_size : Fld Z h0 a1 "java/util/ArrayList" "size" "I" (.int (2 : Int32))) (V_b : Arv Z h0 b kb (.object "java/lang/Object") (10 : Int32) [(.ref el0), (.ref el1), .null, .null, .null, .null, .null, .null, .null, .null] .null) (E_b : Exa Z h0 b "[Ljava/lang/Object;") (E_el0 : Exa Z h0 el0 "java/lang/String") (E_el1 : Exa Z h0 el1 "java/lang/String") (mir_mO : Mir Z "[Ljava/lang/Object;" mO) :
    MetFree l y30_ (head1 (Jvm.Cond.code y30_ jdk_40_method_48_code 1 (some (.object "java/util/List")) :: ws) R26_) (fun a U => a = #[(.ref a1)] ∧ Z.Warmed39 U.vm ∧ U.heap = h0) (fun _ _ _ _ _ => True) (fun _ U o U' => ∃ v L, o = .returned v ∧ (Q_rm_cp_2 Z a1 b mO kb el0 el1 h0 n0) v U'.heap L ∧ FrameEnd U o U' L R26_.cells R26_.slots) := by
  refine MetFree.of_bodySF (plainFor_of_name pn_14) hisR ?_
  intro p e s m args below meth c s₁ Bd hml0 hP hK
  obtain ⟨rfl, hZ, hh⟩ := hP
  have hx := Bd.exec
  have hby := Bd.bytes
  have hml : c.maxLocals = 1 := hml0
  have hown : s.vm.findClass "java/util/List" = some m.cls := findClass_of_methodNamed Bd.named
  have hnm := (name_of_methodNamed Bd.named Bd.method).1
  have X0 : Stand p l e R26_ s m #[(.ref a1)] below meth c s₁ [] 0 0 := Stand.of_body Bd
  have e0 : s₁.heap = h0 := by rw [← hh, Bd.state]; rfl
  have N0 := Fr.nil n0
  show own_G FrameEnd p e below s R26_.cells R26_.slots (Q_rm_cp_2 Z a1 b mO kb el0 el1 h0 n0) (s₁.setTop (entryFrame m #[(.ref a1)] 1))
  refine own_go (Y' := s₁.setTop (mkF m 0 #[rv a1] [])) ?_ (fun t k => castTop (ef_14 m a1) k)
  refine own_go ?_ (fun _ hr => XS.aloadN X0.here hx rfl (hb hby d14_0) rfl rfl hr)
  show own_H (s₁.setTop (mkF m 1 #[rv a1] [(.ref a1)]))
  obtain ⟨_, _, ⟨T1, L1, k1, n1⟩, -, X1, ⟨Lc1, hQ1, l1, y1, z1⟩, st1⟩ := Jvm.LawKit.callS X0 hx (y := y27_) hown (mvT hZ (hw _ (tm 98 rfl))) (mvT hZ (hw _ (tm 99 rfl))) (mvT hZ (hw _ (tm 100 rfl))) (mvT hZ (hw _ (tm 101 rfl))) (by decide) (backOf (W := 0) (rm_lc_2 l Z a0 hw [] a1 b mO kb el0 el1 h0 n0 Z0 E_a1 F_a1_elementData F_a1_size V_b E_b E_el0 E_el1 mir_mO) hZ (hw _ (tm 101 rfl)) (hw _ (tm 100 rfl)) (by decide) (by decide)) (g := (mkF m 1 #[rv a1] [(.ref a1)])) rfl (by rw [hml]; rfl) (argsL := [(.ref a1)]) (rest := []) (lenOf pd__Ljava_util_Collection__Ljava_util_List_ rfl) rfl (by show 2 * 0 + _ ≤ _; exact Nat.le_of_eq rfl) (hb hby d14_1) (fun _ _ => ⟨rfl, e0, (by decide : 0 + 2 ≤ _), (by decide : 0 + 4 ≤ _)⟩)
  dsimp only [Pt.U, Pt.locs, Pt.cells, Pt.slots] at X1 l1 y1 z1 st1 hQ1
  subst l1 y1 z1
  obtain ⟨b1_0, rfl, N1q, K1, yb1_0, P1_0, P1_1, P1_2⟩ := hQ1
  have g_b1_0 : n0 ≤ b1_0 := ltr Z0 yb1_0
  have sz_b1_0 : h0.size ≤ b1_0 := ltr (Keep.refl h0 []).1 yb1_0
  have N1 := Fr.app N0 N1q
  refine own_go ?_ (fun _ hr => st1 _ hr)
  show own_H (T1.setTop (mkF m 4 #[rv a1] [(.ref b1_0)]))
  obtain ⟨fs, hr, hrun, hended, hW, hsame⟩ := X1.leave (v := some (.ref b1_0)) (fun h => by rw [Bd.returns] at h; cases h)
  exact ⟨_, _, retOut X1 hx Bd.returns rfl (Or.inr (Or.inr (Or.inr (Or.inr ⟨rfl, rfl, rfl⟩)))) (hb hby d14_4) hr, hrun, hended, _, _, rfl, ⟨b1_0, rfl, N1, ((Keep.refl h0 []).trans K1 all0), sz_b1_0, P1_0, P1_1, P1_2⟩, ⟨_, rfl⟩, hW, hsame.mono (by decide) (by decide)⟩
def Q_rm_min_3 (Z : State)  (h0 : Heap) (n0 : Nat) : Option Value → Heap → List Loc → Prop := fun v h L => v = some (.int (3 : Int32)) ∧ Fr n0 L ∧ h = h0
set_option maxRecDepth 65536 in
set_option maxHeartbeats 40000000 in
theorem rm_min_3 (l : Launch) (Z : State) (a0 : Array Value) (hw : ∀ d ∈ tables_1, d.before a0 Z = true) (ws : List Jvm.Cond)  (h0 : Heap) (n0 : Nat) (Z0 : n0 ≤ h0.size) :
    MetFree l y21_ (head1 (Jvm.Cond.code y21_ jdk_29_method_69_code 2 (some .int) :: ws) R0_) (fun a U => a = #[(.int (10 : Int32)), (.int (3 : Int32))] ∧ Z.Warmed39 U.vm ∧ U.heap = h0) (fun _ _ _ _ _ => True) (fun _ U o U' => ∃ v L, o = .returned v ∧ (Q_rm_min_3 Z  h0 n0) v U'.heap L ∧ FrameEnd U o U' L R0_.cells R0_.slots) := by
  refine MetFree.of_bodySF (Jvm.Free.JP.mathPlain rfl (by decide +kernel)) hisR ?_
  intro p e s m args below meth c s₁ Bd hml0 hP hK
  obtain ⟨rfl, hZ, hh⟩ := hP
  have hx := Bd.exec
  have hby := Bd.bytes
  have hml : c.maxLocals = 2 := hml0
  have hown : s.vm.findClass "java/lang/Math" = some m.cls := findClass_of_methodNamed Bd.named
  have hnm := (name_of_methodNamed Bd.named Bd.method).1
  have X0 : Stand p l e R0_ s m #[(.int (10 : Int32)), (.int (3 : Int32))] below meth c s₁ [] 0 0 := Stand.of_body Bd
  have e0 : s₁.heap = h0 := by rw [← hh, Bd.state]; rfl
  have N0 := Fr.nil n0
  show own_G FrameEnd p e below s R0_.cells R0_.slots (Q_rm_min_3 Z  h0 n0) (s₁.setTop (entryFrame m #[(.int (10 : Int32)), (.int (3 : Int32))] 2))
  refine own_go (Y' := s₁.setTop (mkF m 0 #[iv (10 : Int32), iv (3 : Int32)] [])) ?_ (fun t k => castTop (ef_20 m (10 : Int32) (3 : Int32)) k)
  refine own_go ?_ (fun _ hr => XS.iloadN X0.here hx rfl (hb hby d20_0) rfl (XS.iloadN X0.here hx rfl (hb hby d20_1) rfl (XS.icmpYes X0.here hx rfl (pc0 := 2) (pc' := 9) rfl (hb hby d20_2) rfl (tlt (by decide : (3 : Int32) < (10 : Int32))).2.2.1 (by decide) (by decide) (XS.iloadN X0.here hx rfl (hb hby d20_9) rfl hr))))
  show own_H (s₁.setTop (mkF m 10 #[iv (10 : Int32), iv (3 : Int32)] [(.int (3 : Int32))]))
  obtain ⟨fs, hr, hrun, hended, hW, hsame⟩ := X0.leave (v := some (.int (3 : Int32))) (fun h => by rw [Bd.returns] at h; cases h)
  exact ⟨_, _, retI X0 hx Bd.returns (hb hby d20_10) hr, hrun, hended, _, _, rfl, ⟨rfl, N0, e0⟩, ⟨_, rfl⟩, hW, hsame.mono (by decide) (by decide)⟩
def Q_rm_copy3_3 (Z : State) (b : Addr) (mO : Addr) (kb : ClassId) (el0 : Addr) (el1 : Addr) (el2 : Addr) (h0 : Heap) (n0 : Nat) : Option Value → Heap → List Loc → Prop := fun v h L => ∃ (nb : Addr) (nk : ClassId), v = some (.ref nb) ∧ Fr n0 L ∧ Keep h0 h [] ∧ h0.size ≤ nb ∧ Arv Z h nb nk (.object "java/lang/Object") (3 : Int32) [(.ref el0), (.ref el1), (.ref el2)] .null ∧ Exa Z h nb "[Ljava/lang/Object;" ∧ Ovr Z nk "java/lang/Object"
set_option maxRecDepth 65536 in
set_option maxHeartbeats 40000000 in
theorem rm_copy3_3 (l : Launch) (Z : State) (a0 : Array Value) (hw : ∀ d ∈ tables_1, d.before a0 Z = true) (ws : List Jvm.Cond) (b : Addr) (mO : Addr) (kb : ClassId) (el0 : Addr) (el1 : Addr) (el2 : Addr) (h0 : Heap) (n0 : Nat) (Z0 : n0 ≤ h0.size) (V_b : Arv Z h0 b kb (.object "java/lang/Object") (10 : Int32) [(.ref el0), (.ref el1), (.ref el2), .null, .null, .null, .null, .null, .null, .null] .null) (E_b : Exa Z h0 b "[Ljava/lang/Object;") (E_el0 : Exa Z h0 el0 "java/lang/String") (E_el1 : Exa Z h0 el1 "java/lang/String") (E_el2 : Exa Z h0 el2 "java/lang/String") (mir_mO : Mir Z "[Ljava/lang/Object;" mO) :
    MetFree l y22_ (head1 (Jvm.Cond.code y22_ jdk_65_method_120_code 4 (some (.array (.object "java/lang/Object"))) :: ws) R27_) (fun a U => a = #[(.ref b), (.int (3 : Int32)), (.ref mO)] ∧ Z.Warmed39 U.vm ∧ U.heap = h0) (fun _ _ _ _ _ => True) (fun _ U o U' => ∃ v L, o = .returned v ∧ (Q_rm_copy3_3 Z b mO kb el0 el1 el2 h0 n0) v U'.heap L ∧ FrameEnd U o U' L R27_.cells R27_.slots) := by
  refine MetFree.of_bodySF (plainFor_of_name pn_19) hisR ?_
  intro p e s m args below meth c s₁ Bd hml0 hP hK
  obtain ⟨rfl, hZ, hh⟩ := hP
  have hx := Bd.exec
  have hby := Bd.bytes
  have hml : c.maxLocals = 4 := hml0
  have hown : s.vm.findClass "java/util/Arrays" = some m.cls := findClass_of_methodNamed Bd.named
  have hnm := (name_of_methodNamed Bd.named Bd.method).1
  have X0 : Stand p l e R27_ s m #[(.ref b), (.int (3 : Int32)), (.ref mO)] below meth c s₁ [] 0 0 := Stand.of_body Bd
  have e0 : s₁.heap = h0 := by rw [← hh, Bd.state]; rfl
  have N0 := Fr.nil n0
  show own_G FrameEnd p e below s R27_.cells R27_.slots (Q_rm_copy3_3 Z b mO kb el0 el1 el2 h0 n0) (s₁.setTop (entryFrame m #[(.ref b), (.int (3 : Int32)), (.ref mO)] 4))
  refine own_go (Y' := s₁.setTop (mkF m 0 #[rv b, iv (3 : Int32), rv mO, .unset] [])) ?_ (fun t k => castTop (ef_19 m b (3 : Int32) mO) k)
  refine own_go ?_ (fun _ hr => XS.aloadN X0.here hx rfl (hb hby d19_0) rfl rfl hr)
  show own_H (s₁.setTop (mkF m 1 #[rv b, iv (3 : Int32), rv mO, .unset] [(.ref mO)]))
  obtain ⟨vm1, X1, st1⟩ := X0.ldcMirror hx hown (mvT hZ (hw _ (tm 138 rfl))) (own_mir hZ mir_mO) (g := (mkF m 1 #[rv b, iv (3 : Int32), rv mO, .unset] [(.ref mO)])) rfl (hb hby d19_1)
  refine own_go ?_ (fun _ hr => st1 _ (Jvm.RoadKit.acmp (g := (mkF m 3 #[rv b, iv (3 : Int32), rv mO, .unset] [(.ref mO), (.ref mO)])) X1 hx rfl rfl rfl (pc0 := 3) (pc' := 6) (same := true) rfl (hb hby d19_3) rfl (decide_eq_true rfl) (by decide) (by decide) (XS.iloadN X1.here hx rfl (hb hby d19_6) rfl hr)))
  show own_H ((s₁.setVm vm1).setTop (mkF m 7 #[rv b, iv (3 : Int32), rv mO, .unset] [(.int (3 : Int32))]))
  obtain ⟨T2, h2, k2, X2, e2, E2, A2, B2, O2, st2⟩ := newRE X1 hx hZ hown (hw _ (tm 139 rfl)) (hw _ (tm 79 rfl)) e0 (g := (mkF m 7 #[rv b, iv (3 : Int32), rv mO, .unset] [(.int (3 : Int32))])) rfl (hb hby d19_7) rfl (by decide) (cap := 3) (by decide) (by decide) (by decide) (by decide) (ad := "[Ljava/lang/Object;") (by decide)
  obtain ⟨b2, g2⟩ : ∃ z, z = h0.size := ⟨_, rfl⟩
  rw [← g2] at A2 B2 st2
  have V2 : Arv Z h2 b2 k2 (.object "java/lang/Object") (3 : Int32) [.null, .null, .null] .null := (Arv.new A2 (by decide)).pad (pad_rep [] .null 3)
  have g_b2 : n0 ≤ b2 := ltr Z0 (leq g2.symm)
  have sz_b2 : h0.size ≤ b2 := ltr (Keep.refl h0 []).1 (leq g2.symm)
  refine own_go ?_ (fun _ hr => st2 _ (XS.goto X2.here hx rfl (pc0 := 10) (pc' := 24) rfl (hb hby d19_10) (by decide) (by decide) (XS.astoreN X2.here hx rfl (hb hby d19_24) rfl rfl (l' := #[rv b, iv (3 : Int32), rv mO, rv b2]) rfl (XS.aloadN X2.here hx rfl (hb hby d19_25) rfl rfl (XS.iconst X2.here hx rfl (hb hby d19_26) (XS.aloadN X2.here hx rfl (hb hby d19_27) rfl rfl (XS.iconst X2.here hx rfl (hb hby d19_28) (XS.aloadN X2.here hx rfl (hb hby d19_29) rfl rfl hr))))))))
  show own_H (T2.setTop (mkF m 30 #[rv b, iv (3 : Int32), rv mO, rv b2] [(.ref b), (.int (0 : Int32)), (.ref b2), (.int (0 : Int32)), (.ref b)]))
  obtain ⟨cl3, Ar3, -, S3, M3, -, -⟩ := id (V_b.ext E2)
  refine own_go ?_ (fun _ hr => X2.arraylength hx (by rw [e2]; exact Ar3.1) (State.isArrayOf_alike hZ.alike Ar3.2.1) (g := (mkF m 30 #[rv b, iv (3 : Int32), rv mO, rv b2] [(.ref b), (.int (0 : Int32)), (.ref b2), (.int (0 : Int32)), (.ref b)])) rfl rfl (hb hby d19_30) _ hr)
  rw [len_of S3 M3]
  show own_H (T2.setTop (mkF m 31 #[rv b, iv (3 : Int32), rv mO, rv b2] [(.int (10 : Int32)), (.int (0 : Int32)), (.ref b2), (.int (0 : Int32)), (.ref b)]))
  refine own_go ?_ (fun _ hr => XS.iloadN X2.here hx rfl (hb hby d19_31) rfl hr)
  show own_H (T2.setTop (mkF m 32 #[rv b, iv (3 : Int32), rv mO, rv b2] [(.int (3 : Int32)), (.int (10 : Int32)), (.int (0 : Int32)), (.ref b2), (.int (0 : Int32)), (.ref b)]))
  obtain ⟨_, _, ⟨T4, L4, k4, n4⟩, -, X4, ⟨Lc4, hQ4, l4, y4, z4⟩, st4⟩ := Jvm.LawKit.callS X2 hx (y := y21_) hown (mvT hZ (hw _ (tm 140 rfl))) (mvT hZ (hw _ (tm 141 rfl))) (mvT hZ (hw _ (tm 76 rfl))) (mvT hZ (hw _ (tm 142 rfl))) (by decide) (backOf (W := 4) (rm_min_3 l Z a0 hw []  h2 n0 (ltr Z0 E2.1) ) hZ (hw _ (tm 142 rfl)) (hw _ (tm 76 rfl)) (by decide) (by decide)) (g := (mkF m 32 #[rv b, iv (3 : Int32), rv mO, rv b2] [(.int (3 : Int32)), (.int (10 : Int32)), (.int (0 : Int32)), (.ref b2), (.int (0 : Int32)), (.ref b)])) rfl (by rw [hml]; rfl) (argsL := [(.int (10 : Int32)), (.int (3 : Int32))]) (rest := [(.int (0 : Int32)), (.ref b2), (.int (0 : Int32)), (.ref b)]) (lenOf pd__II_I rfl) rfl (by show 2 * 0 + _ ≤ _; exact Nat.le_of_eq rfl) (hb hby d19_32) (fun _ _ => ⟨rfl, e2, (by decide : 1 + 0 ≤ _), (by decide : 3 + 0 ≤ _)⟩)
  dsimp only [Pt.U, Pt.locs, Pt.cells, Pt.slots] at X4 l4 y4 z4 st4 hQ4
  subst l4 y4 z4
  obtain ⟨rfl, N4q, e4⟩ := hQ4
  have N4 := Fr.app N0 N4q
  refine own_go ?_ (fun _ hr => st4 _ hr)
  show own_H (T4.setTop (mkF m 35 #[rv b, iv (3 : Int32), rv mO, rv b2] [(.int (3 : Int32)), (.int (0 : Int32)), (.ref b2), (.int (0 : Int32)), (.ref b)]))
  obtain ⟨cb5, Ab5, qb5, -⟩ := id V2
  obtain ⟨T5, h5, L5, X5, e5, N5, K5, V5, st5⟩ := cpA X4 hx hZ hown (hw _ (tm 143 rfl)) (hw _ (tm 146 rfl)) (hw _ (tm 144 rfl)) (hw _ (tm 145 rfl)) e4 (V_b.ext E2) V2 (us := [(.ref el0), (.ref el1), (.ref el2)]) (Or.inr ⟨rfl, rfl, ⟨Sto.ofV Ab5 qb5 O2 (Ins.of_exa (E_el0.ext E2) (hw _ (tm 80 rfl))), ⟨Sto.ofV Ab5 qb5 O2 (Ins.of_exa (E_el1.ext E2) (hw _ (tm 80 rfl))), ⟨Sto.ofV Ab5 qb5 O2 (Ins.of_exa (E_el2.ext E2) (hw _ (tm 80 rfl))), trivial⟩⟩⟩⟩) (by decide) (by decide) (by decide) (by decide) (by decide) rfl (by decide) N4 g_b2 (g := (mkF m 35 #[rv b, iv (3 : Int32), rv mO, rv b2] [(.int (3 : Int32)), (.int (0 : Int32)), (.ref b2), (.int (0 : Int32)), (.ref b)])) rfl (by rw [hml]; rfl) rfl (hb hby d19_35) (by decide) (W := 0) (by show 2 * 0 + _ ≤ _; exact Nat.le_of_eq rfl) (by decide)
  have V5a : Arv Z h5 b2 k2 (.object "java/lang/Object") (3 : Int32) [(.ref el0), (.ref el1), (.ref el2)] .null := V5
  refine own_go ?_ (fun _ hr => st5 _ (XS.aloadN X5.here hx rfl (hb hby d19_38) rfl rfl hr))
  show own_H (T5.setTop (mkF m 39 #[rv b, iv (3 : Int32), rv mO, rv b2] [(.ref b2)]))
  obtain ⟨fs, hr, hrun, hended, hW, hsame⟩ := X5.leave (v := some (.ref b2)) (fun h => by rw [Bd.returns] at h; cases h)
  exact ⟨_, _, retOut X5 hx Bd.returns rfl (Or.inr (Or.inr (Or.inr (Or.inr ⟨rfl, rfl, rfl⟩)))) (hb hby d19_39) hr, hrun, hended, _, _, rfl, (by rw [show (T5.setFrames fs).heap = h5 from e5]; exact ⟨b2, k2, rfl, N5, (((Keep.refl h0 []).ext E2).trans K5 (allS (Or.inr sz_b2) all0)), sz_b2, V5a, (B2.keep K5), O2⟩), ⟨_, rfl⟩, hW, hsame.mono (by decide) (by decide)⟩
def Q_rm_copy2_3 (Z : State) (b : Addr) (mO : Addr) (kb : ClassId) (el0 : Addr) (el1 : Addr) (el2 : Addr) (h0 : Heap) (n0 : Nat) : Option Value → Heap → List Loc → Prop := fun v h L => ∃ (nb : Addr) (nk : ClassId), v = some (.ref nb) ∧ Fr n0 L ∧ Keep h0 h [] ∧ h0.size ≤ nb ∧ Arv Z h nb nk (.object "java/lang/Object") (3 : Int32) [(.ref el0), (.ref el1), (.ref el2)] .null ∧ Exa Z h nb "[Ljava/lang/Object;" ∧ Ovr Z nk "java/lang/Object"
set_option maxRecDepth 65536 in
set_option maxHeartbeats 40000000 in
theorem rm_copy2_3 (l : Launch) (Z : State) (a0 : Array Value) (hw : ∀ d ∈ tables_1, d.before a0 Z = true) (ws : List Jvm.Cond) (b : Addr) (mO : Addr) (kb : ClassId) (el0 : Addr) (el1 : Addr) (el2 : Addr) (h0 : Heap) (n0 : Nat) (Z0 : n0 ≤ h0.size) (V_b : Arv Z h0 b kb (.object "java/lang/Object") (10 : Int32) [(.ref el0), (.ref el1), (.ref el2), .null, .null, .null, .null, .null, .null, .null] .null) (E_b : Exa Z h0 b "[Ljava/lang/Object;") (E_el0 : Exa Z h0 el0 "java/lang/String") (E_el1 : Exa Z h0 el1 "java/lang/String") (E_el2 : Exa Z h0 el2 "java/lang/String") (mir_mO : Mir Z "[Ljava/lang/Object;" mO) :
    MetFree l y23_ (head1 (Jvm.Cond.code y23_ jdk_65_method_119_code 2 (some (.array (.object "java/lang/Object"))) :: ws) R28_) (fun a U => a = #[(.ref b), (.int (3 : Int32))] ∧ Z.Warmed39 U.vm ∧ U.heap = h0) (fun _ _ _ _ _ => True) (fun _ U o U' => ∃ v L, o = .returned v ∧ (Q_rm_copy2_3 Z b mO kb el0 el1 el2 h0 n0) v U'.heap L ∧ FrameEnd U o U' L R28_.cells R28_.slots) := by
  refine MetFree.of_bodySF (plainFor_of_name pn_18) hisR ?_
  intro p e s m args below meth c s₁ Bd hml0 hP hK
  obtain ⟨rfl, hZ, hh⟩ := hP
  have hx := Bd.exec
  have hby := Bd.bytes
  have hml : c.maxLocals = 2 := hml0
  have hown : s.vm.findClass "java/util/Arrays" = some m.cls := findClass_of_methodNamed Bd.named
  have hnm := (name_of_methodNamed Bd.named Bd.method).1
  have X0 : Stand p l e R28_ s m #[(.ref b), (.int (3 : Int32))] below meth c s₁ [] 0 0 := Stand.of_body Bd
  have e0 : s₁.heap = h0 := by rw [← hh, Bd.state]; rfl
  have N0 := Fr.nil n0
  show own_G FrameEnd p e below s R28_.cells R28_.slots (Q_rm_copy2_3 Z b mO kb el0 el1 el2 h0 n0) (s₁.setTop (entryFrame m #[(.ref b), (.int (3 : Int32))] 2))
  refine own_go (Y' := s₁.setTop (mkF m 0 #[rv b, iv (3 : Int32)] [])) ?_ (fun t k => castTop (ef_18 m b (3 : Int32)) k)
  refine own_go ?_ (fun _ hr => XS.aloadN X0.here hx rfl (hb hby d18_0) rfl rfl (XS.iloadN X0.here hx rfl (hb hby d18_1) rfl (XS.aloadN X0.here hx rfl (hb hby d18_2) rfl rfl hr)))
  show own_H (s₁.setTop (mkF m 3 #[rv b, iv (3 : Int32)] [(.ref b), (.int (3 : Int32)), (.ref b)]))
  obtain ⟨T1, X1, e1, st1⟩ := gcls X0 hx hZ hown (hw _ (tm 129 rfl)) (hw _ (tm 130 rfl)) (hw _ (tm 106 rfl)) (hw _ (tm 132 rfl)) (hw _ (tm 131 rfl)) (hw _ (tm 133 rfl)) e0 E_b mir_mO (g := (mkF m 3 #[rv b, iv (3 : Int32)] [(.ref b), (.int (3 : Int32)), (.ref b)])) rfl (by rw [hml]; rfl) rfl (hb hby d18_3) (by decide) (W := 2) (by show 2 * 0 + _ ≤ _; exact Nat.le_of_eq rfl) (by decide)
  refine own_go ?_ (fun _ hr => st1 _ hr)
  show own_H (T1.setTop (mkF m 6 #[rv b, iv (3 : Int32)] [(.ref mO), (.int (3 : Int32)), (.ref b)]))
  obtain ⟨_, _, ⟨T2, L2, k2, n2⟩, -, X2, ⟨Lc2, hQ2, l2, y2, z2⟩, st2⟩ := Jvm.LawKit.callS X1 hx (y := y22_) hown (mvT hZ (hw _ (tm 135 rfl))) (mvT hZ (hw _ (tm 136 rfl))) (mvT hZ (hw _ (tm 127 rfl))) (mvT hZ (hw _ (tm 137 rfl))) (by decide) (backOf (W := 0) (rm_copy3_3 l Z a0 hw [] b mO kb el0 el1 el2 h0 n0 Z0 V_b E_b E_el0 E_el1 E_el2 mir_mO) hZ (hw _ (tm 137 rfl)) (hw _ (tm 127 rfl)) (by decide) (by decide)) (g := (mkF m 6 #[rv b, iv (3 : Int32)] [(.ref mO), (.int (3 : Int32)), (.ref b)])) rfl (by rw [hml]; rfl) (argsL := [(.ref b), (.int (3 : Int32)), (.ref mO)]) (rest := []) (lenOf pd___Ljava_lang_Object_ILjava_lang_Class___Ljava_lang_Object_ rfl) rfl (by show 2 * 0 + _ ≤ _; exact Nat.le_of_eq rfl) (hb hby d18_6) (fun _ _ => ⟨rfl, e1, (by decide : 0 + 1 ≤ _), (by decide : 0 + 3 ≤ _)⟩)
  dsimp only [Pt.U, Pt.locs, Pt.cells, Pt.slots] at X2 l2 y2 z2 st2 hQ2
  subst l2 y2 z2
  obtain ⟨b2_0, kb2_1, rfl, N2q, K2, yb2_0, P2_0, P2_1, P2_2⟩ := hQ2
  have g_b2_0 : n0 ≤ b2_0 := ltr Z0 yb2_0
  have sz_b2_0 : h0.size ≤ b2_0 := ltr (Keep.refl h0 []).1 yb2_0
  have N2 := Fr.app N0 N2q
  refine own_go ?_ (fun _ hr => st2 _ hr)
  show own_H (T2.setTop (mkF m 9 #[rv b, iv (3 : Int32)] [(.ref b2_0)]))
  obtain ⟨fs, hr, hrun, hended, hW, hsame⟩ := X2.leave (v := some (.ref b2_0)) (fun h => by rw [Bd.returns] at h; cases h)
  exact ⟨_, _, retOut X2 hx Bd.returns rfl (Or.inr (Or.inr (Or.inr (Or.inr ⟨rfl, rfl, rfl⟩)))) (hb hby d18_9) hr, hrun, hended, _, _, rfl, ⟨b2_0, kb2_1, rfl, N2, ((Keep.refl h0 []).trans K2 all0), sz_b2_0, P2_0, P2_1, P2_2⟩, ⟨_, rfl⟩, hW, hsame.mono (by decide) (by decide)⟩
def Q_rm_toArray_3 (Z : State) (a1 : Addr) (b : Addr) (mO : Addr) (kb : ClassId) (el0 : Addr) (el1 : Addr) (el2 : Addr) (h0 : Heap) (n0 : Nat) : Option Value → Heap → List Loc → Prop := fun v h L => ∃ (nb : Addr) (nk : ClassId), v = some (.ref nb) ∧ Fr n0 L ∧ Keep h0 h [] ∧ h0.size ≤ nb ∧ Arv Z h nb nk (.object "java/lang/Object") (3 : Int32) [(.ref el0), (.ref el1), (.ref el2)] .null ∧ Exa Z h nb "[Ljava/lang/Object;" ∧ Ovr Z nk "java/lang/Object"
set_option maxRecDepth 65536 in
set_option maxHeartbeats 40000000 in
theorem rm_toArray_3 (l : Launch) (Z : State) (a0 : Array Value) (hw : ∀ d ∈ tables_1, d.before a0 Z = true) (ws : List Jvm.Cond) (a1 : Addr) (b : Addr) (mO : Addr) (kb : ClassId) (el0 : Addr) (el1 : Addr) (el2 : Addr) (h0 : Heap) (n0 : Nat) (Z0 : n0 ≤ h0.size) (E_a1 : Exa Z h0 a1 "java/util/ArrayList") (F_a1_elementData : Fld Z h0 a1 "java/util/ArrayList" "elementData" "[Ljava/lang/Object;" (.ref b)) (F_a1_size : Fld Z h0 a1 "java/util/ArrayList" "size" "I" (.int (3 : Int32))) (V_b : Arv Z h0 b kb (.object "java/lang/Object") (10 : Int32) [(.ref el0), (.ref el1), (.ref el2), .null, .null, .null, .null, .null, .null, .null] .null) (E_b : Exa Z h0 b "[Ljava/lang/Object;") (E_el0 : Exa Z h0 el0 "java/lang/String") (E_el1 : Exa Z h0 el1 "java/lang/String") (E_el2 : Exa Z h0 el2 "java/lang/String") (mir_mO : Mir Z "[Ljava/lang/Object;" mO) :
    MetFree l y24_ (head1 (Jvm.Cond.code y24_ jdk_38_method_16_code 1 (some (.array (.object "java/lang/Object"))) :: ws) R29_) (fun a U => a = #[(.ref a1)] ∧ Z.Warmed39 U.vm ∧ U.heap = h0) (fun _ _ _ _ _ => True) (fun _ U o U' => ∃ v L, o = .returned v ∧ (Q_rm_toArray_3 Z a1 b mO kb el0 el1 el2 h0 n0) v U'.heap L ∧ FrameEnd U o U' L R29_.cells R29_.slots) := by
  refine MetFree.of_bodySF (plainFor_of_name pn_17) hisR ?_
  intro p e s m args below meth c s₁ Bd hml0 hP hK
  obtain ⟨rfl, hZ, hh⟩ := hP
  have hx := Bd.exec
  have hby := Bd.bytes
  have hml : c.maxLocals = 1 := hml0
  have hown : s.vm.findClass "java/util/ArrayList" = some m.cls := findClass_of_methodNamed Bd.named
  have hnm := (name_of_methodNamed Bd.named Bd.method).1
  have X0 : Stand p l e R29_ s m #[(.ref a1)] below meth c s₁ [] 0 0 := Stand.of_body Bd
  have e0 : s₁.heap = h0 := by rw [← hh, Bd.state]; rfl
  have N0 := Fr.nil n0
  show own_G FrameEnd p e below s R29_.cells R29_.slots (Q_rm_toArray_3 Z a1 b mO kb el0 el1 el2 h0 n0) (s₁.setTop (entryFrame m #[(.ref a1)] 1))
  refine own_go (Y' := s₁.setTop (mkF m 0 #[rv a1] [])) ?_ (fun t k => castTop (ef_17 m a1) k)
  refine own_go ?_ (fun _ hr => XS.aloadN X0.here hx rfl (hb hby d17_0) rfl rfl hr)
  show own_H (s₁.setTop (mkF m 1 #[rv a1] [(.ref a1)]))
  obtain ⟨T1, X1, e1, st1⟩ := getF X0 hx hZ hown (host := "") (Or.inl (hw _ (tm 48 rfl))) Via.refl e0 F_a1_elementData (g := (mkF m 1 #[rv a1] [(.ref a1)])) rfl rfl (hb hby d17_1)
  refine own_go ?_ (fun _ hr => st1 _ (XS.aloadN X1.here hx rfl (hb hby d17_4) rfl rfl hr))
  show own_H (T1.setTop (mkF m 5 #[rv a1] [(.ref a1), (.ref b)]))
  obtain ⟨T2, X2, e2, st2⟩ := getF X1 hx hZ hown (host := "") (Or.inl (hw _ (tm 57 rfl))) Via.refl e1 F_a1_size (g := (mkF m 5 #[rv a1] [(.ref a1), (.ref b)])) rfl rfl (hb hby d17_5)
  refine own_go ?_ (fun _ hr => st2 _ hr)
  show own_H (T2.setTop (mkF m 8 #[rv a1] [(.int (3 : Int32)), (.ref b)]))
  obtain ⟨_, _, ⟨T3, L3, k3, n3⟩, -, X3, ⟨Lc3, hQ3, l3, y3, z3⟩, st3⟩ := Jvm.LawKit.callS X2 hx (y := y23_) hown (mvT hZ (hw _ (tm 125 rfl))) (mvT hZ (hw _ (tm 126 rfl))) (mvT hZ (hw _ (tm 127 rfl))) (mvT hZ (hw _ (tm 128 rfl))) (by decide) (backOf (W := 0) (rm_copy2_3 l Z a0 hw [] b mO kb el0 el1 el2 h0 n0 Z0 V_b E_b E_el0 E_el1 E_el2 mir_mO) hZ (hw _ (tm 128 rfl)) (hw _ (tm 127 rfl)) (by decide) (by decide)) (g := (mkF m 8 #[rv a1] [(.int (3 : Int32)), (.ref b)])) rfl (by rw [hml]; rfl) (argsL := [(.ref b), (.int (3 : Int32))]) (rest := []) (lenOf pd___Ljava_lang_Object_I__Ljava_lang_Object_ rfl) rfl (by show 2 * 0 + _ ≤ _; exact Nat.le_of_eq rfl) (hb hby d17_8) (fun _ _ => ⟨rfl, e2, (by decide : 0 + 1 ≤ _), (by decide : 0 + 3 ≤ _)⟩)
  dsimp only [Pt.U, Pt.locs, Pt.cells, Pt.slots] at X3 l3 y3 z3 st3 hQ3
  subst l3 y3 z3
  obtain ⟨b3_0, kb3_1, rfl, N3q, K3, yb3_0, P3_0, P3_1, P3_2⟩ := hQ3
  have g_b3_0 : n0 ≤ b3_0 := ltr Z0 yb3_0
  have sz_b3_0 : h0.size ≤ b3_0 := ltr (Keep.refl h0 []).1 yb3_0
  have N3 := Fr.app N0 N3q
  refine own_go ?_ (fun _ hr => st3 _ hr)
  show own_H (T3.setTop (mkF m 11 #[rv a1] [(.ref b3_0)]))
  obtain ⟨fs, hr, hrun, hended, hW, hsame⟩ := X3.leave (v := some (.ref b3_0)) (fun h => by rw [Bd.returns] at h; cases h)
  exact ⟨_, _, retOut X3 hx Bd.returns rfl (Or.inr (Or.inr (Or.inr (Or.inr ⟨rfl, rfl, rfl⟩)))) (hb hby d17_11) hr, hrun, hended, _, _, rfl, ⟨b3_0, kb3_1, rfl, N3, ((Keep.refl h0 []).trans K3 all0), sz_b3_0, P3_0, P3_1, P3_2⟩, ⟨_, rfl⟩, hW, hsame.mono (by decide) (by decide)⟩
def Q_rm_isEmpty_3 (Z : State) (a1 : Addr) (h0 : Heap) (n0 : Nat) : Option Value → Heap → List Loc → Prop := fun v h L => v = some (.int (0 : Int32)) ∧ Fr n0 L ∧ h = h0
set_option maxRecDepth 65536 in
set_option maxHeartbeats 40000000 in
theorem rm_isEmpty_3 (l : Launch) (Z : State) (a0 : Array Value) (hw : ∀ d ∈ tables_1, d.before a0 Z = true) (ws : List Jvm.Cond) (a1 : Addr) (h0 : Heap) (n0 : Nat) (Z0 : n0 ≤ h0.size) (F_a1_size : Fld Z h0 a1 "java/util/ArrayList" "size" "I" (.int (3 : Int32))) :
    MetFree l y25_ (head1 (Jvm.Cond.code y25_ jdk_38_method_9_code 1 (some .boolean) :: ws) R0_) (fun a U => a = #[(.ref a1)] ∧ Z.Warmed39 U.vm ∧ U.heap = h0) (fun _ _ _ _ _ => True) (fun _ U o U' => ∃ v L, o = .returned v ∧ (Q_rm_isEmpty_3 Z a1 h0 n0) v U'.heap L ∧ FrameEnd U o U' L R0_.cells R0_.slots) := by
  refine MetFree.of_bodySF (plainFor_of_name pn_16) hisR ?_
  intro p e s m args below meth c s₁ Bd hml0 hP hK
  obtain ⟨rfl, hZ, hh⟩ := hP
  have hx := Bd.exec
  have hby := Bd.bytes
  have hml : c.maxLocals = 1 := hml0
  have hown : s.vm.findClass "java/util/ArrayList" = some m.cls := findClass_of_methodNamed Bd.named
  have hnm := (name_of_methodNamed Bd.named Bd.method).1
  have X0 : Stand p l e R0_ s m #[(.ref a1)] below meth c s₁ [] 0 0 := Stand.of_body Bd
  have e0 : s₁.heap = h0 := by rw [← hh, Bd.state]; rfl
  have N0 := Fr.nil n0
  show own_G FrameEnd p e below s R0_.cells R0_.slots (Q_rm_isEmpty_3 Z a1 h0 n0) (s₁.setTop (entryFrame m #[(.ref a1)] 1))
  refine own_go (Y' := s₁.setTop (mkF m 0 #[rv a1] [])) ?_ (fun t k => castTop (ef_16 m a1) k)
  refine own_go ?_ (fun _ hr => XS.aloadN X0.here hx rfl (hb hby d16_0) rfl rfl hr)
  show own_H (s₁.setTop (mkF m 1 #[rv a1] [(.ref a1)]))
  obtain ⟨T1, X1, e1, st1⟩ := getF X0 hx hZ hown (host := "") (Or.inl (hw _ (tm 57 rfl))) Via.refl e0 F_a1_size (g := (mkF m 1 #[rv a1] [(.ref a1)])) rfl rfl (hb hby d16_1)
  refine own_go ?_ (fun _ hr => st1 _ (XS.ifYes X1.here hx rfl (pc0 := 4) (pc' := 11) rfl (hb hby d16_4) rfl ((if0 _ _).trans (feq (by decide : ¬ ((3 : Int32) = (0 : Int32)))).2) (by decide) (by decide) (XS.iconst X1.here hx rfl (hb hby d16_11) hr)))
  show own_H (T1.setTop (mkF m 12 #[rv a1] [(.int (0 : Int32))]))
  obtain ⟨fs, hr, hrun, hended, hW, hsame⟩ := X1.leave (v := some (.int (0 : Int32))) (fun h => by rw [Bd.returns] at h; cases h)
  exact ⟨_, _, retN X1 hx (t := .boolean) Bd.returns (by simp) (hb hby d16_12) hr, hrun, hended, _, _, rfl, ⟨rfl, N0, e1⟩, ⟨_, rfl⟩, hW, hsame.mono (by decide) (by decide)⟩
theorem d26_0 : decode jdk_56_method_4_code 0 = .ok (.aload_n 0, 1) := by decide +kernel
theorem d26_1 : decode jdk_56_method_4_code 1 = .ok (.arraylength, 1) := by decide +kernel
theorem d26_2 : decode jdk_56_method_4_code 2 = .ok (.anewarray 2, 3) := by decide +kernel
theorem d26_5 : decode jdk_56_method_4_code 5 = .ok (.astore_n 1, 1) := by decide +kernel
theorem d26_6 : decode jdk_56_method_4_code 6 = .ok (.iconst 0, 1) := by decide +kernel
theorem d26_7 : decode jdk_56_method_4_code 7 = .ok (.istore_n 2, 1) := by decide +kernel
theorem d26_8 : decode jdk_56_method_4_code 8 = .ok (.iload_n 2, 1) := by decide +kernel
theorem d26_9 : decode jdk_56_method_4_code 9 = .ok (.aload_n 0, 1) := by decide +kernel
theorem d26_10 : decode jdk_56_method_4_code 10 = .ok (.arraylength, 1) := by decide +kernel
theorem d26_11 : decode jdk_56_method_4_code 11 = .ok (.if_icmp .ge 18, 3) := by decide +kernel
theorem d26_14 : decode jdk_56_method_4_code 14 = .ok (.aload_n 1, 1) := by decide +kernel
theorem d26_15 : decode jdk_56_method_4_code 15 = .ok (.iload_n 2, 1) := by decide +kernel
theorem d26_16 : decode jdk_56_method_4_code 16 = .ok (.aload_n 0, 1) := by decide +kernel
theorem d26_17 : decode jdk_56_method_4_code 17 = .ok (.iload_n 2, 1) := by decide +kernel
theorem d26_18 : decode jdk_56_method_4_code 18 = .ok (.aaload, 1) := by decide +kernel
theorem d26_19 : decode jdk_56_method_4_code 19 = .ok (.invokestatic 37, 3) := by decide +kernel
theorem d26_22 : decode jdk_56_method_4_code 22 = .ok (.aastore, 1) := by decide +kernel
theorem d26_23 : decode jdk_56_method_4_code 23 = .ok (.iinc 2 1, 3) := by decide +kernel
theorem d26_26 : decode jdk_56_method_4_code 26 = .ok (.goto (-18), 3) := by decide +kernel
theorem d26_29 : decode jdk_56_method_4_code 29 = .ok (.new 12, 3) := by decide +kernel
theorem d26_32 : decode jdk_56_method_4_code 32 = .ok (.dup, 1) := by decide +kernel
theorem d26_33 : decode jdk_56_method_4_code 33 = .ok (.aload_n 1, 1) := by decide +kernel
theorem d26_34 : decode jdk_56_method_4_code 34 = .ok (.iconst 0, 1) := by decide +kernel
theorem d26_35 : decode jdk_56_method_4_code 35 = .ok (.invokespecial 43, 3) := by decide +kernel
theorem d26_38 : decode jdk_56_method_4_code 38 = .ok (.areturn, 1) := by decide +kernel
theorem pn_26 : plainName "java/util/ImmutableCollections" = true := by first | (simp [plainName, overriddenIn]; done) | decide +kernel
theorem pd___Ljava_lang_Object_Z_V : parseMethodDescriptor "([Ljava/lang/Object;Z)V" = some ⟨[(.array (.object "java/lang/Object")), .boolean], none⟩ := by decide +kernel
theorem ef_26 (m : MethodId) (x0 : Addr) : entryFrame m #[(.ref x0)] 3 = mkF m 0 #[rv x0, .unset, .unset] [] := by first | (simp [entryFrame, mkF, argsToLocals, Value.category]; done) | rfl
def Q_rm_lfa_3 (Z : State) (a1 : Addr) (ka : ClassId) (el0 : Addr) (el1 : Addr) (el2 : Addr) (h0 : Heap) (n0 : Nat) : Option Value → Heap → List Loc → Prop := fun v h L => ∃ (nl : Addr) (nt : Addr) (nq : ClassId), v = some (.ref nl) ∧ Fr n0 L ∧ Keep h0 h [] ∧ h0.size ≤ nl ∧ h0.size ≤ nt ∧ Exa Z h nl "java/util/ImmutableCollections$ListN" ∧ Fld Z h nl "java/util/ImmutableCollections$ListN" "elements" "[Ljava/lang/Object;" (.ref nt) ∧ Arv Z h nt nq (.object "java/lang/Object") (3 : Int32) [(.ref el0), (.ref el1), (.ref el2)] .null
set_option maxRecDepth 65536 in
set_option maxHeartbeats 40000000 in
theorem rm_lfa_3 (l : Launch) (Z : State) (a0 : Array Value) (hw : ∀ d ∈ tables_1, d.before a0 Z = true) (ws : List Jvm.Cond) (a1 : Addr) (ka : ClassId) (el0 : Addr) (el1 : Addr) (el2 : Addr) (h0 : Heap) (n0 : Nat) (Z0 : n0 ≤ h0.size) (V_a1 : Arv Z h0 a1 ka (.object "java/lang/Object") (3 : Int32) [(.ref el0), (.ref el1), (.ref el2)] .null) (E_el0 : Exa Z h0 el0 "java/lang/String") (E_el1 : Exa Z h0 el1 "java/lang/String") (E_el2 : Exa Z h0 el2 "java/lang/String") :
    MetFree l y31_ (head1 (Jvm.Cond.code y31_ jdk_56_method_4_code 3 (some (.object "java/util/List")) :: ws) R30_) (fun a U => a = #[(.ref a1)] ∧ Z.Warmed39 U.vm ∧ U.heap = h0) (fun _ _ _ _ _ => True) (fun _ U o U' => ∃ v L, o = .returned v ∧ (Q_rm_lfa_3 Z a1 ka el0 el1 el2 h0 n0) v U'.heap L ∧ FrameEnd U o U' L R30_.cells R30_.slots) := by
  refine MetFree.of_bodySF (plainFor_of_name pn_26) hisR ?_
  intro p e s m args below meth c s₁ Bd hml0 hP hK
  obtain ⟨rfl, hZ, hh⟩ := hP
  have hx := Bd.exec
  have hby := Bd.bytes
  have hml : c.maxLocals = 3 := hml0
  have hown : s.vm.findClass "java/util/ImmutableCollections" = some m.cls := findClass_of_methodNamed Bd.named
  have hnm := (name_of_methodNamed Bd.named Bd.method).1
  have X0 : Stand p l e R30_ s m #[(.ref a1)] below meth c s₁ [] 0 0 := Stand.of_body Bd
  have e0 : s₁.heap = h0 := by rw [← hh, Bd.state]; rfl
  have N0 := Fr.nil n0
  show own_G FrameEnd p e below s R30_.cells R30_.slots (Q_rm_lfa_3 Z a1 ka el0 el1 el2 h0 n0) (s₁.setTop (entryFrame m #[(.ref a1)] 3))
  refine own_go (Y' := s₁.setTop (mkF m 0 #[rv a1, .unset, .unset] [])) ?_ (fun t k => castTop (ef_26 m a1) k)
  refine own_go ?_ (fun _ hr => XS.aloadN X0.here hx rfl (hb hby d26_0) rfl rfl hr)
  show own_H (s₁.setTop (mkF m 1 #[rv a1, .unset, .unset] [(.ref a1)]))
  obtain ⟨cl1, Ar1, -, S1, M1, -, -⟩ := id V_a1
  refine own_go ?_ (fun _ hr => X0.arraylength hx (by rw [e0]; exact Ar1.1) (State.isArrayOf_alike hZ.alike Ar1.2.1) (g := (mkF m 1 #[rv a1, .unset, .unset] [(.ref a1)])) rfl rfl (hb hby d26_1) _ hr)
  rw [len_of S1 M1]
  show own_H (s₁.setTop (mkF m 2 #[rv a1, .unset, .unset] [(.int (3 : Int32))]))
  obtain ⟨T2, h2, k2, X2, e2, E2, A2, B2, O2, st2⟩ := newRE X0 hx hZ hown (hw _ (tm 185 rfl)) (hw _ (tm 79 rfl)) e0 (g := (mkF m 2 #[rv a1, .unset, .unset] [(.int (3 : Int32))])) rfl (hb hby d26_2) rfl (by decide) (cap := 3) (by decide) (by decide) (by decide) (by decide) (ad := "[Ljava/lang/Object;") (by decide)
  obtain ⟨b2, g2⟩ : ∃ z, z = h0.size := ⟨_, rfl⟩
  rw [← g2] at A2 B2 st2
  have V2 : Arv Z h2 b2 k2 (.object "java/lang/Object") (3 : Int32) [.null, .null, .null] .null := (Arv.new A2 (by decide)).pad (pad_rep [] .null 3)
  have g_b2 : n0 ≤ b2 := ltr Z0 (leq g2.symm)
  have sz_b2 : h0.size ≤ b2 := ltr (Keep.refl h0 []).1 (leq g2.symm)
  refine own_go ?_ (fun _ hr => st2 _ (XS.astoreN X2.here hx rfl (hb hby d26_5) rfl rfl (l' := #[rv a1, rv b2, .unset]) rfl (XS.iconst X2.here hx rfl (hb hby d26_6) (XS.istoreN X2.here hx rfl (hb hby d26_7) rfl (l' := #[rv a1, rv b2, iv (0 : Int32)]) rfl (XS.iloadN X2.here hx rfl (hb hby d26_8) rfl (XS.aloadN X2.here hx rfl (hb hby d26_9) rfl rfl hr))))))
  show own_H (T2.setTop (mkF m 10 #[rv a1, rv b2, iv (0 : Int32)] [(.ref a1), (.int (0 : Int32))]))
  obtain ⟨cl3, Ar3, -, S3, M3, -, -⟩ := id (V_a1.ext E2)
  refine own_go ?_ (fun _ hr => X2.arraylength hx (by rw [e2]; exact Ar3.1) (State.isArrayOf_alike hZ.alike Ar3.2.1) (g := (mkF m 10 #[rv a1, rv b2, iv (0 : Int32)] [(.ref a1), (.int (0 : Int32))])) rfl rfl (hb hby d26_10) _ hr)
  rw [len_of S3 M3]
  show own_H (T2.setTop (mkF m 11 #[rv a1, rv b2, iv (0 : Int32)] [(.int (3 : Int32)), (.int (0 : Int32))]))
  refine own_go ?_ (fun _ hr => XS.icmpNo X2.here hx rfl (hb hby d26_11) rfl (tlt (by decide : (0 : Int32) < (3 : Int32))).2.1 (XS.aloadN X2.here hx rfl (hb hby d26_14) rfl rfl (XS.iloadN X2.here hx rfl (hb hby d26_15) rfl (XS.aloadN X2.here hx rfl (hb hby d26_16) rfl rfl (XS.iloadN X2.here hx rfl (hb hby d26_17) rfl hr)))))
  show own_H (T2.setTop (mkF m 18 #[rv a1, rv b2, iv (0 : Int32)] [(.int (0 : Int32)), (.ref a1), (.int (0 : Int32)), (.ref b2)]))
  obtain ⟨cl4, Ar4, qk4, S4, M4, H4, G4⟩ := id (V_a1.ext E2)
  have hin4 : ¬ ((0 : Int32) < 0 ∨ cl4.slots.size ≤ ((0 : Int32)).toNatClampNeg) := inb_of S4 ⟨by decide, by decide⟩
  refine own_go ?_ (fun _ hr => X2.aaload hx (j := (0 : Int32)) (v := (.ref el0)) (by rw [e2]; exact Ar4.1) (State.isArrayOf_alike hZ.alike Ar4.2.1) rfl Ar4.2.2 hin4 (Has.at H4 hin4 rfl) (g := (mkF m 18 #[rv a1, rv b2, iv (0 : Int32)] [(.int (0 : Int32)), (.ref a1), (.int (0 : Int32)), (.ref b2)])) rfl rfl (hb hby d26_18) _ hr)
  show own_H (T2.setTop (mkF m 19 #[rv a1, rv b2, iv (0 : Int32)] [(.ref el0), (.int (0 : Int32)), (.ref b2)]))
  obtain ⟨_, _, ⟨T5, L5, k5, n5⟩, -, X5, ⟨Lc5, hQ5, l5, y5, z5⟩, st5⟩ := Jvm.LawKit.callS X2 hx (y := y17_) hown (mvT hZ (hw _ (tm 186 rfl))) (mvT hZ (hw _ (tm 172 rfl))) (mvT hZ (hw _ (tm 173 rfl))) (mvT hZ (hw _ (tm 174 rfl))) (by decide) (backOf (W := 2) (rm25 l Z a0 hw [] el0 h2 n0 (ltr Z0 E2.1) ) hZ (hw _ (tm 174 rfl)) (hw _ (tm 173 rfl)) (by decide) (by decide)) (g := (mkF m 19 #[rv a1, rv b2, iv (0 : Int32)] [(.ref el0), (.int (0 : Int32)), (.ref b2)])) rfl (by rw [hml]; rfl) (argsL := [(.ref el0)]) (rest := [(.int (0 : Int32)), (.ref b2)]) (lenOf pd__Ljava_lang_Object__Ljava_lang_Object_ rfl) rfl (by show 2 * 0 + _ ≤ _; exact Nat.le_of_eq rfl) (hb hby d26_19) (fun _ _ => ⟨rfl, e2, (by decide : 1 + 0 ≤ _), (by decide : 3 + 0 ≤ _)⟩)
  dsimp only [Pt.U, Pt.locs, Pt.cells, Pt.slots] at X5 l5 y5 z5 st5 hQ5
  subst l5 y5 z5
  obtain ⟨rfl, N5q, e5⟩ := hQ5
  have N5 := Fr.app N0 N5q
  refine own_go ?_ (fun _ hr => st5 _ hr)
  show own_H (T5.setTop (mkF m 22 #[rv a1, rv b2, iv (0 : Int32)] [(.ref el0), (.int (0 : Int32)), (.ref b2)]))
  obtain ⟨cl6, Ar6, qk6, S6, M6, H6, G6⟩ := id V2
  have hin6 : ¬ ((0 : Int32) < 0 ∨ cl6.slots.size ≤ ((0 : Int32)).toNatClampNeg) := inb_of S6 ⟨by decide, by decide⟩
  obtain ⟨T6, h6, X6, e6, W6, st6⟩ := stR X5 hx hZ e5 Ar6 (j := (0 : Int32)) hin6 rfl (Sto.ofV Ar6 qk6 O2 (Ins.of_exa (E_el0.ext E2) (hw _ (tm 80 rfl)))) (g := (mkF m 22 #[rv a1, rv b2, iv (0 : Int32)] [(.ref el0), (.int (0 : Int32)), (.ref b2)])) rfl rfl (hb hby d26_22)
  have V6 : Arv Z h6 b2 k2 (.object "java/lang/Object") (3 : Int32) [(.ref el0), .null, .null] .null := Arv.set Ar6 qk6 S6 M6 H6 G6 rfl W6 0 rfl (Nat.le_of_ble_eq_true rfl)
  have N6 := Fr.snoc X6 N5 g_b2
  refine own_go ?_ (fun _ hr => st6 _ (XS.iinc X6.here hx rfl (hb hby d26_23) rfl (l' := #[rv a1, rv b2, iv (1 : Int32)]) rfl (XS.goto X6.here hx rfl (pc0 := 26) (pc' := 8) rfl (hb hby d26_26) (by decide) (by decide) (XS.iloadN X6.here hx rfl (hb hby d26_8) rfl (XS.aloadN X6.here hx rfl (hb hby d26_9) rfl rfl hr)))))
  show own_H (T6.setTop (mkF m 10 #[rv a1, rv b2, iv (1 : Int32)] [(.ref a1), (.int (1 : Int32))]))
  obtain ⟨cl7, Ar7, -, S7, M7, -, -⟩ := id ((V_a1.ext E2).other W6 (Nat.ne_of_lt (Nat.lt_of_lt_of_le V_a1.lt (leq g2.symm))))
  refine own_go ?_ (fun _ hr => X6.arraylength hx (by rw [e6]; exact Ar7.1) (State.isArrayOf_alike hZ.alike Ar7.2.1) (g := (mkF m 10 #[rv a1, rv b2, iv (1 : Int32)] [(.ref a1), (.int (1 : Int32))])) rfl rfl (hb hby d26_10) _ hr)
  rw [len_of S7 M7]
  show own_H (T6.setTop (mkF m 11 #[rv a1, rv b2, iv (1 : Int32)] [(.int (3 : Int32)), (.int (1 : Int32))]))
  refine own_go ?_ (fun _ hr => XS.icmpNo X6.here hx rfl (hb hby d26_11) rfl (tlt (by decide : (1 : Int32) < (3 : Int32))).2.1 (XS.aloadN X6.here hx rfl (hb hby d26_14) rfl rfl (XS.iloadN X6.here hx rfl (hb hby d26_15) rfl (XS.aloadN X6.here hx rfl (hb hby d26_16) rfl rfl (XS.iloadN X6.here hx rfl (hb hby d26_17) rfl hr)))))
  show own_H (T6.setTop (mkF m 18 #[rv a1, rv b2, iv (1 : Int32)] [(.int (1 : Int32)), (.ref a1), (.int (1 : Int32)), (.ref b2)]))
  have R1 := ((V_a1.ext E2).other W6 (Nat.ne_of_lt (Nat.lt_of_lt_of_le V_a1.lt (leq g2.symm))))
  obtain ⟨cl8, Ar8, qk8, S8, M8, H8, G8⟩ := id R1
  have hin8 : ¬ ((1 : Int32) < 0 ∨ cl8.slots.size ≤ ((1 : Int32)).toNatClampNeg) := inb_of S8 ⟨by decide, by decide⟩
  refine own_go ?_ (fun _ hr => X6.aaload hx (j := (1 : Int32)) (v := (.ref el1)) (by rw [e6]; exact Ar8.1) (State.isArrayOf_alike hZ.alike Ar8.2.1) rfl Ar8.2.2 hin8 (Has.at H8 hin8 rfl) (g := (mkF m 18 #[rv a1, rv b2, iv (1 : Int32)] [(.int (1 : Int32)), (.ref a1), (.int (1 : Int32)), (.ref b2)])) rfl rfl (hb hby d26_18) _ hr)
  show own_H (T6.setTop (mkF m 19 #[rv a1, rv b2, iv (1 : Int32)] [(.ref el1), (.int (1 : Int32)), (.ref b2)]))
  obtain ⟨_, _, ⟨T9, L9, k9, n9⟩, -, X9, ⟨Lc9, hQ9, l9, y9, z9⟩, st9⟩ := Jvm.LawKit.callS X6 hx (y := y17_) hown (mvT hZ (hw _ (tm 186 rfl))) (mvT hZ (hw _ (tm 172 rfl))) (mvT hZ (hw _ (tm 173 rfl))) (mvT hZ (hw _ (tm 174 rfl))) (by decide) (backOf (W := 2) (rm25 l Z a0 hw [] el1 h6 n0 (ltr (ltr Z0 E2.1) (Keep.of_wr W6).1) ) hZ (hw _ (tm 174 rfl)) (hw _ (tm 173 rfl)) (by decide) (by decide)) (g := (mkF m 19 #[rv a1, rv b2, iv (1 : Int32)] [(.ref el1), (.int (1 : Int32)), (.ref b2)])) rfl (by rw [hml]; rfl) (argsL := [(.ref el1)]) (rest := [(.int (1 : Int32)), (.ref b2)]) (lenOf pd__Ljava_lang_Object__Ljava_lang_Object_ rfl) rfl (by show 2 * 0 + _ ≤ _; exact Nat.le_of_eq rfl) (hb hby d26_19) (fun _ _ => ⟨rfl, e6, (by decide : 1 + 0 ≤ _), (by decide : 3 + 0 ≤ _)⟩)
  dsimp only [Pt.U, Pt.locs, Pt.cells, Pt.slots] at X9 l9 y9 z9 st9 hQ9
  subst l9 y9 z9
  obtain ⟨rfl, N9q, e9⟩ := hQ9
  have N9 := Fr.app N6 N9q
  refine own_go ?_ (fun _ hr => st9 _ hr)
  show own_H (T9.setTop (mkF m 22 #[rv a1, rv b2, iv (1 : Int32)] [(.ref el1), (.int (1 : Int32)), (.ref b2)]))
  obtain ⟨cl10, Ar10, qk10, S10, M10, H10, G10⟩ := id V6
  have hin10 : ¬ ((1 : Int32) < 0 ∨ cl10.slots.size ≤ ((1 : Int32)).toNatClampNeg) := inb_of S10 ⟨by decide, by decide⟩
  obtain ⟨T10, h10, X10, e10, W10, st10⟩ := stR X9 hx hZ e9 Ar10 (j := (1 : Int32)) hin10 rfl (Sto.ofV Ar10 qk10 O2 (Ins.of_exa ((E_el1.ext E2).wr W6) (hw _ (tm 80 rfl)))) (g := (mkF m 22 #[rv a1, rv b2, iv (1 : Int32)] [(.ref el1), (.int (1 : Int32)), (.ref b2)])) rfl rfl (hb hby d26_22)
  have V10 : Arv Z h10 b2 k2 (.object "java/lang/Object") (3 : Int32) [(.ref el0), (.ref el1), .null] .null := Arv.set Ar10 qk10 S10 M10 H10 G10 rfl W10 1 rfl (Nat.le_of_ble_eq_true rfl)
  have N10 := Fr.snoc X10 N9 g_b2
  refine own_go ?_ (fun _ hr => st10 _ (XS.iinc X10.here hx rfl (hb hby d26_23) rfl (l' := #[rv a1, rv b2, iv (2 : Int32)]) rfl (XS.goto X10.here hx rfl (pc0 := 26) (pc' := 8) rfl (hb hby d26_26) (by decide) (by decide) (XS.iloadN X10.here hx rfl (hb hby d26_8) rfl (XS.aloadN X10.here hx rfl (hb hby d26_9) rfl rfl hr)))))
  show own_H (T10.setTop (mkF m 10 #[rv a1, rv b2, iv (2 : Int32)] [(.ref a1), (.int (2 : Int32))]))
  obtain ⟨cl11, Ar11, -, S11, M11, -, -⟩ := id (R1.other W10 (Nat.ne_of_lt (Nat.lt_of_lt_of_le V_a1.lt (leq g2.symm))))
  refine own_go ?_ (fun _ hr => X10.arraylength hx (by rw [e10]; exact Ar11.1) (State.isArrayOf_alike hZ.alike Ar11.2.1) (g := (mkF m 10 #[rv a1, rv b2, iv (2 : Int32)] [(.ref a1), (.int (2 : Int32))])) rfl rfl (hb hby d26_10) _ hr)
  rw [len_of S11 M11]
  show own_H (T10.setTop (mkF m 11 #[rv a1, rv b2, iv (2 : Int32)] [(.int (3 : Int32)), (.int (2 : Int32))]))
  refine own_go ?_ (fun _ hr => XS.icmpNo X10.here hx rfl (hb hby d26_11) rfl (tlt (by decide : (2 : Int32) < (3 : Int32))).2.1 (XS.aloadN X10.here hx rfl (hb hby d26_14) rfl rfl (XS.iloadN X10.here hx rfl (hb hby d26_15) rfl (XS.aloadN X10.here hx rfl (hb hby d26_16) rfl rfl (XS.iloadN X10.here hx rfl (hb hby d26_17) rfl hr)))))
  show own_H (T10.setTop (mkF m 18 #[rv a1, rv b2, iv (2 : Int32)] [(.int (2 : Int32)), (.ref a1), (.int (2 : Int32)), (.ref b2)]))
  obtain ⟨cl12, Ar12, qk12, S12, M12, H12, G12⟩ := id (R1.other W10 (Nat.ne_of_lt (Nat.lt_of_lt_of_le V_a1.lt (leq g2.symm))))
  have hin12 : ¬ ((2 : Int32) < 0 ∨ cl12.slots.size ≤ ((2 : Int32)).toNatClampNeg) := inb_of S12 ⟨by decide, by decide⟩
  refine own_go ?_ (fun _ hr => X10.aaload hx (j := (2 : Int32)) (v := (.ref el2)) (by rw [e10]; exact Ar12.1) (State.isArrayOf_alike hZ.alike Ar12.2.1) rfl Ar12.2.2 hin12 (Has.at H12 hin12 rfl) (g := (mkF m 18 #[rv a1, rv b2, iv (2 : Int32)] [(.int (2 : Int32)), (.ref a1), (.int (2 : Int32)), (.ref b2)])) rfl rfl (hb hby d26_18) _ hr)
  show own_H (T10.setTop (mkF m 19 #[rv a1, rv b2, iv (2 : Int32)] [(.ref el2), (.int (2 : Int32)), (.ref b2)]))
  obtain ⟨_, _, ⟨T13, L13, k13, n13⟩, -, X13, ⟨Lc13, hQ13, l13, y13, z13⟩, st13⟩ := Jvm.LawKit.callS X10 hx (y := y17_) hown (mvT hZ (hw _ (tm 186 rfl))) (mvT hZ (hw _ (tm 172 rfl))) (mvT hZ (hw _ (tm 173 rfl))) (mvT hZ (hw _ (tm 174 rfl))) (by decide) (backOf (W := 2) (rm25 l Z a0 hw [] el2 h10 n0 (ltr (ltr (ltr Z0 E2.1) (Keep.of_wr W6).1) (Keep.of_wr W10).1) ) hZ (hw _ (tm 174 rfl)) (hw _ (tm 173 rfl)) (by decide) (by decide)) (g := (mkF m 19 #[rv a1, rv b2, iv (2 : Int32)] [(.ref el2), (.int (2 : Int32)), (.ref b2)])) rfl (by rw [hml]; rfl) (argsL := [(.ref el2)]) (rest := [(.int (2 : Int32)), (.ref b2)]) (lenOf pd__Ljava_lang_Object__Ljava_lang_Object_ rfl) rfl (by show 2 * 0 + _ ≤ _; exact Nat.le_of_eq rfl) (hb hby d26_19) (fun _ _ => ⟨rfl, e10, (by decide : 1 + 0 ≤ _), (by decide : 3 + 0 ≤ _)⟩)
  dsimp only [Pt.U, Pt.locs, Pt.cells, Pt.slots] at X13 l13 y13 z13 st13 hQ13
  subst l13 y13 z13
  obtain ⟨rfl, N13q, e13⟩ := hQ13
  have N13 := Fr.app N10 N13q
  refine own_go ?_ (fun _ hr => st13 _ hr)
  show own_H (T13.setTop (mkF m 22 #[rv a1, rv b2, iv (2 : Int32)] [(.ref el2), (.int (2 : Int32)), (.ref b2)]))
  obtain ⟨cl14, Ar14, qk14, S14, M14, H14, G14⟩ := id V10
  have hin14 : ¬ ((2 : Int32) < 0 ∨ cl14.slots.size ≤ ((2 : Int32)).toNatClampNeg) := inb_of S14 ⟨by decide, by decide⟩
  obtain ⟨T14, h14, X14, e14, W14, st14⟩ := stR X13 hx hZ e13 Ar14 (j := (2 : Int32)) hin14 rfl (Sto.ofV Ar14 qk14 O2 (Ins.of_exa (((E_el2.ext E2).wr W6).wr W10) (hw _ (tm 80 rfl)))) (g := (mkF m 22 #[rv a1, rv b2, iv (2 : Int32)] [(.ref el2), (.int (2 : Int32)), (.ref b2)])) rfl rfl (hb hby d26_22)
  have V14 : Arv Z h14 b2 k2 (.object "java/lang/Object") (3 : Int32) [(.ref el0), (.ref el1), (.ref el2)] .null := Arv.set Ar14 qk14 S14 M14 H14 G14 rfl W14 2 rfl (Nat.le_of_ble_eq_true rfl)
  have N14 := Fr.snoc X14 N13 g_b2
  refine own_go ?_ (fun _ hr => st14 _ (XS.iinc X14.here hx rfl (hb hby d26_23) rfl (l' := #[rv a1, rv b2, iv (3 : Int32)]) rfl (XS.goto X14.here hx rfl (pc0 := 26) (pc' := 8) rfl (hb hby d26_26) (by decide) (by decide) (XS.iloadN X14.here hx rfl (hb hby d26_8) rfl (XS.aloadN X14.here hx rfl (hb hby d26_9) rfl rfl hr)))))
  show own_H (T14.setTop (mkF m 10 #[rv a1, rv b2, iv (3 : Int32)] [(.ref a1), (.int (3 : Int32))]))
  obtain ⟨cl15, Ar15, -, S15, M15, -, -⟩ := id ((R1.other W10 (Nat.ne_of_lt (Nat.lt_of_lt_of_le V_a1.lt (leq g2.symm)))).other W14 (Nat.ne_of_lt (Nat.lt_of_lt_of_le V_a1.lt (leq g2.symm))))
  refine own_go ?_ (fun _ hr => X14.arraylength hx (by rw [e14]; exact Ar15.1) (State.isArrayOf_alike hZ.alike Ar15.2.1) (g := (mkF m 10 #[rv a1, rv b2, iv (3 : Int32)] [(.ref a1), (.int (3 : Int32))])) rfl rfl (hb hby d26_10) _ hr)
  rw [len_of S15 M15]
  show own_H (T14.setTop (mkF m 11 #[rv a1, rv b2, iv (3 : Int32)] [(.int (3 : Int32)), (.int (3 : Int32))]))
  refine own_go ?_ (fun _ hr => XS.icmpYes X14.here hx rfl (pc0 := 11) (pc' := 29) rfl (hb hby d26_11) rfl (flt (by decide : ¬ ((3 : Int32) < (3 : Int32)))).2.1 (by decide) (by decide) hr)
  show own_H (T14.setTop (mkF m 29 #[rv a1, rv b2, iv (3 : Int32)] []))
  obtain ⟨T16, h16, X16, e16, E16, A16, D16, -, st16⟩ := newO X14 hx hZ hown (hw _ (tm 107 rfl)) (hw _ (tm 187 rfl)) (hw _ (tm 188 rfl)) e14 (g := (mkF m 29 #[rv a1, rv b2, iv (3 : Int32)] [])) rfl (hb hby d26_29) (by decide) (by decide)
  obtain ⟨b16, g16⟩ : ∃ z, z = h14.size := ⟨_, rfl⟩
  rw [← g16] at A16 D16 st16
  have g_b16 : n0 ≤ b16 := ltr (ltr (ltr (ltr (ltr Z0 E2.1) (Keep.of_wr W6).1) (Keep.of_wr W10).1) (Keep.of_wr W14).1) (leq g16.symm)
  have sz_b16 : h0.size ≤ b16 := ltr (((((Keep.refl h0 []).ext E2).wr W6 (Or.inr sz_b2)).wr W10 (Or.inr sz_b2)).wr W14 (Or.inr sz_b2)).1 (leq g16.symm)
  have F16_198 : Fld Z h16 b16 "java/util/ImmutableCollections$ListN" "elements" "[Ljava/lang/Object;" .null := D16 (Or.inr (hw _ (tm 198 rfl))) (ty := (.array (.object "java/lang/Object"))) (by decide)
  have F16_200 : Fld Z h16 b16 "java/util/ImmutableCollections$ListN" "allowNulls" "Z" (.int (0 : Int32)) := D16 (Or.inr (hw _ (tm 200 rfl))) (ty := .boolean) (by decide)
  refine own_go ?_ (fun _ hr => st16 _ (XS.dup X16.here hx rfl (hb hby d26_32) rfl rfl (XS.aloadN X16.here hx rfl (hb hby d26_33) rfl rfl (XS.iconst X16.here hx rfl (hb hby d26_34) hr))))
  show own_H (T16.setTop (mkF m 35 #[rv a1, rv b2, iv (3 : Int32)] [(.int (0 : Int32)), (.ref b2), (.ref b16), (.ref b16)]))
  obtain ⟨_, _, ⟨T17, L17, k17, n17⟩, -, X17, ⟨Lc17, hQ17, l17, y17, z17⟩, st17⟩ := X16.specialBackNest hx (y := y20_) rfl hown (own_mvM hZ (hw _ (tm 189 rfl))) (mvT hZ (hw _ (tm 190 rfl))) (mvT hZ (hw _ (tm 192 rfl))) (by decide) (backOf (W := 1) (rm_lN l Z a0 hw [] b16 b2 (.null) (.int (0 : Int32)) h16 n0 (ltr (ltr (ltr (ltr (ltr Z0 E2.1) (Keep.of_wr W6).1) (Keep.of_wr W10).1) (Keep.of_wr W14).1) E16.1) A16 F16_198 F16_200 g_b16) hZ (hw _ (tm 192 rfl)) (hw _ (tm 188 rfl)) (by decide) (by decide)) (g := (mkF m 35 #[rv a1, rv b2, iv (3 : Int32)] [(.int (0 : Int32)), (.ref b2), (.ref b16), (.ref b16)])) rfl (by rw [hml]; rfl) (Steps.refl _) (a := b16) (argsL := [(.ref b2), (.int (0 : Int32))]) (rest := [(.ref b16)]) (lenOf pd___Ljava_lang_Object_Z_V rfl) rfl (by show 2 * 0 + _ ≤ _; exact Nat.le_of_eq rfl) (hb hby d26_35) (fun _ _ => ⟨rfl, e16, (by decide : 2 + 0 ≤ _), (by decide : 5 + 0 ≤ _)⟩)
  dsimp only [Pt.U, Pt.locs, Pt.cells, Pt.slots] at X17 l17 y17 z17 st17 hQ17
  subst l17 y17 z17
  obtain ⟨rfl, N17q, K17, P17_0, P17_1⟩ := hQ17
  have N17 := Fr.app N14 N17q
  refine own_go ?_ (fun _ hr => st17.trans hr)
  show own_H (T17.setTop (mkF m 38 #[rv a1, rv b2, iv (3 : Int32)] [(.ref b16)]))
  obtain ⟨fs, hr, hrun, hended, hW, hsame⟩ := X17.leave (v := some (.ref b16)) (fun h => by rw [Bd.returns] at h; cases h)
  have ne_b2_b16 : b2 ≠ b16 := Nat.ne_of_lt (Nat.lt_of_lt_of_le V2.lt (ltr (Keep.of_wr W6).1 (ltr (Keep.of_wr W10).1 (ltr (Keep.of_wr W14).1 (leq g16.symm)))))
  exact ⟨_, _, retOut X17 hx Bd.returns rfl (Or.inr (Or.inr (Or.inr (Or.inr ⟨rfl, rfl, rfl⟩)))) (hb hby d26_38) hr, hrun, hended, _, _, rfl, ⟨b16, b2, k2, rfl, N17, (((((((Keep.refl h0 []).ext E2).wr W6 (Or.inr sz_b2)).wr W10 (Or.inr sz_b2)).wr W14 (Or.inr sz_b2)).ext E16).trans K17 (allS (Or.inr sz_b16) all0)), sz_b16, sz_b2, P17_0, P17_1, ((V14.ext E16).keep K17 (ninS ne_b2_b16 nin0))⟩, ⟨_, rfl⟩, hW, hsame.mono (by decide) (by decide)⟩
theorem d21_59 : decode jdk_40_method_47_code 59 = .ok (.aload_n 0, 1) := by decide +kernel
theorem d21_60 : decode jdk_40_method_47_code 60 = .ok (.invokestatic 109, 3) := by decide +kernel
theorem d21_63 : decode jdk_40_method_47_code 63 = .ok (.areturn, 1) := by decide +kernel
def Q_rm_of_3 (Z : State) (a1 : Addr) (ka : ClassId) (el0 : Addr) (el1 : Addr) (el2 : Addr) (h0 : Heap) (n0 : Nat) : Option Value → Heap → List Loc → Prop := fun v h L => ∃ (nl : Addr) (nt : Addr) (nq : ClassId), v = some (.ref nl) ∧ Fr n0 L ∧ Keep h0 h [] ∧ h0.size ≤ nl ∧ h0.size ≤ nt ∧ Exa Z h nl "java/util/ImmutableCollections$ListN" ∧ Fld Z h nl "java/util/ImmutableCollections$ListN" "elements" "[Ljava/lang/Object;" (.ref nt) ∧ Arv Z h nt nq (.object "java/lang/Object") (3 : Int32) [(.ref el0), (.ref el1), (.ref el2)] .null
set_option maxRecDepth 65536 in
set_option maxHeartbeats 40000000 in
theorem rm_of_3 (l : Launch) (Z : State) (a0 : Array Value) (hw : ∀ d ∈ tables_1, d.before a0 Z = true) (ws : List Jvm.Cond) (a1 : Addr) (ka : ClassId) (el0 : Addr) (el1 : Addr) (el2 : Addr) (h0 : Heap) (n0 : Nat) (Z0 : n0 ≤ h0.size) (V_a1 : Arv Z h0 a1 ka (.object "java/lang/Object") (3 : Int32) [(.ref el0), (.ref el1), (.ref el2)] .null) (E_el0 : Exa Z h0 el0 "java/lang/String") (E_el1 : Exa Z h0 el1 "java/lang/String") (E_el2 : Exa Z h0 el2 "java/lang/String") :
    MetFree l y26_ (head1 (Jvm.Cond.code y26_ jdk_40_method_47_code 2 (some (.object "java/util/List")) :: ws) R31_) (fun a U => a = #[(.ref a1)] ∧ Z.Warmed39 U.vm ∧ U.heap = h0) (fun _ _ _ _ _ => True) (fun _ U o U' => ∃ v L, o = .returned v ∧ (Q_rm_of_3 Z a1 ka el0 el1 el2 h0 n0) v U'.heap L ∧ FrameEnd U o U' L R31_.cells R31_.slots) := by
  refine MetFree.of_bodySF (plainFor_of_name pn_21) hisR ?_
  intro p e s m args below meth c s₁ Bd hml0 hP hK
  obtain ⟨rfl, hZ, hh⟩ := hP
  have hx := Bd.exec
  have hby := Bd.bytes
  have hml : c.maxLocals = 2 := hml0
  have hown : s.vm.findClass "java/util/List" = some m.cls := findClass_of_methodNamed Bd.named
  have hnm := (name_of_methodNamed Bd.named Bd.method).1
  have X0 : Stand p l e R31_ s m #[(.ref a1)] below meth c s₁ [] 0 0 := Stand.of_body Bd
  have e0 : s₁.heap = h0 := by rw [← hh, Bd.state]; rfl
  have N0 := Fr.nil n0
  show own_G FrameEnd p e below s R31_.cells R31_.slots (Q_rm_of_3 Z a1 ka el0 el1 el2 h0 n0) (s₁.setTop (entryFrame m #[(.ref a1)] 2))
  refine own_go (Y' := s₁.setTop (mkF m 0 #[rv a1, .unset] [])) ?_ (fun t k => castTop (ef_21 m a1) k)
  refine own_go ?_ (fun _ hr => XS.aloadN X0.here hx rfl (hb hby d21_0) rfl rfl hr)
  show own_H (s₁.setTop (mkF m 1 #[rv a1, .unset] [(.ref a1)]))
  obtain ⟨cl1, Ar1, -, S1, M1, -, -⟩ := id V_a1
  refine own_go ?_ (fun _ hr => X0.arraylength hx (by rw [e0]; exact Ar1.1) (State.isArrayOf_alike hZ.alike Ar1.2.1) (g := (mkF m 1 #[rv a1, .unset] [(.ref a1)])) rfl rfl (hb hby d21_1) _ hr)
  rw [len_of S1 M1]
  show own_H (s₁.setTop (mkF m 2 #[rv a1, .unset] [(.int (3 : Int32))]))
  refine own_go ?_ (fun _ hr => XS.tswOut X0.here hx rfl (pc0 := 2) (pc' := 59) rfl (hb hby d21_2) rfl (by decide) (by decide) (by decide) (XS.aloadN X0.here hx rfl (hb hby d21_59) rfl rfl hr))
  show own_H (s₁.setTop (mkF m 60 #[rv a1, .unset] [(.ref a1)]))
  obtain ⟨_, _, ⟨T2, L2, k2, n2⟩, -, X2, ⟨Lc2, hQ2, l2, y2, z2⟩, st2⟩ := Jvm.LawKit.callS X0 hx (y := y31_) hown (mvT hZ (hw _ (tm 182 rfl))) (mvT hZ (hw _ (tm 183 rfl))) (mvT hZ (hw _ (tm 100 rfl))) (mvT hZ (hw _ (tm 184 rfl))) (by decide) (backOf (W := 0) (rm_lfa_3 l Z a0 hw [] a1 ka el0 el1 el2 h0 n0 Z0 V_a1 E_el0 E_el1 E_el2) hZ (hw _ (tm 184 rfl)) (hw _ (tm 100 rfl)) (by decide) (by decide)) (g := (mkF m 60 #[rv a1, .unset] [(.ref a1)])) rfl (by rw [hml]; rfl) (argsL := [(.ref a1)]) (rest := []) (lenOf pd___Ljava_lang_Object__Ljava_util_List_ rfl) rfl (by show 2 * 0 + _ ≤ _; exact Nat.le_of_eq rfl) (hb hby d21_60) (fun _ _ => ⟨rfl, e0, (by decide : 0 + 2 ≤ _), (by decide : 0 + 5 ≤ _)⟩)
  dsimp only [Pt.U, Pt.locs, Pt.cells, Pt.slots] at X2 l2 y2 z2 st2 hQ2
  subst l2 y2 z2
  obtain ⟨b2_0, b2_1, kb2_2, rfl, N2q, K2, yb2_0, yb2_1, P2_0, P2_1, P2_2⟩ := hQ2
  have g_b2_0 : n0 ≤ b2_0 := ltr Z0 yb2_0
  have sz_b2_0 : h0.size ≤ b2_0 := ltr (Keep.refl h0 []).1 yb2_0
  have g_b2_1 : n0 ≤ b2_1 := ltr Z0 yb2_1
  have sz_b2_1 : h0.size ≤ b2_1 := ltr (Keep.refl h0 []).1 yb2_1
  have N2 := Fr.app N0 N2q
  refine own_go ?_ (fun _ hr => st2 _ hr)
  show own_H (T2.setTop (mkF m 63 #[rv a1, .unset] [(.ref b2_0)]))
  obtain ⟨fs, hr, hrun, hended, hW, hsame⟩ := X2.leave (v := some (.ref b2_0)) (fun h => by rw [Bd.returns] at h; cases h)
  exact ⟨_, _, retOut X2 hx Bd.returns rfl (Or.inr (Or.inr (Or.inr (Or.inr ⟨rfl, rfl, rfl⟩)))) (hb hby d21_63) hr, hrun, hended, _, _, rfl, ⟨b2_0, b2_1, kb2_2, rfl, N2, ((Keep.refl h0 []).trans K2 all0), sz_b2_0, sz_b2_1, P2_0, P2_1, P2_2⟩, ⟨_, rfl⟩, hW, hsame.mono (by decide) (by decide)⟩
def Q_rm_lc_3 (Z : State) (a1 : Addr) (b : Addr) (mO : Addr) (kb : ClassId) (el0 : Addr) (el1 : Addr) (el2 : Addr) (h0 : Heap) (n0 : Nat) : Option Value → Heap → List Loc → Prop := fun v h L => ∃ (nl : Addr) (nt : Addr) (nq : ClassId), v = some (.ref nl) ∧ Fr n0 L ∧ Keep h0 h [] ∧ h0.size ≤ nl ∧ h0.size ≤ nt ∧ Exa Z h nl "java/util/ImmutableCollections$ListN" ∧ Fld Z h nl "java/util/ImmutableCollections$ListN" "elements" "[Ljava/lang/Object;" (.ref nt) ∧ Arv Z h nt nq (.object "java/lang/Object") (3 : Int32) [(.ref el0), (.ref el1), (.ref el2)] .null
set_option maxRecDepth 65536 in
set_option maxHeartbeats 40000000 in
theorem rm_lc_3 (l : Launch) (Z : State) (a0 : Array Value) (hw : ∀ d ∈ tables_1, d.before a0 Z = true) (ws : List Jvm.Cond) (a1 : Addr) (b : Addr) (mO : Addr) (kb : ClassId) (el0 : Addr) (el1 : Addr) (el2 : Addr) (h0 : Heap) (n0 : Nat) (Z0 : n0 ≤ h0.size) (E_a1 : Exa Z h0 a1 "java/util/ArrayList") (F_a1_elementData : Fld Z h0 a1 "java/util/ArrayList" "elementData" "[Ljava/lang/Object;" (.ref b)) (F_a1_size : Fld Z h0 a1 "java/util/ArrayList" "size" "I" (.int (3 : Int32))) (V_b : Arv Z h0 b kb (.object "java/lang/Object") (10 : Int32) [(.ref el0), (.ref el1), (.ref el2), .null, .null, .null, .null, .null, .null, .null] .null) (E_b : Exa Z h0 b "[Ljava/lang/Object;") (E_el0 : Exa Z h0 el0 "java/lang/String") (E_el1 : Exa Z h0 el1 "java/lang/String") (E_el2 : Exa Z h0 el2 "java/lang/String") (mir_mO : Mir Z "[Ljava/lang/Object;" mO) :
    MetFree l y27_ (head1 (Jvm.Cond.code y27_ jdk_56_method_3_code 2 (some (.object "java/util/List")) :: ws) R32_) (fun a U => a = #[(.ref a1)] ∧ Z.Warmed39 U.vm ∧ U.heap = h0) (fun _ _ _ _ _ => True) (fun _ U o U' => ∃ v L, o = .returned v ∧ (Q_rm_lc_3 Z a1 b mO kb el0 el1 el2 h0 n0) v U'.heap L ∧ FrameEnd U o U' L R32_.cells R32_.slots) := by
  refine MetFree.of_bodySF (plainFor_of_name pn_15) hisR ?_
  intro p e s m args below meth c s₁ Bd hml0 hP hK
  obtain ⟨rfl, hZ, hh⟩ := hP
  have hx := Bd.exec
  have hby := Bd.bytes
  have hml : c.maxLocals = 2 := hml0
  have hown : s.vm.findClass "java/util/ImmutableCollections" = some m.cls := findClass_of_methodNamed Bd.named
  have hnm := (name_of_methodNamed Bd.named Bd.method).1
  have X0 : Stand p l e R32_ s m #[(.ref a1)] below meth c s₁ [] 0 0 := Stand.of_body Bd
  have e0 : s₁.heap = h0 := by rw [← hh, Bd.state]; rfl
  have N0 := Fr.nil n0
  show own_G FrameEnd p e below s R32_.cells R32_.slots (Q_rm_lc_3 Z a1 b mO kb el0 el1 el2 h0 n0) (s₁.setTop (entryFrame m #[(.ref a1)] 2))
  refine own_go (Y' := s₁.setTop (mkF m 0 #[rv a1, .unset] [])) ?_ (fun t k => castTop (ef_15 m a1) k)
  refine own_go ?_ (fun _ hr => XS.aloadN X0.here hx rfl (hb hby d15_0) rfl rfl hr)
  show own_H (s₁.setTop (mkF m 1 #[rv a1, .unset] [(.ref a1)]))
  obtain ⟨T1, X1, e1, st1⟩ := instNo X0 hx hZ hown (hw _ (tm 102 rfl)) e0 E_a1 (own_notinst hw (hw _ (tm 151 rfl)) (by decide) (by decide) (by decide) (by decide)) (g := (mkF m 1 #[rv a1, .unset] [(.ref a1)])) rfl rfl (hb hby d15_1)
  refine own_go ?_ (fun _ hr => st1 _ (XS.ifNo X1.here hx rfl (hb hby d15_4) rfl ((if0 _ _).trans (teq (by decide : (0 : Int32) = (0 : Int32))).2) (XS.aloadN X1.here hx rfl (hb hby d15_7) rfl rfl hr)))
  show own_H (T1.setTop (mkF m 8 #[rv a1, .unset] [(.ref a1)]))
  obtain ⟨T2, X2, e2, st2⟩ := instNo X1 hx hZ hown (hw _ (tm 107 rfl)) e1 E_a1 (own_notinst hw (hw _ (tm 187 rfl)) (by decide) (by decide) (by decide) (by decide)) (g := (mkF m 8 #[rv a1, .unset] [(.ref a1)])) rfl rfl (hb hby d15_8)
  refine own_go ?_ (fun _ hr => st2 _ (XS.ifYes X2.here hx rfl (pc0 := 11) (pc' := 31) rfl (hb hby d15_11) rfl ((if0 _ _).trans (teq (by decide : (0 : Int32) = (0 : Int32))).1) (by decide) (by decide) (XS.aloadN X2.here hx rfl (hb hby d15_31) rfl rfl hr)))
  show own_H (T2.setTop (mkF m 32 #[rv a1, .unset] [(.ref a1)]))
  obtain ⟨cq3, kq3, q3a, q3b, q3c⟩ := isOf hZ e2 E_a1
  obtain ⟨_, _, ⟨T3, L3, k3, n3⟩, -, X3, ⟨Lc3, hQ3, l3, y3, z3⟩, st3⟩ := X2.interfaceBack hx (xi := y28_) (y := y25_) hown (mvT hZ (hw _ (tm 108 rfl))) (mvT hZ (hw _ (tm 109 rfl))) (mvT hZ (hw _ (tm 110 rfl))) (mvT hZ (hw _ (tm 111 rfl))) (mvT hZ (hw _ (tm 112 rfl))) (mvT hZ (hw _ (tm 113 rfl))) (mvT hZ (hw _ (tm 114 rfl))) (mvT hZ (hw _ (tm 115 rfl))) (by decide) (backOf (W := 0) (rm_isEmpty_3 l Z a0 hw [] a1 h0 n0 Z0 F_a1_size) hZ (hw _ (tm 116 rfl)) (hw _ (tm 28 rfl)) (by decide) (by decide)) q3a q3b q3c (g := (mkF m 32 #[rv a1, .unset] [(.ref a1)])) rfl (by rw [hml]; rfl) (Steps.refl _) (argsL := []) (rest := []) (lenOf pd___Z rfl) rfl (by show 2 * 0 + _ ≤ _; exact Nat.le_of_eq rfl) (hb hby d15_32) (fun _ _ => ⟨rfl, e2, (by decide : 0 + 0 ≤ _), (by decide : 0 + 0 ≤ _)⟩)
  dsimp only [Pt.U, Pt.locs, Pt.cells, Pt.slots] at X3 l3 y3 z3 st3 hQ3
  subst l3 y3 z3
  obtain ⟨rfl, N3q, e3⟩ := hQ3
  have N3 := Fr.app N0 N3q
  refine own_go ?_ (fun _ hr => st3.trans (XS.ifYes X3.here hx rfl (pc0 := 37) (pc' := 44) rfl (hb hby d15_37) rfl ((if0 _ _).trans (teq (by decide : (0 : Int32) = (0 : Int32))).1) (by decide) (by decide) (XS.aloadN X3.here hx rfl (hb hby d15_44) rfl rfl hr)))
  show own_H (T3.setTop (mkF m 45 #[rv a1, .unset] [(.ref a1)]))
  obtain ⟨cq4, kq4, q4a, q4b, q4c⟩ := isOf hZ e3 E_a1
  obtain ⟨_, _, ⟨T4, L4, k4, n4⟩, -, X4, ⟨Lc4, hQ4, l4, y4, z4⟩, st4⟩ := X3.interfaceBack hx (xi := y29_) (y := y24_) hown (mvT hZ (hw _ (tm 117 rfl))) (mvT hZ (hw _ (tm 118 rfl))) (mvT hZ (hw _ (tm 119 rfl))) (mvT hZ (hw _ (tm 120 rfl))) (mvT hZ (hw _ (tm 121 rfl))) (mvT hZ (hw _ (tm 122 rfl))) (mvT hZ (hw _ (tm 123 rfl))) (mvT hZ (hw _ (tm 115 rfl))) (by decide) (backOf (W := 0) (rm_toArray_3 l Z a0 hw [] a1 b mO kb el0 el1 el2 h0 n0 Z0 E_a1 F_a1_elementData F_a1_size V_b E_b E_el0 E_el1 E_el2 mir_mO) hZ (hw _ (tm 124 rfl)) (hw _ (tm 28 rfl)) (by decide) (by decide)) q4a q4b q4c (g := (mkF m 45 #[rv a1, .unset] [(.ref a1)])) rfl (by rw [hml]; rfl) (Steps.refl _) (argsL := []) (rest := []) (lenOf pd____Ljava_lang_Object_ rfl) rfl (by show 2 * 0 + _ ≤ _; exact Nat.le_of_eq rfl) (hb hby d15_45) (fun _ _ => ⟨rfl, e3, (by decide : 0 + 1 ≤ _), (by decide : 0 + 3 ≤ _)⟩)
  dsimp only [Pt.U, Pt.locs, Pt.cells, Pt.slots] at X4 l4 y4 z4 st4 hQ4
  subst l4 y4 z4
  obtain ⟨b4_0, kb4_1, rfl, N4q, K4, yb4_0, P4_0, P4_1, P4_2⟩ := hQ4
  have g_b4_0 : n0 ≤ b4_0 := ltr Z0 yb4_0
  have sz_b4_0 : h0.size ≤ b4_0 := ltr (Keep.refl h0 []).1 yb4_0
  have N4 := Fr.app N3 N4q
  refine own_go ?_ (fun _ hr => st4.trans hr)
  show own_H (T4.setTop (mkF m 50 #[rv a1, .unset] [(.ref b4_0)]))
  obtain ⟨_, _, ⟨T5, L5, k5, n5⟩, -, X5, ⟨Lc5, hQ5, l5, y5, z5⟩, st5⟩ := Jvm.LawKit.callS X4 hx (y := y26_) hown (mvT hZ (hw _ (tm 147 rfl))) (mvT hZ (hw _ (tm 148 rfl))) (mvT hZ (hw _ (tm 96 rfl))) (mvT hZ (hw _ (tm 149 rfl))) (by decide) (backOf (W := 0) (rm_of_3 l Z a0 hw [] b4_0 kb4_1 el0 el1 el2 T4.heap n0 (ltr Z0 K4.1) P4_0 (E_el0.keep K4) (E_el1.keep K4) (E_el2.keep K4)) hZ (hw _ (tm 149 rfl)) (hw _ (tm 96 rfl)) (by decide) (by decide)) (g := (mkF m 50 #[rv a1, .unset] [(.ref b4_0)])) rfl (by rw [hml]; rfl) (argsL := [(.ref b4_0)]) (rest := []) (lenOf pd___Ljava_lang_Object__Ljava_util_List_ rfl) rfl (by show 2 * 0 + _ ≤ _; exact Nat.le_of_eq rfl) (hb hby d15_50) (fun _ _ => ⟨rfl, rfl, (by decide : 1 + 2 ≤ _), (by decide : 3 + 5 ≤ _)⟩)
  dsimp only [Pt.U, Pt.locs, Pt.cells, Pt.slots] at X5 l5 y5 z5 st5 hQ5
  subst l5 y5 z5
  obtain ⟨b5_0, b5_1, kb5_2, rfl, N5q, K5, yb5_0, yb5_1, P5_0, P5_1, P5_2⟩ := hQ5
  have g_b5_0 : n0 ≤ b5_0 := ltr (ltr Z0 K4.1) yb5_0
  have sz_b5_0 : h0.size ≤ b5_0 := ltr ((Keep.refl h0 []).trans K4 all0).1 yb5_0
  have g_b5_1 : n0 ≤ b5_1 := ltr (ltr Z0 K4.1) yb5_1
  have sz_b5_1 : h0.size ≤ b5_1 := ltr ((Keep.refl h0 []).trans K4 all0).1 yb5_1
  have N5 := Fr.app N4 N5q
  refine own_go ?_ (fun _ hr => st5 _ hr)
  show own_H (T5.setTop (mkF m 53 #[rv a1, .unset] [(.ref b5_0)]))
  obtain ⟨fs, hr, hrun, hended, hW, hsame⟩ := X5.leave (v := some (.ref b5_0)) (fun h => by rw [Bd.returns] at h; cases h)
  exact ⟨_, _, retOut X5 hx Bd.returns rfl (Or.inr (Or.inr (Or.inr (Or.inr ⟨rfl, rfl, rfl⟩)))) (hb hby d15_53) hr, hrun, hended, _, _, rfl, ⟨b5_0, b5_1, kb5_2, rfl, N5, (((Keep.refl h0 []).trans K4 all0).trans K5 all0), sz_b5_0, sz_b5_1, P5_0, P5_1, P5_2⟩, ⟨_, rfl⟩, hW, hsame.mono (by decide) (by decide)⟩
def Q_rm_cp_3 (Z : State) (a1 : Addr) (b : Addr) (mO : Addr) (kb : ClassId) (el0 : Addr) (el1 : Addr) (el2 : Addr) (h0 : Heap) (n0 : Nat) : Option Value → Heap → List Loc → Prop := fun v h L => ∃ (nl : Addr) (nt : Addr) (nq : ClassId), v = some (.ref nl) ∧ Fr n0 L ∧ Keep h0 h [] ∧ h0.size ≤ nl ∧ h0.size ≤ nt ∧ Exa Z h nl "java/util/ImmutableCollections$ListN" ∧ Fld Z h nl "java/util/ImmutableCollections$ListN" "elements" "[Ljava/lang/Object;" (.ref nt) ∧ Arv Z h nt nq (.object "java/lang/Object") (3 : Int32) [(.ref el0), (.ref el1), (.ref el2)] .null
set_option maxRecDepth 65536 in
set_option maxHeartbeats 40000000 in
theorem rm_cp_3 (l : Launch) (Z : State) (a0 : Array Value) (hw : ∀ d ∈ tables_1, d.before a0 Z = true) (ws : List Jvm.Cond) (a1 : Addr) (b : Addr) (mO : Addr) (kb : ClassId) (el0 : Addr) (el1 : Addr) (el2 : Addr) (h0 : Heap) (n0 : Nat) (Z0 : n0 ≤ h0.size) (E_a1 : Exa Z h0 a1 "java/util/ArrayList") (F_a1_elementData : Fld Z h0 a1 "java/util/ArrayList" "elementData" "[Ljava/lang/Object;" (.ref b)) (F_a1_size : Fld Z h0 a1 "java/util/ArrayList" "size" "I" (.int (3 : Int32))) (V_b : Arv Z h0 b kb (.object "java/lang/Object") (10 : Int32) [(.ref el0), (.ref el1), (.ref el2), .null, .null, .null, .null, .null, .null, .null] .null) (E_b : Exa Z h0 b "[Ljava/lang/Object;") (E_el0 : Exa Z h0 el0 "java/lang/String") (E_el1 : Exa Z h0 el1 "java/lang/String") (E_el2 : Exa Z h0 el2 "java/lang/String") (mir_mO : Mir Z "[Ljava/lang/Object;" mO) :
    MetFree l y30_ (head1 (Jvm.Cond.code y30_ jdk_40_method_48_code 1 (some (.object "java/util/List")) :: ws) R33_) (fun a U => a = #[(.ref a1)] ∧ Z.Warmed39 U.vm ∧ U.heap = h0) (fun _ _ _ _ _ => True) (fun _ U o U' => ∃ v L, o = .returned v ∧ (Q_rm_cp_3 Z a1 b mO kb el0 el1 el2 h0 n0) v U'.heap L ∧ FrameEnd U o U' L R33_.cells R33_.slots) := by
  refine MetFree.of_bodySF (plainFor_of_name pn_14) hisR ?_
  intro p e s m args below meth c s₁ Bd hml0 hP hK
  obtain ⟨rfl, hZ, hh⟩ := hP
  have hx := Bd.exec
  have hby := Bd.bytes
  have hml : c.maxLocals = 1 := hml0
  have hown : s.vm.findClass "java/util/List" = some m.cls := findClass_of_methodNamed Bd.named
  have hnm := (name_of_methodNamed Bd.named Bd.method).1
  have X0 : Stand p l e R33_ s m #[(.ref a1)] below meth c s₁ [] 0 0 := Stand.of_body Bd
  have e0 : s₁.heap = h0 := by rw [← hh, Bd.state]; rfl
  have N0 := Fr.nil n0
  show own_G FrameEnd p e below s R33_.cells R33_.slots (Q_rm_cp_3 Z a1 b mO kb el0 el1 el2 h0 n0) (s₁.setTop (entryFrame m #[(.ref a1)] 1))
  refine own_go (Y' := s₁.setTop (mkF m 0 #[rv a1] [])) ?_ (fun t k => castTop (ef_14 m a1) k)
  refine own_go ?_ (fun _ hr => XS.aloadN X0.here hx rfl (hb hby d14_0) rfl rfl hr)
  show own_H (s₁.setTop (mkF m 1 #[rv a1] [(.ref a1)]))
  obtain ⟨_, _, ⟨T1, L1, k1, n1⟩, -, X1, ⟨Lc1, hQ1, l1, y1, z1⟩, st1⟩ := Jvm.LawKit.callS X0 hx (y := y27_) hown (mvT hZ (hw _ (tm 98 rfl))) (mvT hZ (hw _ (tm 99 rfl))) (mvT hZ (hw _ (tm 100 rfl))) (mvT hZ (hw _ (tm 101 rfl))) (by decide) (backOf (W := 0) (rm_lc_3 l Z a0 hw [] a1 b mO kb el0 el1 el2 h0 n0 Z0 E_a1 F_a1_elementData F_a1_size V_b E_b E_el0 E_el1 E_el2 mir_mO) hZ (hw _ (tm 101 rfl)) (hw _ (tm 100 rfl)) (by decide) (by decide)) (g := (mkF m 1 #[rv a1] [(.ref a1)])) rfl (by rw [hml]; rfl) (argsL := [(.ref a1)]) (rest := []) (lenOf pd__Ljava_util_Collection__Ljava_util_List_ rfl) rfl (by show 2 * 0 + _ ≤ _; exact Nat.le_of_eq rfl) (hb hby d14_1) (fun _ _ => ⟨rfl, e0, (by decide : 0 + 3 ≤ _), (by decide : 0 + 8 ≤ _)⟩)
  dsimp only [Pt.U, Pt.locs, Pt.cells, Pt.slots] at X1 l1 y1 z1 st1 hQ1
  subst l1 y1 z1
  obtain ⟨b1_0, b1_1, kb1_2, rfl, N1q, K1, yb1_0, yb1_1, P1_0, P1_1, P1_2⟩ := hQ1
  have g_b1_0 : n0 ≤ b1_0 := ltr Z0 yb1_0
  have sz_b1_0 : h0.size ≤ b1_0 := ltr (Keep.refl h0 []).1 yb1_0
  have g_b1_1 : n0 ≤ b1_1 := ltr Z0 yb1_1
  have sz_b1_1 : h0.size ≤ b1_1 := ltr (Keep.refl h0 []).1 yb1_1
  have N1 := Fr.app N0 N1q
  refine own_go ?_ (fun _ hr => st1 _ hr)
  show own_H (T1.setTop (mkF m 4 #[rv a1] [(.ref b1_0)]))
  obtain ⟨fs, hr, hrun, hended, hW, hsame⟩ := X1.leave (v := some (.ref b1_0)) (fun h => by rw [Bd.returns] at h; cases h)
  exact ⟨_, _, retOut X1 hx Bd.returns rfl (Or.inr (Or.inr (Or.inr (Or.inr ⟨rfl, rfl, rfl⟩)))) (hb hby d14_4) hr, hrun, hended, _, _, rfl, ⟨b1_0, b1_1, kb1_2, rfl, N1, ((Keep.refl h0 []).trans K1 all0), sz_b1_0, sz_b1_1, P1_0, P1_1, P1_2⟩, ⟨_, rfl⟩, hW, hsame.mono (by decide) (by decide)⟩
def Q_rm_min_4 (Z : State)  (h0 : Heap) (n0 : Nat) : Option Value → Heap → List Loc → Prop := fun v h L => v = some (.int (4 : Int32)) ∧ Fr n0 L ∧ h = h0
set_option maxRecDepth 65536 in
set_option maxHeartbeats 40000000 in
theorem rm_min_4 (l : Launch) (Z : State) (a0 : Array Value) (hw : ∀ d ∈ tables_1, d.before a0 Z = true) (ws : List Jvm.Cond)  (h0 : Heap) (n0 : Nat) (Z0 : n0 ≤ h0.size) :
    MetFree l y21_ (head1 (Jvm.Cond.code y21_ jdk_29_method_69_code 2 (some .int) :: ws) R0_) (fun a U => a = #[(.int (10 : Int32)), (.int (4 : Int32))] ∧ Z.Warmed39 U.vm ∧ U.heap = h0) (fun _ _ _ _ _ => True) (fun _ U o U' => ∃ v L, o = .returned v ∧ (Q_rm_min_4 Z  h0 n0) v U'.heap L ∧ FrameEnd U o U' L R0_.cells R0_.slots) := by
  refine MetFree.of_bodySF (Jvm.Free.JP.mathPlain rfl (by decide +kernel)) hisR ?_
  intro p e s m args below meth c s₁ Bd hml0 hP hK
  obtain ⟨rfl, hZ, hh⟩ := hP
  have hx := Bd.exec
  have hby := Bd.bytes
  have hml : c.maxLocals = 2 := hml0
  have hown : s.vm.findClass "java/lang/Math" = some m.cls := findClass_of_methodNamed Bd.named
  have hnm := (name_of_methodNamed Bd.named Bd.method).1
  have X0 : Stand p l e R0_ s m #[(.int (10 : Int32)), (.int (4 : Int32))] below meth c s₁ [] 0 0 := Stand.of_body Bd
  have e0 : s₁.heap = h0 := by rw [← hh, Bd.state]; rfl
  have N0 := Fr.nil n0
  show own_G FrameEnd p e below s R0_.cells R0_.slots (Q_rm_min_4 Z  h0 n0) (s₁.setTop (entryFrame m #[(.int (10 : Int32)), (.int (4 : Int32))] 2))
  refine own_go (Y' := s₁.setTop (mkF m 0 #[iv (10 : Int32), iv (4 : Int32)] [])) ?_ (fun t k => castTop (ef_20 m (10 : Int32) (4 : Int32)) k)
  refine own_go ?_ (fun _ hr => XS.iloadN X0.here hx rfl (hb hby d20_0) rfl (XS.iloadN X0.here hx rfl (hb hby d20_1) rfl (XS.icmpYes X0.here hx rfl (pc0 := 2) (pc' := 9) rfl (hb hby d20_2) rfl (tlt (by decide : (4 : Int32) < (10 : Int32))).2.2.1 (by decide) (by decide) (XS.iloadN X0.here hx rfl (hb hby d20_9) rfl hr))))
  show own_H (s₁.setTop (mkF m 10 #[iv (10 : Int32), iv (4 : Int32)] [(.int (4 : Int32))]))
  obtain ⟨fs, hr, hrun, hended, hW, hsame⟩ := X0.leave (v := some (.int (4 : Int32))) (fun h => by rw [Bd.returns] at h; cases h)
  exact ⟨_, _, retI X0 hx Bd.returns (hb hby d20_10) hr, hrun, hended, _, _, rfl, ⟨rfl, N0, e0⟩, ⟨_, rfl⟩, hW, hsame.mono (by decide) (by decide)⟩
def Q_rm_copy3_4 (Z : State) (b : Addr) (mO : Addr) (kb : ClassId) (el0 : Addr) (el1 : Addr) (el2 : Addr) (el3 : Addr) (h0 : Heap) (n0 : Nat) : Option Value → Heap → List Loc → Prop := fun v h L => ∃ (nb : Addr) (nk : ClassId), v = some (.ref nb) ∧ Fr n0 L ∧ Keep h0 h [] ∧ h0.size ≤ nb ∧ Arv Z h nb nk (.object "java/lang/Object") (4 : Int32) [(.ref el0), (.ref el1), (.ref el2), (.ref el3)] .null ∧ Exa Z h nb "[Ljava/lang/Object;" ∧ Ovr Z nk "java/lang/Object"
set_option maxRecDepth 65536 in
set_option maxHeartbeats 40000000 in
theorem rm_copy3_4 (l : Launch) (Z : State) (a0 : Array Value) (hw : ∀ d ∈ tables_1, d.before a0 Z = true) (ws : List Jvm.Cond) (b : Addr) (mO : Addr) (kb : ClassId) (el0 : Addr) (el1 : Addr) (el2 : Addr) (el3 : Addr) (h0 : Heap) (n0 : Nat) (Z0 : n0 ≤ h0.size) (V_b : Arv Z h0 b kb (.object "java/lang/Object") (10 : Int32) [(.ref el0), (.ref el1), (.ref el2), (.ref el3), .null, .null, .null, .null, .null, .null] .null) (E_b : Exa Z h0 b "[Ljava/lang/Object;") (E_el0 : Exa Z h0 el0 "java/lang/String") (E_el1 : Exa Z h0 el1 "java/lang/String") (E_el2 : Exa Z h0 el2 "java/lang/String") (E_el3 : Exa Z h0 el3 "java/lang/String") (mir_mO : Mir Z "[Ljava/lang/Object;" mO) :
    MetFree l y22_ (head1 (Jvm.Cond.code y22_ jdk_65_method_120_code 4 (some (.array (.object "java/lang/Object"))) :: ws) R34_) (fun a U => a = #[(.ref b), (.int (4 : Int32)), (.ref mO)] ∧ Z.Warmed39 U.vm ∧ U.heap = h0) (fun _ _ _ _ _ => True) (fun _ U o U' => ∃ v L, o = .returned v ∧ (Q_rm_copy3_4 Z b mO kb el0 el1 el2 el3 h0 n0) v U'.heap L ∧ FrameEnd U o U' L R34_.cells R34_.slots) := by
  refine MetFree.of_bodySF (plainFor_of_name pn_19) hisR ?_
  intro p e s m args below meth c s₁ Bd hml0 hP hK
  obtain ⟨rfl, hZ, hh⟩ := hP
  have hx := Bd.exec
  have hby := Bd.bytes
  have hml : c.maxLocals = 4 := hml0
  have hown : s.vm.findClass "java/util/Arrays" = some m.cls := findClass_of_methodNamed Bd.named
  have hnm := (name_of_methodNamed Bd.named Bd.method).1
  have X0 : Stand p l e R34_ s m #[(.ref b), (.int (4 : Int32)), (.ref mO)] below meth c s₁ [] 0 0 := Stand.of_body Bd
  have e0 : s₁.heap = h0 := by rw [← hh, Bd.state]; rfl
  have N0 := Fr.nil n0
  show own_G FrameEnd p e below s R34_.cells R34_.slots (Q_rm_copy3_4 Z b mO kb el0 el1 el2 el3 h0 n0) (s₁.setTop (entryFrame m #[(.ref b), (.int (4 : Int32)), (.ref mO)] 4))
  refine own_go (Y' := s₁.setTop (mkF m 0 #[rv b, iv (4 : Int32), rv mO, .unset] [])) ?_ (fun t k => castTop (ef_19 m b (4 : Int32) mO) k)
  refine own_go ?_ (fun _ hr => XS.aloadN X0.here hx rfl (hb hby d19_0) rfl rfl hr)
  show own_H (s₁.setTop (mkF m 1 #[rv b, iv (4 : Int32), rv mO, .unset] [(.ref mO)]))
  obtain ⟨vm1, X1, st1⟩ := X0.ldcMirror hx hown (mvT hZ (hw _ (tm 138 rfl))) (own_mir hZ mir_mO) (g := (mkF m 1 #[rv b, iv (4 : Int32), rv mO, .unset] [(.ref mO)])) rfl (hb hby d19_1)
  refine own_go ?_ (fun _ hr => st1 _ (Jvm.RoadKit.acmp (g := (mkF m 3 #[rv b, iv (4 : Int32), rv mO, .unset] [(.ref mO), (.ref mO)])) X1 hx rfl rfl rfl (pc0 := 3) (pc' := 6) (same := true) rfl (hb hby d19_3) rfl (decide_eq_true rfl) (by decide) (by decide) (XS.iloadN X1.here hx rfl (hb hby d19_6) rfl hr)))
  show own_H ((s₁.setVm vm1).setTop (mkF m 7 #[rv b, iv (4 : Int32), rv mO, .unset] [(.int (4 : Int32))]))
  obtain ⟨T2, h2, k2, X2, e2, E2, A2, B2, O2, st2⟩ := newRE X1 hx hZ hown (hw _ (tm 139 rfl)) (hw _ (tm 79 rfl)) e0 (g := (mkF m 7 #[rv b, iv (4 : Int32), rv mO, .unset] [(.int (4 : Int32))])) rfl (hb hby d19_7) rfl (by decide) (cap := 4) (by decide) (by decide) (by decide) (by decide) (ad := "[Ljava/lang/Object;") (by decide)
  obtain ⟨b2, g2⟩ : ∃ z, z = h0.size := ⟨_, rfl⟩
  rw [← g2] at A2 B2 st2
  have V2 : Arv Z h2 b2 k2 (.object "java/lang/Object") (4 : Int32) [.null, .null, .null, .null] .null := (Arv.new A2 (by decide)).pad (pad_rep [] .null 4)
  have g_b2 : n0 ≤ b2 := ltr Z0 (leq g2.symm)
  have sz_b2 : h0.size ≤ b2 := ltr (Keep.refl h0 []).1 (leq g2.symm)
  refine own_go ?_ (fun _ hr => st2 _ (XS.goto X2.here hx rfl (pc0 := 10) (pc' := 24) rfl (hb hby d19_10) (by decide) (by decide) (XS.astoreN X2.here hx rfl (hb hby d19_24) rfl rfl (l' := #[rv b, iv (4 : Int32), rv mO, rv b2]) rfl (XS.aloadN X2.here hx rfl (hb hby d19_25) rfl rfl (XS.iconst X2.here hx rfl (hb hby d19_26) (XS.aloadN X2.here hx rfl (hb hby d19_27) rfl rfl (XS.iconst X2.here hx rfl (hb hby d19_28) (XS.aloadN X2.here hx rfl (hb hby d19_29) rfl rfl hr))))))))
  show own_H (T2.setTop (mkF m 30 #[rv b, iv (4 : Int32), rv mO, rv b2] [(.ref b), (.int (0 : Int32)), (.ref b2), (.int (0 : Int32)), (.ref b)]))
  obtain ⟨cl3, Ar3, -, S3, M3, -, -⟩ := id (V_b.ext E2)
  refine own_go ?_ (fun _ hr => X2.arraylength hx (by rw [e2]; exact Ar3.1) (State.isArrayOf_alike hZ.alike Ar3.2.1) (g := (mkF m 30 #[rv b, iv (4 : Int32), rv mO, rv b2] [(.ref b), (.int (0 : Int32)), (.ref b2), (.int (0 : Int32)), (.ref b)])) rfl rfl (hb hby d19_30) _ hr)
  rw [len_of S3 M3]
  show own_H (T2.setTop (mkF m 31 #[rv b, iv (4 : Int32), rv mO, rv b2] [(.int (10 : Int32)), (.int (0 : Int32)), (.ref b2), (.int (0 : Int32)), (.ref b)]))
  refine own_go ?_ (fun _ hr => XS.iloadN X2.here hx rfl (hb hby d19_31) rfl hr)
  show own_H (T2.setTop (mkF m 32 #[rv b, iv (4 : Int32), rv mO, rv b2] [(.int (4 : Int32)), (.int (10 : Int32)), (.int (0 : Int32)), (.ref b2), (.int (0 : Int32)), (.ref b)]))
  obtain ⟨_, _, ⟨T4, L4, k4, n4⟩, -, X4, ⟨Lc4, hQ4, l4, y4, z4⟩, st4⟩ := Jvm.LawKit.callS X2 hx (y := y21_) hown (mvT hZ (hw _ (tm 140 rfl))) (mvT hZ (hw _ (tm 141 rfl))) (mvT hZ (hw _ (tm 76 rfl))) (mvT hZ (hw _ (tm 142 rfl))) (by decide) (backOf (W := 4) (rm_min_4 l Z a0 hw []  h2 n0 (ltr Z0 E2.1) ) hZ (hw _ (tm 142 rfl)) (hw _ (tm 76 rfl)) (by decide) (by decide)) (g := (mkF m 32 #[rv b, iv (4 : Int32), rv mO, rv b2] [(.int (4 : Int32)), (.int (10 : Int32)), (.int (0 : Int32)), (.ref b2), (.int (0 : Int32)), (.ref b)])) rfl (by rw [hml]; rfl) (argsL := [(.int (10 : Int32)), (.int (4 : Int32))]) (rest := [(.int (0 : Int32)), (.ref b2), (.int (0 : Int32)), (.ref b)]) (lenOf pd__II_I rfl) rfl (by show 2 * 0 + _ ≤ _; exact Nat.le_of_eq rfl) (hb hby d19_32) (fun _ _ => ⟨rfl, e2, (by decide : 1 + 0 ≤ _), (by decide : 4 + 0 ≤ _)⟩)
  dsimp only [Pt.U, Pt.locs, Pt.cells, Pt.slots] at X4 l4 y4 z4 st4 hQ4
  subst l4 y4 z4
  obtain ⟨rfl, N4q, e4⟩ := hQ4
  have N4 := Fr.app N0 N4q
  refine own_go ?_ (fun _ hr => st4 _ hr)
  show own_H (T4.setTop (mkF m 35 #[rv b, iv (4 : Int32), rv mO, rv b2] [(.int (4 : Int32)), (.int (0 : Int32)), (.ref b2), (.int (0 : Int32)), (.ref b)]))
  obtain ⟨cb5, Ab5, qb5, -⟩ := id V2
  obtain ⟨T5, h5, L5, X5, e5, N5, K5, V5, st5⟩ := cpA X4 hx hZ hown (hw _ (tm 143 rfl)) (hw _ (tm 146 rfl)) (hw _ (tm 144 rfl)) (hw _ (tm 145 rfl)) e4 (V_b.ext E2) V2 (us := [(.ref el0), (.ref el1), (.ref el2), (.ref el3)]) (Or.inr ⟨rfl, rfl, ⟨Sto.ofV Ab5 qb5 O2 (Ins.of_exa (E_el0.ext E2) (hw _ (tm 80 rfl))), ⟨Sto.ofV Ab5 qb5 O2 (Ins.of_exa (E_el1.ext E2) (hw _ (tm 80 rfl))), ⟨Sto.ofV Ab5 qb5 O2 (Ins.of_exa (E_el2.ext E2) (hw _ (tm 80 rfl))), ⟨Sto.ofV Ab5 qb5 O2 (Ins.of_exa (E_el3.ext E2) (hw _ (tm 80 rfl))), trivial⟩⟩⟩⟩⟩) (by decide) (by decide) (by decide) (by decide) (by decide) rfl (by decide) N4 g_b2 (g := (mkF m 35 #[rv b, iv (4 : Int32), rv mO, rv b2] [(.int (4 : Int32)), (.int (0 : Int32)), (.ref b2), (.int (0 : Int32)), (.ref b)])) rfl (by rw [hml]; rfl) rfl (hb hby d19_35) (by decide) (W := 0) (by show 2 * 0 + _ ≤ _; exact Nat.le_of_eq rfl) (by decide)
  have V5a : Arv Z h5 b2 k2 (.object "java/lang/Object") (4 : Int32) [(.ref el0), (.ref el1), (.ref el2), (.ref el3)] .null := V5
  refine own_go ?_ (fun _ hr => st5 _ (XS.aloadN X5.here hx rfl (hb hby d19_38) rfl rfl hr))
  show own_H (T5.setTop (mkF m 39 #[rv b, iv (4 : Int32), rv mO, rv b2] [(.ref b2)]))
  obtain ⟨fs, hr, hrun, hended, hW, hsame⟩ := X5.leave (v := some (.ref b2)) (fun h => by rw [Bd.returns] at h; cases h)
  exact ⟨_, _, retOut X5 hx Bd.returns rfl (Or.inr (Or.inr (Or.inr (Or.inr ⟨rfl, rfl, rfl⟩)))) (hb hby d19_39) hr, hrun, hended, _, _, rfl, (by rw [show (T5.setFrames fs).heap = h5 from e5]; exact ⟨b2, k2, rfl, N5, (((Keep.refl h0 []).ext E2).trans K5 (allS (Or.inr sz_b2) all0)), sz_b2, V5a, (B2.keep K5), O2⟩), ⟨_, rfl⟩, hW, hsame.mono (by decide) (by decide)⟩
def Q_rm_copy2_4 (Z : State) (b : Addr) (mO : Addr) (kb : ClassId) (el0 : Addr) (el1 : Addr) (el2 : Addr) (el3 : Addr) (h0 : Heap) (n0 : Nat) : Option Value → Heap → List Loc → Prop := fun v h L => ∃ (nb : Addr) (nk : ClassId), v = some (.ref nb) ∧ Fr n0 L ∧ Keep h0 h [] ∧ h0.size ≤ nb ∧ Arv Z h nb nk (.object "java/lang/Object") (4 : Int32) [(.ref el0), (.ref el1), (.ref el2), (.ref el3)] .null ∧ Exa Z h nb "[Ljava/lang/Object;" ∧ Ovr Z nk "java/lang/Object"
set_option maxRecDepth 65536 in
set_option maxHeartbeats 40000000 in
theorem rm_copy2_4 (l : Launch) (Z : State) (a0 : Array Value) (hw : ∀ d ∈ tables_1, d.before a0 Z = true) (ws : List Jvm.Cond) (b : Addr) (mO : Addr) (kb : ClassId) (el0 : Addr) (el1 : Addr) (el2 : Addr) (el3 : Addr) (h0 : Heap) (n0 : Nat) (Z0 : n0 ≤ h0.size) (V_b : Arv Z h0 b kb (.object "java/lang/Object") (10 : Int32) [(.ref el0), (.ref el1), (.ref el2), (.ref el3), .null, .null, .null, .null, .null, .null] .null) (E_b : Exa Z h0 b "[Ljava/lang/Object;") (E_el0 : Exa Z h0 el0 "java/lang/String") (E_el1 : Exa Z h0 el1 "java/lang/String") (E_el2 : Exa Z h0 el2 "java/lang/String") (E_el3 : Exa Z h0 el3 "java/lang/String") (mir_mO : Mir Z "[Ljava/lang/Object;" mO) :
    MetFree l y23_ (head1 (Jvm.Cond.code y23_ jdk_65_method_119_code 2 (some (.array (.object "java/lang/Object"))) :: ws) R35_) (fun a U => a = #[(.ref b), (.int (4 : Int32))] ∧ Z.Warmed39 U.vm ∧ U.heap = h0) (fun _ _ _ _ _ => True) (fun _ U o U' => ∃ v L, o = .returned v ∧ (Q_rm_copy2_4 Z b mO kb el0 el1 el2 el3 h0 n0) v U'.heap L ∧ FrameEnd U o U' L R35_.cells R35_.slots) := by
  refine MetFree.of_bodySF (plainFor_of_name pn_18) hisR ?_
  intro p e s m args below meth c s₁ Bd hml0 hP hK
  obtain ⟨rfl, hZ, hh⟩ := hP
  have hx := Bd.exec
  have hby := Bd.bytes
  have hml : c.maxLocals = 2 := hml0
  have hown : s.vm.findClass "java/util/Arrays" = some m.cls := findClass_of_methodNamed Bd.named
  have hnm := (name_of_methodNamed Bd.named Bd.method).1
  have X0 : Stand p l e R35_ s m #[(.ref b), (.int (4 : Int32))] below meth c s₁ [] 0 0 := Stand.of_body Bd
  have e0 : s₁.heap = h0 := by rw [← hh, Bd.state]; rfl
  have N0 := Fr.nil n0
  show own_G FrameEnd p e below s R35_.cells R35_.slots (Q_rm_copy2_4 Z b mO kb el0 el1 el2 el3 h0 n0) (s₁.setTop (entryFrame m #[(.ref b), (.int (4 : Int32))] 2))
  refine own_go (Y' := s₁.setTop (mkF m 0 #[rv b, iv (4 : Int32)] [])) ?_ (fun t k => castTop (ef_18 m b (4 : Int32)) k)
  refine own_go ?_ (fun _ hr => XS.aloadN X0.here hx rfl (hb hby d18_0) rfl rfl (XS.iloadN X0.here hx rfl (hb hby d18_1) rfl (XS.aloadN X0.here hx rfl (hb hby d18_2) rfl rfl hr)))
  show own_H (s₁.setTop (mkF m 3 #[rv b, iv (4 : Int32)] [(.ref b), (.int (4 : Int32)), (.ref b)]))
  obtain ⟨T1, X1, e1, st1⟩ := gcls X0 hx hZ hown (hw _ (tm 129 rfl)) (hw _ (tm 130 rfl)) (hw _ (tm 106 rfl)) (hw _ (tm 132 rfl)) (hw _ (tm 131 rfl)) (hw _ (tm 133 rfl)) e0 E_b mir_mO (g := (mkF m 3 #[rv b, iv (4 : Int32)] [(.ref b), (.int (4 : Int32)), (.ref b)])) rfl (by rw [hml]; rfl) rfl (hb hby d18_3) (by decide) (W := 2) (by show 2 * 0 + _ ≤ _; exact Nat.le_of_eq rfl) (by decide)
  refine own_go ?_ (fun _ hr => st1 _ hr)
  show own_H (T1.setTop (mkF m 6 #[rv b, iv (4 : Int32)] [(.ref mO), (.int (4 : Int32)), (.ref b)]))
  obtain ⟨_, _, ⟨T2, L2, k2, n2⟩, -, X2, ⟨Lc2, hQ2, l2, y2, z2⟩, st2⟩ := Jvm.LawKit.callS X1 hx (y := y22_) hown (mvT hZ (hw _ (tm 135 rfl))) (mvT hZ (hw _ (tm 136 rfl))) (mvT hZ (hw _ (tm 127 rfl))) (mvT hZ (hw _ (tm 137 rfl))) (by decide) (backOf (W := 0) (rm_copy3_4 l Z a0 hw [] b mO kb el0 el1 el2 el3 h0 n0 Z0 V_b E_b E_el0 E_el1 E_el2 E_el3 mir_mO) hZ (hw _ (tm 137 rfl)) (hw _ (tm 127 rfl)) (by decide) (by decide)) (g := (mkF m 6 #[rv b, iv (4 : Int32)] [(.ref mO), (.int (4 : Int32)), (.ref b)])) rfl (by rw [hml]; rfl) (argsL := [(.ref b), (.int (4 : Int32)), (.ref mO)]) (rest := []) (lenOf pd___Ljava_lang_Object_ILjava_lang_Class___Ljava_lang_Object_ rfl) rfl (by show 2 * 0 + _ ≤ _; exact Nat.le_of_eq rfl) (hb hby d18_6) (fun _ _ => ⟨rfl, e1, (by decide : 0 + 1 ≤ _), (by decide : 0 + 4 ≤ _)⟩)
  dsimp only [Pt.U, Pt.locs, Pt.cells, Pt.slots] at X2 l2 y2 z2 st2 hQ2
  subst l2 y2 z2
  obtain ⟨b2_0, kb2_1, rfl, N2q, K2, yb2_0, P2_0, P2_1, P2_2⟩ := hQ2
  have g_b2_0 : n0 ≤ b2_0 := ltr Z0 yb2_0
  have sz_b2_0 : h0.size ≤ b2_0 := ltr (Keep.refl h0 []).1 yb2_0
  have N2 := Fr.app N0 N2q
  refine own_go ?_ (fun _ hr => st2 _ hr)
  show own_H (T2.setTop (mkF m 9 #[rv b, iv (4 : Int32)] [(.ref b2_0)]))
  obtain ⟨fs, hr, hrun, hended, hW, hsame⟩ := X2.leave (v := some (.ref b2_0)) (fun h => by rw [Bd.returns] at h; cases h)
  exact ⟨_, _, retOut X2 hx Bd.returns rfl (Or.inr (Or.inr (Or.inr (Or.inr ⟨rfl, rfl, rfl⟩)))) (hb hby d18_9) hr, hrun, hended, _, _, rfl, ⟨b2_0, kb2_1, rfl, N2, ((Keep.refl h0 []).trans K2 all0), sz_b2_0, P2_0, P2_1, P2_2⟩, ⟨_, rfl⟩, hW, hsame.mono (by decide) (by decide)⟩
def Q_rm_toArray_4 (Z : State) (a1 : Addr) (b : Addr) (mO : Addr) (kb : ClassId) (el0 : Addr) (el1 : Addr) (el2 : Addr) (el3 : Addr) (h0 : Heap) (n0 : Nat) : Option Value → Heap → List Loc → Prop := fun v h L => ∃ (nb : Addr) (nk : ClassId), v = some (.ref nb) ∧ Fr n0 L ∧ Keep h0 h [] ∧ h0.size ≤ nb ∧ Arv Z h nb nk (.object "java/lang/Object") (4 : Int32) [(.ref el0), (.ref el1), (.ref el2), (.ref el3)] .null ∧ Exa Z h nb "[Ljava/lang/Object;" ∧ Ovr Z nk "java/lang/Object"
set_option maxRecDepth 65536 in
set_option maxHeartbeats 40000000 in
theorem rm_toArray_4 (l : Launch) (Z : State) (a0 : Array Value) (hw : ∀ d ∈ tables_1, d.before a0 Z = true) (ws : List Jvm.Cond) (a1 : Addr) (b : Addr) (mO : Addr) (kb : ClassId) (el0 : Addr) (el1 : Addr) (el2 : Addr) (el3 : Addr) (h0 : Heap) (n0 : Nat) (Z0 : n0 ≤ h0.size) (E_a1 : Exa Z h0 a1 "java/util/ArrayList") (F_a1_elementData : Fld Z h0 a1 "java/util/ArrayList" "elementData" "[Ljava/lang/Object;" (.ref b)) (F_a1_size : Fld Z h0 a1 "java/util/ArrayList" "size" "I" (.int (4 : Int32))) (V_b : Arv Z h0 b kb (.object "java/lang/Object") (10 : Int32) [(.ref el0), (.ref el1), (.ref el2), (.ref el3), .null, .null, .null, .null, .null, .null] .null) (E_b : Exa Z h0 b "[Ljava/lang/Object;") (E_el0 : Exa Z h0 el0 "java/lang/String") (E_el1 : Exa Z h0 el1 "java/lang/String") (E_el2 : Exa Z h0 el2 "java/lang/String") (E_el3 : Exa Z h0 el3 "java/lang/String") (mir_mO : Mir Z "[Ljava/lang/Object;" mO) :
    MetFree l y24_ (head1 (Jvm.Cond.code y24_ jdk_38_method_16_code 1 (some (.array (.object "java/lang/Object"))) :: ws) R36_) (fun a U => a = #[(.ref a1)] ∧ Z.Warmed39 U.vm ∧ U.heap = h0) (fun _ _ _ _ _ => True) (fun _ U o U' => ∃ v L, o = .returned v ∧ (Q_rm_toArray_4 Z a1 b mO kb el0 el1 el2 el3 h0 n0) v U'.heap L ∧ FrameEnd U o U' L R36_.cells R36_.slots) := by
  refine MetFree.of_bodySF (plainFor_of_name pn_17) hisR ?_
  intro p e s m args below meth c s₁ Bd hml0 hP hK
  obtain ⟨rfl, hZ, hh⟩ := hP
  have hx := Bd.exec
  have hby := Bd.bytes
  have hml : c.maxLocals = 1 := hml0
  have hown : s.vm.findClass "java/util/ArrayList" = some m.cls := findClass_of_methodNamed Bd.named
  have hnm := (name_of_methodNamed Bd.named Bd.method).1
  have X0 : Stand p l e R36_ s m #[(.ref a1)] below meth c s₁ [] 0 0 := Stand.of_body Bd
  have e0 : s₁.heap = h0 := by rw [← hh, Bd.state]; rfl
  have N0 := Fr.nil n0
  show own_G FrameEnd p e below s R36_.cells R36_.slots (Q_rm_toArray_4 Z a1 b mO kb el0 el1 el2 el3 h0 n0) (s₁.setTop (entryFrame m #[(.ref a1)] 1))
  refine own_go (Y' := s₁.setTop (mkF m 0 #[rv a1] [])) ?_ (fun t k => castTop (ef_17 m a1) k)
  refine own_go ?_ (fun _ hr => XS.aloadN X0.here hx rfl (hb hby d17_0) rfl rfl hr)
  show own_H (s₁.setTop (mkF m 1 #[rv a1] [(.ref a1)]))
  obtain ⟨T1, X1, e1, st1⟩ := getF X0 hx hZ hown (host := "") (Or.inl (hw _ (tm 48 rfl))) Via.refl e0 F_a1_elementData (g := (mkF m 1 #[rv a1] [(.ref a1)])) rfl rfl (hb hby d17_1)
  refine own_go ?_ (fun _ hr => st1 _ (XS.aloadN X1.here hx rfl (hb hby d17_4) rfl rfl hr))
  show own_H (T1.setTop (mkF m 5 #[rv a1] [(.ref a1), (.ref b)]))
  obtain ⟨T2, X2, e2, st2⟩ := getF X1 hx hZ hown (host := "") (Or.inl (hw _ (tm 57 rfl))) Via.refl e1 F_a1_size (g := (mkF m 5 #[rv a1] [(.ref a1), (.ref b)])) rfl rfl (hb hby d17_5)
  refine own_go ?_ (fun _ hr => st2 _ hr)
  show own_H (T2.setTop (mkF m 8 #[rv a1] [(.int (4 : Int32)), (.ref b)]))
  obtain ⟨_, _, ⟨T3, L3, k3, n3⟩, -, X3, ⟨Lc3, hQ3, l3, y3, z3⟩, st3⟩ := Jvm.LawKit.callS X2 hx (y := y23_) hown (mvT hZ (hw _ (tm 125 rfl))) (mvT hZ (hw _ (tm 126 rfl))) (mvT hZ (hw _ (tm 127 rfl))) (mvT hZ (hw _ (tm 128 rfl))) (by decide) (backOf (W := 0) (rm_copy2_4 l Z a0 hw [] b mO kb el0 el1 el2 el3 h0 n0 Z0 V_b E_b E_el0 E_el1 E_el2 E_el3 mir_mO) hZ (hw _ (tm 128 rfl)) (hw _ (tm 127 rfl)) (by decide) (by decide)) (g := (mkF m 8 #[rv a1] [(.int (4 : Int32)), (.ref b)])) rfl (by rw [hml]; rfl) (argsL := [(.ref b), (.int (4 : Int32))]) (rest := []) (lenOf pd___Ljava_lang_Object_I__Ljava_lang_Object_ rfl) rfl (by show 2 * 0 + _ ≤ _; exact Nat.le_of_eq rfl) (hb hby d17_8) (fun _ _ => ⟨rfl, e2, (by decide : 0 + 1 ≤ _), (by decide : 0 + 4 ≤ _)⟩)
  dsimp only [Pt.U, Pt.locs, Pt.cells, Pt.slots] at X3 l3 y3 z3 st3 hQ3
  subst l3 y3 z3
  obtain ⟨b3_0, kb3_1, rfl, N3q, K3, yb3_0, P3_0, P3_1, P3_2⟩ := hQ3
  have g_b3_0 : n0 ≤ b3_0 := ltr Z0 yb3_0
  have sz_b3_0 : h0.size ≤ b3_0 := ltr (Keep.refl h0 []).1 yb3_0
  have N3 := Fr.app N0 N3q
  refine own_go ?_ (fun _ hr => st3 _ hr)
  show own_H (T3.setTop (mkF m 11 #[rv a1] [(.ref b3_0)]))
  obtain ⟨fs, hr, hrun, hended, hW, hsame⟩ := X3.leave (v := some (.ref b3_0)) (fun h => by rw [Bd.returns] at h; cases h)
  exact ⟨_, _, retOut X3 hx Bd.returns rfl (Or.inr (Or.inr (Or.inr (Or.inr ⟨rfl, rfl, rfl⟩)))) (hb hby d17_11) hr, hrun, hended, _, _, rfl, ⟨b3_0, kb3_1, rfl, N3, ((Keep.refl h0 []).trans K3 all0), sz_b3_0, P3_0, P3_1, P3_2⟩, ⟨_, rfl⟩, hW, hsame.mono (by decide) (by decide)⟩
def Q_rm_isEmpty_4 (Z : State) (a1 : Addr) (h0 : Heap) (n0 : Nat) : Option Value → Heap → List Loc → Prop := fun v h L => v = some (.int (0 : Int32)) ∧ Fr n0 L ∧ h = h0
set_option maxRecDepth 65536 in
set_option maxHeartbeats 40000000 in
theorem rm_isEmpty_4 (l : Launch) (Z : State) (a0 : Array Value) (hw : ∀ d ∈ tables_1, d.before a0 Z = true) (ws : List Jvm.Cond) (a1 : Addr) (h0 : Heap) (n0 : Nat) (Z0 : n0 ≤ h0.size) (F_a1_size : Fld Z h0 a1 "java/util/ArrayList" "size" "I" (.int (4 : Int32))) :
    MetFree l y25_ (head1 (Jvm.Cond.code y25_ jdk_38_method_9_code 1 (some .boolean) :: ws) R0_) (fun a U => a = #[(.ref a1)] ∧ Z.Warmed39 U.vm ∧ U.heap = h0) (fun _ _ _ _ _ => True) (fun _ U o U' => ∃ v L, o = .returned v ∧ (Q_rm_isEmpty_4 Z a1 h0 n0) v U'.heap L ∧ FrameEnd U o U' L R0_.cells R0_.slots) := by
  refine MetFree.of_bodySF (plainFor_of_name pn_16) hisR ?_
  intro p e s m args below meth c s₁ Bd hml0 hP hK
  obtain ⟨rfl, hZ, hh⟩ := hP
  have hx := Bd.exec
  have hby := Bd.bytes
  have hml : c.maxLocals = 1 := hml0
  have hown : s.vm.findClass "java/util/ArrayList" = some m.cls := findClass_of_methodNamed Bd.named
  have hnm := (name_of_methodNamed Bd.named Bd.method).1
  have X0 : Stand p l e R0_ s m #[(.ref a1)] below meth c s₁ [] 0 0 := Stand.of_body Bd
  have e0 : s₁.heap = h0 := by rw [← hh, Bd.state]; rfl
  have N0 := Fr.nil n0
  show own_G FrameEnd p e below s R0_.cells R0_.slots (Q_rm_isEmpty_4 Z a1 h0 n0) (s₁.setTop (entryFrame m #[(.ref a1)] 1))
  refine own_go (Y' := s₁.setTop (mkF m 0 #[rv a1] [])) ?_ (fun t k => castTop (ef_16 m a1) k)
  refine own_go ?_ (fun _ hr => XS.aloadN X0.here hx rfl (hb hby d16_0) rfl rfl hr)
  show own_H (s₁.setTop (mkF m 1 #[rv a1] [(.ref a1)]))
  obtain ⟨T1, X1, e1, st1⟩ := getF X0 hx hZ hown (host := "") (Or.inl (hw _ (tm 57 rfl))) Via.refl e0 F_a1_size (g := (mkF m 1 #[rv a1] [(.ref a1)])) rfl rfl (hb hby d16_1)
  refine own_go ?_ (fun _ hr => st1 _ (XS.ifYes X1.here hx rfl (pc0 := 4) (pc' := 11) rfl (hb hby d16_4) rfl ((if0 _ _).trans (feq (by decide : ¬ ((4 : Int32) = (0 : Int32)))).2) (by decide) (by decide) (XS.iconst X1.here hx rfl (hb hby d16_11) hr)))
  show own_H (T1.setTop (mkF m 12 #[rv a1] [(.int (0 : Int32))]))
  obtain ⟨fs, hr, hrun, hended, hW, hsame⟩ := X1.leave (v := some (.int (0 : Int32))) (fun h => by rw [Bd.returns] at h; cases h)
  exact ⟨_, _, retN X1 hx (t := .boolean) Bd.returns (by simp) (hb hby d16_12) hr, hrun, hended, _, _, rfl, ⟨rfl, N0, e1⟩, ⟨_, rfl⟩, hW, hsame.mono (by decide) (by decide)⟩
def Q_rm_lfa_4 (Z : State) (a1 : Addr) (ka : ClassId) (el0 : Addr) (el1 : Addr) (el2 : Addr) (el3 : Addr) (h0 : Heap) (n0 : Nat) : Option Value → Heap → List Loc → Prop := fun v h L => ∃ (nl : Addr) (nt : Addr) (nq : ClassId), v = some (.ref nl) ∧ Fr n0 L ∧ Keep h0 h [] ∧ h0.size ≤ nl ∧ h0.size ≤ nt ∧ Exa Z h nl "java/util/ImmutableCollections$ListN" ∧ Fld Z h nl "java/util/ImmutableCollections$ListN" "elements" "[Ljava/lang/Object;" (.ref nt) ∧ Arv Z h nt nq (.object "java/lang/Object") (4 : Int32) [(.ref el0), (.ref el1), (.ref el2), (.ref el3)] .null
set_option maxRecDepth 65536 in
set_option maxHeartbeats 40000000 in
theorem rm_lfa_4 (l : Launch) (Z : State) (a0 : Array Value) (hw : ∀ d ∈ tables_1, d.before a0 Z = true) (ws : List Jvm.Cond) (a1 : Addr) (ka : ClassId) (el0 : Addr) (el1 : Addr) (el2 : Addr) (el3 : Addr) (h0 : Heap) (n0 : Nat) (Z0 : n0 ≤ h0.size) (V_a1 : Arv Z h0 a1 ka (.object "java/lang/Object") (4 : Int32) [(.ref el0), (.ref el1), (.ref el2), (.ref el3)] .null) (E_el0 : Exa Z h0 el0 "java/lang/String") (E_el1 : Exa Z h0 el1 "java/lang/String") (E_el2 : Exa Z h0 el2 "java/lang/String") (E_el3 : Exa Z h0 el3 "java/lang/String") :
    MetFree l y31_ (head1 (Jvm.Cond.code y31_ jdk_56_method_4_code 3 (some (.object "java/util/List")) :: ws) R37_) (fun a U => a = #[(.ref a1)] ∧ Z.Warmed39 U.vm ∧ U.heap = h0) (fun _ _ _ _ _ => True) (fun _ U o U' => ∃ v L, o = .returned v ∧ (Q_rm_lfa_4 Z a1 ka el0 el1 el2 el3 h0 n0) v U'.heap L ∧ FrameEnd U o U' L R37_.cells R37_.slots) := by
  refine MetFree.of_bodySF (plainFor_of_name pn_26) hisR ?_
  intro p e s m args below meth c s₁ Bd hml0 hP hK
  obtain ⟨rfl, hZ, hh⟩ := hP
  have hx := Bd.exec
  have hby := Bd.bytes
  have hml : c.maxLocals = 3 := hml0
  have hown : s.vm.findClass "java/util/ImmutableCollections" = some m.cls := findClass_of_methodNamed Bd.named
  have hnm := (name_of_methodNamed Bd.named Bd.method).1
  have X0 : Stand p l e R37_ s m #[(.ref a1)] below meth c s₁ [] 0 0 := Stand.of_body Bd
  have e0 : s₁.heap = h0 := by rw [← hh, Bd.state]; rfl
  have N0 := Fr.nil n0
  show own_G FrameEnd p e below s R37_.cells R37_.slots (Q_rm_lfa_4 Z a1 ka el0 el1 el2 el3 h0 n0) (s₁.setTop (entryFrame m #[(.ref a1)] 3))
  refine own_go (Y' := s₁.setTop (mkF m 0 #[rv a1, .unset, .unset] [])) ?_ (fun t k => castTop (ef_26 m a1) k)
  refine own_go ?_ (fun _ hr => XS.aloadN X0.here hx rfl (hb hby d26_0) rfl rfl hr)
  show own_H (s₁.setTop (mkF m 1 #[rv a1, .unset, .unset] [(.ref a1)]))
  obtain ⟨cl1, Ar1, -, S1, M1, -, -⟩ := id V_a1
  refine own_go ?_ (fun _ hr => X0.arraylength hx (by rw [e0]; exact Ar1.1) (State.isArrayOf_alike hZ.alike Ar1.2.1) (g := (mkF m 1 #[rv a1, .unset, .unset] [(.ref a1)])) rfl rfl (hb hby d26_1) _ hr)
  rw [len_of S1 M1]
  show own_H (s₁.setTop (mkF m 2 #[rv a1, .unset, .unset] [(.int (4 : Int32))]))
  obtain ⟨T2, h2, k2, X2, e2, E2, A2, B2, O2, st2⟩ := newRE X0 hx hZ hown (hw _ (tm 185 rfl)) (hw _ (tm 79 rfl)) e0 (g := (mkF m 2 #[rv a1, .unset, .unset] [(.int (4 : Int32))])) rfl (hb hby d26_2) rfl (by decide) (cap := 4) (by decide) (by decide) (by decide) (by decide) (ad := "[Ljava/lang/Object;") (by decide)
  obtain ⟨b2, g2⟩ : ∃ z, z = h0.size := ⟨_, rfl⟩
  rw [← g2] at A2 B2 st2
  have V2 : Arv Z h2 b2 k2 (.object "java/lang/Object") (4 : Int32) [.null, .null, .null, .null] .null := (Arv.new A2 (by decide)).pad (pad_rep [] .null 4)
  have g_b2 : n0 ≤ b2 := ltr Z0 (leq g2.symm)
  have sz_b2 : h0.size ≤ b2 := ltr (Keep.refl h0 []).1 (leq g2.symm)
  refine own_go ?_ (fun _ hr => st2 _ (XS.astoreN X2.here hx rfl (hb hby d26_5) rfl rfl (l' := #[rv a1, rv b2, .unset]) rfl (XS.iconst X2.here hx rfl (hb hby d26_6) (XS.istoreN X2.here hx rfl (hb hby d26_7) rfl (l' := #[rv a1, rv b2, iv (0 : Int32)]) rfl (XS.iloadN X2.here hx rfl (hb hby d26_8) rfl (XS.aloadN X2.here hx rfl (hb hby d26_9) rfl rfl hr))))))
  show own_H (T2.setTop (mkF m 10 #[rv a1, rv b2, iv (0 : Int32)] [(.ref a1), (.int (0 : Int32))]))
  obtain ⟨cl3, Ar3, -, S3, M3, -, -⟩ := id (V_a1.ext E2)
  refine own_go ?_ (fun _ hr => X2.arraylength hx (by rw [e2]; exact Ar3.1) (State.isArrayOf_alike hZ.alike Ar3.2.1) (g := (mkF m 10 #[rv a1, rv b2, iv (0 : Int32)] [(.ref a1), (.int (0 : Int32))])) rfl rfl (hb hby d26_10) _ hr)
  rw [len_of S3 M3]
  show own_H (T2.setTop (mkF m 11 #[rv a1, rv b2, iv (0 : Int32)] [(.int (4 : Int32)), (.int (0 : Int32))]))
  refine own_go ?_ (fun _ hr => XS.icmpNo X2.here hx rfl (hb hby d26_11) rfl (tlt (by decide : (0 : Int32) < (4 : Int32))).2.1 (XS.aloadN X2.here hx rfl (hb hby d26_14) rfl rfl (XS.iloadN X2.here hx rfl (hb hby d26_15) rfl (XS.aloadN X2.here hx rfl (hb hby d26_16) rfl rfl (XS.iloadN X2.here hx rfl (hb hby d26_17) rfl hr)))))
  show own_H (T2.setTop (mkF m 18 #[rv a1, rv b2, iv (0 : Int32)] [(.int (0 : Int32)), (.ref a1), (.int (0 : Int32)), (.ref b2)]))
  obtain ⟨cl4, Ar4, qk4, S4, M4, H4, G4⟩ := id (V_a1.ext E2)
  have hin4 : ¬ ((0 : Int32) < 0 ∨ cl4.slots.size ≤ ((0 : Int32)).toNatClampNeg) := inb_of S4 ⟨by decide, by decide⟩
  refine own_go ?_ (fun _ hr => X2.aaload hx (j := (0 : Int32)) (v := (.ref el0)) (by rw [e2]; exact Ar4.1) (State.isArrayOf_alike hZ.alike Ar4.2.1) rfl Ar4.2.2 hin4 (Has.at H4 hin4 rfl) (g := (mkF m 18 #[rv a1, rv b2, iv (0 : Int32)] [(.int (0 : Int32)), (.ref a1), (.int (0 : Int32)), (.ref b2)])) rfl rfl (hb hby d26_18) _ hr)
  show own_H (T2.setTop (mkF m 19 #[rv a1, rv b2, iv (0 : Int32)] [(.ref el0), (.int (0 : Int32)), (.ref b2)]))
  obtain ⟨_, _, ⟨T5, L5, k5, n5⟩, -, X5, ⟨Lc5, hQ5, l5, y5, z5⟩, st5⟩ := Jvm.LawKit.callS X2 hx (y := y17_) hown (mvT hZ (hw _ (tm 186 rfl))) (mvT hZ (hw _ (tm 172 rfl))) (mvT hZ (hw _ (tm 173 rfl))) (mvT hZ (hw _ (tm 174 rfl))) (by decide) (backOf (W := 2) (rm25 l Z a0 hw [] el0 h2 n0 (ltr Z0 E2.1) ) hZ (hw _ (tm 174 rfl)) (hw _ (tm 173 rfl)) (by decide) (by decide)) (g := (mkF m 19 #[rv a1, rv b2, iv (0 : Int32)] [(.ref el0), (.int (0 : Int32)), (.ref b2)])) rfl (by rw [hml]; rfl) (argsL := [(.ref el0)]) (rest := [(.int (0 : Int32)), (.ref b2)]) (lenOf pd__Ljava_lang_Object__Ljava_lang_Object_ rfl) rfl (by show 2 * 0 + _ ≤ _; exact Nat.le_of_eq rfl) (hb hby d26_19) (fun _ _ => ⟨rfl, e2, (by decide : 1 + 0 ≤ _), (by decide : 4 + 0 ≤ _)⟩)
  dsimp only [Pt.U, Pt.locs, Pt.cells, Pt.slots] at X5 l5 y5 z5 st5 hQ5
  subst l5 y5 z5
  obtain ⟨rfl, N5q, e5⟩ := hQ5
  have N5 := Fr.app N0 N5q
  refine own_go ?_ (fun _ hr => st5 _ hr)
  show own_H (T5.setTop (mkF m 22 #[rv a1, rv b2, iv (0 : Int32)] [(.ref el0), (.int (0 : Int32)), (.ref b2)]))
  obtain ⟨cl6, Ar6, qk6, S6, M6, H6, G6⟩ := id V2
  have hin6 : ¬ ((0 : Int32) < 0 ∨ cl6.slots.size ≤ ((0 : Int32)).toNatClampNeg) := inb_of S6 ⟨by decide, by decide⟩
  obtain ⟨T6, h6, X6, e6, W6, st6⟩ := stR X5 hx hZ e5 Ar6 (j := (0 : Int32)) hin6 rfl (Sto.ofV Ar6 qk6 O2 (Ins.of_exa (E_el0.ext E2) (hw _ (tm 80 rfl)))) (g := (mkF m 22 #[rv a1, rv b2, iv (0 : Int32)] [(.ref el0), (.int (0 : Int32)), (.ref b2)])) rfl rfl (hb hby d26_22)
  have V6 : Arv Z h6 b2 k2 (.object "java/lang/Object") (4 : Int32) [(.ref el0), .null, .null, .null] .null := Arv.set Ar6 qk6 S6 M6 H6 G6 rfl W6 0 rfl (Nat.le_of_ble_eq_true rfl)
  have N6 := Fr.snoc X6 N5 g_b2
  refine own_go ?_ (fun _ hr => st6 _ (XS.iinc X6.here hx rfl (hb hby d26_23) rfl (l' := #[rv a1, rv b2, iv (1 : Int32)]) rfl (XS.goto X6.here hx rfl (pc0 := 26) (pc' := 8) rfl (hb hby d26_26) (by decide) (by decide) (XS.iloadN X6.here hx rfl (hb hby d26_8) rfl (XS.aloadN X6.here hx rfl (hb hby d26_9) rfl rfl hr)))))
  show own_H (T6.setTop (mkF m 10 #[rv a1, rv b2, iv (1 : Int32)] [(.ref a1), (.int (1 : Int32))]))
  obtain ⟨cl7, Ar7, -, S7, M7, -, -⟩ := id ((V_a1.ext E2).other W6 (Nat.ne_of_lt (Nat.lt_of_lt_of_le V_a1.lt (leq g2.symm))))
  refine own_go ?_ (fun _ hr => X6.arraylength hx (by rw [e6]; exact Ar7.1) (State.isArrayOf_alike hZ.alike Ar7.2.1) (g := (mkF m 10 #[rv a1, rv b2, iv (1 : Int32)] [(.ref a1), (.int (1 : Int32))])) rfl rfl (hb hby d26_10) _ hr)
  rw [len_of S7 M7]
  show own_H (T6.setTop (mkF m 11 #[rv a1, rv b2, iv (1 : Int32)] [(.int (4 : Int32)), (.int (1 : Int32))]))
  refine own_go ?_ (fun _ hr => XS.icmpNo X6.here hx rfl (hb hby d26_11) rfl (tlt (by decide : (1 : Int32) < (4 : Int32))).2.1 (XS.aloadN X6.here hx rfl (hb hby d26_14) rfl rfl (XS.iloadN X6.here hx rfl (hb hby d26_15) rfl (XS.aloadN X6.here hx rfl (hb hby d26_16) rfl rfl (XS.iloadN X6.here hx rfl (hb hby d26_17) rfl hr)))))
  show own_H (T6.setTop (mkF m 18 #[rv a1, rv b2, iv (1 : Int32)] [(.int (1 : Int32)), (.ref a1), (.int (1 : Int32)), (.ref b2)]))
  have R1 := ((V_a1.ext E2).other W6 (Nat.ne_of_lt (Nat.lt_of_lt_of_le V_a1.lt (leq g2.symm))))
  obtain ⟨cl8, Ar8, qk8, S8, M8, H8, G8⟩ := id R1
  have hin8 : ¬ ((1 : Int32) < 0 ∨ cl8.slots.size ≤ ((1 : Int32)).toNatClampNeg) := inb_of S8 ⟨by decide, by decide⟩
  refine own_go ?_ (fun _ hr => X6.aaload hx (j := (1 : Int32)) (v := (.ref el1)) (by rw [e6]; exact Ar8.1) (State.isArrayOf_alike hZ.alike Ar8.2.1) rfl Ar8.2.2 hin8 (Has.at H8 hin8 rfl) (g := (mkF m 18 #[rv a1, rv b2, iv (1 : Int32)] [(.int (1 : Int32)), (.ref a1), (.int (1 : Int32)), (.ref b2)])) rfl rfl (hb hby d26_18) _ hr)
  show own_H (T6.setTop (mkF m 19 #[rv a1, rv b2, iv (1 : Int32)] [(.ref el1), (.int (1 : Int32)), (.ref b2)]))
  obtain ⟨_, _, ⟨T9, L9, k9, n9⟩, -, X9, ⟨Lc9, hQ9, l9, y9, z9⟩, st9⟩ := Jvm.LawKit.callS X6 hx (y := y17_) hown (mvT hZ (hw _ (tm 186 rfl))) (mvT hZ (hw _ (tm 172 rfl))) (mvT hZ (hw _ (tm 173 rfl))) (mvT hZ (hw _ (tm 174 rfl))) (by decide) (backOf (W := 2) (rm25 l Z a0 hw [] el1 h6 n0 (ltr (ltr Z0 E2.1) (Keep.of_wr W6).1) ) hZ (hw _ (tm 174 rfl)) (hw _ (tm 173 rfl)) (by decide) (by decide)) (g := (mkF m 19 #[rv a1, rv b2, iv (1 : Int32)] [(.ref el1), (.int (1 : Int32)), (.ref b2)])) rfl (by rw [hml]; rfl) (argsL := [(.ref el1)]) (rest := [(.int (1 : Int32)), (.ref b2)]) (lenOf pd__Ljava_lang_Object__Ljava_lang_Object_ rfl) rfl (by show 2 * 0 + _ ≤ _; exact Nat.le_of_eq rfl) (hb hby d26_19) (fun _ _ => ⟨rfl, e6, (by decide : 1 + 0 ≤ _), (by decide : 4 + 0 ≤ _)⟩)
  dsimp only [Pt.U, Pt.locs, Pt.cells, Pt.slots] at X9 l9 y9 z9 st9 hQ9
  subst l9 y9 z9
  obtain ⟨rfl, N9q, e9⟩ := hQ9
  have N9 := Fr.app N6 N9q
  refine own_go ?_ (fun _ hr => st9 _ hr)
  show own_H (T9.setTop (mkF m 22 #[rv a1, rv b2, iv (1 : Int32)] [(.ref el1), (.int (1 : Int32)), (.ref b2)]))
  obtain ⟨cl10, Ar10, qk10, S10, M10, H10, G10⟩ := id V6
  have hin10 : ¬ ((1 : Int32) < 0 ∨ cl10.slots.size ≤ ((1 : Int32)).toNatClampNeg) := inb_of S10 ⟨by decide, by decide⟩
  obtain ⟨T10, h10, X10, e10, W10, st10⟩ := stR X9 hx hZ e9 Ar10 (j := (1 : Int32)) hin10 rfl (Sto.ofV Ar10 qk10 O2 (Ins.of_exa ((E_el1.ext E2).wr W6) (hw _ (tm 80 rfl)))) (g := (mkF m 22 #[rv a1, rv b2, iv (1 : Int32)] [(.ref el1), (.int (1 : Int32)), (.ref b2)])) rfl rfl (hb hby d26_22)
  have V10 : Arv Z h10 b2 k2 (.object "java/lang/Object") (4 : Int32) [(.ref el0), (.ref el1), .null, .null] .null := Arv.set Ar10 qk10 S10 M10 H10 G10 rfl W10 1 rfl (Nat.le_of_ble_eq_true rfl)
  have N10 := Fr.snoc X10 N9 g_b2
  refine own_go ?_ (fun _ hr => st10 _ (XS.iinc X10.here hx rfl (hb hby d26_23) rfl (l' := #[rv a1, rv b2, iv (2 : Int32)]) rfl (XS.goto X10.here hx rfl (pc0 := 26) (pc' := 8) rfl (hb hby d26_26) (by decide) (by decide) (XS.iloadN X10.here hx rfl (hb hby d26_8) rfl (XS.aloadN X10.here hx rfl (hb hby d26_9) rfl rfl hr)))))
  show own_H (T10.setTop (mkF m 10 #[rv a1, rv b2, iv (2 : Int32)] [(.ref a1), (.int (2 : Int32))]))
  obtain ⟨cl11, Ar11, -, S11, M11, -, -⟩ := id (R1.other W10 (Nat.ne_of_lt (Nat.lt_of_lt_of_le V_a1.lt (leq g2.symm))))
  refine own_go ?_ (fun _ hr => X10.arraylength hx (by rw [e10]; exact Ar11.1) (State.isArrayOf_alike hZ.alike Ar11.2.1) (g := (mkF m 10 #[rv a1, rv b2, iv (2 : Int32)] [(.ref a1), (.int (2 : Int32))])) rfl rfl (hb hby d26_10) _ hr)
  rw [len_of S11 M11]
  show own_H (T10.setTop (mkF m 11 #[rv a1, rv b2, iv (2 : Int32)] [(.int (4 : Int32)), (.int (2 : Int32))]))
  refine own_go ?_ (fun _ hr => XS.icmpNo X10.here hx rfl (hb hby d26_11) rfl (tlt (by decide : (2 : Int32) < (4 : Int32))).2.1 (XS.aloadN X10.here hx rfl (hb hby d26_14) rfl rfl (XS.iloadN X10.here hx rfl (hb hby d26_15) rfl (XS.aloadN X10.here hx rfl (hb hby d26_16) rfl rfl (XS.iloadN X10.here hx rfl (hb hby d26_17) rfl hr)))))
  show own_H (T10.setTop (mkF m 18 #[rv a1, rv b2, iv (2 : Int32)] [(.int (2 : Int32)), (.ref a1), (.int (2 : Int32)), (.ref b2)]))
  obtain ⟨cl12, Ar12, qk12, S12, M12, H12, G12⟩ := id (R1.other W10 (Nat.ne_of_lt (Nat.lt_of_lt_of_le V_a1.lt (leq g2.symm))))
  have hin12 : ¬ ((2 : Int32) < 0 ∨ cl12.slots.size ≤ ((2 : Int32)).toNatClampNeg) := inb_of S12 ⟨by decide, by decide⟩
  refine own_go ?_ (fun _ hr => X10.aaload hx (j := (2 : Int32)) (v := (.ref el2)) (by rw [e10]; exact Ar12.1) (State.isArrayOf_alike hZ.alike Ar12.2.1) rfl Ar12.2.2 hin12 (Has.at H12 hin12 rfl) (g := (mkF m 18 #[rv a1, rv b2, iv (2 : Int32)] [(.int (2 : Int32)), (.ref a1), (.int (2 : Int32)), (.ref b2)])) rfl rfl (hb hby d26_18) _ hr)
  show own_H (T10.setTop (mkF m 19 #[rv a1, rv b2, iv (2 : Int32)] [(.ref el2), (.int (2 : Int32)), (.ref b2)]))
  obtain ⟨_, _, ⟨T13, L13, k13, n13⟩, -, X13, ⟨Lc13, hQ13, l13, y13, z13⟩, st13⟩ := Jvm.LawKit.callS X10 hx (y := y17_) hown (mvT hZ (hw _ (tm 186 rfl))) (mvT hZ (hw _ (tm 172 rfl))) (mvT hZ (hw _ (tm 173 rfl))) (mvT hZ (hw _ (tm 174 rfl))) (by decide) (backOf (W := 2) (rm25 l Z a0 hw [] el2 h10 n0 (ltr (ltr (ltr Z0 E2.1) (Keep.of_wr W6).1) (Keep.of_wr W10).1) ) hZ (hw _ (tm 174 rfl)) (hw _ (tm 173 rfl)) (by decide) (by decide)) (g := (mkF m 19 #[rv a1, rv b2, iv (2 : Int32)] [(.ref el2), (.int (2 : Int32)), (.ref b2)])) rfl (by rw [hml]; rfl) (argsL := [(.ref el2)]) (rest := [(.int (2 : Int32)), (.ref b2)]) (lenOf pd__Ljava_lang_Object__Ljava_lang_Object_ rfl) rfl (by show 2 * 0 + _ ≤ _; exact Nat.le_of_eq rfl) (hb hby d26_19) (fun _ _ => ⟨rfl, e10, (by decide : 1 + 0 ≤ _), (by decide : 4 + 0 ≤ _)⟩)
  dsimp only [Pt.U, Pt.locs, Pt.cells, Pt.slots] at X13 l13 y13 z13 st13 hQ13
  subst l13 y13 z13
  obtain ⟨rfl, N13q, e13⟩ := hQ13
  have N13 := Fr.app N10 N13q
  refine own_go ?_ (fun _ hr => st13 _ hr)
  show own_H (T13.setTop (mkF m 22 #[rv a1, rv b2, iv (2 : Int32)] [(.ref el2), (.int (2 : Int32)), (.ref b2)]))
  obtain ⟨cl14, Ar14, qk14, S14, M14, H14, G14⟩ := id V10
  have hin14 : ¬ ((2 : Int32) < 0 ∨ cl14.slots.size ≤ ((2 : Int32)).toNatClampNeg) := inb_of S14 ⟨by decide, by decide⟩
  obtain ⟨T14, h14, X14, e14, W14, st14⟩ := stR X13 hx hZ e13 Ar14 (j := (2 : Int32)) hin14 rfl (Sto.ofV Ar14 qk14 O2 (Ins.of_exa (((E_el2.ext E2).wr W6).wr W10) (hw _ (tm 80 rfl)))) (g := (mkF m 22 #[rv a1, rv b2, iv (2 : Int32)] [(.ref el2), (.int (2 : Int32)), (.ref b2)])) rfl rfl (hb hby d26_22)
  have V14 : Arv Z h14 b2 k2 (.object "java/lang/Object") (4 : Int32) [(.ref el0), (.ref el1), (.ref el2), .null] .null := Arv.set Ar14 qk14 S14 M14 H14 G14 rfl W14 2 rfl (Nat.le_of_ble_eq_true rfl)
  have N14 := Fr.snoc X14 N13 g_b2
  refine own_go ?_ (fun _ hr => st14 _ (XS.iinc X14.here hx rfl (hb hby d26_23) rfl (l' := #[rv a1, rv b2, iv (3 : Int32)]) rfl (XS.goto X14.here hx rfl (pc0 := 26) (pc' := 8) rfl (hb hby d26_26) (by decide) (by decide) (XS.iloadN X14.here hx rfl (hb hby d26_8) rfl (XS.aloadN X14.here hx rfl (hb hby d26_9) rfl rfl hr)))))
  show own_H (T14.setTop (mkF m 10 #[rv a1, rv b2, iv (3 : Int32)] [(.ref a1), (.int (3 : Int32))]))
  obtain ⟨cl15, Ar15, -, S15, M15, -, -⟩ := id ((R1.other W10 (Nat.ne_of_lt (Nat.lt_of_lt_of_le V_a1.lt (leq g2.symm)))).other W14 (Nat.ne_of_lt (Nat.lt_of_lt_of_le V_a1.lt (leq g2.symm))))
  refine own_go ?_ (fun _ hr => X14.arraylength hx (by rw [e14]; exact Ar15.1) (State.isArrayOf_alike hZ.alike Ar15.2.1) (g := (mkF m 10 #[rv a1, rv b2, iv (3 : Int32)] [(.ref a1), (.int (3 : Int32))])) rfl rfl (hb hby d26_10) _ hr)
  rw [len_of S15 M15]
  show own_H (T14.setTop (mkF m 11 #[rv a1, rv b2, iv (3 : Int32)] [(.int (4 : Int32)), (.int (3 : Int32))]))
  refine own_go ?_ (fun _ hr => XS.icmpNo X14.here hx rfl (hb hby d26_11) rfl (tlt (by decide : (3 : Int32) < (4 : Int32))).2.1 (XS.aloadN X14.here hx rfl (hb hby d26_14) rfl rfl (XS.iloadN X14.here hx rfl (hb hby d26_15) rfl (XS.aloadN X14.here hx rfl (hb hby d26_16) rfl rfl (XS.iloadN X14.here hx rfl (hb hby d26_17) rfl hr)))))
  show own_H (T14.setTop (mkF m 18 #[rv a1, rv b2, iv (3 : Int32)] [(.int (3 : Int32)), (.ref a1), (.int (3 : Int32)), (.ref b2)]))
  have R2 := ((R1.other W10 (Nat.ne_of_lt (Nat.lt_of_lt_of_le V_a1.lt (leq g2.symm)))).other W14 (Nat.ne_of_lt (Nat.lt_of_lt_of_le V_a1.lt (leq g2.symm))))
  obtain ⟨cl16, Ar16, qk16, S16, M16, H16, G16⟩ := id R2
  have hin16 : ¬ ((3 : Int32) < 0 ∨ cl16.slots.size ≤ ((3 : Int32)).toNatClampNeg) := inb_of S16 ⟨by decide, by decide⟩
  refine own_go ?_ (fun _ hr => X14.aaload hx (j := (3 : Int32)) (v := (.ref el3)) (by rw [e14]; exact Ar16.1) (State.isArrayOf_alike hZ.alike Ar16.2.1) rfl Ar16.2.2 hin16 (Has.at H16 hin16 rfl) (g := (mkF m 18 #[rv a1, rv b2, iv (3 : Int32)] [(.int (3 : Int32)), (.ref a1), (.int (3 : Int32)), (.ref b2)])) rfl rfl (hb hby d26_18) _ hr)
  show own_H (T14.setTop (mkF m 19 #[rv a1, rv b2, iv (3 : Int32)] [(.ref el3), (.int (3 : Int32)), (.ref b2)]))
  obtain ⟨_, _, ⟨T17, L17, k17, n17⟩, -, X17, ⟨Lc17, hQ17, l17, y17, z17⟩, st17⟩ := Jvm.LawKit.callS X14 hx (y := y17_) hown (mvT hZ (hw _ (tm 186 rfl))) (mvT hZ (hw _ (tm 172 rfl))) (mvT hZ (hw _ (tm 173 rfl))) (mvT hZ (hw _ (tm 174 rfl))) (by decide) (backOf (W := 2) (rm25 l Z a0 hw [] el3 h14 n0 (ltr (ltr (ltr (ltr Z0 E2.1) (Keep.of_wr W6).1) (Keep.of_wr W10).1) (Keep.of_wr W14).1) ) hZ (hw _ (tm 174 rfl)) (hw _ (tm 173 rfl)) (by decide) (by decide)) (g := (mkF m 19 #[rv a1, rv b2, iv (3 : Int32)] [(.ref el3), (.int (3 : Int32)), (.ref b2)])) rfl (by rw [hml]; rfl) (argsL := [(.ref el3)]) (rest := [(.int (3 : Int32)), (.ref b2)]) (lenOf pd__Ljava_lang_Object__Ljava_lang_Object_ rfl) rfl (by show 2 * 0 + _ ≤ _; exact Nat.le_of_eq rfl) (hb hby d26_19) (fun _ _ => ⟨rfl, e14, (by decide : 1 + 0 ≤ _), (by decide : 4 + 0 ≤ _)⟩)
  dsimp only [Pt.U, Pt.locs, Pt.cells, Pt.slots] at X17 l17 y17 z17 st17 hQ17
  subst l17 y17 z17
  obtain ⟨rfl, N17q, e17⟩ := hQ17
  have N17 := Fr.app N14 N17q
  refine own_go ?_ (fun _ hr => st17 _ hr)
  show own_H (T17.setTop (mkF m 22 #[rv a1, rv b2, iv (3 : Int32)] [(.ref el3), (.int (3 : Int32)), (.ref b2)]))
  obtain ⟨cl18, Ar18, qk18, S18, M18, H18, G18⟩ := id V14
  have hin18 : ¬ ((3 : Int32) < 0 ∨ cl18.slots.size ≤ ((3 : Int32)).toNatClampNeg) := inb_of S18 ⟨by decide, by decide⟩
  obtain ⟨T18, h18, X18, e18, W18, st18⟩ := stR X17 hx hZ e17 Ar18 (j := (3 : Int32)) hin18 rfl (Sto.ofV Ar18 qk18 O2 (Ins.of_exa ((((E_el3.ext E2).wr W6).wr W10).wr W14) (hw _ (tm 80 rfl)))) (g := (mkF m 22 #[rv a1, rv b2, iv (3 : Int32)] [(.ref el3), (.int (3 : Int32)), (.ref b2)])) rfl rfl (hb hby d26_22)
  have V18 : Arv Z h18 b2 k2 (.object "java/lang/Object") (4 : Int32) [(.ref el0), (.ref el1), (.ref el2), (.ref el3)] .null := Arv.set Ar18 qk18 S18 M18 H18 G18 rfl W18 3 rfl (Nat.le_of_ble_eq_true rfl)
  have N18 := Fr.snoc X18 N17 g_b2
  refine own_go ?_ (fun _ hr => st18 _ (XS.iinc X18.here hx rfl (hb hby d26_23) rfl (l' := #[rv a1, rv b2, iv (4 : Int32)]) rfl (XS.goto X18.here hx rfl (pc0 := 26) (pc' := 8) rfl (hb hby d26_26) (by decide) (by decide) (XS.iloadN X18.here hx rfl (hb hby d26_8) rfl (XS.aloadN X18.here hx rfl (hb hby d26_9) rfl rfl hr)))))
  show own_H (T18.setTop (mkF m 10 #[rv a1, rv b2, iv (4 : Int32)] [(.ref a1), (.int (4 : Int32))]))
  obtain ⟨cl19, Ar19, -, S19, M19, -, -⟩ := id (R2.other W18 (Nat.ne_of_lt (Nat.lt_of_lt_of_le V_a1.lt (leq g2.symm))))
  refine own_go ?_ (fun _ hr => X18.arraylength hx (by rw [e18]; exact Ar19.1) (State.isArrayOf_alike hZ.alike Ar19.2.1) (g := (mkF m 10 #[rv a1, rv b2, iv (4 : Int32)] [(.ref a1), (.int (4 : Int32))])) rfl rfl (hb hby d26_10) _ hr)
  rw [len_of S19 M19]
  show own_H (T18.setTop (mkF m 11 #[rv a1, rv b2, iv (4 : Int32)] [(.int (4 : Int32)), (.int (4 : Int32))]))
  refine own_go ?_ (fun _ hr => XS.icmpYes X18.here hx rfl (pc0 := 11) (pc' := 29) rfl (hb hby d26_11) rfl (flt (by decide : ¬ ((4 : Int32) < (4 : Int32)))).2.1 (by decide) (by decide) hr)
  show own_H (T18.setTop (mkF m 29 #[rv a1, rv b2, iv (4 : Int32)] []))
  obtain ⟨T20, h20, X20, e20, E20, A20, D20, -, st20⟩ := newO X18 hx hZ hown (hw _ (tm 107 rfl)) (hw _ (tm 187 rfl)) (hw _ (tm 188 rfl)) e18 (g := (mkF m 29 #[rv a1, rv b2, iv (4 : Int32)] [])) rfl (hb hby d26_29) (by decide) (by decide)
  obtain ⟨b20, g20⟩ : ∃ z, z = h18.size := ⟨_, rfl⟩
  rw [← g20] at A20 D20 st20
  have g_b20 : n0 ≤ b20 := ltr (ltr (ltr (ltr (ltr (ltr Z0 E2.1) (Keep.of_wr W6).1) (Keep.of_wr W10).1) (Keep.of_wr W14).1) (Keep.of_wr W18).1) (leq g20.symm)
  have sz_b20 : h0.size ≤ b20 := ltr ((((((Keep.refl h0 []).ext E2).wr W6 (Or.inr sz_b2)).wr W10 (Or.inr sz_b2)).wr W14 (Or.inr sz_b2)).wr W18 (Or.inr sz_b2)).1 (leq g20.symm)
  have F20_198 : Fld Z h20 b20 "java/util/ImmutableCollections$ListN" "elements" "[Ljava/lang/Object;" .null := D20 (Or.inr (hw _ (tm 198 rfl))) (ty := (.array (.object "java/lang/Object"))) (by decide)
  have F20_200 : Fld Z h20 b20 "java/util/ImmutableCollections$ListN" "allowNulls" "Z" (.int (0 : Int32)) := D20 (Or.inr (hw _ (tm 200 rfl))) (ty := .boolean) (by decide)
  refine own_go ?_ (fun _ hr => st20 _ (XS.dup X20.here hx rfl (hb hby d26_32) rfl rfl (XS.aloadN X20.here hx rfl (hb hby d26_33) rfl rfl (XS.iconst X20.here hx rfl (hb hby d26_34) hr))))
  show own_H (T20.setTop (mkF m 35 #[rv a1, rv b2, iv (4 : Int32)] [(.int (0 : Int32)), (.ref b2), (.ref b20), (.ref b20)]))
  obtain ⟨_, _, ⟨T21, L21, k21, n21⟩, -, X21, ⟨Lc21, hQ21, l21, y21, z21⟩, st21⟩ := X20.specialBackNest hx (y := y20_) rfl hown (own_mvM hZ (hw _ (tm 189 rfl))) (mvT hZ (hw _ (tm 190 rfl))) (mvT hZ (hw _ (tm 192 rfl))) (by decide) (backOf (W := 1) (rm_lN l Z a0 hw [] b20 b2 (.null) (.int (0 : Int32)) h20 n0 (ltr (ltr (ltr (ltr (ltr (ltr Z0 E2.1) (Keep.of_wr W6).1) (Keep.of_wr W10).1) (Keep.of_wr W14).1) (Keep.of_wr W18).1) E20.1) A20 F20_198 F20_200 g_b20) hZ (hw _ (tm 192 rfl)) (hw _ (tm 188 rfl)) (by decide) (by decide)) (g := (mkF m 35 #[rv a1, rv b2, iv (4 : Int32)] [(.int (0 : Int32)), (.ref b2), (.ref b20), (.ref b20)])) rfl (by rw [hml]; rfl) (Steps.refl _) (a := b20) (argsL := [(.ref b2), (.int (0 : Int32))]) (rest := [(.ref b20)]) (lenOf pd___Ljava_lang_Object_Z_V rfl) rfl (by show 2 * 0 + _ ≤ _; exact Nat.le_of_eq rfl) (hb hby d26_35) (fun _ _ => ⟨rfl, e20, (by decide : 2 + 0 ≤ _), (by decide : 6 + 0 ≤ _)⟩)
  dsimp only [Pt.U, Pt.locs, Pt.cells, Pt.slots] at X21 l21 y21 z21 st21 hQ21
  subst l21 y21 z21
  obtain ⟨rfl, N21q, K21, P21_0, P21_1⟩ := hQ21
  have N21 := Fr.app N18 N21q
  refine own_go ?_ (fun _ hr => st21.trans hr)
  show own_H (T21.setTop (mkF m 38 #[rv a1, rv b2, iv (4 : Int32)] [(.ref b20)]))
  obtain ⟨fs, hr, hrun, hended, hW, hsame⟩ := X21.leave (v := some (.ref b20)) (fun h => by rw [Bd.returns] at h; cases h)
  have ne_b2_b20 : b2 ≠ b20 := Nat.ne_of_lt (Nat.lt_of_lt_of_le V2.lt (ltr (Keep.of_wr W6).1 (ltr (Keep.of_wr W10).1 (ltr (Keep.of_wr W14).1 (ltr (Keep.of_wr W18).1 (leq g20.symm))))))
  exact ⟨_, _, retOut X21 hx Bd.returns rfl (Or.inr (Or.inr (Or.inr (Or.inr ⟨rfl, rfl, rfl⟩)))) (hb hby d26_38) hr, hrun, hended, _, _, rfl, ⟨b20, b2, k2, rfl, N21, ((((((((Keep.refl h0 []).ext E2).wr W6 (Or.inr sz_b2)).wr W10 (Or.inr sz_b2)).wr W14 (Or.inr sz_b2)).wr W18 (Or.inr sz_b2)).ext E20).trans K21 (allS (Or.inr sz_b20) all0)), sz_b20, sz_b2, P21_0, P21_1, ((V18.ext E20).keep K21 (ninS ne_b2_b20 nin0))⟩, ⟨_, rfl⟩, hW, hsame.mono (by decide) (by decide)⟩
def Q_rm_of_4 (Z : State) (a1 : Addr) (ka : ClassId) (el0 : Addr) (el1 : Addr) (el2 : Addr) (el3 : Addr) (h0 : Heap) (n0 : Nat) : Option Value → Heap → List Loc → Prop := fun v h L => ∃ (nl : Addr) (nt : Addr) (nq : ClassId), v = some (.ref nl) ∧ Fr n0 L ∧ Keep h0 h [] ∧ h0.size ≤ nl ∧ h0.size ≤ nt ∧ Exa Z h nl "java/util/ImmutableCollections$ListN" ∧ Fld Z h nl "java/util/ImmutableCollections$ListN" "elements" "[Ljava/lang/Object;" (.ref nt) ∧ Arv Z h nt nq (.object "java/lang/Object") (4 : Int32) [(.ref el0), (.ref el1), (.ref el2), (.ref el3)] .null
set_option maxRecDepth 65536 in
set_option maxHeartbeats 40000000 in
theorem rm_of_4 (l : Launch) (Z : State) (a0 : Array Value) (hw : ∀ d ∈ tables_1, d.before a0 Z = true) (ws : List Jvm.Cond) (a1 : Addr) (ka : ClassId) (el0 : Addr) (el1 : Addr) (el2 : Addr) (el3 : Addr) (h0 : Heap) (n0 : Nat) (Z0 : n0 ≤ h0.size) (V_a1 : Arv Z h0 a1 ka (.object "java/lang/Object") (4 : Int32) [(.ref el0), (.ref el1), (.ref el2), (.ref el3)] .null) (E_el0 : Exa Z h0 el0 "java/lang/String") (E_el1 : Exa Z h0 el1 "java/lang/String") (E_el2 : Exa Z h0 el2 "java/lang/String") (E_el3 : Exa Z h0 el3 "java/lang/String") :
    MetFree l y26_ (head1 (Jvm.Cond.code y26_ jdk_40_method_47_code 2 (some (.object "java/util/List")) :: ws) R38_) (fun a U => a = #[(.ref a1)] ∧ Z.Warmed39 U.vm ∧ U.heap = h0) (fun _ _ _ _ _ => True) (fun _ U o U' => ∃ v L, o = .returned v ∧ (Q_rm_of_4 Z a1 ka el0 el1 el2 el3 h0 n0) v U'.heap L ∧ FrameEnd U o U' L R38_.cells R38_.slots) := by
  refine MetFree.of_bodySF (plainFor_of_name pn_21) hisR ?_
  intro p e s m args below meth c s₁ Bd hml0 hP hK
  obtain ⟨rfl, hZ, hh⟩ := hP
  have hx := Bd.exec
  have hby := Bd.bytes
  have hml : c.maxLocals = 2 := hml0
  have hown : s.vm.findClass "java/util/List" = some m.cls := findClass_of_methodNamed Bd.named
  have hnm := (name_of_methodNamed Bd.named Bd.method).1
  have X0 : Stand p l e R38_ s m #[(.ref a1)] below meth c s₁ [] 0 0 := Stand.of_body Bd
  have e0 : s₁.heap = h0 := by rw [← hh, Bd.state]; rfl
  have N0 := Fr.nil n0
  show own_G FrameEnd p e below s R38_.cells R38_.slots (Q_rm_of_4 Z a1 ka el0 el1 el2 el3 h0 n0) (s₁.setTop (entryFrame m #[(.ref a1)] 2))
  refine own_go (Y' := s₁.setTop (mkF m 0 #[rv a1, .unset] [])) ?_ (fun t k => castTop (ef_21 m a1) k)
  refine own_go ?_ (fun _ hr => XS.aloadN X0.here hx rfl (hb hby d21_0) rfl rfl hr)
  show own_H (s₁.setTop (mkF m 1 #[rv a1, .unset] [(.ref a1)]))
  obtain ⟨cl1, Ar1, -, S1, M1, -, -⟩ := id V_a1
  refine own_go ?_ (fun _ hr => X0.arraylength hx (by rw [e0]; exact Ar1.1) (State.isArrayOf_alike hZ.alike Ar1.2.1) (g := (mkF m 1 #[rv a1, .unset] [(.ref a1)])) rfl rfl (hb hby d21_1) _ hr)
  rw [len_of S1 M1]
  show own_H (s₁.setTop (mkF m 2 #[rv a1, .unset] [(.int (4 : Int32))]))
  refine own_go ?_ (fun _ hr => XS.tswOut X0.here hx rfl (pc0 := 2) (pc' := 59) rfl (hb hby d21_2) rfl (by decide) (by decide) (by decide) (XS.aloadN X0.here hx rfl (hb hby d21_59) rfl rfl hr))
  show own_H (s₁.setTop (mkF m 60 #[rv a1, .unset] [(.ref a1)]))
  obtain ⟨_, _, ⟨T2, L2, k2, n2⟩, -, X2, ⟨Lc2, hQ2, l2, y2, z2⟩, st2⟩ := Jvm.LawKit.callS X0 hx (y := y31_) hown (mvT hZ (hw _ (tm 182 rfl))) (mvT hZ (hw _ (tm 183 rfl))) (mvT hZ (hw _ (tm 100 rfl))) (mvT hZ (hw _ (tm 184 rfl))) (by decide) (backOf (W := 0) (rm_lfa_4 l Z a0 hw [] a1 ka el0 el1 el2 el3 h0 n0 Z0 V_a1 E_el0 E_el1 E_el2 E_el3) hZ (hw _ (tm 184 rfl)) (hw _ (tm 100 rfl)) (by decide) (by decide)) (g := (mkF m 60 #[rv a1, .unset] [(.ref a1)])) rfl (by rw [hml]; rfl) (argsL := [(.ref a1)]) (rest := []) (lenOf pd___Ljava_lang_Object__Ljava_util_List_ rfl) rfl (by show 2 * 0 + _ ≤ _; exact Nat.le_of_eq rfl) (hb hby d21_60) (fun _ _ => ⟨rfl, e0, (by decide : 0 + 2 ≤ _), (by decide : 0 + 6 ≤ _)⟩)
  dsimp only [Pt.U, Pt.locs, Pt.cells, Pt.slots] at X2 l2 y2 z2 st2 hQ2
  subst l2 y2 z2
  obtain ⟨b2_0, b2_1, kb2_2, rfl, N2q, K2, yb2_0, yb2_1, P2_0, P2_1, P2_2⟩ := hQ2
  have g_b2_0 : n0 ≤ b2_0 := ltr Z0 yb2_0
  have sz_b2_0 : h0.size ≤ b2_0 := ltr (Keep.refl h0 []).1 yb2_0
  have g_b2_1 : n0 ≤ b2_1 := ltr Z0 yb2_1
  have sz_b2_1 : h0.size ≤ b2_1 := ltr (Keep.refl h0 []).1 yb2_1
  have N2 := Fr.app N0 N2q
  refine own_go ?_ (fun _ hr => st2 _ hr)
  show own_H (T2.setTop (mkF m 63 #[rv a1, .unset] [(.ref b2_0)]))
  obtain ⟨fs, hr, hrun, hended, hW, hsame⟩ := X2.leave (v := some (.ref b2_0)) (fun h => by rw [Bd.returns] at h; cases h)
  exact ⟨_, _, retOut X2 hx Bd.returns rfl (Or.inr (Or.inr (Or.inr (Or.inr ⟨rfl, rfl, rfl⟩)))) (hb hby d21_63) hr, hrun, hended, _, _, rfl, ⟨b2_0, b2_1, kb2_2, rfl, N2, ((Keep.refl h0 []).trans K2 all0), sz_b2_0, sz_b2_1, P2_0, P2_1, P2_2⟩, ⟨_, rfl⟩, hW, hsame.mono (by decide) (by decide)⟩
def Q_rm_lc_4 (Z : State) (a1 : Addr) (b : Addr) (mO : Addr) (kb : ClassId) (el0 : Addr) (el1 : Addr) (el2 : Addr) (el3 : Addr) (h0 : Heap) (n0 : Nat) : Option Value → Heap → List Loc → Prop := fun v h L => ∃ (nl : Addr) (nt : Addr) (nq : ClassId), v = some (.ref nl) ∧ Fr n0 L ∧ Keep h0 h [] ∧ h0.size ≤ nl ∧ h0.size ≤ nt ∧ Exa Z h nl "java/util/ImmutableCollections$ListN" ∧ Fld Z h nl "java/util/ImmutableCollections$ListN" "elements" "[Ljava/lang/Object;" (.ref nt) ∧ Arv Z h nt nq (.object "java/lang/Object") (4 : Int32) [(.ref el0), (.ref el1), (.ref el2), (.ref el3)] .null
set_option maxRecDepth 65536 in
set_option maxHeartbeats 40000000 in
theorem rm_lc_4 (l : Launch) (Z : State) (a0 : Array Value) (hw : ∀ d ∈ tables_1, d.before a0 Z = true) (ws : List Jvm.Cond) (a1 : Addr) (b : Addr) (mO : Addr) (kb : ClassId) (el0 : Addr) (el1 : Addr) (el2 : Addr) (el3 : Addr) (h0 : Heap) (n0 : Nat) (Z0 : n0 ≤ h0.size) (E_a1 : Exa Z h0 a1 "java/util/ArrayList") (F_a1_elementData : Fld Z h0 a1 "java/util/ArrayList" "elementData" "[Ljava/lang/Object;" (.ref b)) (F_a1_size : Fld Z h0 a1 "java/util/ArrayList" "size" "I" (.int (4 : Int32))) (V_b : Arv Z h0 b kb (.object "java/lang/Object") (10 : Int32) [(.ref el0), (.ref el1), (.ref el2), (.ref el3), .null, .null, .null, .null, .null, .null] .null) (E_b : Exa Z h0 b "[Ljava/lang/Object;") (E_el0 : Exa Z h0 el0 "java/lang/String") (E_el1 : Exa Z h0 el1 "java/lang/String") (E_el2 : Exa Z h0 el2 "java/lang/String") (E_el3 : Exa Z h0 el3 "java/lang/String") (mir_mO : Mir Z "[Ljava/lang/Object;" mO) :
    MetFree l y27_ (head1 (Jvm.Cond.code y27_ jdk_56_method_3_code 2 (some (.object "java/util/List")) :: ws) R39_) (fun a U => a = #[(.ref a1)] ∧ Z.Warmed39 U.vm ∧ U.heap = h0) (fun _ _ _ _ _ => True) (fun _ U o U' => ∃ v L, o = .returned v ∧ (Q_rm_lc_4 Z a1 b mO kb el0 el1 el2 el3 h0 n0) v U'.heap L ∧ FrameEnd U o U' L R39_.cells R39_.slots) := by
  refine MetFree.of_bodySF (plainFor_of_name pn_15) hisR ?_
  intro p e s m args below meth c s₁ Bd hml0 hP hK
  obtain ⟨rfl, hZ, hh⟩ := hP
  have hx := Bd.exec
  have hby := Bd.bytes
  have hml : c.maxLocals = 2 := hml0
  have hown : s.vm.findClass "java/util/ImmutableCollections" = some m.cls := findClass_of_methodNamed Bd.named
  have hnm := (name_of_methodNamed Bd.named Bd.method).1
  have X0 : Stand p l e R39_ s m #[(.ref a1)] below meth c s₁ [] 0 0 := Stand.of_body Bd
  have e0 : s₁.heap = h0 := by rw [← hh, Bd.state]; rfl
  have N0 := Fr.nil n0
  show own_G FrameEnd p e below s R39_.cells R39_.slots (Q_rm_lc_4 Z a1 b mO kb el0 el1 el2 el3 h0 n0) (s₁.setTop (entryFrame m #[(.ref a1)] 2))
  refine own_go (Y' := s₁.setTop (mkF m 0 #[rv a1, .unset] [])) ?_ (fun t k => castTop (ef_15 m a1) k)
  refine own_go ?_ (fun _ hr => XS.aloadN X0.here hx rfl (hb hby d15_0) rfl rfl hr)
  show own_H (s₁.setTop (mkF m 1 #[rv a1, .unset] [(.ref a1)]))
  obtain ⟨T1, X1, e1, st1⟩ := instNo X0 hx hZ hown (hw _ (tm 102 rfl)) e0 E_a1 (own_notinst hw (hw _ (tm 151 rfl)) (by decide) (by decide) (by decide) (by decide)) (g := (mkF m 1 #[rv a1, .unset] [(.ref a1)])) rfl rfl (hb hby d15_1)
  refine own_go ?_ (fun _ hr => st1 _ (XS.ifNo X1.here hx rfl (hb hby d15_4) rfl ((if0 _ _).trans (teq (by decide : (0 : Int32) = (0 : Int32))).2) (XS.aloadN X1.here hx rfl (hb hby d15_7) rfl rfl hr)))
  show own_H (T1.setTop (mkF m 8 #[rv a1, .unset] [(.ref a1)]))
  obtain ⟨T2, X2, e2, st2⟩ := instNo X1 hx hZ hown (hw _ (tm 107 rfl)) e1 E_a1 (own_notinst hw (hw _ (tm 187 rfl)) (by decide) (by decide) (by decide) (by decide)) (g := (mkF m 8 #[rv a1, .unset] [(.ref a1)])) rfl rfl (hb hby d15_8)
  refine own_go ?_ (fun _ hr => st2 _ (XS.ifYes X2.here hx rfl (pc0 := 11) (pc' := 31) rfl (hb hby d15_11) rfl ((if0 _ _).trans (teq (by decide : (0 : Int32) = (0 : Int32))).1) (by decide) (by decide) (XS.aloadN X2.here hx rfl (hb hby d15_31) rfl rfl hr)))
  show own_H (T2.setTop (mkF m 32 #[rv a1, .unset] [(.ref a1)]))
  obtain ⟨cq3, kq3, q3a, q3b, q3c⟩ := isOf hZ e2 E_a1
  obtain ⟨_, _, ⟨T3, L3, k3, n3⟩, -, X3, ⟨Lc3, hQ3, l3, y3, z3⟩, st3⟩ := X2.interfaceBack hx (xi := y28_) (y := y25_) hown (mvT hZ (hw _ (tm 108 rfl))) (mvT hZ (hw _ (tm 109 rfl))) (mvT hZ (hw _ (tm 110 rfl))) (mvT hZ (hw _ (tm 111 rfl))) (mvT hZ (hw _ (tm 112 rfl))) (mvT hZ (hw _ (tm 113 rfl))) (mvT hZ (hw _ (tm 114 rfl))) (mvT hZ (hw _ (tm 115 rfl))) (by decide) (backOf (W := 0) (rm_isEmpty_4 l Z a0 hw [] a1 h0 n0 Z0 F_a1_size) hZ (hw _ (tm 116 rfl)) (hw _ (tm 28 rfl)) (by decide) (by decide)) q3a q3b q3c (g := (mkF m 32 #[rv a1, .unset] [(.ref a1)])) rfl (by rw [hml]; rfl) (Steps.refl _) (argsL := []) (rest := []) (lenOf pd___Z rfl) rfl (by show 2 * 0 + _ ≤ _; exact Nat.le_of_eq rfl) (hb hby d15_32) (fun _ _ => ⟨rfl, e2, (by decide : 0 + 0 ≤ _), (by decide : 0 + 0 ≤ _)⟩)
  dsimp only [Pt.U, Pt.locs, Pt.cells, Pt.slots] at X3 l3 y3 z3 st3 hQ3
  subst l3 y3 z3
  obtain ⟨rfl, N3q, e3⟩ := hQ3
  have N3 := Fr.app N0 N3q
  refine own_go ?_ (fun _ hr => st3.trans (XS.ifYes X3.here hx rfl (pc0 := 37) (pc' := 44) rfl (hb hby d15_37) rfl ((if0 _ _).trans (teq (by decide : (0 : Int32) = (0 : Int32))).1) (by decide) (by decide) (XS.aloadN X3.here hx rfl (hb hby d15_44) rfl rfl hr)))
  show own_H (T3.setTop (mkF m 45 #[rv a1, .unset] [(.ref a1)]))
  obtain ⟨cq4, kq4, q4a, q4b, q4c⟩ := isOf hZ e3 E_a1
  obtain ⟨_, _, ⟨T4, L4, k4, n4⟩, -, X4, ⟨Lc4, hQ4, l4, y4, z4⟩, st4⟩ := X3.interfaceBack hx (xi := y29_) (y := y24_) hown (mvT hZ (hw _ (tm 117 rfl))) (mvT hZ (hw _ (tm 118 rfl))) (mvT hZ (hw _ (tm 119 rfl))) (mvT hZ (hw _ (tm 120 rfl))) (mvT hZ (hw _ (tm 121 rfl))) (mvT hZ (hw _ (tm 122 rfl))) (mvT hZ (hw _ (tm 123 rfl))) (mvT hZ (hw _ (tm 115 rfl))) (by decide) (backOf (W := 0) (rm_toArray_4 l Z a0 hw [] a1 b mO kb el0 el1 el2 el3 h0 n0 Z0 E_a1 F_a1_elementData F_a1_size V_b E_b E_el0 E_el1 E_el2 E_el3 mir_mO) hZ (hw _ (tm 124 rfl)) (hw _ (tm 28 rfl)) (by decide) (by decide)) q4a q4b q4c (g := (mkF m 45 #[rv a1, .unset] [(.ref a1)])) rfl (by rw [hml]; rfl) (Steps.refl _) (argsL := []) (rest := []) (lenOf pd____Ljava_lang_Object_ rfl) rfl (by show 2 * 0 + _ ≤ _; exact Nat.le_of_eq rfl) (hb hby d15_45) (fun _ _ => ⟨rfl, e3, (by decide : 0 + 1 ≤ _), (by decide : 0 + 4 ≤ _)⟩)
  dsimp only [Pt.U, Pt.locs, Pt.cells, Pt.slots] at X4 l4 y4 z4 st4 hQ4
  subst l4 y4 z4
  obtain ⟨b4_0, kb4_1, rfl, N4q, K4, yb4_0, P4_0, P4_1, P4_2⟩ := hQ4
  have g_b4_0 : n0 ≤ b4_0 := ltr Z0 yb4_0
  have sz_b4_0 : h0.size ≤ b4_0 := ltr (Keep.refl h0 []).1 yb4_0
  have N4 := Fr.app N3 N4q
  refine own_go ?_ (fun _ hr => st4.trans hr)
  show own_H (T4.setTop (mkF m 50 #[rv a1, .unset] [(.ref b4_0)]))
  obtain ⟨_, _, ⟨T5, L5, k5, n5⟩, -, X5, ⟨Lc5, hQ5, l5, y5, z5⟩, st5⟩ := Jvm.LawKit.callS X4 hx (y := y26_) hown (mvT hZ (hw _ (tm 147 rfl))) (mvT hZ (hw _ (tm 148 rfl))) (mvT hZ (hw _ (tm 96 rfl))) (mvT hZ (hw _ (tm 149 rfl))) (by decide) (backOf (W := 0) (rm_of_4 l Z a0 hw [] b4_0 kb4_1 el0 el1 el2 el3 T4.heap n0 (ltr Z0 K4.1) P4_0 (E_el0.keep K4) (E_el1.keep K4) (E_el2.keep K4) (E_el3.keep K4)) hZ (hw _ (tm 149 rfl)) (hw _ (tm 96 rfl)) (by decide) (by decide)) (g := (mkF m 50 #[rv a1, .unset] [(.ref b4_0)])) rfl (by rw [hml]; rfl) (argsL := [(.ref b4_0)]) (rest := []) (lenOf pd___Ljava_lang_Object__Ljava_util_List_ rfl) rfl (by show 2 * 0 + _ ≤ _; exact Nat.le_of_eq rfl) (hb hby d15_50) (fun _ _ => ⟨rfl, rfl, (by decide : 1 + 2 ≤ _), (by decide : 4 + 6 ≤ _)⟩)
  dsimp only [Pt.U, Pt.locs, Pt.cells, Pt.slots] at X5 l5 y5 z5 st5 hQ5
  subst l5 y5 z5
  obtain ⟨b5_0, b5_1, kb5_2, rfl, N5q, K5, yb5_0, yb5_1, P5_0, P5_1, P5_2⟩ := hQ5
  have g_b5_0 : n0 ≤ b5_0 := ltr (ltr Z0 K4.1) yb5_0
  have sz_b5_0 : h0.size ≤ b5_0 := ltr ((Keep.refl h0 []).trans K4 all0).1 yb5_0
  have g_b5_1 : n0 ≤ b5_1 := ltr (ltr Z0 K4.1) yb5_1
  have sz_b5_1 : h0.size ≤ b5_1 := ltr ((Keep.refl h0 []).trans K4 all0).1 yb5_1
  have N5 := Fr.app N4 N5q
  refine own_go ?_ (fun _ hr => st5 _ hr)
  show own_H (T5.setTop (mkF m 53 #[rv a1, .unset] [(.ref b5_0)]))
  obtain ⟨fs, hr, hrun, hended, hW, hsame⟩ := X5.leave (v := some (.ref b5_0)) (fun h => by rw [Bd.returns] at h; cases h)
  exact ⟨_, _, retOut X5 hx Bd.returns rfl (Or.inr (Or.inr (Or.inr (Or.inr ⟨rfl, rfl, rfl⟩)))) (hb hby d15_53) hr, hrun, hended, _, _, rfl, ⟨b5_0, b5_1, kb5_2, rfl, N5, (((Keep.refl h0 []).trans K4 all0).trans K5 all0), sz_b5_0, sz_b5_1, P5_0, P5_1, P5_2⟩, ⟨_, rfl⟩, hW, hsame.mono (by decide) (by decide)⟩
def Q_rm_cp_4 (Z : State) (a1 : Addr) (b : Addr) (mO : Addr) (kb : ClassId) (el0 : Addr) (el1 : Addr) (el2 : Addr) (el3 : Addr) (h0 : Heap) (n0 : Nat) : Option Value → Heap → List Loc → Prop := fun v h L => ∃ (nl : Addr) (nt : Addr) (nq : ClassId), v = some (.ref nl) ∧ Fr n0 L ∧ Keep h0 h [] ∧ h0.size ≤ nl ∧ h0.size ≤ nt ∧ Exa Z h nl "java/util/ImmutableCollections$ListN" ∧ Fld Z h nl "java/util/ImmutableCollections$ListN" "elements" "[Ljava/lang/Object;" (.ref nt) ∧ Arv Z h nt nq (.object "java/lang/Object") (4 : Int32) [(.ref el0), (.ref el1), (.ref el2), (.ref el3)] .null
set_option maxRecDepth 65536 in
set_option maxHeartbeats 40000000 in
theorem rm_cp_4 (l : Launch) (Z : State) (a0 : Array Value) (hw : ∀ d ∈ tables_1, d.before a0 Z = true) (ws : List Jvm.Cond) (a1 : Addr) (b : Addr) (mO : Addr) (kb : ClassId) (el0 : Addr) (el1 : Addr) (el2 : Addr) (el3 : Addr) (h0 : Heap) (n0 : Nat) (Z0 : n0 ≤ h0.size) (E_a1 : Exa Z h0 a1 "java/util/ArrayList") (F_a1_elementData : Fld Z h0 a1 "java/util/ArrayList" "elementData" "[Ljava/lang/Object;" (.ref b)) (F_a1_size : Fld Z h0 a1 "java/util/ArrayList" "size" "I" (.int (4 : Int32))) (V_b : Arv Z h0 b kb (.object "java/lang/Object") (10 : Int32) [(.ref el0), (.ref el1), (.ref el2), (.ref el3), .null, .null, .null, .null, .null, .null] .null) (E_b : Exa Z h0 b "[Ljava/lang/Object;") (E_el0 : Exa Z h0 el0 "java/lang/String") (E_el1 : Exa Z h0 el1 "java/lang/String") (E_el2 : Exa Z h0 el2 "java/lang/String") (E_el3 : Exa Z h0 el3 "java/lang/String") (mir_mO : Mir Z "[Ljava/lang/Object;" mO) :
    MetFree l y30_ (head1 (Jvm.Cond.code y30_ jdk_40_method_48_code 1 (some (.object "java/util/List")) :: ws) R40_) (fun a U => a = #[(.ref a1)] ∧ Z.Warmed39 U.vm ∧ U.heap = h0) (fun _ _ _ _ _ => True) (fun _ U o U' => ∃ v L, o = .returned v ∧ (Q_rm_cp_4 Z a1 b mO kb el0 el1 el2 el3 h0 n0) v U'.heap L ∧ FrameEnd U o U' L R40_.cells R40_.slots) := by
  refine MetFree.of_bodySF (plainFor_of_name pn_14) hisR ?_
  intro p e s m args below meth c s₁ Bd hml0 hP hK
  obtain ⟨rfl, hZ, hh⟩ := hP
  have hx := Bd.exec
  have hby := Bd.bytes
  have hml : c.maxLocals = 1 := hml0
  have hown : s.vm.findClass "java/util/List" = some m.cls := findClass_of_methodNamed Bd.named
  have hnm := (name_of_methodNamed Bd.named Bd.method).1
  have X0 : Stand p l e R40_ s m #[(.ref a1)] below meth c s₁ [] 0 0 := Stand.of_body Bd
  have e0 : s₁.heap = h0 := by rw [← hh, Bd.state]; rfl
  have N0 := Fr.nil n0
  show own_G FrameEnd p e below s R40_.cells R40_.slots (Q_rm_cp_4 Z a1 b mO kb el0 el1 el2 el3 h0 n0) (s₁.setTop (entryFrame m #[(.ref a1)] 1))
  refine own_go (Y' := s₁.setTop (mkF m 0 #[rv a1] [])) ?_ (fun t k => castTop (ef_14 m a1) k)
  refine own_go ?_ (fun _ hr => XS.aloadN X0.here hx rfl (hb hby d14_0) rfl rfl hr)
  show own_H (s₁.setTop (mkF m 1 #[rv a1] [(.ref a1)]))
  obtain ⟨_, _, ⟨T1, L1, k1, n1⟩, -, X1, ⟨Lc1, hQ1, l1, y1, z1⟩, st1⟩ := Jvm.LawKit.callS X0 hx (y := y27_) hown (mvT hZ (hw _ (tm 98 rfl))) (mvT hZ (hw _ (tm 99 rfl))) (mvT hZ (hw _ (tm 100 rfl))) (mvT hZ (hw _ (tm 101 rfl))) (by decide) (backOf (W := 0) (rm_lc_4 l Z a0 hw [] a1 b mO kb el0 el1 el2 el3 h0 n0 Z0 E_a1 F_a1_elementData F_a1_size V_b E_b E_el0 E_el1 E_el2 E_el3 mir_mO) hZ (hw _ (tm 101 rfl)) (hw _ (tm 100 rfl)) (by decide) (by decide)) (g := (mkF m 1 #[rv a1] [(.ref a1)])) rfl (by rw [hml]; rfl) (argsL := [(.ref a1)]) (rest := []) (lenOf pd__Ljava_util_Collection__Ljava_util_List_ rfl) rfl (by show 2 * 0 + _ ≤ _; exact Nat.le_of_eq rfl) (hb hby d14_1) (fun _ _ => ⟨rfl, e0, (by decide : 0 + 3 ≤ _), (by decide : 0 + 10 ≤ _)⟩)
  dsimp only [Pt.U, Pt.locs, Pt.cells, Pt.slots] at X1 l1 y1 z1 st1 hQ1
  subst l1 y1 z1
  obtain ⟨b1_0, b1_1, kb1_2, rfl, N1q, K1, yb1_0, yb1_1, P1_0, P1_1, P1_2⟩ := hQ1
  have g_b1_0 : n0 ≤ b1_0 := ltr Z0 yb1_0
  have sz_b1_0 : h0.size ≤ b1_0 := ltr (Keep.refl h0 []).1 yb1_0
  have g_b1_1 : n0 ≤ b1_1 := ltr Z0 yb1_1
  have sz_b1_1 : h0.size ≤ b1_1 := ltr (Keep.refl h0 []).1 yb1_1
  have N1 := Fr.app N0 N1q
  refine own_go ?_ (fun _ hr => st1 _ hr)
  show own_H (T1.setTop (mkF m 4 #[rv a1] [(.ref b1_0)]))
  obtain ⟨fs, hr, hrun, hended, hW, hsame⟩ := X1.leave (v := some (.ref b1_0)) (fun h => by rw [Bd.returns] at h; cases h)
  exact ⟨_, _, retOut X1 hx Bd.returns rfl (Or.inr (Or.inr (Or.inr (Or.inr ⟨rfl, rfl, rfl⟩)))) (hb hby d14_4) hr, hrun, hended, _, _, rfl, ⟨b1_0, b1_1, kb1_2, rfl, N1, ((Keep.refl h0 []).trans K1 all0), sz_b1_0, sz_b1_1, P1_0, P1_1, P1_2⟩, ⟨_, rfl⟩, hW, hsame.mono (by decide) (by decide)⟩
def Q_rm_abl_rec (Z : State) (a1 : Addr) (u0 : Value) (u1 : Value) (u2 : Value) (h0 : Heap) (n0 : Nat) : Option Value → Heap → List Loc → Prop := fun v h L => v = none ∧ Fr n0 L ∧ Keep h0 h [a1] ∧ Exa Z h a1 "com/example/ninkasi/ninkasi/csv/CsvRecord" ∧ Fld Z h a1 "java/util/AbstractList" "modCount" "I" (.int (0 : Int32)) ∧ Fld Z h a1 "com/example/ninkasi/ninkasi/csv/CsvRecord" "fields" "Ljava/util/List;" u1 ∧ Fld Z h a1 "com/example/ninkasi/ninkasi/csv/CsvRecord" "fieldNames" "Ljava/util/List;" u2
set_option maxRecDepth 65536 in
set_option maxHeartbeats 40000000 in
theorem rm_abl_rec (l : Launch) (Z : State) (a0 : Array Value) (hw : ∀ d ∈ tables_1, d.before a0 Z = true) (ws : List Jvm.Cond) (a1 : Addr) (u0 : Value) (u1 : Value) (u2 : Value) (h0 : Heap) (n0 : Nat) (Z0 : n0 ≤ h0.size) (E_a1 : Exa Z h0 a1 "com/example/ninkasi/ninkasi/csv/CsvRecord") (F_a1_modCount : Fld Z h0 a1 "java/util/AbstractList" "modCount" "I" u0) (F_a1_fields : Fld Z h0 a1 "com/example/ninkasi/ninkasi/csv/CsvRecord" "fields" "Ljava/util/List;" u1) (F_a1_fieldNames : Fld Z h0 a1 "com/example/ninkasi/ninkasi/csv/CsvRecord" "fieldNames" "Ljava/util/List;" u2) (g_a1 : n0 ≤ a1) :
    MetFree l y8_ (head1 (Jvm.Cond.code y8_ jdk_39_method_1_code 1 none :: ws) R7_) (fun a U => a = #[(.ref a1)] ∧ Z.Warmed39 U.vm ∧ U.heap = h0) (fun _ _ _ _ _ => True) (fun _ U o U' => ∃ v L, o = .returned v ∧ (Q_rm_abl_rec Z a1 u0 u1 u2 h0 n0) v U'.heap L ∧ FrameEnd U o U' L R7_.cells R7_.slots) := by
  refine MetFree.of_bodySF (plainFor_of_name pn_6) hisR ?_
  intro p e s m args below meth c s₁ Bd hml0 hP hK
  obtain ⟨rfl, hZ, hh⟩ := hP
  have hx := Bd.exec
  have hby := Bd.bytes
  have hml : c.maxLocals = 1 := hml0
  have hown : s.vm.findClass "java/util/AbstractList" = some m.cls := findClass_of_methodNamed Bd.named
  have hnm := (name_of_methodNamed Bd.named Bd.method).1
  have X0 : Stand p l e R7_ s m #[(.ref a1)] below meth c s₁ [] 0 0 := Stand.of_body Bd
  have e0 : s₁.heap = h0 := by rw [← hh, Bd.state]; rfl
  have N0 := Fr.nil n0
  show own_G FrameEnd p e below s R7_.cells R7_.slots (Q_rm_abl_rec Z a1 u0 u1 u2 h0 n0) (s₁.setTop (entryFrame m #[(.ref a1)] 1))
  refine own_go (Y' := s₁.setTop (mkF m 0 #[rv a1] [])) ?_ (fun t k => castTop (ef_6 m a1) k)
  refine own_go ?_ (fun _ hr => XS.aloadN X0.here hx rfl (hb hby d6_0) rfl rfl hr)
  show own_H (s₁.setTop (mkF m 1 #[rv a1] [(.ref a1)]))
  obtain ⟨_, _, ⟨T1, L1, k1, n1⟩, -, X1, ⟨Lc1, hQ1, l1, y1, z1⟩, st1⟩ := X0.specialBack hx (y := y7_) rfl hown (mvT hZ (hw _ (tm 38 rfl))) (mvT hZ (hw _ (tm 39 rfl))) (mvT hZ (hw _ (tm 43 rfl))) (by decide) (backOf (W := 0) (rm7 l Z a0 hw [] a1 h0 n0 Z0 ) hZ (hw _ (tm 43 rfl)) (hw _ (tm 42 rfl)) (by decide) (by decide)) (g := (mkF m 1 #[rv a1] [(.ref a1)])) rfl (by rw [hml]; rfl) (Steps.refl _) (a := a1) (argsL := []) (rest := []) (lenOf pd___V rfl) rfl (by show 2 * 0 + _ ≤ _; exact Nat.le_of_eq rfl) (hb hby d6_1) (fun _ _ => ⟨rfl, e0, (by decide : 0 + 0 ≤ _), (by decide : 0 + 0 ≤ _)⟩)
  dsimp only [Pt.U, Pt.locs, Pt.cells, Pt.slots] at X1 l1 y1 z1 st1 hQ1
  subst l1 y1 z1
  obtain ⟨rfl, N1q, e1⟩ := hQ1
  have N1 := Fr.app N0 N1q
  refine own_go ?_ (fun _ hr => st1.trans (XS.aloadN X1.here hx rfl (hb hby d6_4) rfl rfl (XS.iconst X1.here hx rfl (hb hby d6_5) hr)))
  show own_H (T1.setTop (mkF m 6 #[rv a1] [(.int (0 : Int32)), (.ref a1)]))
  obtain ⟨T2, h2, X2, e2, W2, st2⟩ := putF X1 hx hZ hown (host := "") (Or.inl (hw _ (tm 45 rfl))) Via.refl e1 F_a1_modCount E_a1 (Or.inl (hw _ (tm 93 rfl))) (hw _ (tm 86 rfl)) (ty := .int) (by decide) rfl rfl (g := (mkF m 6 #[rv a1] [(.int (0 : Int32)), (.ref a1)])) rfl rfl (hb hby d6_6)
  have Fw2 := F_a1_modCount.same W2
  have N2 := Fr.snoc X2 N1 g_a1
  refine own_go ?_ (fun _ hr => st2 _ hr)
  show own_H (T2.setTop (mkF m 9 #[rv a1] []))
  obtain ⟨fs, hr, hrun, hended, hW, hsame⟩ := X2.leave (v := none) (fun _ => rfl)
  exact ⟨_, _, X2.returnOut hx Bd.returns (hb hby d6_9) hr, hrun, hended, _, _, rfl, (by rw [show (T2.setFrames fs).heap = h2 from e2]; exact ⟨rfl, N2, ((Keep.refl h0 [a1]).wr W2 (Or.inl (List.mem_of_getElem? (i := 0) rfl))), (E_a1.wr W2), Fw2, (F_a1_fields.other W2 (Or.inr (slot_ne (Or.inr (hw _ (tm 181 rfl))) (Or.inl (hw _ (tm 93 rfl))) (by decide) (t := (.object "java/util/List")) (t' := .int) (by decide) (by decide)))), (F_a1_fieldNames.other W2 (Or.inr (slot_ne (Or.inr (hw _ (tm 202 rfl))) (Or.inl (hw _ (tm 93 rfl))) (by decide) (t := (.object "java/util/List")) (t' := .int) (by decide) (by decide))))⟩), ⟨_, rfl⟩, hW, hsame.mono (by decide) (by decide)⟩
theorem d13_0 : decode prog_4_method_1_code 0 = .ok (.aload_n 0, 1) := by decide +kernel
theorem d13_1 : decode prog_4_method_1_code 1 = .ok (.invokespecial 1, 3) := by decide +kernel
theorem d13_4 : decode prog_4_method_1_code 4 = .ok (.aload_n 0, 1) := by decide +kernel
theorem d13_5 : decode prog_4_method_1_code 5 = .ok (.aload_n 1, 1) := by decide +kernel
theorem d13_6 : decode prog_4_method_1_code 6 = .ok (.invokestatic 7, 3) := by decide +kernel
theorem d13_9 : decode prog_4_method_1_code 9 = .ok (.putfield 13, 3) := by decide +kernel
theorem d13_12 : decode prog_4_method_1_code 12 = .ok (.aload_n 0, 1) := by decide +kernel
theorem d13_13 : decode prog_4_method_1_code 13 = .ok (.aload_n 2, 1) := by decide +kernel
theorem d13_14 : decode prog_4_method_1_code 14 = .ok (.invokestatic 7, 3) := by decide +kernel
theorem d13_17 : decode prog_4_method_1_code 17 = .ok (.putfield 19, 3) := by decide +kernel
theorem d13_20 : decode prog_4_method_1_code 20 = .ok (.return_, 1) := by decide +kernel
theorem pn_13 : plainName "com/example/ninkasi/ninkasi/csv/CsvRecord" = true := by first | (simp [plainName, overriddenIn]; done) | decide +kernel
theorem ef_13 (m : MethodId) (x0 : Addr) (x1 : Addr) (x2 : Addr) : entryFrame m #[(.ref x0), (.ref x1), (.ref x2)] 3 = mkF m 0 #[rv x0, rv x1, rv x2] [] := by first | (simp [entryFrame, mkF, argsToLocals, Value.category]; done) | rfl
def Q_rm_rec_1 (Z : State) (a1 : Addr) (a2 : Addr) (a3 : Addr) (u0 : Value) (u1 : Value) (u2 : Value) (bb2 : Addr) (kk2 : ClassId) (bb3 : Addr) (kk3 : ClassId) (mO : Addr) (el0 : Addr) (fl0 : Addr) (fl1 : Addr) (fl2 : Addr) (fl3 : Addr) (wM : Addr) (h0 : Heap) (n0 : Nat) : Option Value → Heap → List Loc → Prop := fun v h L => ∃ (nl : Addr), v = none ∧ Fr n0 L ∧ Keep h0 h [a1] ∧ h0.size ≤ nl ∧ Exa Z h a1 "com/example/ninkasi/ninkasi/csv/CsvRecord" ∧ Fld Z h a1 "com/example/ninkasi/ninkasi/csv/CsvRecord" "fields" "Ljava/util/List;" (.ref nl) ∧ Exa Z h nl "java/util/ImmutableCollections$List12" ∧ Fld Z h nl "java/util/ImmutableCollections$List12" "e0" "Ljava/lang/Object;" (.ref el0) ∧ Fld Z h nl "java/util/ImmutableCollections$List12" "e1" "Ljava/lang/Object;" (.ref wM)
set_option maxRecDepth 65536 in
set_option maxHeartbeats 40000000 in
theorem rm_rec_1 (l : Launch) (Z : State) (a0 : Array Value) (hw : ∀ d ∈ tables_1, d.before a0 Z = true) (ws : List Jvm.Cond) (a1 : Addr) (a2 : Addr) (a3 : Addr) (u0 : Value) (u1 : Value) (u2 : Value) (bb2 : Addr) (kk2 : ClassId) (bb3 : Addr) (kk3 : ClassId) (mO : Addr) (el0 : Addr) (fl0 : Addr) (fl1 : Addr) (fl2 : Addr) (fl3 : Addr) (wM : Addr) (h0 : Heap) (n0 : Nat) (Z0 : n0 ≤ h0.size) (E_a1 : Exa Z h0 a1 "com/example/ninkasi/ninkasi/csv/CsvRecord") (F_a1_modCount : Fld Z h0 a1 "java/util/AbstractList" "modCount" "I" u0) (F_a1_fields : Fld Z h0 a1 "com/example/ninkasi/ninkasi/csv/CsvRecord" "fields" "Ljava/util/List;" u1) (F_a1_fieldNames : Fld Z h0 a1 "com/example/ninkasi/ninkasi/csv/CsvRecord" "fieldNames" "Ljava/util/List;" u2) (g_a1 : n0 ≤ a1) (E_a2 : Exa Z h0 a2 "java/util/ArrayList") (F_a2_elementData : Fld Z h0 a2 "java/util/ArrayList" "elementData" "[Ljava/lang/Object;" (.ref bb2)) (F_a2_size : Fld Z h0 a2 "java/util/ArrayList" "size" "I" (.int (1 : Int32))) (V_bb2 : Arv Z h0 bb2 kk2 (.object "java/lang/Object") (10 : Int32) [(.ref el0), .null, .null, .null, .null, .null, .null, .null, .null, .null] .null) (E_bb2 : Exa Z h0 bb2 "[Ljava/lang/Object;") (E_el0 : Exa Z h0 el0 "java/lang/String") (mir_mO : Mir Z "[Ljava/lang/Object;" mO) (E_a3 : Exa Z h0 a3 "java/util/ArrayList") (F_a3_elementData : Fld Z h0 a3 "java/util/ArrayList" "elementData" "[Ljava/lang/Object;" (.ref bb3)) (F_a3_size : Fld Z h0 a3 "java/util/ArrayList" "size" "I" (.int (4 : Int32))) (V_bb3 : Arv Z h0 bb3 kk3 (.object "java/lang/Object") (10 : Int32) [(.ref fl0), (.ref fl1), (.ref fl2), (.ref fl3), .null, .null, .null, .null, .null, .null] .null) (E_bb3 : Exa Z h0 bb3 "[Ljava/lang/Object;") (E_fl0 : Exa Z h0 fl0 "java/lang/String") (E_fl1 : Exa Z h0 fl1 "java/lang/String") (E_fl2 : Exa Z h0 fl2 "java/lang/String") (E_fl3 : Exa Z h0 fl3 "java/lang/String") (hold : Old Z n0 h0) (S_EMPTY : Sta Z Z.heap "java/util/ImmutableCollections" "EMPTY" "Ljava/lang/Object;" (.ref wM)) (ne_a2_a1 : a2 ≠ a1) (ne_a3_a1 : a3 ≠ a1) (ne_bb2_a1 : bb2 ≠ a1) (ne_bb3_a1 : bb3 ≠ a1) :
    MetFree l y32_ (head1 (Jvm.Cond.code y32_ prog_4_method_1_code 3 none :: ws) R41_) (fun a U => a = #[(.ref a1), (.ref a2), (.ref a3)] ∧ Z.Warmed39 U.vm ∧ U.heap = h0) (fun _ _ _ _ _ => True) (fun _ U o U' => ∃ v L, o = .returned v ∧ (Q_rm_rec_1 Z a1 a2 a3 u0 u1 u2 bb2 kk2 bb3 kk3 mO el0 fl0 fl1 fl2 fl3 wM h0 n0) v U'.heap L ∧ FrameEnd U o U' L R41_.cells R41_.slots) := by
  refine MetFree.of_bodySF (plainFor_of_name pn_13) hisR ?_
  intro p e s m args below meth c s₁ Bd hml0 hP hK
  obtain ⟨rfl, hZ, hh⟩ := hP
  have hx := Bd.exec
  have hby := Bd.bytes
  have hml : c.maxLocals = 3 := hml0
  have hown : s.vm.findClass "com/example/ninkasi/ninkasi/csv/CsvRecord" = some m.cls := findClass_of_methodNamed Bd.named
  have hnm := (name_of_methodNamed Bd.named Bd.method).1
  have X0 : Stand p l e R41_ s m #[(.ref a1), (.ref a2), (.ref a3)] below meth c s₁ [] 0 0 := Stand.of_body Bd
  have e0 : s₁.heap = h0 := by rw [← hh, Bd.state]; rfl
  have N0 := Fr.nil n0
  show own_G FrameEnd p e below s R41_.cells R41_.slots (Q_rm_rec_1 Z a1 a2 a3 u0 u1 u2 bb2 kk2 bb3 kk3 mO el0 fl0 fl1 fl2 fl3 wM h0 n0) (s₁.setTop (entryFrame m #[(.ref a1), (.ref a2), (.ref a3)] 3))
  refine own_go (Y' := s₁.setTop (mkF m 0 #[rv a1, rv a2, rv a3] [])) ?_ (fun t k => castTop (ef_13 m a1 a2 a3) k)
  refine own_go ?_ (fun _ hr => XS.aloadN X0.here hx rfl (hb hby d13_0) rfl rfl hr)
  show own_H (s₁.setTop (mkF m 1 #[rv a1, rv a2, rv a3] [(.ref a1)]))
  obtain ⟨_, _, ⟨T1, L1, k1, n1⟩, -, X1, ⟨Lc1, hQ1, l1, y1, z1⟩, st1⟩ := X0.specialBack hx (y := y8_) rfl hown (mvT hZ (hw _ (tm 91 rfl))) (mvT hZ (hw _ (tm 33 rfl))) (mvT hZ (hw _ (tm 37 rfl))) (by decide) (backOf (W := 0) (rm_abl_rec l Z a0 hw [] a1 (u0) (u1) (u2) h0 n0 Z0 E_a1 F_a1_modCount F_a1_fields F_a1_fieldNames g_a1) hZ (hw _ (tm 37 rfl)) (hw _ (tm 36 rfl)) (by decide) (by decide)) (g := (mkF m 1 #[rv a1, rv a2, rv a3] [(.ref a1)])) rfl (by rw [hml]; rfl) (Steps.refl _) (a := a1) (argsL := []) (rest := []) (lenOf pd___V rfl) rfl (by show 2 * 0 + _ ≤ _; exact Nat.le_of_eq rfl) (hb hby d13_1) (fun _ _ => ⟨rfl, e0, (by decide : 0 + 0 ≤ _), (by decide : 0 + 0 ≤ _)⟩)
  dsimp only [Pt.U, Pt.locs, Pt.cells, Pt.slots] at X1 l1 y1 z1 st1 hQ1
  subst l1 y1 z1
  obtain ⟨rfl, N1q, K1, P1_0, P1_1, P1_2, P1_3⟩ := hQ1
  have N1 := Fr.app N0 N1q
  refine own_go ?_ (fun _ hr => st1.trans (XS.aloadN X1.here hx rfl (hb hby d13_4) rfl rfl (XS.aloadN X1.here hx rfl (hb hby d13_5) rfl rfl hr)))
  show own_H (T1.setTop (mkF m 6 #[rv a1, rv a2, rv a3] [(.ref a2), (.ref a1)]))
  obtain ⟨_, _, ⟨T2, L2, k2, n2⟩, -, X2, ⟨Lc2, hQ2, l2, y2, z2⟩, st2⟩ := Jvm.LawKit.callS X1 hx (y := y30_) hown (mvT hZ (hw _ (tm 94 rfl))) (mvT hZ (hw _ (tm 95 rfl))) (mvT hZ (hw _ (tm 96 rfl))) (mvT hZ (hw _ (tm 97 rfl))) (by decide) (backOf (W := 1) (rm_cp_1 l Z a0 hw [] a2 bb2 mO kk2 el0 wM T1.heap n0 (ltr Z0 K1.1) (E_a2.keep K1) (F_a2_elementData.keep K1 (ninS ne_a2_a1 nin0)) (F_a2_size.keep K1 (ninS ne_a2_a1 nin0)) (V_bb2.keep K1 (ninS ne_bb2_a1 nin0)) (E_bb2.keep K1) (E_el0.keep K1) mir_mO (hold.keep K1 (allS g_a1 all0)) S_EMPTY) hZ (hw _ (tm 97 rfl)) (hw _ (tm 96 rfl)) (by decide) (by decide)) (g := (mkF m 6 #[rv a1, rv a2, rv a3] [(.ref a2), (.ref a1)])) rfl (by rw [hml]; rfl) (argsL := [(.ref a2)]) (rest := [(.ref a1)]) (lenOf pd__Ljava_util_Collection__Ljava_util_List_ rfl) rfl (by show 2 * 0 + _ ≤ _; exact Nat.le_of_eq rfl) (hb hby d13_6) (fun _ _ => ⟨rfl, rfl, (by decide : 0 + 2 ≤ _), (by decide : 0 + 3 ≤ _)⟩)
  dsimp only [Pt.U, Pt.locs, Pt.cells, Pt.slots] at X2 l2 y2 z2 st2 hQ2
  subst l2 y2 z2
  obtain ⟨b2_0, rfl, N2q, K2, yb2_0, P2_0, P2_1, P2_2⟩ := hQ2
  have g_b2_0 : n0 ≤ b2_0 := ltr (ltr Z0 K1.1) yb2_0
  have sz_b2_0 : h0.size ≤ b2_0 := ltr ((Keep.refl h0 [a1]).trans K1 (allS (Or.inl (List.mem_of_getElem? (i := 0) rfl)) all0)).1 yb2_0
  have N2 := Fr.app N1 N2q
  refine own_go ?_ (fun _ hr => st2 _ hr)
  show own_H (T2.setTop (mkF m 9 #[rv a1, rv a2, rv a3] [(.ref b2_0), (.ref a1)]))
  obtain ⟨T3, h3, X3, e3, W3, st3⟩ := putF X2 hx hZ hown (host := "") (Or.inl (hw _ (tm 180 rfl))) Via.refl rfl (P1_2.keep K2 nin0) (P1_0.keep K2) (Or.inr ⟨(hw _ (tm 181 rfl)), rfl, hnm⟩) (hw _ (tm 86 rfl)) (ty := (.object "java/util/List")) (by decide) rfl rfl (g := (mkF m 9 #[rv a1, rv a2, rv a3] [(.ref b2_0), (.ref a1)])) rfl rfl (hb hby d13_9)
  have Fw3 := (P1_2.keep K2 nin0).same W3
  have N3 := Fr.snoc X3 N2 g_a1
  refine own_go ?_ (fun _ hr => st3 _ (XS.aloadN X3.here hx rfl (hb hby d13_12) rfl rfl (XS.aloadN X3.here hx rfl (hb hby d13_13) rfl rfl hr)))
  show own_H (T3.setTop (mkF m 14 #[rv a1, rv a2, rv a3] [(.ref a3), (.ref a1)]))
  obtain ⟨_, _, ⟨T4, L4, k4, n4⟩, -, X4, ⟨Lc4, hQ4, l4, y4, z4⟩, st4⟩ := Jvm.LawKit.callS X3 hx (y := y30_) hown (mvT hZ (hw _ (tm 94 rfl))) (mvT hZ (hw _ (tm 95 rfl))) (mvT hZ (hw _ (tm 96 rfl))) (mvT hZ (hw _ (tm 97 rfl))) (by decide) (backOf (W := 1) (rm_cp_4 l Z a0 hw [] a3 bb3 mO kk3 fl0 fl1 fl2 fl3 h3 n0 (ltr (ltr (ltr Z0 K1.1) K2.1) (Keep.of_wr W3).1) (((E_a3.keep K1).keep K2).wr W3) (((F_a3_elementData.keep K1 (ninS ne_a3_a1 nin0)).keep K2 nin0).other W3 (Or.inl ne_a3_a1)) (((F_a3_size.keep K1 (ninS ne_a3_a1 nin0)).keep K2 nin0).other W3 (Or.inl ne_a3_a1)) (((V_bb3.keep K1 (ninS ne_bb3_a1 nin0)).keep K2 nin0).other W3 ne_bb3_a1) (((E_bb3.keep K1).keep K2).wr W3) (((E_fl0.keep K1).keep K2).wr W3) (((E_fl1.keep K1).keep K2).wr W3) (((E_fl2.keep K1).keep K2).wr W3) (((E_fl3.keep K1).keep K2).wr W3) mir_mO) hZ (hw _ (tm 97 rfl)) (hw _ (tm 96 rfl)) (by decide) (by decide)) (g := (mkF m 14 #[rv a1, rv a2, rv a3] [(.ref a3), (.ref a1)])) rfl (by rw [hml]; rfl) (argsL := [(.ref a3)]) (rest := [(.ref a1)]) (lenOf pd__Ljava_util_Collection__Ljava_util_List_ rfl) rfl (by show 2 * 0 + _ ≤ _; exact Nat.le_of_eq rfl) (hb hby d13_14) (fun _ _ => ⟨rfl, e3, (by decide : 2 + 3 ≤ _), (by decide : 3 + 10 ≤ _)⟩)
  dsimp only [Pt.U, Pt.locs, Pt.cells, Pt.slots] at X4 l4 y4 z4 st4 hQ4
  subst l4 y4 z4
  obtain ⟨b4_0, b4_1, kb4_2, rfl, N4q, K4, yb4_0, yb4_1, P4_0, P4_1, P4_2⟩ := hQ4
  have g_b4_0 : n0 ≤ b4_0 := ltr (ltr (ltr (ltr Z0 K1.1) K2.1) (Keep.of_wr W3).1) yb4_0
  have sz_b4_0 : h0.size ≤ b4_0 := ltr ((((Keep.refl h0 [a1]).trans K1 (allS (Or.inl (List.mem_of_getElem? (i := 0) rfl)) all0)).trans K2 all0).wr W3 (Or.inl (List.mem_of_getElem? (i := 0) rfl))).1 yb4_0
  have g_b4_1 : n0 ≤ b4_1 := ltr (ltr (ltr (ltr Z0 K1.1) K2.1) (Keep.of_wr W3).1) yb4_1
  have sz_b4_1 : h0.size ≤ b4_1 := ltr ((((Keep.refl h0 [a1]).trans K1 (allS (Or.inl (List.mem_of_getElem? (i := 0) rfl)) all0)).trans K2 all0).wr W3 (Or.inl (List.mem_of_getElem? (i := 0) rfl))).1 yb4_1
  have N4 := Fr.app N3 N4q
  refine own_go ?_ (fun _ hr => st4 _ hr)
  show own_H (T4.setTop (mkF m 17 #[rv a1, rv a2, rv a3] [(.ref b4_0), (.ref a1)]))
  obtain ⟨T5, h5, X5, e5, W5, st5⟩ := putF X4 hx hZ hown (host := "") (Or.inl (hw _ (tm 201 rfl))) Via.refl rfl (((P1_3.keep K2 nin0).other W3 (Or.inr (slot_ne (Or.inr (hw _ (tm 202 rfl))) (Or.inr (hw _ (tm 181 rfl))) (by decide) (t := (.object "java/util/List")) (t' := (.object "java/util/List")) (by decide) (by decide)))).keep K4 nin0) (((P1_0.keep K2).wr W3).keep K4) (Or.inr ⟨(hw _ (tm 202 rfl)), rfl, hnm⟩) (hw _ (tm 86 rfl)) (ty := (.object "java/util/List")) (by decide) rfl rfl (g := (mkF m 17 #[rv a1, rv a2, rv a3] [(.ref b4_0), (.ref a1)])) rfl rfl (hb hby d13_17)
  have Fw5 := (((P1_3.keep K2 nin0).other W3 (Or.inr (slot_ne (Or.inr (hw _ (tm 202 rfl))) (Or.inr (hw _ (tm 181 rfl))) (by decide) (t := (.object "java/util/List")) (t' := (.object "java/util/List")) (by decide) (by decide)))).keep K4 nin0).same W5
  have N5 := Fr.snoc X5 N4 g_a1
  refine own_go ?_ (fun _ hr => st5 _ hr)
  show own_H (T5.setTop (mkF m 20 #[rv a1, rv a2, rv a3] []))
  obtain ⟨fs, hr, hrun, hended, hW, hsame⟩ := X5.leave (v := none) (fun _ => rfl)
  exact ⟨_, _, X5.returnOut hx Bd.returns (hb hby d13_20) hr, hrun, hended, _, _, rfl, (by rw [show (T5.setFrames fs).heap = h5 from e5]; exact ⟨b2_0, rfl, N5, ((((((Keep.refl h0 [a1]).trans K1 (allS (Or.inl (List.mem_of_getElem? (i := 0) rfl)) all0)).trans K2 all0).wr W3 (Or.inl (List.mem_of_getElem? (i := 0) rfl))).trans K4 all0).wr W5 (Or.inl (List.mem_of_getElem? (i := 0) rfl))), sz_b2_0, ((((P1_0.keep K2).wr W3).keep K4).wr W5), ((Fw3.keep K4 nin0).other W5 (Or.inr (slot_ne (Or.inr (hw _ (tm 181 rfl))) (Or.inr (hw _ (tm 202 rfl))) (by decide) (t := (.object "java/util/List")) (t' := (.object "java/util/List")) (by decide) (by decide)))), (((P2_0.wr W3).keep K4).wr W5), (((P2_1.other W3 (Or.inl (Ne.symm (Nat.ne_of_lt (Nat.lt_of_lt_of_le E_a1.lt (ltr K1.1 yb2_0)))))).keep K4 nin0).other W5 (Or.inl (Ne.symm (Nat.ne_of_lt (Nat.lt_of_lt_of_le E_a1.lt (ltr K1.1 yb2_0)))))), (((P2_2.other W3 (Or.inl (Ne.symm (Nat.ne_of_lt (Nat.lt_of_lt_of_le E_a1.lt (ltr K1.1 yb2_0)))))).keep K4 nin0).other W5 (Or.inl (Ne.symm (Nat.ne_of_lt (Nat.lt_of_lt_of_le E_a1.lt (ltr K1.1 yb2_0))))))⟩), ⟨_, rfl⟩, hW, hsame.mono (by decide) (by decide)⟩
theorem d29_0 : decode jdk_44_method_5_code 0 = .ok (.iload_n 1, 1) := by decide +kernel
theorem d29_1 : decode jdk_44_method_5_code 1 = .ok (.ifCond .ne 8, 3) := by decide +kernel
theorem d29_4 : decode jdk_44_method_5_code 4 = .ok (.aload_n 0, 1) := by decide +kernel
theorem d29_5 : decode jdk_44_method_5_code 5 = .ok (.getfield 13, 3) := by decide +kernel
theorem d29_8 : decode jdk_44_method_5_code 8 = .ok (.areturn, 1) := by decide +kernel
theorem pn_29 : plainName "java/util/ImmutableCollections$List12" = true := by first | (simp [plainName, overriddenIn]; done) | decide +kernel
theorem ef_29 (m : MethodId) (x0 : Addr) (x1 : Int32) : entryFrame m #[(.ref x0), (.int x1)] 2 = mkF m 0 #[rv x0, iv x1] [] := by first | (simp [entryFrame, mkF, argsToLocals, Value.category]; done) | rfl
def Q_rm_l12g_1_0 (Z : State) (a1 : Addr) (el0 : Addr) (wM : Addr) (h0 : Heap) (n0 : Nat) : Option Value → Heap → List Loc → Prop := fun v h L => v = some (.ref el0) ∧ Fr n0 L ∧ h = h0
set_option maxRecDepth 65536 in
set_option maxHeartbeats 40000000 in
theorem rm_l12g_1_0 (l : Launch) (Z : State) (a0 : Array Value) (hw : ∀ d ∈ tables_1, d.before a0 Z = true) (ws : List Jvm.Cond) (a1 : Addr) (el0 : Addr) (wM : Addr) (h0 : Heap) (n0 : Nat) (Z0 : n0 ≤ h0.size) (E_a1 : Exa Z h0 a1 "java/util/ImmutableCollections$List12") (F_a1_e0 : Fld Z h0 a1 "java/util/ImmutableCollections$List12" "e0" "Ljava/lang/Object;" (.ref el0)) (F_a1_e1 : Fld Z h0 a1 "java/util/ImmutableCollections$List12" "e1" "Ljava/lang/Object;" (.ref wM)) (hold : Old Z n0 h0) (S_EMPTY : Sta Z Z.heap "java/util/ImmutableCollections" "EMPTY" "Ljava/lang/Object;" (.ref wM)) :
    MetFree l y33_ (head1 (Jvm.Cond.code y33_ jdk_44_method_5_code 2 (some (.object "java/lang/Object")) :: ws) R0_) (fun a U => a = #[(.ref a1), (.int (0 : Int32))] ∧ Z.Warmed39 U.vm ∧ U.heap = h0) (fun _ _ _ _ _ => True) (fun _ U o U' => ∃ v L, o = .returned v ∧ (Q_rm_l12g_1_0 Z a1 el0 wM h0 n0) v U'.heap L ∧ FrameEnd U o U' L R0_.cells R0_.slots) := by
  refine MetFree.of_bodySF (plainFor_of_name pn_29) hisR ?_
  intro p e s m args below meth c s₁ Bd hml0 hP hK
  obtain ⟨rfl, hZ, hh⟩ := hP
  have hx := Bd.exec
  have hby := Bd.bytes
  have hml : c.maxLocals = 2 := hml0
  have hown : s.vm.findClass "java/util/ImmutableCollections$List12" = some m.cls := findClass_of_methodNamed Bd.named
  have hnm := (name_of_methodNamed Bd.named Bd.method).1
  have X0 : Stand p l e R0_ s m #[(.ref a1), (.int (0 : Int32))] below meth c s₁ [] 0 0 := Stand.of_body Bd
  have e0 : s₁.heap = h0 := by rw [← hh, Bd.state]; rfl
  have N0 := Fr.nil n0
  show own_G FrameEnd p e below s R0_.cells R0_.slots (Q_rm_l12g_1_0 Z a1 el0 wM h0 n0) (s₁.setTop (entryFrame m #[(.ref a1), (.int (0 : Int32))] 2))
  refine own_go (Y' := s₁.setTop (mkF m 0 #[rv a1, iv (0 : Int32)] [])) ?_ (fun t k => castTop (ef_29 m a1 (0 : Int32)) k)
  refine own_go ?_ (fun _ hr => XS.iloadN X0.here hx rfl (hb hby d29_0) rfl (XS.ifNo X0.here hx rfl (hb hby d29_1) rfl ((if0 _ _).trans (teq (by decide : (0 : Int32) = (0 : Int32))).2) (XS.aloadN X0.here hx rfl (hb hby d29_4) rfl rfl hr)))
  show own_H (s₁.setTop (mkF m 5 #[rv a1, iv (0 : Int32)] [(.ref a1)]))
  obtain ⟨T1, X1, e1, st1⟩ := getF X0 hx hZ hown (host := "") (Or.inl (hw _ (tm 175 rfl))) Via.refl e0 F_a1_e0 (g := (mkF m 5 #[rv a1, iv (0 : Int32)] [(.ref a1)])) rfl rfl (hb hby d29_5)
  refine own_go ?_ (fun _ hr => st1 _ hr)
  show own_H (T1.setTop (mkF m 8 #[rv a1, iv (0 : Int32)] [(.ref el0)]))
  obtain ⟨fs, hr, hrun, hended, hW, hsame⟩ := X1.leave (v := some (.ref el0)) (fun h => by rw [Bd.returns] at h; cases h)
  exact ⟨_, _, retOut X1 hx Bd.returns rfl (Or.inr (Or.inr (Or.inr (Or.inr ⟨rfl, rfl, rfl⟩)))) (hb hby d29_8) hr, hrun, hended, _, _, rfl, ⟨rfl, N0, e1⟩, ⟨_, rfl⟩, hW, hsame.mono (by decide) (by decide)⟩
theorem d28_0 : decode prog_4_method_3_code 0 = .ok (.aload_n 0, 1) := by decide +kernel
theorem d28_1 : decode prog_4_method_3_code 1 = .ok (.getfield 13, 3) := by decide +kernel
theorem d28_4 : decode prog_4_method_3_code 4 = .ok (.iload_n 1, 1) := by decide +kernel
theorem d28_5 : decode prog_4_method_3_code 5 = .ok (.invokeinterface 22 2, 5) := by decide +kernel
theorem d28_10 : decode prog_4_method_3_code 10 = .ok (.checkcast 26, 3) := by decide +kernel
theorem d28_13 : decode prog_4_method_3_code 13 = .ok (.areturn, 1) := by decide +kernel
theorem pn_28 : plainName "com/example/ninkasi/ninkasi/csv/CsvRecord" = true := by first | (simp [plainName, overriddenIn]; done) | decide +kernel
theorem pd__I_Ljava_lang_Object_ : parseMethodDescriptor "(I)Ljava/lang/Object;" = some ⟨[.int], some (.object "java/lang/Object")⟩ := by decide +kernel
theorem ef_28 (m : MethodId) (x0 : Addr) (x1 : Int32) : entryFrame m #[(.ref x0), (.int x1)] 2 = mkF m 0 #[rv x0, iv x1] [] := by first | (simp [entryFrame, mkF, argsToLocals, Value.category]; done) | rfl
def Q_rm_rget_1_0 (Z : State) (a1 : Addr) (a2 : Addr) (el0 : Addr) (wM : Addr) (h0 : Heap) (n0 : Nat) : Option Value → Heap → List Loc → Prop := fun v h L => v = some (.ref el0) ∧ Fr n0 L ∧ h = h0
set_option maxRecDepth 65536 in
set_option maxHeartbeats 40000000 in
theorem rm_rget_1_0 (l : Launch) (Z : State) (a0 : Array Value) (hw : ∀ d ∈ tables_1, d.before a0 Z = true) (ws : List Jvm.Cond) (a1 : Addr) (a2 : Addr) (el0 : Addr) (wM : Addr) (h0 : Heap) (n0 : Nat) (Z0 : n0 ≤ h0.size) (F_a1_fields : Fld Z h0 a1 "com/example/ninkasi/ninkasi/csv/CsvRecord" "fields" "Ljava/util/List;" (.ref a2)) (E_a2 : Exa Z h0 a2 "java/util/ImmutableCollections$List12") (F_a2_e0 : Fld Z h0 a2 "java/util/ImmutableCollections$List12" "e0" "Ljava/lang/Object;" (.ref el0)) (F_a2_e1 : Fld Z h0 a2 "java/util/ImmutableCollections$List12" "e1" "Ljava/lang/Object;" (.ref wM)) (hold : Old Z n0 h0) (S_EMPTY : Sta Z Z.heap "java/util/ImmutableCollections" "EMPTY" "Ljava/lang/Object;" (.ref wM)) (E_el0 : Exa Z h0 el0 "java/lang/String") :
    MetFree l y34_ (head1 (Jvm.Cond.code y34_ prog_4_method_3_code 2 (some (.object "java/lang/String")) :: ws) R42_) (fun a U => a = #[(.ref a1), (.int (0 : Int32))] ∧ Z.Warmed39 U.vm ∧ U.heap = h0) (fun _ _ _ _ _ => True) (fun _ U o U' => ∃ v L, o = .returned v ∧ (Q_rm_rget_1_0 Z a1 a2 el0 wM h0 n0) v U'.heap L ∧ FrameEnd U o U' L R42_.cells R42_.slots) := by
  refine MetFree.of_bodySF (plainFor_of_name pn_28) hisR ?_
  intro p e s m args below meth c s₁ Bd hml0 hP hK
  obtain ⟨rfl, hZ, hh⟩ := hP
  have hx := Bd.exec
  have hby := Bd.bytes
  have hml : c.maxLocals = 2 := hml0
  have hown : s.vm.findClass "com/example/ninkasi/ninkasi/csv/CsvRecord" = some m.cls := findClass_of_methodNamed Bd.named
  have hnm := (name_of_methodNamed Bd.named Bd.method).1
  have X0 : Stand p l e R42_ s m #[(.ref a1), (.int (0 : Int32))] below meth c s₁ [] 0 0 := Stand.of_body Bd
  have e0 : s₁.heap = h0 := by rw [← hh, Bd.state]; rfl
  have N0 := Fr.nil n0
  show own_G FrameEnd p e below s R42_.cells R42_.slots (Q_rm_rget_1_0 Z a1 a2 el0 wM h0 n0) (s₁.setTop (entryFrame m #[(.ref a1), (.int (0 : Int32))] 2))
  refine own_go (Y' := s₁.setTop (mkF m 0 #[rv a1, iv (0 : Int32)] [])) ?_ (fun t k => castTop (ef_28 m a1 (0 : Int32)) k)
  refine own_go ?_ (fun _ hr => XS.aloadN X0.here hx rfl (hb hby d28_0) rfl rfl hr)
  show own_H (s₁.setTop (mkF m 1 #[rv a1, iv (0 : Int32)] [(.ref a1)]))
  obtain ⟨T1, X1, e1, st1⟩ := getF X0 hx hZ hown (host := "") (Or.inl (hw _ (tm 180 rfl))) Via.refl e0 F_a1_fields (g := (mkF m 1 #[rv a1, iv (0 : Int32)] [(.ref a1)])) rfl rfl (hb hby d28_1)
  refine own_go ?_ (fun _ hr => st1 _ (XS.iloadN X1.here hx rfl (hb hby d28_4) rfl hr))
  show own_H (T1.setTop (mkF m 5 #[rv a1, iv (0 : Int32)] [(.int (0 : Int32)), (.ref a2)]))
  obtain ⟨cq2, kq2, q2a, q2b, q2c⟩ := isOf hZ e1 E_a2
  obtain ⟨_, _, ⟨T2, L2, k2, n2⟩, -, X2, ⟨Lc2, hQ2, l2, y2, z2⟩, st2⟩ := X1.interfaceBack hx (xi := y35_) (y := y33_) hown (mvT hZ (hw _ (tm 209 rfl))) (mvT hZ (hw _ (tm 210 rfl))) (mvT hZ (hw _ (tm 211 rfl))) (mvT hZ (hw _ (tm 212 rfl))) (mvT hZ (hw _ (tm 213 rfl))) (mvT hZ (hw _ (tm 214 rfl))) (mvT hZ (hw _ (tm 215 rfl))) (mvT hZ (hw _ (tm 216 rfl))) (by decide) (backOf (W := 0) (rm_l12g_1_0 l Z a0 hw [] a2 el0 wM h0 n0 Z0 E_a2 F_a2_e0 F_a2_e1 hold S_EMPTY) hZ (hw _ (tm 217 rfl)) (hw _ (tm 152 rfl)) (by decide) (by decide)) q2a q2b q2c (g := (mkF m 5 #[rv a1, iv (0 : Int32)] [(.int (0 : Int32)), (.ref a2)])) rfl (by rw [hml]; rfl) (Steps.refl _) (argsL := [(.int (0 : Int32))]) (rest := []) (lenOf pd__I_Ljava_lang_Object_ rfl) rfl (by show 2 * 0 + _ ≤ _; exact Nat.le_of_eq rfl) (hb hby d28_5) (fun _ _ => ⟨rfl, e1, (by decide : 0 + 0 ≤ _), (by decide : 0 + 0 ≤ _)⟩)
  dsimp only [Pt.U, Pt.locs, Pt.cells, Pt.slots] at X2 l2 y2 z2 st2 hQ2
  subst l2 y2 z2
  obtain ⟨rfl, N2q, e2⟩ := hQ2
  have N2 := Fr.app N0 N2q
  refine own_go ?_ (fun _ hr => st2.trans hr)
  show own_H (T2.setTop (mkF m 10 #[rv a1, iv (0 : Int32)] [(.ref el0)]))
  obtain ⟨T3, X3, e3, st3⟩ := castY X2 hx hZ hown (hw _ (tm 218 rfl)) e2 (Ins.self E_el0) (g := (mkF m 10 #[rv a1, iv (0 : Int32)] [(.ref el0)])) rfl rfl (hb hby d28_10)
  refine own_go ?_ (fun _ hr => st3 _ hr)
  show own_H (T3.setTop (mkF m 13 #[rv a1, iv (0 : Int32)] [(.ref el0)]))
  obtain ⟨fs, hr, hrun, hended, hW, hsame⟩ := X3.leave (v := some (.ref el0)) (fun h => by rw [Bd.returns] at h; cases h)
  exact ⟨_, _, retOut X3 hx Bd.returns rfl (Or.inr (Or.inr (Or.inr (Or.inr ⟨rfl, rfl, rfl⟩)))) (hb hby d28_13) hr, hrun, hended, _, _, rfl, ⟨rfl, N2, e3⟩, ⟨_, rfl⟩, hW, hsame.mono (by decide) (by decide)⟩
def Q_rm_rec_2 (Z : State) (a1 : Addr) (a2 : Addr) (a3 : Addr) (u0 : Value) (u1 : Value) (u2 : Value) (bb2 : Addr) (kk2 : ClassId) (bb3 : Addr) (kk3 : ClassId) (mO : Addr) (el0 : Addr) (el1 : Addr) (fl0 : Addr) (fl1 : Addr) (fl2 : Addr) (fl3 : Addr) (wM : Addr) (h0 : Heap) (n0 : Nat) : Option Value → Heap → List Loc → Prop := fun v h L => ∃ (nl : Addr), v = none ∧ Fr n0 L ∧ Keep h0 h [a1] ∧ h0.size ≤ nl ∧ Exa Z h a1 "com/example/ninkasi/ninkasi/csv/CsvRecord" ∧ Fld Z h a1 "com/example/ninkasi/ninkasi/csv/CsvRecord" "fields" "Ljava/util/List;" (.ref nl) ∧ Exa Z h nl "java/util/ImmutableCollections$List12" ∧ Fld Z h nl "java/util/ImmutableCollections$List12" "e0" "Ljava/lang/Object;" (.ref el0) ∧ Fld Z h nl "java/util/ImmutableCollections$List12" "e1" "Ljava/lang/Object;" (.ref el1)
set_option maxRecDepth 65536 in
set_option maxHeartbeats 40000000 in
theorem rm_rec_2 (l : Launch) (Z : State) (a0 : Array Value) (hw : ∀ d ∈ tables_1, d.before a0 Z = true) (ws : List Jvm.Cond) (a1 : Addr) (a2 : Addr) (a3 : Addr) (u0 : Value) (u1 : Value) (u2 : Value) (bb2 : Addr) (kk2 : ClassId) (bb3 : Addr) (kk3 : ClassId) (mO : Addr) (el0 : Addr) (el1 : Addr) (fl0 : Addr) (fl1 : Addr) (fl2 : Addr) (fl3 : Addr) (wM : Addr) (h0 : Heap) (n0 : Nat) (Z0 : n0 ≤ h0.size) (E_a1 : Exa Z h0 a1 "com/example/ninkasi/ninkasi/csv/CsvRecord") (F_a1_modCount : Fld Z h0 a1 "java/util/AbstractList" "modCount" "I" u0) (F_a1_fields : Fld Z h0 a1 "com/example/ninkasi/ninkasi/csv/CsvRecord" "fields" "Ljava/util/List;" u1) (F_a1_fieldNames : Fld Z h0 a1 "com/example/ninkasi/ninkasi/csv/CsvRecord" "fieldNames" "Ljava/util/List;" u2) (g_a1 : n0 ≤ a1) (E_a2 : Exa Z h0 a2 "java/util/ArrayList") (F_a2_elementData : Fld Z h0 a2 "java/util/ArrayList" "elementData" "[Ljava/lang/Object;" (.ref bb2)) (F_a2_size : Fld Z h0 a2 "java/util/ArrayList" "size" "I" (.int (2 : Int32))) (V_bb2 : Arv Z h0 bb2 kk2 (.object "java/lang/Object") (10 : Int32) [(.ref el0), (.ref el1), .null, .null, .null, .null, .null, .null, .null, .null] .null) (E_bb2 : Exa Z h0 bb2 "[Ljava/lang/Object;") (E_el0 : Exa Z h0 el0 "java/lang/String") (E_el1 : Exa Z h0 el1 "java/lang/String") (mir_mO : Mir Z "[Ljava/lang/Object;" mO) (E_a3 : Exa Z h0 a3 "java/util/ArrayList") (F_a3_elementData : Fld Z h0 a3 "java/util/ArrayList" "elementData" "[Ljava/lang/Object;" (.ref bb3)) (F_a3_size : Fld Z h0 a3 "java/util/ArrayList" "size" "I" (.int (4 : Int32))) (V_bb3 : Arv Z h0 bb3 kk3 (.object "java/lang/Object") (10 : Int32) [(.ref fl0), (.ref fl1), (.ref fl2), (.ref fl3), .null, .null, .null, .null, .null, .null] .null) (E_bb3 : Exa Z h0 bb3 "[Ljava/lang/Object;") (E_fl0 : Exa Z h0 fl0 "java/lang/String") (E_fl1 : Exa Z h0 fl1 "java/lang/String") (E_fl2 : Exa Z h0 fl2 "java/lang/String") (E_fl3 : Exa Z h0 fl3 "java/lang/String") (hold : Old Z n0 h0) (S_EMPTY : Sta Z Z.heap "java/util/ImmutableCollections" "EMPTY" "Ljava/lang/Object;" (.ref wM)) (ne_a2_a1 : a2 ≠ a1) (ne_a3_a1 : a3 ≠ a1) (ne_bb2_a1 : bb2 ≠ a1) (ne_bb3_a1 : bb3 ≠ a1) :
    MetFree l y32_ (head1 (Jvm.Cond.code y32_ prog_4_method_1_code 3 none :: ws) R43_) (fun a U => a = #[(.ref a1), (.ref a2), (.ref a3)] ∧ Z.Warmed39 U.vm ∧ U.heap = h0) (fun _ _ _ _ _ => True) (fun _ U o U' => ∃ v L, o = .returned v ∧ (Q_rm_rec_2 Z a1 a2 a3 u0 u1 u2 bb2 kk2 bb3 kk3 mO el0 el1 fl0 fl1 fl2 fl3 wM h0 n0) v U'.heap L ∧ FrameEnd U o U' L R43_.cells R43_.slots) := by
  refine MetFree.of_bodySF (plainFor_of_name pn_13) hisR ?_
  intro p e s m args below meth c s₁ Bd hml0 hP hK
  obtain ⟨rfl, hZ, hh⟩ := hP
  have hx := Bd.exec
  have hby := Bd.bytes
  have hml : c.maxLocals = 3 := hml0
  have hown : s.vm.findClass "com/example/ninkasi/ninkasi/csv/CsvRecord" = some m.cls := findClass_of_methodNamed Bd.named
  have hnm := (name_of_methodNamed Bd.named Bd.method).1
  have X0 : Stand p l e R43_ s m #[(.ref a1), (.ref a2), (.ref a3)] below meth c s₁ [] 0 0 := Stand.of_body Bd
  have e0 : s₁.heap = h0 := by rw [← hh, Bd.state]; rfl
  have N0 := Fr.nil n0
  show own_G FrameEnd p e below s R43_.cells R43_.slots (Q_rm_rec_2 Z a1 a2 a3 u0 u1 u2 bb2 kk2 bb3 kk3 mO el0 el1 fl0 fl1 fl2 fl3 wM h0 n0) (s₁.setTop (entryFrame m #[(.ref a1), (.ref a2), (.ref a3)] 3))
  refine own_go (Y' := s₁.setTop (mkF m 0 #[rv a1, rv a2, rv a3] [])) ?_ (fun t k => castTop (ef_13 m a1 a2 a3) k)
  refine own_go ?_ (fun _ hr => XS.aloadN X0.here hx rfl (hb hby d13_0) rfl rfl hr)
  show own_H (s₁.setTop (mkF m 1 #[rv a1, rv a2, rv a3] [(.ref a1)]))
  obtain ⟨_, _, ⟨T1, L1, k1, n1⟩, -, X1, ⟨Lc1, hQ1, l1, y1, z1⟩, st1⟩ := X0.specialBack hx (y := y8_) rfl hown (mvT hZ (hw _ (tm 91 rfl))) (mvT hZ (hw _ (tm 33 rfl))) (mvT hZ (hw _ (tm 37 rfl))) (by decide) (backOf (W := 0) (rm_abl_rec l Z a0 hw [] a1 (u0) (u1) (u2) h0 n0 Z0 E_a1 F_a1_modCount F_a1_fields F_a1_fieldNames g_a1) hZ (hw _ (tm 37 rfl)) (hw _ (tm 36 rfl)) (by decide) (by decide)) (g := (mkF m 1 #[rv a1, rv a2, rv a3] [(.ref a1)])) rfl (by rw [hml]; rfl) (Steps.refl _) (a := a1) (argsL := []) (rest := []) (lenOf pd___V rfl) rfl (by show 2 * 0 + _ ≤ _; exact Nat.le_of_eq rfl) (hb hby d13_1) (fun _ _ => ⟨rfl, e0, (by decide : 0 + 0 ≤ _), (by decide : 0 + 0 ≤ _)⟩)
  dsimp only [Pt.U, Pt.locs, Pt.cells, Pt.slots] at X1 l1 y1 z1 st1 hQ1
  subst l1 y1 z1
  obtain ⟨rfl, N1q, K1, P1_0, P1_1, P1_2, P1_3⟩ := hQ1
  have N1 := Fr.app N0 N1q
  refine own_go ?_ (fun _ hr => st1.trans (XS.aloadN X1.here hx rfl (hb hby d13_4) rfl rfl (XS.aloadN X1.here hx rfl (hb hby d13_5) rfl rfl hr)))
  show own_H (T1.setTop (mkF m 6 #[rv a1, rv a2, rv a3] [(.ref a2), (.ref a1)]))
  obtain ⟨_, _, ⟨T2, L2, k2, n2⟩, -, X2, ⟨Lc2, hQ2, l2, y2, z2⟩, st2⟩ := Jvm.LawKit.callS X1 hx (y := y30_) hown (mvT hZ (hw _ (tm 94 rfl))) (mvT hZ (hw _ (tm 95 rfl))) (mvT hZ (hw _ (tm 96 rfl))) (mvT hZ (hw _ (tm 97 rfl))) (by decide) (backOf (W := 1) (rm_cp_2 l Z a0 hw [] a2 bb2 mO kk2 el0 el1 T1.heap n0 (ltr Z0 K1.1) (E_a2.keep K1) (F_a2_elementData.keep K1 (ninS ne_a2_a1 nin0)) (F_a2_size.keep K1 (ninS ne_a2_a1 nin0)) (V_bb2.keep K1 (ninS ne_bb2_a1 nin0)) (E_bb2.keep K1) (E_el0.keep K1) (E_el1.keep K1) mir_mO) hZ (hw _ (tm 97 rfl)) (hw _ (tm 96 rfl)) (by decide) (by decide)) (g := (mkF m 6 #[rv a1, rv a2, rv a3] [(.ref a2), (.ref a1)])) rfl (by rw [hml]; rfl) (argsL := [(.ref a2)]) (rest := [(.ref a1)]) (lenOf pd__Ljava_util_Collection__Ljava_util_List_ rfl) rfl (by show 2 * 0 + _ ≤ _; exact Nat.le_of_eq rfl) (hb hby d13_6) (fun _ _ => ⟨rfl, rfl, (by decide : 0 + 2 ≤ _), (by decide : 0 + 4 ≤ _)⟩)
  dsimp only [Pt.U, Pt.locs, Pt.cells, Pt.slots] at X2 l2 y2 z2 st2 hQ2
  subst l2 y2 z2
  obtain ⟨b2_0, rfl, N2q, K2, yb2_0, P2_0, P2_1, P2_2⟩ := hQ2
  have g_b2_0 : n0 ≤ b2_0 := ltr (ltr Z0 K1.1) yb2_0
  have sz_b2_0 : h0.size ≤ b2_0 := ltr ((Keep.refl h0 [a1]).trans K1 (allS (Or.inl (List.mem_of_getElem? (i := 0) rfl)) all0)).1 yb2_0
  have N2 := Fr.app N1 N2q
  refine own_go ?_ (fun _ hr => st2 _ hr)
  show own_H (T2.setTop (mkF m 9 #[rv a1, rv a2, rv a3] [(.ref b2_0), (.ref a1)]))
  obtain ⟨T3, h3, X3, e3, W3, st3⟩ := putF X2 hx hZ hown (host := "") (Or.inl (hw _ (tm 180 rfl))) Via.refl rfl (P1_2.keep K2 nin0) (P1_0.keep K2) (Or.inr ⟨(hw _ (tm 181 rfl)), rfl, hnm⟩) (hw _ (tm 86 rfl)) (ty := (.object "java/util/List")) (by decide) rfl rfl (g := (mkF m 9 #[rv a1, rv a2, rv a3] [(.ref b2_0), (.ref a1)])) rfl rfl (hb hby d13_9)
  have Fw3 := (P1_2.keep K2 nin0).same W3
  have N3 := Fr.snoc X3 N2 g_a1
  refine own_go ?_ (fun _ hr => st3 _ (XS.aloadN X3.here hx rfl (hb hby d13_12) rfl rfl (XS.aloadN X3.here hx rfl (hb hby d13_13) rfl rfl hr)))
  show own_H (T3.setTop (mkF m 14 #[rv a1, rv a2, rv a3] [(.ref a3), (.ref a1)]))
  obtain ⟨_, _, ⟨T4, L4, k4, n4⟩, -, X4, ⟨Lc4, hQ4, l4, y4, z4⟩, st4⟩ := Jvm.LawKit.callS X3 hx (y := y30_) hown (mvT hZ (hw _ (tm 94 rfl))) (mvT hZ (hw _ (tm 95 rfl))) (mvT hZ (hw _ (tm 96 rfl))) (mvT hZ (hw _ (tm 97 rfl))) (by decide) (backOf (W := 1) (rm_cp_4 l Z a0 hw [] a3 bb3 mO kk3 fl0 fl1 fl2 fl3 h3 n0 (ltr (ltr (ltr Z0 K1.1) K2.1) (Keep.of_wr W3).1) (((E_a3.keep K1).keep K2).wr W3) (((F_a3_elementData.keep K1 (ninS ne_a3_a1 nin0)).keep K2 nin0).other W3 (Or.inl ne_a3_a1)) (((F_a3_size.keep K1 (ninS ne_a3_a1 nin0)).keep K2 nin0).other W3 (Or.inl ne_a3_a1)) (((V_bb3.keep K1 (ninS ne_bb3_a1 nin0)).keep K2 nin0).other W3 ne_bb3_a1) (((E_bb3.keep K1).keep K2).wr W3) (((E_fl0.keep K1).keep K2).wr W3) (((E_fl1.keep K1).keep K2).wr W3) (((E_fl2.keep K1).keep K2).wr W3) (((E_fl3.keep K1).keep K2).wr W3) mir_mO) hZ (hw _ (tm 97 rfl)) (hw _ (tm 96 rfl)) (by decide) (by decide)) (g := (mkF m 14 #[rv a1, rv a2, rv a3] [(.ref a3), (.ref a1)])) rfl (by rw [hml]; rfl) (argsL := [(.ref a3)]) (rest := [(.ref a1)]) (lenOf pd__Ljava_util_Collection__Ljava_util_List_ rfl) rfl (by show 2 * 0 + _ ≤ _; exact Nat.le_of_eq rfl) (hb hby d13_14) (fun _ _ => ⟨rfl, e3, (by decide : 2 + 3 ≤ _), (by decide : 4 + 10 ≤ _)⟩)
  dsimp only [Pt.U, Pt.locs, Pt.cells, Pt.slots] at X4 l4 y4 z4 st4 hQ4
  subst l4 y4 z4
  obtain ⟨b4_0, b4_1, kb4_2, rfl, N4q, K4, yb4_0, yb4_1, P4_0, P4_1, P4_2⟩ := hQ4
  have g_b4_0 : n0 ≤ b4_0 := ltr (ltr (ltr (ltr Z0 K1.1) K2.1) (Keep.of_wr W3).1) yb4_0
  have sz_b4_0 : h0.size ≤ b4_0 := ltr ((((Keep.refl h0 [a1]).trans K1 (allS (Or.inl (List.mem_of_getElem? (i := 0) rfl)) all0)).trans K2 all0).wr W3 (Or.inl (List.mem_of_getElem? (i := 0) rfl))).1 yb4_0
  have g_b4_1 : n0 ≤ b4_1 := ltr (ltr (ltr (ltr Z0 K1.1) K2.1) (Keep.of_wr W3).1) yb4_1
  have sz_b4_1 : h0.size ≤ b4_1 := ltr ((((Keep.refl h0 [a1]).trans K1 (allS (Or.inl (List.mem_of_getElem? (i := 0) rfl)) all0)).trans K2 all0).wr W3 (Or.inl (List.mem_of_getElem? (i := 0) rfl))).1 yb4_1
  have N4 := Fr.app N3 N4q
  refine own_go ?_ (fun _ hr => st4 _ hr)
  show own_H (T4.setTop (mkF m 17 #[rv a1, rv a2, rv a3] [(.ref b4_0), (.ref a1)]))
  obtain ⟨T5, h5, X5, e5, W5, st5⟩ := putF X4 hx hZ hown (host := "") (Or.inl (hw _ (tm 201 rfl))) Via.refl rfl (((P1_3.keep K2 nin0).other W3 (Or.inr (slot_ne (Or.inr (hw _ (tm 202 rfl))) (Or.inr (hw _ (tm 181 rfl))) (by decide) (t := (.object "java/util/List")) (t' := (.object "java/util/List")) (by decide) (by decide)))).keep K4 nin0) (((P1_0.keep K2).wr W3).keep K4) (Or.inr ⟨(hw _ (tm 202 rfl)), rfl, hnm⟩) (hw _ (tm 86 rfl)) (ty := (.object "java/util/List")) (by decide) rfl rfl (g := (mkF m 17 #[rv a1, rv a2, rv a3] [(.ref b4_0), (.ref a1)])) rfl rfl (hb hby d13_17)
  have Fw5 := (((P1_3.keep K2 nin0).other W3 (Or.inr (slot_ne (Or.inr (hw _ (tm 202 rfl))) (Or.inr (hw _ (tm 181 rfl))) (by decide) (t := (.object "java/util/List")) (t' := (.object "java/util/List")) (by decide) (by decide)))).keep K4 nin0).same W5
  have N5 := Fr.snoc X5 N4 g_a1
  refine own_go ?_ (fun _ hr => st5 _ hr)
  show own_H (T5.setTop (mkF m 20 #[rv a1, rv a2, rv a3] []))
  obtain ⟨fs, hr, hrun, hended, hW, hsame⟩ := X5.leave (v := none) (fun _ => rfl)
  exact ⟨_, _, X5.returnOut hx Bd.returns (hb hby d13_20) hr, hrun, hended, _, _, rfl, (by rw [show (T5.setFrames fs).heap = h5 from e5]; exact ⟨b2_0, rfl, N5, ((((((Keep.refl h0 [a1]).trans K1 (allS (Or.inl (List.mem_of_getElem? (i := 0) rfl)) all0)).trans K2 all0).wr W3 (Or.inl (List.mem_of_getElem? (i := 0) rfl))).trans K4 all0).wr W5 (Or.inl (List.mem_of_getElem? (i := 0) rfl))), sz_b2_0, ((((P1_0.keep K2).wr W3).keep K4).wr W5), ((Fw3.keep K4 nin0).other W5 (Or.inr (slot_ne (Or.inr (hw _ (tm 181 rfl))) (Or.inr (hw _ (tm 202 rfl))) (by decide) (t := (.object "java/util/List")) (t' := (.object "java/util/List")) (by decide) (by decide)))), (((P2_0.wr W3).keep K4).wr W5), (((P2_1.other W3 (Or.inl (Ne.symm (Nat.ne_of_lt (Nat.lt_of_lt_of_le E_a1.lt (ltr K1.1 yb2_0)))))).keep K4 nin0).other W5 (Or.inl (Ne.symm (Nat.ne_of_lt (Nat.lt_of_lt_of_le E_a1.lt (ltr K1.1 yb2_0)))))), (((P2_2.other W3 (Or.inl (Ne.symm (Nat.ne_of_lt (Nat.lt_of_lt_of_le E_a1.lt (ltr K1.1 yb2_0)))))).keep K4 nin0).other W5 (Or.inl (Ne.symm (Nat.ne_of_lt (Nat.lt_of_lt_of_le E_a1.lt (ltr K1.1 yb2_0))))))⟩), ⟨_, rfl⟩, hW, hsame.mono (by decide) (by decide)⟩
def Q_rm_l12g_2_0 (Z : State) (a1 : Addr) (el0 : Addr) (el1 : Addr) (wM : Addr) (h0 : Heap) (n0 : Nat) : Option Value → Heap → List Loc → Prop := fun v h L => v = some (.ref el0) ∧ Fr n0 L ∧ h = h0
set_option maxRecDepth 65536 in
set_option maxHeartbeats 40000000 in
theorem rm_l12g_2_0 (l : Launch) (Z : State) (a0 : Array Value) (hw : ∀ d ∈ tables_1, d.before a0 Z = true) (ws : List Jvm.Cond) (a1 : Addr) (el0 : Addr) (el1 : Addr) (wM : Addr) (h0 : Heap) (n0 : Nat) (Z0 : n0 ≤ h0.size) (E_a1 : Exa Z h0 a1 "java/util/ImmutableCollections$List12") (F_a1_e0 : Fld Z h0 a1 "java/util/ImmutableCollections$List12" "e0" "Ljava/lang/Object;" (.ref el0)) (F_a1_e1 : Fld Z h0 a1 "java/util/ImmutableCollections$List12" "e1" "Ljava/lang/Object;" (.ref el1)) (hold : Old Z n0 h0) (S_EMPTY : Sta Z Z.heap "java/util/ImmutableCollections" "EMPTY" "Ljava/lang/Object;" (.ref wM)) :
    MetFree l y33_ (head1 (Jvm.Cond.code y33_ jdk_44_method_5_code 2 (some (.object "java/lang/Object")) :: ws) R0_) (fun a U => a = #[(.ref a1), (.int (0 : Int32))] ∧ Z.Warmed39 U.vm ∧ U.heap = h0) (fun _ _ _ _ _ => True) (fun _ U o U' => ∃ v L, o = .returned v ∧ (Q_rm_l12g_2_0 Z a1 el0 el1 wM h0 n0) v U'.heap L ∧ FrameEnd U o U' L R0_.cells R0_.slots) := by
  refine MetFree.of_bodySF (plainFor_of_name pn_29) hisR ?_
  intro p e s m args below meth c s₁ Bd hml0 hP hK
  obtain ⟨rfl, hZ, hh⟩ := hP
  have hx := Bd.exec
  have hby := Bd.bytes
  have hml : c.maxLocals = 2 := hml0
  have hown : s.vm.findClass "java/util/ImmutableCollections$List12" = some m.cls := findClass_of_methodNamed Bd.named
  have hnm := (name_of_methodNamed Bd.named Bd.method).1
  have X0 : Stand p l e R0_ s m #[(.ref a1), (.int (0 : Int32))] below meth c s₁ [] 0 0 := Stand.of_body Bd
  have e0 : s₁.heap = h0 := by rw [← hh, Bd.state]; rfl
  have N0 := Fr.nil n0
  show own_G FrameEnd p e below s R0_.cells R0_.slots (Q_rm_l12g_2_0 Z a1 el0 el1 wM h0 n0) (s₁.setTop (entryFrame m #[(.ref a1), (.int (0 : Int32))] 2))
  refine own_go (Y' := s₁.setTop (mkF m 0 #[rv a1, iv (0 : Int32)] [])) ?_ (fun t k => castTop (ef_29 m a1 (0 : Int32)) k)
  refine own_go ?_ (fun _ hr => XS.iloadN X0.here hx rfl (hb hby d29_0) rfl (XS.ifNo X0.here hx rfl (hb hby d29_1) rfl ((if0 _ _).trans (teq (by decide : (0 : Int32) = (0 : Int32))).2) (XS.aloadN X0.here hx rfl (hb hby d29_4) rfl rfl hr)))
  show own_H (s₁.setTop (mkF m 5 #[rv a1, iv (0 : Int32)] [(.ref a1)]))
  obtain ⟨T1, X1, e1, st1⟩ := getF X0 hx hZ hown (host := "") (Or.inl (hw _ (tm 175 rfl))) Via.refl e0 F_a1_e0 (g := (mkF m 5 #[rv a1, iv (0 : Int32)] [(.ref a1)])) rfl rfl (hb hby d29_5)
  refine own_go ?_ (fun _ hr => st1 _ hr)
  show own_H (T1.setTop (mkF m 8 #[rv a1, iv (0 : Int32)] [(.ref el0)]))
  obtain ⟨fs, hr, hrun, hended, hW, hsame⟩ := X1.leave (v := some (.ref el0)) (fun h => by rw [Bd.returns] at h; cases h)
  exact ⟨_, _, retOut X1 hx Bd.returns rfl (Or.inr (Or.inr (Or.inr (Or.inr ⟨rfl, rfl, rfl⟩)))) (hb hby d29_8) hr, hrun, hended, _, _, rfl, ⟨rfl, N0, e1⟩, ⟨_, rfl⟩, hW, hsame.mono (by decide) (by decide)⟩
def Q_rm_rget_2_0 (Z : State) (a1 : Addr) (a2 : Addr) (el0 : Addr) (el1 : Addr) (wM : Addr) (h0 : Heap) (n0 : Nat) : Option Value → Heap → List Loc → Prop := fun v h L => v = some (.ref el0) ∧ Fr n0 L ∧ h = h0
set_option maxRecDepth 65536 in
set_option maxHeartbeats 40000000 in
theorem rm_rget_2_0 (l : Launch) (Z : State) (a0 : Array Value) (hw : ∀ d ∈ tables_1, d.before a0 Z = true) (ws : List Jvm.Cond) (a1 : Addr) (a2 : Addr) (el0 : Addr) (el1 : Addr) (wM : Addr) (h0 : Heap) (n0 : Nat) (Z0 : n0 ≤ h0.size) (F_a1_fields : Fld Z h0 a1 "com/example/ninkasi/ninkasi/csv/CsvRecord" "fields" "Ljava/util/List;" (.ref a2)) (E_a2 : Exa Z h0 a2 "java/util/ImmutableCollections$List12") (F_a2_e0 : Fld Z h0 a2 "java/util/ImmutableCollections$List12" "e0" "Ljava/lang/Object;" (.ref el0)) (F_a2_e1 : Fld Z h0 a2 "java/util/ImmutableCollections$List12" "e1" "Ljava/lang/Object;" (.ref el1)) (hold : Old Z n0 h0) (S_EMPTY : Sta Z Z.heap "java/util/ImmutableCollections" "EMPTY" "Ljava/lang/Object;" (.ref wM)) (E_el0 : Exa Z h0 el0 "java/lang/String") :
    MetFree l y34_ (head1 (Jvm.Cond.code y34_ prog_4_method_3_code 2 (some (.object "java/lang/String")) :: ws) R42_) (fun a U => a = #[(.ref a1), (.int (0 : Int32))] ∧ Z.Warmed39 U.vm ∧ U.heap = h0) (fun _ _ _ _ _ => True) (fun _ U o U' => ∃ v L, o = .returned v ∧ (Q_rm_rget_2_0 Z a1 a2 el0 el1 wM h0 n0) v U'.heap L ∧ FrameEnd U o U' L R42_.cells R42_.slots) := by
  refine MetFree.of_bodySF (plainFor_of_name pn_28) hisR ?_
  intro p e s m args below meth c s₁ Bd hml0 hP hK
  obtain ⟨rfl, hZ, hh⟩ := hP
  have hx := Bd.exec
  have hby := Bd.bytes
  have hml : c.maxLocals = 2 := hml0
  have hown : s.vm.findClass "com/example/ninkasi/ninkasi/csv/CsvRecord" = some m.cls := findClass_of_methodNamed Bd.named
  have hnm := (name_of_methodNamed Bd.named Bd.method).1
  have X0 : Stand p l e R42_ s m #[(.ref a1), (.int (0 : Int32))] below meth c s₁ [] 0 0 := Stand.of_body Bd
  have e0 : s₁.heap = h0 := by rw [← hh, Bd.state]; rfl
  have N0 := Fr.nil n0
  show own_G FrameEnd p e below s R42_.cells R42_.slots (Q_rm_rget_2_0 Z a1 a2 el0 el1 wM h0 n0) (s₁.setTop (entryFrame m #[(.ref a1), (.int (0 : Int32))] 2))
  refine own_go (Y' := s₁.setTop (mkF m 0 #[rv a1, iv (0 : Int32)] [])) ?_ (fun t k => castTop (ef_28 m a1 (0 : Int32)) k)
  refine own_go ?_ (fun _ hr => XS.aloadN X0.here hx rfl (hb hby d28_0) rfl rfl hr)
  show own_H (s₁.setTop (mkF m 1 #[rv a1, iv (0 : Int32)] [(.ref a1)]))
  obtain ⟨T1, X1, e1, st1⟩ := getF X0 hx hZ hown (host := "") (Or.inl (hw _ (tm 180 rfl))) Via.refl e0 F_a1_fields (g := (mkF m 1 #[rv a1, iv (0 : Int32)] [(.ref a1)])) rfl rfl (hb hby d28_1)
  refine own_go ?_ (fun _ hr => st1 _ (XS.iloadN X1.here hx rfl (hb hby d28_4) rfl hr))
  show own_H (T1.setTop (mkF m 5 #[rv a1, iv (0 : Int32)] [(.int (0 : Int32)), (.ref a2)]))
  obtain ⟨cq2, kq2, q2a, q2b, q2c⟩ := isOf hZ e1 E_a2
  obtain ⟨_, _, ⟨T2, L2, k2, n2⟩, -, X2, ⟨Lc2, hQ2, l2, y2, z2⟩, st2⟩ := X1.interfaceBack hx (xi := y35_) (y := y33_) hown (mvT hZ (hw _ (tm 209 rfl))) (mvT hZ (hw _ (tm 210 rfl))) (mvT hZ (hw _ (tm 211 rfl))) (mvT hZ (hw _ (tm 212 rfl))) (mvT hZ (hw _ (tm 213 rfl))) (mvT hZ (hw _ (tm 214 rfl))) (mvT hZ (hw _ (tm 215 rfl))) (mvT hZ (hw _ (tm 216 rfl))) (by decide) (backOf (W := 0) (rm_l12g_2_0 l Z a0 hw [] a2 el0 el1 wM h0 n0 Z0 E_a2 F_a2_e0 F_a2_e1 hold S_EMPTY) hZ (hw _ (tm 217 rfl)) (hw _ (tm 152 rfl)) (by decide) (by decide)) q2a q2b q2c (g := (mkF m 5 #[rv a1, iv (0 : Int32)] [(.int (0 : Int32)), (.ref a2)])) rfl (by rw [hml]; rfl) (Steps.refl _) (argsL := [(.int (0 : Int32))]) (rest := []) (lenOf pd__I_Ljava_lang_Object_ rfl) rfl (by show 2 * 0 + _ ≤ _; exact Nat.le_of_eq rfl) (hb hby d28_5) (fun _ _ => ⟨rfl, e1, (by decide : 0 + 0 ≤ _), (by decide : 0 + 0 ≤ _)⟩)
  dsimp only [Pt.U, Pt.locs, Pt.cells, Pt.slots] at X2 l2 y2 z2 st2 hQ2
  subst l2 y2 z2
  obtain ⟨rfl, N2q, e2⟩ := hQ2
  have N2 := Fr.app N0 N2q
  refine own_go ?_ (fun _ hr => st2.trans hr)
  show own_H (T2.setTop (mkF m 10 #[rv a1, iv (0 : Int32)] [(.ref el0)]))
  obtain ⟨T3, X3, e3, st3⟩ := castY X2 hx hZ hown (hw _ (tm 218 rfl)) e2 (Ins.self E_el0) (g := (mkF m 10 #[rv a1, iv (0 : Int32)] [(.ref el0)])) rfl rfl (hb hby d28_10)
  refine own_go ?_ (fun _ hr => st3 _ hr)
  show own_H (T3.setTop (mkF m 13 #[rv a1, iv (0 : Int32)] [(.ref el0)]))
  obtain ⟨fs, hr, hrun, hended, hW, hsame⟩ := X3.leave (v := some (.ref el0)) (fun h => by rw [Bd.returns] at h; cases h)
  exact ⟨_, _, retOut X3 hx Bd.returns rfl (Or.inr (Or.inr (Or.inr (Or.inr ⟨rfl, rfl, rfl⟩)))) (hb hby d28_13) hr, hrun, hended, _, _, rfl, ⟨rfl, N2, e3⟩, ⟨_, rfl⟩, hW, hsame.mono (by decide) (by decide)⟩
theorem d29_9 : decode jdk_44_method_5_code 9 = .ok (.iload_n 1, 1) := by decide +kernel
theorem d29_10 : decode jdk_44_method_5_code 10 = .ok (.iconst 1, 1) := by decide +kernel
theorem d29_11 : decode jdk_44_method_5_code 11 = .ok (.if_icmp .ne 18, 3) := by decide +kernel
theorem d29_14 : decode jdk_44_method_5_code 14 = .ok (.aload_n 0, 1) := by decide +kernel
theorem d29_15 : decode jdk_44_method_5_code 15 = .ok (.getfield 24, 3) := by decide +kernel
theorem d29_18 : decode jdk_44_method_5_code 18 = .ok (.getstatic 19, 3) := by decide +kernel
theorem d29_21 : decode jdk_44_method_5_code 21 = .ok (.if_acmp .eq 8, 3) := by decide +kernel
theorem d29_24 : decode jdk_44_method_5_code 24 = .ok (.aload_n 0, 1) := by decide +kernel
theorem d29_25 : decode jdk_44_method_5_code 25 = .ok (.getfield 24, 3) := by decide +kernel
theorem d29_28 : decode jdk_44_method_5_code 28 = .ok (.areturn, 1) := by decide +kernel
def Q_rm_l12g_2_1 (Z : State) (a1 : Addr) (el0 : Addr) (el1 : Addr) (wM : Addr) (h0 : Heap) (n0 : Nat) : Option Value → Heap → List Loc → Prop := fun v h L => v = some (.ref el1) ∧ Fr n0 L ∧ h = h0
set_option maxRecDepth 65536 in
set_option maxHeartbeats 40000000 in
theorem rm_l12g_2_1 (l : Launch) (Z : State) (a0 : Array Value) (hw : ∀ d ∈ tables_1, d.before a0 Z = true) (ws : List Jvm.Cond) (a1 : Addr) (el0 : Addr) (el1 : Addr) (wM : Addr) (h0 : Heap) (n0 : Nat) (Z0 : n0 ≤ h0.size) (E_a1 : Exa Z h0 a1 "java/util/ImmutableCollections$List12") (F_a1_e0 : Fld Z h0 a1 "java/util/ImmutableCollections$List12" "e0" "Ljava/lang/Object;" (.ref el0)) (F_a1_e1 : Fld Z h0 a1 "java/util/ImmutableCollections$List12" "e1" "Ljava/lang/Object;" (.ref el1)) (hold : Old Z n0 h0) (S_EMPTY : Sta Z Z.heap "java/util/ImmutableCollections" "EMPTY" "Ljava/lang/Object;" (.ref wM)) (hne : ¬ (el1 = wM)) :
    MetFree l y33_ (head1 (Jvm.Cond.code y33_ jdk_44_method_5_code 2 (some (.object "java/lang/Object")) :: ws) R0_) (fun a U => a = #[(.ref a1), (.int (1 : Int32))] ∧ Z.Warmed39 U.vm ∧ U.heap = h0) (fun _ _ _ _ _ => True) (fun _ U o U' => ∃ v L, o = .returned v ∧ (Q_rm_l12g_2_1 Z a1 el0 el1 wM h0 n0) v U'.heap L ∧ FrameEnd U o U' L R0_.cells R0_.slots) := by
  refine MetFree.of_bodySF (plainFor_of_name pn_29) hisR ?_
  intro p e s m args below meth c s₁ Bd hml0 hP hK
  obtain ⟨rfl, hZ, hh⟩ := hP
  have hx := Bd.exec
  have hby := Bd.bytes
  have hml : c.maxLocals = 2 := hml0
  have hown : s.vm.findClass "java/util/ImmutableCollections$List12" = some m.cls := findClass_of_methodNamed Bd.named
  have hnm := (name_of_methodNamed Bd.named Bd.method).1
  have X0 : Stand p l e R0_ s m #[(.ref a1), (.int (1 : Int32))] below meth c s₁ [] 0 0 := Stand.of_body Bd
  have e0 : s₁.heap = h0 := by rw [← hh, Bd.state]; rfl
  have N0 := Fr.nil n0
  show own_G FrameEnd p e below s R0_.cells R0_.slots (Q_rm_l12g_2_1 Z a1 el0 el1 wM h0 n0) (s₁.setTop (entryFrame m #[(.ref a1), (.int (1 : Int32))] 2))
  refine own_go (Y' := s₁.setTop (mkF m 0 #[rv a1, iv (1 : Int32)] [])) ?_ (fun t k => castTop (ef_29 m a1 (1 : Int32)) k)
  refine own_go ?_ (fun _ hr => XS.iloadN X0.here hx rfl (hb hby d29_0) rfl (XS.ifYes X0.here hx rfl (pc0 := 1) (pc' := 9) rfl (hb hby d29_1) rfl ((if0 _ _).trans (feq (by decide : ¬ ((1 : Int32) = (0 : Int32)))).2) (by decide) (by decide) (XS.iloadN X0.here hx rfl (hb hby d29_9) rfl (XS.iconst X0.here hx rfl (hb hby d29_10) (XS.icmpNo X0.here hx rfl (hb hby d29_11) rfl (teq (by decide : (1 : Int32) = (1 : Int32))).2 (XS.aloadN X0.here hx rfl (hb hby d29_14) rfl rfl hr))))))
  show own_H (s₁.setTop (mkF m 15 #[rv a1, iv (1 : Int32)] [(.ref a1)]))
  obtain ⟨T1, X1, e1, st1⟩ := getF X0 hx hZ hown (host := "") (Or.inl (hw _ (tm 178 rfl))) Via.refl e0 F_a1_e1 (g := (mkF m 15 #[rv a1, iv (1 : Int32)] [(.ref a1)])) rfl rfl (hb hby d29_15)
  refine own_go ?_ (fun _ hr => st1 _ hr)
  show own_H (T1.setTop (mkF m 18 #[rv a1, iv (1 : Int32)] [(.ref el1)]))
  obtain ⟨T2, X2, e2, st2⟩ := getS2 X1 hx hZ hown (Or.inr (hw _ (tm 177 rfl))) Via.refl e1 (S_EMPTY.ext hold.2) (g := (mkF m 18 #[rv a1, iv (1 : Int32)] [(.ref el1)])) rfl (hb hby d29_18)
  refine own_go ?_ (fun _ hr => st2 _ (Jvm.RoadKit.acmp (g := (mkF m 21 #[rv a1, iv (1 : Int32)] [(.ref wM), (.ref el1)])) X2 hx rfl rfl rfl (pc0 := 21) (pc' := 24) (same := false) rfl (hb hby d29_21) rfl (decide_eq_false fun q => hne (Value.ref.inj q)) (by decide) (by decide) (XS.aloadN X2.here hx rfl (hb hby d29_24) rfl rfl hr)))
  show own_H (T2.setTop (mkF m 25 #[rv a1, iv (1 : Int32)] [(.ref a1)]))
  obtain ⟨T3, X3, e3, st3⟩ := getF X2 hx hZ hown (host := "") (Or.inl (hw _ (tm 178 rfl))) Via.refl e2 F_a1_e1 (g := (mkF m 25 #[rv a1, iv (1 : Int32)] [(.ref a1)])) rfl rfl (hb hby d29_25)
  refine own_go ?_ (fun _ hr => st3 _ hr)
  show own_H (T3.setTop (mkF m 28 #[rv a1, iv (1 : Int32)] [(.ref el1)]))
  obtain ⟨fs, hr, hrun, hended, hW, hsame⟩ := X3.leave (v := some (.ref el1)) (fun h => by rw [Bd.returns] at h; cases h)
  exact ⟨_, _, retOut X3 hx Bd.returns rfl (Or.inr (Or.inr (Or.inr (Or.inr ⟨rfl, rfl, rfl⟩)))) (hb hby d29_28) hr, hrun, hended, _, _, rfl, ⟨rfl, N0, e3⟩, ⟨_, rfl⟩, hW, hsame.mono (by decide) (by decide)⟩
def Q_rm_rget_2_1 (Z : State) (a1 : Addr) (a2 : Addr) (el0 : Addr) (el1 : Addr) (wM : Addr) (h0 : Heap) (n0 : Nat) : Option Value → Heap → List Loc → Prop := fun v h L => v = some (.ref el1) ∧ Fr n0 L ∧ h = h0
set_option maxRecDepth 65536 in
set_option maxHeartbeats 40000000 in
theorem rm_rget_2_1 (l : Launch) (Z : State) (a0 : Array Value) (hw : ∀ d ∈ tables_1, d.before a0 Z = true) (ws : List Jvm.Cond) (a1 : Addr) (a2 : Addr) (el0 : Addr) (el1 : Addr) (wM : Addr) (h0 : Heap) (n0 : Nat) (Z0 : n0 ≤ h0.size) (F_a1_fields : Fld Z h0 a1 "com/example/ninkasi/ninkasi/csv/CsvRecord" "fields" "Ljava/util/List;" (.ref a2)) (E_a2 : Exa Z h0 a2 "java/util/ImmutableCollections$List12") (F_a2_e0 : Fld Z h0 a2 "java/util/ImmutableCollections$List12" "e0" "Ljava/lang/Object;" (.ref el0)) (F_a2_e1 : Fld Z h0 a2 "java/util/ImmutableCollections$List12" "e1" "Ljava/lang/Object;" (.ref el1)) (hold : Old Z n0 h0) (S_EMPTY : Sta Z Z.heap "java/util/ImmutableCollections" "EMPTY" "Ljava/lang/Object;" (.ref wM)) (E_el1 : Exa Z h0 el1 "java/lang/String") (hne : ¬ (el1 = wM)) :
    MetFree l y34_ (head1 (Jvm.Cond.code y34_ prog_4_method_3_code 2 (some (.object "java/lang/String")) :: ws) R42_) (fun a U => a = #[(.ref a1), (.int (1 : Int32))] ∧ Z.Warmed39 U.vm ∧ U.heap = h0) (fun _ _ _ _ _ => True) (fun _ U o U' => ∃ v L, o = .returned v ∧ (Q_rm_rget_2_1 Z a1 a2 el0 el1 wM h0 n0) v U'.heap L ∧ FrameEnd U o U' L R42_.cells R42_.slots) := by
  refine MetFree.of_bodySF (plainFor_of_name pn_28) hisR ?_
  intro p e s m args below meth c s₁ Bd hml0 hP hK
  obtain ⟨rfl, hZ, hh⟩ := hP
  have hx := Bd.exec
  have hby := Bd.bytes
  have hml : c.maxLocals = 2 := hml0
  have hown : s.vm.findClass "com/example/ninkasi/ninkasi/csv/CsvRecord" = some m.cls := findClass_of_methodNamed Bd.named
  have hnm := (name_of_methodNamed Bd.named Bd.method).1
  have X0 : Stand p l e R42_ s m #[(.ref a1), (.int (1 : Int32))] below meth c s₁ [] 0 0 := Stand.of_body Bd
  have e0 : s₁.heap = h0 := by rw [← hh, Bd.state]; rfl
  have N0 := Fr.nil n0
  show own_G FrameEnd p e below s R42_.cells R42_.slots (Q_rm_rget_2_1 Z a1 a2 el0 el1 wM h0 n0) (s₁.setTop (entryFrame m #[(.ref a1), (.int (1 : Int32))] 2))
  refine own_go (Y' := s₁.setTop (mkF m 0 #[rv a1, iv (1 : Int32)] [])) ?_ (fun t k => castTop (ef_28 m a1 (1 : Int32)) k)
  refine own_go ?_ (fun _ hr => XS.aloadN X0.here hx rfl (hb hby d28_0) rfl rfl hr)
  show own_H (s₁.setTop (mkF m 1 #[rv a1, iv (1 : Int32)] [(.ref a1)]))
  obtain ⟨T1, X1, e1, st1⟩ := getF X0 hx hZ hown (host := "") (Or.inl (hw _ (tm 180 rfl))) Via.refl e0 F_a1_fields (g := (mkF m 1 #[rv a1, iv (1 : Int32)] [(.ref a1)])) rfl rfl (hb hby d28_1)
  refine own_go ?_ (fun _ hr => st1 _ (XS.iloadN X1.here hx rfl (hb hby d28_4) rfl hr))
  show own_H (T1.setTop (mkF m 5 #[rv a1, iv (1 : Int32)] [(.int (1 : Int32)), (.ref a2)]))
  obtain ⟨cq2, kq2, q2a, q2b, q2c⟩ := isOf hZ e1 E_a2
  obtain ⟨_, _, ⟨T2, L2, k2, n2⟩, -, X2, ⟨Lc2, hQ2, l2, y2, z2⟩, st2⟩ := X1.interfaceBack hx (xi := y35_) (y := y33_) hown (mvT hZ (hw _ (tm 209 rfl))) (mvT hZ (hw _ (tm 210 rfl))) (mvT hZ (hw _ (tm 211 rfl))) (mvT hZ (hw _ (tm 212 rfl))) (mvT hZ (hw _ (tm 213 rfl))) (mvT hZ (hw _ (tm 214 rfl))) (mvT hZ (hw _ (tm 215 rfl))) (mvT hZ (hw _ (tm 216 rfl))) (by decide) (backOf (W := 0) (rm_l12g_2_1 l Z a0 hw [] a2 el0 el1 wM h0 n0 Z0 E_a2 F_a2_e0 F_a2_e1 hold S_EMPTY hne) hZ (hw _ (tm 217 rfl)) (hw _ (tm 152 rfl)) (by decide) (by decide)) q2a q2b q2c (g := (mkF m 5 #[rv a1, iv (1 : Int32)] [(.int (1 : Int32)), (.ref a2)])) rfl (by rw [hml]; rfl) (Steps.refl _) (argsL := [(.int (1 : Int32))]) (rest := []) (lenOf pd__I_Ljava_lang_Object_ rfl) rfl (by show 2 * 0 + _ ≤ _; exact Nat.le_of_eq rfl) (hb hby d28_5) (fun _ _ => ⟨rfl, e1, (by decide : 0 + 0 ≤ _), (by decide : 0 + 0 ≤ _)⟩)
  dsimp only [Pt.U, Pt.locs, Pt.cells, Pt.slots] at X2 l2 y2 z2 st2 hQ2
  subst l2 y2 z2
  obtain ⟨rfl, N2q, e2⟩ := hQ2
  have N2 := Fr.app N0 N2q
  refine own_go ?_ (fun _ hr => st2.trans hr)
  show own_H (T2.setTop (mkF m 10 #[rv a1, iv (1 : Int32)] [(.ref el1)]))
  obtain ⟨T3, X3, e3, st3⟩ := castY X2 hx hZ hown (hw _ (tm 218 rfl)) e2 (Ins.self E_el1) (g := (mkF m 10 #[rv a1, iv (1 : Int32)] [(.ref el1)])) rfl rfl (hb hby d28_10)
  refine own_go ?_ (fun _ hr => st3 _ hr)
  show own_H (T3.setTop (mkF m 13 #[rv a1, iv (1 : Int32)] [(.ref el1)]))
  obtain ⟨fs, hr, hrun, hended, hW, hsame⟩ := X3.leave (v := some (.ref el1)) (fun h => by rw [Bd.returns] at h; cases h)
  exact ⟨_, _, retOut X3 hx Bd.returns rfl (Or.inr (Or.inr (Or.inr (Or.inr ⟨rfl, rfl, rfl⟩)))) (hb hby d28_13) hr, hrun, hended, _, _, rfl, ⟨rfl, N2, e3⟩, ⟨_, rfl⟩, hW, hsame.mono (by decide) (by decide)⟩
def Q_rm_rec_3 (Z : State) (a1 : Addr) (a2 : Addr) (a3 : Addr) (u0 : Value) (u1 : Value) (u2 : Value) (bb2 : Addr) (kk2 : ClassId) (bb3 : Addr) (kk3 : ClassId) (mO : Addr) (el0 : Addr) (el1 : Addr) (el2 : Addr) (fl0 : Addr) (fl1 : Addr) (fl2 : Addr) (fl3 : Addr) (wM : Addr) (h0 : Heap) (n0 : Nat) : Option Value → Heap → List Loc → Prop := fun v h L => ∃ (nl : Addr) (nt : Addr) (nq : ClassId), v = none ∧ Fr n0 L ∧ Keep h0 h [a1] ∧ h0.size ≤ nl ∧ h0.size ≤ nt ∧ Exa Z h a1 "com/example/ninkasi/ninkasi/csv/CsvRecord" ∧ Fld Z h a1 "com/example/ninkasi/ninkasi/csv/CsvRecord" "fields" "Ljava/util/List;" (.ref nl) ∧ Exa Z h nl "java/util/ImmutableCollections$ListN" ∧ Fld Z h nl "java/util/ImmutableCollections$ListN" "elements" "[Ljava/lang/Object;" (.ref nt) ∧ Arv Z h nt nq (.object "java/lang/Object") (3 : Int32) [(.ref el0), (.ref el1), (.ref el2)] .null
set_option maxRecDepth 65536 in
set_option maxHeartbeats 40000000 in
theorem rm_rec_3 (l : Launch) (Z : State) (a0 : Array Value) (hw : ∀ d ∈ tables_1, d.before a0 Z = true) (ws : List Jvm.Cond) (a1 : Addr) (a2 : Addr) (a3 : Addr) (u0 : Value) (u1 : Value) (u2 : Value) (bb2 : Addr) (kk2 : ClassId) (bb3 : Addr) (kk3 : ClassId) (mO : Addr) (el0 : Addr) (el1 : Addr) (el2 : Addr) (fl0 : Addr) (fl1 : Addr) (fl2 : Addr) (fl3 : Addr) (wM : Addr) (h0 : Heap) (n0 : Nat) (Z0 : n0 ≤ h0.size) (E_a1 : Exa Z h0 a1 "com/example/ninkasi/ninkasi/csv/CsvRecord") (F_a1_modCount : Fld Z h0 a1 "java/util/AbstractList" "modCount" "I" u0) (F_a1_fields : Fld Z h0 a1 "com/example/ninkasi/ninkasi/csv/CsvRecord" "fields" "Ljava/util/List;" u1) (F_a1_fieldNames : Fld Z h0 a1 "com/example/ninkasi/ninkasi/csv/CsvRecord" "fieldNames" "Ljava/util/List;" u2) (g_a1 : n0 ≤ a1) (E_a2 : Exa Z h0 a2 "java/util/ArrayList") (F_a2_elementData : Fld Z h0 a2 "java/util/ArrayList" "elementData" "[Ljava/lang/Object;" (.ref bb2)) (F_a2_size : Fld Z h0 a2 "java/util/ArrayList" "size" "I" (.int (3 : Int32))) (V_bb2 : Arv Z h0 bb2 kk2 (.object "java/lang/Object") (10 : Int32) [(.ref el0), (.ref el1), (.ref el2), .null, .null, .null, .null, .null, .null, .null] .null) (E_bb2 : Exa Z h0 bb2 "[Ljava/lang/Object;") (E_el0 : Exa Z h0 el0 "java/lang/String") (E_el1 : Exa Z h0 el1 "java/lang/String") (E_el2 : Exa Z h0 el2 "java/lang/String") (mir_mO : Mir Z "[Ljava/lang/Object;" mO) (E_a3 : Exa Z h0 a3 "java/util/ArrayList") (F_a3_elementData : Fld Z h0 a3 "java/util/ArrayList" "elementData" "[Ljava/lang/Object;" (.ref bb3)) (F_a3_size : Fld Z h0 a3 "java/util/ArrayList" "size" "I" (.int (4 : Int32))) (V_bb3 : Arv Z h0 bb3 kk3 (.object "java/lang/Object") (10 : Int32) [(.ref fl0), (.ref fl1), (.ref fl2), (.ref fl3), .null, .null, .null, .null, .null, .null] .null) (E_bb3 : Exa Z h0 bb3 "[Ljava/lang/Object;") (E_fl0 : Exa Z h0 fl0 "java/lang/String") (E_fl1 : Exa Z h0 fl1 "java/lang/String") (E_fl2 : Exa Z h0 fl2 "java/lang/String") (E_fl3 : Exa Z h0 fl3 "java/lang/String") (hold : Old Z n0 h0) (S_EMPTY : Sta Z Z.heap "java/util/ImmutableCollections" "EMPTY" "Ljava/lang/Object;" (.ref wM)) (ne_a2_a1 : a2 ≠ a1) (ne_a3_a1 : a3 ≠ a1) (ne_bb2_a1 : bb2 ≠ a1) (ne_bb3_a1 : bb3 ≠ a1) :
    MetFree l y32_ (head1 (Jvm.Cond.code y32_ prog_4_method_1_code 3 none :: ws) R44_) (fun a U => a = #[(.ref a1), (.ref a2), (.ref a3)] ∧ Z.Warmed39 U.vm ∧ U.heap = h0) (fun _ _ _ _ _ => True) (fun _ U o U' => ∃ v L, o = .returned v ∧ (Q_rm_rec_3 Z a1 a2 a3 u0 u1 u2 bb2 kk2 bb3 kk3 mO el0 el1 el2 fl0 fl1 fl2 fl3 wM h0 n0) v U'.heap L ∧ FrameEnd U o U' L R44_.cells R44_.slots) := by
  refine MetFree.of_bodySF (plainFor_of_name pn_13) hisR ?_
  intro p e s m args below meth c s₁ Bd hml0 hP hK
  obtain ⟨rfl, hZ, hh⟩ := hP
  have hx := Bd.exec
  have hby := Bd.bytes
  have hml : c.maxLocals = 3 := hml0
  have hown : s.vm.findClass "com/example/ninkasi/ninkasi/csv/CsvRecord" = some m.cls := findClass_of_methodNamed Bd.named
  have hnm := (name_of_methodNamed Bd.named Bd.method).1
  have X0 : Stand p l e R44_ s m #[(.ref a1), (.ref a2), (.ref a3)] below meth c s₁ [] 0 0 := Stand.of_body Bd
  have e0 : s₁.heap = h0 := by rw [← hh, Bd.state]; rfl
  have N0 := Fr.nil n0
  show own_G FrameEnd p e below s R44_.cells R44_.slots (Q_rm_rec_3 Z a1 a2 a3 u0 u1 u2 bb2 kk2 bb3 kk3 mO el0 el1 el2 fl0 fl1 fl2 fl3 wM h0 n0) (s₁.setTop (entryFrame m #[(.ref a1), (.ref a2), (.ref a3)] 3))
  refine own_go (Y' := s₁.setTop (mkF m 0 #[rv a1, rv a2, rv a3] [])) ?_ (fun t k => castTop (ef_13 m a1 a2 a3) k)
  refine own_go ?_ (fun _ hr => XS.aloadN X0.here hx rfl (hb hby d13_0) rfl rfl hr)
  show own_H (s₁.setTop (mkF m 1 #[rv a1, rv a2, rv a3] [(.ref a1)]))
  obtain ⟨_, _, ⟨T1, L1, k1, n1⟩, -, X1, ⟨Lc1, hQ1, l1, y1, z1⟩, st1⟩ := X0.specialBack hx (y := y8_) rfl hown (mvT hZ (hw _ (tm 91 rfl))) (mvT hZ (hw _ (tm 33 rfl))) (mvT hZ (hw _ (tm 37 rfl))) (by decide) (backOf (W := 0) (rm_abl_rec l Z a0 hw [] a1 (u0) (u1) (u2) h0 n0 Z0 E_a1 F_a1_modCount F_a1_fields F_a1_fieldNames g_a1) hZ (hw _ (tm 37 rfl)) (hw _ (tm 36 rfl)) (by decide) (by decide)) (g := (mkF m 1 #[rv a1, rv a2, rv a3] [(.ref a1)])) rfl (by rw [hml]; rfl) (Steps.refl _) (a := a1) (argsL := []) (rest := []) (lenOf pd___V rfl) rfl (by show 2 * 0 + _ ≤ _; exact Nat.le_of_eq rfl) (hb hby d13_1) (fun _ _ => ⟨rfl, e0, (by decide : 0 + 0 ≤ _), (by decide : 0 + 0 ≤ _)⟩)
  dsimp only [Pt.U, Pt.locs, Pt.cells, Pt.slots] at X1 l1 y1 z1 st1 hQ1
  subst l1 y1 z1
  obtain ⟨rfl, N1q, K1, P1_0, P1_1, P1_2, P1_3⟩ := hQ1
  have N1 := Fr.app N0 N1q
  refine own_go ?_ (fun _ hr => st1.trans (XS.aloadN X1.here hx rfl (hb hby d13_4) rfl rfl (XS.aloadN X1.here hx rfl (hb hby d13_5) rfl rfl hr)))
  show own_H (T1.setTop (mkF m 6 #[rv a1, rv a2, rv a3] [(.ref a2), (.ref a1)]))
  obtain ⟨_, _, ⟨T2, L2, k2, n2⟩, -, X2, ⟨Lc2, hQ2, l2, y2, z2⟩, st2⟩ := Jvm.LawKit.callS X1 hx (y := y30_) hown (mvT hZ (hw _ (tm 94 rfl))) (mvT hZ (hw _ (tm 95 rfl))) (mvT hZ (hw _ (tm 96 rfl))) (mvT hZ (hw _ (tm 97 rfl))) (by decide) (backOf (W := 1) (rm_cp_3 l Z a0 hw [] a2 bb2 mO kk2 el0 el1 el2 T1.heap n0 (ltr Z0 K1.1) (E_a2.keep K1) (F_a2_elementData.keep K1 (ninS ne_a2_a1 nin0)) (F_a2_size.keep K1 (ninS ne_a2_a1 nin0)) (V_bb2.keep K1 (ninS ne_bb2_a1 nin0)) (E_bb2.keep K1) (E_el0.keep K1) (E_el1.keep K1) (E_el2.keep K1) mir_mO) hZ (hw _ (tm 97 rfl)) (hw _ (tm 96 rfl)) (by decide) (by decide)) (g := (mkF m 6 #[rv a1, rv a2, rv a3] [(.ref a2), (.ref a1)])) rfl (by rw [hml]; rfl) (argsL := [(.ref a2)]) (rest := [(.ref a1)]) (lenOf pd__Ljava_util_Collection__Ljava_util_List_ rfl) rfl (by show 2 * 0 + _ ≤ _; exact Nat.le_of_eq rfl) (hb hby d13_6) (fun _ _ => ⟨rfl, rfl, (by decide : 0 + 3 ≤ _), (by decide : 0 + 8 ≤ _)⟩)
  dsimp only [Pt.U, Pt.locs, Pt.cells, Pt.slots] at X2 l2 y2 z2 st2 hQ2
  subst l2 y2 z2
  obtain ⟨b2_0, b2_1, kb2_2, rfl, N2q, K2, yb2_0, yb2_1, P2_0, P2_1, P2_2⟩ := hQ2
  have g_b2_0 : n0 ≤ b2_0 := ltr (ltr Z0 K1.1) yb2_0
  have sz_b2_0 : h0.size ≤ b2_0 := ltr ((Keep.refl h0 [a1]).trans K1 (allS (Or.inl (List.mem_of_getElem? (i := 0) rfl)) all0)).1 yb2_0
  have g_b2_1 : n0 ≤ b2_1 := ltr (ltr Z0 K1.1) yb2_1
  have sz_b2_1 : h0.size ≤ b2_1 := ltr ((Keep.refl h0 [a1]).trans K1 (allS (Or.inl (List.mem_of_getElem? (i := 0) rfl)) all0)).1 yb2_1
  have N2 := Fr.app N1 N2q
  refine own_go ?_ (fun _ hr => st2 _ hr)
  show own_H (T2.setTop (mkF m 9 #[rv a1, rv a2, rv a3] [(.ref b2_0), (.ref a1)]))
  obtain ⟨T3, h3, X3, e3, W3, st3⟩ := putF X2 hx hZ hown (host := "") (Or.inl (hw _ (tm 180 rfl))) Via.refl rfl (P1_2.keep K2 nin0) (P1_0.keep K2) (Or.inr ⟨(hw _ (tm 181 rfl)), rfl, hnm⟩) (hw _ (tm 86 rfl)) (ty := (.object "java/util/List")) (by decide) rfl rfl (g := (mkF m 9 #[rv a1, rv a2, rv a3] [(.ref b2_0), (.ref a1)])) rfl rfl (hb hby d13_9)
  have Fw3 := (P1_2.keep K2 nin0).same W3
  have N3 := Fr.snoc X3 N2 g_a1
  refine own_go ?_ (fun _ hr => st3 _ (XS.aloadN X3.here hx rfl (hb hby d13_12) rfl rfl (XS.aloadN X3.here hx rfl (hb hby d13_13) rfl rfl hr)))
  show own_H (T3.setTop (mkF m 14 #[rv a1, rv a2, rv a3] [(.ref a3), (.ref a1)]))
  obtain ⟨_, _, ⟨T4, L4, k4, n4⟩, -, X4, ⟨Lc4, hQ4, l4, y4, z4⟩, st4⟩ := Jvm.LawKit.callS X3 hx (y := y30_) hown (mvT hZ (hw _ (tm 94 rfl))) (mvT hZ (hw _ (tm 95 rfl))) (mvT hZ (hw _ (tm 96 rfl))) (mvT hZ (hw _ (tm 97 rfl))) (by decide) (backOf (W := 1) (rm_cp_4 l Z a0 hw [] a3 bb3 mO kk3 fl0 fl1 fl2 fl3 h3 n0 (ltr (ltr (ltr Z0 K1.1) K2.1) (Keep.of_wr W3).1) (((E_a3.keep K1).keep K2).wr W3) (((F_a3_elementData.keep K1 (ninS ne_a3_a1 nin0)).keep K2 nin0).other W3 (Or.inl ne_a3_a1)) (((F_a3_size.keep K1 (ninS ne_a3_a1 nin0)).keep K2 nin0).other W3 (Or.inl ne_a3_a1)) (((V_bb3.keep K1 (ninS ne_bb3_a1 nin0)).keep K2 nin0).other W3 ne_bb3_a1) (((E_bb3.keep K1).keep K2).wr W3) (((E_fl0.keep K1).keep K2).wr W3) (((E_fl1.keep K1).keep K2).wr W3) (((E_fl2.keep K1).keep K2).wr W3) (((E_fl3.keep K1).keep K2).wr W3) mir_mO) hZ (hw _ (tm 97 rfl)) (hw _ (tm 96 rfl)) (by decide) (by decide)) (g := (mkF m 14 #[rv a1, rv a2, rv a3] [(.ref a3), (.ref a1)])) rfl (by rw [hml]; rfl) (argsL := [(.ref a3)]) (rest := [(.ref a1)]) (lenOf pd__Ljava_util_Collection__Ljava_util_List_ rfl) rfl (by show 2 * 0 + _ ≤ _; exact Nat.le_of_eq rfl) (hb hby d13_14) (fun _ _ => ⟨rfl, e3, (by decide : 3 + 3 ≤ _), (by decide : 8 + 10 ≤ _)⟩)
  dsimp only [Pt.U, Pt.locs, Pt.cells, Pt.slots] at X4 l4 y4 z4 st4 hQ4
  subst l4 y4 z4
  obtain ⟨b4_0, b4_1, kb4_2, rfl, N4q, K4, yb4_0, yb4_1, P4_0, P4_1, P4_2⟩ := hQ4
  have g_b4_0 : n0 ≤ b4_0 := ltr (ltr (ltr (ltr Z0 K1.1) K2.1) (Keep.of_wr W3).1) yb4_0
  have sz_b4_0 : h0.size ≤ b4_0 := ltr ((((Keep.refl h0 [a1]).trans K1 (allS (Or.inl (List.mem_of_getElem? (i := 0) rfl)) all0)).trans K2 all0).wr W3 (Or.inl (List.mem_of_getElem? (i := 0) rfl))).1 yb4_0
  have g_b4_1 : n0 ≤ b4_1 := ltr (ltr (ltr (ltr Z0 K1.1) K2.1) (Keep.of_wr W3).1) yb4_1
  have sz_b4_1 : h0.size ≤ b4_1 := ltr ((((Keep.refl h0 [a1]).trans K1 (allS (Or.inl (List.mem_of_getElem? (i := 0) rfl)) all0)).trans K2 all0).wr W3 (Or.inl (List.mem_of_getElem? (i := 0) rfl))).1 yb4_1
  have N4 := Fr.app N3 N4q
  refine own_go ?_ (fun _ hr => st4 _ hr)
  show own_H (T4.setTop (mkF m 17 #[rv a1, rv a2, rv a3] [(.ref b4_0), (.ref a1)]))
  obtain ⟨T5, h5, X5, e5, W5, st5⟩ := putF X4 hx hZ hown (host := "") (Or.inl (hw _ (tm 201 rfl))) Via.refl rfl (((P1_3.keep K2 nin0).other W3 (Or.inr (slot_ne (Or.inr (hw _ (tm 202 rfl))) (Or.inr (hw _ (tm 181 rfl))) (by decide) (t := (.object "java/util/List")) (t' := (.object "java/util/List")) (by decide) (by decide)))).keep K4 nin0) (((P1_0.keep K2).wr W3).keep K4) (Or.inr ⟨(hw _ (tm 202 rfl)), rfl, hnm⟩) (hw _ (tm 86 rfl)) (ty := (.object "java/util/List")) (by decide) rfl rfl (g := (mkF m 17 #[rv a1, rv a2, rv a3] [(.ref b4_0), (.ref a1)])) rfl rfl (hb hby d13_17)
  have Fw5 := (((P1_3.keep K2 nin0).other W3 (Or.inr (slot_ne (Or.inr (hw _ (tm 202 rfl))) (Or.inr (hw _ (tm 181 rfl))) (by decide) (t := (.object "java/util/List")) (t' := (.object "java/util/List")) (by decide) (by decide)))).keep K4 nin0).same W5
  have N5 := Fr.snoc X5 N4 g_a1
  refine own_go ?_ (fun _ hr => st5 _ hr)
  show own_H (T5.setTop (mkF m 20 #[rv a1, rv a2, rv a3] []))
  obtain ⟨fs, hr, hrun, hended, hW, hsame⟩ := X5.leave (v := none) (fun _ => rfl)
  exact ⟨_, _, X5.returnOut hx Bd.returns (hb hby d13_20) hr, hrun, hended, _, _, rfl, (by rw [show (T5.setFrames fs).heap = h5 from e5]; exact ⟨b2_0, b2_1, kb2_2, rfl, N5, ((((((Keep.refl h0 [a1]).trans K1 (allS (Or.inl (List.mem_of_getElem? (i := 0) rfl)) all0)).trans K2 all0).wr W3 (Or.inl (List.mem_of_getElem? (i := 0) rfl))).trans K4 all0).wr W5 (Or.inl (List.mem_of_getElem? (i := 0) rfl))), sz_b2_0, sz_b2_1, ((((P1_0.keep K2).wr W3).keep K4).wr W5), ((Fw3.keep K4 nin0).other W5 (Or.inr (slot_ne (Or.inr (hw _ (tm 181 rfl))) (Or.inr (hw _ (tm 202 rfl))) (by decide) (t := (.object "java/util/List")) (t' := (.object "java/util/List")) (by decide) (by decide)))), (((P2_0.wr W3).keep K4).wr W5), (((P2_1.other W3 (Or.inl (Ne.symm (Nat.ne_of_lt (Nat.lt_of_lt_of_le E_a1.lt (ltr K1.1 yb2_0)))))).keep K4 nin0).other W5 (Or.inl (Ne.symm (Nat.ne_of_lt (Nat.lt_of_lt_of_le E_a1.lt (ltr K1.1 yb2_0)))))), (((P2_2.other W3 (Ne.symm (Nat.ne_of_lt (Nat.lt_of_lt_of_le E_a1.lt (ltr K1.1 yb2_1))))).keep K4 nin0).other W5 (Ne.symm (Nat.ne_of_lt (Nat.lt_of_lt_of_le E_a1.lt (ltr K1.1 yb2_1)))))⟩), ⟨_, rfl⟩, hW, hsame.mono (by decide) (by decide)⟩
theorem d39_0 : decode jdk_45_method_4_code 0 = .ok (.aload_n 0, 1) := by decide +kernel
theorem d39_1 : decode jdk_45_method_4_code 1 = .ok (.getfield 7, 3) := by decide +kernel
theorem d39_4 : decode jdk_45_method_4_code 4 = .ok (.iload_n 1, 1) := by decide +kernel
theorem d39_5 : decode jdk_45_method_4_code 5 = .ok (.aaload, 1) := by decide +kernel
theorem d39_6 : decode jdk_45_method_4_code 6 = .ok (.areturn, 1) := by decide +kernel
theorem pn_39 : plainName "java/util/ImmutableCollections$ListN" = true := by first | (simp [plainName, overriddenIn]; done) | decide +kernel
theorem ef_39 (m : MethodId) (x0 : Addr) (x1 : Int32) : entryFrame m #[(.ref x0), (.int x1)] 2 = mkF m 0 #[rv x0, iv x1] [] := by first | (simp [entryFrame, mkF, argsToLocals, Value.category]; done) | rfl
def Q_rm_lNg_3_0 (Z : State) (a1 : Addr) (el0 : Addr) (el1 : Addr) (el2 : Addr) (t : Addr) (kt : ClassId) (h0 : Heap) (n0 : Nat) : Option Value → Heap → List Loc → Prop := fun v h L => v = some (.ref el0) ∧ Fr n0 L ∧ h = h0
set_option maxRecDepth 65536 in
set_option maxHeartbeats 40000000 in
theorem rm_lNg_3_0 (l : Launch) (Z : State) (a0 : Array Value) (hw : ∀ d ∈ tables_1, d.before a0 Z = true) (ws : List Jvm.Cond) (a1 : Addr) (el0 : Addr) (el1 : Addr) (el2 : Addr) (t : Addr) (kt : ClassId) (h0 : Heap) (n0 : Nat) (Z0 : n0 ≤ h0.size) (E_a1 : Exa Z h0 a1 "java/util/ImmutableCollections$ListN") (F_a1_elements : Fld Z h0 a1 "java/util/ImmutableCollections$ListN" "elements" "[Ljava/lang/Object;" (.ref t)) (V_t : Arv Z h0 t kt (.object "java/lang/Object") (3 : Int32) [(.ref el0), (.ref el1), (.ref el2)] .null) :
    MetFree l y36_ (head1 (Jvm.Cond.code y36_ jdk_45_method_4_code 2 (some (.object "java/lang/Object")) :: ws) R0_) (fun a U => a = #[(.ref a1), (.int (0 : Int32))] ∧ Z.Warmed39 U.vm ∧ U.heap = h0) (fun _ _ _ _ _ => True) (fun _ U o U' => ∃ v L, o = .returned v ∧ (Q_rm_lNg_3_0 Z a1 el0 el1 el2 t kt h0 n0) v U'.heap L ∧ FrameEnd U o U' L R0_.cells R0_.slots) := by
  refine MetFree.of_bodySF (plainFor_of_name pn_39) hisR ?_
  intro p e s m args below meth c s₁ Bd hml0 hP hK
  obtain ⟨rfl, hZ, hh⟩ := hP
  have hx := Bd.exec
  have hby := Bd.bytes
  have hml : c.maxLocals = 2 := hml0
  have hown : s.vm.findClass "java/util/ImmutableCollections$ListN" = some m.cls := findClass_of_methodNamed Bd.named
  have hnm := (name_of_methodNamed Bd.named Bd.method).1
  have X0 : Stand p l e R0_ s m #[(.ref a1), (.int (0 : Int32))] below meth c s₁ [] 0 0 := Stand.of_body Bd
  have e0 : s₁.heap = h0 := by rw [← hh, Bd.state]; rfl
  have N0 := Fr.nil n0
  show own_G FrameEnd p e below s R0_.cells R0_.slots (Q_rm_lNg_3_0 Z a1 el0 el1 el2 t kt h0 n0) (s₁.setTop (entryFrame m #[(.ref a1), (.int (0 : Int32))] 2))
  refine own_go (Y' := s₁.setTop (mkF m 0 #[rv a1, iv (0 : Int32)] [])) ?_ (fun t k => castTop (ef_39 m a1 (0 : Int32)) k)
  refine own_go ?_ (fun _ hr => XS.aloadN X0.here hx rfl (hb hby d39_0) rfl rfl hr)
  show own_H (s₁.setTop (mkF m 1 #[rv a1, iv (0 : Int32)] [(.ref a1)]))
  obtain ⟨T1, X1, e1, st1⟩ := getF X0 hx hZ hown (host := "") (Or.inl (hw _ (tm 197 rfl))) Via.refl e0 F_a1_elements (g := (mkF m 1 #[rv a1, iv (0 : Int32)] [(.ref a1)])) rfl rfl (hb hby d39_1)
  refine own_go ?_ (fun _ hr => st1 _ (XS.iloadN X1.here hx rfl (hb hby d39_4) rfl hr))
  show own_H (T1.setTop (mkF m 5 #[rv a1, iv (0 : Int32)] [(.int (0 : Int32)), (.ref t)]))
  obtain ⟨cl2, Ar2, qk2, S2, M2, H2, G2⟩ := id V_t
  have hin2 : ¬ ((0 : Int32) < 0 ∨ cl2.slots.size ≤ ((0 : Int32)).toNatClampNeg) := inb_of S2 ⟨by decide, by decide⟩
  refine own_go ?_ (fun _ hr => X1.aaload hx (j := (0 : Int32)) (v := (.ref el0)) (by rw [e1]; exact Ar2.1) (State.isArrayOf_alike hZ.alike Ar2.2.1) rfl Ar2.2.2 hin2 (Has.at H2 hin2 rfl) (g := (mkF m 5 #[rv a1, iv (0 : Int32)] [(.int (0 : Int32)), (.ref t)])) rfl rfl (hb hby d39_5) _ hr)
  show own_H (T1.setTop (mkF m 6 #[rv a1, iv (0 : Int32)] [(.ref el0)]))
  obtain ⟨fs, hr, hrun, hended, hW, hsame⟩ := X1.leave (v := some (.ref el0)) (fun h => by rw [Bd.returns] at h; cases h)
  exact ⟨_, _, retOut X1 hx Bd.returns rfl (Or.inr (Or.inr (Or.inr (Or.inr ⟨rfl, rfl, rfl⟩)))) (hb hby d39_6) hr, hrun, hended, _, _, rfl, ⟨rfl, N0, e1⟩, ⟨_, rfl⟩, hW, hsame.mono (by decide) (by decide)⟩
def Q_rm_rget_3_0 (Z : State) (a1 : Addr) (a2 : Addr) (el0 : Addr) (el1 : Addr) (el2 : Addr) (t : Addr) (kt : ClassId) (h0 : Heap) (n0 : Nat) : Option Value → Heap → List Loc → Prop := fun v h L => v = some (.ref el0) ∧ Fr n0 L ∧ h = h0
set_option maxRecDepth 65536 in
set_option maxHeartbeats 40000000 in
theorem rm_rget_3_0 (l : Launch) (Z : State) (a0 : Array Value) (hw : ∀ d ∈ tables_1, d.before a0 Z = true) (ws : List Jvm.Cond) (a1 : Addr) (a2 : Addr) (el0 : Addr) (el1 : Addr) (el2 : Addr) (t : Addr) (kt : ClassId) (h0 : Heap) (n0 : Nat) (Z0 : n0 ≤ h0.size) (F_a1_fields : Fld Z h0 a1 "com/example/ninkasi/ninkasi/csv/CsvRecord" "fields" "Ljava/util/List;" (.ref a2)) (E_a2 : Exa Z h0 a2 "java/util/ImmutableCollections$ListN") (F_a2_elements : Fld Z h0 a2 "java/util/ImmutableCollections$ListN" "elements" "[Ljava/lang/Object;" (.ref t)) (V_t : Arv Z h0 t kt (.object "java/lang/Object") (3 : Int32) [(.ref el0), (.ref el1), (.ref el2)] .null) (E_el0 : Exa Z h0 el0 "java/lang/String") :
    MetFree l y34_ (head1 (Jvm.Cond.code y34_ prog_4_method_3_code 2 (some (.object "java/lang/String")) :: ws) R42_) (fun a U => a = #[(.ref a1), (.int (0 : Int32))] ∧ Z.Warmed39 U.vm ∧ U.heap = h0) (fun _ _ _ _ _ => True) (fun _ U o U' => ∃ v L, o = .returned v ∧ (Q_rm_rget_3_0 Z a1 a2 el0 el1 el2 t kt h0 n0) v U'.heap L ∧ FrameEnd U o U' L R42_.cells R42_.slots) := by
  refine MetFree.of_bodySF (plainFor_of_name pn_28) hisR ?_
  intro p e s m args below meth c s₁ Bd hml0 hP hK
  obtain ⟨rfl, hZ, hh⟩ := hP
  have hx := Bd.exec
  have hby := Bd.bytes
  have hml : c.maxLocals = 2 := hml0
  have hown : s.vm.findClass "com/example/ninkasi/ninkasi/csv/CsvRecord" = some m.cls := findClass_of_methodNamed Bd.named
  have hnm := (name_of_methodNamed Bd.named Bd.method).1
  have X0 : Stand p l e R42_ s m #[(.ref a1), (.int (0 : Int32))] below meth c s₁ [] 0 0 := Stand.of_body Bd
  have e0 : s₁.heap = h0 := by rw [← hh, Bd.state]; rfl
  have N0 := Fr.nil n0
  show own_G FrameEnd p e below s R42_.cells R42_.slots (Q_rm_rget_3_0 Z a1 a2 el0 el1 el2 t kt h0 n0) (s₁.setTop (entryFrame m #[(.ref a1), (.int (0 : Int32))] 2))
  refine own_go (Y' := s₁.setTop (mkF m 0 #[rv a1, iv (0 : Int32)] [])) ?_ (fun t k => castTop (ef_28 m a1 (0 : Int32)) k)
  refine own_go ?_ (fun _ hr => XS.aloadN X0.here hx rfl (hb hby d28_0) rfl rfl hr)
  show own_H (s₁.setTop (mkF m 1 #[rv a1, iv (0 : Int32)] [(.ref a1)]))
  obtain ⟨T1, X1, e1, st1⟩ := getF X0 hx hZ hown (host := "") (Or.inl (hw _ (tm 180 rfl))) Via.refl e0 F_a1_fields (g := (mkF m 1 #[rv a1, iv (0 : Int32)] [(.ref a1)])) rfl rfl (hb hby d28_1)
  refine own_go ?_ (fun _ hr => st1 _ (XS.iloadN X1.here hx rfl (hb hby d28_4) rfl hr))
  show own_H (T1.setTop (mkF m 5 #[rv a1, iv (0 : Int32)] [(.int (0 : Int32)), (.ref a2)]))
  obtain ⟨cq2, kq2, q2a, q2b, q2c⟩ := isOf hZ e1 E_a2
  obtain ⟨_, _, ⟨T2, L2, k2, n2⟩, -, X2, ⟨Lc2, hQ2, l2, y2, z2⟩, st2⟩ := X1.interfaceBack hx (xi := y35_) (y := y36_) hown (mvT hZ (hw _ (tm 209 rfl))) (mvT hZ (hw _ (tm 210 rfl))) (mvT hZ (hw _ (tm 211 rfl))) (mvT hZ (hw _ (tm 252 rfl))) (mvT hZ (hw _ (tm 253 rfl))) (mvT hZ (hw _ (tm 254 rfl))) (mvT hZ (hw _ (tm 255 rfl))) (mvT hZ (hw _ (tm 256 rfl))) (by decide) (backOf (W := 0) (rm_lNg_3_0 l Z a0 hw [] a2 el0 el1 el2 t kt h0 n0 Z0 E_a2 F_a2_elements V_t) hZ (hw _ (tm 257 rfl)) (hw _ (tm 188 rfl)) (by decide) (by decide)) q2a q2b q2c (g := (mkF m 5 #[rv a1, iv (0 : Int32)] [(.int (0 : Int32)), (.ref a2)])) rfl (by rw [hml]; rfl) (Steps.refl _) (argsL := [(.int (0 : Int32))]) (rest := []) (lenOf pd__I_Ljava_lang_Object_ rfl) rfl (by show 2 * 0 + _ ≤ _; exact Nat.le_of_eq rfl) (hb hby d28_5) (fun _ _ => ⟨rfl, e1, (by decide : 0 + 0 ≤ _), (by decide : 0 + 0 ≤ _)⟩)
  dsimp only [Pt.U, Pt.locs, Pt.cells, Pt.slots] at X2 l2 y2 z2 st2 hQ2
  subst l2 y2 z2
  obtain ⟨rfl, N2q, e2⟩ := hQ2
  have N2 := Fr.app N0 N2q
  refine own_go ?_ (fun _ hr => st2.trans hr)
  show own_H (T2.setTop (mkF m 10 #[rv a1, iv (0 : Int32)] [(.ref el0)]))
  obtain ⟨T3, X3, e3, st3⟩ := castY X2 hx hZ hown (hw _ (tm 218 rfl)) e2 (Ins.self E_el0) (g := (mkF m 10 #[rv a1, iv (0 : Int32)] [(.ref el0)])) rfl rfl (hb hby d28_10)
  refine own_go ?_ (fun _ hr => st3 _ hr)
  show own_H (T3.setTop (mkF m 13 #[rv a1, iv (0 : Int32)] [(.ref el0)]))
  obtain ⟨fs, hr, hrun, hended, hW, hsame⟩ := X3.leave (v := some (.ref el0)) (fun h => by rw [Bd.returns] at h; cases h)
  exact ⟨_, _, retOut X3 hx Bd.returns rfl (Or.inr (Or.inr (Or.inr (Or.inr ⟨rfl, rfl, rfl⟩)))) (hb hby d28_13) hr, hrun, hended, _, _, rfl, ⟨rfl, N2, e3⟩, ⟨_, rfl⟩, hW, hsame.mono (by decide) (by decide)⟩
def Q_rm_lNg_3_1 (Z : State) (a1 : Addr) (el0 : Addr) (el1 : Addr) (el2 : Addr) (t : Addr) (kt : ClassId) (h0 : Heap) (n0 : Nat) : Option Value → Heap → List Loc → Prop := fun v h L => v = some (.ref el1) ∧ Fr n0 L ∧ h = h0
set_option maxRecDepth 65536 in
set_option maxHeartbeats 40000000 in
theorem rm_lNg_3_1 (l : Launch) (Z : State) (a0 : Array Value) (hw : ∀ d ∈ tables_1, d.before a0 Z = true) (ws : List Jvm.Cond) (a1 : Addr) (el0 : Addr) (el1 : Addr) (el2 : Addr) (t : Addr) (kt : ClassId) (h0 : Heap) (n0 : Nat) (Z0 : n0 ≤ h0.size) (E_a1 : Exa Z h0 a1 "java/util/ImmutableCollections$ListN") (F_a1_elements : Fld Z h0 a1 "java/util/ImmutableCollections$ListN" "elements" "[Ljava/lang/Object;" (.ref t)) (V_t : Arv Z h0 t kt (.object "java/lang/Object") (3 : Int32) [(.ref el0), (.ref el1), (.ref el2)] .null) :
    MetFree l y36_ (head1 (Jvm.Cond.code y36_ jdk_45_method_4_code 2 (some (.object "java/lang/Object")) :: ws) R0_) (fun a U => a = #[(.ref a1), (.int (1 : Int32))] ∧ Z.Warmed39 U.vm ∧ U.heap = h0) (fun _ _ _ _ _ => True) (fun _ U o U' => ∃ v L, o = .returned v ∧ (Q_rm_lNg_3_1 Z a1 el0 el1 el2 t kt h0 n0) v U'.heap L ∧ FrameEnd U o U' L R0_.cells R0_.slots) := by
  refine MetFree.of_bodySF (plainFor_of_name pn_39) hisR ?_
  intro p e s m args below meth c s₁ Bd hml0 hP hK
  obtain ⟨rfl, hZ, hh⟩ := hP
  have hx := Bd.exec
  have hby := Bd.bytes
  have hml : c.maxLocals = 2 := hml0
  have hown : s.vm.findClass "java/util/ImmutableCollections$ListN" = some m.cls := findClass_of_methodNamed Bd.named
  have hnm := (name_of_methodNamed Bd.named Bd.method).1
  have X0 : Stand p l e R0_ s m #[(.ref a1), (.int (1 : Int32))] below meth c s₁ [] 0 0 := Stand.of_body Bd
  have e0 : s₁.heap = h0 := by rw [← hh, Bd.state]; rfl
  have N0 := Fr.nil n0
  show own_G FrameEnd p e below s R0_.cells R0_.slots (Q_rm_lNg_3_1 Z a1 el0 el1 el2 t kt h0 n0) (s₁.setTop (entryFrame m #[(.ref a1), (.int (1 : Int32))] 2))
  refine own_go (Y' := s₁.setTop (mkF m 0 #[rv a1, iv (1 : Int32)] [])) ?_ (fun t k => castTop (ef_39 m a1 (1 : Int32)) k)
  refine own_go ?_ (fun _ hr => XS.aloadN X0.here hx rfl (hb hby d39_0) rfl rfl hr)
  show own_H (s₁.setTop (mkF m 1 #[rv a1, iv (1 : Int32)] [(.ref a1)]))
  obtain ⟨T1, X1, e1, st1⟩ := getF X0 hx hZ hown (host := "") (Or.inl (hw _ (tm 197 rfl))) Via.refl e0 F_a1_elements (g := (mkF m 1 #[rv a1, iv (1 : Int32)] [(.ref a1)])) rfl rfl (hb hby d39_1)
  refine own_go ?_ (fun _ hr => st1 _ (XS.iloadN X1.here hx rfl (hb hby d39_4) rfl hr))
  show own_H (T1.setTop (mkF m 5 #[rv a1, iv (1 : Int32)] [(.int (1 : Int32)), (.ref t)]))
  obtain ⟨cl2, Ar2, qk2, S2, M2, H2, G2⟩ := id V_t
  have hin2 : ¬ ((1 : Int32) < 0 ∨ cl2.slots.size ≤ ((1 : Int32)).toNatClampNeg) := inb_of S2 ⟨by decide, by decide⟩
  refine own_go ?_ (fun _ hr => X1.aaload hx (j := (1 : Int32)) (v := (.ref el1)) (by rw [e1]; exact Ar2.1) (State.isArrayOf_alike hZ.alike Ar2.2.1) rfl Ar2.2.2 hin2 (Has.at H2 hin2 rfl) (g := (mkF m 5 #[rv a1, iv (1 : Int32)] [(.int (1 : Int32)), (.ref t)])) rfl rfl (hb hby d39_5) _ hr)
  show own_H (T1.setTop (mkF m 6 #[rv a1, iv (1 : Int32)] [(.ref el1)]))
  obtain ⟨fs, hr, hrun, hended, hW, hsame⟩ := X1.leave (v := some (.ref el1)) (fun h => by rw [Bd.returns] at h; cases h)
  exact ⟨_, _, retOut X1 hx Bd.returns rfl (Or.inr (Or.inr (Or.inr (Or.inr ⟨rfl, rfl, rfl⟩)))) (hb hby d39_6) hr, hrun, hended, _, _, rfl, ⟨rfl, N0, e1⟩, ⟨_, rfl⟩, hW, hsame.mono (by decide) (by decide)⟩
def Q_rm_rget_3_1 (Z : State) (a1 : Addr) (a2 : Addr) (el0 : Addr) (el1 : Addr) (el2 : Addr) (t : Addr) (kt : ClassId) (h0 : Heap) (n0 : Nat) : Option Value → Heap → List Loc → Prop := fun v h L => v = some (.ref el1) ∧ Fr n0 L ∧ h = h0
set_option maxRecDepth 65536 in
set_option maxHeartbeats 40000000 in
theorem rm_rget_3_1 (l : Launch) (Z : State) (a0 : Array Value) (hw : ∀ d ∈ tables_1, d.before a0 Z = true) (ws : List Jvm.Cond) (a1 : Addr) (a2 : Addr) (el0 : Addr) (el1 : Addr) (el2 : Addr) (t : Addr) (kt : ClassId) (h0 : Heap) (n0 : Nat) (Z0 : n0 ≤ h0.size) (F_a1_fields : Fld Z h0 a1 "com/example/ninkasi/ninkasi/csv/CsvRecord" "fields" "Ljava/util/List;" (.ref a2)) (E_a2 : Exa Z h0 a2 "java/util/ImmutableCollections$ListN") (F_a2_elements : Fld Z h0 a2 "java/util/ImmutableCollections$ListN" "elements" "[Ljava/lang/Object;" (.ref t)) (V_t : Arv Z h0 t kt (.object "java/lang/Object") (3 : Int32) [(.ref el0), (.ref el1), (.ref el2)] .null) (E_el1 : Exa Z h0 el1 "java/lang/String") :
    MetFree l y34_ (head1 (Jvm.Cond.code y34_ prog_4_method_3_code 2 (some (.object "java/lang/String")) :: ws) R42_) (fun a U => a = #[(.ref a1), (.int (1 : Int32))] ∧ Z.Warmed39 U.vm ∧ U.heap = h0) (fun _ _ _ _ _ => True) (fun _ U o U' => ∃ v L, o = .returned v ∧ (Q_rm_rget_3_1 Z a1 a2 el0 el1 el2 t kt h0 n0) v U'.heap L ∧ FrameEnd U o U' L R42_.cells R42_.slots) := by
  refine MetFree.of_bodySF (plainFor_of_name pn_28) hisR ?_
  intro p e s m args below meth c s₁ Bd hml0 hP hK
  obtain ⟨rfl, hZ, hh⟩ := hP
  have hx := Bd.exec
  have hby := Bd.bytes
  have hml : c.maxLocals = 2 := hml0
  have hown : s.vm.findClass "com/example/ninkasi/ninkasi/csv/CsvRecord" = some m.cls := findClass_of_methodNamed Bd.named
  have hnm := (name_of_methodNamed Bd.named Bd.method).1
  have X0 : Stand p l e R42_ s m #[(.ref a1), (.int (1 : Int32))] below meth c s₁ [] 0 0 := Stand.of_body Bd
  have e0 : s₁.heap = h0 := by rw [← hh, Bd.state]; rfl
  have N0 := Fr.nil n0
  show own_G FrameEnd p e below s R42_.cells R42_.slots (Q_rm_rget_3_1 Z a1 a2 el0 el1 el2 t kt h0 n0) (s₁.setTop (entryFrame m #[(.ref a1), (.int (1 : Int32))] 2))
  refine own_go (Y' := s₁.setTop (mkF m 0 #[rv a1, iv (1 : Int32)] [])) ?_ (fun t k => castTop (ef_28 m a1 (1 : Int32)) k)
  refine own_go ?_ (fun _ hr => XS.aloadN X0.here hx rfl (hb hby d28_0) rfl rfl hr)
  show own_H (s₁.setTop (mkF m 1 #[rv a1, iv (1 : Int32)] [(.ref a1)]))
  obtain ⟨T1, X1, e1, st1⟩ := getF X0 hx hZ hown (host := "") (Or.inl (hw _ (tm 180 rfl))) Via.refl e0 F_a1_fields (g := (mkF m 1 #[rv a1, iv (1 : Int32)] [(.ref a1)])) rfl rfl (hb hby d28_1)
  refine own_go ?_ (fun _ hr => st1 _ (XS.iloadN X1.here hx rfl (hb hby d28_4) rfl hr))
  show own_H (T1.setTop (mkF m 5 #[rv a1, iv (1 : Int32)] [(.int (1 : Int32)), (.ref a2)]))
  obtain ⟨cq2, kq2, q2a, q2b, q2c⟩ := isOf hZ e1 E_a2
  obtain ⟨_, _, ⟨T2, L2, k2, n2⟩, -, X2, ⟨Lc2, hQ2, l2, y2, z2⟩, st2⟩ := X1.interfaceBack hx (xi := y35_) (y := y36_) hown (mvT hZ (hw _ (tm 209 rfl))) (mvT hZ (hw _ (tm 210 rfl))) (mvT hZ (hw _ (tm 211 rfl))) (mvT hZ (hw _ (tm 252 rfl))) (mvT hZ (hw _ (tm 253 rfl))) (mvT hZ (hw _ (tm 254 rfl))) (mvT hZ (hw _ (tm 255 rfl))) (mvT hZ (hw _ (tm 256 rfl))) (by decide) (backOf (W := 0) (rm_lNg_3_1 l Z a0 hw [] a2 el0 el1 el2 t kt h0 n0 Z0 E_a2 F_a2_elements V_t) hZ (hw _ (tm 257 rfl)) (hw _ (tm 188 rfl)) (by decide) (by decide)) q2a q2b q2c (g := (mkF m 5 #[rv a1, iv (1 : Int32)] [(.int (1 : Int32)), (.ref a2)])) rfl (by rw [hml]; rfl) (Steps.refl _) (argsL := [(.int (1 : Int32))]) (rest := []) (lenOf pd__I_Ljava_lang_Object_ rfl) rfl (by show 2 * 0 + _ ≤ _; exact Nat.le_of_eq rfl) (hb hby d28_5) (fun _ _ => ⟨rfl, e1, (by decide : 0 + 0 ≤ _), (by decide : 0 + 0 ≤ _)⟩)
  dsimp only [Pt.U, Pt.locs, Pt.cells, Pt.slots] at X2 l2 y2 z2 st2 hQ2
  subst l2 y2 z2
  obtain ⟨rfl, N2q, e2⟩ := hQ2
  have N2 := Fr.app N0 N2q
  refine own_go ?_ (fun _ hr => st2.trans hr)
  show own_H (T2.setTop (mkF m 10 #[rv a1, iv (1 : Int32)] [(.ref el1)]))
  obtain ⟨T3, X3, e3, st3⟩ := castY X2 hx hZ hown (hw _ (tm 218 rfl)) e2 (Ins.self E_el1) (g := (mkF m 10 #[rv a1, iv (1 : Int32)] [(.ref el1)])) rfl rfl (hb hby d28_10)
  refine own_go ?_ (fun _ hr => st3 _ hr)
  show own_H (T3.setTop (mkF m 13 #[rv a1, iv (1 : Int32)] [(.ref el1)]))
  obtain ⟨fs, hr, hrun, hended, hW, hsame⟩ := X3.leave (v := some (.ref el1)) (fun h => by rw [Bd.returns] at h; cases h)
  exact ⟨_, _, retOut X3 hx Bd.returns rfl (Or.inr (Or.inr (Or.inr (Or.inr ⟨rfl, rfl, rfl⟩)))) (hb hby d28_13) hr, hrun, hended, _, _, rfl, ⟨rfl, N2, e3⟩, ⟨_, rfl⟩, hW, hsame.mono (by decide) (by decide)⟩
def Q_rm_lNg_3_2 (Z : State) (a1 : Addr) (el0 : Addr) (el1 : Addr) (el2 : Addr) (t : Addr) (kt : ClassId) (h0 : Heap) (n0 : Nat) : Option Value → Heap → List Loc → Prop := fun v h L => v = some (.ref el2) ∧ Fr n0 L ∧ h = h0
set_option maxRecDepth 65536 in
set_option maxHeartbeats 40000000 in
theorem rm_lNg_3_2 (l : Launch) (Z : State) (a0 : Array Value) (hw : ∀ d ∈ tables_1, d.before a0 Z = true) (ws : List Jvm.Cond) (a1 : Addr) (el0 : Addr) (el1 : Addr) (el2 : Addr) (t : Addr) (kt : ClassId) (h0 : Heap) (n0 : Nat) (Z0 : n0 ≤ h0.size) (E_a1 : Exa Z h0 a1 "java/util/ImmutableCollections$ListN") (F_a1_elements : Fld Z h0 a1 "java/util/ImmutableCollections$ListN" "elements" "[Ljava/lang/Object;" (.ref t)) (V_t : Arv Z h0 t kt (.object "java/lang/Object") (3 : Int32) [(.ref el0), (.ref el1), (.ref el2)] .null) :
    MetFree l y36_ (head1 (Jvm.Cond.code y36_ jdk_45_method_4_code 2 (some (.object "java/lang/Object")) :: ws) R0_) (fun a U => a = #[(.ref a1), (.int (2 : Int32))] ∧ Z.Warmed39 U.vm ∧ U.heap = h0) (fun _ _ _ _ _ => True) (fun _ U o U' => ∃ v L, o = .returned v ∧ (Q_rm_lNg_3_2 Z a1 el0 el1 el2 t kt h0 n0) v U'.heap L ∧ FrameEnd U o U' L R0_.cells R0_.slots) := by
  refine MetFree.of_bodySF (plainFor_of_name pn_39) hisR ?_
  intro p e s m args below meth c s₁ Bd hml0 hP hK
  obtain ⟨rfl, hZ, hh⟩ := hP
  have hx := Bd.exec
  have hby := Bd.bytes
  have hml : c.maxLocals = 2 := hml0
  have hown : s.vm.findClass "java/util/ImmutableCollections$ListN" = some m.cls := findClass_of_methodNamed Bd.named
  have hnm := (name_of_methodNamed Bd.named Bd.method).1
  have X0 : Stand p l e R0_ s m #[(.ref a1), (.int (2 : Int32))] below meth c s₁ [] 0 0 := Stand.of_body Bd
  have e0 : s₁.heap = h0 := by rw [← hh, Bd.state]; rfl
  have N0 := Fr.nil n0
  show own_G FrameEnd p e below s R0_.cells R0_.slots (Q_rm_lNg_3_2 Z a1 el0 el1 el2 t kt h0 n0) (s₁.setTop (entryFrame m #[(.ref a1), (.int (2 : Int32))] 2))
  refine own_go (Y' := s₁.setTop (mkF m 0 #[rv a1, iv (2 : Int32)] [])) ?_ (fun t k => castTop (ef_39 m a1 (2 : Int32)) k)
  refine own_go ?_ (fun _ hr => XS.aloadN X0.here hx rfl (hb hby d39_0) rfl rfl hr)
  show own_H (s₁.setTop (mkF m 1 #[rv a1, iv (2 : Int32)] [(.ref a1)]))
  obtain ⟨T1, X1, e1, st1⟩ := getF X0 hx hZ hown (host := "") (Or.inl (hw _ (tm 197 rfl))) Via.refl e0 F_a1_elements (g := (mkF m 1 #[rv a1, iv (2 : Int32)] [(.ref a1)])) rfl rfl (hb hby d39_1)
  refine own_go ?_ (fun _ hr => st1 _ (XS.iloadN X1.here hx rfl (hb hby d39_4) rfl hr))
  show own_H (T1.setTop (mkF m 5 #[rv a1, iv (2 : Int32)] [(.int (2 : Int32)), (.ref t)]))
  obtain ⟨cl2, Ar2, qk2, S2, M2, H2, G2⟩ := id V_t
  have hin2 : ¬ ((2 : Int32) < 0 ∨ cl2.slots.size ≤ ((2 : Int32)).toNatClampNeg) := inb_of S2 ⟨by decide, by decide⟩
  refine own_go ?_ (fun _ hr => X1.aaload hx (j := (2 : Int32)) (v := (.ref el2)) (by rw [e1]; exact Ar2.1) (State.isArrayOf_alike hZ.alike Ar2.2.1) rfl Ar2.2.2 hin2 (Has.at H2 hin2 rfl) (g := (mkF m 5 #[rv a1, iv (2 : Int32)] [(.int (2 : Int32)), (.ref t)])) rfl rfl (hb hby d39_5) _ hr)
  show own_H (T1.setTop (mkF m 6 #[rv a1, iv (2 : Int32)] [(.ref el2)]))
  obtain ⟨fs, hr, hrun, hended, hW, hsame⟩ := X1.leave (v := some (.ref el2)) (fun h => by rw [Bd.returns] at h; cases h)
  exact ⟨_, _, retOut X1 hx Bd.returns rfl (Or.inr (Or.inr (Or.inr (Or.inr ⟨rfl, rfl, rfl⟩)))) (hb hby d39_6) hr, hrun, hended, _, _, rfl, ⟨rfl, N0, e1⟩, ⟨_, rfl⟩, hW, hsame.mono (by decide) (by decide)⟩
def Q_rm_rget_3_2 (Z : State) (a1 : Addr) (a2 : Addr) (el0 : Addr) (el1 : Addr) (el2 : Addr) (t : Addr) (kt : ClassId) (h0 : Heap) (n0 : Nat) : Option Value → Heap → List Loc → Prop := fun v h L => v = some (.ref el2) ∧ Fr n0 L ∧ h = h0
set_option maxRecDepth 65536 in
set_option maxHeartbeats 40000000 in
theorem rm_rget_3_2 (l : Launch) (Z : State) (a0 : Array Value) (hw : ∀ d ∈ tables_1, d.before a0 Z = true) (ws : List Jvm.Cond) (a1 : Addr) (a2 : Addr) (el0 : Addr) (el1 : Addr) (el2 : Addr) (t : Addr) (kt : ClassId) (h0 : Heap) (n0 : Nat) (Z0 : n0 ≤ h0.size) (F_a1_fields : Fld Z h0 a1 "com/example/ninkasi/ninkasi/csv/CsvRecord" "fields" "Ljava/util/List;" (.ref a2)) (E_a2 : Exa Z h0 a2 "java/util/ImmutableCollections$ListN") (F_a2_elements : Fld Z h0 a2 "java/util/ImmutableCollections$ListN" "elements" "[Ljava/lang/Object;" (.ref t)) (V_t : Arv Z h0 t kt (.object "java/lang/Object") (3 : Int32) [(.ref el0), (.ref el1), (.ref el2)] .null) (E_el2 : Exa Z h0 el2 "java/lang/String") :
    MetFree l y34_ (head1 (Jvm.Cond.code y34_ prog_4_method_3_code 2 (some (.object "java/lang/String")) :: ws) R42_) (fun a U => a = #[(.ref a1), (.int (2 : Int32))] ∧ Z.Warmed39 U.vm ∧ U.heap = h0) (fun _ _ _ _ _ => True) (fun _ U o U' => ∃ v L, o = .returned v ∧ (Q_rm_rget_3_2 Z a1 a2 el0 el1 el2 t kt h0 n0) v U'.heap L ∧ FrameEnd U o U' L R42_.cells R42_.slots) := by
  refine MetFree.of_bodySF (plainFor_of_name pn_28) hisR ?_
  intro p e s m args below meth c s₁ Bd hml0 hP hK
  obtain ⟨rfl, hZ, hh⟩ := hP
  have hx := Bd.exec
  have hby := Bd.bytes
  have hml : c.maxLocals = 2 := hml0
  have hown : s.vm.findClass "com/example/ninkasi/ninkasi/csv/CsvRecord" = some m.cls := findClass_of_methodNamed Bd.named
  have hnm := (name_of_methodNamed Bd.named Bd.method).1
  have X0 : Stand p l e R42_ s m #[(.ref a1), (.int (2 : Int32))] below meth c s₁ [] 0 0 := Stand.of_body Bd
  have e0 : s₁.heap = h0 := by rw [← hh, Bd.state]; rfl
  have N0 := Fr.nil n0
  show own_G FrameEnd p e below s R42_.cells R42_.slots (Q_rm_rget_3_2 Z a1 a2 el0 el1 el2 t kt h0 n0) (s₁.setTop (entryFrame m #[(.ref a1), (.int (2 : Int32))] 2))
  refine own_go (Y' := s₁.setTop (mkF m 0 #[rv a1, iv (2 : Int32)] [])) ?_ (fun t k => castTop (ef_28 m a1 (2 : Int32)) k)
  refine own_go ?_ (fun _ hr => XS.aloadN X0.here hx rfl (hb hby d28_0) rfl rfl hr)
  show own_H (s₁.setTop (mkF m 1 #[rv a1, iv (2 : Int32)] [(.ref a1)]))
  obtain ⟨T1, X1, e1, st1⟩ := getF X0 hx hZ hown (host := "") (Or.inl (hw _ (tm 180 rfl))) Via.refl e0 F_a1_fields (g := (mkF m 1 #[rv a1, iv (2 : Int32)] [(.ref a1)])) rfl rfl (hb hby d28_1)
  refine own_go ?_ (fun _ hr => st1 _ (XS.iloadN X1.here hx rfl (hb hby d28_4) rfl hr))
  show own_H (T1.setTop (mkF m 5 #[rv a1, iv (2 : Int32)] [(.int (2 : Int32)), (.ref a2)]))
  obtain ⟨cq2, kq2, q2a, q2b, q2c⟩ := isOf hZ e1 E_a2
  obtain ⟨_, _, ⟨T2, L2, k2, n2⟩, -, X2, ⟨Lc2, hQ2, l2, y2, z2⟩, st2⟩ := X1.interfaceBack hx (xi := y35_) (y := y36_) hown (mvT hZ (hw _ (tm 209 rfl))) (mvT hZ (hw _ (tm 210 rfl))) (mvT hZ (hw _ (tm 211 rfl))) (mvT hZ (hw _ (tm 252 rfl))) (mvT hZ (hw _ (tm 253 rfl))) (mvT hZ (hw _ (tm 254 rfl))) (mvT hZ (hw _ (tm 255 rfl))) (mvT hZ (hw _ (tm 256 rfl))) (by decide) (backOf (W := 0) (rm_lNg_3_2 l Z a0 hw [] a2 el0 el1 el2 t kt h0 n0 Z0 E_a2 F_a2_elements V_t) hZ (hw _ (tm 257 rfl)) (hw _ (tm 188 rfl)) (by decide) (by decide)) q2a q2b q2c (g := (mkF m 5 #[rv a1, iv (2 : Int32)] [(.int (2 : Int32)), (.ref a2)])) rfl (by rw [hml]; rfl) (Steps.refl _) (argsL := [(.int (2 : Int32))]) (rest := []) (lenOf pd__I_Ljava_lang_Object_ rfl) rfl (by show 2 * 0 + _ ≤ _; exact Nat.le_of_eq rfl) (hb hby d28_5) (fun _ _ => ⟨rfl, e1, (by decide : 0 + 0 ≤ _), (by decide : 0 + 0 ≤ _)⟩)
  dsimp only [Pt.U, Pt.locs, Pt.cells, Pt.slots] at X2 l2 y2 z2 st2 hQ2
  subst l2 y2 z2
  obtain ⟨rfl, N2q, e2⟩ := hQ2
  have N2 := Fr.app N0 N2q
  refine own_go ?_ (fun _ hr => st2.trans hr)
  show own_H (T2.setTop (mkF m 10 #[rv a1, iv (2 : Int32)] [(.ref el2)]))
  obtain ⟨T3, X3, e3, st3⟩ := castY X2 hx hZ hown (hw _ (tm 218 rfl)) e2 (Ins.self E_el2) (g := (mkF m 10 #[rv a1, iv (2 : Int32)] [(.ref el2)])) rfl rfl (hb hby d28_10)
  refine own_go ?_ (fun _ hr => st3 _ hr)
  show own_H (T3.setTop (mkF m 13 #[rv a1, iv (2 : Int32)] [(.ref el2)]))
  obtain ⟨fs, hr, hrun, hended, hW, hsame⟩ := X3.leave (v := some (.ref el2)) (fun h => by rw [Bd.returns] at h; cases h)
  exact ⟨_, _, retOut X3 hx Bd.returns rfl (Or.inr (Or.inr (Or.inr (Or.inr ⟨rfl, rfl, rfl⟩)))) (hb hby d28_13) hr, hrun, hended, _, _, rfl, ⟨rfl, N2, e3⟩, ⟨_, rfl⟩, hW, hsame.mono (by decide) (by decide)⟩
def Q_rm_rec_4 (Z : State) (a1 : Addr) (a2 : Addr) (a3 : Addr) (u0 : Value) (u1 : Value) (u2 : Value) (bb2 : Addr) (kk2 : ClassId) (bb3 : Addr) (kk3 : ClassId) (mO : Addr) (el0 : Addr) (el1 : Addr) (el2 : Addr) (el3 : Addr) (fl0 : Addr) (fl1 : Addr) (fl2 : Addr) (fl3 : Addr) (wM : Addr) (h0 : Heap) (n0 : Nat) : Option Value → Heap → List Loc → Prop := fun v h L => ∃ (nl : Addr) (nt : Addr) (nq : ClassId), v = none ∧ Fr n0 L ∧ Keep h0 h [a1] ∧ h0.size ≤ nl ∧ h0.size ≤ nt ∧ Exa Z h a1 "com/example/ninkasi/ninkasi/csv/CsvRecord" ∧ Fld Z h a1 "com/example/ninkasi/ninkasi/csv/CsvRecord" "fields" "Ljava/util/List;" (.ref nl) ∧ Exa Z h nl "java/util/ImmutableCollections$ListN" ∧ Fld Z h nl "java/util/ImmutableCollections$ListN" "elements" "[Ljava/lang/Object;" (.ref nt) ∧ Arv Z h nt nq (.object "java/lang/Object") (4 : Int32) [(.ref el0), (.ref el1), (.ref el2), (.ref el3)] .null
set_option maxRecDepth 65536 in
set_option maxHeartbeats 40000000 in
theorem rm_rec_4 (l : Launch) (Z : State) (a0 : Array Value) (hw : ∀ d ∈ tables_1, d.before a0 Z = true) (ws : List Jvm.Cond) (a1 : Addr) (a2 : Addr) (a3 : Addr) (u0 : Value) (u1 : Value) (u2 : Value) (bb2 : Addr) (kk2 : ClassId) (bb3 : Addr) (kk3 : ClassId) (mO : Addr) (el0 : Addr) (el1 : Addr) (el2 : Addr) (el3 : Addr) (fl0 : Addr) (fl1 : Addr) (fl2 : Addr) (fl3 : Addr) (wM : Addr) (h0 : Heap) (n0 : Nat) (Z0 : n0 ≤ h0.size) (E_a1 : Exa Z h0 a1 "com/example/ninkasi/ninkasi/csv/CsvRecord") (F_a1_modCount : Fld Z h0 a1 "java/util/AbstractList" "modCount" "I" u0) (F_a1_fields : Fld Z h0 a1 "com/example/ninkasi/ninkasi/csv/CsvRecord" "fields" "Ljava/util/List;" u1) (F_a1_fieldNames : Fld Z h0 a1 "com/example/ninkasi/ninkasi/csv/CsvRecord" "fieldNames" "Ljava/util/List;" u2) (g_a1 : n0 ≤ a1) (E_a2 : Exa Z h0 a2 "java/util/ArrayList") (F_a2_elementData : Fld Z h0 a2 "java/util/ArrayList" "elementData" "[Ljava/lang/Object;" (.ref bb2)) (F_a2_size : Fld Z h0 a2 "java/util/ArrayList" "size" "I" (.int (4 : Int32))) (V_bb2 : Arv Z h0 bb2 kk2 (.object "java/lang/Object") (10 : Int32) [(.ref el0), (.ref el1), (.ref el2), (.ref el3), .null, .null, .null, .null, .null, .null] .null) (E_bb2 : Exa Z h0 bb2 "[Ljava/lang/Object;") (E_el0 : Exa Z h0 el0 "java/lang/String") (E_el1 : Exa Z h0 el1 "java/lang/String") (E_el2 : Exa Z h0 el2 "java/lang/String") (E_el3 : Exa Z h0 el3 "java/lang/String") (mir_mO : Mir Z "[Ljava/lang/Object;" mO) (E_a3 : Exa Z h0 a3 "java/util/ArrayList") (F_a3_elementData : Fld Z h0 a3 "java/util/ArrayList" "elementData" "[Ljava/lang/Object;" (.ref bb3)) (F_a3_size : Fld Z h0 a3 "java/util/ArrayList" "size" "I" (.int (4 : Int32))) (V_bb3 : Arv Z h0 bb3 kk3 (.object "java/lang/Object") (10 : Int32) [(.ref fl0), (.ref fl1), (.ref fl2), (.ref fl3), .null, .null, .null, .null, .null, .null] .null) (E_bb3 : Exa Z h0 bb3 "[Ljava/lang/Object;") (E_fl0 : Exa Z h0 fl0 "java/lang/String") (E_fl1 : Exa Z h0 fl1 "java/lang/String") (E_fl2 : Exa Z h0 fl2 "java/lang/String") (E_fl3 : Exa Z h0 fl3 "java/lang/String") (hold : Old Z n0 h0) (S_EMPTY : Sta Z Z.heap "java/util/ImmutableCollections" "EMPTY" "Ljava/lang/Object;" (.ref wM)) (ne_a2_a1 : a2 ≠ a1) (ne_a3_a1 : a3 ≠ a1) (ne_bb2_a1 : bb2 ≠ a1) (ne_bb3_a1 : bb3 ≠ a1) :
    MetFree l y32_ (head1 (Jvm.Cond.code y32_ prog_4_method_1_code 3 none :: ws) R45_) (fun a U => a = #[(.ref a1), (.ref a2), (.ref a3)] ∧ Z.Warmed39 U.vm ∧ U.heap = h0) (fun _ _ _ _ _ => True) (fun _ U o U' => ∃ v L, o = .returned v ∧ (Q_rm_rec_4 Z a1 a2 a3 u0 u1 u2 bb2 kk2 bb3 kk3 mO el0 el1 el2 el3 fl0 fl1 fl2 fl3 wM h0 n0) v U'.heap L ∧ FrameEnd U o U' L R45_.cells R45_.slots) := by
  refine MetFree.of_bodySF (plainFor_of_name pn_13) hisR ?_
  intro p e s m args below meth c s₁ Bd hml0 hP hK
  obtain ⟨rfl, hZ, hh⟩ := hP
  have hx := Bd.exec
  have hby := Bd.bytes
  have hml : c.maxLocals = 3 := hml0
  have hown : s.vm.findClass "com/example/ninkasi/ninkasi/csv/CsvRecord" = some m.cls := findClass_of_methodNamed Bd.named
  have hnm := (name_of_methodNamed Bd.named Bd.method).1
  have X0 : Stand p l e R45_ s m #[(.ref a1), (.ref a2), (.ref a3)] below meth c s₁ [] 0 0 := Stand.of_body Bd
  have e0 : s₁.heap = h0 := by rw [← hh, Bd.state]; rfl
  have N0 := Fr.nil n0
  show own_G FrameEnd p e below s R45_.cells R45_.slots (Q_rm_rec_4 Z a1 a2 a3 u0 u1 u2 bb2 kk2 bb3 kk3 mO el0 el1 el2 el3 fl0 fl1 fl2 fl3 wM h0 n0) (s₁.setTop (entryFrame m #[(.ref a1), (.ref a2), (.ref a3)] 3))
  refine own_go (Y' := s₁.setTop (mkF m 0 #[rv a1, rv a2, rv a3] [])) ?_ (fun t k => castTop (ef_13 m a1 a2 a3) k)
  refine own_go ?_ (fun _ hr => XS.aloadN X0.here hx rfl (hb hby d13_0) rfl rfl hr)
  show own_H (s₁.setTop (mkF m 1 #[rv a1, rv a2, rv a3] [(.ref a1)]))
  obtain ⟨_, _, ⟨T1, L1, k1, n1⟩, -, X1, ⟨Lc1, hQ1, l1, y1, z1⟩, st1⟩ := X0.specialBack hx (y := y8_) rfl hown (mvT hZ (hw _ (tm 91 rfl))) (mvT hZ (hw _ (tm 33 rfl))) (mvT hZ (hw _ (tm 37 rfl))) (by decide) (backOf (W := 0) (rm_abl_rec l Z a0 hw [] a1 (u0) (u1) (u2) h0 n0 Z0 E_a1 F_a1_modCount F_a1_fields F_a1_fieldNames g_a1) hZ (hw _ (tm 37 rfl)) (hw _ (tm 36 rfl)) (by decide) (by decide)) (g := (mkF m 1 #[rv a1, rv a2, rv a3] [(.ref a1)])) rfl (by rw [hml]; rfl) (Steps.refl _) (a := a1) (argsL := []) (rest := []) (lenOf pd___V rfl) rfl (by show 2 * 0 + _ ≤ _; exact Nat.le_of_eq rfl) (hb hby d13_1) (fun _ _ => ⟨rfl, e0, (by decide : 0 + 0 ≤ _), (by decide : 0 + 0 ≤ _)⟩)
  dsimp only [Pt.U, Pt.locs, Pt.cells, Pt.slots] at X1 l1 y1 z1 st1 hQ1
  subst l1 y1 z1
  obtain ⟨rfl, N1q, K1, P1_0, P1_1, P1_2, P1_3⟩ := hQ1
  have N1 := Fr.app N0 N1q
  refine own_go ?_ (fun _ hr => st1.trans (XS.aloadN X1.here hx rfl (hb hby d13_4) rfl rfl (XS.aloadN X1.here hx rfl (hb hby d13_5) rfl rfl hr)))
  show own_H (T1.setTop (mkF m 6 #[rv a1, rv a2, rv a3] [(.ref a2), (.ref a1)]))
  obtain ⟨_, _, ⟨T2, L2, k2, n2⟩, -, X2, ⟨Lc2, hQ2, l2, y2, z2⟩, st2⟩ := Jvm.LawKit.callS X1 hx (y := y30_) hown (mvT hZ (hw _ (tm 94 rfl))) (mvT hZ (hw _ (tm 95 rfl))) (mvT hZ (hw _ (tm 96 rfl))) (mvT hZ (hw _ (tm 97 rfl))) (by decide) (backOf (W := 1) (rm_cp_4 l Z a0 hw [] a2 bb2 mO kk2 el0 el1 el2 el3 T1.heap n0 (ltr Z0 K1.1) (E_a2.keep K1) (F_a2_elementData.keep K1 (ninS ne_a2_a1 nin0)) (F_a2_size.keep K1 (ninS ne_a2_a1 nin0)) (V_bb2.keep K1 (ninS ne_bb2_a1 nin0)) (E_bb2.keep K1) (E_el0.keep K1) (E_el1.keep K1) (E_el2.keep K1) (E_el3.keep K1) mir_mO) hZ (hw _ (tm 97 rfl)) (hw _ (tm 96 rfl)) (by decide) (by decide)) (g := (mkF m 6 #[rv a1, rv a2, rv a3] [(.ref a2), (.ref a1)])) rfl (by rw [hml]; rfl) (argsL := [(.ref a2)]) (rest := [(.ref a1)]) (lenOf pd__Ljava_util_Collection__Ljava_util_List_ rfl) rfl (by show 2 * 0 + _ ≤ _; exact Nat.le_of_eq rfl) (hb hby d13_6) (fun _ _ => ⟨rfl, rfl, (by decide : 0 + 3 ≤ _), (by decide : 0 + 10 ≤ _)⟩)
  dsimp only [Pt.U, Pt.locs, Pt.cells, Pt.slots] at X2 l2 y2 z2 st2 hQ2
  subst l2 y2 z2
  obtain ⟨b2_0, b2_1, kb2_2, rfl, N2q, K2, yb2_0, yb2_1, P2_0, P2_1, P2_2⟩ := hQ2
  have g_b2_0 : n0 ≤ b2_0 := ltr (ltr Z0 K1.1) yb2_0
  have sz_b2_0 : h0.size ≤ b2_0 := ltr ((Keep.refl h0 [a1]).trans K1 (allS (Or.inl (List.mem_of_getElem? (i := 0) rfl)) all0)).1 yb2_0
  have g_b2_1 : n0 ≤ b2_1 := ltr (ltr Z0 K1.1) yb2_1
  have sz_b2_1 : h0.size ≤ b2_1 := ltr ((Keep.refl h0 [a1]).trans K1 (allS (Or.inl (List.mem_of_getElem? (i := 0) rfl)) all0)).1 yb2_1
  have N2 := Fr.app N1 N2q
  refine own_go ?_ (fun _ hr => st2 _ hr)
  show own_H (T2.setTop (mkF m 9 #[rv a1, rv a2, rv a3] [(.ref b2_0), (.ref a1)]))
  obtain ⟨T3, h3, X3, e3, W3, st3⟩ := putF X2 hx hZ hown (host := "") (Or.inl (hw _ (tm 180 rfl))) Via.refl rfl (P1_2.keep K2 nin0) (P1_0.keep K2) (Or.inr ⟨(hw _ (tm 181 rfl)), rfl, hnm⟩) (hw _ (tm 86 rfl)) (ty := (.object "java/util/List")) (by decide) rfl rfl (g := (mkF m 9 #[rv a1, rv a2, rv a3] [(.ref b2_0), (.ref a1)])) rfl rfl (hb hby d13_9)
  have Fw3 := (P1_2.keep K2 nin0).same W3
  have N3 := Fr.snoc X3 N2 g_a1
  refine own_go ?_ (fun _ hr => st3 _ (XS.aloadN X3.here hx rfl (hb hby d13_12) rfl rfl (XS.aloadN X3.here hx rfl (hb hby d13_13) rfl rfl hr)))
  show own_H (T3.setTop (mkF m 14 #[rv a1, rv a2, rv a3] [(.ref a3), (.ref a1)]))
  obtain ⟨_, _, ⟨T4, L4, k4, n4⟩, -, X4, ⟨Lc4, hQ4, l4, y4, z4⟩, st4⟩ := Jvm.LawKit.callS X3 hx (y := y30_) hown (mvT hZ (hw _ (tm 94 rfl))) (mvT hZ (hw _ (tm 95 rfl))) (mvT hZ (hw _ (tm 96 rfl))) (mvT hZ (hw _ (tm 97 rfl))) (by decide) (backOf (W := 1) (rm_cp_4 l Z a0 hw [] a3 bb3 mO kk3 fl0 fl1 fl2 fl3 h3 n0 (ltr (ltr (ltr Z0 K1.1) K2.1) (Keep.of_wr W3).1) (((E_a3.keep K1).keep K2).wr W3) (((F_a3_elementData.keep K1 (ninS ne_a3_a1 nin0)).keep K2 nin0).other W3 (Or.inl ne_a3_a1)) (((F_a3_size.keep K1 (ninS ne_a3_a1 nin0)).keep K2 nin0).other W3 (Or.inl ne_a3_a1)) (((V_bb3.keep K1 (ninS ne_bb3_a1 nin0)).keep K2 nin0).other W3 ne_bb3_a1) (((E_bb3.keep K1).keep K2).wr W3) (((E_fl0.keep K1).keep K2).wr W3) (((E_fl1.keep K1).keep K2).wr W3) (((E_fl2.keep K1).keep K2).wr W3) (((E_fl3.keep K1).keep K2).wr W3) mir_mO) hZ (hw _ (tm 97 rfl)) (hw _ (tm 96 rfl)) (by decide) (by decide)) (g := (mkF m 14 #[rv a1, rv a2, rv a3] [(.ref a3), (.ref a1)])) rfl (by rw [hml]; rfl) (argsL := [(.ref a3)]) (rest := [(.ref a1)]) (lenOf pd__Ljava_util_Collection__Ljava_util_List_ rfl) rfl (by show 2 * 0 + _ ≤ _; exact Nat.le_of_eq rfl) (hb hby d13_14) (fun _ _ => ⟨rfl, e3, (by decide : 3 + 3 ≤ _), (by decide : 10 + 10 ≤ _)⟩)
  dsimp only [Pt.U, Pt.locs, Pt.cells, Pt.slots] at X4 l4 y4 z4 st4 hQ4
  subst l4 y4 z4
  obtain ⟨b4_0, b4_1, kb4_2, rfl, N4q, K4, yb4_0, yb4_1, P4_0, P4_1, P4_2⟩ := hQ4
  have g_b4_0 : n0 ≤ b4_0 := ltr (ltr (ltr (ltr Z0 K1.1) K2.1) (Keep.of_wr W3).1) yb4_0
  have sz_b4_0 : h0.size ≤ b4_0 := ltr ((((Keep.refl h0 [a1]).trans K1 (allS (Or.inl (List.mem_of_getElem? (i := 0) rfl)) all0)).trans K2 all0).wr W3 (Or.inl (List.mem_of_getElem? (i := 0) rfl))).1 yb4_0
  have g_b4_1 : n0 ≤ b4_1 := ltr (ltr (ltr (ltr Z0 K1.1) K2.1) (Keep.of_wr W3).1) yb4_1
  have sz_b4_1 : h0.size ≤ b4_1 := ltr ((((Keep.refl h0 [a1]).trans K1 (allS (Or.inl (List.mem_of_getElem? (i := 0) rfl)) all0)).trans K2 all0).wr W3 (Or.inl (List.mem_of_getElem? (i := 0) rfl))).1 yb4_1
  have N4 := Fr.app N3 N4q
  refine own_go ?_ (fun _ hr => st4 _ hr)
  show own_H (T4.setTop (mkF m 17 #[rv a1, rv a2, rv a3] [(.ref b4_0), (.ref a1)]))
  obtain ⟨T5, h5, X5, e5, W5, st5⟩ := putF X4 hx hZ hown (host := "") (Or.inl (hw _ (tm 201 rfl))) Via.refl rfl (((P1_3.keep K2 nin0).other W3 (Or.inr (slot_ne (Or.inr (hw _ (tm 202 rfl))) (Or.inr (hw _ (tm 181 rfl))) (by decide) (t := (.object "java/util/List")) (t' := (.object "java/util/List")) (by decide) (by decide)))).keep K4 nin0) (((P1_0.keep K2).wr W3).keep K4) (Or.inr ⟨(hw _ (tm 202 rfl)), rfl, hnm⟩) (hw _ (tm 86 rfl)) (ty := (.object "java/util/List")) (by decide) rfl rfl (g := (mkF m 17 #[rv a1, rv a2, rv a3] [(.ref b4_0), (.ref a1)])) rfl rfl (hb hby d13_17)
  have Fw5 := (((P1_3.keep K2 nin0).other W3 (Or.inr (slot_ne (Or.inr (hw _ (tm 202 rfl))) (Or.inr (hw _ (tm 181 rfl))) (by decide) (t := (.object "java/util/List")) (t' := (.object "java/util/List")) (by decide) (by decide)))).keep K4 nin0).same W5
  have N5 := Fr.snoc X5 N4 g_a1
  refine own_go ?_ (fun _ hr => st5 _ hr)
  show own_H (T5.setTop (mkF m 20 #[rv a1, rv a2, rv a3] []))
  obtain ⟨fs, hr, hrun, hended, hW, hsame⟩ := X5.leave (v := none) (fun _ => rfl)
  exact ⟨_, _, X5.returnOut hx Bd.returns (hb hby d13_20) hr, hrun, hended, _, _, rfl, (by rw [show (T5.setFrames fs).heap = h5 from e5]; exact ⟨b2_0, b2_1, kb2_2, rfl, N5, ((((((Keep.refl h0 [a1]).trans K1 (allS (Or.inl (List.mem_of_getElem? (i := 0) rfl)) all0)).trans K2 all0).wr W3 (Or.inl (List.mem_of_getElem? (i := 0) rfl))).trans K4 all0).wr W5 (Or.inl (List.mem_of_getElem? (i := 0) rfl))), sz_b2_0, sz_b2_1, ((((P1_0.keep K2).wr W3).keep K4).wr W5), ((Fw3.keep K4 nin0).other W5 (Or.inr (slot_ne (Or.inr (hw _ (tm 181 rfl))) (Or.inr (hw _ (tm 202 rfl))) (by decide) (t := (.object "java/util/List")) (t' := (.object "java/util/List")) (by decide) (by decide)))), (((P2_0.wr W3).keep K4).wr W5), (((P2_1.other W3 (Or.inl (Ne.symm (Nat.ne_of_lt (Nat.lt_of_lt_of_le E_a1.lt (ltr K1.1 yb2_0)))))).keep K4 nin0).other W5 (Or.inl (Ne.symm (Nat.ne_of_lt (Nat.lt_of_lt_of_le E_a1.lt (ltr K1.1 yb2_0)))))), (((P2_2.other W3 (Ne.symm (Nat.ne_of_lt (Nat.lt_of_lt_of_le E_a1.lt (ltr K1.1 yb2_1))))).keep K4 nin0).other W5 (Ne.symm (Nat.ne_of_lt (Nat.lt_of_lt_of_le E_a1.lt (ltr K1.1 yb2_1)))))⟩), ⟨_, rfl⟩, hW, hsame.mono (by decide) (by decide)⟩
def Q_rm_lNg_4_0 (Z : State) (a1 : Addr) (el0 : Addr) (el1 : Addr) (el2 : Addr) (el3 : Addr) (t : Addr) (kt : ClassId) (h0 : Heap) (n0 : Nat) : Option Value → Heap → List Loc → Prop := fun v h L => v = some (.ref el0) ∧ Fr n0 L ∧ h = h0
set_option maxRecDepth 65536 in
set_option maxHeartbeats 40000000 in
theorem rm_lNg_4_0 (l : Launch) (Z : State) (a0 : Array Value) (hw : ∀ d ∈ tables_1, d.before a0 Z = true) (ws : List Jvm.Cond) (a1 : Addr) (el0 : Addr) (el1 : Addr) (el2 : Addr) (el3 : Addr) (t : Addr) (kt : ClassId) (h0 : Heap) (n0 : Nat) (Z0 : n0 ≤ h0.size) (E_a1 : Exa Z h0 a1 "java/util/ImmutableCollections$ListN") (F_a1_elements : Fld Z h0 a1 "java/util/ImmutableCollections$ListN" "elements" "[Ljava/lang/Object;" (.ref t)) (V_t : Arv Z h0 t kt (.object "java/lang/Object") (4 : Int32) [(.ref el0), (.ref el1), (.ref el2), (.ref el3)] .null) :
    MetFree l y36_ (head1 (Jvm.Cond.code y36_ jdk_45_method_4_code 2 (some (.object "java/lang/Object")) :: ws) R0_) (fun a U => a = #[(.ref a1), (.int (0 : Int32))] ∧ Z.Warmed39 U.vm ∧ U.heap = h0) (fun _ _ _ _ _ => True) (fun _ U o U' => ∃ v L, o = .returned v ∧ (Q_rm_lNg_4_0 Z a1 el0 el1 el2 el3 t kt h0 n0) v U'.heap L ∧ FrameEnd U o U' L R0_.cells R0_.slots) := by
  refine MetFree.of_bodySF (plainFor_of_name pn_39) hisR ?_
  intro p e s m args below meth c s₁ Bd hml0 hP hK
  obtain ⟨rfl, hZ, hh⟩ := hP
  have hx := Bd.exec
  have hby := Bd.bytes
  have hml : c.maxLocals = 2 := hml0
  have hown : s.vm.findClass "java/util/ImmutableCollections$ListN" = some m.cls := findClass_of_methodNamed Bd.named
  have hnm := (name_of_methodNamed Bd.named Bd.method).1
  have X0 : Stand p l e R0_ s m #[(.ref a1), (.int (0 : Int32))] below meth c s₁ [] 0 0 := Stand.of_body Bd
  have e0 : s₁.heap = h0 := by rw [← hh, Bd.state]; rfl
  have N0 := Fr.nil n0
  show own_G FrameEnd p e below s R0_.cells R0_.slots (Q_rm_lNg_4_0 Z a1 el0 el1 el2 el3 t kt h0 n0) (s₁.setTop (entryFrame m #[(.ref a1), (.int (0 : Int32))] 2))
  refine own_go (Y' := s₁.setTop (mkF m 0 #[rv a1, iv (0 : Int32)] [])) ?_ (fun t k => castTop (ef_39 m a1 (0 : Int32)) k)
  refine own_go ?_ (fun _ hr => XS.aloadN X0.here hx rfl (hb hby d39_0) rfl rfl hr)
  show own_H (s₁.setTop (mkF m 1 #[rv a1, iv (0 : Int32)] [(.ref a1)]))
  obtain ⟨T1, X1, e1, st1⟩ := getF X0 hx hZ hown (host := "") (Or.inl (hw _ (tm 197 rfl))) Via.refl e0 F_a1_elements (g := (mkF m 1 #[rv a1, iv (0 : Int32)] [(.ref a1)])) rfl rfl (hb hby d39_1)
  refine own_go ?_ (fun _ hr => st1 _ (XS.iloadN X1.here hx rfl (hb hby d39_4) rfl hr))
  show own_H (T1.setTop (mkF m 5 #[rv a1, iv (0 : Int32)] [(.int (0 : Int32)), (.ref t)]))
  obtain ⟨cl2, Ar2, qk2, S2, M2, H2, G2⟩ := id V_t
  have hin2 : ¬ ((0 : Int32) < 0 ∨ cl2.slots.size ≤ ((0 : Int32)).toNatClampNeg) := inb_of S2 ⟨by decide, by decide⟩
  refine own_go ?_ (fun _ hr => X1.aaload hx (j := (0 : Int32)) (v := (.ref el0)) (by rw [e1]; exact Ar2.1) (State.isArrayOf_alike hZ.alike Ar2.2.1) rfl Ar2.2.2 hin2 (Has.at H2 hin2 rfl) (g := (mkF m 5 #[rv a1, iv (0 : Int32)] [(.int (0 : Int32)), (.ref t)])) rfl rfl (hb hby d39_5) _ hr)
  show own_H (T1.setTop (mkF m 6 #[rv a1, iv (0 : Int32)] [(.ref el0)]))
  obtain ⟨fs, hr, hrun, hended, hW, hsame⟩ := X1.leave (v := some (.ref el0)) (fun h => by rw [Bd.returns] at h; cases h)
  exact ⟨_, _, retOut X1 hx Bd.returns rfl (Or.inr (Or.inr (Or.inr (Or.inr ⟨rfl, rfl, rfl⟩)))) (hb hby d39_6) hr, hrun, hended, _, _, rfl, ⟨rfl, N0, e1⟩, ⟨_, rfl⟩, hW, hsame.mono (by decide) (by decide)⟩
def Q_rm_rget_4_0 (Z : State) (a1 : Addr) (a2 : Addr) (el0 : Addr) (el1 : Addr) (el2 : Addr) (el3 : Addr) (t : Addr) (kt : ClassId) (h0 : Heap) (n0 : Nat) : Option Value → Heap → List Loc → Prop := fun v h L => v = some (.ref el0) ∧ Fr n0 L ∧ h = h0
set_option maxRecDepth 65536 in
set_option maxHeartbeats 40000000 in
theorem rm_rget_4_0 (l : Launch) (Z : State) (a0 : Array Value) (hw : ∀ d ∈ tables_1, d.before a0 Z = true) (ws : List Jvm.Cond) (a1 : Addr) (a2 : Addr) (el0 : Addr) (el1 : Addr) (el2 : Addr) (el3 : Addr) (t : Addr) (kt : ClassId) (h0 : Heap) (n0 : Nat) (Z0 : n0 ≤ h0.size) (F_a1_fields : Fld Z h0 a1 "com/example/ninkasi/ninkasi/csv/CsvRecord" "fields" "Ljava/util/List;" (.ref a2)) (E_a2 : Exa Z h0 a2 "java/util/ImmutableCollections$ListN") (F_a2_elements : Fld Z h0 a2 "java/util/ImmutableCollections$ListN" "elements" "[Ljava/lang/Object;" (.ref t)) (V_t : Arv Z h0 t kt (.object "java/lang/Object") (4 : Int32) [(.ref el0), (.ref el1), (.ref el2), (.ref el3)] .null) (E_el0 : Exa Z h0 el0 "java/lang/String") :
    MetFree l y34_ (head1 (Jvm.Cond.code y34_ prog_4_method_3_code 2 (some (.object "java/lang/String")) :: ws) R42_) (fun a U => a = #[(.ref a1), (.int (0 : Int32))] ∧ Z.Warmed39 U.vm ∧ U.heap = h0) (fun _ _ _ _ _ => True) (fun _ U o U' => ∃ v L, o = .returned v ∧ (Q_rm_rget_4_0 Z a1 a2 el0 el1 el2 el3 t kt h0 n0) v U'.heap L ∧ FrameEnd U o U' L R42_.cells R42_.slots) := by
  refine MetFree.of_bodySF (plainFor_of_name pn_28) hisR ?_
  intro p e s m args below meth c s₁ Bd hml0 hP hK
  obtain ⟨rfl, hZ, hh⟩ := hP
  have hx := Bd.exec
  have hby := Bd.bytes
  have hml : c.maxLocals = 2 := hml0
  have hown : s.vm.findClass "com/example/ninkasi/ninkasi/csv/CsvRecord" = some m.cls := findClass_of_methodNamed Bd.named
  have hnm := (name_of_methodNamed Bd.named Bd.method).1
  have X0 : Stand p l e R42_ s m #[(.ref a1), (.int (0 : Int32))] below meth c s₁ [] 0 0 := Stand.of_body Bd
  have e0 : s₁.heap = h0 := by rw [← hh, Bd.state]; rfl
  have N0 := Fr.nil n0
  show own_G FrameEnd p e below s R42_.cells R42_.slots (Q_rm_rget_4_0 Z a1 a2 el0 el1 el2 el3 t kt h0 n0) (s₁.setTop (entryFrame m #[(.ref a1), (.int (0 : Int32))] 2))
  refine own_go (Y' := s₁.setTop (mkF m 0 #[rv a1, iv (0 : Int32)] [])) ?_ (fun t k => castTop (ef_28 m a1 (0 : Int32)) k)
  refine own_go ?_ (fun _ hr => XS.aloadN X0.here hx rfl (hb hby d28_0) rfl rfl hr)
  show own_H (s₁.setTop (mkF m 1 #[rv a1, iv (0 : Int32)] [(.ref a1)]))
  obtain ⟨T1, X1, e1, st1⟩ := getF X0 hx hZ hown (host := "") (Or.inl (hw _ (tm 180 rfl))) Via.refl e0 F_a1_fields (g := (mkF m 1 #[rv a1, iv (0 : Int32)] [(.ref a1)])) rfl rfl (hb hby d28_1)
  refine own_go ?_ (fun _ hr => st1 _ (XS.iloadN X1.here hx rfl (hb hby d28_4) rfl hr))
  show own_H (T1.setTop (mkF m 5 #[rv a1, iv (0 : Int32)] [(.int (0 : Int32)), (.ref a2)]))
  obtain ⟨cq2, kq2, q2a, q2b, q2c⟩ := isOf hZ e1 E_a2
  obtain ⟨_, _, ⟨T2, L2, k2, n2⟩, -, X2, ⟨Lc2, hQ2, l2, y2, z2⟩, st2⟩ := X1.interfaceBack hx (xi := y35_) (y := y36_) hown (mvT hZ (hw _ (tm 209 rfl))) (mvT hZ (hw _ (tm 210 rfl))) (mvT hZ (hw _ (tm 211 rfl))) (mvT hZ (hw _ (tm 252 rfl))) (mvT hZ (hw _ (tm 253 rfl))) (mvT hZ (hw _ (tm 254 rfl))) (mvT hZ (hw _ (tm 255 rfl))) (mvT hZ (hw _ (tm 256 rfl))) (by decide) (backOf (W := 0) (rm_lNg_4_0 l Z a0 hw [] a2 el0 el1 el2 el3 t kt h0 n0 Z0 E_a2 F_a2_elements V_t) hZ (hw _ (tm 257 rfl)) (hw _ (tm 188 rfl)) (by decide) (by decide)) q2a q2b q2c (g := (mkF m 5 #[rv a1, iv (0 : Int32)] [(.int (0 : Int32)), (.ref a2)])) rfl (by rw [hml]; rfl) (Steps.refl _) (argsL := [(.int (0 : Int32))]) (rest := []) (lenOf pd__I_Ljava_lang_Object_ rfl) rfl (by show 2 * 0 + _ ≤ _; exact Nat.le_of_eq rfl) (hb hby d28_5) (fun _ _ => ⟨rfl, e1, (by decide : 0 + 0 ≤ _), (by decide : 0 + 0 ≤ _)⟩)
  dsimp only [Pt.U, Pt.locs, Pt.cells, Pt.slots] at X2 l2 y2 z2 st2 hQ2
  subst l2 y2 z2
  obtain ⟨rfl, N2q, e2⟩ := hQ2
  have N2 := Fr.app N0 N2q
  refine own_go ?_ (fun _ hr => st2.trans hr)
  show own_H (T2.setTop (mkF m 10 #[rv a1, iv (0 : Int32)] [(.ref el0)]))
  obtain ⟨T3, X3, e3, st3⟩ := castY X2 hx hZ hown (hw _ (tm 218 rfl)) e2 (Ins.self E_el0) (g := (mkF m 10 #[rv a1, iv (0 : Int32)] [(.ref el0)])) rfl rfl (hb hby d28_10)
  refine own_go ?_ (fun _ hr => st3 _ hr)
  show own_H (T3.setTop (mkF m 13 #[rv a1, iv (0 : Int32)] [(.ref el0)]))
  obtain ⟨fs, hr, hrun, hended, hW, hsame⟩ := X3.leave (v := some (.ref el0)) (fun h => by rw [Bd.returns] at h; cases h)
  exact ⟨_, _, retOut X3 hx Bd.returns rfl (Or.inr (Or.inr (Or.inr (Or.inr ⟨rfl, rfl, rfl⟩)))) (hb hby d28_13) hr, hrun, hended, _, _, rfl, ⟨rfl, N2, e3⟩, ⟨_, rfl⟩, hW, hsame.mono (by decide) (by decide)⟩
def Q_rm_lNg_4_1 (Z : State) (a1 : Addr) (el0 : Addr) (el1 : Addr) (el2 : Addr) (el3 : Addr) (t : Addr) (kt : ClassId) (h0 : Heap) (n0 : Nat) : Option Value → Heap → List Loc → Prop := fun v h L => v = some (.ref el1) ∧ Fr n0 L ∧ h = h0
set_option maxRecDepth 65536 in
set_option maxHeartbeats 40000000 in
theorem rm_lNg_4_1 (l : Launch) (Z : State) (a0 : Array Value) (hw : ∀ d ∈ tables_1, d.before a0 Z = true) (ws : List Jvm.Cond) (a1 : Addr) (el0 : Addr) (el1 : Addr) (el2 : Addr) (el3 : Addr) (t : Addr) (kt : ClassId) (h0 : Heap) (n0 : Nat) (Z0 : n0 ≤ h0.size) (E_a1 : Exa Z h0 a1 "java/util/ImmutableCollections$ListN") (F_a1_elements : Fld Z h0 a1 "java/util/ImmutableCollections$ListN" "elements" "[Ljava/lang/Object;" (.ref t)) (V_t : Arv Z h0 t kt (.object "java/lang/Object") (4 : Int32) [(.ref el0), (.ref el1), (.ref el2), (.ref el3)] .null) :
    MetFree l y36_ (head1 (Jvm.Cond.code y36_ jdk_45_method_4_code 2 (some (.object "java/lang/Object")) :: ws) R0_) (fun a U => a = #[(.ref a1), (.int (1 : Int32))] ∧ Z.Warmed39 U.vm ∧ U.heap = h0) (fun _ _ _ _ _ => True) (fun _ U o U' => ∃ v L, o = .returned v ∧ (Q_rm_lNg_4_1 Z a1 el0 el1 el2 el3 t kt h0 n0) v U'.heap L ∧ FrameEnd U o U' L R0_.cells R0_.slots) := by
  refine MetFree.of_bodySF (plainFor_of_name pn_39) hisR ?_
  intro p e s m args below meth c s₁ Bd hml0 hP hK
  obtain ⟨rfl, hZ, hh⟩ := hP
  have hx := Bd.exec
  have hby := Bd.bytes
  have hml : c.maxLocals = 2 := hml0
  have hown : s.vm.findClass "java/util/ImmutableCollections$ListN" = some m.cls := findClass_of_methodNamed Bd.named
  have hnm := (name_of_methodNamed Bd.named Bd.method).1
  have X0 : Stand p l e R0_ s m #[(.ref a1), (.int (1 : Int32))] below meth c s₁ [] 0 0 := Stand.of_body Bd
  have e0 : s₁.heap = h0 := by rw [← hh, Bd.state]; rfl
  have N0 := Fr.nil n0
  show own_G FrameEnd p e below s R0_.cells R0_.slots (Q_rm_lNg_4_1 Z a1 el0 el1 el2 el3 t kt h0 n0) (s₁.setTop (entryFrame m #[(.ref a1), (.int (1 : Int32))] 2))
  refine own_go (Y' := s₁.setTop (mkF m 0 #[rv a1, iv (1 : Int32)] [])) ?_ (fun t k => castTop (ef_39 m a1 (1 : Int32)) k)
  refine own_go ?_ (fun _ hr => XS.aloadN X0.here hx rfl (hb hby d39_0) rfl rfl hr)
  show own_H (s₁.setTop (mkF m 1 #[rv a1, iv (1 : Int32)] [(.ref a1)]))
  obtain ⟨T1, X1, e1, st1⟩ := getF X0 hx hZ hown (host := "") (Or.inl (hw _ (tm 197 rfl))) Via.refl e0 F_a1_elements (g := (mkF m 1 #[rv a1, iv (1 : Int32)] [(.ref a1)])) rfl rfl (hb hby d39_1)
  refine own_go ?_ (fun _ hr => st1 _ (XS.iloadN X1.here hx rfl (hb hby d39_4) rfl hr))
  show own_H (T1.setTop (mkF m 5 #[rv a1, iv (1 : Int32)] [(.int (1 : Int32)), (.ref t)]))
  obtain ⟨cl2, Ar2, qk2, S2, M2, H2, G2⟩ := id V_t
  have hin2 : ¬ ((1 : Int32) < 0 ∨ cl2.slots.size ≤ ((1 : Int32)).toNatClampNeg) := inb_of S2 ⟨by decide, by decide⟩
  refine own_go ?_ (fun _ hr => X1.aaload hx (j := (1 : Int32)) (v := (.ref el1)) (by rw [e1]; exact Ar2.1) (State.isArrayOf_alike hZ.alike Ar2.2.1) rfl Ar2.2.2 hin2 (Has.at H2 hin2 rfl) (g := (mkF m 5 #[rv a1, iv (1 : Int32)] [(.int (1 : Int32)), (.ref t)])) rfl rfl (hb hby d39_5) _ hr)
  show own_H (T1.setTop (mkF m 6 #[rv a1, iv (1 : Int32)] [(.ref el1)]))
  obtain ⟨fs, hr, hrun, hended, hW, hsame⟩ := X1.leave (v := some (.ref el1)) (fun h => by rw [Bd.returns] at h; cases h)
  exact ⟨_, _, retOut X1 hx Bd.returns rfl (Or.inr (Or.inr (Or.inr (Or.inr ⟨rfl, rfl, rfl⟩)))) (hb hby d39_6) hr, hrun, hended, _, _, rfl, ⟨rfl, N0, e1⟩, ⟨_, rfl⟩, hW, hsame.mono (by decide) (by decide)⟩
def Q_rm_rget_4_1 (Z : State) (a1 : Addr) (a2 : Addr) (el0 : Addr) (el1 : Addr) (el2 : Addr) (el3 : Addr) (t : Addr) (kt : ClassId) (h0 : Heap) (n0 : Nat) : Option Value → Heap → List Loc → Prop := fun v h L => v = some (.ref el1) ∧ Fr n0 L ∧ h = h0
set_option maxRecDepth 65536 in
set_option maxHeartbeats 40000000 in
theorem rm_rget_4_1 (l : Launch) (Z : State) (a0 : Array Value) (hw : ∀ d ∈ tables_1, d.before a0 Z = true) (ws : List Jvm.Cond) (a1 : Addr) (a2 : Addr) (el0 : Addr) (el1 : Addr) (el2 : Addr) (el3 : Addr) (t : Addr) (kt : ClassId) (h0 : Heap) (n0 : Nat) (Z0 : n0 ≤ h0.size) (F_a1_fields : Fld Z h0 a1 "com/example/ninkasi/ninkasi/csv/CsvRecord" "fields" "Ljava/util/List;" (.ref a2)) (E_a2 : Exa Z h0 a2 "java/util/ImmutableCollections$ListN") (F_a2_elements : Fld Z h0 a2 "java/util/ImmutableCollections$ListN" "elements" "[Ljava/lang/Object;" (.ref t)) (V_t : Arv Z h0 t kt (.object "java/lang/Object") (4 : Int32) [(.ref el0), (.ref el1), (.ref el2), (.ref el3)] .null) (E_el1 : Exa Z h0 el1 "java/lang/String") :
    MetFree l y34_ (head1 (Jvm.Cond.code y34_ prog_4_method_3_code 2 (some (.object "java/lang/String")) :: ws) R42_) (fun a U => a = #[(.ref a1), (.int (1 : Int32))] ∧ Z.Warmed39 U.vm ∧ U.heap = h0) (fun _ _ _ _ _ => True) (fun _ U o U' => ∃ v L, o = .returned v ∧ (Q_rm_rget_4_1 Z a1 a2 el0 el1 el2 el3 t kt h0 n0) v U'.heap L ∧ FrameEnd U o U' L R42_.cells R42_.slots) := by
  refine MetFree.of_bodySF (plainFor_of_name pn_28) hisR ?_
  intro p e s m args below meth c s₁ Bd hml0 hP hK
  obtain ⟨rfl, hZ, hh⟩ := hP
  have hx := Bd.exec
  have hby := Bd.bytes
  have hml : c.maxLocals = 2 := hml0
  have hown : s.vm.findClass "com/example/ninkasi/ninkasi/csv/CsvRecord" = some m.cls := findClass_of_methodNamed Bd.named
  have hnm := (name_of_methodNamed Bd.named Bd.method).1
  have X0 : Stand p l e R42_ s m #[(.ref a1), (.int (1 : Int32))] below meth c s₁ [] 0 0 := Stand.of_body Bd
  have e0 : s₁.heap = h0 := by rw [← hh, Bd.state]; rfl
  have N0 := Fr.nil n0
  show own_G FrameEnd p e below s R42_.cells R42_.slots (Q_rm_rget_4_1 Z a1 a2 el0 el1 el2 el3 t kt h0 n0) (s₁.setTop (entryFrame m #[(.ref a1), (.int (1 : Int32))] 2))
  refine own_go (Y' := s₁.setTop (mkF m 0 #[rv a1, iv (1 : Int32)] [])) ?_ (fun t k => castTop (ef_28 m a1 (1 : Int32)) k)
  refine own_go ?_ (fun _ hr => XS.aloadN X0.here hx rfl (hb hby d28_0) rfl rfl hr)
  show own_H (s₁.setTop (mkF m 1 #[rv a1, iv (1 : Int32)] [(.ref a1)]))
  obtain ⟨T1, X1, e1, st1⟩ := getF X0 hx hZ hown (host := "") (Or.inl (hw _ (tm 180 rfl))) Via.refl e0 F_a1_fields (g := (mkF m 1 #[rv a1, iv (1 : Int32)] [(.ref a1)])) rfl rfl (hb hby d28_1)
  refine own_go ?_ (fun _ hr => st1 _ (XS.iloadN X1.here hx rfl (hb hby d28_4) rfl hr))
  show own_H (T1.setTop (mkF m 5 #[rv a1, iv (1 : Int32)] [(.int (1 : Int32)), (.ref a2)]))
  obtain ⟨cq2, kq2, q2a, q2b, q2c⟩ := isOf hZ e1 E_a2
  obtain ⟨_, _, ⟨T2, L2, k2, n2⟩, -, X2, ⟨Lc2, hQ2, l2, y2, z2⟩, st2⟩ := X1.interfaceBack hx (xi := y35_) (y := y36_) hown (mvT hZ (hw _ (tm 209 rfl))) (mvT hZ (hw _ (tm 210 rfl))) (mvT hZ (hw _ (tm 211 rfl))) (mvT hZ (hw _ (tm 252 rfl))) (mvT hZ (hw _ (tm 253 rfl))) (mvT hZ (hw _ (tm 254 rfl))) (mvT hZ (hw _ (tm 255 rfl))) (mvT hZ (hw _ (tm 256 rfl))) (by decide) (backOf (W := 0) (rm_lNg_4_1 l Z a0 hw [] a2 el0 el1 el2 el3 t kt h0 n0 Z0 E_a2 F_a2_elements V_t) hZ (hw _ (tm 257 rfl)) (hw _ (tm 188 rfl)) (by decide) (by decide)) q2a q2b q2c (g := (mkF m 5 #[rv a1, iv (1 : Int32)] [(.int (1 : Int32)), (.ref a2)])) rfl (by rw [hml]; rfl) (Steps.refl _) (argsL := [(.int (1 : Int32))]) (rest := []) (lenOf pd__I_Ljava_lang_Object_ rfl) rfl (by show 2 * 0 + _ ≤ _; exact Nat.le_of_eq rfl) (hb hby d28_5) (fun _ _ => ⟨rfl, e1, (by decide : 0 + 0 ≤ _), (by decide : 0 + 0 ≤ _)⟩)
  dsimp only [Pt.U, Pt.locs, Pt.cells, Pt.slots] at X2 l2 y2 z2 st2 hQ2
  subst l2 y2 z2
  obtain ⟨rfl, N2q, e2⟩ := hQ2
  have N2 := Fr.app N0 N2q
  refine own_go ?_ (fun _ hr => st2.trans hr)
  show own_H (T2.setTop (mkF m 10 #[rv a1, iv (1 : Int32)] [(.ref el1)]))
  obtain ⟨T3, X3, e3, st3⟩ := castY X2 hx hZ hown (hw _ (tm 218 rfl)) e2 (Ins.self E_el1) (g := (mkF m 10 #[rv a1, iv (1 : Int32)] [(.ref el1)])) rfl rfl (hb hby d28_10)
  refine own_go ?_ (fun _ hr => st3 _ hr)
  show own_H (T3.setTop (mkF m 13 #[rv a1, iv (1 : Int32)] [(.ref el1)]))
  obtain ⟨fs, hr, hrun, hended, hW, hsame⟩ := X3.leave (v := some (.ref el1)) (fun h => by rw [Bd.returns] at h; cases h)
  exact ⟨_, _, retOut X3 hx Bd.returns rfl (Or.inr (Or.inr (Or.inr (Or.inr ⟨rfl, rfl, rfl⟩)))) (hb hby d28_13) hr, hrun, hended, _, _, rfl, ⟨rfl, N2, e3⟩, ⟨_, rfl⟩, hW, hsame.mono (by decide) (by decide)⟩
def Q_rm_lNg_4_2 (Z : State) (a1 : Addr) (el0 : Addr) (el1 : Addr) (el2 : Addr) (el3 : Addr) (t : Addr) (kt : ClassId) (h0 : Heap) (n0 : Nat) : Option Value → Heap → List Loc → Prop := fun v h L => v = some (.ref el2) ∧ Fr n0 L ∧ h = h0
set_option maxRecDepth 65536 in
set_option maxHeartbeats 40000000 in
theorem rm_lNg_4_2 (l : Launch) (Z : State) (a0 : Array Value) (hw : ∀ d ∈ tables_1, d.before a0 Z = true) (ws : List Jvm.Cond) (a1 : Addr) (el0 : Addr) (el1 : Addr) (el2 : Addr) (el3 : Addr) (t : Addr) (kt : ClassId) (h0 : Heap) (n0 : Nat) (Z0 : n0 ≤ h0.size) (E_a1 : Exa Z h0 a1 "java/util/ImmutableCollections$ListN") (F_a1_elements : Fld Z h0 a1 "java/util/ImmutableCollections$ListN" "elements" "[Ljava/lang/Object;" (.ref t)) (V_t : Arv Z h0 t kt (.object "java/lang/Object") (4 : Int32) [(.ref el0), (.ref el1), (.ref el2), (.ref el3)] .null) :
    MetFree l y36_ (head1 (Jvm.Cond.code y36_ jdk_45_method_4_code 2 (some (.object "java/lang/Object")) :: ws) R0_) (fun a U => a = #[(.ref a1), (.int (2 : Int32))] ∧ Z.Warmed39 U.vm ∧ U.heap = h0) (fun _ _ _ _ _ => True) (fun _ U o U' => ∃ v L, o = .returned v ∧ (Q_rm_lNg_4_2 Z a1 el0 el1 el2 el3 t kt h0 n0) v U'.heap L ∧ FrameEnd U o U' L R0_.cells R0_.slots) := by
  refine MetFree.of_bodySF (plainFor_of_name pn_39) hisR ?_
  intro p e s m args below meth c s₁ Bd hml0 hP hK
  obtain ⟨rfl, hZ, hh⟩ := hP
  have hx := Bd.exec
  have hby := Bd.bytes
  have hml : c.maxLocals = 2 := hml0
  have hown : s.vm.findClass "java/util/ImmutableCollections$ListN" = some m.cls := findClass_of_methodNamed Bd.named
  have hnm := (name_of_methodNamed Bd.named Bd.method).1
  have X0 : Stand p l e R0_ s m #[(.ref a1), (.int (2 : Int32))] below meth c s₁ [] 0 0 := Stand.of_body Bd
  have e0 : s₁.heap = h0 := by rw [← hh, Bd.state]; rfl
  have N0 := Fr.nil n0
  show own_G FrameEnd p e below s R0_.cells R0_.slots (Q_rm_lNg_4_2 Z a1 el0 el1 el2 el3 t kt h0 n0) (s₁.setTop (entryFrame m #[(.ref a1), (.int (2 : Int32))] 2))
  refine own_go (Y' := s₁.setTop (mkF m 0 #[rv a1, iv (2 : Int32)] [])) ?_ (fun t k => castTop (ef_39 m a1 (2 : Int32)) k)
  refine own_go ?_ (fun _ hr => XS.aloadN X0.here hx rfl (hb hby d39_0) rfl rfl hr)
  show own_H (s₁.setTop (mkF m 1 #[rv a1, iv (2 : Int32)] [(.ref a1)]))
  obtain ⟨T1, X1, e1, st1⟩ := getF X0 hx hZ hown (host := "") (Or.inl (hw _ (tm 197 rfl))) Via.refl e0 F_a1_elements (g := (mkF m 1 #[rv a1, iv (2 : Int32)] [(.ref a1)])) rfl rfl (hb hby d39_1)
  refine own_go ?_ (fun _ hr => st1 _ (XS.iloadN X1.here hx rfl (hb hby d39_4) rfl hr))
  show own_H (T1.setTop (mkF m 5 #[rv a1, iv (2 : Int32)] [(.int (2 : Int32)), (.ref t)]))
  obtain ⟨cl2, Ar2, qk2, S2, M2, H2, G2⟩ := id V_t
  have hin2 : ¬ ((2 : Int32) < 0 ∨ cl2.slots.size ≤ ((2 : Int32)).toNatClampNeg) := inb_of S2 ⟨by decide, by decide⟩
  refine own_go ?_ (fun _ hr => X1.aaload hx (j := (2 : Int32)) (v := (.ref el2)) (by rw [e1]; exact Ar2.1) (State.isArrayOf_alike hZ.alike Ar2.2.1) rfl Ar2.2.2 hin2 (Has.at H2 hin2 rfl) (g := (mkF m 5 #[rv a1, iv (2 : Int32)] [(.int (2 : Int32)), (.ref t)])) rfl rfl (hb hby d39_5) _ hr)
  show own_H (T1.setTop (mkF m 6 #[rv a1, iv (2 : Int32)] [(.ref el2)]))
  obtain ⟨fs, hr, hrun, hended, hW, hsame⟩ := X1.leave (v := some (.ref el2)) (fun h => by rw [Bd.returns] at h; cases h)
  exact ⟨_, _, retOut X1 hx Bd.returns rfl (Or.inr (Or.inr (Or.inr (Or.inr ⟨rfl, rfl, rfl⟩)))) (hb hby d39_6) hr, hrun, hended, _, _, rfl, ⟨rfl, N0, e1⟩, ⟨_, rfl⟩, hW, hsame.mono (by decide) (by decide)⟩
def Q_rm_rget_4_2 (Z : State) (a1 : Addr) (a2 : Addr) (el0 : Addr) (el1 : Addr) (el2 : Addr) (el3 : Addr) (t : Addr) (kt : ClassId) (h0 : Heap) (n0 : Nat) : Option Value → Heap → List Loc → Prop := fun v h L => v = some (.ref el2) ∧ Fr n0 L ∧ h = h0
set_option maxRecDepth 65536 in
set_option maxHeartbeats 40000000 in
theorem rm_rget_4_2 (l : Launch) (Z : State) (a0 : Array Value) (hw : ∀ d ∈ tables_1, d.before a0 Z = true) (ws : List Jvm.Cond) (a1 : Addr) (a2 : Addr) (el0 : Addr) (el1 : Addr) (el2 : Addr) (el3 : Addr) (t : Addr) (kt : ClassId) (h0 : Heap) (n0 : Nat) (Z0 : n0 ≤ h0.size) (F_a1_fields : Fld Z h0 a1 "com/example/ninkasi/ninkasi/csv/CsvRecord" "fields" "Ljava/util/List;" (.ref a2)) (E_a2 : Exa Z h0 a2 "java/util/ImmutableCollections$ListN") (F_a2_elements : Fld Z h0 a2 "java/util/ImmutableCollections$ListN" "elements" "[Ljava/lang/Object;" (.ref t)) (V_t : Arv Z h0 t kt (.object "java/lang/Object") (4 : Int32) [(.ref el0), (.ref el1), (.ref el2), (.ref el3)] .null) (E_el2 : Exa Z h0 el2 "java/lang/String") :
    MetFree l y34_ (head1 (Jvm.Cond.code y34_ prog_4_method_3_code 2 (some (.object "java/lang/String")) :: ws) R42_) (fun a U => a = #[(.ref a1), (.int (2 : Int32))] ∧ Z.Warmed39 U.vm ∧ U.heap = h0) (fun _ _ _ _ _ => True) (fun _ U o U' => ∃ v L, o = .returned v ∧ (Q_rm_rget_4_2 Z a1 a2 el0 el1 el2 el3 t kt h0 n0) v U'.heap L ∧ FrameEnd U o U' L R42_.cells R42_.slots) := by
  refine MetFree.of_bodySF (plainFor_of_name pn_28) hisR ?_
  intro p e s m args below meth c s₁ Bd hml0 hP hK
  obtain ⟨rfl, hZ, hh⟩ := hP
  have hx := Bd.exec
  have hby := Bd.bytes
  have hml : c.maxLocals = 2 := hml0
  have hown : s.vm.findClass "com/example/ninkasi/ninkasi/csv/CsvRecord" = some m.cls := findClass_of_methodNamed Bd.named
  have hnm := (name_of_methodNamed Bd.named Bd.method).1
  have X0 : Stand p l e R42_ s m #[(.ref a1), (.int (2 : Int32))] below meth c s₁ [] 0 0 := Stand.of_body Bd
  have e0 : s₁.heap = h0 := by rw [← hh, Bd.state]; rfl
  have N0 := Fr.nil n0
  show own_G FrameEnd p e below s R42_.cells R42_.slots (Q_rm_rget_4_2 Z a1 a2 el0 el1 el2 el3 t kt h0 n0) (s₁.setTop (entryFrame m #[(.ref a1), (.int (2 : Int32))] 2))
  refine own_go (Y' := s₁.setTop (mkF m 0 #[rv a1, iv (2 : Int32)] [])) ?_ (fun t k => castTop (ef_28 m a1 (2 : Int32)) k)
  refine own_go ?_ (fun _ hr => XS.aloadN X0.here hx rfl (hb hby d28_0) rfl rfl hr)
  show own_H (s₁.setTop (mkF m 1 #[rv a1, iv (2 : Int32)] [(.ref a1)]))
  obtain ⟨T1, X1, e1, st1⟩ := getF X0 hx hZ hown (host := "") (Or.inl (hw _ (tm 180 rfl))) Via.refl e0 F_a1_fields (g := (mkF m 1 #[rv a1, iv (2 : Int32)] [(.ref a1)])) rfl rfl (hb hby d28_1)
  refine own_go ?_ (fun _ hr => st1 _ (XS.iloadN X1.here hx rfl (hb hby d28_4) rfl hr))
  show own_H (T1.setTop (mkF m 5 #[rv a1, iv (2 : Int32)] [(.int (2 : Int32)), (.ref a2)]))
  obtain ⟨cq2, kq2, q2a, q2b, q2c⟩ := isOf hZ e1 E_a2
  obtain ⟨_, _, ⟨T2, L2, k2, n2⟩, -, X2, ⟨Lc2, hQ2, l2, y2, z2⟩, st2⟩ := X1.interfaceBack hx (xi := y35_) (y := y36_) hown (mvT hZ (hw _ (tm 209 rfl))) (mvT hZ (hw _ (tm 210 rfl))) (mvT hZ (hw _ (tm 211 rfl))) (mvT hZ (hw _ (tm 252 rfl))) (mvT hZ (hw _ (tm 253 rfl))) (mvT hZ (hw _ (tm 254 rfl))) (mvT hZ (hw _ (tm 255 rfl))) (mvT hZ (hw _ (tm 256 rfl))) (by decide) (backOf (W := 0) (rm_lNg_4_2 l Z a0 hw [] a2 el0 el1 el2 el3 t kt h0 n0 Z0 E_a2 F_a2_elements V_t) hZ (hw _ (tm 257 rfl)) (hw _ (tm 188 rfl)) (by decide) (by decide)) q2a q2b q2c (g := (mkF m 5 #[rv a1, iv (2 : Int32)] [(.int (2 : Int32)), (.ref a2)])) rfl (by rw [hml]; rfl) (Steps.refl _) (argsL := [(.int (2 : Int32))]) (rest := []) (lenOf pd__I_Ljava_lang_Object_ rfl) rfl (by show 2 * 0 + _ ≤ _; exact Nat.le_of_eq rfl) (hb hby d28_5) (fun _ _ => ⟨rfl, e1, (by decide : 0 + 0 ≤ _), (by decide : 0 + 0 ≤ _)⟩)
  dsimp only [Pt.U, Pt.locs, Pt.cells, Pt.slots] at X2 l2 y2 z2 st2 hQ2
  subst l2 y2 z2
  obtain ⟨rfl, N2q, e2⟩ := hQ2
  have N2 := Fr.app N0 N2q
  refine own_go ?_ (fun _ hr => st2.trans hr)
  show own_H (T2.setTop (mkF m 10 #[rv a1, iv (2 : Int32)] [(.ref el2)]))
  obtain ⟨T3, X3, e3, st3⟩ := castY X2 hx hZ hown (hw _ (tm 218 rfl)) e2 (Ins.self E_el2) (g := (mkF m 10 #[rv a1, iv (2 : Int32)] [(.ref el2)])) rfl rfl (hb hby d28_10)
  refine own_go ?_ (fun _ hr => st3 _ hr)
  show own_H (T3.setTop (mkF m 13 #[rv a1, iv (2 : Int32)] [(.ref el2)]))
  obtain ⟨fs, hr, hrun, hended, hW, hsame⟩ := X3.leave (v := some (.ref el2)) (fun h => by rw [Bd.returns] at h; cases h)
  exact ⟨_, _, retOut X3 hx Bd.returns rfl (Or.inr (Or.inr (Or.inr (Or.inr ⟨rfl, rfl, rfl⟩)))) (hb hby d28_13) hr, hrun, hended, _, _, rfl, ⟨rfl, N2, e3⟩, ⟨_, rfl⟩, hW, hsame.mono (by decide) (by decide)⟩
def Q_rm_lNg_4_3 (Z : State) (a1 : Addr) (el0 : Addr) (el1 : Addr) (el2 : Addr) (el3 : Addr) (t : Addr) (kt : ClassId) (h0 : Heap) (n0 : Nat) : Option Value → Heap → List Loc → Prop := fun v h L => v = some (.ref el3) ∧ Fr n0 L ∧ h = h0
set_option maxRecDepth 65536 in
set_option maxHeartbeats 40000000 in
theorem rm_lNg_4_3 (l : Launch) (Z : State) (a0 : Array Value) (hw : ∀ d ∈ tables_1, d.before a0 Z = true) (ws : List Jvm.Cond) (a1 : Addr) (el0 : Addr) (el1 : Addr) (el2 : Addr) (el3 : Addr) (t : Addr) (kt : ClassId) (h0 : Heap) (n0 : Nat) (Z0 : n0 ≤ h0.size) (E_a1 : Exa Z h0 a1 "java/util/ImmutableCollections$ListN") (F_a1_elements : Fld Z h0 a1 "java/util/ImmutableCollections$ListN" "elements" "[Ljava/lang/Object;" (.ref t)) (V_t : Arv Z h0 t kt (.object "java/lang/Object") (4 : Int32) [(.ref el0), (.ref el1), (.ref el2), (.ref el3)] .null) :
    MetFree l y36_ (head1 (Jvm.Cond.code y36_ jdk_45_method_4_code 2 (some (.object "java/lang/Object")) :: ws) R0_) (fun a U => a = #[(.ref a1), (.int (3 : Int32))] ∧ Z.Warmed39 U.vm ∧ U.heap = h0) (fun _ _ _ _ _ => True) (fun _ U o U' => ∃ v L, o = .returned v ∧ (Q_rm_lNg_4_3 Z a1 el0 el1 el2 el3 t kt h0 n0) v U'.heap L ∧ FrameEnd U o U' L R0_.cells R0_.slots) := by
  refine MetFree.of_bodySF (plainFor_of_name pn_39) hisR ?_
  intro p e s m args below meth c s₁ Bd hml0 hP hK
  obtain ⟨rfl, hZ, hh⟩ := hP
  have hx := Bd.exec
  have hby := Bd.bytes
  have hml : c.maxLocals = 2 := hml0
  have hown : s.vm.findClass "java/util/ImmutableCollections$ListN" = some m.cls := findClass_of_methodNamed Bd.named
  have hnm := (name_of_methodNamed Bd.named Bd.method).1
  have X0 : Stand p l e R0_ s m #[(.ref a1), (.int (3 : Int32))] below meth c s₁ [] 0 0 := Stand.of_body Bd
  have e0 : s₁.heap = h0 := by rw [← hh, Bd.state]; rfl
  have N0 := Fr.nil n0
  show own_G FrameEnd p e below s R0_.cells R0_.slots (Q_rm_lNg_4_3 Z a1 el0 el1 el2 el3 t kt h0 n0) (s₁.setTop (entryFrame m #[(.ref a1), (.int (3 : Int32))] 2))
  refine own_go (Y' := s₁.setTop (mkF m 0 #[rv a1, iv (3 : Int32)] [])) ?_ (fun t k => castTop (ef_39 m a1 (3 : Int32)) k)
  refine own_go ?_ (fun _ hr => XS.aloadN X0.here hx rfl (hb hby d39_0) rfl rfl hr)
  show own_H (s₁.setTop (mkF m 1 #[rv a1, iv (3 : Int32)] [(.ref a1)]))
  obtain ⟨T1, X1, e1, st1⟩ := getF X0 hx hZ hown (host := "") (Or.inl (hw _ (tm 197 rfl))) Via.refl e0 F_a1_elements (g := (mkF m 1 #[rv a1, iv (3 : Int32)] [(.ref a1)])) rfl rfl (hb hby d39_1)
  refine own_go ?_ (fun _ hr => st1 _ (XS.iloadN X1.here hx rfl (hb hby d39_4) rfl hr))
  show own_H (T1.setTop (mkF m 5 #[rv a1, iv (3 : Int32)] [(.int (3 : Int32)), (.ref t)]))
  obtain ⟨cl2, Ar2, qk2, S2, M2, H2, G2⟩ := id V_t
  have hin2 : ¬ ((3 : Int32) < 0 ∨ cl2.slots.size ≤ ((3 : Int32)).toNatClampNeg) := inb_of S2 ⟨by decide, by decide⟩
  refine own_go ?_ (fun _ hr => X1.aaload hx (j := (3 : Int32)) (v := (.ref el3)) (by rw [e1]; exact Ar2.1) (State.isArrayOf_alike hZ.alike Ar2.2.1) rfl Ar2.2.2 hin2 (Has.at H2 hin2 rfl) (g := (mkF m 5 #[rv a1, iv (3 : Int32)] [(.int (3 : Int32)), (.ref t)])) rfl rfl (hb hby d39_5) _ hr)
  show own_H (T1.setTop (mkF m 6 #[rv a1, iv (3 : Int32)] [(.ref el3)]))
  obtain ⟨fs, hr, hrun, hended, hW, hsame⟩ := X1.leave (v := some (.ref el3)) (fun h => by rw [Bd.returns] at h; cases h)
  exact ⟨_, _, retOut X1 hx Bd.returns rfl (Or.inr (Or.inr (Or.inr (Or.inr ⟨rfl, rfl, rfl⟩)))) (hb hby d39_6) hr, hrun, hended, _, _, rfl, ⟨rfl, N0, e1⟩, ⟨_, rfl⟩, hW, hsame.mono (by decide) (by decide)⟩
def Q_rm_rget_4_3 (Z : State) (a1 : Addr) (a2 : Addr) (el0 : Addr) (el1 : Addr) (el2 : Addr) (el3 : Addr) (t : Addr) (kt : ClassId) (h0 : Heap) (n0 : Nat) : Option Value → Heap → List Loc → Prop := fun v h L => v = some (.ref el3) ∧ Fr n0 L ∧ h = h0
set_option maxRecDepth 65536 in
set_option maxHeartbeats 40000000 in
theorem rm_rget_4_3 (l : Launch) (Z : State) (a0 : Array Value) (hw : ∀ d ∈ tables_1, d.before a0 Z = true) (ws : List Jvm.Cond) (a1 : Addr) (a2 : Addr) (el0 : Addr) (el1 : Addr) (el2 : Addr) (el3 : Addr) (t : Addr) (kt : ClassId) (h0 : Heap) (n0 : Nat) (Z0 : n0 ≤ h0.size) (F_a1_fields : Fld Z h0 a1 "com/example/ninkasi/ninkasi/csv/CsvRecord" "fields" "Ljava/util/List;" (.ref a2)) (E_a2 : Exa Z h0 a2 "java/util/ImmutableCollections$ListN") (F_a2_elements : Fld Z h0 a2 "java/util/ImmutableCollections$ListN" "elements" "[Ljava/lang/Object;" (.ref t)) (V_t : Arv Z h0 t kt (.object "java/lang/Object") (4 : Int32) [(.ref el0), (.ref el1), (.ref el2), (.ref el3)] .null) (E_el3 : Exa Z h0 el3 "java/lang/String") :
    MetFree l y34_ (head1 (Jvm.Cond.code y34_ prog_4_method_3_code 2 (some (.object "java/lang/String")) :: ws) R42_) (fun a U => a = #[(.ref a1), (.int (3 : Int32))] ∧ Z.Warmed39 U.vm ∧ U.heap = h0) (fun _ _ _ _ _ => True) (fun _ U o U' => ∃ v L, o = .returned v ∧ (Q_rm_rget_4_3 Z a1 a2 el0 el1 el2 el3 t kt h0 n0) v U'.heap L ∧ FrameEnd U o U' L R42_.cells R42_.slots) := by
  refine MetFree.of_bodySF (plainFor_of_name pn_28) hisR ?_
  intro p e s m args below meth c s₁ Bd hml0 hP hK
  obtain ⟨rfl, hZ, hh⟩ := hP
  have hx := Bd.exec
  have hby := Bd.bytes
  have hml : c.maxLocals = 2 := hml0
  have hown : s.vm.findClass "com/example/ninkasi/ninkasi/csv/CsvRecord" = some m.cls := findClass_of_methodNamed Bd.named
  have hnm := (name_of_methodNamed Bd.named Bd.method).1
  have X0 : Stand p l e R42_ s m #[(.ref a1), (.int (3 : Int32))] below meth c s₁ [] 0 0 := Stand.of_body Bd
  have e0 : s₁.heap = h0 := by rw [← hh, Bd.state]; rfl
  have N0 := Fr.nil n0
  show own_G FrameEnd p e below s R42_.cells R42_.slots (Q_rm_rget_4_3 Z a1 a2 el0 el1 el2 el3 t kt h0 n0) (s₁.setTop (entryFrame m #[(.ref a1), (.int (3 : Int32))] 2))
  refine own_go (Y' := s₁.setTop (mkF m 0 #[rv a1, iv (3 : Int32)] [])) ?_ (fun t k => castTop (ef_28 m a1 (3 : Int32)) k)
  refine own_go ?_ (fun _ hr => XS.aloadN X0.here hx rfl (hb hby d28_0) rfl rfl hr)
  show own_H (s₁.setTop (mkF m 1 #[rv a1, iv (3 : Int32)] [(.ref a1)]))
  obtain ⟨T1, X1, e1, st1⟩ := getF X0 hx hZ hown (host := "") (Or.inl (hw _ (tm 180 rfl))) Via.refl e0 F_a1_fields (g := (mkF m 1 #[rv a1, iv (3 : Int32)] [(.ref a1)])) rfl rfl (hb hby d28_1)
  refine own_go ?_ (fun _ hr => st1 _ (XS.iloadN X1.here hx rfl (hb hby d28_4) rfl hr))
  show own_H (T1.setTop (mkF m 5 #[rv a1, iv (3 : Int32)] [(.int (3 : Int32)), (.ref a2)]))
  obtain ⟨cq2, kq2, q2a, q2b, q2c⟩ := isOf hZ e1 E_a2
  obtain ⟨_, _, ⟨T2, L2, k2, n2⟩, -, X2, ⟨Lc2, hQ2, l2, y2, z2⟩, st2⟩ := X1.interfaceBack hx (xi := y35_) (y := y36_) hown (mvT hZ (hw _ (tm 209 rfl))) (mvT hZ (hw _ (tm 210 rfl))) (mvT hZ (hw _ (tm 211 rfl))) (mvT hZ (hw _ (tm 252 rfl))) (mvT hZ (hw _ (tm 253 rfl))) (mvT hZ (hw _ (tm 254 rfl))) (mvT hZ (hw _ (tm 255 rfl))) (mvT hZ (hw _ (tm 256 rfl))) (by decide) (backOf (W := 0) (rm_lNg_4_3 l Z a0 hw [] a2 el0 el1 el2 el3 t kt h0 n0 Z0 E_a2 F_a2_elements V_t) hZ (hw _ (tm 257 rfl)) (hw _ (tm 188 rfl)) (by decide) (by decide)) q2a q2b q2c (g := (mkF m 5 #[rv a1, iv (3 : Int32)] [(.int (3 : Int32)), (.ref a2)])) rfl (by rw [hml]; rfl) (Steps.refl _) (argsL := [(.int (3 : Int32))]) (rest := []) (lenOf pd__I_Ljava_lang_Object_ rfl) rfl (by show 2 * 0 + _ ≤ _; exact Nat.le_of_eq rfl) (hb hby d28_5) (fun _ _ => ⟨rfl, e1, (by decide : 0 + 0 ≤ _), (by decide : 0 + 0 ≤ _)⟩)
  dsimp only [Pt.U, Pt.locs, Pt.cells, Pt.slots] at X2 l2 y2 z2 st2 hQ2
  subst l2 y2 z2
  obtain ⟨rfl, N2q, e2⟩ := hQ2
  have N2 := Fr.app N0 N2q
  refine own_go ?_ (fun _ hr => st2.trans hr)
  show own_H (T2.setTop (mkF m 10 #[rv a1, iv (3 : Int32)] [(.ref el3)]))
  obtain ⟨T3, X3, e3, st3⟩ := castY X2 hx hZ hown (hw _ (tm 218 rfl)) e2 (Ins.self E_el3) (g := (mkF m 10 #[rv a1, iv (3 : Int32)] [(.ref el3)])) rfl rfl (hb hby d28_10)
  refine own_go ?_ (fun _ hr => st3 _ hr)
  show own_H (T3.setTop (mkF m 13 #[rv a1, iv (3 : Int32)] [(.ref el3)]))
  obtain ⟨fs, hr, hrun, hended, hW, hsame⟩ := X3.leave (v := some (.ref el3)) (fun h => by rw [Bd.returns] at h; cases h)
  exact ⟨_, _, retOut X3 hx Bd.returns rfl (Or.inr (Or.inr (Or.inr (Or.inr ⟨rfl, rfl, rfl⟩)))) (hb hby d28_13) hr, hrun, hended, _, _, rfl, ⟨rfl, N2, e3⟩, ⟨_, rfl⟩, hW, hsame.mono (by decide) (by decide)⟩
theorem d30_0 : decode jdk_42_method_66_code 0 = .ok (.aload_n 0, 1) := by decide +kernel
theorem d30_1 : decode jdk_42_method_66_code 1 = .ok (.aload_n 1, 1) := by decide +kernel
theorem d30_2 : decode jdk_42_method_66_code 2 = .ok (.if_acmp .ne 5, 3) := by decide +kernel
theorem d30_5 : decode jdk_42_method_66_code 5 = .ok (.iconst 1, 1) := by decide +kernel
theorem d30_6 : decode jdk_42_method_66_code 6 = .ok (.ireturn, 1) := by decide +kernel
theorem pn_30 : plainName "java/lang/String" = true := by first | (simp [plainName, overriddenIn]; done) | decide +kernel
theorem ef_30 (m : MethodId) (x0 : Addr) (x1 : Addr) : entryFrame m #[(.ref x0), (.ref x1)] 3 = mkF m 0 #[rv x0, rv x1, .unset] [] := by first | (simp [entryFrame, mkF, argsToLocals, Value.category]; done) | rfl
def Q_rm_eq (Z : State) (a1 : Addr) (h0 : Heap) (n0 : Nat) : Option Value → Heap → List Loc → Prop := fun v h L => v = some (.int (1 : Int32)) ∧ Fr n0 L ∧ h = h0
set_option maxRecDepth 65536 in
set_option maxHeartbeats 40000000 in
theorem rm_eq (l : Launch) (Z : State) (a0 : Array Value) (hw : ∀ d ∈ tables_1, d.before a0 Z = true) (ws : List Jvm.Cond) (a1 : Addr) (h0 : Heap) (n0 : Nat) (Z0 : n0 ≤ h0.size) :
    MetFree l y37_ (head1 (Jvm.Cond.code y37_ jdk_42_method_66_code 3 (some .boolean) :: ws) R0_) (fun a U => a = #[(.ref a1), (.ref a1)] ∧ Z.Warmed39 U.vm ∧ U.heap = h0) (fun _ _ _ _ _ => True) (fun _ U o U' => ∃ v L, o = .returned v ∧ (Q_rm_eq Z a1 h0 n0) v U'.heap L ∧ FrameEnd U o U' L R0_.cells R0_.slots) := by
  refine MetFree.of_bodySF (plainFor_of_name pn_30) hisR ?_
  intro p e s m args below meth c s₁ Bd hml0 hP hK
  obtain ⟨rfl, hZ, hh⟩ := hP
  have hx := Bd.exec
  have hby := Bd.bytes
  have hml : c.maxLocals = 3 := hml0
  have hown : s.vm.findClass "java/lang/String" = some m.cls := findClass_of_methodNamed Bd.named
  have hnm := (name_of_methodNamed Bd.named Bd.method).1
  have X0 : Stand p l e R0_ s m #[(.ref a1), (.ref a1)] below meth c s₁ [] 0 0 := Stand.of_body Bd
  have e0 : s₁.heap = h0 := by rw [← hh, Bd.state]; rfl
  have N0 := Fr.nil n0
  show own_G FrameEnd p e below s R0_.cells R0_.slots (Q_rm_eq Z a1 h0 n0) (s₁.setTop (entryFrame m #[(.ref a1), (.ref a1)] 3))
  refine own_go (Y' := s₁.setTop (mkF m 0 #[rv a1, rv a1, .unset] [])) ?_ (fun t k => castTop (ef_30 m a1 a1) k)
  refine own_go ?_ (fun _ hr => XS.aloadN X0.here hx rfl (hb hby d30_0) rfl rfl (XS.aloadN X0.here hx rfl (hb hby d30_1) rfl rfl (Jvm.RoadKit.acmp (g := (mkF m 2 #[rv a1, rv a1, .unset] [(.ref a1), (.ref a1)])) X0 hx rfl rfl rfl (pc0 := 2) (pc' := 5) (same := true) rfl (hb hby d30_2) rfl (decide_eq_true rfl) (by decide) (by decide) (XS.iconst X0.here hx rfl (hb hby d30_5) hr))))
  show own_H (s₁.setTop (mkF m 6 #[rv a1, rv a1, .unset] [(.int (1 : Int32))]))
  obtain ⟨fs, hr, hrun, hended, hW, hsame⟩ := X0.leave (v := some (.int (1 : Int32))) (fun h => by rw [Bd.returns] at h; cases h)
  exact ⟨_, _, retN X0 hx (t := .boolean) Bd.returns (by simp) (hb hby d30_6) hr, hrun, hended, _, _, rfl, ⟨rfl, N0, e0⟩, ⟨_, rfl⟩, hW, hsame.mono (by decide) (by decide)⟩
theorem pn_0 : plainName "com/example/ninkasi/ninkasi/csv/CsvRecordGetPinLaw" = true := by first | (simp [plainName, overriddenIn]; done) | decide +kernel
theorem pd__I_Ljava_lang_String_ : parseMethodDescriptor "(I)Ljava/lang/String;" = some ⟨[.int], some (.object "java/lang/String")⟩ := by decide +kernel
theorem pd__Ljava_lang_Object__Z : parseMethodDescriptor "(Ljava/lang/Object;)Z" = some ⟨[(.object "java/lang/Object")], some .boolean⟩ := by decide +kernel
theorem pd__Ljava_util_List_Ljava_util_List__V : parseMethodDescriptor "(Ljava/util/List;Ljava/util/List;)V" = some ⟨[(.object "java/util/List"), (.object "java/util/List")], none⟩ := by decide +kernel
theorem ef_0 (m : MethodId) (x0 : Int32) (x1 : Int32) (x2 : Int32) (x3 : Int32) (x4 : Int32) (x5 : Int32) : entryFrame m #[(.int x0), (.int x1), (.int x2), (.int x3), (.int x4), (.int x5)] maxLocals = mkF m 0 #[iv x0, iv x1, iv x2, iv x3, iv x4, iv x5, .unset, .unset, .unset, .unset, .unset, .unset, .unset, .unset, .unset, .unset, .unset] [] := by first | (simp [entryFrame, mkF, argsToLocals, Value.category, maxLocals]; done) | rfl
def Q_rm0 (Z : State) (p1 : Int32) (p2 : Int32) (p3 : Int32) (p4 : Int32) (p5 : Int32) (p6 : Int32) (zc : Int32) (wE : Addr) (kE : ClassId) (wM : Addr) (mO : Addr) (h0 : Heap) (n0 : Nat) : Option Value → Heap → List Loc → Prop := fun v h L => v = some (.int (1 : Int32)) ∧ Fr n0 L ∧ True
set_option maxRecDepth 65536 in
set_option maxHeartbeats 40000000 in
theorem rm0 (l : Launch) (Z : State) (a0 : Array Value) (hw : ∀ d ∈ tables_1, d.before a0 Z = true) (ws : List Jvm.Cond) (p1 : Int32) (p2 : Int32) (p3 : Int32) (p4 : Int32) (p5 : Int32) (p6 : Int32) (zc : Int32) (wE : Addr) (kE : ClassId) (wM : Addr) (mO : Addr) (h0 : Heap) (n0 : Nat) (Z0 : n0 ≤ h0.size) (hold : Old Z n0 h0) (S_COMPACT_STRINGS : Sta Z Z.heap "java/lang/String" "COMPACT_STRINGS" "Z" (.int zc)) (S_DEFAULTCAPACITY_EMPTY_ELEMENTDATA : Sta Z Z.heap "java/util/ArrayList" "DEFAULTCAPACITY_EMPTY_ELEMENTDATA" "[Ljava/lang/Object;" (.ref wE)) (V_wE : Arv Z Z.heap wE kE (.object "java/lang/Object") (0 : Int32) [] .null) (S_EMPTY : Sta Z Z.heap "java/util/ImmutableCollections" "EMPTY" "Ljava/lang/Object;" (.ref wM)) (E_wM : Exa Z Z.heap wM "java/lang/Object") (mir_mO : Mir Z "[Ljava/lang/Object;" mO) (hz : ¬ (zc = (0 : Int32))) :
    MetFree l x (head1 (Jvm.Cond.code x code maxLocals ret :: ws) room_1) (fun a U => a = #[(.int p1), (.int p2), (.int p3), (.int p4), (.int p5), (.int p6)] ∧ Z.Warmed39 U.vm ∧ U.heap = h0 ∧ CHv Z consts_1 U.vm h0) (fun _ _ _ _ _ => True) (fun _ U o U' => ∃ v L, o = .returned v ∧ (Q_rm0 Z p1 p2 p3 p4 p5 p6 zc wE kE wM mO h0 n0) v U'.heap L ∧ own_FE Z U o U' L room_1.cells room_1.slots) := by
  refine MetFree.of_bodySF (plainFor_of_name pn_0) hisR ?_
  intro p e s m args below meth c s₁ Bd hml0 hP hK
  obtain ⟨rfl, hZ, hh, hCH⟩ := hP
  have hx := Bd.exec
  have hby := Bd.bytes
  have hml : c.maxLocals = 17 := hml0
  have hown : s.vm.findClass "com/example/ninkasi/ninkasi/csv/CsvRecordGetPinLaw" = some m.cls := findClass_of_methodNamed Bd.named
  have hnm := (name_of_methodNamed Bd.named Bd.method).1
  have X0 : Stand p l e room_1 s m #[(.int p1), (.int p2), (.int p3), (.int p4), (.int p5), (.int p6)] below meth c s₁ [] 0 0 := Stand.of_body Bd
  have e0 : s₁.heap = h0 := by rw [← hh, Bd.state]; rfl
  have N0 := Fr.nil n0
  show own_G (own_FE Z) p e below s room_1.cells room_1.slots (Q_rm0 Z p1 p2 p3 p4 p5 p6 zc wE kE wM mO h0 n0) (s₁.setTop (entryFrame m #[(.int p1), (.int p2), (.int p3), (.int p4), (.int p5), (.int p6)] maxLocals))
  refine own_go (Y' := s₁.setTop (mkF m 0 #[iv p1, iv p2, iv p3, iv p4, iv p5, iv p6, .unset, .unset, .unset, .unset, .unset, .unset, .unset, .unset, .unset, .unset, .unset] [])) ?_ (fun t k => castTop (ef_0 m p1 p2 p3 p4 p5 p6) k)
  have hC0 := CHr.refl hCH
  have hEL := own_EW Z a0 hw
  have wS : ∀ a ∈ Bundle.stringAtoms, a.before a0 Z = true := fun d hd => hw d ((by decide +kernel : ∀ d ∈ Bundle.stringAtoms, d ∈ tables_1) d hd)
  have hws : ∀ d ∈ StrChars.Road.words, d.before a0 Z = true := fun d hd => hw d ((by decide +kernel : ∀ d ∈ StrChars.Road.words, d ∈ tables_1) d hd)
  refine own_go ?_ (fun _ hr => XS.iconst X0.here hx rfl (hb hby at_0) (XS.iloadN X0.here hx rfl (hb hby at_1) rfl (XS.iconst X0.here hx rfl (hb hby at_2) (XS.iand X0.here hx rfl (hb hby at_3) rfl (XS.iadd X0.here hx rfl (hb hby at_4) rfl (XS.istore X0.here hx rfl (hb hby at_5) rfl (l' := #[iv p1, iv p2, iv p3, iv p4, iv p5, iv p6, iv ((1 : Int32) + (p1 &&& (3 : Int32))), .unset, .unset, .unset, .unset, .unset, .unset, .unset, .unset, .unset, .unset]) rfl (XS.iloadN X0.here hx rfl (hb hby at_7) rfl hr)))))))
  show own_H (s₁.setTop (mkF m 8 #[iv p1, iv p2, iv p3, iv p4, iv p5, iv p6, iv ((1 : Int32) + (p1 &&& (3 : Int32))), .unset, .unset, .unset, .unset, .unset, .unset, .unset, .unset, .unset, .unset] [(.int p2)]))
  obtain ⟨_, _, ⟨T1, L1, k1, n1⟩, -, X1a, hS1a, hg1a, ⟨Lc1, hQ1, l1, y1, z1, H1c⟩, st1⟩ := callSS X0 hx (y := y6_) hown (mvT hZ (hw _ (tm 0 rfl))) (mvT hZ (hw _ (tm 1 rfl))) (mvT hZ (hw _ (tm 2 rfl))) (mvT hZ (hw _ (tm 3 rfl))) (by decide) (backOfSH (s := s) (vm0 := s.vm) (W := 0) (rm_mk l Z a0 hw [] p2 zc h0 n0 Z0 hold S_COMPACT_STRINGS hz) hZ (hw _ (tm 3 rfl)) (hw _ (tm 2 rfl)) (by decide) (by decide) hEL hC0.1) (g := (mkF m 8 #[iv p1, iv p2, iv p3, iv p4, iv p5, iv p6, iv ((1 : Int32) + (p1 &&& (3 : Int32))), .unset, .unset, .unset, .unset, .unset, .unset, .unset, .unset, .unset, .unset] [(.int p2)])) rfl (by rw [hml]; rfl) (argsL := [(.int p2)]) (rest := []) (lenOf pd__I_Ljava_lang_String_ rfl) rfl (by show 2 * 0 + _ ≤ _; exact Nat.le_of_eq rfl) (hb hby at_8) (fun _ _ => ⟨rfl, e0, (by decide : 0 + 6 ≤ _), (by decide : 0 + 12 ≤ _)⟩)
  dsimp only [Pt.U, Pt.locs, Pt.cells, Pt.slots] at X1a hS1a hg1a l1 y1 z1 st1 hQ1 H1c
  subst l1 y1 z1
  obtain ⟨X1, hS1, hZ, hown⟩ := rebS (s := s) (vm0 := s.vm) (State.WarmedH.since (State.WarmedH.refl s) 0) (Nat.zero_le _) X1a hS1a hg1a hZ hown
  obtain ⟨b1_0, rfl, N1q, K1, yb1_0, P1_0⟩ := hQ1
  have g_b1_0 : n0 ≤ b1_0 := ltr Z0 yb1_0
  have C2 := hC0.trans H1c
  have N1 := Fr.app N0 N1q
  refine own_go ?_ (fun _ hr => st1.trans (XS.astore X1.here hx rfl (hb hby at_11) rfl rfl (l' := #[iv p1, iv p2, iv p3, iv p4, iv p5, iv p6, iv ((1 : Int32) + (p1 &&& (3 : Int32))), rv b1_0, .unset, .unset, .unset, .unset, .unset, .unset, .unset, .unset, .unset]) rfl (XS.iloadN X1.here hx rfl (hb hby at_13) rfl hr)))
  show own_H (T1.setTop (mkF m 14 #[iv p1, iv p2, iv p3, iv p4, iv p5, iv p6, iv ((1 : Int32) + (p1 &&& (3 : Int32))), rv b1_0, .unset, .unset, .unset, .unset, .unset, .unset, .unset, .unset, .unset] [(.int p3)]))
  obtain ⟨_, _, ⟨T3, L3, k3, n3⟩, -, X3a, hS3a, hg3a, ⟨Lc3, hQ3, l3, y3, z3, H3c⟩, st3⟩ := callSS X1 hx (y := y6_) hown (mvT hZ (hw _ (tm 0 rfl))) (mvT hZ (hw _ (tm 1 rfl))) (mvT hZ (hw _ (tm 2 rfl))) (mvT hZ (hw _ (tm 3 rfl))) (by decide) (backOfSH (s := s) (vm0 := T1.vm) (W := 0) (rm_mk l Z a0 hw [] p3 zc T1.heap n0 (ltr Z0 K1.1) (hold.keep K1 all0) S_COMPACT_STRINGS hz) hZ (hw _ (tm 3 rfl)) (hw _ (tm 2 rfl)) (by decide) (by decide) hEL C2.1) (g := (mkF m 14 #[iv p1, iv p2, iv p3, iv p4, iv p5, iv p6, iv ((1 : Int32) + (p1 &&& (3 : Int32))), rv b1_0, .unset, .unset, .unset, .unset, .unset, .unset, .unset, .unset, .unset] [(.int p3)])) rfl (by rw [hml]; rfl) (argsL := [(.int p3)]) (rest := []) (lenOf pd__I_Ljava_lang_String_ rfl) rfl (by show 2 * 0 + _ ≤ _; exact Nat.le_of_eq rfl) (hb hby at_14) (fun _ _ => ⟨rfl, rfl, (by decide : 6 + 6 ≤ _), (by decide : 12 + 12 ≤ _)⟩)
  dsimp only [Pt.U, Pt.locs, Pt.cells, Pt.slots] at X3a hS3a hg3a l3 y3 z3 st3 hQ3 H3c
  subst l3 y3 z3
  obtain ⟨X3, hS3, hZ, hown⟩ := rebS (s := s) (vm0 := T1.vm) hS1 (Nat.le_refl _) X3a hS3a hg3a hZ hown
  obtain ⟨b3_0, rfl, N3q, K3, yb3_0, P3_0⟩ := hQ3
  have g_b3_0 : n0 ≤ b3_0 := ltr (ltr Z0 K1.1) yb3_0
  have C4 := C2.trans H3c
  have N3 := Fr.app N1 N3q
  refine own_go ?_ (fun _ hr => st3.trans (XS.astore X3.here hx rfl (hb hby at_17) rfl rfl (l' := #[iv p1, iv p2, iv p3, iv p4, iv p5, iv p6, iv ((1 : Int32) + (p1 &&& (3 : Int32))), rv b1_0, rv b3_0, .unset, .unset, .unset, .unset, .unset, .unset, .unset, .unset]) rfl (XS.iloadN X3.here hx rfl (hb hby at_19) rfl hr)))
  show own_H (T3.setTop (mkF m 20 #[iv p1, iv p2, iv p3, iv p4, iv p5, iv p6, iv ((1 : Int32) + (p1 &&& (3 : Int32))), rv b1_0, rv b3_0, .unset, .unset, .unset, .unset, .unset, .unset, .unset, .unset] [(.int p4)]))
  obtain ⟨_, _, ⟨T5, L5, k5, n5⟩, -, X5a, hS5a, hg5a, ⟨Lc5, hQ5, l5, y5, z5, H5c⟩, st5⟩ := callSS X3 hx (y := y6_) hown (mvT hZ (hw _ (tm 0 rfl))) (mvT hZ (hw _ (tm 1 rfl))) (mvT hZ (hw _ (tm 2 rfl))) (mvT hZ (hw _ (tm 3 rfl))) (by decide) (backOfSH (s := s) (vm0 := T3.vm) (W := 0) (rm_mk l Z a0 hw [] p4 zc T3.heap n0 (ltr (ltr Z0 K1.1) K3.1) ((hold.keep K1 all0).keep K3 all0) S_COMPACT_STRINGS hz) hZ (hw _ (tm 3 rfl)) (hw _ (tm 2 rfl)) (by decide) (by decide) hEL C4.1) (g := (mkF m 20 #[iv p1, iv p2, iv p3, iv p4, iv p5, iv p6, iv ((1 : Int32) + (p1 &&& (3 : Int32))), rv b1_0, rv b3_0, .unset, .unset, .unset, .unset, .unset, .unset, .unset, .unset] [(.int p4)])) rfl (by rw [hml]; rfl) (argsL := [(.int p4)]) (rest := []) (lenOf pd__I_Ljava_lang_String_ rfl) rfl (by show 2 * 0 + _ ≤ _; exact Nat.le_of_eq rfl) (hb hby at_20) (fun _ _ => ⟨rfl, rfl, (by decide : 12 + 6 ≤ _), (by decide : 24 + 12 ≤ _)⟩)
  dsimp only [Pt.U, Pt.locs, Pt.cells, Pt.slots] at X5a hS5a hg5a l5 y5 z5 st5 hQ5 H5c
  subst l5 y5 z5
  obtain ⟨X5, hS5, hZ, hown⟩ := rebS (s := s) (vm0 := T3.vm) hS3 (Nat.le_refl _) X5a hS5a hg5a hZ hown
  obtain ⟨b5_0, rfl, N5q, K5, yb5_0, P5_0⟩ := hQ5
  have g_b5_0 : n0 ≤ b5_0 := ltr (ltr (ltr Z0 K1.1) K3.1) yb5_0
  have C6 := C4.trans H5c
  have N5 := Fr.app N3 N5q
  refine own_go ?_ (fun _ hr => st5.trans (XS.astore X5.here hx rfl (hb hby at_23) rfl rfl (l' := #[iv p1, iv p2, iv p3, iv p4, iv p5, iv p6, iv ((1 : Int32) + (p1 &&& (3 : Int32))), rv b1_0, rv b3_0, rv b5_0, .unset, .unset, .unset, .unset, .unset, .unset, .unset]) rfl (XS.iload X5.here hx rfl (hb hby at_25) rfl hr)))
  show own_H (T5.setTop (mkF m 27 #[iv p1, iv p2, iv p3, iv p4, iv p5, iv p6, iv ((1 : Int32) + (p1 &&& (3 : Int32))), rv b1_0, rv b3_0, rv b5_0, .unset, .unset, .unset, .unset, .unset, .unset, .unset] [(.int p5)]))
  obtain ⟨_, _, ⟨T7, L7, k7, n7⟩, -, X7a, hS7a, hg7a, ⟨Lc7, hQ7, l7, y7, z7, H7c⟩, st7⟩ := callSS X5 hx (y := y6_) hown (mvT hZ (hw _ (tm 0 rfl))) (mvT hZ (hw _ (tm 1 rfl))) (mvT hZ (hw _ (tm 2 rfl))) (mvT hZ (hw _ (tm 3 rfl))) (by decide) (backOfSH (s := s) (vm0 := T5.vm) (W := 0) (rm_mk l Z a0 hw [] p5 zc T5.heap n0 (ltr (ltr (ltr Z0 K1.1) K3.1) K5.1) (((hold.keep K1 all0).keep K3 all0).keep K5 all0) S_COMPACT_STRINGS hz) hZ (hw _ (tm 3 rfl)) (hw _ (tm 2 rfl)) (by decide) (by decide) hEL C6.1) (g := (mkF m 27 #[iv p1, iv p2, iv p3, iv p4, iv p5, iv p6, iv ((1 : Int32) + (p1 &&& (3 : Int32))), rv b1_0, rv b3_0, rv b5_0, .unset, .unset, .unset, .unset, .unset, .unset, .unset] [(.int p5)])) rfl (by rw [hml]; rfl) (argsL := [(.int p5)]) (rest := []) (lenOf pd__I_Ljava_lang_String_ rfl) rfl (by show 2 * 0 + _ ≤ _; exact Nat.le_of_eq rfl) (hb hby at_27) (fun _ _ => ⟨rfl, rfl, (by decide : 18 + 6 ≤ _), (by decide : 36 + 12 ≤ _)⟩)
  dsimp only [Pt.U, Pt.locs, Pt.cells, Pt.slots] at X7a hS7a hg7a l7 y7 z7 st7 hQ7 H7c
  subst l7 y7 z7
  obtain ⟨X7, hS7, hZ, hown⟩ := rebS (s := s) (vm0 := T5.vm) hS5 (Nat.le_refl _) X7a hS7a hg7a hZ hown
  obtain ⟨b7_0, rfl, N7q, K7, yb7_0, P7_0⟩ := hQ7
  have g_b7_0 : n0 ≤ b7_0 := ltr (ltr (ltr (ltr Z0 K1.1) K3.1) K5.1) yb7_0
  have C8 := C6.trans H7c
  have N7 := Fr.app N5 N7q
  refine own_go ?_ (fun _ hr => st7.trans (XS.astore X7.here hx rfl (hb hby at_30) rfl rfl (l' := #[iv p1, iv p2, iv p3, iv p4, iv p5, iv p6, iv ((1 : Int32) + (p1 &&& (3 : Int32))), rv b1_0, rv b3_0, rv b5_0, rv b7_0, .unset, .unset, .unset, .unset, .unset, .unset]) rfl hr))
  show own_H (T7.setTop (mkF m 32 #[iv p1, iv p2, iv p3, iv p4, iv p5, iv p6, iv ((1 : Int32) + (p1 &&& (3 : Int32))), rv b1_0, rv b3_0, rv b5_0, rv b7_0, .unset, .unset, .unset, .unset, .unset, .unset] []))
  obtain ⟨T9, h9, X9, e9, E9, A9, D9, -, st9⟩ := newO X7 hx hZ hown (hw _ (tm 26 rfl)) (hw _ (tm 27 rfl)) (hw _ (tm 28 rfl)) rfl (g := (mkF m 32 #[iv p1, iv p2, iv p3, iv p4, iv p5, iv p6, iv ((1 : Int32) + (p1 &&& (3 : Int32))), rv b1_0, rv b3_0, rv b5_0, rv b7_0, .unset, .unset, .unset, .unset, .unset, .unset] [])) rfl (hb hby at_32) (by decide) (by decide)
  obtain ⟨b9, g9⟩ : ∃ z, z = T7.heap.size := ⟨_, rfl⟩
  rw [← g9] at A9 D9 st9
  have g_b9 : n0 ≤ b9 := ltr (ltr (ltr (ltr (ltr Z0 K1.1) K3.1) K5.1) K7.1) (leq g9.symm)
  have C10 := C8.trans (CHr.ext E9 C8.1)
  have F9_46 : Fld Z h9 b9 "java/util/AbstractList" "modCount" "I" (.int (0 : Int32)) := D9 (Or.inl (hw _ (tm 46 rfl))) (ty := .int) (by decide)
  have F9_49 : Fld Z h9 b9 "java/util/ArrayList" "elementData" "[Ljava/lang/Object;" .null := D9 (Or.inl (hw _ (tm 49 rfl))) (ty := (.array (.object "java/lang/Object"))) (by decide)
  have F9_58 : Fld Z h9 b9 "java/util/ArrayList" "size" "I" (.int (0 : Int32)) := D9 (Or.inl (hw _ (tm 58 rfl))) (ty := .int) (by decide)
  refine own_go ?_ (fun _ hr => st9 _ (XS.dup X9.here hx rfl (hb hby at_35) rfl rfl hr))
  show own_H (T9.setTop (mkF m 36 #[iv p1, iv p2, iv p3, iv p4, iv p5, iv p6, iv ((1 : Int32) + (p1 &&& (3 : Int32))), rv b1_0, rv b3_0, rv b5_0, rv b7_0, .unset, .unset, .unset, .unset, .unset, .unset] [(.ref b9), (.ref b9)]))
  obtain ⟨_, _, ⟨T11, L11, k11, n11⟩, -, X11, ⟨Lc11, hQ11, l11, y11, z11⟩, st11⟩ := X9.specialBack hx (y := y9_) rfl hown (mvT hZ (hw _ (tm 29 rfl))) (mvT hZ (hw _ (tm 30 rfl))) (mvT hZ (hw _ (tm 31 rfl))) (by decide) (backOf (W := 1) (rm5 l Z a0 hw [] b9 (.int (0 : Int32)) (.null) (.int (0 : Int32)) wE h9 n0 (ltr (ltr (ltr (ltr (ltr Z0 K1.1) K3.1) K5.1) K7.1) E9.1) A9 F9_46 F9_49 F9_58 g_b9 (((((hold.keep K1 all0).keep K3 all0).keep K5 all0).keep K7 all0).ext E9) S_DEFAULTCAPACITY_EMPTY_ELEMENTDATA) hZ (hw _ (tm 31 rfl)) (hw _ (tm 28 rfl)) (by decide) (by decide)) (g := (mkF m 36 #[iv p1, iv p2, iv p3, iv p4, iv p5, iv p6, iv ((1 : Int32) + (p1 &&& (3 : Int32))), rv b1_0, rv b3_0, rv b5_0, rv b7_0, .unset, .unset, .unset, .unset, .unset, .unset] [(.ref b9), (.ref b9)])) rfl (by rw [hml]; rfl) (Steps.refl _) (a := b9) (argsL := []) (rest := [(.ref b9)]) (lenOf pd___V rfl) rfl (by show 2 * 0 + _ ≤ _; exact Nat.le_of_eq rfl) (hb hby at_36) (fun _ _ => ⟨rfl, e9, (by decide : 25 + 0 ≤ _), (by decide : 51 + 0 ≤ _)⟩)
  dsimp only [Pt.U, Pt.locs, Pt.cells, Pt.slots] at X11 l11 y11 z11 st11 hQ11
  subst l11 y11 z11
  obtain ⟨rfl, N11q, K11, P11_0, P11_1, P11_2, P11_3⟩ := hQ11
  have C12 := C10.trans (CHr.keep K11 (allS (Safe.exa hZ.alike A9 (by decide) (by decide)) all0) C10.1)
  have N11 := Fr.app N7 N11q
  refine own_go ?_ (fun _ hr => st11.trans (XS.astore X11.here hx rfl (hb hby at_39) rfl rfl (l' := #[iv p1, iv p2, iv p3, iv p4, iv p5, iv p6, iv ((1 : Int32) + (p1 &&& (3 : Int32))), rv b1_0, rv b3_0, rv b5_0, rv b7_0, rv b9, .unset, .unset, .unset, .unset, .unset]) rfl (XS.aload X11.here hx rfl (hb hby at_41) rfl rfl (XS.aload X11.here hx rfl (hb hby at_43) rfl rfl hr))))
  show own_H (T11.setTop (mkF m 45 #[iv p1, iv p2, iv p3, iv p4, iv p5, iv p6, iv ((1 : Int32) + (p1 &&& (3 : Int32))), rv b1_0, rv b3_0, rv b5_0, rv b7_0, rv b9, .unset, .unset, .unset, .unset, .unset] [(.ref b1_0), (.ref b9)]))
  obtain ⟨cq13, kq13, q13a, q13b, q13c⟩ := isOf hZ rfl P11_0
  obtain ⟨_, _, ⟨T13, L13, k13, n13⟩, -, X13, ⟨Lc13, hQ13, l13, y13, z13⟩, st13⟩ := X11.virtualBack hx (y := y14_) (z := y14_) hown (mvT hZ (hw _ (tm 50 rfl))) (mvT hZ (hw _ (tm 51 rfl))) (notFace_of_selects (args := #[]) (mvT hZ (hw _ (tm 53 rfl)))) (mvT hZ (hw _ (tm 53 rfl))) (mvT hZ (hw _ (tm 52 rfl))) (by decide) (backOf (W := 0) (rm_add1_0 l Z a0 hw [] b9 b1_0 (0 : Int32) wE kE T11.heap n0 (ltr (ltr (ltr (ltr (ltr (ltr Z0 K1.1) K3.1) K5.1) K7.1) E9.1) K11.1) P11_0 P11_1 P11_2 P11_3 g_b9 ((((((hold.keep K1 all0).keep K3 all0).keep K5 all0).keep K7 all0).ext E9).keep K11 (allS g_b9 all0)) S_DEFAULTCAPACITY_EMPTY_ELEMENTDATA V_wE (((((P1_0.keep K3).keep K5).keep K7).ext E9).keep K11)) hZ (hw _ (tm 54 rfl)) (hw _ (tm 28 rfl)) (by decide) (by decide)) q13a q13c (g := (mkF m 45 #[iv p1, iv p2, iv p3, iv p4, iv p5, iv p6, iv ((1 : Int32) + (p1 &&& (3 : Int32))), rv b1_0, rv b3_0, rv b5_0, rv b7_0, rv b9, .unset, .unset, .unset, .unset, .unset] [(.ref b1_0), (.ref b9)])) rfl (by rw [hml]; rfl) (Steps.refl _) (argsL := [(.ref b1_0)]) (rest := []) (lenOf pd__Ljava_lang_Object__Z rfl) rfl (by show 2 * 0 + _ ≤ _; exact Nat.le_of_eq rfl) (hb hby at_45) (fun _ _ => ⟨rfl, rfl, (by decide : 25 + 1 ≤ _), (by decide : 51 + 10 ≤ _)⟩)
  dsimp only [Pt.U, Pt.locs, Pt.cells, Pt.slots] at X13 l13 y13 z13 st13 hQ13
  subst l13 y13 z13
  obtain ⟨b13_0, kb13_1, rfl, N13q, K13, yb13_0, P13_0, P13_1, P13_2, P13_3, P13_4, P13_5, P13_6⟩ := hQ13
  have g_b13_0 : n0 ≤ b13_0 := ltr (ltr (ltr (ltr (ltr (ltr (ltr Z0 K1.1) K3.1) K5.1) K7.1) E9.1) K11.1) yb13_0
  have C14 := C12.trans (CHr.keep K13 (allS (Safe.exa hZ.alike P11_0 (by decide) (by decide)) all0) C12.1)
  have N13 := Fr.app N11 N13q
  refine own_go ?_ (fun _ hr => st13.trans (XS.pop X13.here hx rfl (hb hby at_48) rfl rfl (XS.iload X13.here hx rfl (hb hby at_49) rfl hr)))
  show own_H (T13.setTop (mkF m 51 #[iv p1, iv p2, iv p3, iv p4, iv p5, iv p6, iv ((1 : Int32) + (p1 &&& (3 : Int32))), rv b1_0, rv b3_0, rv b5_0, rv b7_0, rv b9, .unset, .unset, .unset, .unset, .unset] [(.int ((1 : Int32) + (p1 &&& (3 : Int32))))]))
  rcases own_cnt p1 with hs51_0 | hs51_1 | hs51_2 | hs51_3
  ·
    rw [hs51_0]
    show own_H (T13.setTop (mkF m 51 #[iv p1, iv p2, iv p3, iv p4, iv p5, iv p6, iv (1 : Int32), rv b1_0, rv b3_0, rv b5_0, rv b7_0, rv b9, .unset, .unset, .unset, .unset, .unset] [(.int (1 : Int32))]))
    refine own_go ?_ (fun _ hr => XS.iconst X13.here hx rfl (hb hby at_51) (XS.icmpYes X13.here hx rfl (pc0 := 52) (pc' := 63) rfl (hb hby at_52) rfl (flt (by decide : ¬ ((1 : Int32) < (1 : Int32)))).2.2.2 (by decide) (by decide) (XS.iload X13.here hx rfl (hb hby at_63) rfl (XS.iconst X13.here hx rfl (hb hby at_65) (XS.icmpYes X13.here hx rfl (pc0 := 66) (pc' := 77) rfl (hb hby at_66) rfl (flt (by decide : ¬ ((2 : Int32) < (1 : Int32)))).2.2.2 (by decide) (by decide) (XS.iload X13.here hx rfl (hb hby at_77) rfl (XS.iconst X13.here hx rfl (hb hby at_79) (XS.icmpYes X13.here hx rfl (pc0 := 80) (pc' := 91) rfl (hb hby at_80) rfl (flt (by decide : ¬ ((3 : Int32) < (1 : Int32)))).2.2.2 (by decide) (by decide) hr))))))))
    show own_H (T13.setTop (mkF m 91 #[iv p1, iv p2, iv p3, iv p4, iv p5, iv p6, iv (1 : Int32), rv b1_0, rv b3_0, rv b5_0, rv b7_0, rv b9, .unset, .unset, .unset, .unset, .unset] []))
    obtain ⟨T15, h15, X15, e15, E15, A15, D15, -, st15⟩ := newO X13 hx hZ hown (hw _ (tm 26 rfl)) (hw _ (tm 27 rfl)) (hw _ (tm 28 rfl)) rfl (g := (mkF m 91 #[iv p1, iv p2, iv p3, iv p4, iv p5, iv p6, iv (1 : Int32), rv b1_0, rv b3_0, rv b5_0, rv b7_0, rv b9, .unset, .unset, .unset, .unset, .unset] [])) rfl (hb hby at_91) (by decide) (by decide)
    obtain ⟨b15, g15⟩ : ∃ z, z = T13.heap.size := ⟨_, rfl⟩
    rw [← g15] at A15 D15 st15
    have g_b15 : n0 ≤ b15 := ltr (ltr (ltr (ltr (ltr (ltr (ltr (ltr Z0 K1.1) K3.1) K5.1) K7.1) E9.1) K11.1) K13.1) (leq g15.symm)
    have C16 := C14.trans (CHr.ext E15 C14.1)
    have F15_46 : Fld Z h15 b15 "java/util/AbstractList" "modCount" "I" (.int (0 : Int32)) := D15 (Or.inl (hw _ (tm 46 rfl))) (ty := .int) (by decide)
    have F15_49 : Fld Z h15 b15 "java/util/ArrayList" "elementData" "[Ljava/lang/Object;" .null := D15 (Or.inl (hw _ (tm 49 rfl))) (ty := (.array (.object "java/lang/Object"))) (by decide)
    have F15_58 : Fld Z h15 b15 "java/util/ArrayList" "size" "I" (.int (0 : Int32)) := D15 (Or.inl (hw _ (tm 58 rfl))) (ty := .int) (by decide)
    refine own_go ?_ (fun _ hr => st15 _ (XS.dup X15.here hx rfl (hb hby at_94) rfl rfl hr))
    show own_H (T15.setTop (mkF m 95 #[iv p1, iv p2, iv p3, iv p4, iv p5, iv p6, iv (1 : Int32), rv b1_0, rv b3_0, rv b5_0, rv b7_0, rv b9, .unset, .unset, .unset, .unset, .unset] [(.ref b15), (.ref b15)]))
    obtain ⟨_, _, ⟨T17, L17, k17, n17⟩, -, X17, ⟨Lc17, hQ17, l17, y17, z17⟩, st17⟩ := X15.specialBack hx (y := y9_) rfl hown (mvT hZ (hw _ (tm 29 rfl))) (mvT hZ (hw _ (tm 30 rfl))) (mvT hZ (hw _ (tm 31 rfl))) (by decide) (backOf (W := 1) (rm5 l Z a0 hw [] b15 (.int (0 : Int32)) (.null) (.int (0 : Int32)) wE h15 n0 (ltr (ltr (ltr (ltr (ltr (ltr (ltr (ltr Z0 K1.1) K3.1) K5.1) K7.1) E9.1) K11.1) K13.1) E15.1) A15 F15_46 F15_49 F15_58 g_b15 ((((((((hold.keep K1 all0).keep K3 all0).keep K5 all0).keep K7 all0).ext E9).keep K11 (allS g_b9 all0)).keep K13 (allS g_b9 all0)).ext E15) S_DEFAULTCAPACITY_EMPTY_ELEMENTDATA) hZ (hw _ (tm 31 rfl)) (hw _ (tm 28 rfl)) (by decide) (by decide)) (g := (mkF m 95 #[iv p1, iv p2, iv p3, iv p4, iv p5, iv p6, iv (1 : Int32), rv b1_0, rv b3_0, rv b5_0, rv b7_0, rv b9, .unset, .unset, .unset, .unset, .unset] [(.ref b15), (.ref b15)])) rfl (by rw [hml]; rfl) (Steps.refl _) (a := b15) (argsL := []) (rest := [(.ref b15)]) (lenOf pd___V rfl) rfl (by show 2 * 0 + _ ≤ _; exact Nat.le_of_eq rfl) (hb hby at_95) (fun _ _ => ⟨rfl, e15, (by decide : 27 + 0 ≤ _), (by decide : 64 + 0 ≤ _)⟩)
    dsimp only [Pt.U, Pt.locs, Pt.cells, Pt.slots] at X17 l17 y17 z17 st17 hQ17
    subst l17 y17 z17
    obtain ⟨rfl, N17q, K17, P17_0, P17_1, P17_2, P17_3⟩ := hQ17
    have C18 := C16.trans (CHr.keep K17 (allS (Safe.exa hZ.alike A15 (by decide) (by decide)) all0) C16.1)
    have N17 := Fr.app N13 N17q
    refine own_go ?_ (fun _ hr => st17.trans (XS.astore X17.here hx rfl (hb hby at_98) rfl rfl (l' := #[iv p1, iv p2, iv p3, iv p4, iv p5, iv p6, iv (1 : Int32), rv b1_0, rv b3_0, rv b5_0, rv b7_0, rv b9, rv b15, .unset, .unset, .unset, .unset]) rfl (XS.aload X17.here hx rfl (hb hby at_100) rfl rfl hr)))
    show own_H (T17.setTop (mkF m 102 #[iv p1, iv p2, iv p3, iv p4, iv p5, iv p6, iv (1 : Int32), rv b1_0, rv b3_0, rv b5_0, rv b7_0, rv b9, rv b15, .unset, .unset, .unset, .unset] [(.ref b15)]))
    obtain ⟨c19, T19, h19, k19, d19, kd19, X19, e19, E19, hS19, hk19, hZ, hown, P19_0, P19_1, P19_2, P19_3, lc19, ld19, H19c, L19, hne19, st19⟩ := ldcCH (s := s) (vm0 := T7.vm) X17 hx hZ hown (hw _ (tm 81 rfl)) wS rfl hS7 (ltr (ltr (ltr (ltr (ltr (Nat.le_refl _) E9.1) K11.1) K13.1) E15.1) K17.1) hEL (List.mem_of_getElem? (i := 0) rfl) C18.1 (vs := [(.int (104 : Int32)), (.int (101 : Int32)), (.int (97 : Int32)), (.int (100 : Int32)), (.int (101 : Int32)), (.int (114 : Int32)), (.int (45 : Int32)), (.int (110 : Int32)), (.int (97 : Int32)), (.int (109 : Int32)), (.int (101 : Int32)), (.int (45 : Int32)), (.int (48 : Int32))]) (z := (13 : Int32)) ⟨by decide, rfl⟩ (by decide) rfl (g := (mkF m 102 #[iv p1, iv p2, iv p3, iv p4, iv p5, iv p6, iv (1 : Int32), rv b1_0, rv b3_0, rv b5_0, rv b7_0, rv b9, rv b15, .unset, .unset, .unset, .unset] [(.ref b15)])) rfl (hb hby at_102) (n := 52) (by decide) (by decide) (by decide) (by decide)
    have C20 := C18.trans H19c
    refine own_go ?_ (fun _ hr => st19 _ hr)
    show own_H (T19.setTop (mkF m 104 #[iv p1, iv p2, iv p3, iv p4, iv p5, iv p6, iv (1 : Int32), rv b1_0, rv b3_0, rv b5_0, rv b7_0, rv b9, rv b15, .unset, .unset, .unset, .unset] [(.ref c19), (.ref b15)]))
    obtain ⟨cq21, kq21, q21a, q21b, q21c⟩ := isOf hZ e19 (P17_0.ext E19)
    obtain ⟨_, _, ⟨T21, L21, k21, n21⟩, -, X21, ⟨Lc21, hQ21, l21, y21, z21⟩, st21⟩ := X19.virtualBack hx (y := y14_) (z := y14_) hown (mvT hZ (hw _ (tm 50 rfl))) (mvT hZ (hw _ (tm 51 rfl))) (notFace_of_selects (args := #[]) (mvT hZ (hw _ (tm 53 rfl)))) (mvT hZ (hw _ (tm 53 rfl))) (mvT hZ (hw _ (tm 52 rfl))) (by decide) (backOf (W := 0) (rm_add1_0 l Z a0 hw [] b15 c19 (0 : Int32) wE kE h19 n0 (ltr (ltr (ltr (ltr (ltr (ltr (ltr (ltr (ltr (ltr Z0 K1.1) K3.1) K5.1) K7.1) E9.1) K11.1) K13.1) E15.1) K17.1) E19.1) (P17_0.ext E19) (P17_1.ext E19) (P17_2.ext E19) (P17_3.ext E19) g_b15 ((((((((((hold.keep K1 all0).keep K3 all0).keep K5 all0).keep K7 all0).ext E9).keep K11 (allS g_b9 all0)).keep K13 (allS g_b9 all0)).ext E15).keep K17 (allS g_b15 all0)).ext E19) S_DEFAULTCAPACITY_EMPTY_ELEMENTDATA V_wE P19_0) hZ (hw _ (tm 54 rfl)) (hw _ (tm 28 rfl)) (by decide) (by decide)) q21a q21c (g := (mkF m 104 #[iv p1, iv p2, iv p3, iv p4, iv p5, iv p6, iv (1 : Int32), rv b1_0, rv b3_0, rv b5_0, rv b7_0, rv b9, rv b15, .unset, .unset, .unset, .unset] [(.ref c19), (.ref b15)])) rfl (by rw [hml]; rfl) (Steps.refl _) (argsL := [(.ref c19)]) (rest := []) (lenOf pd__Ljava_lang_Object__Z rfl) rfl (by show 2 * 0 + _ ≤ _; exact Nat.le_of_eq rfl) (hb hby at_104) (fun _ _ => ⟨rfl, e19, (by decide : 29 + 1 ≤ _), (by decide : 120 + 10 ≤ _)⟩)
    dsimp only [Pt.U, Pt.locs, Pt.cells, Pt.slots] at X21 l21 y21 z21 st21 hQ21
    subst l21 y21 z21
    obtain ⟨b21_0, kb21_1, rfl, N21q, K21, yb21_0, P21_0, P21_1, P21_2, P21_3, P21_4, P21_5, P21_6⟩ := hQ21
    have g_b21_0 : n0 ≤ b21_0 := ltr (ltr (ltr (ltr (ltr (ltr (ltr (ltr (ltr (ltr (ltr Z0 K1.1) K3.1) K5.1) K7.1) E9.1) K11.1) K13.1) E15.1) K17.1) E19.1) yb21_0
    have C22 := C20.trans (CHr.keep K21 (allS (Safe.exa hZ.alike (P17_0.ext E19) (by decide) (by decide)) all0) C20.1)
    have N21 := Fr.app N17 N21q
    refine own_go ?_ (fun _ hr => st21.trans (XS.pop X21.here hx rfl (hb hby at_107) rfl rfl (XS.aload X21.here hx rfl (hb hby at_108) rfl rfl hr)))
    show own_H (T21.setTop (mkF m 110 #[iv p1, iv p2, iv p3, iv p4, iv p5, iv p6, iv (1 : Int32), rv b1_0, rv b3_0, rv b5_0, rv b7_0, rv b9, rv b15, .unset, .unset, .unset, .unset] [(.ref b15)]))
    obtain ⟨c23, T23, h23, k23, d23, kd23, X23, e23, E23, hS23, hk23, hZ, hown, P23_0, P23_1, P23_2, P23_3, lc23, ld23, H23c, L23, hne23, st23⟩ := ldcCH (s := s) (vm0 := T19.vm) X21 hx hZ hown (hw _ (tm 82 rfl)) wS rfl hS19 (ltr hk19 K21.1) hEL (List.mem_of_getElem? (i := 1) rfl) C22.1 (vs := [(.int (104 : Int32)), (.int (101 : Int32)), (.int (97 : Int32)), (.int (100 : Int32)), (.int (101 : Int32)), (.int (114 : Int32)), (.int (45 : Int32)), (.int (110 : Int32)), (.int (97 : Int32)), (.int (109 : Int32)), (.int (101 : Int32)), (.int (45 : Int32)), (.int (49 : Int32))]) (z := (13 : Int32)) ⟨by decide, rfl⟩ (by decide) rfl (g := (mkF m 110 #[iv p1, iv p2, iv p3, iv p4, iv p5, iv p6, iv (1 : Int32), rv b1_0, rv b3_0, rv b5_0, rv b7_0, rv b9, rv b15, .unset, .unset, .unset, .unset] [(.ref b15)])) rfl (hb hby at_110) (n := 52) (by decide) (by decide) (by decide) (by decide)
    have C24 := C22.trans H23c
    refine own_go ?_ (fun _ hr => st23 _ hr)
    show own_H (T23.setTop (mkF m 112 #[iv p1, iv p2, iv p3, iv p4, iv p5, iv p6, iv (1 : Int32), rv b1_0, rv b3_0, rv b5_0, rv b7_0, rv b9, rv b15, .unset, .unset, .unset, .unset] [(.ref c23), (.ref b15)]))
    obtain ⟨cq25, kq25, q25a, q25b, q25c⟩ := isOf hZ e23 (P21_0.ext E23)
    obtain ⟨_, _, ⟨T25, L25, k25, n25⟩, -, X25, ⟨Lc25, hQ25, l25, y25, z25⟩, st25⟩ := X23.virtualBack hx (y := y14_) (z := y14_) hown (mvT hZ (hw _ (tm 50 rfl))) (mvT hZ (hw _ (tm 51 rfl))) (notFace_of_selects (args := #[]) (mvT hZ (hw _ (tm 53 rfl)))) (mvT hZ (hw _ (tm 53 rfl))) (mvT hZ (hw _ (tm 52 rfl))) (by decide) (backOf (W := 0) (rm_add1_1 l Z a0 hw [] b15 c23 ((0 : Int32) + (1 : Int32)) b21_0 kb21_1 c19 h23 n0 (ltr (ltr (ltr (ltr (ltr (ltr (ltr (ltr (ltr (ltr (ltr (ltr Z0 K1.1) K3.1) K5.1) K7.1) E9.1) K11.1) K13.1) E15.1) K17.1) E19.1) K21.1) E23.1) (P21_0.ext E23) (P21_1.ext E23) (P21_2.ext E23) (P21_3.ext E23) (P21_4.ext E23) P21_6 P23_0 g_b15 g_b21_0 (Nat.ne_of_lt (Nat.lt_of_lt_of_le A15.lt (ltr K17.1 (ltr E19.1 yb21_0))))) hZ (hw _ (tm 54 rfl)) (hw _ (tm 28 rfl)) (by decide) (by decide)) q25a q25c (g := (mkF m 112 #[iv p1, iv p2, iv p3, iv p4, iv p5, iv p6, iv (1 : Int32), rv b1_0, rv b3_0, rv b5_0, rv b7_0, rv b9, rv b15, .unset, .unset, .unset, .unset] [(.ref c23), (.ref b15)])) rfl (by rw [hml]; rfl) (Steps.refl _) (argsL := [(.ref c23)]) (rest := []) (lenOf pd__Ljava_lang_Object__Z rfl) rfl (by show 2 * 0 + _ ≤ _; exact Nat.le_of_eq rfl) (hb hby at_112) (fun _ _ => ⟨rfl, e23, (by decide : 32 + 0 ≤ _), (by decide : 186 + 0 ≤ _)⟩)
    dsimp only [Pt.U, Pt.locs, Pt.cells, Pt.slots] at X25 l25 y25 z25 st25 hQ25
    subst l25 y25 z25
    obtain ⟨rfl, N25q, K25, P25_0, P25_1, P25_2, P25_3, P25_4⟩ := hQ25
    have C26 := C24.trans (CHr.keep K25 (allS (Safe.exa hZ.alike (P21_0.ext E23) (by decide) (by decide)) (allS (own_safeV hZ.alike (P21_4.ext E23) (by decide)) all0)) C24.1)
    have N25 := Fr.app N21 N25q
    refine own_go ?_ (fun _ hr => st25.trans (XS.pop X25.here hx rfl (hb hby at_115) rfl rfl (XS.aload X25.here hx rfl (hb hby at_116) rfl rfl hr)))
    show own_H (T25.setTop (mkF m 118 #[iv p1, iv p2, iv p3, iv p4, iv p5, iv p6, iv (1 : Int32), rv b1_0, rv b3_0, rv b5_0, rv b7_0, rv b9, rv b15, .unset, .unset, .unset, .unset] [(.ref b15)]))
    obtain ⟨c27, T27, h27, k27, d27, kd27, X27, e27, E27, hS27, hk27, hZ, hown, P27_0, P27_1, P27_2, P27_3, lc27, ld27, H27c, L27, hne27, st27⟩ := ldcCH (s := s) (vm0 := T23.vm) X25 hx hZ hown (hw _ (tm 83 rfl)) wS rfl hS23 (ltr hk23 K25.1) hEL (List.mem_of_getElem? (i := 2) rfl) C26.1 (vs := [(.int (104 : Int32)), (.int (101 : Int32)), (.int (97 : Int32)), (.int (100 : Int32)), (.int (101 : Int32)), (.int (114 : Int32)), (.int (45 : Int32)), (.int (110 : Int32)), (.int (97 : Int32)), (.int (109 : Int32)), (.int (101 : Int32)), (.int (45 : Int32)), (.int (50 : Int32))]) (z := (13 : Int32)) ⟨by decide, rfl⟩ (by decide) rfl (g := (mkF m 118 #[iv p1, iv p2, iv p3, iv p4, iv p5, iv p6, iv (1 : Int32), rv b1_0, rv b3_0, rv b5_0, rv b7_0, rv b9, rv b15, .unset, .unset, .unset, .unset] [(.ref b15)])) rfl (hb hby at_118) (n := 52) (by decide) (by decide) (by decide) (by decide)
    have C28 := C26.trans H27c
    refine own_go ?_ (fun _ hr => st27 _ hr)
    show own_H (T27.setTop (mkF m 120 #[iv p1, iv p2, iv p3, iv p4, iv p5, iv p6, iv (1 : Int32), rv b1_0, rv b3_0, rv b5_0, rv b7_0, rv b9, rv b15, .unset, .unset, .unset, .unset] [(.ref c27), (.ref b15)]))
    obtain ⟨cq29, kq29, q29a, q29b, q29c⟩ := isOf hZ e27 (P25_0.ext E27)
    obtain ⟨_, _, ⟨T29, L29, k29, n29⟩, -, X29, ⟨Lc29, hQ29, l29, y29, z29⟩, st29⟩ := X27.virtualBack hx (y := y14_) (z := y14_) hown (mvT hZ (hw _ (tm 50 rfl))) (mvT hZ (hw _ (tm 51 rfl))) (notFace_of_selects (args := #[]) (mvT hZ (hw _ (tm 53 rfl)))) (mvT hZ (hw _ (tm 53 rfl))) (mvT hZ (hw _ (tm 52 rfl))) (by decide) (backOf (W := 0) (rm_add1_2 l Z a0 hw [] b15 c27 (((0 : Int32) + (1 : Int32)) + (1 : Int32)) b21_0 kb21_1 c19 c23 h27 n0 (ltr (ltr (ltr (ltr (ltr (ltr (ltr (ltr (ltr (ltr (ltr (ltr (ltr (ltr Z0 K1.1) K3.1) K5.1) K7.1) E9.1) K11.1) K13.1) E15.1) K17.1) E19.1) K21.1) E23.1) K25.1) E27.1) (P25_0.ext E27) (P25_1.ext E27) (P25_2.ext E27) (P25_3.ext E27) (P25_4.ext E27) P21_6 P27_0 g_b15 g_b21_0 (Nat.ne_of_lt (Nat.lt_of_lt_of_le A15.lt (ltr K17.1 (ltr E19.1 yb21_0))))) hZ (hw _ (tm 54 rfl)) (hw _ (tm 28 rfl)) (by decide) (by decide)) q29a q29c (g := (mkF m 120 #[iv p1, iv p2, iv p3, iv p4, iv p5, iv p6, iv (1 : Int32), rv b1_0, rv b3_0, rv b5_0, rv b7_0, rv b9, rv b15, .unset, .unset, .unset, .unset] [(.ref c27), (.ref b15)])) rfl (by rw [hml]; rfl) (Steps.refl _) (argsL := [(.ref c27)]) (rest := []) (lenOf pd__Ljava_lang_Object__Z rfl) rfl (by show 2 * 0 + _ ≤ _; exact Nat.le_of_eq rfl) (hb hby at_120) (fun _ _ => ⟨rfl, e27, (by decide : 34 + 0 ≤ _), (by decide : 242 + 0 ≤ _)⟩)
    dsimp only [Pt.U, Pt.locs, Pt.cells, Pt.slots] at X29 l29 y29 z29 st29 hQ29
    subst l29 y29 z29
    obtain ⟨rfl, N29q, K29, P29_0, P29_1, P29_2, P29_3, P29_4⟩ := hQ29
    have C30 := C28.trans (CHr.keep K29 (allS (Safe.exa hZ.alike (P25_0.ext E27) (by decide) (by decide)) (allS (own_safeV hZ.alike (P25_4.ext E27) (by decide)) all0)) C28.1)
    have N29 := Fr.app N25 N29q
    refine own_go ?_ (fun _ hr => st29.trans (XS.pop X29.here hx rfl (hb hby at_123) rfl rfl (XS.aload X29.here hx rfl (hb hby at_124) rfl rfl hr)))
    show own_H (T29.setTop (mkF m 126 #[iv p1, iv p2, iv p3, iv p4, iv p5, iv p6, iv (1 : Int32), rv b1_0, rv b3_0, rv b5_0, rv b7_0, rv b9, rv b15, .unset, .unset, .unset, .unset] [(.ref b15)]))
    obtain ⟨c31, T31, h31, k31, d31, kd31, X31, e31, E31, hS31, hk31, hZ, hown, P31_0, P31_1, P31_2, P31_3, lc31, ld31, H31c, L31, hne31, st31⟩ := ldcCH (s := s) (vm0 := T27.vm) X29 hx hZ hown (hw _ (tm 84 rfl)) wS rfl hS27 (ltr hk27 K29.1) hEL (List.mem_of_getElem? (i := 3) rfl) C30.1 (vs := [(.int (104 : Int32)), (.int (101 : Int32)), (.int (97 : Int32)), (.int (100 : Int32)), (.int (101 : Int32)), (.int (114 : Int32)), (.int (45 : Int32)), (.int (110 : Int32)), (.int (97 : Int32)), (.int (109 : Int32)), (.int (101 : Int32)), (.int (45 : Int32)), (.int (51 : Int32))]) (z := (13 : Int32)) ⟨by decide, rfl⟩ (by decide) rfl (g := (mkF m 126 #[iv p1, iv p2, iv p3, iv p4, iv p5, iv p6, iv (1 : Int32), rv b1_0, rv b3_0, rv b5_0, rv b7_0, rv b9, rv b15, .unset, .unset, .unset, .unset] [(.ref b15)])) rfl (hb hby at_126) (n := 52) (by decide) (by decide) (by decide) (by decide)
    have C32 := C30.trans H31c
    refine own_go ?_ (fun _ hr => st31 _ hr)
    show own_H (T31.setTop (mkF m 128 #[iv p1, iv p2, iv p3, iv p4, iv p5, iv p6, iv (1 : Int32), rv b1_0, rv b3_0, rv b5_0, rv b7_0, rv b9, rv b15, .unset, .unset, .unset, .unset] [(.ref c31), (.ref b15)]))
    obtain ⟨cq33, kq33, q33a, q33b, q33c⟩ := isOf hZ e31 (P29_0.ext E31)
    obtain ⟨_, _, ⟨T33, L33, k33, n33⟩, -, X33, ⟨Lc33, hQ33, l33, y33, z33⟩, st33⟩ := X31.virtualBack hx (y := y14_) (z := y14_) hown (mvT hZ (hw _ (tm 50 rfl))) (mvT hZ (hw _ (tm 51 rfl))) (notFace_of_selects (args := #[]) (mvT hZ (hw _ (tm 53 rfl)))) (mvT hZ (hw _ (tm 53 rfl))) (mvT hZ (hw _ (tm 52 rfl))) (by decide) (backOf (W := 0) (rm_add1_3 l Z a0 hw [] b15 c31 ((((0 : Int32) + (1 : Int32)) + (1 : Int32)) + (1 : Int32)) b21_0 kb21_1 c19 c23 c27 h31 n0 (ltr (ltr (ltr (ltr (ltr (ltr (ltr (ltr (ltr (ltr (ltr (ltr (ltr (ltr (ltr (ltr Z0 K1.1) K3.1) K5.1) K7.1) E9.1) K11.1) K13.1) E15.1) K17.1) E19.1) K21.1) E23.1) K25.1) E27.1) K29.1) E31.1) (P29_0.ext E31) (P29_1.ext E31) (P29_2.ext E31) (P29_3.ext E31) (P29_4.ext E31) P21_6 P31_0 g_b15 g_b21_0 (Nat.ne_of_lt (Nat.lt_of_lt_of_le A15.lt (ltr K17.1 (ltr E19.1 yb21_0))))) hZ (hw _ (tm 54 rfl)) (hw _ (tm 28 rfl)) (by decide) (by decide)) q33a q33c (g := (mkF m 128 #[iv p1, iv p2, iv p3, iv p4, iv p5, iv p6, iv (1 : Int32), rv b1_0, rv b3_0, rv b5_0, rv b7_0, rv b9, rv b15, .unset, .unset, .unset, .unset] [(.ref c31), (.ref b15)])) rfl (by rw [hml]; rfl) (Steps.refl _) (argsL := [(.ref c31)]) (rest := []) (lenOf pd__Ljava_lang_Object__Z rfl) rfl (by show 2 * 0 + _ ≤ _; exact Nat.le_of_eq rfl) (hb hby at_128) (fun _ _ => ⟨rfl, e31, (by decide : 36 + 0 ≤ _), (by decide : 298 + 0 ≤ _)⟩)
    dsimp only [Pt.U, Pt.locs, Pt.cells, Pt.slots] at X33 l33 y33 z33 st33 hQ33
    subst l33 y33 z33
    obtain ⟨rfl, N33q, K33, P33_0, P33_1, P33_2, P33_3, P33_4⟩ := hQ33
    have C34 := C32.trans (CHr.keep K33 (allS (Safe.exa hZ.alike (P29_0.ext E31) (by decide) (by decide)) (allS (own_safeV hZ.alike (P29_4.ext E31) (by decide)) all0)) C32.1)
    have N33 := Fr.app N29 N33q
    refine own_go ?_ (fun _ hr => st33.trans (XS.pop X33.here hx rfl (hb hby at_131) rfl rfl hr))
    show own_H (T33.setTop (mkF m 132 #[iv p1, iv p2, iv p3, iv p4, iv p5, iv p6, iv (1 : Int32), rv b1_0, rv b3_0, rv b5_0, rv b7_0, rv b9, rv b15, .unset, .unset, .unset, .unset] []))
    obtain ⟨T35, h35, X35, e35, E35, A35, D35, -, st35⟩ := newO X33 hx hZ hown (hw _ (tm 85 rfl)) (hw _ (tm 86 rfl)) (hw _ (tm 87 rfl)) rfl (g := (mkF m 132 #[iv p1, iv p2, iv p3, iv p4, iv p5, iv p6, iv (1 : Int32), rv b1_0, rv b3_0, rv b5_0, rv b7_0, rv b9, rv b15, .unset, .unset, .unset, .unset] [])) rfl (hb hby at_132) (by decide) (by decide)
    obtain ⟨b35, g35⟩ : ∃ z, z = T33.heap.size := ⟨_, rfl⟩
    rw [← g35] at A35 D35 st35
    have g_b35 : n0 ≤ b35 := ltr (ltr (ltr (ltr (ltr (ltr (ltr (ltr (ltr (ltr (ltr (ltr (ltr (ltr (ltr (ltr (ltr (ltr Z0 K1.1) K3.1) K5.1) K7.1) E9.1) K11.1) K13.1) E15.1) K17.1) E19.1) K21.1) E23.1) K25.1) E27.1) K29.1) E31.1) K33.1) (leq g35.symm)
    have C36 := C34.trans (CHr.ext E35 C34.1)
    have F35_93 : Fld Z h35 b35 "java/util/AbstractList" "modCount" "I" (.int (0 : Int32)) := D35 (Or.inl (hw _ (tm 93 rfl))) (ty := .int) (by decide)
    have F35_181 : Fld Z h35 b35 "com/example/ninkasi/ninkasi/csv/CsvRecord" "fields" "Ljava/util/List;" .null := D35 (Or.inr (hw _ (tm 181 rfl))) (ty := (.object "java/util/List")) (by decide)
    have F35_202 : Fld Z h35 b35 "com/example/ninkasi/ninkasi/csv/CsvRecord" "fieldNames" "Ljava/util/List;" .null := D35 (Or.inr (hw _ (tm 202 rfl))) (ty := (.object "java/util/List")) (by decide)
    refine own_go ?_ (fun _ hr => st35 _ (XS.dup X35.here hx rfl (hb hby at_135) rfl rfl (XS.aload X35.here hx rfl (hb hby at_136) rfl rfl (XS.aload X35.here hx rfl (hb hby at_138) rfl rfl hr))))
    show own_H (T35.setTop (mkF m 140 #[iv p1, iv p2, iv p3, iv p4, iv p5, iv p6, iv (1 : Int32), rv b1_0, rv b3_0, rv b5_0, rv b7_0, rv b9, rv b15, .unset, .unset, .unset, .unset] [(.ref b15), (.ref b9), (.ref b35), (.ref b35)]))
    have ne_b9_b15 : b9 ≠ b15 := Nat.ne_of_lt (Nat.lt_of_lt_of_le A9.lt (ltr K11.1 (ltr K13.1 (leq g15.symm))))
    have ne_b9_b21_0 : b9 ≠ b21_0 := Nat.ne_of_lt (Nat.lt_of_lt_of_le A9.lt (ltr K11.1 (ltr K13.1 (ltr E15.1 (ltr K17.1 (ltr E19.1 yb21_0))))))
    have ne_b13_0_b21_0 : b13_0 ≠ b21_0 := Nat.ne_of_lt (Nat.lt_of_lt_of_le P13_4.lt (ltr E15.1 (ltr K17.1 (ltr E19.1 yb21_0))))
    have ne_b9_b35 : b9 ≠ b35 := Nat.ne_of_lt (Nat.lt_of_lt_of_le A9.lt (ltr K11.1 (ltr K13.1 (ltr E15.1 (ltr K17.1 (ltr E19.1 (ltr K21.1 (ltr E23.1 (ltr K25.1 (ltr E27.1 (ltr K29.1 (ltr E31.1 (ltr K33.1 (leq g35.symm))))))))))))))
    have ne_b15_b35 : b15 ≠ b35 := Nat.ne_of_lt (Nat.lt_of_lt_of_le A15.lt (ltr K17.1 (ltr E19.1 (ltr K21.1 (ltr E23.1 (ltr K25.1 (ltr E27.1 (ltr K29.1 (ltr E31.1 (ltr K33.1 (leq g35.symm)))))))))))
    have ne_b13_0_b35 : b13_0 ≠ b35 := Nat.ne_of_lt (Nat.lt_of_lt_of_le P13_4.lt (ltr E15.1 (ltr K17.1 (ltr E19.1 (ltr K21.1 (ltr E23.1 (ltr K25.1 (ltr E27.1 (ltr K29.1 (ltr E31.1 (ltr K33.1 (leq g35.symm))))))))))))
    have ne_b21_0_b35 : b21_0 ≠ b35 := Nat.ne_of_lt (Nat.lt_of_lt_of_le P21_4.lt (ltr E23.1 (ltr K25.1 (ltr E27.1 (ltr K29.1 (ltr E31.1 (ltr K33.1 (leq g35.symm))))))))
    obtain ⟨_, _, ⟨T37, L37, k37, n37⟩, -, X37, ⟨Lc37, hQ37, l37, y37, z37⟩, st37⟩ := X35.specialBack hx (y := y32_) rfl hown (mvT hZ (hw _ (tm 88 rfl))) (mvT hZ (hw _ (tm 89 rfl))) (mvT hZ (hw _ (tm 90 rfl))) (by decide) (backOf (W := 1) (rm_rec_1 l Z a0 hw [] b35 b9 b15 (.int (0 : Int32)) (.null) (.null) b13_0 kb13_1 b21_0 kb21_1 mO b1_0 c19 c23 c27 c31 wM h35 n0 (ltr (ltr (ltr (ltr (ltr (ltr (ltr (ltr (ltr (ltr (ltr (ltr (ltr (ltr (ltr (ltr (ltr (ltr Z0 K1.1) K3.1) K5.1) K7.1) E9.1) K11.1) K13.1) E15.1) K17.1) E19.1) K21.1) E23.1) K25.1) E27.1) K29.1) E31.1) K33.1) E35.1) A35 F35_93 F35_181 F35_202 g_b35 (((((((((((P13_0.ext E15).keep K17).ext E19).keep K21).ext E23).keep K25).ext E27).keep K29).ext E31).keep K33).ext E35) (((((((((((P13_2.ext E15).keep K17 (ninS ne_b9_b15 nin0)).ext E19).keep K21 (ninS ne_b9_b15 nin0)).ext E23).keep K25 (ninS ne_b9_b15 (ninS ne_b9_b21_0 nin0))).ext E27).keep K29 (ninS ne_b9_b15 (ninS ne_b9_b21_0 nin0))).ext E31).keep K33 (ninS ne_b9_b15 (ninS ne_b9_b21_0 nin0))).ext E35) (((((((((((P13_3.ext E15).keep K17 (ninS ne_b9_b15 nin0)).ext E19).keep K21 (ninS ne_b9_b15 nin0)).ext E23).keep K25 (ninS ne_b9_b15 (ninS ne_b9_b21_0 nin0))).ext E27).keep K29 (ninS ne_b9_b15 (ninS ne_b9_b21_0 nin0))).ext E31).keep K33 (ninS ne_b9_b15 (ninS ne_b9_b21_0 nin0))).ext E35) (((((((((((P13_4.ext E15).keep K17 (ninS (Nat.ne_of_lt (Nat.lt_of_lt_of_le P13_4.lt (leq g15.symm))) nin0)).ext E19).keep K21 (ninS (Nat.ne_of_lt (Nat.lt_of_lt_of_le P13_4.lt (leq g15.symm))) nin0)).ext E23).keep K25 (ninS (Nat.ne_of_lt (Nat.lt_of_lt_of_le P13_4.lt (leq g15.symm))) (ninS ne_b13_0_b21_0 nin0))).ext E27).keep K29 (ninS (Nat.ne_of_lt (Nat.lt_of_lt_of_le P13_4.lt (leq g15.symm))) (ninS ne_b13_0_b21_0 nin0))).ext E31).keep K33 (ninS (Nat.ne_of_lt (Nat.lt_of_lt_of_le P13_4.lt (leq g15.symm))) (ninS ne_b13_0_b21_0 nin0))).ext E35) (((((((((((P13_5.ext E15).keep K17).ext E19).keep K21).ext E23).keep K25).ext E27).keep K29).ext E31).keep K33).ext E35) (((((((((((((((((P1_0.keep K3).keep K5).keep K7).ext E9).keep K11).keep K13).ext E15).keep K17).ext E19).keep K21).ext E23).keep K25).ext E27).keep K29).ext E31).keep K33).ext E35) mir_mO (P33_0.ext E35) (P33_2.ext E35) (P33_3.ext E35) (P33_4.ext E35) (((((((P21_5.ext E23).keep K25).ext E27).keep K29).ext E31).keep K33).ext E35) ((((((((P19_0.keep K21).ext E23).keep K25).ext E27).keep K29).ext E31).keep K33).ext E35) ((((((P23_0.keep K25).ext E27).keep K29).ext E31).keep K33).ext E35) ((((P27_0.keep K29).ext E31).keep K33).ext E35) ((P31_0.keep K33).ext E35) ((((((((((((((((((hold.keep K1 all0).keep K3 all0).keep K5 all0).keep K7 all0).ext E9).keep K11 (allS g_b9 all0)).keep K13 (allS g_b9 all0)).ext E15).keep K17 (allS g_b15 all0)).ext E19).keep K21 (allS g_b15 all0)).ext E23).keep K25 (allS g_b15 (allS g_b21_0 all0))).ext E27).keep K29 (allS g_b15 (allS g_b21_0 all0))).ext E31).keep K33 (allS g_b15 (allS g_b21_0 all0))).ext E35) S_EMPTY ne_b9_b35 ne_b15_b35 ne_b13_0_b35 ne_b21_0_b35) hZ (hw _ (tm 90 rfl)) (hw _ (tm 87 rfl)) (by decide) (by decide)) (g := (mkF m 140 #[iv p1, iv p2, iv p3, iv p4, iv p5, iv p6, iv (1 : Int32), rv b1_0, rv b3_0, rv b5_0, rv b7_0, rv b9, rv b15, .unset, .unset, .unset, .unset] [(.ref b15), (.ref b9), (.ref b35), (.ref b35)])) rfl (by rw [hml]; rfl) (Steps.refl _) (a := b35) (argsL := [(.ref b9), (.ref b15)]) (rest := [(.ref b35)]) (lenOf pd__Ljava_util_List_Ljava_util_List__V rfl) rfl (by show 2 * 0 + _ ≤ _; exact Nat.le_of_eq rfl) (hb hby at_140) (fun _ _ => ⟨rfl, e35, (by decide : 37 + 5 ≤ _), (by decide : 301 + 13 ≤ _)⟩)
    dsimp only [Pt.U, Pt.locs, Pt.cells, Pt.slots] at X37 l37 y37 z37 st37 hQ37
    subst l37 y37 z37
    obtain ⟨b37_0, rfl, N37q, K37, yb37_0, P37_0, P37_1, P37_2, P37_3, P37_4⟩ := hQ37
    have g_b37_0 : n0 ≤ b37_0 := ltr (ltr (ltr (ltr (ltr (ltr (ltr (ltr (ltr (ltr (ltr (ltr (ltr (ltr (ltr (ltr (ltr (ltr (ltr Z0 K1.1) K3.1) K5.1) K7.1) E9.1) K11.1) K13.1) E15.1) K17.1) E19.1) K21.1) E23.1) K25.1) E27.1) K29.1) E31.1) K33.1) E35.1) yb37_0
    have C38 := C36.trans (CHr.keep K37 (allS (Safe.exa hZ.alike A35 (by decide) (by decide)) all0) C36.1)
    have N37 := Fr.app N33 N37q
    refine own_go ?_ (fun _ hr => st37.trans (XS.astore X37.here hx rfl (hb hby at_143) rfl rfl (l' := #[iv p1, iv p2, iv p3, iv p4, iv p5, iv p6, iv (1 : Int32), rv b1_0, rv b3_0, rv b5_0, rv b7_0, rv b9, rv b15, rv b35, .unset, .unset, .unset]) rfl (XS.iload X37.here hx rfl (hb hby at_145) rfl (X37.ldcI hx hown (mvT hZ (hw _ (tm 203 rfl))) rfl (hb hby at_147) (XS.iand X37.here hx rfl (hb hby at_149) rfl (XS.iload X37.here hx rfl (hb hby at_150) rfl (iremM X37 hx rfl (hb hby at_152) rfl (by decide) hr)))))))
    show own_H (T37.setTop (mkF m 153 #[iv p1, iv p2, iv p3, iv p4, iv p5, iv p6, iv (1 : Int32), rv b1_0, rv b3_0, rv b5_0, rv b7_0, rv b9, rv b15, rv b35, .unset, .unset, .unset] [(.int ((p6 &&& (2147483647 : Int32)) % (1 : Int32)))]))
    rcases own_md1 p6 with hs153_0
    ·
      rw [hs153_0]
      show own_H (T37.setTop (mkF m 153 #[iv p1, iv p2, iv p3, iv p4, iv p5, iv p6, iv (1 : Int32), rv b1_0, rv b3_0, rv b5_0, rv b7_0, rv b9, rv b15, rv b35, .unset, .unset, .unset] [(.int (0 : Int32))]))
      refine own_go ?_ (fun _ hr => XS.istore X37.here hx rfl (hb hby at_153) rfl (l' := #[iv p1, iv p2, iv p3, iv p4, iv p5, iv p6, iv (1 : Int32), rv b1_0, rv b3_0, rv b5_0, rv b7_0, rv b9, rv b15, rv b35, iv (0 : Int32), .unset, .unset]) rfl (XS.iload X37.here hx rfl (hb hby at_155) rfl (XS.ifNo X37.here hx rfl (hb hby at_157) rfl ((if0 _ _).trans (teq (by decide : (0 : Int32) = (0 : Int32))).2) (XS.aload X37.here hx rfl (hb hby at_160) rfl rfl (XS.astore X37.here hx rfl (hb hby at_162) rfl rfl (l' := #[iv p1, iv p2, iv p3, iv p4, iv p5, iv p6, iv (1 : Int32), rv b1_0, rv b3_0, rv b5_0, rv b7_0, rv b9, rv b15, rv b35, iv (0 : Int32), rv b1_0, .unset]) rfl (XS.goto X37.here hx rfl (pc0 := 164) (pc' := 197) rfl (hb hby at_164) (by decide) (by decide) (XS.aload X37.here hx rfl (hb hby at_197) rfl rfl (XS.iload X37.here hx rfl (hb hby at_199) rfl hr))))))))
      show own_H (T37.setTop (mkF m 201 #[iv p1, iv p2, iv p3, iv p4, iv p5, iv p6, iv (1 : Int32), rv b1_0, rv b3_0, rv b5_0, rv b7_0, rv b9, rv b15, rv b35, iv (0 : Int32), rv b1_0, .unset] [(.int (0 : Int32)), (.ref b35)]))
      obtain ⟨cq39, kq39, q39a, q39b, q39c⟩ := isOf hZ rfl P37_0
      obtain ⟨_, _, ⟨T39, L39, k39, n39⟩, -, X39, ⟨Lc39, hQ39, l39, y39, z39⟩, st39⟩ := X37.virtualBack hx (y := y34_) (z := y34_) hown (mvT hZ (hw _ (tm 204 rfl))) (mvT hZ (hw _ (tm 205 rfl))) (notFace_of_selects (args := #[]) (mvT hZ (hw _ (tm 207 rfl)))) (mvT hZ (hw _ (tm 207 rfl))) (mvT hZ (hw _ (tm 206 rfl))) (by decide) (backOf (W := 0) (rm_rget_1_0 l Z a0 hw [] b35 b37_0 b1_0 wM T37.heap n0 (ltr (ltr (ltr (ltr (ltr (ltr (ltr (ltr (ltr (ltr (ltr (ltr (ltr (ltr (ltr (ltr (ltr (ltr (ltr Z0 K1.1) K3.1) K5.1) K7.1) E9.1) K11.1) K13.1) E15.1) K17.1) E19.1) K21.1) E23.1) K25.1) E27.1) K29.1) E31.1) K33.1) E35.1) K37.1) P37_1 P37_2 P37_3 P37_4 (((((((((((((((((((hold.keep K1 all0).keep K3 all0).keep K5 all0).keep K7 all0).ext E9).keep K11 (allS g_b9 all0)).keep K13 (allS g_b9 all0)).ext E15).keep K17 (allS g_b15 all0)).ext E19).keep K21 (allS g_b15 all0)).ext E23).keep K25 (allS g_b15 (allS g_b21_0 all0))).ext E27).keep K29 (allS g_b15 (allS g_b21_0 all0))).ext E31).keep K33 (allS g_b15 (allS g_b21_0 all0))).ext E35).keep K37 (allS g_b35 all0)) S_EMPTY ((((((((((((((((((P1_0.keep K3).keep K5).keep K7).ext E9).keep K11).keep K13).ext E15).keep K17).ext E19).keep K21).ext E23).keep K25).ext E27).keep K29).ext E31).keep K33).ext E35).keep K37)) hZ (hw _ (tm 208 rfl)) (hw _ (tm 87 rfl)) (by decide) (by decide)) q39a q39c (g := (mkF m 201 #[iv p1, iv p2, iv p3, iv p4, iv p5, iv p6, iv (1 : Int32), rv b1_0, rv b3_0, rv b5_0, rv b7_0, rv b9, rv b15, rv b35, iv (0 : Int32), rv b1_0, .unset] [(.int (0 : Int32)), (.ref b35)])) rfl (by rw [hml]; rfl) (Steps.refl _) (argsL := [(.int (0 : Int32))]) (rest := []) (lenOf pd__I_Ljava_lang_String_ rfl) rfl (by show 2 * 0 + _ ≤ _; exact Nat.le_of_eq rfl) (hb hby at_201) (fun _ _ => ⟨rfl, rfl, (by decide : 42 + 0 ≤ _), (by decide : 314 + 0 ≤ _)⟩)
      dsimp only [Pt.U, Pt.locs, Pt.cells, Pt.slots] at X39 l39 y39 z39 st39 hQ39
      subst l39 y39 z39
      obtain ⟨rfl, N39q, e39⟩ := hQ39
      have N39 := Fr.app N37 N39q
      refine own_go ?_ (fun _ hr => st39.trans (XS.astore X39.here hx rfl (hb hby at_204) rfl rfl (l' := #[iv p1, iv p2, iv p3, iv p4, iv p5, iv p6, iv (1 : Int32), rv b1_0, rv b3_0, rv b5_0, rv b7_0, rv b9, rv b15, rv b35, iv (0 : Int32), rv b1_0, rv b1_0]) rfl (XS.aload X39.here hx rfl (hb hby at_206) rfl rfl (XS.ifnullNo X39.here hx rfl (hb hby at_208) rfl (XS.aload X39.here hx rfl (hb hby at_211) rfl rfl (XS.aload X39.here hx rfl (hb hby at_213) rfl rfl hr))))))
      show own_H (T39.setTop (mkF m 215 #[iv p1, iv p2, iv p3, iv p4, iv p5, iv p6, iv (1 : Int32), rv b1_0, rv b3_0, rv b5_0, rv b7_0, rv b9, rv b15, rv b35, iv (0 : Int32), rv b1_0, rv b1_0] [(.ref b1_0), (.ref b1_0)]))
      obtain ⟨cq40, kq40, q40a, q40b, q40c⟩ := isOf hZ e39 ((((((((((((((((((P1_0.keep K3).keep K5).keep K7).ext E9).keep K11).keep K13).ext E15).keep K17).ext E19).keep K21).ext E23).keep K25).ext E27).keep K29).ext E31).keep K33).ext E35).keep K37)
      obtain ⟨_, _, ⟨T40, L40, k40, n40⟩, -, X40, ⟨Lc40, hQ40, l40, y40, z40⟩, st40⟩ := X39.virtualBack hx (y := y37_) (z := y37_) hown (mvT hZ (hw _ (tm 219 rfl))) (mvT hZ (hw _ (tm 220 rfl))) (notFace_of_selects (args := #[]) (mvT hZ (hw _ (tm 222 rfl)))) (mvT hZ (hw _ (tm 222 rfl))) (mvT hZ (hw _ (tm 221 rfl))) (by decide) (backOf (W := 0) (rm_eq l Z a0 hw [] b1_0 T37.heap n0 (ltr (ltr (ltr (ltr (ltr (ltr (ltr (ltr (ltr (ltr (ltr (ltr (ltr (ltr (ltr (ltr (ltr (ltr (ltr Z0 K1.1) K3.1) K5.1) K7.1) E9.1) K11.1) K13.1) E15.1) K17.1) E19.1) K21.1) E23.1) K25.1) E27.1) K29.1) E31.1) K33.1) E35.1) K37.1) ) hZ (hw _ (tm 223 rfl)) (hw _ (tm 6 rfl)) (by decide) (by decide)) q40a q40c (g := (mkF m 215 #[iv p1, iv p2, iv p3, iv p4, iv p5, iv p6, iv (1 : Int32), rv b1_0, rv b3_0, rv b5_0, rv b7_0, rv b9, rv b15, rv b35, iv (0 : Int32), rv b1_0, rv b1_0] [(.ref b1_0), (.ref b1_0)])) rfl (by rw [hml]; rfl) (Steps.refl _) (argsL := [(.ref b1_0)]) (rest := []) (lenOf pd__Ljava_lang_Object__Z rfl) rfl (by show 2 * 0 + _ ≤ _; exact Nat.le_of_eq rfl) (hb hby at_215) (fun _ _ => ⟨rfl, e39, (by decide : 42 + 0 ≤ _), (by decide : 314 + 0 ≤ _)⟩)
      dsimp only [Pt.U, Pt.locs, Pt.cells, Pt.slots] at X40 l40 y40 z40 st40 hQ40
      subst l40 y40 z40
      obtain ⟨rfl, N40q, e40⟩ := hQ40
      have N40 := Fr.app N39 N40q
      refine own_go ?_ (fun _ hr => st40.trans (XS.ifNo X40.here hx rfl (hb hby at_218) rfl ((if0 _ _).trans (feq (by decide : ¬ ((1 : Int32) = (0 : Int32)))).1) (XS.iconst X40.here hx rfl (hb hby at_221) (XS.goto X40.here hx rfl (pc0 := 222) (pc' := 226) rfl (hb hby at_222) (by decide) (by decide) hr))))
      show own_H (T40.setTop (mkF m 226 #[iv p1, iv p2, iv p3, iv p4, iv p5, iv p6, iv (1 : Int32), rv b1_0, rv b3_0, rv b5_0, rv b7_0, rv b9, rv b15, rv b35, iv (0 : Int32), rv b1_0, rv b1_0] [(.int (1 : Int32))]))
      obtain ⟨fs, hr, hrun, hended, hRW⟩ := Stand.leaveW (s := s) (vm₁ := T31.vm) X40 hS31 (by rw [e40]; exact (ltr (ltr (ltr hk31 K33.1) E35.1) K37.1)) (v := some (.int (1 : Int32))) (fun h => by rw [Bd.returns] at h; cases h)
      have hCe := C38.trans (CHv.at (s := s) (vm0 := T31.vm) X40 hZ hEL C38.1)
      exact ⟨_, _, retN X40 hx (t := .boolean) Bd.returns (by simp) (hb hby at_226) hr, hrun, hended, _, _, rfl, ⟨rfl, N40, trivial⟩, (by rw [hh, show (T40.setFrames fs).heap = T37.heap from e40]; exact hCe), hRW.1, hRW.2.1, hRW.2.2.1, hRW.2.2.2.mono (by decide) (by decide)⟩
  ·
    rw [hs51_1]
    show own_H (T13.setTop (mkF m 51 #[iv p1, iv p2, iv p3, iv p4, iv p5, iv p6, iv (2 : Int32), rv b1_0, rv b3_0, rv b5_0, rv b7_0, rv b9, .unset, .unset, .unset, .unset, .unset] [(.int (2 : Int32))]))
    refine own_go ?_ (fun _ hr => XS.iconst X13.here hx rfl (hb hby at_51) (XS.icmpNo X13.here hx rfl (hb hby at_52) rfl (tlt (by decide : (1 : Int32) < (2 : Int32))).2.2.2 (XS.aload X13.here hx rfl (hb hby at_55) rfl rfl (XS.aload X13.here hx rfl (hb hby at_57) rfl rfl hr))))
    show own_H (T13.setTop (mkF m 59 #[iv p1, iv p2, iv p3, iv p4, iv p5, iv p6, iv (2 : Int32), rv b1_0, rv b3_0, rv b5_0, rv b7_0, rv b9, .unset, .unset, .unset, .unset, .unset] [(.ref b3_0), (.ref b9)]))
    obtain ⟨cq41, kq41, q41a, q41b, q41c⟩ := isOf hZ rfl P13_0
    obtain ⟨_, _, ⟨T41, L41, k41, n41⟩, -, X41, ⟨Lc41, hQ41, l41, y41, z41⟩, st41⟩ := X13.virtualBack hx (y := y14_) (z := y14_) hown (mvT hZ (hw _ (tm 50 rfl))) (mvT hZ (hw _ (tm 51 rfl))) (notFace_of_selects (args := #[]) (mvT hZ (hw _ (tm 53 rfl)))) (mvT hZ (hw _ (tm 53 rfl))) (mvT hZ (hw _ (tm 52 rfl))) (by decide) (backOf (W := 0) (rm_add1_1 l Z a0 hw [] b9 b3_0 ((0 : Int32) + (1 : Int32)) b13_0 kb13_1 b1_0 T13.heap n0 (ltr (ltr (ltr (ltr (ltr (ltr (ltr Z0 K1.1) K3.1) K5.1) K7.1) E9.1) K11.1) K13.1) P13_0 P13_1 P13_2 P13_3 P13_4 P13_6 (((((P3_0.keep K5).keep K7).ext E9).keep K11).keep K13) g_b9 g_b13_0 (Nat.ne_of_lt (Nat.lt_of_lt_of_le A9.lt (ltr K11.1 yb13_0)))) hZ (hw _ (tm 54 rfl)) (hw _ (tm 28 rfl)) (by decide) (by decide)) q41a q41c (g := (mkF m 59 #[iv p1, iv p2, iv p3, iv p4, iv p5, iv p6, iv (2 : Int32), rv b1_0, rv b3_0, rv b5_0, rv b7_0, rv b9, .unset, .unset, .unset, .unset, .unset] [(.ref b3_0), (.ref b9)])) rfl (by rw [hml]; rfl) (Steps.refl _) (argsL := [(.ref b3_0)]) (rest := []) (lenOf pd__Ljava_lang_Object__Z rfl) rfl (by show 2 * 0 + _ ≤ _; exact Nat.le_of_eq rfl) (hb hby at_59) (fun _ _ => ⟨rfl, rfl, (by decide : 26 + 0 ≤ _), (by decide : 61 + 0 ≤ _)⟩)
    dsimp only [Pt.U, Pt.locs, Pt.cells, Pt.slots] at X41 l41 y41 z41 st41 hQ41
    subst l41 y41 z41
    obtain ⟨rfl, N41q, K41, P41_0, P41_1, P41_2, P41_3, P41_4⟩ := hQ41
    have C42 := C14.trans (CHr.keep K41 (allS (Safe.exa hZ.alike P13_0 (by decide) (by decide)) (allS (own_safeV hZ.alike P13_4 (by decide)) all0)) C14.1)
    have N41 := Fr.app N13 N41q
    refine own_go ?_ (fun _ hr => st41.trans (XS.pop X41.here hx rfl (hb hby at_62) rfl rfl (XS.iload X41.here hx rfl (hb hby at_63) rfl (XS.iconst X41.here hx rfl (hb hby at_65) (XS.icmpYes X41.here hx rfl (pc0 := 66) (pc' := 77) rfl (hb hby at_66) rfl (flt (by decide : ¬ ((2 : Int32) < (2 : Int32)))).2.2.2 (by decide) (by decide) (XS.iload X41.here hx rfl (hb hby at_77) rfl (XS.iconst X41.here hx rfl (hb hby at_79) (XS.icmpYes X41.here hx rfl (pc0 := 80) (pc' := 91) rfl (hb hby at_80) rfl (flt (by decide : ¬ ((3 : Int32) < (2 : Int32)))).2.2.2 (by decide) (by decide) hr))))))))
    show own_H (T41.setTop (mkF m 91 #[iv p1, iv p2, iv p3, iv p4, iv p5, iv p6, iv (2 : Int32), rv b1_0, rv b3_0, rv b5_0, rv b7_0, rv b9, .unset, .unset, .unset, .unset, .unset] []))
    obtain ⟨T43, h43, X43, e43, E43, A43, D43, -, st43⟩ := newO X41 hx hZ hown (hw _ (tm 26 rfl)) (hw _ (tm 27 rfl)) (hw _ (tm 28 rfl)) rfl (g := (mkF m 91 #[iv p1, iv p2, iv p3, iv p4, iv p5, iv p6, iv (2 : Int32), rv b1_0, rv b3_0, rv b5_0, rv b7_0, rv b9, .unset, .unset, .unset, .unset, .unset] [])) rfl (hb hby at_91) (by decide) (by decide)
    obtain ⟨b43, g43⟩ : ∃ z, z = T41.heap.size := ⟨_, rfl⟩
    rw [← g43] at A43 D43 st43
    have g_b43 : n0 ≤ b43 := ltr (ltr (ltr (ltr (ltr (ltr (ltr (ltr (ltr Z0 K1.1) K3.1) K5.1) K7.1) E9.1) K11.1) K13.1) K41.1) (leq g43.symm)
    have C44 := C42.trans (CHr.ext E43 C42.1)
    have F43_46 : Fld Z h43 b43 "java/util/AbstractList" "modCount" "I" (.int (0 : Int32)) := D43 (Or.inl (hw _ (tm 46 rfl))) (ty := .int) (by decide)
    have F43_49 : Fld Z h43 b43 "java/util/ArrayList" "elementData" "[Ljava/lang/Object;" .null := D43 (Or.inl (hw _ (tm 49 rfl))) (ty := (.array (.object "java/lang/Object"))) (by decide)
    have F43_58 : Fld Z h43 b43 "java/util/ArrayList" "size" "I" (.int (0 : Int32)) := D43 (Or.inl (hw _ (tm 58 rfl))) (ty := .int) (by decide)
    refine own_go ?_ (fun _ hr => st43 _ (XS.dup X43.here hx rfl (hb hby at_94) rfl rfl hr))
    show own_H (T43.setTop (mkF m 95 #[iv p1, iv p2, iv p3, iv p4, iv p5, iv p6, iv (2 : Int32), rv b1_0, rv b3_0, rv b5_0, rv b7_0, rv b9, .unset, .unset, .unset, .unset, .unset] [(.ref b43), (.ref b43)]))
    obtain ⟨_, _, ⟨T45, L45, k45, n45⟩, -, X45, ⟨Lc45, hQ45, l45, y45, z45⟩, st45⟩ := X43.specialBack hx (y := y9_) rfl hown (mvT hZ (hw _ (tm 29 rfl))) (mvT hZ (hw _ (tm 30 rfl))) (mvT hZ (hw _ (tm 31 rfl))) (by decide) (backOf (W := 1) (rm5 l Z a0 hw [] b43 (.int (0 : Int32)) (.null) (.int (0 : Int32)) wE h43 n0 (ltr (ltr (ltr (ltr (ltr (ltr (ltr (ltr (ltr Z0 K1.1) K3.1) K5.1) K7.1) E9.1) K11.1) K13.1) K41.1) E43.1) A43 F43_46 F43_49 F43_58 g_b43 (((((((((hold.keep K1 all0).keep K3 all0).keep K5 all0).keep K7 all0).ext E9).keep K11 (allS g_b9 all0)).keep K13 (allS g_b9 all0)).keep K41 (allS g_b9 (allS g_b13_0 all0))).ext E43) S_DEFAULTCAPACITY_EMPTY_ELEMENTDATA) hZ (hw _ (tm 31 rfl)) (hw _ (tm 28 rfl)) (by decide) (by decide)) (g := (mkF m 95 #[iv p1, iv p2, iv p3, iv p4, iv p5, iv p6, iv (2 : Int32), rv b1_0, rv b3_0, rv b5_0, rv b7_0, rv b9, .unset, .unset, .unset, .unset, .unset] [(.ref b43), (.ref b43)])) rfl (by rw [hml]; rfl) (Steps.refl _) (a := b43) (argsL := []) (rest := [(.ref b43)]) (lenOf pd___V rfl) rfl (by show 2 * 0 + _ ≤ _; exact Nat.le_of_eq rfl) (hb hby at_95) (fun _ _ => ⟨rfl, e43, (by decide : 27 + 0 ≤ _), (by decide : 64 + 0 ≤ _)⟩)
    dsimp only [Pt.U, Pt.locs, Pt.cells, Pt.slots] at X45 l45 y45 z45 st45 hQ45
    subst l45 y45 z45
    obtain ⟨rfl, N45q, K45, P45_0, P45_1, P45_2, P45_3⟩ := hQ45
    have C46 := C44.trans (CHr.keep K45 (allS (Safe.exa hZ.alike A43 (by decide) (by decide)) all0) C44.1)
    have N45 := Fr.app N41 N45q
    refine own_go ?_ (fun _ hr => st45.trans (XS.astore X45.here hx rfl (hb hby at_98) rfl rfl (l' := #[iv p1, iv p2, iv p3, iv p4, iv p5, iv p6, iv (2 : Int32), rv b1_0, rv b3_0, rv b5_0, rv b7_0, rv b9, rv b43, .unset, .unset, .unset, .unset]) rfl (XS.aload X45.here hx rfl (hb hby at_100) rfl rfl hr)))
    show own_H (T45.setTop (mkF m 102 #[iv p1, iv p2, iv p3, iv p4, iv p5, iv p6, iv (2 : Int32), rv b1_0, rv b3_0, rv b5_0, rv b7_0, rv b9, rv b43, .unset, .unset, .unset, .unset] [(.ref b43)]))
    obtain ⟨c47, T47, h47, k47, d47, kd47, X47, e47, E47, hS47, hk47, hZ, hown, P47_0, P47_1, P47_2, P47_3, lc47, ld47, H47c, L47, hne47, st47⟩ := ldcCH (s := s) (vm0 := T7.vm) X45 hx hZ hown (hw _ (tm 81 rfl)) wS rfl hS7 (ltr (ltr (ltr (ltr (ltr (ltr (Nat.le_refl _) E9.1) K11.1) K13.1) K41.1) E43.1) K45.1) hEL (List.mem_of_getElem? (i := 0) rfl) C46.1 (vs := [(.int (104 : Int32)), (.int (101 : Int32)), (.int (97 : Int32)), (.int (100 : Int32)), (.int (101 : Int32)), (.int (114 : Int32)), (.int (45 : Int32)), (.int (110 : Int32)), (.int (97 : Int32)), (.int (109 : Int32)), (.int (101 : Int32)), (.int (45 : Int32)), (.int (48 : Int32))]) (z := (13 : Int32)) ⟨by decide, rfl⟩ (by decide) rfl (g := (mkF m 102 #[iv p1, iv p2, iv p3, iv p4, iv p5, iv p6, iv (2 : Int32), rv b1_0, rv b3_0, rv b5_0, rv b7_0, rv b9, rv b43, .unset, .unset, .unset, .unset] [(.ref b43)])) rfl (hb hby at_102) (n := 52) (by decide) (by decide) (by decide) (by decide)
    have C48 := C46.trans H47c
    refine own_go ?_ (fun _ hr => st47 _ hr)
    show own_H (T47.setTop (mkF m 104 #[iv p1, iv p2, iv p3, iv p4, iv p5, iv p6, iv (2 : Int32), rv b1_0, rv b3_0, rv b5_0, rv b7_0, rv b9, rv b43, .unset, .unset, .unset, .unset] [(.ref c47), (.ref b43)]))
    obtain ⟨cq49, kq49, q49a, q49b, q49c⟩ := isOf hZ e47 (P45_0.ext E47)
    obtain ⟨_, _, ⟨T49, L49, k49, n49⟩, -, X49, ⟨Lc49, hQ49, l49, y49, z49⟩, st49⟩ := X47.virtualBack hx (y := y14_) (z := y14_) hown (mvT hZ (hw _ (tm 50 rfl))) (mvT hZ (hw _ (tm 51 rfl))) (notFace_of_selects (args := #[]) (mvT hZ (hw _ (tm 53 rfl)))) (mvT hZ (hw _ (tm 53 rfl))) (mvT hZ (hw _ (tm 52 rfl))) (by decide) (backOf (W := 0) (rm_add1_0 l Z a0 hw [] b43 c47 (0 : Int32) wE kE h47 n0 (ltr (ltr (ltr (ltr (ltr (ltr (ltr (ltr (ltr (ltr (ltr Z0 K1.1) K3.1) K5.1) K7.1) E9.1) K11.1) K13.1) K41.1) E43.1) K45.1) E47.1) (P45_0.ext E47) (P45_1.ext E47) (P45_2.ext E47) (P45_3.ext E47) g_b43 (((((((((((hold.keep K1 all0).keep K3 all0).keep K5 all0).keep K7 all0).ext E9).keep K11 (allS g_b9 all0)).keep K13 (allS g_b9 all0)).keep K41 (allS g_b9 (allS g_b13_0 all0))).ext E43).keep K45 (allS g_b43 all0)).ext E47) S_DEFAULTCAPACITY_EMPTY_ELEMENTDATA V_wE P47_0) hZ (hw _ (tm 54 rfl)) (hw _ (tm 28 rfl)) (by decide) (by decide)) q49a q49c (g := (mkF m 104 #[iv p1, iv p2, iv p3, iv p4, iv p5, iv p6, iv (2 : Int32), rv b1_0, rv b3_0, rv b5_0, rv b7_0, rv b9, rv b43, .unset, .unset, .unset, .unset] [(.ref c47), (.ref b43)])) rfl (by rw [hml]; rfl) (Steps.refl _) (argsL := [(.ref c47)]) (rest := []) (lenOf pd__Ljava_lang_Object__Z rfl) rfl (by show 2 * 0 + _ ≤ _; exact Nat.le_of_eq rfl) (hb hby at_104) (fun _ _ => ⟨rfl, e47, (by decide : 29 + 1 ≤ _), (by decide : 120 + 10 ≤ _)⟩)
    dsimp only [Pt.U, Pt.locs, Pt.cells, Pt.slots] at X49 l49 y49 z49 st49 hQ49
    subst l49 y49 z49
    obtain ⟨b49_0, kb49_1, rfl, N49q, K49, yb49_0, P49_0, P49_1, P49_2, P49_3, P49_4, P49_5, P49_6⟩ := hQ49
    have g_b49_0 : n0 ≤ b49_0 := ltr (ltr (ltr (ltr (ltr (ltr (ltr (ltr (ltr (ltr (ltr (ltr Z0 K1.1) K3.1) K5.1) K7.1) E9.1) K11.1) K13.1) K41.1) E43.1) K45.1) E47.1) yb49_0
    have C50 := C48.trans (CHr.keep K49 (allS (Safe.exa hZ.alike (P45_0.ext E47) (by decide) (by decide)) all0) C48.1)
    have N49 := Fr.app N45 N49q
    refine own_go ?_ (fun _ hr => st49.trans (XS.pop X49.here hx rfl (hb hby at_107) rfl rfl (XS.aload X49.here hx rfl (hb hby at_108) rfl rfl hr)))
    show own_H (T49.setTop (mkF m 110 #[iv p1, iv p2, iv p3, iv p4, iv p5, iv p6, iv (2 : Int32), rv b1_0, rv b3_0, rv b5_0, rv b7_0, rv b9, rv b43, .unset, .unset, .unset, .unset] [(.ref b43)]))
    obtain ⟨c51, T51, h51, k51, d51, kd51, X51, e51, E51, hS51, hk51, hZ, hown, P51_0, P51_1, P51_2, P51_3, lc51, ld51, H51c, L51, hne51, st51⟩ := ldcCH (s := s) (vm0 := T47.vm) X49 hx hZ hown (hw _ (tm 82 rfl)) wS rfl hS47 (ltr hk47 K49.1) hEL (List.mem_of_getElem? (i := 1) rfl) C50.1 (vs := [(.int (104 : Int32)), (.int (101 : Int32)), (.int (97 : Int32)), (.int (100 : Int32)), (.int (101 : Int32)), (.int (114 : Int32)), (.int (45 : Int32)), (.int (110 : Int32)), (.int (97 : Int32)), (.int (109 : Int32)), (.int (101 : Int32)), (.int (45 : Int32)), (.int (49 : Int32))]) (z := (13 : Int32)) ⟨by decide, rfl⟩ (by decide) rfl (g := (mkF m 110 #[iv p1, iv p2, iv p3, iv p4, iv p5, iv p6, iv (2 : Int32), rv b1_0, rv b3_0, rv b5_0, rv b7_0, rv b9, rv b43, .unset, .unset, .unset, .unset] [(.ref b43)])) rfl (hb hby at_110) (n := 52) (by decide) (by decide) (by decide) (by decide)
    have C52 := C50.trans H51c
    refine own_go ?_ (fun _ hr => st51 _ hr)
    show own_H (T51.setTop (mkF m 112 #[iv p1, iv p2, iv p3, iv p4, iv p5, iv p6, iv (2 : Int32), rv b1_0, rv b3_0, rv b5_0, rv b7_0, rv b9, rv b43, .unset, .unset, .unset, .unset] [(.ref c51), (.ref b43)]))
    obtain ⟨cq53, kq53, q53a, q53b, q53c⟩ := isOf hZ e51 (P49_0.ext E51)
    obtain ⟨_, _, ⟨T53, L53, k53, n53⟩, -, X53, ⟨Lc53, hQ53, l53, y53, z53⟩, st53⟩ := X51.virtualBack hx (y := y14_) (z := y14_) hown (mvT hZ (hw _ (tm 50 rfl))) (mvT hZ (hw _ (tm 51 rfl))) (notFace_of_selects (args := #[]) (mvT hZ (hw _ (tm 53 rfl)))) (mvT hZ (hw _ (tm 53 rfl))) (mvT hZ (hw _ (tm 52 rfl))) (by decide) (backOf (W := 0) (rm_add1_1 l Z a0 hw [] b43 c51 ((0 : Int32) + (1 : Int32)) b49_0 kb49_1 c47 h51 n0 (ltr (ltr (ltr (ltr (ltr (ltr (ltr (ltr (ltr (ltr (ltr (ltr (ltr Z0 K1.1) K3.1) K5.1) K7.1) E9.1) K11.1) K13.1) K41.1) E43.1) K45.1) E47.1) K49.1) E51.1) (P49_0.ext E51) (P49_1.ext E51) (P49_2.ext E51) (P49_3.ext E51) (P49_4.ext E51) P49_6 P51_0 g_b43 g_b49_0 (Nat.ne_of_lt (Nat.lt_of_lt_of_le A43.lt (ltr K45.1 (ltr E47.1 yb49_0))))) hZ (hw _ (tm 54 rfl)) (hw _ (tm 28 rfl)) (by decide) (by decide)) q53a q53c (g := (mkF m 112 #[iv p1, iv p2, iv p3, iv p4, iv p5, iv p6, iv (2 : Int32), rv b1_0, rv b3_0, rv b5_0, rv b7_0, rv b9, rv b43, .unset, .unset, .unset, .unset] [(.ref c51), (.ref b43)])) rfl (by rw [hml]; rfl) (Steps.refl _) (argsL := [(.ref c51)]) (rest := []) (lenOf pd__Ljava_lang_Object__Z rfl) rfl (by show 2 * 0 + _ ≤ _; exact Nat.le_of_eq rfl) (hb hby at_112) (fun _ _ => ⟨rfl, e51, (by decide : 32 + 0 ≤ _), (by decide : 186 + 0 ≤ _)⟩)
    dsimp only [Pt.U, Pt.locs, Pt.cells, Pt.slots] at X53 l53 y53 z53 st53 hQ53
    subst l53 y53 z53
    obtain ⟨rfl, N53q, K53, P53_0, P53_1, P53_2, P53_3, P53_4⟩ := hQ53
    have C54 := C52.trans (CHr.keep K53 (allS (Safe.exa hZ.alike (P49_0.ext E51) (by decide) (by decide)) (allS (own_safeV hZ.alike (P49_4.ext E51) (by decide)) all0)) C52.1)
    have N53 := Fr.app N49 N53q
    refine own_go ?_ (fun _ hr => st53.trans (XS.pop X53.here hx rfl (hb hby at_115) rfl rfl (XS.aload X53.here hx rfl (hb hby at_116) rfl rfl hr)))
    show own_H (T53.setTop (mkF m 118 #[iv p1, iv p2, iv p3, iv p4, iv p5, iv p6, iv (2 : Int32), rv b1_0, rv b3_0, rv b5_0, rv b7_0, rv b9, rv b43, .unset, .unset, .unset, .unset] [(.ref b43)]))
    obtain ⟨c55, T55, h55, k55, d55, kd55, X55, e55, E55, hS55, hk55, hZ, hown, P55_0, P55_1, P55_2, P55_3, lc55, ld55, H55c, L55, hne55, st55⟩ := ldcCH (s := s) (vm0 := T51.vm) X53 hx hZ hown (hw _ (tm 83 rfl)) wS rfl hS51 (ltr hk51 K53.1) hEL (List.mem_of_getElem? (i := 2) rfl) C54.1 (vs := [(.int (104 : Int32)), (.int (101 : Int32)), (.int (97 : Int32)), (.int (100 : Int32)), (.int (101 : Int32)), (.int (114 : Int32)), (.int (45 : Int32)), (.int (110 : Int32)), (.int (97 : Int32)), (.int (109 : Int32)), (.int (101 : Int32)), (.int (45 : Int32)), (.int (50 : Int32))]) (z := (13 : Int32)) ⟨by decide, rfl⟩ (by decide) rfl (g := (mkF m 118 #[iv p1, iv p2, iv p3, iv p4, iv p5, iv p6, iv (2 : Int32), rv b1_0, rv b3_0, rv b5_0, rv b7_0, rv b9, rv b43, .unset, .unset, .unset, .unset] [(.ref b43)])) rfl (hb hby at_118) (n := 52) (by decide) (by decide) (by decide) (by decide)
    have C56 := C54.trans H55c
    refine own_go ?_ (fun _ hr => st55 _ hr)
    show own_H (T55.setTop (mkF m 120 #[iv p1, iv p2, iv p3, iv p4, iv p5, iv p6, iv (2 : Int32), rv b1_0, rv b3_0, rv b5_0, rv b7_0, rv b9, rv b43, .unset, .unset, .unset, .unset] [(.ref c55), (.ref b43)]))
    obtain ⟨cq57, kq57, q57a, q57b, q57c⟩ := isOf hZ e55 (P53_0.ext E55)
    obtain ⟨_, _, ⟨T57, L57, k57, n57⟩, -, X57, ⟨Lc57, hQ57, l57, y57, z57⟩, st57⟩ := X55.virtualBack hx (y := y14_) (z := y14_) hown (mvT hZ (hw _ (tm 50 rfl))) (mvT hZ (hw _ (tm 51 rfl))) (notFace_of_selects (args := #[]) (mvT hZ (hw _ (tm 53 rfl)))) (mvT hZ (hw _ (tm 53 rfl))) (mvT hZ (hw _ (tm 52 rfl))) (by decide) (backOf (W := 0) (rm_add1_2 l Z a0 hw [] b43 c55 (((0 : Int32) + (1 : Int32)) + (1 : Int32)) b49_0 kb49_1 c47 c51 h55 n0 (ltr (ltr (ltr (ltr (ltr (ltr (ltr (ltr (ltr (ltr (ltr (ltr (ltr (ltr (ltr Z0 K1.1) K3.1) K5.1) K7.1) E9.1) K11.1) K13.1) K41.1) E43.1) K45.1) E47.1) K49.1) E51.1) K53.1) E55.1) (P53_0.ext E55) (P53_1.ext E55) (P53_2.ext E55) (P53_3.ext E55) (P53_4.ext E55) P49_6 P55_0 g_b43 g_b49_0 (Nat.ne_of_lt (Nat.lt_of_lt_of_le A43.lt (ltr K45.1 (ltr E47.1 yb49_0))))) hZ (hw _ (tm 54 rfl)) (hw _ (tm 28 rfl)) (by decide) (by decide)) q57a q57c (g := (mkF m 120 #[iv p1, iv p2, iv p3, iv p4, iv p5, iv p6, iv (2 : Int32), rv b1_0, rv b3_0, rv b5_0, rv b7_0, rv b9, rv b43, .unset, .unset, .unset, .unset] [(.ref c55), (.ref b43)])) rfl (by rw [hml]; rfl) (Steps.refl _) (argsL := [(.ref c55)]) (rest := []) (lenOf pd__Ljava_lang_Object__Z rfl) rfl (by show 2 * 0 + _ ≤ _; exact Nat.le_of_eq rfl) (hb hby at_120) (fun _ _ => ⟨rfl, e55, (by decide : 34 + 0 ≤ _), (by decide : 242 + 0 ≤ _)⟩)
    dsimp only [Pt.U, Pt.locs, Pt.cells, Pt.slots] at X57 l57 y57 z57 st57 hQ57
    subst l57 y57 z57
    obtain ⟨rfl, N57q, K57, P57_0, P57_1, P57_2, P57_3, P57_4⟩ := hQ57
    have C58 := C56.trans (CHr.keep K57 (allS (Safe.exa hZ.alike (P53_0.ext E55) (by decide) (by decide)) (allS (own_safeV hZ.alike (P53_4.ext E55) (by decide)) all0)) C56.1)
    have N57 := Fr.app N53 N57q
    refine own_go ?_ (fun _ hr => st57.trans (XS.pop X57.here hx rfl (hb hby at_123) rfl rfl (XS.aload X57.here hx rfl (hb hby at_124) rfl rfl hr)))
    show own_H (T57.setTop (mkF m 126 #[iv p1, iv p2, iv p3, iv p4, iv p5, iv p6, iv (2 : Int32), rv b1_0, rv b3_0, rv b5_0, rv b7_0, rv b9, rv b43, .unset, .unset, .unset, .unset] [(.ref b43)]))
    obtain ⟨c59, T59, h59, k59, d59, kd59, X59, e59, E59, hS59, hk59, hZ, hown, P59_0, P59_1, P59_2, P59_3, lc59, ld59, H59c, L59, hne59, st59⟩ := ldcCH (s := s) (vm0 := T55.vm) X57 hx hZ hown (hw _ (tm 84 rfl)) wS rfl hS55 (ltr hk55 K57.1) hEL (List.mem_of_getElem? (i := 3) rfl) C58.1 (vs := [(.int (104 : Int32)), (.int (101 : Int32)), (.int (97 : Int32)), (.int (100 : Int32)), (.int (101 : Int32)), (.int (114 : Int32)), (.int (45 : Int32)), (.int (110 : Int32)), (.int (97 : Int32)), (.int (109 : Int32)), (.int (101 : Int32)), (.int (45 : Int32)), (.int (51 : Int32))]) (z := (13 : Int32)) ⟨by decide, rfl⟩ (by decide) rfl (g := (mkF m 126 #[iv p1, iv p2, iv p3, iv p4, iv p5, iv p6, iv (2 : Int32), rv b1_0, rv b3_0, rv b5_0, rv b7_0, rv b9, rv b43, .unset, .unset, .unset, .unset] [(.ref b43)])) rfl (hb hby at_126) (n := 52) (by decide) (by decide) (by decide) (by decide)
    have C60 := C58.trans H59c
    refine own_go ?_ (fun _ hr => st59 _ hr)
    show own_H (T59.setTop (mkF m 128 #[iv p1, iv p2, iv p3, iv p4, iv p5, iv p6, iv (2 : Int32), rv b1_0, rv b3_0, rv b5_0, rv b7_0, rv b9, rv b43, .unset, .unset, .unset, .unset] [(.ref c59), (.ref b43)]))
    obtain ⟨cq61, kq61, q61a, q61b, q61c⟩ := isOf hZ e59 (P57_0.ext E59)
    obtain ⟨_, _, ⟨T61, L61, k61, n61⟩, -, X61, ⟨Lc61, hQ61, l61, y61, z61⟩, st61⟩ := X59.virtualBack hx (y := y14_) (z := y14_) hown (mvT hZ (hw _ (tm 50 rfl))) (mvT hZ (hw _ (tm 51 rfl))) (notFace_of_selects (args := #[]) (mvT hZ (hw _ (tm 53 rfl)))) (mvT hZ (hw _ (tm 53 rfl))) (mvT hZ (hw _ (tm 52 rfl))) (by decide) (backOf (W := 0) (rm_add1_3 l Z a0 hw [] b43 c59 ((((0 : Int32) + (1 : Int32)) + (1 : Int32)) + (1 : Int32)) b49_0 kb49_1 c47 c51 c55 h59 n0 (ltr (ltr (ltr (ltr (ltr (ltr (ltr (ltr (ltr (ltr (ltr (ltr (ltr (ltr (ltr (ltr (ltr Z0 K1.1) K3.1) K5.1) K7.1) E9.1) K11.1) K13.1) K41.1) E43.1) K45.1) E47.1) K49.1) E51.1) K53.1) E55.1) K57.1) E59.1) (P57_0.ext E59) (P57_1.ext E59) (P57_2.ext E59) (P57_3.ext E59) (P57_4.ext E59) P49_6 P59_0 g_b43 g_b49_0 (Nat.ne_of_lt (Nat.lt_of_lt_of_le A43.lt (ltr K45.1 (ltr E47.1 yb49_0))))) hZ (hw _ (tm 54 rfl)) (hw _ (tm 28 rfl)) (by decide) (by decide)) q61a q61c (g := (mkF m 128 #[iv p1, iv p2, iv p3, iv p4, iv p5, iv p6, iv (2 : Int32), rv b1_0, rv b3_0, rv b5_0, rv b7_0, rv b9, rv b43, .unset, .unset, .unset, .unset] [(.ref c59), (.ref b43)])) rfl (by rw [hml]; rfl) (Steps.refl _) (argsL := [(.ref c59)]) (rest := []) (lenOf pd__Ljava_lang_Object__Z rfl) rfl (by show 2 * 0 + _ ≤ _; exact Nat.le_of_eq rfl) (hb hby at_128) (fun _ _ => ⟨rfl, e59, (by decide : 36 + 0 ≤ _), (by decide : 298 + 0 ≤ _)⟩)
    dsimp only [Pt.U, Pt.locs, Pt.cells, Pt.slots] at X61 l61 y61 z61 st61 hQ61
    subst l61 y61 z61
    obtain ⟨rfl, N61q, K61, P61_0, P61_1, P61_2, P61_3, P61_4⟩ := hQ61
    have C62 := C60.trans (CHr.keep K61 (allS (Safe.exa hZ.alike (P57_0.ext E59) (by decide) (by decide)) (allS (own_safeV hZ.alike (P57_4.ext E59) (by decide)) all0)) C60.1)
    have N61 := Fr.app N57 N61q
    refine own_go ?_ (fun _ hr => st61.trans (XS.pop X61.here hx rfl (hb hby at_131) rfl rfl hr))
    show own_H (T61.setTop (mkF m 132 #[iv p1, iv p2, iv p3, iv p4, iv p5, iv p6, iv (2 : Int32), rv b1_0, rv b3_0, rv b5_0, rv b7_0, rv b9, rv b43, .unset, .unset, .unset, .unset] []))
    obtain ⟨T63, h63, X63, e63, E63, A63, D63, -, st63⟩ := newO X61 hx hZ hown (hw _ (tm 85 rfl)) (hw _ (tm 86 rfl)) (hw _ (tm 87 rfl)) rfl (g := (mkF m 132 #[iv p1, iv p2, iv p3, iv p4, iv p5, iv p6, iv (2 : Int32), rv b1_0, rv b3_0, rv b5_0, rv b7_0, rv b9, rv b43, .unset, .unset, .unset, .unset] [])) rfl (hb hby at_132) (by decide) (by decide)
    obtain ⟨b63, g63⟩ : ∃ z, z = T61.heap.size := ⟨_, rfl⟩
    rw [← g63] at A63 D63 st63
    have g_b63 : n0 ≤ b63 := ltr (ltr (ltr (ltr (ltr (ltr (ltr (ltr (ltr (ltr (ltr (ltr (ltr (ltr (ltr (ltr (ltr (ltr (ltr Z0 K1.1) K3.1) K5.1) K7.1) E9.1) K11.1) K13.1) K41.1) E43.1) K45.1) E47.1) K49.1) E51.1) K53.1) E55.1) K57.1) E59.1) K61.1) (leq g63.symm)
    have C64 := C62.trans (CHr.ext E63 C62.1)
    have F63_93 : Fld Z h63 b63 "java/util/AbstractList" "modCount" "I" (.int (0 : Int32)) := D63 (Or.inl (hw _ (tm 93 rfl))) (ty := .int) (by decide)
    have F63_181 : Fld Z h63 b63 "com/example/ninkasi/ninkasi/csv/CsvRecord" "fields" "Ljava/util/List;" .null := D63 (Or.inr (hw _ (tm 181 rfl))) (ty := (.object "java/util/List")) (by decide)
    have F63_202 : Fld Z h63 b63 "com/example/ninkasi/ninkasi/csv/CsvRecord" "fieldNames" "Ljava/util/List;" .null := D63 (Or.inr (hw _ (tm 202 rfl))) (ty := (.object "java/util/List")) (by decide)
    refine own_go ?_ (fun _ hr => st63 _ (XS.dup X63.here hx rfl (hb hby at_135) rfl rfl (XS.aload X63.here hx rfl (hb hby at_136) rfl rfl (XS.aload X63.here hx rfl (hb hby at_138) rfl rfl hr))))
    show own_H (T63.setTop (mkF m 140 #[iv p1, iv p2, iv p3, iv p4, iv p5, iv p6, iv (2 : Int32), rv b1_0, rv b3_0, rv b5_0, rv b7_0, rv b9, rv b43, .unset, .unset, .unset, .unset] [(.ref b43), (.ref b9), (.ref b63), (.ref b63)]))
    have ne_b9_b43 : b9 ≠ b43 := Nat.ne_of_lt (Nat.lt_of_lt_of_le A9.lt (ltr K11.1 (ltr K13.1 (ltr K41.1 (leq g43.symm)))))
    have ne_b9_b49_0 : b9 ≠ b49_0 := Nat.ne_of_lt (Nat.lt_of_lt_of_le A9.lt (ltr K11.1 (ltr K13.1 (ltr K41.1 (ltr E43.1 (ltr K45.1 (ltr E47.1 yb49_0)))))))
    have ne_b13_0_b49_0 : b13_0 ≠ b49_0 := Nat.ne_of_lt (Nat.lt_of_lt_of_le P13_4.lt (ltr K41.1 (ltr E43.1 (ltr K45.1 (ltr E47.1 yb49_0)))))
    have ne_b9_b63 : b9 ≠ b63 := Nat.ne_of_lt (Nat.lt_of_lt_of_le A9.lt (ltr K11.1 (ltr K13.1 (ltr K41.1 (ltr E43.1 (ltr K45.1 (ltr E47.1 (ltr K49.1 (ltr E51.1 (ltr K53.1 (ltr E55.1 (ltr K57.1 (ltr E59.1 (ltr K61.1 (leq g63.symm)))))))))))))))
    have ne_b43_b63 : b43 ≠ b63 := Nat.ne_of_lt (Nat.lt_of_lt_of_le A43.lt (ltr K45.1 (ltr E47.1 (ltr K49.1 (ltr E51.1 (ltr K53.1 (ltr E55.1 (ltr K57.1 (ltr E59.1 (ltr K61.1 (leq g63.symm)))))))))))
    have ne_b13_0_b63 : b13_0 ≠ b63 := Nat.ne_of_lt (Nat.lt_of_lt_of_le P13_4.lt (ltr K41.1 (ltr E43.1 (ltr K45.1 (ltr E47.1 (ltr K49.1 (ltr E51.1 (ltr K53.1 (ltr E55.1 (ltr K57.1 (ltr E59.1 (ltr K61.1 (leq g63.symm)))))))))))))
    have ne_b49_0_b63 : b49_0 ≠ b63 := Nat.ne_of_lt (Nat.lt_of_lt_of_le P49_4.lt (ltr E51.1 (ltr K53.1 (ltr E55.1 (ltr K57.1 (ltr E59.1 (ltr K61.1 (leq g63.symm))))))))
    obtain ⟨_, _, ⟨T65, L65, k65, n65⟩, -, X65, ⟨Lc65, hQ65, l65, y65, z65⟩, st65⟩ := X63.specialBack hx (y := y32_) rfl hown (mvT hZ (hw _ (tm 88 rfl))) (mvT hZ (hw _ (tm 89 rfl))) (mvT hZ (hw _ (tm 90 rfl))) (by decide) (backOf (W := 1) (rm_rec_2 l Z a0 hw [] b63 b9 b43 (.int (0 : Int32)) (.null) (.null) b13_0 kb13_1 b49_0 kb49_1 mO b1_0 b3_0 c47 c51 c55 c59 wM h63 n0 (ltr (ltr (ltr (ltr (ltr (ltr (ltr (ltr (ltr (ltr (ltr (ltr (ltr (ltr (ltr (ltr (ltr (ltr (ltr Z0 K1.1) K3.1) K5.1) K7.1) E9.1) K11.1) K13.1) K41.1) E43.1) K45.1) E47.1) K49.1) E51.1) K53.1) E55.1) K57.1) E59.1) K61.1) E63.1) A63 F63_93 F63_181 F63_202 g_b63 (((((((((((P41_0.ext E43).keep K45).ext E47).keep K49).ext E51).keep K53).ext E55).keep K57).ext E59).keep K61).ext E63) (((((((((((P41_2.ext E43).keep K45 (ninS ne_b9_b43 nin0)).ext E47).keep K49 (ninS ne_b9_b43 nin0)).ext E51).keep K53 (ninS ne_b9_b43 (ninS ne_b9_b49_0 nin0))).ext E55).keep K57 (ninS ne_b9_b43 (ninS ne_b9_b49_0 nin0))).ext E59).keep K61 (ninS ne_b9_b43 (ninS ne_b9_b49_0 nin0))).ext E63) (((((((((((P41_3.ext E43).keep K45 (ninS ne_b9_b43 nin0)).ext E47).keep K49 (ninS ne_b9_b43 nin0)).ext E51).keep K53 (ninS ne_b9_b43 (ninS ne_b9_b49_0 nin0))).ext E55).keep K57 (ninS ne_b9_b43 (ninS ne_b9_b49_0 nin0))).ext E59).keep K61 (ninS ne_b9_b43 (ninS ne_b9_b49_0 nin0))).ext E63) (((((((((((P41_4.ext E43).keep K45 (ninS (Nat.ne_of_lt (Nat.lt_of_lt_of_le P13_4.lt (ltr K41.1 (leq g43.symm)))) nin0)).ext E47).keep K49 (ninS (Nat.ne_of_lt (Nat.lt_of_lt_of_le P13_4.lt (ltr K41.1 (leq g43.symm)))) nin0)).ext E51).keep K53 (ninS (Nat.ne_of_lt (Nat.lt_of_lt_of_le P13_4.lt (ltr K41.1 (leq g43.symm)))) (ninS ne_b13_0_b49_0 nin0))).ext E55).keep K57 (ninS (Nat.ne_of_lt (Nat.lt_of_lt_of_le P13_4.lt (ltr K41.1 (leq g43.symm)))) (ninS ne_b13_0_b49_0 nin0))).ext E59).keep K61 (ninS (Nat.ne_of_lt (Nat.lt_of_lt_of_le P13_4.lt (ltr K41.1 (leq g43.symm)))) (ninS ne_b13_0_b49_0 nin0))).ext E63) ((((((((((((P13_5.keep K41).ext E43).keep K45).ext E47).keep K49).ext E51).keep K53).ext E55).keep K57).ext E59).keep K61).ext E63) ((((((((((((((((((P1_0.keep K3).keep K5).keep K7).ext E9).keep K11).keep K13).keep K41).ext E43).keep K45).ext E47).keep K49).ext E51).keep K53).ext E55).keep K57).ext E59).keep K61).ext E63) (((((((((((((((((P3_0.keep K5).keep K7).ext E9).keep K11).keep K13).keep K41).ext E43).keep K45).ext E47).keep K49).ext E51).keep K53).ext E55).keep K57).ext E59).keep K61).ext E63) mir_mO (P61_0.ext E63) (P61_2.ext E63) (P61_3.ext E63) (P61_4.ext E63) (((((((P49_5.ext E51).keep K53).ext E55).keep K57).ext E59).keep K61).ext E63) ((((((((P47_0.keep K49).ext E51).keep K53).ext E55).keep K57).ext E59).keep K61).ext E63) ((((((P51_0.keep K53).ext E55).keep K57).ext E59).keep K61).ext E63) ((((P55_0.keep K57).ext E59).keep K61).ext E63) ((P59_0.keep K61).ext E63) (((((((((((((((((((hold.keep K1 all0).keep K3 all0).keep K5 all0).keep K7 all0).ext E9).keep K11 (allS g_b9 all0)).keep K13 (allS g_b9 all0)).keep K41 (allS g_b9 (allS g_b13_0 all0))).ext E43).keep K45 (allS g_b43 all0)).ext E47).keep K49 (allS g_b43 all0)).ext E51).keep K53 (allS g_b43 (allS g_b49_0 all0))).ext E55).keep K57 (allS g_b43 (allS g_b49_0 all0))).ext E59).keep K61 (allS g_b43 (allS g_b49_0 all0))).ext E63) S_EMPTY ne_b9_b63 ne_b43_b63 ne_b13_0_b63 ne_b49_0_b63) hZ (hw _ (tm 90 rfl)) (hw _ (tm 87 rfl)) (by decide) (by decide)) (g := (mkF m 140 #[iv p1, iv p2, iv p3, iv p4, iv p5, iv p6, iv (2 : Int32), rv b1_0, rv b3_0, rv b5_0, rv b7_0, rv b9, rv b43, .unset, .unset, .unset, .unset] [(.ref b43), (.ref b9), (.ref b63), (.ref b63)])) rfl (by rw [hml]; rfl) (Steps.refl _) (a := b63) (argsL := [(.ref b9), (.ref b43)]) (rest := [(.ref b63)]) (lenOf pd__Ljava_util_List_Ljava_util_List__V rfl) rfl (by show 2 * 0 + _ ≤ _; exact Nat.le_of_eq rfl) (hb hby at_140) (fun _ _ => ⟨rfl, e63, (by decide : 37 + 5 ≤ _), (by decide : 301 + 14 ≤ _)⟩)
    dsimp only [Pt.U, Pt.locs, Pt.cells, Pt.slots] at X65 l65 y65 z65 st65 hQ65
    subst l65 y65 z65
    obtain ⟨b65_0, rfl, N65q, K65, yb65_0, P65_0, P65_1, P65_2, P65_3, P65_4⟩ := hQ65
    have g_b65_0 : n0 ≤ b65_0 := ltr (ltr (ltr (ltr (ltr (ltr (ltr (ltr (ltr (ltr (ltr (ltr (ltr (ltr (ltr (ltr (ltr (ltr (ltr (ltr Z0 K1.1) K3.1) K5.1) K7.1) E9.1) K11.1) K13.1) K41.1) E43.1) K45.1) E47.1) K49.1) E51.1) K53.1) E55.1) K57.1) E59.1) K61.1) E63.1) yb65_0
    have C66 := C64.trans (CHr.keep K65 (allS (Safe.exa hZ.alike A63 (by decide) (by decide)) all0) C64.1)
    have N65 := Fr.app N61 N65q
    refine own_go ?_ (fun _ hr => st65.trans (XS.astore X65.here hx rfl (hb hby at_143) rfl rfl (l' := #[iv p1, iv p2, iv p3, iv p4, iv p5, iv p6, iv (2 : Int32), rv b1_0, rv b3_0, rv b5_0, rv b7_0, rv b9, rv b43, rv b63, .unset, .unset, .unset]) rfl (XS.iload X65.here hx rfl (hb hby at_145) rfl (X65.ldcI hx hown (mvT hZ (hw _ (tm 203 rfl))) rfl (hb hby at_147) (XS.iand X65.here hx rfl (hb hby at_149) rfl (XS.iload X65.here hx rfl (hb hby at_150) rfl (iremM X65 hx rfl (hb hby at_152) rfl (by decide) hr)))))))
    show own_H (T65.setTop (mkF m 153 #[iv p1, iv p2, iv p3, iv p4, iv p5, iv p6, iv (2 : Int32), rv b1_0, rv b3_0, rv b5_0, rv b7_0, rv b9, rv b43, rv b63, .unset, .unset, .unset] [(.int ((p6 &&& (2147483647 : Int32)) % (2 : Int32)))]))
    rcases own_md2 p6 with hs153_0 | hs153_1
    ·
      rw [hs153_0]
      show own_H (T65.setTop (mkF m 153 #[iv p1, iv p2, iv p3, iv p4, iv p5, iv p6, iv (2 : Int32), rv b1_0, rv b3_0, rv b5_0, rv b7_0, rv b9, rv b43, rv b63, .unset, .unset, .unset] [(.int (0 : Int32))]))
      refine own_go ?_ (fun _ hr => XS.istore X65.here hx rfl (hb hby at_153) rfl (l' := #[iv p1, iv p2, iv p3, iv p4, iv p5, iv p6, iv (2 : Int32), rv b1_0, rv b3_0, rv b5_0, rv b7_0, rv b9, rv b43, rv b63, iv (0 : Int32), .unset, .unset]) rfl (XS.iload X65.here hx rfl (hb hby at_155) rfl (XS.ifNo X65.here hx rfl (hb hby at_157) rfl ((if0 _ _).trans (teq (by decide : (0 : Int32) = (0 : Int32))).2) (XS.aload X65.here hx rfl (hb hby at_160) rfl rfl (XS.astore X65.here hx rfl (hb hby at_162) rfl rfl (l' := #[iv p1, iv p2, iv p3, iv p4, iv p5, iv p6, iv (2 : Int32), rv b1_0, rv b3_0, rv b5_0, rv b7_0, rv b9, rv b43, rv b63, iv (0 : Int32), rv b1_0, .unset]) rfl (XS.goto X65.here hx rfl (pc0 := 164) (pc' := 197) rfl (hb hby at_164) (by decide) (by decide) (XS.aload X65.here hx rfl (hb hby at_197) rfl rfl (XS.iload X65.here hx rfl (hb hby at_199) rfl hr))))))))
      show own_H (T65.setTop (mkF m 201 #[iv p1, iv p2, iv p3, iv p4, iv p5, iv p6, iv (2 : Int32), rv b1_0, rv b3_0, rv b5_0, rv b7_0, rv b9, rv b43, rv b63, iv (0 : Int32), rv b1_0, .unset] [(.int (0 : Int32)), (.ref b63)]))
      obtain ⟨cq67, kq67, q67a, q67b, q67c⟩ := isOf hZ rfl P65_0
      obtain ⟨_, _, ⟨T67, L67, k67, n67⟩, -, X67, ⟨Lc67, hQ67, l67, y67, z67⟩, st67⟩ := X65.virtualBack hx (y := y34_) (z := y34_) hown (mvT hZ (hw _ (tm 204 rfl))) (mvT hZ (hw _ (tm 205 rfl))) (notFace_of_selects (args := #[]) (mvT hZ (hw _ (tm 207 rfl)))) (mvT hZ (hw _ (tm 207 rfl))) (mvT hZ (hw _ (tm 206 rfl))) (by decide) (backOf (W := 0) (rm_rget_2_0 l Z a0 hw [] b63 b65_0 b1_0 b3_0 wM T65.heap n0 (ltr (ltr (ltr (ltr (ltr (ltr (ltr (ltr (ltr (ltr (ltr (ltr (ltr (ltr (ltr (ltr (ltr (ltr (ltr (ltr Z0 K1.1) K3.1) K5.1) K7.1) E9.1) K11.1) K13.1) K41.1) E43.1) K45.1) E47.1) K49.1) E51.1) K53.1) E55.1) K57.1) E59.1) K61.1) E63.1) K65.1) P65_1 P65_2 P65_3 P65_4 ((((((((((((((((((((hold.keep K1 all0).keep K3 all0).keep K5 all0).keep K7 all0).ext E9).keep K11 (allS g_b9 all0)).keep K13 (allS g_b9 all0)).keep K41 (allS g_b9 (allS g_b13_0 all0))).ext E43).keep K45 (allS g_b43 all0)).ext E47).keep K49 (allS g_b43 all0)).ext E51).keep K53 (allS g_b43 (allS g_b49_0 all0))).ext E55).keep K57 (allS g_b43 (allS g_b49_0 all0))).ext E59).keep K61 (allS g_b43 (allS g_b49_0 all0))).ext E63).keep K65 (allS g_b63 all0)) S_EMPTY (((((((((((((((((((P1_0.keep K3).keep K5).keep K7).ext E9).keep K11).keep K13).keep K41).ext E43).keep K45).ext E47).keep K49).ext E51).keep K53).ext E55).keep K57).ext E59).keep K61).ext E63).keep K65)) hZ (hw _ (tm 208 rfl)) (hw _ (tm 87 rfl)) (by decide) (by decide)) q67a q67c (g := (mkF m 201 #[iv p1, iv p2, iv p3, iv p4, iv p5, iv p6, iv (2 : Int32), rv b1_0, rv b3_0, rv b5_0, rv b7_0, rv b9, rv b43, rv b63, iv (0 : Int32), rv b1_0, .unset] [(.int (0 : Int32)), (.ref b63)])) rfl (by rw [hml]; rfl) (Steps.refl _) (argsL := [(.int (0 : Int32))]) (rest := []) (lenOf pd__I_Ljava_lang_String_ rfl) rfl (by show 2 * 0 + _ ≤ _; exact Nat.le_of_eq rfl) (hb hby at_201) (fun _ _ => ⟨rfl, rfl, (by decide : 42 + 0 ≤ _), (by decide : 315 + 0 ≤ _)⟩)
      dsimp only [Pt.U, Pt.locs, Pt.cells, Pt.slots] at X67 l67 y67 z67 st67 hQ67
      subst l67 y67 z67
      obtain ⟨rfl, N67q, e67⟩ := hQ67
      have N67 := Fr.app N65 N67q
      refine own_go ?_ (fun _ hr => st67.trans (XS.astore X67.here hx rfl (hb hby at_204) rfl rfl (l' := #[iv p1, iv p2, iv p3, iv p4, iv p5, iv p6, iv (2 : Int32), rv b1_0, rv b3_0, rv b5_0, rv b7_0, rv b9, rv b43, rv b63, iv (0 : Int32), rv b1_0, rv b1_0]) rfl (XS.aload X67.here hx rfl (hb hby at_206) rfl rfl (XS.ifnullNo X67.here hx rfl (hb hby at_208) rfl (XS.aload X67.here hx rfl (hb hby at_211) rfl rfl (XS.aload X67.here hx rfl (hb hby at_213) rfl rfl hr))))))
      show own_H (T67.setTop (mkF m 215 #[iv p1, iv p2, iv p3, iv p4, iv p5, iv p6, iv (2 : Int32), rv b1_0, rv b3_0, rv b5_0, rv b7_0, rv b9, rv b43, rv b63, iv (0 : Int32), rv b1_0, rv b1_0] [(.ref b1_0), (.ref b1_0)]))
      obtain ⟨cq68, kq68, q68a, q68b, q68c⟩ := isOf hZ e67 (((((((((((((((((((P1_0.keep K3).keep K5).keep K7).ext E9).keep K11).keep K13).keep K41).ext E43).keep K45).ext E47).keep K49).ext E51).keep K53).ext E55).keep K57).ext E59).keep K61).ext E63).keep K65)
      obtain ⟨_, _, ⟨T68, L68, k68, n68⟩, -, X68, ⟨Lc68, hQ68, l68, y68, z68⟩, st68⟩ := X67.virtualBack hx (y := y37_) (z := y37_) hown (mvT hZ (hw _ (tm 219 rfl))) (mvT hZ (hw _ (tm 220 rfl))) (notFace_of_selects (args := #[]) (mvT hZ (hw _ (tm 222 rfl)))) (mvT hZ (hw _ (tm 222 rfl))) (mvT hZ (hw _ (tm 221 rfl))) (by decide) (backOf (W := 0) (rm_eq l Z a0 hw [] b1_0 T65.heap n0 (ltr (ltr (ltr (ltr (ltr (ltr (ltr (ltr (ltr (ltr (ltr (ltr (ltr (ltr (ltr (ltr (ltr (ltr (ltr (ltr Z0 K1.1) K3.1) K5.1) K7.1) E9.1) K11.1) K13.1) K41.1) E43.1) K45.1) E47.1) K49.1) E51.1) K53.1) E55.1) K57.1) E59.1) K61.1) E63.1) K65.1) ) hZ (hw _ (tm 223 rfl)) (hw _ (tm 6 rfl)) (by decide) (by decide)) q68a q68c (g := (mkF m 215 #[iv p1, iv p2, iv p3, iv p4, iv p5, iv p6, iv (2 : Int32), rv b1_0, rv b3_0, rv b5_0, rv b7_0, rv b9, rv b43, rv b63, iv (0 : Int32), rv b1_0, rv b1_0] [(.ref b1_0), (.ref b1_0)])) rfl (by rw [hml]; rfl) (Steps.refl _) (argsL := [(.ref b1_0)]) (rest := []) (lenOf pd__Ljava_lang_Object__Z rfl) rfl (by show 2 * 0 + _ ≤ _; exact Nat.le_of_eq rfl) (hb hby at_215) (fun _ _ => ⟨rfl, e67, (by decide : 42 + 0 ≤ _), (by decide : 315 + 0 ≤ _)⟩)
      dsimp only [Pt.U, Pt.locs, Pt.cells, Pt.slots] at X68 l68 y68 z68 st68 hQ68
      subst l68 y68 z68
      obtain ⟨rfl, N68q, e68⟩ := hQ68
      have N68 := Fr.app N67 N68q
      refine own_go ?_ (fun _ hr => st68.trans (XS.ifNo X68.here hx rfl (hb hby at_218) rfl ((if0 _ _).trans (feq (by decide : ¬ ((1 : Int32) = (0 : Int32)))).1) (XS.iconst X68.here hx rfl (hb hby at_221) (XS.goto X68.here hx rfl (pc0 := 222) (pc' := 226) rfl (hb hby at_222) (by decide) (by decide) hr))))
      show own_H (T68.setTop (mkF m 226 #[iv p1, iv p2, iv p3, iv p4, iv p5, iv p6, iv (2 : Int32), rv b1_0, rv b3_0, rv b5_0, rv b7_0, rv b9, rv b43, rv b63, iv (0 : Int32), rv b1_0, rv b1_0] [(.int (1 : Int32))]))
      obtain ⟨fs, hr, hrun, hended, hRW⟩ := Stand.leaveW (s := s) (vm₁ := T59.vm) X68 hS59 (by rw [e68]; exact (ltr (ltr (ltr hk59 K61.1) E63.1) K65.1)) (v := some (.int (1 : Int32))) (fun h => by rw [Bd.returns] at h; cases h)
      have hCe := C66.trans (CHv.at (s := s) (vm0 := T59.vm) X68 hZ hEL C66.1)
      exact ⟨_, _, retN X68 hx (t := .boolean) Bd.returns (by simp) (hb hby at_226) hr, hrun, hended, _, _, rfl, ⟨rfl, N68, trivial⟩, (by rw [hh, show (T68.setFrames fs).heap = T65.heap from e68]; exact hCe), hRW.1, hRW.2.1, hRW.2.2.1, hRW.2.2.2.mono (by decide) (by decide)⟩
    ·
      rw [hs153_1]
      show own_H (T65.setTop (mkF m 153 #[iv p1, iv p2, iv p3, iv p4, iv p5, iv p6, iv (2 : Int32), rv b1_0, rv b3_0, rv b5_0, rv b7_0, rv b9, rv b43, rv b63, .unset, .unset, .unset] [(.int (1 : Int32))]))
      refine own_go ?_ (fun _ hr => XS.istore X65.here hx rfl (hb hby at_153) rfl (l' := #[iv p1, iv p2, iv p3, iv p4, iv p5, iv p6, iv (2 : Int32), rv b1_0, rv b3_0, rv b5_0, rv b7_0, rv b9, rv b43, rv b63, iv (1 : Int32), .unset, .unset]) rfl (XS.iload X65.here hx rfl (hb hby at_155) rfl (XS.ifYes X65.here hx rfl (pc0 := 157) (pc' := 167) rfl (hb hby at_157) rfl ((if0 _ _).trans (feq (by decide : ¬ ((1 : Int32) = (0 : Int32)))).2) (by decide) (by decide) (XS.iload X65.here hx rfl (hb hby at_167) rfl (XS.iconst X65.here hx rfl (hb hby at_169) (XS.icmpNo X65.here hx rfl (hb hby at_170) rfl (teq (by decide : (1 : Int32) = (1 : Int32))).2 (XS.aload X65.here hx rfl (hb hby at_173) rfl rfl (XS.astore X65.here hx rfl (hb hby at_175) rfl rfl (l' := #[iv p1, iv p2, iv p3, iv p4, iv p5, iv p6, iv (2 : Int32), rv b1_0, rv b3_0, rv b5_0, rv b7_0, rv b9, rv b43, rv b63, iv (1 : Int32), rv b3_0, .unset]) rfl hr))))))))
      show own_H (T65.setTop (mkF m 177 #[iv p1, iv p2, iv p3, iv p4, iv p5, iv p6, iv (2 : Int32), rv b1_0, rv b3_0, rv b5_0, rv b7_0, rv b9, rv b43, rv b63, iv (1 : Int32), rv b3_0, .unset] []))
      refine own_go ?_ (fun _ hr => XS.goto X65.here hx rfl (pc0 := 177) (pc' := 197) rfl (hb hby at_177) (by decide) (by decide) (XS.aload X65.here hx rfl (hb hby at_197) rfl rfl (XS.iload X65.here hx rfl (hb hby at_199) rfl hr)))
      show own_H (T65.setTop (mkF m 201 #[iv p1, iv p2, iv p3, iv p4, iv p5, iv p6, iv (2 : Int32), rv b1_0, rv b3_0, rv b5_0, rv b7_0, rv b9, rv b43, rv b63, iv (1 : Int32), rv b3_0, .unset] [(.int (1 : Int32)), (.ref b63)]))
      obtain ⟨cq69, kq69, q69a, q69b, q69c⟩ := isOf hZ rfl P65_0
      obtain ⟨_, _, ⟨T69, L69, k69, n69⟩, -, X69, ⟨Lc69, hQ69, l69, y69, z69⟩, st69⟩ := X65.virtualBack hx (y := y34_) (z := y34_) hown (mvT hZ (hw _ (tm 204 rfl))) (mvT hZ (hw _ (tm 205 rfl))) (notFace_of_selects (args := #[]) (mvT hZ (hw _ (tm 207 rfl)))) (mvT hZ (hw _ (tm 207 rfl))) (mvT hZ (hw _ (tm 206 rfl))) (by decide) (backOf (W := 0) (rm_rget_2_1 l Z a0 hw [] b63 b65_0 b1_0 b3_0 wM T65.heap n0 (ltr (ltr (ltr (ltr (ltr (ltr (ltr (ltr (ltr (ltr (ltr (ltr (ltr (ltr (ltr (ltr (ltr (ltr (ltr (ltr Z0 K1.1) K3.1) K5.1) K7.1) E9.1) K11.1) K13.1) K41.1) E43.1) K45.1) E47.1) K49.1) E51.1) K53.1) E55.1) K57.1) E59.1) K61.1) E63.1) K65.1) P65_1 P65_2 P65_3 P65_4 ((((((((((((((((((((hold.keep K1 all0).keep K3 all0).keep K5 all0).keep K7 all0).ext E9).keep K11 (allS g_b9 all0)).keep K13 (allS g_b9 all0)).keep K41 (allS g_b9 (allS g_b13_0 all0))).ext E43).keep K45 (allS g_b43 all0)).ext E47).keep K49 (allS g_b43 all0)).ext E51).keep K53 (allS g_b43 (allS g_b49_0 all0))).ext E55).keep K57 (allS g_b43 (allS g_b49_0 all0))).ext E59).keep K61 (allS g_b43 (allS g_b49_0 all0))).ext E63).keep K65 (allS g_b63 all0)) S_EMPTY ((((((((((((((((((P3_0.keep K5).keep K7).ext E9).keep K11).keep K13).keep K41).ext E43).keep K45).ext E47).keep K49).ext E51).keep K53).ext E55).keep K57).ext E59).keep K61).ext E63).keep K65) (Ne.symm (((((((((((((((((((((hold.keep K1 all0).keep K3 all0).keep K5 all0).keep K7 all0).ext E9).keep K11 (allS g_b9 all0)).keep K13 (allS g_b9 all0)).keep K41 (allS g_b9 (allS g_b13_0 all0))).ext E43).keep K45 (allS g_b43 all0)).ext E47).keep K49 (allS g_b43 all0)).ext E51).keep K53 (allS g_b43 (allS g_b49_0 all0))).ext E55).keep K57 (allS g_b43 (allS g_b49_0 all0))).ext E59).keep K61 (allS g_b43 (allS g_b49_0 all0))).ext E63).keep K65 (allS g_b63 all0)).ne (show _ from E_wM.lt) g_b3_0))) hZ (hw _ (tm 208 rfl)) (hw _ (tm 87 rfl)) (by decide) (by decide)) q69a q69c (g := (mkF m 201 #[iv p1, iv p2, iv p3, iv p4, iv p5, iv p6, iv (2 : Int32), rv b1_0, rv b3_0, rv b5_0, rv b7_0, rv b9, rv b43, rv b63, iv (1 : Int32), rv b3_0, .unset] [(.int (1 : Int32)), (.ref b63)])) rfl (by rw [hml]; rfl) (Steps.refl _) (argsL := [(.int (1 : Int32))]) (rest := []) (lenOf pd__I_Ljava_lang_String_ rfl) rfl (by show 2 * 0 + _ ≤ _; exact Nat.le_of_eq rfl) (hb hby at_201) (fun _ _ => ⟨rfl, rfl, (by decide : 42 + 0 ≤ _), (by decide : 315 + 0 ≤ _)⟩)
      dsimp only [Pt.U, Pt.locs, Pt.cells, Pt.slots] at X69 l69 y69 z69 st69 hQ69
      subst l69 y69 z69
      obtain ⟨rfl, N69q, e69⟩ := hQ69
      have N69 := Fr.app N65 N69q
      refine own_go ?_ (fun _ hr => st69.trans (XS.astore X69.here hx rfl (hb hby at_204) rfl rfl (l' := #[iv p1, iv p2, iv p3, iv p4, iv p5, iv p6, iv (2 : Int32), rv b1_0, rv b3_0, rv b5_0, rv b7_0, rv b9, rv b43, rv b63, iv (1 : Int32), rv b3_0, rv b3_0]) rfl (XS.aload X69.here hx rfl (hb hby at_206) rfl rfl (XS.ifnullNo X69.here hx rfl (hb hby at_208) rfl (XS.aload X69.here hx rfl (hb hby at_211) rfl rfl (XS.aload X69.here hx rfl (hb hby at_213) rfl rfl hr))))))
      show own_H (T69.setTop (mkF m 215 #[iv p1, iv p2, iv p3, iv p4, iv p5, iv p6, iv (2 : Int32), rv b1_0, rv b3_0, rv b5_0, rv b7_0, rv b9, rv b43, rv b63, iv (1 : Int32), rv b3_0, rv b3_0] [(.ref b3_0), (.ref b3_0)]))
      obtain ⟨cq70, kq70, q70a, q70b, q70c⟩ := isOf hZ e69 ((((((((((((((((((P3_0.keep K5).keep K7).ext E9).keep K11).keep K13).keep K41).ext E43).keep K45).ext E47).keep K49).ext E51).keep K53).ext E55).keep K57).ext E59).keep K61).ext E63).keep K65)
      obtain ⟨_, _, ⟨T70, L70, k70, n70⟩, -, X70, ⟨Lc70, hQ70, l70, y70, z70⟩, st70⟩ := X69.virtualBack hx (y := y37_) (z := y37_) hown (mvT hZ (hw _ (tm 219 rfl))) (mvT hZ (hw _ (tm 220 rfl))) (notFace_of_selects (args := #[]) (mvT hZ (hw _ (tm 222 rfl)))) (mvT hZ (hw _ (tm 222 rfl))) (mvT hZ (hw _ (tm 221 rfl))) (by decide) (backOf (W := 0) (rm_eq l Z a0 hw [] b3_0 T65.heap n0 (ltr (ltr (ltr (ltr (ltr (ltr (ltr (ltr (ltr (ltr (ltr (ltr (ltr (ltr (ltr (ltr (ltr (ltr (ltr (ltr Z0 K1.1) K3.1) K5.1) K7.1) E9.1) K11.1) K13.1) K41.1) E43.1) K45.1) E47.1) K49.1) E51.1) K53.1) E55.1) K57.1) E59.1) K61.1) E63.1) K65.1) ) hZ (hw _ (tm 223 rfl)) (hw _ (tm 6 rfl)) (by decide) (by decide)) q70a q70c (g := (mkF m 215 #[iv p1, iv p2, iv p3, iv p4, iv p5, iv p6, iv (2 : Int32), rv b1_0, rv b3_0, rv b5_0, rv b7_0, rv b9, rv b43, rv b63, iv (1 : Int32), rv b3_0, rv b3_0] [(.ref b3_0), (.ref b3_0)])) rfl (by rw [hml]; rfl) (Steps.refl _) (argsL := [(.ref b3_0)]) (rest := []) (lenOf pd__Ljava_lang_Object__Z rfl) rfl (by show 2 * 0 + _ ≤ _; exact Nat.le_of_eq rfl) (hb hby at_215) (fun _ _ => ⟨rfl, e69, (by decide : 42 + 0 ≤ _), (by decide : 315 + 0 ≤ _)⟩)
      dsimp only [Pt.U, Pt.locs, Pt.cells, Pt.slots] at X70 l70 y70 z70 st70 hQ70
      subst l70 y70 z70
      obtain ⟨rfl, N70q, e70⟩ := hQ70
      have N70 := Fr.app N69 N70q
      refine own_go ?_ (fun _ hr => st70.trans (XS.ifNo X70.here hx rfl (hb hby at_218) rfl ((if0 _ _).trans (feq (by decide : ¬ ((1 : Int32) = (0 : Int32)))).1) (XS.iconst X70.here hx rfl (hb hby at_221) (XS.goto X70.here hx rfl (pc0 := 222) (pc' := 226) rfl (hb hby at_222) (by decide) (by decide) hr))))
      show own_H (T70.setTop (mkF m 226 #[iv p1, iv p2, iv p3, iv p4, iv p5, iv p6, iv (2 : Int32), rv b1_0, rv b3_0, rv b5_0, rv b7_0, rv b9, rv b43, rv b63, iv (1 : Int32), rv b3_0, rv b3_0] [(.int (1 : Int32))]))
      obtain ⟨fs, hr, hrun, hended, hRW⟩ := Stand.leaveW (s := s) (vm₁ := T59.vm) X70 hS59 (by rw [e70]; exact (ltr (ltr (ltr hk59 K61.1) E63.1) K65.1)) (v := some (.int (1 : Int32))) (fun h => by rw [Bd.returns] at h; cases h)
      have hCe := C66.trans (CHv.at (s := s) (vm0 := T59.vm) X70 hZ hEL C66.1)
      exact ⟨_, _, retN X70 hx (t := .boolean) Bd.returns (by simp) (hb hby at_226) hr, hrun, hended, _, _, rfl, ⟨rfl, N70, trivial⟩, (by rw [hh, show (T70.setFrames fs).heap = T65.heap from e70]; exact hCe), hRW.1, hRW.2.1, hRW.2.2.1, hRW.2.2.2.mono (by decide) (by decide)⟩
  ·
    rw [hs51_2]
    show own_H (T13.setTop (mkF m 51 #[iv p1, iv p2, iv p3, iv p4, iv p5, iv p6, iv (3 : Int32), rv b1_0, rv b3_0, rv b5_0, rv b7_0, rv b9, .unset, .unset, .unset, .unset, .unset] [(.int (3 : Int32))]))
    refine own_go ?_ (fun _ hr => XS.iconst X13.here hx rfl (hb hby at_51) (XS.icmpNo X13.here hx rfl (hb hby at_52) rfl (tlt (by decide : (1 : Int32) < (3 : Int32))).2.2.2 (XS.aload X13.here hx rfl (hb hby at_55) rfl rfl (XS.aload X13.here hx rfl (hb hby at_57) rfl rfl hr))))
    show own_H (T13.setTop (mkF m 59 #[iv p1, iv p2, iv p3, iv p4, iv p5, iv p6, iv (3 : Int32), rv b1_0, rv b3_0, rv b5_0, rv b7_0, rv b9, .unset, .unset, .unset, .unset, .unset] [(.ref b3_0), (.ref b9)]))
    obtain ⟨cq71, kq71, q71a, q71b, q71c⟩ := isOf hZ rfl P13_0
    obtain ⟨_, _, ⟨T71, L71, k71, n71⟩, -, X71, ⟨Lc71, hQ71, l71, y71, z71⟩, st71⟩ := X13.virtualBack hx (y := y14_) (z := y14_) hown (mvT hZ (hw _ (tm 50 rfl))) (mvT hZ (hw _ (tm 51 rfl))) (notFace_of_selects (args := #[]) (mvT hZ (hw _ (tm 53 rfl)))) (mvT hZ (hw _ (tm 53 rfl))) (mvT hZ (hw _ (tm 52 rfl))) (by decide) (backOf (W := 0) (rm_add1_1 l Z a0 hw [] b9 b3_0 ((0 : Int32) + (1 : Int32)) b13_0 kb13_1 b1_0 T13.heap n0 (ltr (ltr (ltr (ltr (ltr (ltr (ltr Z0 K1.1) K3.1) K5.1) K7.1) E9.1) K11.1) K13.1) P13_0 P13_1 P13_2 P13_3 P13_4 P13_6 (((((P3_0.keep K5).keep K7).ext E9).keep K11).keep K13) g_b9 g_b13_0 (Nat.ne_of_lt (Nat.lt_of_lt_of_le A9.lt (ltr K11.1 yb13_0)))) hZ (hw _ (tm 54 rfl)) (hw _ (tm 28 rfl)) (by decide) (by decide)) q71a q71c (g := (mkF m 59 #[iv p1, iv p2, iv p3, iv p4, iv p5, iv p6, iv (3 : Int32), rv b1_0, rv b3_0, rv b5_0, rv b7_0, rv b9, .unset, .unset, .unset, .unset, .unset] [(.ref b3_0), (.ref b9)])) rfl (by rw [hml]; rfl) (Steps.refl _) (argsL := [(.ref b3_0)]) (rest := []) (lenOf pd__Ljava_lang_Object__Z rfl) rfl (by show 2 * 0 + _ ≤ _; exact Nat.le_of_eq rfl) (hb hby at_59) (fun _ _ => ⟨rfl, rfl, (by decide : 26 + 0 ≤ _), (by decide : 61 + 0 ≤ _)⟩)
    dsimp only [Pt.U, Pt.locs, Pt.cells, Pt.slots] at X71 l71 y71 z71 st71 hQ71
    subst l71 y71 z71
    obtain ⟨rfl, N71q, K71, P71_0, P71_1, P71_2, P71_3, P71_4⟩ := hQ71
    have C72 := C14.trans (CHr.keep K71 (allS (Safe.exa hZ.alike P13_0 (by decide) (by decide)) (allS (own_safeV hZ.alike P13_4 (by decide)) all0)) C14.1)
    have N71 := Fr.app N13 N71q
    refine own_go ?_ (fun _ hr => st71.trans (XS.pop X71.here hx rfl (hb hby at_62) rfl rfl (XS.iload X71.here hx rfl (hb hby at_63) rfl (XS.iconst X71.here hx rfl (hb hby at_65) (XS.icmpNo X71.here hx rfl (hb hby at_66) rfl (tlt (by decide : (2 : Int32) < (3 : Int32))).2.2.2 (XS.aload X71.here hx rfl (hb hby at_69) rfl rfl (XS.aload X71.here hx rfl (hb hby at_71) rfl rfl hr)))))))
    show own_H (T71.setTop (mkF m 73 #[iv p1, iv p2, iv p3, iv p4, iv p5, iv p6, iv (3 : Int32), rv b1_0, rv b3_0, rv b5_0, rv b7_0, rv b9, .unset, .unset, .unset, .unset, .unset] [(.ref b5_0), (.ref b9)]))
    obtain ⟨cq73, kq73, q73a, q73b, q73c⟩ := isOf hZ rfl P71_0
    obtain ⟨_, _, ⟨T73, L73, k73, n73⟩, -, X73, ⟨Lc73, hQ73, l73, y73, z73⟩, st73⟩ := X71.virtualBack hx (y := y14_) (z := y14_) hown (mvT hZ (hw _ (tm 50 rfl))) (mvT hZ (hw _ (tm 51 rfl))) (notFace_of_selects (args := #[]) (mvT hZ (hw _ (tm 53 rfl)))) (mvT hZ (hw _ (tm 53 rfl))) (mvT hZ (hw _ (tm 52 rfl))) (by decide) (backOf (W := 0) (rm_add1_2 l Z a0 hw [] b9 b5_0 (((0 : Int32) + (1 : Int32)) + (1 : Int32)) b13_0 kb13_1 b1_0 b3_0 T71.heap n0 (ltr (ltr (ltr (ltr (ltr (ltr (ltr (ltr Z0 K1.1) K3.1) K5.1) K7.1) E9.1) K11.1) K13.1) K71.1) P71_0 P71_1 P71_2 P71_3 P71_4 P13_6 (((((P5_0.keep K7).ext E9).keep K11).keep K13).keep K71) g_b9 g_b13_0 (Nat.ne_of_lt (Nat.lt_of_lt_of_le A9.lt (ltr K11.1 yb13_0)))) hZ (hw _ (tm 54 rfl)) (hw _ (tm 28 rfl)) (by decide) (by decide)) q73a q73c (g := (mkF m 73 #[iv p1, iv p2, iv p3, iv p4, iv p5, iv p6, iv (3 : Int32), rv b1_0, rv b3_0, rv b5_0, rv b7_0, rv b9, .unset, .unset, .unset, .unset, .unset] [(.ref b5_0), (.ref b9)])) rfl (by rw [hml]; rfl) (Steps.refl _) (argsL := [(.ref b5_0)]) (rest := []) (lenOf pd__Ljava_lang_Object__Z rfl) rfl (by show 2 * 0 + _ ≤ _; exact Nat.le_of_eq rfl) (hb hby at_73) (fun _ _ => ⟨rfl, rfl, (by decide : 26 + 0 ≤ _), (by decide : 61 + 0 ≤ _)⟩)
    dsimp only [Pt.U, Pt.locs, Pt.cells, Pt.slots] at X73 l73 y73 z73 st73 hQ73
    subst l73 y73 z73
    obtain ⟨rfl, N73q, K73, P73_0, P73_1, P73_2, P73_3, P73_4⟩ := hQ73
    have C74 := C72.trans (CHr.keep K73 (allS (Safe.exa hZ.alike P71_0 (by decide) (by decide)) (allS (own_safeV hZ.alike P71_4 (by decide)) all0)) C72.1)
    have N73 := Fr.app N71 N73q
    refine own_go ?_ (fun _ hr => st73.trans (XS.pop X73.here hx rfl (hb hby at_76) rfl rfl (XS.iload X73.here hx rfl (hb hby at_77) rfl (XS.iconst X73.here hx rfl (hb hby at_79) (XS.icmpYes X73.here hx rfl (pc0 := 80) (pc' := 91) rfl (hb hby at_80) rfl (flt (by decide : ¬ ((3 : Int32) < (3 : Int32)))).2.2.2 (by decide) (by decide) hr)))))
    show own_H (T73.setTop (mkF m 91 #[iv p1, iv p2, iv p3, iv p4, iv p5, iv p6, iv (3 : Int32), rv b1_0, rv b3_0, rv b5_0, rv b7_0, rv b9, .unset, .unset, .unset, .unset, .unset] []))
    obtain ⟨T75, h75, X75, e75, E75, A75, D75, -, st75⟩ := newO X73 hx hZ hown (hw _ (tm 26 rfl)) (hw _ (tm 27 rfl)) (hw _ (tm 28 rfl)) rfl (g := (mkF m 91 #[iv p1, iv p2, iv p3, iv p4, iv p5, iv p6, iv (3 : Int32), rv b1_0, rv b3_0, rv b5_0, rv b7_0, rv b9, .unset, .unset, .unset, .unset, .unset] [])) rfl (hb hby at_91) (by decide) (by decide)
    obtain ⟨b75, g75⟩ : ∃ z, z = T73.heap.size := ⟨_, rfl⟩
    rw [← g75] at A75 D75 st75
    have g_b75 : n0 ≤ b75 := ltr (ltr (ltr (ltr (ltr (ltr (ltr (ltr (ltr (ltr Z0 K1.1) K3.1) K5.1) K7.1) E9.1) K11.1) K13.1) K71.1) K73.1) (leq g75.symm)
    have C76 := C74.trans (CHr.ext E75 C74.1)
    have F75_46 : Fld Z h75 b75 "java/util/AbstractList" "modCount" "I" (.int (0 : Int32)) := D75 (Or.inl (hw _ (tm 46 rfl))) (ty := .int) (by decide)
    have F75_49 : Fld Z h75 b75 "java/util/ArrayList" "elementData" "[Ljava/lang/Object;" .null := D75 (Or.inl (hw _ (tm 49 rfl))) (ty := (.array (.object "java/lang/Object"))) (by decide)
    have F75_58 : Fld Z h75 b75 "java/util/ArrayList" "size" "I" (.int (0 : Int32)) := D75 (Or.inl (hw _ (tm 58 rfl))) (ty := .int) (by decide)
    refine own_go ?_ (fun _ hr => st75 _ (XS.dup X75.here hx rfl (hb hby at_94) rfl rfl hr))
    show own_H (T75.setTop (mkF m 95 #[iv p1, iv p2, iv p3, iv p4, iv p5, iv p6, iv (3 : Int32), rv b1_0, rv b3_0, rv b5_0, rv b7_0, rv b9, .unset, .unset, .unset, .unset, .unset] [(.ref b75), (.ref b75)]))
    obtain ⟨_, _, ⟨T77, L77, k77, n77⟩, -, X77, ⟨Lc77, hQ77, l77, y77, z77⟩, st77⟩ := X75.specialBack hx (y := y9_) rfl hown (mvT hZ (hw _ (tm 29 rfl))) (mvT hZ (hw _ (tm 30 rfl))) (mvT hZ (hw _ (tm 31 rfl))) (by decide) (backOf (W := 1) (rm5 l Z a0 hw [] b75 (.int (0 : Int32)) (.null) (.int (0 : Int32)) wE h75 n0 (ltr (ltr (ltr (ltr (ltr (ltr (ltr (ltr (ltr (ltr Z0 K1.1) K3.1) K5.1) K7.1) E9.1) K11.1) K13.1) K71.1) K73.1) E75.1) A75 F75_46 F75_49 F75_58 g_b75 ((((((((((hold.keep K1 all0).keep K3 all0).keep K5 all0).keep K7 all0).ext E9).keep K11 (allS g_b9 all0)).keep K13 (allS g_b9 all0)).keep K71 (allS g_b9 (allS g_b13_0 all0))).keep K73 (allS g_b9 (allS g_b13_0 all0))).ext E75) S_DEFAULTCAPACITY_EMPTY_ELEMENTDATA) hZ (hw _ (tm 31 rfl)) (hw _ (tm 28 rfl)) (by decide) (by decide)) (g := (mkF m 95 #[iv p1, iv p2, iv p3, iv p4, iv p5, iv p6, iv (3 : Int32), rv b1_0, rv b3_0, rv b5_0, rv b7_0, rv b9, .unset, .unset, .unset, .unset, .unset] [(.ref b75), (.ref b75)])) rfl (by rw [hml]; rfl) (Steps.refl _) (a := b75) (argsL := []) (rest := [(.ref b75)]) (lenOf pd___V rfl) rfl (by show 2 * 0 + _ ≤ _; exact Nat.le_of_eq rfl) (hb hby at_95) (fun _ _ => ⟨rfl, e75, (by decide : 27 + 0 ≤ _), (by decide : 64 + 0 ≤ _)⟩)
    dsimp only [Pt.U, Pt.locs, Pt.cells, Pt.slots] at X77 l77 y77 z77 st77 hQ77
    subst l77 y77 z77
    obtain ⟨rfl, N77q, K77, P77_0, P77_1, P77_2, P77_3⟩ := hQ77
    have C78 := C76.trans (CHr.keep K77 (allS (Safe.exa hZ.alike A75 (by decide) (by decide)) all0) C76.1)
    have N77 := Fr.app N73 N77q
    refine own_go ?_ (fun _ hr => st77.trans (XS.astore X77.here hx rfl (hb hby at_98) rfl rfl (l' := #[iv p1, iv p2, iv p3, iv p4, iv p5, iv p6, iv (3 : Int32), rv b1_0, rv b3_0, rv b5_0, rv b7_0, rv b9, rv b75, .unset, .unset, .unset, .unset]) rfl (XS.aload X77.here hx rfl (hb hby at_100) rfl rfl hr)))
    show own_H (T77.setTop (mkF m 102 #[iv p1, iv p2, iv p3, iv p4, iv p5, iv p6, iv (3 : Int32), rv b1_0, rv b3_0, rv b5_0, rv b7_0, rv b9, rv b75, .unset, .unset, .unset, .unset] [(.ref b75)]))
    obtain ⟨c79, T79, h79, k79, d79, kd79, X79, e79, E79, hS79, hk79, hZ, hown, P79_0, P79_1, P79_2, P79_3, lc79, ld79, H79c, L79, hne79, st79⟩ := ldcCH (s := s) (vm0 := T7.vm) X77 hx hZ hown (hw _ (tm 81 rfl)) wS rfl hS7 (ltr (ltr (ltr (ltr (ltr (ltr (ltr (Nat.le_refl _) E9.1) K11.1) K13.1) K71.1) K73.1) E75.1) K77.1) hEL (List.mem_of_getElem? (i := 0) rfl) C78.1 (vs := [(.int (104 : Int32)), (.int (101 : Int32)), (.int (97 : Int32)), (.int (100 : Int32)), (.int (101 : Int32)), (.int (114 : Int32)), (.int (45 : Int32)), (.int (110 : Int32)), (.int (97 : Int32)), (.int (109 : Int32)), (.int (101 : Int32)), (.int (45 : Int32)), (.int (48 : Int32))]) (z := (13 : Int32)) ⟨by decide, rfl⟩ (by decide) rfl (g := (mkF m 102 #[iv p1, iv p2, iv p3, iv p4, iv p5, iv p6, iv (3 : Int32), rv b1_0, rv b3_0, rv b5_0, rv b7_0, rv b9, rv b75, .unset, .unset, .unset, .unset] [(.ref b75)])) rfl (hb hby at_102) (n := 52) (by decide) (by decide) (by decide) (by decide)
    have C80 := C78.trans H79c
    refine own_go ?_ (fun _ hr => st79 _ hr)
    show own_H (T79.setTop (mkF m 104 #[iv p1, iv p2, iv p3, iv p4, iv p5, iv p6, iv (3 : Int32), rv b1_0, rv b3_0, rv b5_0, rv b7_0, rv b9, rv b75, .unset, .unset, .unset, .unset] [(.ref c79), (.ref b75)]))
    obtain ⟨cq81, kq81, q81a, q81b, q81c⟩ := isOf hZ e79 (P77_0.ext E79)
    obtain ⟨_, _, ⟨T81, L81, k81, n81⟩, -, X81, ⟨Lc81, hQ81, l81, y81, z81⟩, st81⟩ := X79.virtualBack hx (y := y14_) (z := y14_) hown (mvT hZ (hw _ (tm 50 rfl))) (mvT hZ (hw _ (tm 51 rfl))) (notFace_of_selects (args := #[]) (mvT hZ (hw _ (tm 53 rfl)))) (mvT hZ (hw _ (tm 53 rfl))) (mvT hZ (hw _ (tm 52 rfl))) (by decide) (backOf (W := 0) (rm_add1_0 l Z a0 hw [] b75 c79 (0 : Int32) wE kE h79 n0 (ltr (ltr (ltr (ltr (ltr (ltr (ltr (ltr (ltr (ltr (ltr (ltr Z0 K1.1) K3.1) K5.1) K7.1) E9.1) K11.1) K13.1) K71.1) K73.1) E75.1) K77.1) E79.1) (P77_0.ext E79) (P77_1.ext E79) (P77_2.ext E79) (P77_3.ext E79) g_b75 ((((((((((((hold.keep K1 all0).keep K3 all0).keep K5 all0).keep K7 all0).ext E9).keep K11 (allS g_b9 all0)).keep K13 (allS g_b9 all0)).keep K71 (allS g_b9 (allS g_b13_0 all0))).keep K73 (allS g_b9 (allS g_b13_0 all0))).ext E75).keep K77 (allS g_b75 all0)).ext E79) S_DEFAULTCAPACITY_EMPTY_ELEMENTDATA V_wE P79_0) hZ (hw _ (tm 54 rfl)) (hw _ (tm 28 rfl)) (by decide) (by decide)) q81a q81c (g := (mkF m 104 #[iv p1, iv p2, iv p3, iv p4, iv p5, iv p6, iv (3 : Int32), rv b1_0, rv b3_0, rv b5_0, rv b7_0, rv b9, rv b75, .unset, .unset, .unset, .unset] [(.ref c79), (.ref b75)])) rfl (by rw [hml]; rfl) (Steps.refl _) (argsL := [(.ref c79)]) (rest := []) (lenOf pd__Ljava_lang_Object__Z rfl) rfl (by show 2 * 0 + _ ≤ _; exact Nat.le_of_eq rfl) (hb hby at_104) (fun _ _ => ⟨rfl, e79, (by decide : 29 + 1 ≤ _), (by decide : 120 + 10 ≤ _)⟩)
    dsimp only [Pt.U, Pt.locs, Pt.cells, Pt.slots] at X81 l81 y81 z81 st81 hQ81
    subst l81 y81 z81
    obtain ⟨b81_0, kb81_1, rfl, N81q, K81, yb81_0, P81_0, P81_1, P81_2, P81_3, P81_4, P81_5, P81_6⟩ := hQ81
    have g_b81_0 : n0 ≤ b81_0 := ltr (ltr (ltr (ltr (ltr (ltr (ltr (ltr (ltr (ltr (ltr (ltr (ltr Z0 K1.1) K3.1) K5.1) K7.1) E9.1) K11.1) K13.1) K71.1) K73.1) E75.1) K77.1) E79.1) yb81_0
    have C82 := C80.trans (CHr.keep K81 (allS (Safe.exa hZ.alike (P77_0.ext E79) (by decide) (by decide)) all0) C80.1)
    have N81 := Fr.app N77 N81q
    refine own_go ?_ (fun _ hr => st81.trans (XS.pop X81.here hx rfl (hb hby at_107) rfl rfl (XS.aload X81.here hx rfl (hb hby at_108) rfl rfl hr)))
    show own_H (T81.setTop (mkF m 110 #[iv p1, iv p2, iv p3, iv p4, iv p5, iv p6, iv (3 : Int32), rv b1_0, rv b3_0, rv b5_0, rv b7_0, rv b9, rv b75, .unset, .unset, .unset, .unset] [(.ref b75)]))
    obtain ⟨c83, T83, h83, k83, d83, kd83, X83, e83, E83, hS83, hk83, hZ, hown, P83_0, P83_1, P83_2, P83_3, lc83, ld83, H83c, L83, hne83, st83⟩ := ldcCH (s := s) (vm0 := T79.vm) X81 hx hZ hown (hw _ (tm 82 rfl)) wS rfl hS79 (ltr hk79 K81.1) hEL (List.mem_of_getElem? (i := 1) rfl) C82.1 (vs := [(.int (104 : Int32)), (.int (101 : Int32)), (.int (97 : Int32)), (.int (100 : Int32)), (.int (101 : Int32)), (.int (114 : Int32)), (.int (45 : Int32)), (.int (110 : Int32)), (.int (97 : Int32)), (.int (109 : Int32)), (.int (101 : Int32)), (.int (45 : Int32)), (.int (49 : Int32))]) (z := (13 : Int32)) ⟨by decide, rfl⟩ (by decide) rfl (g := (mkF m 110 #[iv p1, iv p2, iv p3, iv p4, iv p5, iv p6, iv (3 : Int32), rv b1_0, rv b3_0, rv b5_0, rv b7_0, rv b9, rv b75, .unset, .unset, .unset, .unset] [(.ref b75)])) rfl (hb hby at_110) (n := 52) (by decide) (by decide) (by decide) (by decide)
    have C84 := C82.trans H83c
    refine own_go ?_ (fun _ hr => st83 _ hr)
    show own_H (T83.setTop (mkF m 112 #[iv p1, iv p2, iv p3, iv p4, iv p5, iv p6, iv (3 : Int32), rv b1_0, rv b3_0, rv b5_0, rv b7_0, rv b9, rv b75, .unset, .unset, .unset, .unset] [(.ref c83), (.ref b75)]))
    obtain ⟨cq85, kq85, q85a, q85b, q85c⟩ := isOf hZ e83 (P81_0.ext E83)
    obtain ⟨_, _, ⟨T85, L85, k85, n85⟩, -, X85, ⟨Lc85, hQ85, l85, y85, z85⟩, st85⟩ := X83.virtualBack hx (y := y14_) (z := y14_) hown (mvT hZ (hw _ (tm 50 rfl))) (mvT hZ (hw _ (tm 51 rfl))) (notFace_of_selects (args := #[]) (mvT hZ (hw _ (tm 53 rfl)))) (mvT hZ (hw _ (tm 53 rfl))) (mvT hZ (hw _ (tm 52 rfl))) (by decide) (backOf (W := 0) (rm_add1_1 l Z a0 hw [] b75 c83 ((0 : Int32) + (1 : Int32)) b81_0 kb81_1 c79 h83 n0 (ltr (ltr (ltr (ltr (ltr (ltr (ltr (ltr (ltr (ltr (ltr (ltr (ltr (ltr Z0 K1.1) K3.1) K5.1) K7.1) E9.1) K11.1) K13.1) K71.1) K73.1) E75.1) K77.1) E79.1) K81.1) E83.1) (P81_0.ext E83) (P81_1.ext E83) (P81_2.ext E83) (P81_3.ext E83) (P81_4.ext E83) P81_6 P83_0 g_b75 g_b81_0 (Nat.ne_of_lt (Nat.lt_of_lt_of_le A75.lt (ltr K77.1 (ltr E79.1 yb81_0))))) hZ (hw _ (tm 54 rfl)) (hw _ (tm 28 rfl)) (by decide) (by decide)) q85a q85c (g := (mkF m 112 #[iv p1, iv p2, iv p3, iv p4, iv p5, iv p6, iv (3 : Int32), rv b1_0, rv b3_0, rv b5_0, rv b7_0, rv b9, rv b75, .unset, .unset, .unset, .unset] [(.ref c83), (.ref b75)])) rfl (by rw [hml]; rfl) (Steps.refl _) (argsL := [(.ref c83)]) (rest := []) (lenOf pd__Ljava_lang_Object__Z rfl) rfl (by show 2 * 0 + _ ≤ _; exact Nat.le_of_eq rfl) (hb hby at_112) (fun _ _ => ⟨rfl, e83, (by decide : 32 + 0 ≤ _), (by decide : 186 + 0 ≤ _)⟩)
    dsimp only [Pt.U, Pt.locs, Pt.cells, Pt.slots] at X85 l85 y85 z85 st85 hQ85
    subst l85 y85 z85
    obtain ⟨rfl, N85q, K85, P85_0, P85_1, P85_2, P85_3, P85_4⟩ := hQ85
    have C86 := C84.trans (CHr.keep K85 (allS (Safe.exa hZ.alike (P81_0.ext E83) (by decide) (by decide)) (allS (own_safeV hZ.alike (P81_4.ext E83) (by decide)) all0)) C84.1)
    have N85 := Fr.app N81 N85q
    refine own_go ?_ (fun _ hr => st85.trans (XS.pop X85.here hx rfl (hb hby at_115) rfl rfl (XS.aload X85.here hx rfl (hb hby at_116) rfl rfl hr)))
    show own_H (T85.setTop (mkF m 118 #[iv p1, iv p2, iv p3, iv p4, iv p5, iv p6, iv (3 : Int32), rv b1_0, rv b3_0, rv b5_0, rv b7_0, rv b9, rv b75, .unset, .unset, .unset, .unset] [(.ref b75)]))
    obtain ⟨c87, T87, h87, k87, d87, kd87, X87, e87, E87, hS87, hk87, hZ, hown, P87_0, P87_1, P87_2, P87_3, lc87, ld87, H87c, L87, hne87, st87⟩ := ldcCH (s := s) (vm0 := T83.vm) X85 hx hZ hown (hw _ (tm 83 rfl)) wS rfl hS83 (ltr hk83 K85.1) hEL (List.mem_of_getElem? (i := 2) rfl) C86.1 (vs := [(.int (104 : Int32)), (.int (101 : Int32)), (.int (97 : Int32)), (.int (100 : Int32)), (.int (101 : Int32)), (.int (114 : Int32)), (.int (45 : Int32)), (.int (110 : Int32)), (.int (97 : Int32)), (.int (109 : Int32)), (.int (101 : Int32)), (.int (45 : Int32)), (.int (50 : Int32))]) (z := (13 : Int32)) ⟨by decide, rfl⟩ (by decide) rfl (g := (mkF m 118 #[iv p1, iv p2, iv p3, iv p4, iv p5, iv p6, iv (3 : Int32), rv b1_0, rv b3_0, rv b5_0, rv b7_0, rv b9, rv b75, .unset, .unset, .unset, .unset] [(.ref b75)])) rfl (hb hby at_118) (n := 52) (by decide) (by decide) (by decide) (by decide)
    have C88 := C86.trans H87c
    refine own_go ?_ (fun _ hr => st87 _ hr)
    show own_H (T87.setTop (mkF m 120 #[iv p1, iv p2, iv p3, iv p4, iv p5, iv p6, iv (3 : Int32), rv b1_0, rv b3_0, rv b5_0, rv b7_0, rv b9, rv b75, .unset, .unset, .unset, .unset] [(.ref c87), (.ref b75)]))
    obtain ⟨cq89, kq89, q89a, q89b, q89c⟩ := isOf hZ e87 (P85_0.ext E87)
    obtain ⟨_, _, ⟨T89, L89, k89, n89⟩, -, X89, ⟨Lc89, hQ89, l89, y89, z89⟩, st89⟩ := X87.virtualBack hx (y := y14_) (z := y14_) hown (mvT hZ (hw _ (tm 50 rfl))) (mvT hZ (hw _ (tm 51 rfl))) (notFace_of_selects (args := #[]) (mvT hZ (hw _ (tm 53 rfl)))) (mvT hZ (hw _ (tm 53 rfl))) (mvT hZ (hw _ (tm 52 rfl))) (by decide) (backOf (W := 0) (rm_add1_2 l Z a0 hw [] b75 c87 (((0 : Int32) + (1 : Int32)) + (1 : Int32)) b81_0 kb81_1 c79 c83 h87 n0 (ltr (ltr (ltr (ltr (ltr (ltr (ltr (ltr (ltr (ltr (ltr (ltr (ltr (ltr (ltr (ltr Z0 K1.1) K3.1) K5.1) K7.1) E9.1) K11.1) K13.1) K71.1) K73.1) E75.1) K77.1) E79.1) K81.1) E83.1) K85.1) E87.1) (P85_0.ext E87) (P85_1.ext E87) (P85_2.ext E87) (P85_3.ext E87) (P85_4.ext E87) P81_6 P87_0 g_b75 g_b81_0 (Nat.ne_of_lt (Nat.lt_of_lt_of_le A75.lt (ltr K77.1 (ltr E79.1 yb81_0))))) hZ (hw _ (tm 54 rfl)) (hw _ (tm 28 rfl)) (by decide) (by decide)) q89a q89c (g := (mkF m 120 #[iv p1, iv p2, iv p3, iv p4, iv p5, iv p6, iv (3 : Int32), rv b1_0, rv b3_0, rv b5_0, rv b7_0, rv b9, rv b75, .unset, .unset, .unset, .unset] [(.ref c87), (.ref b75)])) rfl (by rw [hml]; rfl) (Steps.refl _) (argsL := [(.ref c87)]) (rest := []) (lenOf pd__Ljava_lang_Object__Z rfl) rfl (by show 2 * 0 + _ ≤ _; exact Nat.le_of_eq rfl) (hb hby at_120) (fun _ _ => ⟨rfl, e87, (by decide : 34 + 0 ≤ _), (by decide : 242 + 0 ≤ _)⟩)
    dsimp only [Pt.U, Pt.locs, Pt.cells, Pt.slots] at X89 l89 y89 z89 st89 hQ89
    subst l89 y89 z89
    obtain ⟨rfl, N89q, K89, P89_0, P89_1, P89_2, P89_3, P89_4⟩ := hQ89
    have C90 := C88.trans (CHr.keep K89 (allS (Safe.exa hZ.alike (P85_0.ext E87) (by decide) (by decide)) (allS (own_safeV hZ.alike (P85_4.ext E87) (by decide)) all0)) C88.1)
    have N89 := Fr.app N85 N89q
    refine own_go ?_ (fun _ hr => st89.trans (XS.pop X89.here hx rfl (hb hby at_123) rfl rfl (XS.aload X89.here hx rfl (hb hby at_124) rfl rfl hr)))
    show own_H (T89.setTop (mkF m 126 #[iv p1, iv p2, iv p3, iv p4, iv p5, iv p6, iv (3 : Int32), rv b1_0, rv b3_0, rv b5_0, rv b7_0, rv b9, rv b75, .unset, .unset, .unset, .unset] [(.ref b75)]))
    obtain ⟨c91, T91, h91, k91, d91, kd91, X91, e91, E91, hS91, hk91, hZ, hown, P91_0, P91_1, P91_2, P91_3, lc91, ld91, H91c, L91, hne91, st91⟩ := ldcCH (s := s) (vm0 := T87.vm) X89 hx hZ hown (hw _ (tm 84 rfl)) wS rfl hS87 (ltr hk87 K89.1) hEL (List.mem_of_getElem? (i := 3) rfl) C90.1 (vs := [(.int (104 : Int32)), (.int (101 : Int32)), (.int (97 : Int32)), (.int (100 : Int32)), (.int (101 : Int32)), (.int (114 : Int32)), (.int (45 : Int32)), (.int (110 : Int32)), (.int (97 : Int32)), (.int (109 : Int32)), (.int (101 : Int32)), (.int (45 : Int32)), (.int (51 : Int32))]) (z := (13 : Int32)) ⟨by decide, rfl⟩ (by decide) rfl (g := (mkF m 126 #[iv p1, iv p2, iv p3, iv p4, iv p5, iv p6, iv (3 : Int32), rv b1_0, rv b3_0, rv b5_0, rv b7_0, rv b9, rv b75, .unset, .unset, .unset, .unset] [(.ref b75)])) rfl (hb hby at_126) (n := 52) (by decide) (by decide) (by decide) (by decide)
    have C92 := C90.trans H91c
    refine own_go ?_ (fun _ hr => st91 _ hr)
    show own_H (T91.setTop (mkF m 128 #[iv p1, iv p2, iv p3, iv p4, iv p5, iv p6, iv (3 : Int32), rv b1_0, rv b3_0, rv b5_0, rv b7_0, rv b9, rv b75, .unset, .unset, .unset, .unset] [(.ref c91), (.ref b75)]))
    obtain ⟨cq93, kq93, q93a, q93b, q93c⟩ := isOf hZ e91 (P89_0.ext E91)
    obtain ⟨_, _, ⟨T93, L93, k93, n93⟩, -, X93, ⟨Lc93, hQ93, l93, y93, z93⟩, st93⟩ := X91.virtualBack hx (y := y14_) (z := y14_) hown (mvT hZ (hw _ (tm 50 rfl))) (mvT hZ (hw _ (tm 51 rfl))) (notFace_of_selects (args := #[]) (mvT hZ (hw _ (tm 53 rfl)))) (mvT hZ (hw _ (tm 53 rfl))) (mvT hZ (hw _ (tm 52 rfl))) (by decide) (backOf (W := 0) (rm_add1_3 l Z a0 hw [] b75 c91 ((((0 : Int32) + (1 : Int32)) + (1 : Int32)) + (1 : Int32)) b81_0 kb81_1 c79 c83 c87 h91 n0 (ltr (ltr (ltr (ltr (ltr (ltr (ltr (ltr (ltr (ltr (ltr (ltr (ltr (ltr (ltr (ltr (ltr (ltr Z0 K1.1) K3.1) K5.1) K7.1) E9.1) K11.1) K13.1) K71.1) K73.1) E75.1) K77.1) E79.1) K81.1) E83.1) K85.1) E87.1) K89.1) E91.1) (P89_0.ext E91) (P89_1.ext E91) (P89_2.ext E91) (P89_3.ext E91) (P89_4.ext E91) P81_6 P91_0 g_b75 g_b81_0 (Nat.ne_of_lt (Nat.lt_of_lt_of_le A75.lt (ltr K77.1 (ltr E79.1 yb81_0))))) hZ (hw _ (tm 54 rfl)) (hw _ (tm 28 rfl)) (by decide) (by decide)) q93a q93c (g := (mkF m 128 #[iv p1, iv p2, iv p3, iv p4, iv p5, iv p6, iv (3 : Int32), rv b1_0, rv b3_0, rv b5_0, rv b7_0, rv b9, rv b75, .unset, .unset, .unset, .unset] [(.ref c91), (.ref b75)])) rfl (by rw [hml]; rfl) (Steps.refl _) (argsL := [(.ref c91)]) (rest := []) (lenOf pd__Ljava_lang_Object__Z rfl) rfl (by show 2 * 0 + _ ≤ _; exact Nat.le_of_eq rfl) (hb hby at_128) (fun _ _ => ⟨rfl, e91, (by decide : 36 + 0 ≤ _), (by decide : 298 + 0 ≤ _)⟩)
    dsimp only [Pt.U, Pt.locs, Pt.cells, Pt.slots] at X93 l93 y93 z93 st93 hQ93
    subst l93 y93 z93
    obtain ⟨rfl, N93q, K93, P93_0, P93_1, P93_2, P93_3, P93_4⟩ := hQ93
    have C94 := C92.trans (CHr.keep K93 (allS (Safe.exa hZ.alike (P89_0.ext E91) (by decide) (by decide)) (allS (own_safeV hZ.alike (P89_4.ext E91) (by decide)) all0)) C92.1)
    have N93 := Fr.app N89 N93q
    refine own_go ?_ (fun _ hr => st93.trans (XS.pop X93.here hx rfl (hb hby at_131) rfl rfl hr))
    show own_H (T93.setTop (mkF m 132 #[iv p1, iv p2, iv p3, iv p4, iv p5, iv p6, iv (3 : Int32), rv b1_0, rv b3_0, rv b5_0, rv b7_0, rv b9, rv b75, .unset, .unset, .unset, .unset] []))
    obtain ⟨T95, h95, X95, e95, E95, A95, D95, -, st95⟩ := newO X93 hx hZ hown (hw _ (tm 85 rfl)) (hw _ (tm 86 rfl)) (hw _ (tm 87 rfl)) rfl (g := (mkF m 132 #[iv p1, iv p2, iv p3, iv p4, iv p5, iv p6, iv (3 : Int32), rv b1_0, rv b3_0, rv b5_0, rv b7_0, rv b9, rv b75, .unset, .unset, .unset, .unset] [])) rfl (hb hby at_132) (by decide) (by decide)
    obtain ⟨b95, g95⟩ : ∃ z, z = T93.heap.size := ⟨_, rfl⟩
    rw [← g95] at A95 D95 st95
    have g_b95 : n0 ≤ b95 := ltr (ltr (ltr (ltr (ltr (ltr (ltr (ltr (ltr (ltr (ltr (ltr (ltr (ltr (ltr (ltr (ltr (ltr (ltr (ltr Z0 K1.1) K3.1) K5.1) K7.1) E9.1) K11.1) K13.1) K71.1) K73.1) E75.1) K77.1) E79.1) K81.1) E83.1) K85.1) E87.1) K89.1) E91.1) K93.1) (leq g95.symm)
    have C96 := C94.trans (CHr.ext E95 C94.1)
    have F95_93 : Fld Z h95 b95 "java/util/AbstractList" "modCount" "I" (.int (0 : Int32)) := D95 (Or.inl (hw _ (tm 93 rfl))) (ty := .int) (by decide)
    have F95_181 : Fld Z h95 b95 "com/example/ninkasi/ninkasi/csv/CsvRecord" "fields" "Ljava/util/List;" .null := D95 (Or.inr (hw _ (tm 181 rfl))) (ty := (.object "java/util/List")) (by decide)
    have F95_202 : Fld Z h95 b95 "com/example/ninkasi/ninkasi/csv/CsvRecord" "fieldNames" "Ljava/util/List;" .null := D95 (Or.inr (hw _ (tm 202 rfl))) (ty := (.object "java/util/List")) (by decide)
    refine own_go ?_ (fun _ hr => st95 _ (XS.dup X95.here hx rfl (hb hby at_135) rfl rfl (XS.aload X95.here hx rfl (hb hby at_136) rfl rfl (XS.aload X95.here hx rfl (hb hby at_138) rfl rfl hr))))
    show own_H (T95.setTop (mkF m 140 #[iv p1, iv p2, iv p3, iv p4, iv p5, iv p6, iv (3 : Int32), rv b1_0, rv b3_0, rv b5_0, rv b7_0, rv b9, rv b75, .unset, .unset, .unset, .unset] [(.ref b75), (.ref b9), (.ref b95), (.ref b95)]))
    have ne_b9_b75 : b9 ≠ b75 := Nat.ne_of_lt (Nat.lt_of_lt_of_le A9.lt (ltr K11.1 (ltr K13.1 (ltr K71.1 (ltr K73.1 (leq g75.symm))))))
    have ne_b9_b81_0 : b9 ≠ b81_0 := Nat.ne_of_lt (Nat.lt_of_lt_of_le A9.lt (ltr K11.1 (ltr K13.1 (ltr K71.1 (ltr K73.1 (ltr E75.1 (ltr K77.1 (ltr E79.1 yb81_0))))))))
    have ne_b13_0_b75 : b13_0 ≠ b75 := Nat.ne_of_lt (Nat.lt_of_lt_of_le P13_4.lt (ltr K71.1 (ltr K73.1 (leq g75.symm))))
    have ne_b13_0_b81_0 : b13_0 ≠ b81_0 := Nat.ne_of_lt (Nat.lt_of_lt_of_le P13_4.lt (ltr K71.1 (ltr K73.1 (ltr E75.1 (ltr K77.1 (ltr E79.1 yb81_0))))))
    have ne_b9_b95 : b9 ≠ b95 := Nat.ne_of_lt (Nat.lt_of_lt_of_le A9.lt (ltr K11.1 (ltr K13.1 (ltr K71.1 (ltr K73.1 (ltr E75.1 (ltr K77.1 (ltr E79.1 (ltr K81.1 (ltr E83.1 (ltr K85.1 (ltr E87.1 (ltr K89.1 (ltr E91.1 (ltr K93.1 (leq g95.symm))))))))))))))))
    have ne_b75_b95 : b75 ≠ b95 := Nat.ne_of_lt (Nat.lt_of_lt_of_le A75.lt (ltr K77.1 (ltr E79.1 (ltr K81.1 (ltr E83.1 (ltr K85.1 (ltr E87.1 (ltr K89.1 (ltr E91.1 (ltr K93.1 (leq g95.symm)))))))))))
    have ne_b13_0_b95 : b13_0 ≠ b95 := Nat.ne_of_lt (Nat.lt_of_lt_of_le P13_4.lt (ltr K71.1 (ltr K73.1 (ltr E75.1 (ltr K77.1 (ltr E79.1 (ltr K81.1 (ltr E83.1 (ltr K85.1 (ltr E87.1 (ltr K89.1 (ltr E91.1 (ltr K93.1 (leq g95.symm))))))))))))))
    have ne_b81_0_b95 : b81_0 ≠ b95 := Nat.ne_of_lt (Nat.lt_of_lt_of_le P81_4.lt (ltr E83.1 (ltr K85.1 (ltr E87.1 (ltr K89.1 (ltr E91.1 (ltr K93.1 (leq g95.symm))))))))
    obtain ⟨_, _, ⟨T97, L97, k97, n97⟩, -, X97, ⟨Lc97, hQ97, l97, y97, z97⟩, st97⟩ := X95.specialBack hx (y := y32_) rfl hown (mvT hZ (hw _ (tm 88 rfl))) (mvT hZ (hw _ (tm 89 rfl))) (mvT hZ (hw _ (tm 90 rfl))) (by decide) (backOf (W := 1) (rm_rec_3 l Z a0 hw [] b95 b9 b75 (.int (0 : Int32)) (.null) (.null) b13_0 kb13_1 b81_0 kb81_1 mO b1_0 b3_0 b5_0 c79 c83 c87 c91 wM h95 n0 (ltr (ltr (ltr (ltr (ltr (ltr (ltr (ltr (ltr (ltr (ltr (ltr (ltr (ltr (ltr (ltr (ltr (ltr (ltr (ltr Z0 K1.1) K3.1) K5.1) K7.1) E9.1) K11.1) K13.1) K71.1) K73.1) E75.1) K77.1) E79.1) K81.1) E83.1) K85.1) E87.1) K89.1) E91.1) K93.1) E95.1) A95 F95_93 F95_181 F95_202 g_b95 (((((((((((P73_0.ext E75).keep K77).ext E79).keep K81).ext E83).keep K85).ext E87).keep K89).ext E91).keep K93).ext E95) (((((((((((P73_2.ext E75).keep K77 (ninS ne_b9_b75 nin0)).ext E79).keep K81 (ninS ne_b9_b75 nin0)).ext E83).keep K85 (ninS ne_b9_b75 (ninS ne_b9_b81_0 nin0))).ext E87).keep K89 (ninS ne_b9_b75 (ninS ne_b9_b81_0 nin0))).ext E91).keep K93 (ninS ne_b9_b75 (ninS ne_b9_b81_0 nin0))).ext E95) (((((((((((P73_3.ext E75).keep K77 (ninS ne_b9_b75 nin0)).ext E79).keep K81 (ninS ne_b9_b75 nin0)).ext E83).keep K85 (ninS ne_b9_b75 (ninS ne_b9_b81_0 nin0))).ext E87).keep K89 (ninS ne_b9_b75 (ninS ne_b9_b81_0 nin0))).ext E91).keep K93 (ninS ne_b9_b75 (ninS ne_b9_b81_0 nin0))).ext E95) (((((((((((P73_4.ext E75).keep K77 (ninS ne_b13_0_b75 nin0)).ext E79).keep K81 (ninS ne_b13_0_b75 nin0)).ext E83).keep K85 (ninS ne_b13_0_b75 (ninS ne_b13_0_b81_0 nin0))).ext E87).keep K89 (ninS ne_b13_0_b75 (ninS ne_b13_0_b81_0 nin0))).ext E91).keep K93 (ninS ne_b13_0_b75 (ninS ne_b13_0_b81_0 nin0))).ext E95) (((((((((((((P13_5.keep K71).keep K73).ext E75).keep K77).ext E79).keep K81).ext E83).keep K85).ext E87).keep K89).ext E91).keep K93).ext E95) (((((((((((((((((((P1_0.keep K3).keep K5).keep K7).ext E9).keep K11).keep K13).keep K71).keep K73).ext E75).keep K77).ext E79).keep K81).ext E83).keep K85).ext E87).keep K89).ext E91).keep K93).ext E95) ((((((((((((((((((P3_0.keep K5).keep K7).ext E9).keep K11).keep K13).keep K71).keep K73).ext E75).keep K77).ext E79).keep K81).ext E83).keep K85).ext E87).keep K89).ext E91).keep K93).ext E95) (((((((((((((((((P5_0.keep K7).ext E9).keep K11).keep K13).keep K71).keep K73).ext E75).keep K77).ext E79).keep K81).ext E83).keep K85).ext E87).keep K89).ext E91).keep K93).ext E95) mir_mO (P93_0.ext E95) (P93_2.ext E95) (P93_3.ext E95) (P93_4.ext E95) (((((((P81_5.ext E83).keep K85).ext E87).keep K89).ext E91).keep K93).ext E95) ((((((((P79_0.keep K81).ext E83).keep K85).ext E87).keep K89).ext E91).keep K93).ext E95) ((((((P83_0.keep K85).ext E87).keep K89).ext E91).keep K93).ext E95) ((((P87_0.keep K89).ext E91).keep K93).ext E95) ((P91_0.keep K93).ext E95) ((((((((((((((((((((hold.keep K1 all0).keep K3 all0).keep K5 all0).keep K7 all0).ext E9).keep K11 (allS g_b9 all0)).keep K13 (allS g_b9 all0)).keep K71 (allS g_b9 (allS g_b13_0 all0))).keep K73 (allS g_b9 (allS g_b13_0 all0))).ext E75).keep K77 (allS g_b75 all0)).ext E79).keep K81 (allS g_b75 all0)).ext E83).keep K85 (allS g_b75 (allS g_b81_0 all0))).ext E87).keep K89 (allS g_b75 (allS g_b81_0 all0))).ext E91).keep K93 (allS g_b75 (allS g_b81_0 all0))).ext E95) S_EMPTY ne_b9_b95 ne_b75_b95 ne_b13_0_b95 ne_b81_0_b95) hZ (hw _ (tm 90 rfl)) (hw _ (tm 87 rfl)) (by decide) (by decide)) (g := (mkF m 140 #[iv p1, iv p2, iv p3, iv p4, iv p5, iv p6, iv (3 : Int32), rv b1_0, rv b3_0, rv b5_0, rv b7_0, rv b9, rv b75, .unset, .unset, .unset, .unset] [(.ref b75), (.ref b9), (.ref b95), (.ref b95)])) rfl (by rw [hml]; rfl) (Steps.refl _) (a := b95) (argsL := [(.ref b9), (.ref b75)]) (rest := [(.ref b95)]) (lenOf pd__Ljava_util_List_Ljava_util_List__V rfl) rfl (by show 2 * 0 + _ ≤ _; exact Nat.le_of_eq rfl) (hb hby at_140) (fun _ _ => ⟨rfl, e95, (by decide : 37 + 6 ≤ _), (by decide : 301 + 18 ≤ _)⟩)
    dsimp only [Pt.U, Pt.locs, Pt.cells, Pt.slots] at X97 l97 y97 z97 st97 hQ97
    subst l97 y97 z97
    obtain ⟨b97_0, b97_1, kb97_2, rfl, N97q, K97, yb97_0, yb97_1, P97_0, P97_1, P97_2, P97_3, P97_4⟩ := hQ97
    have g_b97_0 : n0 ≤ b97_0 := ltr (ltr (ltr (ltr (ltr (ltr (ltr (ltr (ltr (ltr (ltr (ltr (ltr (ltr (ltr (ltr (ltr (ltr (ltr (ltr (ltr Z0 K1.1) K3.1) K5.1) K7.1) E9.1) K11.1) K13.1) K71.1) K73.1) E75.1) K77.1) E79.1) K81.1) E83.1) K85.1) E87.1) K89.1) E91.1) K93.1) E95.1) yb97_0
    have g_b97_1 : n0 ≤ b97_1 := ltr (ltr (ltr (ltr (ltr (ltr (ltr (ltr (ltr (ltr (ltr (ltr (ltr (ltr (ltr (ltr (ltr (ltr (ltr (ltr (ltr Z0 K1.1) K3.1) K5.1) K7.1) E9.1) K11.1) K13.1) K71.1) K73.1) E75.1) K77.1) E79.1) K81.1) E83.1) K85.1) E87.1) K89.1) E91.1) K93.1) E95.1) yb97_1
    have C98 := C96.trans (CHr.keep K97 (allS (Safe.exa hZ.alike A95 (by decide) (by decide)) all0) C96.1)
    have N97 := Fr.app N93 N97q
    refine own_go ?_ (fun _ hr => st97.trans (XS.astore X97.here hx rfl (hb hby at_143) rfl rfl (l' := #[iv p1, iv p2, iv p3, iv p4, iv p5, iv p6, iv (3 : Int32), rv b1_0, rv b3_0, rv b5_0, rv b7_0, rv b9, rv b75, rv b95, .unset, .unset, .unset]) rfl (XS.iload X97.here hx rfl (hb hby at_145) rfl (X97.ldcI hx hown (mvT hZ (hw _ (tm 203 rfl))) rfl (hb hby at_147) (XS.iand X97.here hx rfl (hb hby at_149) rfl (XS.iload X97.here hx rfl (hb hby at_150) rfl (iremM X97 hx rfl (hb hby at_152) rfl (by decide) hr)))))))
    show own_H (T97.setTop (mkF m 153 #[iv p1, iv p2, iv p3, iv p4, iv p5, iv p6, iv (3 : Int32), rv b1_0, rv b3_0, rv b5_0, rv b7_0, rv b9, rv b75, rv b95, .unset, .unset, .unset] [(.int ((p6 &&& (2147483647 : Int32)) % (3 : Int32)))]))
    rcases own_md3 p6 with hs153_0 | hs153_1 | hs153_2
    ·
      rw [hs153_0]
      show own_H (T97.setTop (mkF m 153 #[iv p1, iv p2, iv p3, iv p4, iv p5, iv p6, iv (3 : Int32), rv b1_0, rv b3_0, rv b5_0, rv b7_0, rv b9, rv b75, rv b95, .unset, .unset, .unset] [(.int (0 : Int32))]))
      refine own_go ?_ (fun _ hr => XS.istore X97.here hx rfl (hb hby at_153) rfl (l' := #[iv p1, iv p2, iv p3, iv p4, iv p5, iv p6, iv (3 : Int32), rv b1_0, rv b3_0, rv b5_0, rv b7_0, rv b9, rv b75, rv b95, iv (0 : Int32), .unset, .unset]) rfl (XS.iload X97.here hx rfl (hb hby at_155) rfl (XS.ifNo X97.here hx rfl (hb hby at_157) rfl ((if0 _ _).trans (teq (by decide : (0 : Int32) = (0 : Int32))).2) (XS.aload X97.here hx rfl (hb hby at_160) rfl rfl (XS.astore X97.here hx rfl (hb hby at_162) rfl rfl (l' := #[iv p1, iv p2, iv p3, iv p4, iv p5, iv p6, iv (3 : Int32), rv b1_0, rv b3_0, rv b5_0, rv b7_0, rv b9, rv b75, rv b95, iv (0 : Int32), rv b1_0, .unset]) rfl (XS.goto X97.here hx rfl (pc0 := 164) (pc' := 197) rfl (hb hby at_164) (by decide) (by decide) (XS.aload X97.here hx rfl (hb hby at_197) rfl rfl (XS.iload X97.here hx rfl (hb hby at_199) rfl hr))))))))
      show own_H (T97.setTop (mkF m 201 #[iv p1, iv p2, iv p3, iv p4, iv p5, iv p6, iv (3 : Int32), rv b1_0, rv b3_0, rv b5_0, rv b7_0, rv b9, rv b75, rv b95, iv (0 : Int32), rv b1_0, .unset] [(.int (0 : Int32)), (.ref b95)]))
      obtain ⟨cq99, kq99, q99a, q99b, q99c⟩ := isOf hZ rfl P97_0
      obtain ⟨_, _, ⟨T99, L99, k99, n99⟩, -, X99, ⟨Lc99, hQ99, l99, y99, z99⟩, st99⟩ := X97.virtualBack hx (y := y34_) (z := y34_) hown (mvT hZ (hw _ (tm 204 rfl))) (mvT hZ (hw _ (tm 205 rfl))) (notFace_of_selects (args := #[]) (mvT hZ (hw _ (tm 207 rfl)))) (mvT hZ (hw _ (tm 207 rfl))) (mvT hZ (hw _ (tm 206 rfl))) (by decide) (backOf (W := 0) (rm_rget_3_0 l Z a0 hw [] b95 b97_0 b1_0 b3_0 b5_0 b97_1 kb97_2 T97.heap n0 (ltr (ltr (ltr (ltr (ltr (ltr (ltr (ltr (ltr (ltr (ltr (ltr (ltr (ltr (ltr (ltr (ltr (ltr (ltr (ltr (ltr Z0 K1.1) K3.1) K5.1) K7.1) E9.1) K11.1) K13.1) K71.1) K73.1) E75.1) K77.1) E79.1) K81.1) E83.1) K85.1) E87.1) K89.1) E91.1) K93.1) E95.1) K97.1) P97_1 P97_2 P97_3 P97_4 ((((((((((((((((((((P1_0.keep K3).keep K5).keep K7).ext E9).keep K11).keep K13).keep K71).keep K73).ext E75).keep K77).ext E79).keep K81).ext E83).keep K85).ext E87).keep K89).ext E91).keep K93).ext E95).keep K97)) hZ (hw _ (tm 208 rfl)) (hw _ (tm 87 rfl)) (by decide) (by decide)) q99a q99c (g := (mkF m 201 #[iv p1, iv p2, iv p3, iv p4, iv p5, iv p6, iv (3 : Int32), rv b1_0, rv b3_0, rv b5_0, rv b7_0, rv b9, rv b75, rv b95, iv (0 : Int32), rv b1_0, .unset] [(.int (0 : Int32)), (.ref b95)])) rfl (by rw [hml]; rfl) (Steps.refl _) (argsL := [(.int (0 : Int32))]) (rest := []) (lenOf pd__I_Ljava_lang_String_ rfl) rfl (by show 2 * 0 + _ ≤ _; exact Nat.le_of_eq rfl) (hb hby at_201) (fun _ _ => ⟨rfl, rfl, (by decide : 43 + 0 ≤ _), (by decide : 319 + 0 ≤ _)⟩)
      dsimp only [Pt.U, Pt.locs, Pt.cells, Pt.slots] at X99 l99 y99 z99 st99 hQ99
      subst l99 y99 z99
      obtain ⟨rfl, N99q, e99⟩ := hQ99
      have N99 := Fr.app N97 N99q
      refine own_go ?_ (fun _ hr => st99.trans (XS.astore X99.here hx rfl (hb hby at_204) rfl rfl (l' := #[iv p1, iv p2, iv p3, iv p4, iv p5, iv p6, iv (3 : Int32), rv b1_0, rv b3_0, rv b5_0, rv b7_0, rv b9, rv b75, rv b95, iv (0 : Int32), rv b1_0, rv b1_0]) rfl (XS.aload X99.here hx rfl (hb hby at_206) rfl rfl (XS.ifnullNo X99.here hx rfl (hb hby at_208) rfl (XS.aload X99.here hx rfl (hb hby at_211) rfl rfl (XS.aload X99.here hx rfl (hb hby at_213) rfl rfl hr))))))
      show own_H (T99.setTop (mkF m 215 #[iv p1, iv p2, iv p3, iv p4, iv p5, iv p6, iv (3 : Int32), rv b1_0, rv b3_0, rv b5_0, rv b7_0, rv b9, rv b75, rv b95, iv (0 : Int32), rv b1_0, rv b1_0] [(.ref b1_0), (.ref b1_0)]))
      obtain ⟨cq100, kq100, q100a, q100b, q100c⟩ := isOf hZ e99 ((((((((((((((((((((P1_0.keep K3).keep K5).keep K7).ext E9).keep K11).keep K13).keep K71).keep K73).ext E75).keep K77).ext E79).keep K81).ext E83).keep K85).ext E87).keep K89).ext E91).keep K93).ext E95).keep K97)
      obtain ⟨_, _, ⟨T100, L100, k100, n100⟩, -, X100, ⟨Lc100, hQ100, l100, y100, z100⟩, st100⟩ := X99.virtualBack hx (y := y37_) (z := y37_) hown (mvT hZ (hw _ (tm 219 rfl))) (mvT hZ (hw _ (tm 220 rfl))) (notFace_of_selects (args := #[]) (mvT hZ (hw _ (tm 222 rfl)))) (mvT hZ (hw _ (tm 222 rfl))) (mvT hZ (hw _ (tm 221 rfl))) (by decide) (backOf (W := 0) (rm_eq l Z a0 hw [] b1_0 T97.heap n0 (ltr (ltr (ltr (ltr (ltr (ltr (ltr (ltr (ltr (ltr (ltr (ltr (ltr (ltr (ltr (ltr (ltr (ltr (ltr (ltr (ltr Z0 K1.1) K3.1) K5.1) K7.1) E9.1) K11.1) K13.1) K71.1) K73.1) E75.1) K77.1) E79.1) K81.1) E83.1) K85.1) E87.1) K89.1) E91.1) K93.1) E95.1) K97.1) ) hZ (hw _ (tm 223 rfl)) (hw _ (tm 6 rfl)) (by decide) (by decide)) q100a q100c (g := (mkF m 215 #[iv p1, iv p2, iv p3, iv p4, iv p5, iv p6, iv (3 : Int32), rv b1_0, rv b3_0, rv b5_0, rv b7_0, rv b9, rv b75, rv b95, iv (0 : Int32), rv b1_0, rv b1_0] [(.ref b1_0), (.ref b1_0)])) rfl (by rw [hml]; rfl) (Steps.refl _) (argsL := [(.ref b1_0)]) (rest := []) (lenOf pd__Ljava_lang_Object__Z rfl) rfl (by show 2 * 0 + _ ≤ _; exact Nat.le_of_eq rfl) (hb hby at_215) (fun _ _ => ⟨rfl, e99, (by decide : 43 + 0 ≤ _), (by decide : 319 + 0 ≤ _)⟩)
      dsimp only [Pt.U, Pt.locs, Pt.cells, Pt.slots] at X100 l100 y100 z100 st100 hQ100
      subst l100 y100 z100
      obtain ⟨rfl, N100q, e100⟩ := hQ100
      have N100 := Fr.app N99 N100q
      refine own_go ?_ (fun _ hr => st100.trans (XS.ifNo X100.here hx rfl (hb hby at_218) rfl ((if0 _ _).trans (feq (by decide : ¬ ((1 : Int32) = (0 : Int32)))).1) (XS.iconst X100.here hx rfl (hb hby at_221) (XS.goto X100.here hx rfl (pc0 := 222) (pc' := 226) rfl (hb hby at_222) (by decide) (by decide) hr))))
      show own_H (T100.setTop (mkF m 226 #[iv p1, iv p2, iv p3, iv p4, iv p5, iv p6, iv (3 : Int32), rv b1_0, rv b3_0, rv b5_0, rv b7_0, rv b9, rv b75, rv b95, iv (0 : Int32), rv b1_0, rv b1_0] [(.int (1 : Int32))]))
      obtain ⟨fs, hr, hrun, hended, hRW⟩ := Stand.leaveW (s := s) (vm₁ := T91.vm) X100 hS91 (by rw [e100]; exact (ltr (ltr (ltr hk91 K93.1) E95.1) K97.1)) (v := some (.int (1 : Int32))) (fun h => by rw [Bd.returns] at h; cases h)
      have hCe := C98.trans (CHv.at (s := s) (vm0 := T91.vm) X100 hZ hEL C98.1)
      exact ⟨_, _, retN X100 hx (t := .boolean) Bd.returns (by simp) (hb hby at_226) hr, hrun, hended, _, _, rfl, ⟨rfl, N100, trivial⟩, (by rw [hh, show (T100.setFrames fs).heap = T97.heap from e100]; exact hCe), hRW.1, hRW.2.1, hRW.2.2.1, hRW.2.2.2.mono (by decide) (by decide)⟩
    ·
      rw [hs153_1]
      show own_H (T97.setTop (mkF m 153 #[iv p1, iv p2, iv p3, iv p4, iv p5, iv p6, iv (3 : Int32), rv b1_0, rv b3_0, rv b5_0, rv b7_0, rv b9, rv b75, rv b95, .unset, .unset, .unset] [(.int (1 : Int32))]))
      refine own_go ?_ (fun _ hr => XS.istore X97.here hx rfl (hb hby at_153) rfl (l' := #[iv p1, iv p2, iv p3, iv p4, iv p5, iv p6, iv (3 : Int32), rv b1_0, rv b3_0, rv b5_0, rv b7_0, rv b9, rv b75, rv b95, iv (1 : Int32), .unset, .unset]) rfl (XS.iload X97.here hx rfl (hb hby at_155) rfl (XS.ifYes X97.here hx rfl (pc0 := 157) (pc' := 167) rfl (hb hby at_157) rfl ((if0 _ _).trans (feq (by decide : ¬ ((1 : Int32) = (0 : Int32)))).2) (by decide) (by decide) (XS.iload X97.here hx rfl (hb hby at_167) rfl (XS.iconst X97.here hx rfl (hb hby at_169) (XS.icmpNo X97.here hx rfl (hb hby at_170) rfl (teq (by decide : (1 : Int32) = (1 : Int32))).2 (XS.aload X97.here hx rfl (hb hby at_173) rfl rfl (XS.astore X97.here hx rfl (hb hby at_175) rfl rfl (l' := #[iv p1, iv p2, iv p3, iv p4, iv p5, iv p6, iv (3 : Int32), rv b1_0, rv b3_0, rv b5_0, rv b7_0, rv b9, rv b75, rv b95, iv (1 : Int32), rv b3_0, .unset]) rfl hr))))))))
      show own_H (T97.setTop (mkF m 177 #[iv p1, iv p2, iv p3, iv p4, iv p5, iv p6, iv (3 : Int32), rv b1_0, rv b3_0, rv b5_0, rv b7_0, rv b9, rv b75, rv b95, iv (1 : Int32), rv b3_0, .unset] []))
      refine own_go ?_ (fun _ hr => XS.goto X97.here hx rfl (pc0 := 177) (pc' := 197) rfl (hb hby at_177) (by decide) (by decide) (XS.aload X97.here hx rfl (hb hby at_197) rfl rfl (XS.iload X97.here hx rfl (hb hby at_199) rfl hr)))
      show own_H (T97.setTop (mkF m 201 #[iv p1, iv p2, iv p3, iv p4, iv p5, iv p6, iv (3 : Int32), rv b1_0, rv b3_0, rv b5_0, rv b7_0, rv b9, rv b75, rv b95, iv (1 : Int32), rv b3_0, .unset] [(.int (1 : Int32)), (.ref b95)]))
      obtain ⟨cq101, kq101, q101a, q101b, q101c⟩ := isOf hZ rfl P97_0
      obtain ⟨_, _, ⟨T101, L101, k101, n101⟩, -, X101, ⟨Lc101, hQ101, l101, y101, z101⟩, st101⟩ := X97.virtualBack hx (y := y34_) (z := y34_) hown (mvT hZ (hw _ (tm 204 rfl))) (mvT hZ (hw _ (tm 205 rfl))) (notFace_of_selects (args := #[]) (mvT hZ (hw _ (tm 207 rfl)))) (mvT hZ (hw _ (tm 207 rfl))) (mvT hZ (hw _ (tm 206 rfl))) (by decide) (backOf (W := 0) (rm_rget_3_1 l Z a0 hw [] b95 b97_0 b1_0 b3_0 b5_0 b97_1 kb97_2 T97.heap n0 (ltr (ltr (ltr (ltr (ltr (ltr (ltr (ltr (ltr (ltr (ltr (ltr (ltr (ltr (ltr (ltr (ltr (ltr (ltr (ltr (ltr Z0 K1.1) K3.1) K5.1) K7.1) E9.1) K11.1) K13.1) K71.1) K73.1) E75.1) K77.1) E79.1) K81.1) E83.1) K85.1) E87.1) K89.1) E91.1) K93.1) E95.1) K97.1) P97_1 P97_2 P97_3 P97_4 (((((((((((((((((((P3_0.keep K5).keep K7).ext E9).keep K11).keep K13).keep K71).keep K73).ext E75).keep K77).ext E79).keep K81).ext E83).keep K85).ext E87).keep K89).ext E91).keep K93).ext E95).keep K97)) hZ (hw _ (tm 208 rfl)) (hw _ (tm 87 rfl)) (by decide) (by decide)) q101a q101c (g := (mkF m 201 #[iv p1, iv p2, iv p3, iv p4, iv p5, iv p6, iv (3 : Int32), rv b1_0, rv b3_0, rv b5_0, rv b7_0, rv b9, rv b75, rv b95, iv (1 : Int32), rv b3_0, .unset] [(.int (1 : Int32)), (.ref b95)])) rfl (by rw [hml]; rfl) (Steps.refl _) (argsL := [(.int (1 : Int32))]) (rest := []) (lenOf pd__I_Ljava_lang_String_ rfl) rfl (by show 2 * 0 + _ ≤ _; exact Nat.le_of_eq rfl) (hb hby at_201) (fun _ _ => ⟨rfl, rfl, (by decide : 43 + 0 ≤ _), (by decide : 319 + 0 ≤ _)⟩)
      dsimp only [Pt.U, Pt.locs, Pt.cells, Pt.slots] at X101 l101 y101 z101 st101 hQ101
      subst l101 y101 z101
      obtain ⟨rfl, N101q, e101⟩ := hQ101
      have N101 := Fr.app N97 N101q
      refine own_go ?_ (fun _ hr => st101.trans (XS.astore X101.here hx rfl (hb hby at_204) rfl rfl (l' := #[iv p1, iv p2, iv p3, iv p4, iv p5, iv p6, iv (3 : Int32), rv b1_0, rv b3_0, rv b5_0, rv b7_0, rv b9, rv b75, rv b95, iv (1 : Int32), rv b3_0, rv b3_0]) rfl (XS.aload X101.here hx rfl (hb hby at_206) rfl rfl (XS.ifnullNo X101.here hx rfl (hb hby at_208) rfl (XS.aload X101.here hx rfl (hb hby at_211) rfl rfl (XS.aload X101.here hx rfl (hb hby at_213) rfl rfl hr))))))
      show own_H (T101.setTop (mkF m 215 #[iv p1, iv p2, iv p3, iv p4, iv p5, iv p6, iv (3 : Int32), rv b1_0, rv b3_0, rv b5_0, rv b7_0, rv b9, rv b75, rv b95, iv (1 : Int32), rv b3_0, rv b3_0] [(.ref b3_0), (.ref b3_0)]))
      obtain ⟨cq102, kq102, q102a, q102b, q102c⟩ := isOf hZ e101 (((((((((((((((((((P3_0.keep K5).keep K7).ext E9).keep K11).keep K13).keep K71).keep K73).ext E75).keep K77).ext E79).keep K81).ext E83).keep K85).ext E87).keep K89).ext E91).keep K93).ext E95).keep K97)
      obtain ⟨_, _, ⟨T102, L102, k102, n102⟩, -, X102, ⟨Lc102, hQ102, l102, y102, z102⟩, st102⟩ := X101.virtualBack hx (y := y37_) (z := y37_) hown (mvT hZ (hw _ (tm 219 rfl))) (mvT hZ (hw _ (tm 220 rfl))) (notFace_of_selects (args := #[]) (mvT hZ (hw _ (tm 222 rfl)))) (mvT hZ (hw _ (tm 222 rfl))) (mvT hZ (hw _ (tm 221 rfl))) (by decide) (backOf (W := 0) (rm_eq l Z a0 hw [] b3_0 T97.heap n0 (ltr (ltr (ltr (ltr (ltr (ltr (ltr (ltr (ltr (ltr (ltr (ltr (ltr (ltr (ltr (ltr (ltr (ltr (ltr (ltr (ltr Z0 K1.1) K3.1) K5.1) K7.1) E9.1) K11.1) K13.1) K71.1) K73.1) E75.1) K77.1) E79.1) K81.1) E83.1) K85.1) E87.1) K89.1) E91.1) K93.1) E95.1) K97.1) ) hZ (hw _ (tm 223 rfl)) (hw _ (tm 6 rfl)) (by decide) (by decide)) q102a q102c (g := (mkF m 215 #[iv p1, iv p2, iv p3, iv p4, iv p5, iv p6, iv (3 : Int32), rv b1_0, rv b3_0, rv b5_0, rv b7_0, rv b9, rv b75, rv b95, iv (1 : Int32), rv b3_0, rv b3_0] [(.ref b3_0), (.ref b3_0)])) rfl (by rw [hml]; rfl) (Steps.refl _) (argsL := [(.ref b3_0)]) (rest := []) (lenOf pd__Ljava_lang_Object__Z rfl) rfl (by show 2 * 0 + _ ≤ _; exact Nat.le_of_eq rfl) (hb hby at_215) (fun _ _ => ⟨rfl, e101, (by decide : 43 + 0 ≤ _), (by decide : 319 + 0 ≤ _)⟩)
      dsimp only [Pt.U, Pt.locs, Pt.cells, Pt.slots] at X102 l102 y102 z102 st102 hQ102
      subst l102 y102 z102
      obtain ⟨rfl, N102q, e102⟩ := hQ102
      have N102 := Fr.app N101 N102q
      refine own_go ?_ (fun _ hr => st102.trans (XS.ifNo X102.here hx rfl (hb hby at_218) rfl ((if0 _ _).trans (feq (by decide : ¬ ((1 : Int32) = (0 : Int32)))).1) (XS.iconst X102.here hx rfl (hb hby at_221) (XS.goto X102.here hx rfl (pc0 := 222) (pc' := 226) rfl (hb hby at_222) (by decide) (by decide) hr))))
      show own_H (T102.setTop (mkF m 226 #[iv p1, iv p2, iv p3, iv p4, iv p5, iv p6, iv (3 : Int32), rv b1_0, rv b3_0, rv b5_0, rv b7_0, rv b9, rv b75, rv b95, iv (1 : Int32), rv b3_0, rv b3_0] [(.int (1 : Int32))]))
      obtain ⟨fs, hr, hrun, hended, hRW⟩ := Stand.leaveW (s := s) (vm₁ := T91.vm) X102 hS91 (by rw [e102]; exact (ltr (ltr (ltr hk91 K93.1) E95.1) K97.1)) (v := some (.int (1 : Int32))) (fun h => by rw [Bd.returns] at h; cases h)
      have hCe := C98.trans (CHv.at (s := s) (vm0 := T91.vm) X102 hZ hEL C98.1)
      exact ⟨_, _, retN X102 hx (t := .boolean) Bd.returns (by simp) (hb hby at_226) hr, hrun, hended, _, _, rfl, ⟨rfl, N102, trivial⟩, (by rw [hh, show (T102.setFrames fs).heap = T97.heap from e102]; exact hCe), hRW.1, hRW.2.1, hRW.2.2.1, hRW.2.2.2.mono (by decide) (by decide)⟩
    ·
      rw [hs153_2]
      show own_H (T97.setTop (mkF m 153 #[iv p1, iv p2, iv p3, iv p4, iv p5, iv p6, iv (3 : Int32), rv b1_0, rv b3_0, rv b5_0, rv b7_0, rv b9, rv b75, rv b95, .unset, .unset, .unset] [(.int (2 : Int32))]))
      refine own_go ?_ (fun _ hr => XS.istore X97.here hx rfl (hb hby at_153) rfl (l' := #[iv p1, iv p2, iv p3, iv p4, iv p5, iv p6, iv (3 : Int32), rv b1_0, rv b3_0, rv b5_0, rv b7_0, rv b9, rv b75, rv b95, iv (2 : Int32), .unset, .unset]) rfl (XS.iload X97.here hx rfl (hb hby at_155) rfl (XS.ifYes X97.here hx rfl (pc0 := 157) (pc' := 167) rfl (hb hby at_157) rfl ((if0 _ _).trans (feq (by decide : ¬ ((2 : Int32) = (0 : Int32)))).2) (by decide) (by decide) (XS.iload X97.here hx rfl (hb hby at_167) rfl (XS.iconst X97.here hx rfl (hb hby at_169) (XS.icmpYes X97.here hx rfl (pc0 := 170) (pc' := 180) rfl (hb hby at_170) rfl (feq (by decide : ¬ ((2 : Int32) = (1 : Int32)))).2 (by decide) (by decide) (XS.iload X97.here hx rfl (hb hby at_180) rfl (XS.iconst X97.here hx rfl (hb hby at_182) hr))))))))
      show own_H (T97.setTop (mkF m 183 #[iv p1, iv p2, iv p3, iv p4, iv p5, iv p6, iv (3 : Int32), rv b1_0, rv b3_0, rv b5_0, rv b7_0, rv b9, rv b75, rv b95, iv (2 : Int32), .unset, .unset] [(.int (2 : Int32)), (.int (2 : Int32))]))
      refine own_go ?_ (fun _ hr => XS.icmpNo X97.here hx rfl (hb hby at_183) rfl (teq (by decide : (2 : Int32) = (2 : Int32))).2 (XS.aload X97.here hx rfl (hb hby at_186) rfl rfl (XS.astore X97.here hx rfl (hb hby at_188) rfl rfl (l' := #[iv p1, iv p2, iv p3, iv p4, iv p5, iv p6, iv (3 : Int32), rv b1_0, rv b3_0, rv b5_0, rv b7_0, rv b9, rv b75, rv b95, iv (2 : Int32), rv b5_0, .unset]) rfl (XS.goto X97.here hx rfl (pc0 := 190) (pc' := 197) rfl (hb hby at_190) (by decide) (by decide) (XS.aload X97.here hx rfl (hb hby at_197) rfl rfl (XS.iload X97.here hx rfl (hb hby at_199) rfl hr))))))
      show own_H (T97.setTop (mkF m 201 #[iv p1, iv p2, iv p3, iv p4, iv p5, iv p6, iv (3 : Int32), rv b1_0, rv b3_0, rv b5_0, rv b7_0, rv b9, rv b75, rv b95, iv (2 : Int32), rv b5_0, .unset] [(.int (2 : Int32)), (.ref b95)]))
      obtain ⟨cq103, kq103, q103a, q103b, q103c⟩ := isOf hZ rfl P97_0
      obtain ⟨_, _, ⟨T103, L103, k103, n103⟩, -, X103, ⟨Lc103, hQ103, l103, y103, z103⟩, st103⟩ := X97.virtualBack hx (y := y34_) (z := y34_) hown (mvT hZ (hw _ (tm 204 rfl))) (mvT hZ (hw _ (tm 205 rfl))) (notFace_of_selects (args := #[]) (mvT hZ (hw _ (tm 207 rfl)))) (mvT hZ (hw _ (tm 207 rfl))) (mvT hZ (hw _ (tm 206 rfl))) (by decide) (backOf (W := 0) (rm_rget_3_2 l Z a0 hw [] b95 b97_0 b1_0 b3_0 b5_0 b97_1 kb97_2 T97.heap n0 (ltr (ltr (ltr (ltr (ltr (ltr (ltr (ltr (ltr (ltr (ltr (ltr (ltr (ltr (ltr (ltr (ltr (ltr (ltr (ltr (ltr Z0 K1.1) K3.1) K5.1) K7.1) E9.1) K11.1) K13.1) K71.1) K73.1) E75.1) K77.1) E79.1) K81.1) E83.1) K85.1) E87.1) K89.1) E91.1) K93.1) E95.1) K97.1) P97_1 P97_2 P97_3 P97_4 ((((((((((((((((((P5_0.keep K7).ext E9).keep K11).keep K13).keep K71).keep K73).ext E75).keep K77).ext E79).keep K81).ext E83).keep K85).ext E87).keep K89).ext E91).keep K93).ext E95).keep K97)) hZ (hw _ (tm 208 rfl)) (hw _ (tm 87 rfl)) (by decide) (by decide)) q103a q103c (g := (mkF m 201 #[iv p1, iv p2, iv p3, iv p4, iv p5, iv p6, iv (3 : Int32), rv b1_0, rv b3_0, rv b5_0, rv b7_0, rv b9, rv b75, rv b95, iv (2 : Int32), rv b5_0, .unset] [(.int (2 : Int32)), (.ref b95)])) rfl (by rw [hml]; rfl) (Steps.refl _) (argsL := [(.int (2 : Int32))]) (rest := []) (lenOf pd__I_Ljava_lang_String_ rfl) rfl (by show 2 * 0 + _ ≤ _; exact Nat.le_of_eq rfl) (hb hby at_201) (fun _ _ => ⟨rfl, rfl, (by decide : 43 + 0 ≤ _), (by decide : 319 + 0 ≤ _)⟩)
      dsimp only [Pt.U, Pt.locs, Pt.cells, Pt.slots] at X103 l103 y103 z103 st103 hQ103
      subst l103 y103 z103
      obtain ⟨rfl, N103q, e103⟩ := hQ103
      have N103 := Fr.app N97 N103q
      refine own_go ?_ (fun _ hr => st103.trans (XS.astore X103.here hx rfl (hb hby at_204) rfl rfl (l' := #[iv p1, iv p2, iv p3, iv p4, iv p5, iv p6, iv (3 : Int32), rv b1_0, rv b3_0, rv b5_0, rv b7_0, rv b9, rv b75, rv b95, iv (2 : Int32), rv b5_0, rv b5_0]) rfl (XS.aload X103.here hx rfl (hb hby at_206) rfl rfl (XS.ifnullNo X103.here hx rfl (hb hby at_208) rfl (XS.aload X103.here hx rfl (hb hby at_211) rfl rfl (XS.aload X103.here hx rfl (hb hby at_213) rfl rfl hr))))))
      show own_H (T103.setTop (mkF m 215 #[iv p1, iv p2, iv p3, iv p4, iv p5, iv p6, iv (3 : Int32), rv b1_0, rv b3_0, rv b5_0, rv b7_0, rv b9, rv b75, rv b95, iv (2 : Int32), rv b5_0, rv b5_0] [(.ref b5_0), (.ref b5_0)]))
      obtain ⟨cq104, kq104, q104a, q104b, q104c⟩ := isOf hZ e103 ((((((((((((((((((P5_0.keep K7).ext E9).keep K11).keep K13).keep K71).keep K73).ext E75).keep K77).ext E79).keep K81).ext E83).keep K85).ext E87).keep K89).ext E91).keep K93).ext E95).keep K97)
      obtain ⟨_, _, ⟨T104, L104, k104, n104⟩, -, X104, ⟨Lc104, hQ104, l104, y104, z104⟩, st104⟩ := X103.virtualBack hx (y := y37_) (z := y37_) hown (mvT hZ (hw _ (tm 219 rfl))) (mvT hZ (hw _ (tm 220 rfl))) (notFace_of_selects (args := #[]) (mvT hZ (hw _ (tm 222 rfl)))) (mvT hZ (hw _ (tm 222 rfl))) (mvT hZ (hw _ (tm 221 rfl))) (by decide) (backOf (W := 0) (rm_eq l Z a0 hw [] b5_0 T97.heap n0 (ltr (ltr (ltr (ltr (ltr (ltr (ltr (ltr (ltr (ltr (ltr (ltr (ltr (ltr (ltr (ltr (ltr (ltr (ltr (ltr (ltr Z0 K1.1) K3.1) K5.1) K7.1) E9.1) K11.1) K13.1) K71.1) K73.1) E75.1) K77.1) E79.1) K81.1) E83.1) K85.1) E87.1) K89.1) E91.1) K93.1) E95.1) K97.1) ) hZ (hw _ (tm 223 rfl)) (hw _ (tm 6 rfl)) (by decide) (by decide)) q104a q104c (g := (mkF m 215 #[iv p1, iv p2, iv p3, iv p4, iv p5, iv p6, iv (3 : Int32), rv b1_0, rv b3_0, rv b5_0, rv b7_0, rv b9, rv b75, rv b95, iv (2 : Int32), rv b5_0, rv b5_0] [(.ref b5_0), (.ref b5_0)])) rfl (by rw [hml]; rfl) (Steps.refl _) (argsL := [(.ref b5_0)]) (rest := []) (lenOf pd__Ljava_lang_Object__Z rfl) rfl (by show 2 * 0 + _ ≤ _; exact Nat.le_of_eq rfl) (hb hby at_215) (fun _ _ => ⟨rfl, e103, (by decide : 43 + 0 ≤ _), (by decide : 319 + 0 ≤ _)⟩)
      dsimp only [Pt.U, Pt.locs, Pt.cells, Pt.slots] at X104 l104 y104 z104 st104 hQ104
      subst l104 y104 z104
      obtain ⟨rfl, N104q, e104⟩ := hQ104
      have N104 := Fr.app N103 N104q
      refine own_go ?_ (fun _ hr => st104.trans (XS.ifNo X104.here hx rfl (hb hby at_218) rfl ((if0 _ _).trans (feq (by decide : ¬ ((1 : Int32) = (0 : Int32)))).1) (XS.iconst X104.here hx rfl (hb hby at_221) (XS.goto X104.here hx rfl (pc0 := 222) (pc' := 226) rfl (hb hby at_222) (by decide) (by decide) hr))))
      show own_H (T104.setTop (mkF m 226 #[iv p1, iv p2, iv p3, iv p4, iv p5, iv p6, iv (3 : Int32), rv b1_0, rv b3_0, rv b5_0, rv b7_0, rv b9, rv b75, rv b95, iv (2 : Int32), rv b5_0, rv b5_0] [(.int (1 : Int32))]))
      obtain ⟨fs, hr, hrun, hended, hRW⟩ := Stand.leaveW (s := s) (vm₁ := T91.vm) X104 hS91 (by rw [e104]; exact (ltr (ltr (ltr hk91 K93.1) E95.1) K97.1)) (v := some (.int (1 : Int32))) (fun h => by rw [Bd.returns] at h; cases h)
      have hCe := C98.trans (CHv.at (s := s) (vm0 := T91.vm) X104 hZ hEL C98.1)
      exact ⟨_, _, retN X104 hx (t := .boolean) Bd.returns (by simp) (hb hby at_226) hr, hrun, hended, _, _, rfl, ⟨rfl, N104, trivial⟩, (by rw [hh, show (T104.setFrames fs).heap = T97.heap from e104]; exact hCe), hRW.1, hRW.2.1, hRW.2.2.1, hRW.2.2.2.mono (by decide) (by decide)⟩
  ·
    rw [hs51_3]
    show own_H (T13.setTop (mkF m 51 #[iv p1, iv p2, iv p3, iv p4, iv p5, iv p6, iv (4 : Int32), rv b1_0, rv b3_0, rv b5_0, rv b7_0, rv b9, .unset, .unset, .unset, .unset, .unset] [(.int (4 : Int32))]))
    refine own_go ?_ (fun _ hr => XS.iconst X13.here hx rfl (hb hby at_51) (XS.icmpNo X13.here hx rfl (hb hby at_52) rfl (tlt (by decide : (1 : Int32) < (4 : Int32))).2.2.2 (XS.aload X13.here hx rfl (hb hby at_55) rfl rfl (XS.aload X13.here hx rfl (hb hby at_57) rfl rfl hr))))
    show own_H (T13.setTop (mkF m 59 #[iv p1, iv p2, iv p3, iv p4, iv p5, iv p6, iv (4 : Int32), rv b1_0, rv b3_0, rv b5_0, rv b7_0, rv b9, .unset, .unset, .unset, .unset, .unset] [(.ref b3_0), (.ref b9)]))
    obtain ⟨cq105, kq105, q105a, q105b, q105c⟩ := isOf hZ rfl P13_0
    obtain ⟨_, _, ⟨T105, L105, k105, n105⟩, -, X105, ⟨Lc105, hQ105, l105, y105, z105⟩, st105⟩ := X13.virtualBack hx (y := y14_) (z := y14_) hown (mvT hZ (hw _ (tm 50 rfl))) (mvT hZ (hw _ (tm 51 rfl))) (notFace_of_selects (args := #[]) (mvT hZ (hw _ (tm 53 rfl)))) (mvT hZ (hw _ (tm 53 rfl))) (mvT hZ (hw _ (tm 52 rfl))) (by decide) (backOf (W := 0) (rm_add1_1 l Z a0 hw [] b9 b3_0 ((0 : Int32) + (1 : Int32)) b13_0 kb13_1 b1_0 T13.heap n0 (ltr (ltr (ltr (ltr (ltr (ltr (ltr Z0 K1.1) K3.1) K5.1) K7.1) E9.1) K11.1) K13.1) P13_0 P13_1 P13_2 P13_3 P13_4 P13_6 (((((P3_0.keep K5).keep K7).ext E9).keep K11).keep K13) g_b9 g_b13_0 (Nat.ne_of_lt (Nat.lt_of_lt_of_le A9.lt (ltr K11.1 yb13_0)))) hZ (hw _ (tm 54 rfl)) (hw _ (tm 28 rfl)) (by decide) (by decide)) q105a q105c (g := (mkF m 59 #[iv p1, iv p2, iv p3, iv p4, iv p5, iv p6, iv (4 : Int32), rv b1_0, rv b3_0, rv b5_0, rv b7_0, rv b9, .unset, .unset, .unset, .unset, .unset] [(.ref b3_0), (.ref b9)])) rfl (by rw [hml]; rfl) (Steps.refl _) (argsL := [(.ref b3_0)]) (rest := []) (lenOf pd__Ljava_lang_Object__Z rfl) rfl (by show 2 * 0 + _ ≤ _; exact Nat.le_of_eq rfl) (hb hby at_59) (fun _ _ => ⟨rfl, rfl, (by decide : 26 + 0 ≤ _), (by decide : 61 + 0 ≤ _)⟩)
    dsimp only [Pt.U, Pt.locs, Pt.cells, Pt.slots] at X105 l105 y105 z105 st105 hQ105
    subst l105 y105 z105
    obtain ⟨rfl, N105q, K105, P105_0, P105_1, P105_2, P105_3, P105_4⟩ := hQ105
    have C106 := C14.trans (CHr.keep K105 (allS (Safe.exa hZ.alike P13_0 (by decide) (by decide)) (allS (own_safeV hZ.alike P13_4 (by decide)) all0)) C14.1)
    have N105 := Fr.app N13 N105q
    refine own_go ?_ (fun _ hr => st105.trans (XS.pop X105.here hx rfl (hb hby at_62) rfl rfl (XS.iload X105.here hx rfl (hb hby at_63) rfl (XS.iconst X105.here hx rfl (hb hby at_65) (XS.icmpNo X105.here hx rfl (hb hby at_66) rfl (tlt (by decide : (2 : Int32) < (4 : Int32))).2.2.2 (XS.aload X105.here hx rfl (hb hby at_69) rfl rfl (XS.aload X105.here hx rfl (hb hby at_71) rfl rfl hr)))))))
    show own_H (T105.setTop (mkF m 73 #[iv p1, iv p2, iv p3, iv p4, iv p5, iv p6, iv (4 : Int32), rv b1_0, rv b3_0, rv b5_0, rv b7_0, rv b9, .unset, .unset, .unset, .unset, .unset] [(.ref b5_0), (.ref b9)]))
    obtain ⟨cq107, kq107, q107a, q107b, q107c⟩ := isOf hZ rfl P105_0
    obtain ⟨_, _, ⟨T107, L107, k107, n107⟩, -, X107, ⟨Lc107, hQ107, l107, y107, z107⟩, st107⟩ := X105.virtualBack hx (y := y14_) (z := y14_) hown (mvT hZ (hw _ (tm 50 rfl))) (mvT hZ (hw _ (tm 51 rfl))) (notFace_of_selects (args := #[]) (mvT hZ (hw _ (tm 53 rfl)))) (mvT hZ (hw _ (tm 53 rfl))) (mvT hZ (hw _ (tm 52 rfl))) (by decide) (backOf (W := 0) (rm_add1_2 l Z a0 hw [] b9 b5_0 (((0 : Int32) + (1 : Int32)) + (1 : Int32)) b13_0 kb13_1 b1_0 b3_0 T105.heap n0 (ltr (ltr (ltr (ltr (ltr (ltr (ltr (ltr Z0 K1.1) K3.1) K5.1) K7.1) E9.1) K11.1) K13.1) K105.1) P105_0 P105_1 P105_2 P105_3 P105_4 P13_6 (((((P5_0.keep K7).ext E9).keep K11).keep K13).keep K105) g_b9 g_b13_0 (Nat.ne_of_lt (Nat.lt_of_lt_of_le A9.lt (ltr K11.1 yb13_0)))) hZ (hw _ (tm 54 rfl)) (hw _ (tm 28 rfl)) (by decide) (by decide)) q107a q107c (g := (mkF m 73 #[iv p1, iv p2, iv p3, iv p4, iv p5, iv p6, iv (4 : Int32), rv b1_0, rv b3_0, rv b5_0, rv b7_0, rv b9, .unset, .unset, .unset, .unset, .unset] [(.ref b5_0), (.ref b9)])) rfl (by rw [hml]; rfl) (Steps.refl _) (argsL := [(.ref b5_0)]) (rest := []) (lenOf pd__Ljava_lang_Object__Z rfl) rfl (by show 2 * 0 + _ ≤ _; exact Nat.le_of_eq rfl) (hb hby at_73) (fun _ _ => ⟨rfl, rfl, (by decide : 26 + 0 ≤ _), (by decide : 61 + 0 ≤ _)⟩)
    dsimp only [Pt.U, Pt.locs, Pt.cells, Pt.slots] at X107 l107 y107 z107 st107 hQ107
    subst l107 y107 z107
    obtain ⟨rfl, N107q, K107, P107_0, P107_1, P107_2, P107_3, P107_4⟩ := hQ107
    have C108 := C106.trans (CHr.keep K107 (allS (Safe.exa hZ.alike P105_0 (by decide) (by decide)) (allS (own_safeV hZ.alike P105_4 (by decide)) all0)) C106.1)
    have N107 := Fr.app N105 N107q
    refine own_go ?_ (fun _ hr => st107.trans (XS.pop X107.here hx rfl (hb hby at_76) rfl rfl (XS.iload X107.here hx rfl (hb hby at_77) rfl (XS.iconst X107.here hx rfl (hb hby at_79) (XS.icmpNo X107.here hx rfl (hb hby at_80) rfl (tlt (by decide : (3 : Int32) < (4 : Int32))).2.2.2 (XS.aload X107.here hx rfl (hb hby at_83) rfl rfl (XS.aload X107.here hx rfl (hb hby at_85) rfl rfl hr)))))))
    show own_H (T107.setTop (mkF m 87 #[iv p1, iv p2, iv p3, iv p4, iv p5, iv p6, iv (4 : Int32), rv b1_0, rv b3_0, rv b5_0, rv b7_0, rv b9, .unset, .unset, .unset, .unset, .unset] [(.ref b7_0), (.ref b9)]))
    obtain ⟨cq109, kq109, q109a, q109b, q109c⟩ := isOf hZ rfl P107_0
    obtain ⟨_, _, ⟨T109, L109, k109, n109⟩, -, X109, ⟨Lc109, hQ109, l109, y109, z109⟩, st109⟩ := X107.virtualBack hx (y := y14_) (z := y14_) hown (mvT hZ (hw _ (tm 50 rfl))) (mvT hZ (hw _ (tm 51 rfl))) (notFace_of_selects (args := #[]) (mvT hZ (hw _ (tm 53 rfl)))) (mvT hZ (hw _ (tm 53 rfl))) (mvT hZ (hw _ (tm 52 rfl))) (by decide) (backOf (W := 0) (rm_add1_3 l Z a0 hw [] b9 b7_0 ((((0 : Int32) + (1 : Int32)) + (1 : Int32)) + (1 : Int32)) b13_0 kb13_1 b1_0 b3_0 b5_0 T107.heap n0 (ltr (ltr (ltr (ltr (ltr (ltr (ltr (ltr (ltr Z0 K1.1) K3.1) K5.1) K7.1) E9.1) K11.1) K13.1) K105.1) K107.1) P107_0 P107_1 P107_2 P107_3 P107_4 P13_6 (((((P7_0.ext E9).keep K11).keep K13).keep K105).keep K107) g_b9 g_b13_0 (Nat.ne_of_lt (Nat.lt_of_lt_of_le A9.lt (ltr K11.1 yb13_0)))) hZ (hw _ (tm 54 rfl)) (hw _ (tm 28 rfl)) (by decide) (by decide)) q109a q109c (g := (mkF m 87 #[iv p1, iv p2, iv p3, iv p4, iv p5, iv p6, iv (4 : Int32), rv b1_0, rv b3_0, rv b5_0, rv b7_0, rv b9, .unset, .unset, .unset, .unset, .unset] [(.ref b7_0), (.ref b9)])) rfl (by rw [hml]; rfl) (Steps.refl _) (argsL := [(.ref b7_0)]) (rest := []) (lenOf pd__Ljava_lang_Object__Z rfl) rfl (by show 2 * 0 + _ ≤ _; exact Nat.le_of_eq rfl) (hb hby at_87) (fun _ _ => ⟨rfl, rfl, (by decide : 26 + 0 ≤ _), (by decide : 61 + 0 ≤ _)⟩)
    dsimp only [Pt.U, Pt.locs, Pt.cells, Pt.slots] at X109 l109 y109 z109 st109 hQ109
    subst l109 y109 z109
    obtain ⟨rfl, N109q, K109, P109_0, P109_1, P109_2, P109_3, P109_4⟩ := hQ109
    have C110 := C108.trans (CHr.keep K109 (allS (Safe.exa hZ.alike P107_0 (by decide) (by decide)) (allS (own_safeV hZ.alike P107_4 (by decide)) all0)) C108.1)
    have N109 := Fr.app N107 N109q
    refine own_go ?_ (fun _ hr => st109.trans (XS.pop X109.here hx rfl (hb hby at_90) rfl rfl hr))
    show own_H (T109.setTop (mkF m 91 #[iv p1, iv p2, iv p3, iv p4, iv p5, iv p6, iv (4 : Int32), rv b1_0, rv b3_0, rv b5_0, rv b7_0, rv b9, .unset, .unset, .unset, .unset, .unset] []))
    obtain ⟨T111, h111, X111, e111, E111, A111, D111, -, st111⟩ := newO X109 hx hZ hown (hw _ (tm 26 rfl)) (hw _ (tm 27 rfl)) (hw _ (tm 28 rfl)) rfl (g := (mkF m 91 #[iv p1, iv p2, iv p3, iv p4, iv p5, iv p6, iv (4 : Int32), rv b1_0, rv b3_0, rv b5_0, rv b7_0, rv b9, .unset, .unset, .unset, .unset, .unset] [])) rfl (hb hby at_91) (by decide) (by decide)
    obtain ⟨b111, g111⟩ : ∃ z, z = T109.heap.size := ⟨_, rfl⟩
    rw [← g111] at A111 D111 st111
    have g_b111 : n0 ≤ b111 := ltr (ltr (ltr (ltr (ltr (ltr (ltr (ltr (ltr (ltr (ltr Z0 K1.1) K3.1) K5.1) K7.1) E9.1) K11.1) K13.1) K105.1) K107.1) K109.1) (leq g111.symm)
    have C112 := C110.trans (CHr.ext E111 C110.1)
    have F111_46 : Fld Z h111 b111 "java/util/AbstractList" "modCount" "I" (.int (0 : Int32)) := D111 (Or.inl (hw _ (tm 46 rfl))) (ty := .int) (by decide)
    have F111_49 : Fld Z h111 b111 "java/util/ArrayList" "elementData" "[Ljava/lang/Object;" .null := D111 (Or.inl (hw _ (tm 49 rfl))) (ty := (.array (.object "java/lang/Object"))) (by decide)
    have F111_58 : Fld Z h111 b111 "java/util/ArrayList" "size" "I" (.int (0 : Int32)) := D111 (Or.inl (hw _ (tm 58 rfl))) (ty := .int) (by decide)
    refine own_go ?_ (fun _ hr => st111 _ (XS.dup X111.here hx rfl (hb hby at_94) rfl rfl hr))
    show own_H (T111.setTop (mkF m 95 #[iv p1, iv p2, iv p3, iv p4, iv p5, iv p6, iv (4 : Int32), rv b1_0, rv b3_0, rv b5_0, rv b7_0, rv b9, .unset, .unset, .unset, .unset, .unset] [(.ref b111), (.ref b111)]))
    obtain ⟨_, _, ⟨T113, L113, k113, n113⟩, -, X113, ⟨Lc113, hQ113, l113, y113, z113⟩, st113⟩ := X111.specialBack hx (y := y9_) rfl hown (mvT hZ (hw _ (tm 29 rfl))) (mvT hZ (hw _ (tm 30 rfl))) (mvT hZ (hw _ (tm 31 rfl))) (by decide) (backOf (W := 1) (rm5 l Z a0 hw [] b111 (.int (0 : Int32)) (.null) (.int (0 : Int32)) wE h111 n0 (ltr (ltr (ltr (ltr (ltr (ltr (ltr (ltr (ltr (ltr (ltr Z0 K1.1) K3.1) K5.1) K7.1) E9.1) K11.1) K13.1) K105.1) K107.1) K109.1) E111.1) A111 F111_46 F111_49 F111_58 g_b111 (((((((((((hold.keep K1 all0).keep K3 all0).keep K5 all0).keep K7 all0).ext E9).keep K11 (allS g_b9 all0)).keep K13 (allS g_b9 all0)).keep K105 (allS g_b9 (allS g_b13_0 all0))).keep K107 (allS g_b9 (allS g_b13_0 all0))).keep K109 (allS g_b9 (allS g_b13_0 all0))).ext E111) S_DEFAULTCAPACITY_EMPTY_ELEMENTDATA) hZ (hw _ (tm 31 rfl)) (hw _ (tm 28 rfl)) (by decide) (by decide)) (g := (mkF m 95 #[iv p1, iv p2, iv p3, iv p4, iv p5, iv p6, iv (4 : Int32), rv b1_0, rv b3_0, rv b5_0, rv b7_0, rv b9, .unset, .unset, .unset, .unset, .unset] [(.ref b111), (.ref b111)])) rfl (by rw [hml]; rfl) (Steps.refl _) (a := b111) (argsL := []) (rest := [(.ref b111)]) (lenOf pd___V rfl) rfl (by show 2 * 0 + _ ≤ _; exact Nat.le_of_eq rfl) (hb hby at_95) (fun _ _ => ⟨rfl, e111, (by decide : 27 + 0 ≤ _), (by decide : 64 + 0 ≤ _)⟩)
    dsimp only [Pt.U, Pt.locs, Pt.cells, Pt.slots] at X113 l113 y113 z113 st113 hQ113
    subst l113 y113 z113
    obtain ⟨rfl, N113q, K113, P113_0, P113_1, P113_2, P113_3⟩ := hQ113
    have C114 := C112.trans (CHr.keep K113 (allS (Safe.exa hZ.alike A111 (by decide) (by decide)) all0) C112.1)
    have N113 := Fr.app N109 N113q
    refine own_go ?_ (fun _ hr => st113.trans (XS.astore X113.here hx rfl (hb hby at_98) rfl rfl (l' := #[iv p1, iv p2, iv p3, iv p4, iv p5, iv p6, iv (4 : Int32), rv b1_0, rv b3_0, rv b5_0, rv b7_0, rv b9, rv b111, .unset, .unset, .unset, .unset]) rfl (XS.aload X113.here hx rfl (hb hby at_100) rfl rfl hr)))
    show own_H (T113.setTop (mkF m 102 #[iv p1, iv p2, iv p3, iv p4, iv p5, iv p6, iv (4 : Int32), rv b1_0, rv b3_0, rv b5_0, rv b7_0, rv b9, rv b111, .unset, .unset, .unset, .unset] [(.ref b111)]))
    obtain ⟨c115, T115, h115, k115, d115, kd115, X115, e115, E115, hS115, hk115, hZ, hown, P115_0, P115_1, P115_2, P115_3, lc115, ld115, H115c, L115, hne115, st115⟩ := ldcCH (s := s) (vm0 := T7.vm) X113 hx hZ hown (hw _ (tm 81 rfl)) wS rfl hS7 (ltr (ltr (ltr (ltr (ltr (ltr (ltr (ltr (Nat.le_refl _) E9.1) K11.1) K13.1) K105.1) K107.1) K109.1) E111.1) K113.1) hEL (List.mem_of_getElem? (i := 0) rfl) C114.1 (vs := [(.int (104 : Int32)), (.int (101 : Int32)), (.int (97 : Int32)), (.int (100 : Int32)), (.int (101 : Int32)), (.int (114 : Int32)), (.int (45 : Int32)), (.int (110 : Int32)), (.int (97 : Int32)), (.int (109 : Int32)), (.int (101 : Int32)), (.int (45 : Int32)), (.int (48 : Int32))]) (z := (13 : Int32)) ⟨by decide, rfl⟩ (by decide) rfl (g := (mkF m 102 #[iv p1, iv p2, iv p3, iv p4, iv p5, iv p6, iv (4 : Int32), rv b1_0, rv b3_0, rv b5_0, rv b7_0, rv b9, rv b111, .unset, .unset, .unset, .unset] [(.ref b111)])) rfl (hb hby at_102) (n := 52) (by decide) (by decide) (by decide) (by decide)
    have C116 := C114.trans H115c
    refine own_go ?_ (fun _ hr => st115 _ hr)
    show own_H (T115.setTop (mkF m 104 #[iv p1, iv p2, iv p3, iv p4, iv p5, iv p6, iv (4 : Int32), rv b1_0, rv b3_0, rv b5_0, rv b7_0, rv b9, rv b111, .unset, .unset, .unset, .unset] [(.ref c115), (.ref b111)]))
    obtain ⟨cq117, kq117, q117a, q117b, q117c⟩ := isOf hZ e115 (P113_0.ext E115)
    obtain ⟨_, _, ⟨T117, L117, k117, n117⟩, -, X117, ⟨Lc117, hQ117, l117, y117, z117⟩, st117⟩ := X115.virtualBack hx (y := y14_) (z := y14_) hown (mvT hZ (hw _ (tm 50 rfl))) (mvT hZ (hw _ (tm 51 rfl))) (notFace_of_selects (args := #[]) (mvT hZ (hw _ (tm 53 rfl)))) (mvT hZ (hw _ (tm 53 rfl))) (mvT hZ (hw _ (tm 52 rfl))) (by decide) (backOf (W := 0) (rm_add1_0 l Z a0 hw [] b111 c115 (0 : Int32) wE kE h115 n0 (ltr (ltr (ltr (ltr (ltr (ltr (ltr (ltr (ltr (ltr (ltr (ltr (ltr Z0 K1.1) K3.1) K5.1) K7.1) E9.1) K11.1) K13.1) K105.1) K107.1) K109.1) E111.1) K113.1) E115.1) (P113_0.ext E115) (P113_1.ext E115) (P113_2.ext E115) (P113_3.ext E115) g_b111 (((((((((((((hold.keep K1 all0).keep K3 all0).keep K5 all0).keep K7 all0).ext E9).keep K11 (allS g_b9 all0)).keep K13 (allS g_b9 all0)).keep K105 (allS g_b9 (allS g_b13_0 all0))).keep K107 (allS g_b9 (allS g_b13_0 all0))).keep K109 (allS g_b9 (allS g_b13_0 all0))).ext E111).keep K113 (allS g_b111 all0)).ext E115) S_DEFAULTCAPACITY_EMPTY_ELEMENTDATA V_wE P115_0) hZ (hw _ (tm 54 rfl)) (hw _ (tm 28 rfl)) (by decide) (by decide)) q117a q117c (g := (mkF m 104 #[iv p1, iv p2, iv p3, iv p4, iv p5, iv p6, iv (4 : Int32), rv b1_0, rv b3_0, rv b5_0, rv b7_0, rv b9, rv b111, .unset, .unset, .unset, .unset] [(.ref c115), (.ref b111)])) rfl (by rw [hml]; rfl) (Steps.refl _) (argsL := [(.ref c115)]) (rest := []) (lenOf pd__Ljava_lang_Object__Z rfl) rfl (by show 2 * 0 + _ ≤ _; exact Nat.le_of_eq rfl) (hb hby at_104) (fun _ _ => ⟨rfl, e115, (by decide : 29 + 1 ≤ _), (by decide : 120 + 10 ≤ _)⟩)
    dsimp only [Pt.U, Pt.locs, Pt.cells, Pt.slots] at X117 l117 y117 z117 st117 hQ117
    subst l117 y117 z117
    obtain ⟨b117_0, kb117_1, rfl, N117q, K117, yb117_0, P117_0, P117_1, P117_2, P117_3, P117_4, P117_5, P117_6⟩ := hQ117
    have g_b117_0 : n0 ≤ b117_0 := ltr (ltr (ltr (ltr (ltr (ltr (ltr (ltr (ltr (ltr (ltr (ltr (ltr (ltr Z0 K1.1) K3.1) K5.1) K7.1) E9.1) K11.1) K13.1) K105.1) K107.1) K109.1) E111.1) K113.1) E115.1) yb117_0
    have C118 := C116.trans (CHr.keep K117 (allS (Safe.exa hZ.alike (P113_0.ext E115) (by decide) (by decide)) all0) C116.1)
    have N117 := Fr.app N113 N117q
    refine own_go ?_ (fun _ hr => st117.trans (XS.pop X117.here hx rfl (hb hby at_107) rfl rfl (XS.aload X117.here hx rfl (hb hby at_108) rfl rfl hr)))
    show own_H (T117.setTop (mkF m 110 #[iv p1, iv p2, iv p3, iv p4, iv p5, iv p6, iv (4 : Int32), rv b1_0, rv b3_0, rv b5_0, rv b7_0, rv b9, rv b111, .unset, .unset, .unset, .unset] [(.ref b111)]))
    obtain ⟨c119, T119, h119, k119, d119, kd119, X119, e119, E119, hS119, hk119, hZ, hown, P119_0, P119_1, P119_2, P119_3, lc119, ld119, H119c, L119, hne119, st119⟩ := ldcCH (s := s) (vm0 := T115.vm) X117 hx hZ hown (hw _ (tm 82 rfl)) wS rfl hS115 (ltr hk115 K117.1) hEL (List.mem_of_getElem? (i := 1) rfl) C118.1 (vs := [(.int (104 : Int32)), (.int (101 : Int32)), (.int (97 : Int32)), (.int (100 : Int32)), (.int (101 : Int32)), (.int (114 : Int32)), (.int (45 : Int32)), (.int (110 : Int32)), (.int (97 : Int32)), (.int (109 : Int32)), (.int (101 : Int32)), (.int (45 : Int32)), (.int (49 : Int32))]) (z := (13 : Int32)) ⟨by decide, rfl⟩ (by decide) rfl (g := (mkF m 110 #[iv p1, iv p2, iv p3, iv p4, iv p5, iv p6, iv (4 : Int32), rv b1_0, rv b3_0, rv b5_0, rv b7_0, rv b9, rv b111, .unset, .unset, .unset, .unset] [(.ref b111)])) rfl (hb hby at_110) (n := 52) (by decide) (by decide) (by decide) (by decide)
    have C120 := C118.trans H119c
    refine own_go ?_ (fun _ hr => st119 _ hr)
    show own_H (T119.setTop (mkF m 112 #[iv p1, iv p2, iv p3, iv p4, iv p5, iv p6, iv (4 : Int32), rv b1_0, rv b3_0, rv b5_0, rv b7_0, rv b9, rv b111, .unset, .unset, .unset, .unset] [(.ref c119), (.ref b111)]))
    obtain ⟨cq121, kq121, q121a, q121b, q121c⟩ := isOf hZ e119 (P117_0.ext E119)
    obtain ⟨_, _, ⟨T121, L121, k121, n121⟩, -, X121, ⟨Lc121, hQ121, l121, y121, z121⟩, st121⟩ := X119.virtualBack hx (y := y14_) (z := y14_) hown (mvT hZ (hw _ (tm 50 rfl))) (mvT hZ (hw _ (tm 51 rfl))) (notFace_of_selects (args := #[]) (mvT hZ (hw _ (tm 53 rfl)))) (mvT hZ (hw _ (tm 53 rfl))) (mvT hZ (hw _ (tm 52 rfl))) (by decide) (backOf (W := 0) (rm_add1_1 l Z a0 hw [] b111 c119 ((0 : Int32) + (1 : Int32)) b117_0 kb117_1 c115 h119 n0 (ltr (ltr (ltr (ltr (ltr (ltr (ltr (ltr (ltr (ltr (ltr (ltr (ltr (ltr (ltr Z0 K1.1) K3.1) K5.1) K7.1) E9.1) K11.1) K13.1) K105.1) K107.1) K109.1) E111.1) K113.1) E115.1) K117.1) E119.1) (P117_0.ext E119) (P117_1.ext E119) (P117_2.ext E119) (P117_3.ext E119) (P117_4.ext E119) P117_6 P119_0 g_b111 g_b117_0 (Nat.ne_of_lt (Nat.lt_of_lt_of_le A111.lt (ltr K113.1 (ltr E115.1 yb117_0))))) hZ (hw _ (tm 54 rfl)) (hw _ (tm 28 rfl)) (by decide) (by decide)) q121a q121c (g := (mkF m 112 #[iv p1, iv p2, iv p3, iv p4, iv p5, iv p6, iv (4 : Int32), rv b1_0, rv b3_0, rv b5_0, rv b7_0, rv b9, rv b111, .unset, .unset, .unset, .unset] [(.ref c119), (.ref b111)])) rfl (by rw [hml]; rfl) (Steps.refl _) (argsL := [(.ref c119)]) (rest := []) (lenOf pd__Ljava_lang_Object__Z rfl) rfl (by show 2 * 0 + _ ≤ _; exact Nat.le_of_eq rfl) (hb hby at_112) (fun _ _ => ⟨rfl, e119, (by decide : 32 + 0 ≤ _), (by decide : 186 + 0 ≤ _)⟩)
    dsimp only [Pt.U, Pt.locs, Pt.cells, Pt.slots] at X121 l121 y121 z121 st121 hQ121
    subst l121 y121 z121
    obtain ⟨rfl, N121q, K121, P121_0, P121_1, P121_2, P121_3, P121_4⟩ := hQ121
    have C122 := C120.trans (CHr.keep K121 (allS (Safe.exa hZ.alike (P117_0.ext E119) (by decide) (by decide)) (allS (own_safeV hZ.alike (P117_4.ext E119) (by decide)) all0)) C120.1)
    have N121 := Fr.app N117 N121q
    refine own_go ?_ (fun _ hr => st121.trans (XS.pop X121.here hx rfl (hb hby at_115) rfl rfl (XS.aload X121.here hx rfl (hb hby at_116) rfl rfl hr)))
    show own_H (T121.setTop (mkF m 118 #[iv p1, iv p2, iv p3, iv p4, iv p5, iv p6, iv (4 : Int32), rv b1_0, rv b3_0, rv b5_0, rv b7_0, rv b9, rv b111, .unset, .unset, .unset, .unset] [(.ref b111)]))
    obtain ⟨c123, T123, h123, k123, d123, kd123, X123, e123, E123, hS123, hk123, hZ, hown, P123_0, P123_1, P123_2, P123_3, lc123, ld123, H123c, L123, hne123, st123⟩ := ldcCH (s := s) (vm0 := T119.vm) X121 hx hZ hown (hw _ (tm 83 rfl)) wS rfl hS119 (ltr hk119 K121.1) hEL (List.mem_of_getElem? (i := 2) rfl) C122.1 (vs := [(.int (104 : Int32)), (.int (101 : Int32)), (.int (97 : Int32)), (.int (100 : Int32)), (.int (101 : Int32)), (.int (114 : Int32)), (.int (45 : Int32)), (.int (110 : Int32)), (.int (97 : Int32)), (.int (109 : Int32)), (.int (101 : Int32)), (.int (45 : Int32)), (.int (50 : Int32))]) (z := (13 : Int32)) ⟨by decide, rfl⟩ (by decide) rfl (g := (mkF m 118 #[iv p1, iv p2, iv p3, iv p4, iv p5, iv p6, iv (4 : Int32), rv b1_0, rv b3_0, rv b5_0, rv b7_0, rv b9, rv b111, .unset, .unset, .unset, .unset] [(.ref b111)])) rfl (hb hby at_118) (n := 52) (by decide) (by decide) (by decide) (by decide)
    have C124 := C122.trans H123c
    refine own_go ?_ (fun _ hr => st123 _ hr)
    show own_H (T123.setTop (mkF m 120 #[iv p1, iv p2, iv p3, iv p4, iv p5, iv p6, iv (4 : Int32), rv b1_0, rv b3_0, rv b5_0, rv b7_0, rv b9, rv b111, .unset, .unset, .unset, .unset] [(.ref c123), (.ref b111)]))
    obtain ⟨cq125, kq125, q125a, q125b, q125c⟩ := isOf hZ e123 (P121_0.ext E123)
    obtain ⟨_, _, ⟨T125, L125, k125, n125⟩, -, X125, ⟨Lc125, hQ125, l125, y125, z125⟩, st125⟩ := X123.virtualBack hx (y := y14_) (z := y14_) hown (mvT hZ (hw _ (tm 50 rfl))) (mvT hZ (hw _ (tm 51 rfl))) (notFace_of_selects (args := #[]) (mvT hZ (hw _ (tm 53 rfl)))) (mvT hZ (hw _ (tm 53 rfl))) (mvT hZ (hw _ (tm 52 rfl))) (by decide) (backOf (W := 0) (rm_add1_2 l Z a0 hw [] b111 c123 (((0 : Int32) + (1 : Int32)) + (1 : Int32)) b117_0 kb117_1 c115 c119 h123 n0 (ltr (ltr (ltr (ltr (ltr (ltr (ltr (ltr (ltr (ltr (ltr (ltr (ltr (ltr (ltr (ltr (ltr Z0 K1.1) K3.1) K5.1) K7.1) E9.1) K11.1) K13.1) K105.1) K107.1) K109.1) E111.1) K113.1) E115.1) K117.1) E119.1) K121.1) E123.1) (P121_0.ext E123) (P121_1.ext E123) (P121_2.ext E123) (P121_3.ext E123) (P121_4.ext E123) P117_6 P123_0 g_b111 g_b117_0 (Nat.ne_of_lt (Nat.lt_of_lt_of_le A111.lt (ltr K113.1 (ltr E115.1 yb117_0))))) hZ (hw _ (tm 54 rfl)) (hw _ (tm 28 rfl)) (by decide) (by decide)) q125a q125c (g := (mkF m 120 #[iv p1, iv p2, iv p3, iv p4, iv p5, iv p6, iv (4 : Int32), rv b1_0, rv b3_0, rv b5_0, rv b7_0, rv b9, rv b111, .unset, .unset, .unset, .unset] [(.ref c123), (.ref b111)])) rfl (by rw [hml]; rfl) (Steps.refl _) (argsL := [(.ref c123)]) (rest := []) (lenOf pd__Ljava_lang_Object__Z rfl) rfl (by show 2 * 0 + _ ≤ _; exact Nat.le_of_eq rfl) (hb hby at_120) (fun _ _ => ⟨rfl, e123, (by decide : 34 + 0 ≤ _), (by decide : 242 + 0 ≤ _)⟩)
    dsimp only [Pt.U, Pt.locs, Pt.cells, Pt.slots] at X125 l125 y125 z125 st125 hQ125
    subst l125 y125 z125
    obtain ⟨rfl, N125q, K125, P125_0, P125_1, P125_2, P125_3, P125_4⟩ := hQ125
    have C126 := C124.trans (CHr.keep K125 (allS (Safe.exa hZ.alike (P121_0.ext E123) (by decide) (by decide)) (allS (own_safeV hZ.alike (P121_4.ext E123) (by decide)) all0)) C124.1)
    have N125 := Fr.app N121 N125q
    refine own_go ?_ (fun _ hr => st125.trans (XS.pop X125.here hx rfl (hb hby at_123) rfl rfl (XS.aload X125.here hx rfl (hb hby at_124) rfl rfl hr)))
    show own_H (T125.setTop (mkF m 126 #[iv p1, iv p2, iv p3, iv p4, iv p5, iv p6, iv (4 : Int32), rv b1_0, rv b3_0, rv b5_0, rv b7_0, rv b9, rv b111, .unset, .unset, .unset, .unset] [(.ref b111)]))
    obtain ⟨c127, T127, h127, k127, d127, kd127, X127, e127, E127, hS127, hk127, hZ, hown, P127_0, P127_1, P127_2, P127_3, lc127, ld127, H127c, L127, hne127, st127⟩ := ldcCH (s := s) (vm0 := T123.vm) X125 hx hZ hown (hw _ (tm 84 rfl)) wS rfl hS123 (ltr hk123 K125.1) hEL (List.mem_of_getElem? (i := 3) rfl) C126.1 (vs := [(.int (104 : Int32)), (.int (101 : Int32)), (.int (97 : Int32)), (.int (100 : Int32)), (.int (101 : Int32)), (.int (114 : Int32)), (.int (45 : Int32)), (.int (110 : Int32)), (.int (97 : Int32)), (.int (109 : Int32)), (.int (101 : Int32)), (.int (45 : Int32)), (.int (51 : Int32))]) (z := (13 : Int32)) ⟨by decide, rfl⟩ (by decide) rfl (g := (mkF m 126 #[iv p1, iv p2, iv p3, iv p4, iv p5, iv p6, iv (4 : Int32), rv b1_0, rv b3_0, rv b5_0, rv b7_0, rv b9, rv b111, .unset, .unset, .unset, .unset] [(.ref b111)])) rfl (hb hby at_126) (n := 52) (by decide) (by decide) (by decide) (by decide)
    have C128 := C126.trans H127c
    refine own_go ?_ (fun _ hr => st127 _ hr)
    show own_H (T127.setTop (mkF m 128 #[iv p1, iv p2, iv p3, iv p4, iv p5, iv p6, iv (4 : Int32), rv b1_0, rv b3_0, rv b5_0, rv b7_0, rv b9, rv b111, .unset, .unset, .unset, .unset] [(.ref c127), (.ref b111)]))
    obtain ⟨cq129, kq129, q129a, q129b, q129c⟩ := isOf hZ e127 (P125_0.ext E127)
    obtain ⟨_, _, ⟨T129, L129, k129, n129⟩, -, X129, ⟨Lc129, hQ129, l129, y129, z129⟩, st129⟩ := X127.virtualBack hx (y := y14_) (z := y14_) hown (mvT hZ (hw _ (tm 50 rfl))) (mvT hZ (hw _ (tm 51 rfl))) (notFace_of_selects (args := #[]) (mvT hZ (hw _ (tm 53 rfl)))) (mvT hZ (hw _ (tm 53 rfl))) (mvT hZ (hw _ (tm 52 rfl))) (by decide) (backOf (W := 0) (rm_add1_3 l Z a0 hw [] b111 c127 ((((0 : Int32) + (1 : Int32)) + (1 : Int32)) + (1 : Int32)) b117_0 kb117_1 c115 c119 c123 h127 n0 (ltr (ltr (ltr (ltr (ltr (ltr (ltr (ltr (ltr (ltr (ltr (ltr (ltr (ltr (ltr (ltr (ltr (ltr (ltr Z0 K1.1) K3.1) K5.1) K7.1) E9.1) K11.1) K13.1) K105.1) K107.1) K109.1) E111.1) K113.1) E115.1) K117.1) E119.1) K121.1) E123.1) K125.1) E127.1) (P125_0.ext E127) (P125_1.ext E127) (P125_2.ext E127) (P125_3.ext E127) (P125_4.ext E127) P117_6 P127_0 g_b111 g_b117_0 (Nat.ne_of_lt (Nat.lt_of_lt_of_le A111.lt (ltr K113.1 (ltr E115.1 yb117_0))))) hZ (hw _ (tm 54 rfl)) (hw _ (tm 28 rfl)) (by decide) (by decide)) q129a q129c (g := (mkF m 128 #[iv p1, iv p2, iv p3, iv p4, iv p5, iv p6, iv (4 : Int32), rv b1_0, rv b3_0, rv b5_0, rv b7_0, rv b9, rv b111, .unset, .unset, .unset, .unset] [(.ref c127), (.ref b111)])) rfl (by rw [hml]; rfl) (Steps.refl _) (argsL := [(.ref c127)]) (rest := []) (lenOf pd__Ljava_lang_Object__Z rfl) rfl (by show 2 * 0 + _ ≤ _; exact Nat.le_of_eq rfl) (hb hby at_128) (fun _ _ => ⟨rfl, e127, (by decide : 36 + 0 ≤ _), (by decide : 298 + 0 ≤ _)⟩)
    dsimp only [Pt.U, Pt.locs, Pt.cells, Pt.slots] at X129 l129 y129 z129 st129 hQ129
    subst l129 y129 z129
    obtain ⟨rfl, N129q, K129, P129_0, P129_1, P129_2, P129_3, P129_4⟩ := hQ129
    have C130 := C128.trans (CHr.keep K129 (allS (Safe.exa hZ.alike (P125_0.ext E127) (by decide) (by decide)) (allS (own_safeV hZ.alike (P125_4.ext E127) (by decide)) all0)) C128.1)
    have N129 := Fr.app N125 N129q
    refine own_go ?_ (fun _ hr => st129.trans (XS.pop X129.here hx rfl (hb hby at_131) rfl rfl hr))
    show own_H (T129.setTop (mkF m 132 #[iv p1, iv p2, iv p3, iv p4, iv p5, iv p6, iv (4 : Int32), rv b1_0, rv b3_0, rv b5_0, rv b7_0, rv b9, rv b111, .unset, .unset, .unset, .unset] []))
    obtain ⟨T131, h131, X131, e131, E131, A131, D131, -, st131⟩ := newO X129 hx hZ hown (hw _ (tm 85 rfl)) (hw _ (tm 86 rfl)) (hw _ (tm 87 rfl)) rfl (g := (mkF m 132 #[iv p1, iv p2, iv p3, iv p4, iv p5, iv p6, iv (4 : Int32), rv b1_0, rv b3_0, rv b5_0, rv b7_0, rv b9, rv b111, .unset, .unset, .unset, .unset] [])) rfl (hb hby at_132) (by decide) (by decide)
    obtain ⟨b131, g131⟩ : ∃ z, z = T129.heap.size := ⟨_, rfl⟩
    rw [← g131] at A131 D131 st131
    have g_b131 : n0 ≤ b131 := ltr (ltr (ltr (ltr (ltr (ltr (ltr (ltr (ltr (ltr (ltr (ltr (ltr (ltr (ltr (ltr (ltr (ltr (ltr (ltr (ltr Z0 K1.1) K3.1) K5.1) K7.1) E9.1) K11.1) K13.1) K105.1) K107.1) K109.1) E111.1) K113.1) E115.1) K117.1) E119.1) K121.1) E123.1) K125.1) E127.1) K129.1) (leq g131.symm)
    have C132 := C130.trans (CHr.ext E131 C130.1)
    have F131_93 : Fld Z h131 b131 "java/util/AbstractList" "modCount" "I" (.int (0 : Int32)) := D131 (Or.inl (hw _ (tm 93 rfl))) (ty := .int) (by decide)
    have F131_181 : Fld Z h131 b131 "com/example/ninkasi/ninkasi/csv/CsvRecord" "fields" "Ljava/util/List;" .null := D131 (Or.inr (hw _ (tm 181 rfl))) (ty := (.object "java/util/List")) (by decide)
    have F131_202 : Fld Z h131 b131 "com/example/ninkasi/ninkasi/csv/CsvRecord" "fieldNames" "Ljava/util/List;" .null := D131 (Or.inr (hw _ (tm 202 rfl))) (ty := (.object "java/util/List")) (by decide)
    refine own_go ?_ (fun _ hr => st131 _ (XS.dup X131.here hx rfl (hb hby at_135) rfl rfl (XS.aload X131.here hx rfl (hb hby at_136) rfl rfl (XS.aload X131.here hx rfl (hb hby at_138) rfl rfl hr))))
    show own_H (T131.setTop (mkF m 140 #[iv p1, iv p2, iv p3, iv p4, iv p5, iv p6, iv (4 : Int32), rv b1_0, rv b3_0, rv b5_0, rv b7_0, rv b9, rv b111, .unset, .unset, .unset, .unset] [(.ref b111), (.ref b9), (.ref b131), (.ref b131)]))
    have ne_b9_b111 : b9 ≠ b111 := Nat.ne_of_lt (Nat.lt_of_lt_of_le A9.lt (ltr K11.1 (ltr K13.1 (ltr K105.1 (ltr K107.1 (ltr K109.1 (leq g111.symm)))))))
    have ne_b9_b117_0 : b9 ≠ b117_0 := Nat.ne_of_lt (Nat.lt_of_lt_of_le A9.lt (ltr K11.1 (ltr K13.1 (ltr K105.1 (ltr K107.1 (ltr K109.1 (ltr E111.1 (ltr K113.1 (ltr E115.1 yb117_0)))))))))
    have ne_b13_0_b111 : b13_0 ≠ b111 := Nat.ne_of_lt (Nat.lt_of_lt_of_le P13_4.lt (ltr K105.1 (ltr K107.1 (ltr K109.1 (leq g111.symm)))))
    have ne_b13_0_b117_0 : b13_0 ≠ b117_0 := Nat.ne_of_lt (Nat.lt_of_lt_of_le P13_4.lt (ltr K105.1 (ltr K107.1 (ltr K109.1 (ltr E111.1 (ltr K113.1 (ltr E115.1 yb117_0)))))))
    have ne_b9_b131 : b9 ≠ b131 := Nat.ne_of_lt (Nat.lt_of_lt_of_le A9.lt (ltr K11.1 (ltr K13.1 (ltr K105.1 (ltr K107.1 (ltr K109.1 (ltr E111.1 (ltr K113.1 (ltr E115.1 (ltr K117.1 (ltr E119.1 (ltr K121.1 (ltr E123.1 (ltr K125.1 (ltr E127.1 (ltr K129.1 (leq g131.symm)))))))))))))))))
    have ne_b111_b131 : b111 ≠ b131 := Nat.ne_of_lt (Nat.lt_of_lt_of_le A111.lt (ltr K113.1 (ltr E115.1 (ltr K117.1 (ltr E119.1 (ltr K121.1 (ltr E123.1 (ltr K125.1 (ltr E127.1 (ltr K129.1 (leq g131.symm)))))))))))
    have ne_b13_0_b131 : b13_0 ≠ b131 := Nat.ne_of_lt (Nat.lt_of_lt_of_le P13_4.lt (ltr K105.1 (ltr K107.1 (ltr K109.1 (ltr E111.1 (ltr K113.1 (ltr E115.1 (ltr K117.1 (ltr E119.1 (ltr K121.1 (ltr E123.1 (ltr K125.1 (ltr E127.1 (ltr K129.1 (leq g131.symm)))))))))))))))
    have ne_b117_0_b131 : b117_0 ≠ b131 := Nat.ne_of_lt (Nat.lt_of_lt_of_le P117_4.lt (ltr E119.1 (ltr K121.1 (ltr E123.1 (ltr K125.1 (ltr E127.1 (ltr K129.1 (leq g131.symm))))))))
    obtain ⟨_, _, ⟨T133, L133, k133, n133⟩, -, X133, ⟨Lc133, hQ133, l133, y133, z133⟩, st133⟩ := X131.specialBack hx (y := y32_) rfl hown (mvT hZ (hw _ (tm 88 rfl))) (mvT hZ (hw _ (tm 89 rfl))) (mvT hZ (hw _ (tm 90 rfl))) (by decide) (backOf (W := 1) (rm_rec_4 l Z a0 hw [] b131 b9 b111 (.int (0 : Int32)) (.null) (.null) b13_0 kb13_1 b117_0 kb117_1 mO b1_0 b3_0 b5_0 b7_0 c115 c119 c123 c127 wM h131 n0 (ltr (ltr (ltr (ltr (ltr (ltr (ltr (ltr (ltr (ltr (ltr (ltr (ltr (ltr (ltr (ltr (ltr (ltr (ltr (ltr (ltr Z0 K1.1) K3.1) K5.1) K7.1) E9.1) K11.1) K13.1) K105.1) K107.1) K109.1) E111.1) K113.1) E115.1) K117.1) E119.1) K121.1) E123.1) K125.1) E127.1) K129.1) E131.1) A131 F131_93 F131_181 F131_202 g_b131 (((((((((((P109_0.ext E111).keep K113).ext E115).keep K117).ext E119).keep K121).ext E123).keep K125).ext E127).keep K129).ext E131) (((((((((((P109_2.ext E111).keep K113 (ninS ne_b9_b111 nin0)).ext E115).keep K117 (ninS ne_b9_b111 nin0)).ext E119).keep K121 (ninS ne_b9_b111 (ninS ne_b9_b117_0 nin0))).ext E123).keep K125 (ninS ne_b9_b111 (ninS ne_b9_b117_0 nin0))).ext E127).keep K129 (ninS ne_b9_b111 (ninS ne_b9_b117_0 nin0))).ext E131) (((((((((((P109_3.ext E111).keep K113 (ninS ne_b9_b111 nin0)).ext E115).keep K117 (ninS ne_b9_b111 nin0)).ext E119).keep K121 (ninS ne_b9_b111 (ninS ne_b9_b117_0 nin0))).ext E123).keep K125 (ninS ne_b9_b111 (ninS ne_b9_b117_0 nin0))).ext E127).keep K129 (ninS ne_b9_b111 (ninS ne_b9_b117_0 nin0))).ext E131) (((((((((((P109_4.ext E111).keep K113 (ninS ne_b13_0_b111 nin0)).ext E115).keep K117 (ninS ne_b13_0_b111 nin0)).ext E119).keep K121 (ninS ne_b13_0_b111 (ninS ne_b13_0_b117_0 nin0))).ext E123).keep K125 (ninS ne_b13_0_b111 (ninS ne_b13_0_b117_0 nin0))).ext E127).keep K129 (ninS ne_b13_0_b111 (ninS ne_b13_0_b117_0 nin0))).ext E131) ((((((((((((((P13_5.keep K105).keep K107).keep K109).ext E111).keep K113).ext E115).keep K117).ext E119).keep K121).ext E123).keep K125).ext E127).keep K129).ext E131) ((((((((((((((((((((P1_0.keep K3).keep K5).keep K7).ext E9).keep K11).keep K13).keep K105).keep K107).keep K109).ext E111).keep K113).ext E115).keep K117).ext E119).keep K121).ext E123).keep K125).ext E127).keep K129).ext E131) (((((((((((((((((((P3_0.keep K5).keep K7).ext E9).keep K11).keep K13).keep K105).keep K107).keep K109).ext E111).keep K113).ext E115).keep K117).ext E119).keep K121).ext E123).keep K125).ext E127).keep K129).ext E131) ((((((((((((((((((P5_0.keep K7).ext E9).keep K11).keep K13).keep K105).keep K107).keep K109).ext E111).keep K113).ext E115).keep K117).ext E119).keep K121).ext E123).keep K125).ext E127).keep K129).ext E131) (((((((((((((((((P7_0.ext E9).keep K11).keep K13).keep K105).keep K107).keep K109).ext E111).keep K113).ext E115).keep K117).ext E119).keep K121).ext E123).keep K125).ext E127).keep K129).ext E131) mir_mO (P129_0.ext E131) (P129_2.ext E131) (P129_3.ext E131) (P129_4.ext E131) (((((((P117_5.ext E119).keep K121).ext E123).keep K125).ext E127).keep K129).ext E131) ((((((((P115_0.keep K117).ext E119).keep K121).ext E123).keep K125).ext E127).keep K129).ext E131) ((((((P119_0.keep K121).ext E123).keep K125).ext E127).keep K129).ext E131) ((((P123_0.keep K125).ext E127).keep K129).ext E131) ((P127_0.keep K129).ext E131) (((((((((((((((((((((hold.keep K1 all0).keep K3 all0).keep K5 all0).keep K7 all0).ext E9).keep K11 (allS g_b9 all0)).keep K13 (allS g_b9 all0)).keep K105 (allS g_b9 (allS g_b13_0 all0))).keep K107 (allS g_b9 (allS g_b13_0 all0))).keep K109 (allS g_b9 (allS g_b13_0 all0))).ext E111).keep K113 (allS g_b111 all0)).ext E115).keep K117 (allS g_b111 all0)).ext E119).keep K121 (allS g_b111 (allS g_b117_0 all0))).ext E123).keep K125 (allS g_b111 (allS g_b117_0 all0))).ext E127).keep K129 (allS g_b111 (allS g_b117_0 all0))).ext E131) S_EMPTY ne_b9_b131 ne_b111_b131 ne_b13_0_b131 ne_b117_0_b131) hZ (hw _ (tm 90 rfl)) (hw _ (tm 87 rfl)) (by decide) (by decide)) (g := (mkF m 140 #[iv p1, iv p2, iv p3, iv p4, iv p5, iv p6, iv (4 : Int32), rv b1_0, rv b3_0, rv b5_0, rv b7_0, rv b9, rv b111, .unset, .unset, .unset, .unset] [(.ref b111), (.ref b9), (.ref b131), (.ref b131)])) rfl (by rw [hml]; rfl) (Steps.refl _) (a := b131) (argsL := [(.ref b9), (.ref b111)]) (rest := [(.ref b131)]) (lenOf pd__Ljava_util_List_Ljava_util_List__V rfl) rfl (by show 2 * 0 + _ ≤ _; exact Nat.le_of_eq rfl) (hb hby at_140) (fun _ _ => ⟨rfl, e131, (by decide : 37 + 6 ≤ _), (by decide : 301 + 20 ≤ _)⟩)
    dsimp only [Pt.U, Pt.locs, Pt.cells, Pt.slots] at X133 l133 y133 z133 st133 hQ133
    subst l133 y133 z133
    obtain ⟨b133_0, b133_1, kb133_2, rfl, N133q, K133, yb133_0, yb133_1, P133_0, P133_1, P133_2, P133_3, P133_4⟩ := hQ133
    have g_b133_0 : n0 ≤ b133_0 := ltr (ltr (ltr (ltr (ltr (ltr (ltr (ltr (ltr (ltr (ltr (ltr (ltr (ltr (ltr (ltr (ltr (ltr (ltr (ltr (ltr (ltr Z0 K1.1) K3.1) K5.1) K7.1) E9.1) K11.1) K13.1) K105.1) K107.1) K109.1) E111.1) K113.1) E115.1) K117.1) E119.1) K121.1) E123.1) K125.1) E127.1) K129.1) E131.1) yb133_0
    have g_b133_1 : n0 ≤ b133_1 := ltr (ltr (ltr (ltr (ltr (ltr (ltr (ltr (ltr (ltr (ltr (ltr (ltr (ltr (ltr (ltr (ltr (ltr (ltr (ltr (ltr (ltr Z0 K1.1) K3.1) K5.1) K7.1) E9.1) K11.1) K13.1) K105.1) K107.1) K109.1) E111.1) K113.1) E115.1) K117.1) E119.1) K121.1) E123.1) K125.1) E127.1) K129.1) E131.1) yb133_1
    have C134 := C132.trans (CHr.keep K133 (allS (Safe.exa hZ.alike A131 (by decide) (by decide)) all0) C132.1)
    have N133 := Fr.app N129 N133q
    refine own_go ?_ (fun _ hr => st133.trans (XS.astore X133.here hx rfl (hb hby at_143) rfl rfl (l' := #[iv p1, iv p2, iv p3, iv p4, iv p5, iv p6, iv (4 : Int32), rv b1_0, rv b3_0, rv b5_0, rv b7_0, rv b9, rv b111, rv b131, .unset, .unset, .unset]) rfl (XS.iload X133.here hx rfl (hb hby at_145) rfl (X133.ldcI hx hown (mvT hZ (hw _ (tm 203 rfl))) rfl (hb hby at_147) (XS.iand X133.here hx rfl (hb hby at_149) rfl (XS.iload X133.here hx rfl (hb hby at_150) rfl (iremM X133 hx rfl (hb hby at_152) rfl (by decide) hr)))))))
    show own_H (T133.setTop (mkF m 153 #[iv p1, iv p2, iv p3, iv p4, iv p5, iv p6, iv (4 : Int32), rv b1_0, rv b3_0, rv b5_0, rv b7_0, rv b9, rv b111, rv b131, .unset, .unset, .unset] [(.int ((p6 &&& (2147483647 : Int32)) % (4 : Int32)))]))
    rcases own_md4 p6 with hs153_0 | hs153_1 | hs153_2 | hs153_3
    ·
      rw [hs153_0]
      show own_H (T133.setTop (mkF m 153 #[iv p1, iv p2, iv p3, iv p4, iv p5, iv p6, iv (4 : Int32), rv b1_0, rv b3_0, rv b5_0, rv b7_0, rv b9, rv b111, rv b131, .unset, .unset, .unset] [(.int (0 : Int32))]))
      refine own_go ?_ (fun _ hr => XS.istore X133.here hx rfl (hb hby at_153) rfl (l' := #[iv p1, iv p2, iv p3, iv p4, iv p5, iv p6, iv (4 : Int32), rv b1_0, rv b3_0, rv b5_0, rv b7_0, rv b9, rv b111, rv b131, iv (0 : Int32), .unset, .unset]) rfl (XS.iload X133.here hx rfl (hb hby at_155) rfl (XS.ifNo X133.here hx rfl (hb hby at_157) rfl ((if0 _ _).trans (teq (by decide : (0 : Int32) = (0 : Int32))).2) (XS.aload X133.here hx rfl (hb hby at_160) rfl rfl (XS.astore X133.here hx rfl (hb hby at_162) rfl rfl (l' := #[iv p1, iv p2, iv p3, iv p4, iv p5, iv p6, iv (4 : Int32), rv b1_0, rv b3_0, rv b5_0, rv b7_0, rv b9, rv b111, rv b131, iv (0 : Int32), rv b1_0, .unset]) rfl (XS.goto X133.here hx rfl (pc0 := 164) (pc' := 197) rfl (hb hby at_164) (by decide) (by decide) (XS.aload X133.here hx rfl (hb hby at_197) rfl rfl (XS.iload X133.here hx rfl (hb hby at_199) rfl hr))))))))
      show own_H (T133.setTop (mkF m 201 #[iv p1, iv p2, iv p3, iv p4, iv p5, iv p6, iv (4 : Int32), rv b1_0, rv b3_0, rv b5_0, rv b7_0, rv b9, rv b111, rv b131, iv (0 : Int32), rv b1_0, .unset] [(.int (0 : Int32)), (.ref b131)]))
      obtain ⟨cq135, kq135, q135a, q135b, q135c⟩ := isOf hZ rfl P133_0
      obtain ⟨_, _, ⟨T135, L135, k135, n135⟩, -, X135, ⟨Lc135, hQ135, l135, y135, z135⟩, st135⟩ := X133.virtualBack hx (y := y34_) (z := y34_) hown (mvT hZ (hw _ (tm 204 rfl))) (mvT hZ (hw _ (tm 205 rfl))) (notFace_of_selects (args := #[]) (mvT hZ (hw _ (tm 207 rfl)))) (mvT hZ (hw _ (tm 207 rfl))) (mvT hZ (hw _ (tm 206 rfl))) (by decide) (backOf (W := 0) (rm_rget_4_0 l Z a0 hw [] b131 b133_0 b1_0 b3_0 b5_0 b7_0 b133_1 kb133_2 T133.heap n0 (ltr (ltr (ltr (ltr (ltr (ltr (ltr (ltr (ltr (ltr (ltr (ltr (ltr (ltr (ltr (ltr (ltr (ltr (ltr (ltr (ltr (ltr Z0 K1.1) K3.1) K5.1) K7.1) E9.1) K11.1) K13.1) K105.1) K107.1) K109.1) E111.1) K113.1) E115.1) K117.1) E119.1) K121.1) E123.1) K125.1) E127.1) K129.1) E131.1) K133.1) P133_1 P133_2 P133_3 P133_4 (((((((((((((((((((((P1_0.keep K3).keep K5).keep K7).ext E9).keep K11).keep K13).keep K105).keep K107).keep K109).ext E111).keep K113).ext E115).keep K117).ext E119).keep K121).ext E123).keep K125).ext E127).keep K129).ext E131).keep K133)) hZ (hw _ (tm 208 rfl)) (hw _ (tm 87 rfl)) (by decide) (by decide)) q135a q135c (g := (mkF m 201 #[iv p1, iv p2, iv p3, iv p4, iv p5, iv p6, iv (4 : Int32), rv b1_0, rv b3_0, rv b5_0, rv b7_0, rv b9, rv b111, rv b131, iv (0 : Int32), rv b1_0, .unset] [(.int (0 : Int32)), (.ref b131)])) rfl (by rw [hml]; rfl) (Steps.refl _) (argsL := [(.int (0 : Int32))]) (rest := []) (lenOf pd__I_Ljava_lang_String_ rfl) rfl (by show 2 * 0 + _ ≤ _; exact Nat.le_of_eq rfl) (hb hby at_201) (fun _ _ => ⟨rfl, rfl, (by decide : 43 + 0 ≤ _), (by decide : 321 + 0 ≤ _)⟩)
      dsimp only [Pt.U, Pt.locs, Pt.cells, Pt.slots] at X135 l135 y135 z135 st135 hQ135
      subst l135 y135 z135
      obtain ⟨rfl, N135q, e135⟩ := hQ135
      have N135 := Fr.app N133 N135q
      refine own_go ?_ (fun _ hr => st135.trans (XS.astore X135.here hx rfl (hb hby at_204) rfl rfl (l' := #[iv p1, iv p2, iv p3, iv p4, iv p5, iv p6, iv (4 : Int32), rv b1_0, rv b3_0, rv b5_0, rv b7_0, rv b9, rv b111, rv b131, iv (0 : Int32), rv b1_0, rv b1_0]) rfl (XS.aload X135.here hx rfl (hb hby at_206) rfl rfl (XS.ifnullNo X135.here hx rfl (hb hby at_208) rfl (XS.aload X135.here hx rfl (hb hby at_211) rfl rfl (XS.aload X135.here hx rfl (hb hby at_213) rfl rfl hr))))))
      show own_H (T135.setTop (mkF m 215 #[iv p1, iv p2, iv p3, iv p4, iv p5, iv p6, iv (4 : Int32), rv b1_0, rv b3_0, rv b5_0, rv b7_0, rv b9, rv b111, rv b131, iv (0 : Int32), rv b1_0, rv b1_0] [(.ref b1_0), (.ref b1_0)]))
      obtain ⟨cq136, kq136, q136a, q136b, q136c⟩ := isOf hZ e135 (((((((((((((((((((((P1_0.keep K3).keep K5).keep K7).ext E9).keep K11).keep K13).keep K105).keep K107).keep K109).ext E111).keep K113).ext E115).keep K117).ext E119).keep K121).ext E123).keep K125).ext E127).keep K129).ext E131).keep K133)
      obtain ⟨_, _, ⟨T136, L136, k136, n136⟩, -, X136, ⟨Lc136, hQ136, l136, y136, z136⟩, st136⟩ := X135.virtualBack hx (y := y37_) (z := y37_) hown (mvT hZ (hw _ (tm 219 rfl))) (mvT hZ (hw _ (tm 220 rfl))) (notFace_of_selects (args := #[]) (mvT hZ (hw _ (tm 222 rfl)))) (mvT hZ (hw _ (tm 222 rfl))) (mvT hZ (hw _ (tm 221 rfl))) (by decide) (backOf (W := 0) (rm_eq l Z a0 hw [] b1_0 T133.heap n0 (ltr (ltr (ltr (ltr (ltr (ltr (ltr (ltr (ltr (ltr (ltr (ltr (ltr (ltr (ltr (ltr (ltr (ltr (ltr (ltr (ltr (ltr Z0 K1.1) K3.1) K5.1) K7.1) E9.1) K11.1) K13.1) K105.1) K107.1) K109.1) E111.1) K113.1) E115.1) K117.1) E119.1) K121.1) E123.1) K125.1) E127.1) K129.1) E131.1) K133.1) ) hZ (hw _ (tm 223 rfl)) (hw _ (tm 6 rfl)) (by decide) (by decide)) q136a q136c (g := (mkF m 215 #[iv p1, iv p2, iv p3, iv p4, iv p5, iv p6, iv (4 : Int32), rv b1_0, rv b3_0, rv b5_0, rv b7_0, rv b9, rv b111, rv b131, iv (0 : Int32), rv b1_0, rv b1_0] [(.ref b1_0), (.ref b1_0)])) rfl (by rw [hml]; rfl) (Steps.refl _) (argsL := [(.ref b1_0)]) (rest := []) (lenOf pd__Ljava_lang_Object__Z rfl) rfl (by show 2 * 0 + _ ≤ _; exact Nat.le_of_eq rfl) (hb hby at_215) (fun _ _ => ⟨rfl, e135, (by decide : 43 + 0 ≤ _), (by decide : 321 + 0 ≤ _)⟩)
      dsimp only [Pt.U, Pt.locs, Pt.cells, Pt.slots] at X136 l136 y136 z136 st136 hQ136
      subst l136 y136 z136
      obtain ⟨rfl, N136q, e136⟩ := hQ136
      have N136 := Fr.app N135 N136q
      refine own_go ?_ (fun _ hr => st136.trans (XS.ifNo X136.here hx rfl (hb hby at_218) rfl ((if0 _ _).trans (feq (by decide : ¬ ((1 : Int32) = (0 : Int32)))).1) (XS.iconst X136.here hx rfl (hb hby at_221) (XS.goto X136.here hx rfl (pc0 := 222) (pc' := 226) rfl (hb hby at_222) (by decide) (by decide) hr))))
      show own_H (T136.setTop (mkF m 226 #[iv p1, iv p2, iv p3, iv p4, iv p5, iv p6, iv (4 : Int32), rv b1_0, rv b3_0, rv b5_0, rv b7_0, rv b9, rv b111, rv b131, iv (0 : Int32), rv b1_0, rv b1_0] [(.int (1 : Int32))]))
      obtain ⟨fs, hr, hrun, hended, hRW⟩ := Stand.leaveW (s := s) (vm₁ := T127.vm) X136 hS127 (by rw [e136]; exact (ltr (ltr (ltr hk127 K129.1) E131.1) K133.1)) (v := some (.int (1 : Int32))) (fun h => by rw [Bd.returns] at h; cases h)
      have hCe := C134.trans (CHv.at (s := s) (vm0 := T127.vm) X136 hZ hEL C134.1)
      exact ⟨_, _, retN X136 hx (t := .boolean) Bd.returns (by simp) (hb hby at_226) hr, hrun, hended, _, _, rfl, ⟨rfl, N136, trivial⟩, (by rw [hh, show (T136.setFrames fs).heap = T133.heap from e136]; exact hCe), hRW.1, hRW.2.1, hRW.2.2.1, hRW.2.2.2.mono (by decide) (by decide)⟩
    ·
      rw [hs153_1]
      show own_H (T133.setTop (mkF m 153 #[iv p1, iv p2, iv p3, iv p4, iv p5, iv p6, iv (4 : Int32), rv b1_0, rv b3_0, rv b5_0, rv b7_0, rv b9, rv b111, rv b131, .unset, .unset, .unset] [(.int (1 : Int32))]))
      refine own_go ?_ (fun _ hr => XS.istore X133.here hx rfl (hb hby at_153) rfl (l' := #[iv p1, iv p2, iv p3, iv p4, iv p5, iv p6, iv (4 : Int32), rv b1_0, rv b3_0, rv b5_0, rv b7_0, rv b9, rv b111, rv b131, iv (1 : Int32), .unset, .unset]) rfl (XS.iload X133.here hx rfl (hb hby at_155) rfl (XS.ifYes X133.here hx rfl (pc0 := 157) (pc' := 167) rfl (hb hby at_157) rfl ((if0 _ _).trans (feq (by decide : ¬ ((1 : Int32) = (0 : Int32)))).2) (by decide) (by decide) (XS.iload X133.here hx rfl (hb hby at_167) rfl (XS.iconst X133.here hx rfl (hb hby at_169) (XS.icmpNo X133.here hx rfl (hb hby at_170) rfl (teq (by decide : (1 : Int32) = (1 : Int32))).2 (XS.aload X133.here hx rfl (hb hby at_173) rfl rfl (XS.astore X133.here hx rfl (hb hby at_175) rfl rfl (l' := #[iv p1, iv p2, iv p3, iv p4, iv p5, iv p6, iv (4 : Int32), rv b1_0, rv b3_0, rv b5_0, rv b7_0, rv b9, rv b111, rv b131, iv (1 : Int32), rv b3_0, .unset]) rfl hr))))))))
      show own_H (T133.setTop (mkF m 177 #[iv p1, iv p2, iv p3, iv p4, iv p5, iv p6, iv (4 : Int32), rv b1_0, rv b3_0, rv b5_0, rv b7_0, rv b9, rv b111, rv b131, iv (1 : Int32), rv b3_0, .unset] []))
      refine own_go ?_ (fun _ hr => XS.goto X133.here hx rfl (pc0 := 177) (pc' := 197) rfl (hb hby at_177) (by decide) (by decide) (XS.aload X133.here hx rfl (hb hby at_197) rfl rfl (XS.iload X133.here hx rfl (hb hby at_199) rfl hr)))
      show own_H (T133.setTop (mkF m 201 #[iv p1, iv p2, iv p3, iv p4, iv p5, iv p6, iv (4 : Int32), rv b1_0, rv b3_0, rv b5_0, rv b7_0, rv b9, rv b111, rv b131, iv (1 : Int32), rv b3_0, .unset] [(.int (1 : Int32)), (.ref b131)]))
      obtain ⟨cq137, kq137, q137a, q137b, q137c⟩ := isOf hZ rfl P133_0
      obtain ⟨_, _, ⟨T137, L137, k137, n137⟩, -, X137, ⟨Lc137, hQ137, l137, y137, z137⟩, st137⟩ := X133.virtualBack hx (y := y34_) (z := y34_) hown (mvT hZ (hw _ (tm 204 rfl))) (mvT hZ (hw _ (tm 205 rfl))) (notFace_of_selects (args := #[]) (mvT hZ (hw _ (tm 207 rfl)))) (mvT hZ (hw _ (tm 207 rfl))) (mvT hZ (hw _ (tm 206 rfl))) (by decide) (backOf (W := 0) (rm_rget_4_1 l Z a0 hw [] b131 b133_0 b1_0 b3_0 b5_0 b7_0 b133_1 kb133_2 T133.heap n0 (ltr (ltr (ltr (ltr (ltr (ltr (ltr (ltr (ltr (ltr (ltr (ltr (ltr (ltr (ltr (ltr (ltr (ltr (ltr (ltr (ltr (ltr Z0 K1.1) K3.1) K5.1) K7.1) E9.1) K11.1) K13.1) K105.1) K107.1) K109.1) E111.1) K113.1) E115.1) K117.1) E119.1) K121.1) E123.1) K125.1) E127.1) K129.1) E131.1) K133.1) P133_1 P133_2 P133_3 P133_4 ((((((((((((((((((((P3_0.keep K5).keep K7).ext E9).keep K11).keep K13).keep K105).keep K107).keep K109).ext E111).keep K113).ext E115).keep K117).ext E119).keep K121).ext E123).keep K125).ext E127).keep K129).ext E131).keep K133)) hZ (hw _ (tm 208 rfl)) (hw _ (tm 87 rfl)) (by decide) (by decide)) q137a q137c (g := (mkF m 201 #[iv p1, iv p2, iv p3, iv p4, iv p5, iv p6, iv (4 : Int32), rv b1_0, rv b3_0, rv b5_0, rv b7_0, rv b9, rv b111, rv b131, iv (1 : Int32), rv b3_0, .unset] [(.int (1 : Int32)), (.ref b131)])) rfl (by rw [hml]; rfl) (Steps.refl _) (argsL := [(.int (1 : Int32))]) (rest := []) (lenOf pd__I_Ljava_lang_String_ rfl) rfl (by show 2 * 0 + _ ≤ _; exact Nat.le_of_eq rfl) (hb hby at_201) (fun _ _ => ⟨rfl, rfl, (by decide : 43 + 0 ≤ _), (by decide : 321 + 0 ≤ _)⟩)
      dsimp only [Pt.U, Pt.locs, Pt.cells, Pt.slots] at X137 l137 y137 z137 st137 hQ137
      subst l137 y137 z137
      obtain ⟨rfl, N137q, e137⟩ := hQ137
      have N137 := Fr.app N133 N137q
      refine own_go ?_ (fun _ hr => st137.trans (XS.astore X137.here hx rfl (hb hby at_204) rfl rfl (l' := #[iv p1, iv p2, iv p3, iv p4, iv p5, iv p6, iv (4 : Int32), rv b1_0, rv b3_0, rv b5_0, rv b7_0, rv b9, rv b111, rv b131, iv (1 : Int32), rv b3_0, rv b3_0]) rfl (XS.aload X137.here hx rfl (hb hby at_206) rfl rfl (XS.ifnullNo X137.here hx rfl (hb hby at_208) rfl (XS.aload X137.here hx rfl (hb hby at_211) rfl rfl (XS.aload X137.here hx rfl (hb hby at_213) rfl rfl hr))))))
      show own_H (T137.setTop (mkF m 215 #[iv p1, iv p2, iv p3, iv p4, iv p5, iv p6, iv (4 : Int32), rv b1_0, rv b3_0, rv b5_0, rv b7_0, rv b9, rv b111, rv b131, iv (1 : Int32), rv b3_0, rv b3_0] [(.ref b3_0), (.ref b3_0)]))
      obtain ⟨cq138, kq138, q138a, q138b, q138c⟩ := isOf hZ e137 ((((((((((((((((((((P3_0.keep K5).keep K7).ext E9).keep K11).keep K13).keep K105).keep K107).keep K109).ext E111).keep K113).ext E115).keep K117).ext E119).keep K121).ext E123).keep K125).ext E127).keep K129).ext E131).keep K133)
      obtain ⟨_, _, ⟨T138, L138, k138, n138⟩, -, X138, ⟨Lc138, hQ138, l138, y138, z138⟩, st138⟩ := X137.virtualBack hx (y := y37_) (z := y37_) hown (mvT hZ (hw _ (tm 219 rfl))) (mvT hZ (hw _ (tm 220 rfl))) (notFace_of_selects (args := #[]) (mvT hZ (hw _ (tm 222 rfl)))) (mvT hZ (hw _ (tm 222 rfl))) (mvT hZ (hw _ (tm 221 rfl))) (by decide) (backOf (W := 0) (rm_eq l Z a0 hw [] b3_0 T133.heap n0 (ltr (ltr (ltr (ltr (ltr (ltr (ltr (ltr (ltr (ltr (ltr (ltr (ltr (ltr (ltr (ltr (ltr (ltr (ltr (ltr (ltr (ltr Z0 K1.1) K3.1) K5.1) K7.1) E9.1) K11.1) K13.1) K105.1) K107.1) K109.1) E111.1) K113.1) E115.1) K117.1) E119.1) K121.1) E123.1) K125.1) E127.1) K129.1) E131.1) K133.1) ) hZ (hw _ (tm 223 rfl)) (hw _ (tm 6 rfl)) (by decide) (by decide)) q138a q138c (g := (mkF m 215 #[iv p1, iv p2, iv p3, iv p4, iv p5, iv p6, iv (4 : Int32), rv b1_0, rv b3_0, rv b5_0, rv b7_0, rv b9, rv b111, rv b131, iv (1 : Int32), rv b3_0, rv b3_0] [(.ref b3_0), (.ref b3_0)])) rfl (by rw [hml]; rfl) (Steps.refl _) (argsL := [(.ref b3_0)]) (rest := []) (lenOf pd__Ljava_lang_Object__Z rfl) rfl (by show 2 * 0 + _ ≤ _; exact Nat.le_of_eq rfl) (hb hby at_215) (fun _ _ => ⟨rfl, e137, (by decide : 43 + 0 ≤ _), (by decide : 321 + 0 ≤ _)⟩)
      dsimp only [Pt.U, Pt.locs, Pt.cells, Pt.slots] at X138 l138 y138 z138 st138 hQ138
      subst l138 y138 z138
      obtain ⟨rfl, N138q, e138⟩ := hQ138
      have N138 := Fr.app N137 N138q
      refine own_go ?_ (fun _ hr => st138.trans (XS.ifNo X138.here hx rfl (hb hby at_218) rfl ((if0 _ _).trans (feq (by decide : ¬ ((1 : Int32) = (0 : Int32)))).1) (XS.iconst X138.here hx rfl (hb hby at_221) (XS.goto X138.here hx rfl (pc0 := 222) (pc' := 226) rfl (hb hby at_222) (by decide) (by decide) hr))))
      show own_H (T138.setTop (mkF m 226 #[iv p1, iv p2, iv p3, iv p4, iv p5, iv p6, iv (4 : Int32), rv b1_0, rv b3_0, rv b5_0, rv b7_0, rv b9, rv b111, rv b131, iv (1 : Int32), rv b3_0, rv b3_0] [(.int (1 : Int32))]))
      obtain ⟨fs, hr, hrun, hended, hRW⟩ := Stand.leaveW (s := s) (vm₁ := T127.vm) X138 hS127 (by rw [e138]; exact (ltr (ltr (ltr hk127 K129.1) E131.1) K133.1)) (v := some (.int (1 : Int32))) (fun h => by rw [Bd.returns] at h; cases h)
      have hCe := C134.trans (CHv.at (s := s) (vm0 := T127.vm) X138 hZ hEL C134.1)
      exact ⟨_, _, retN X138 hx (t := .boolean) Bd.returns (by simp) (hb hby at_226) hr, hrun, hended, _, _, rfl, ⟨rfl, N138, trivial⟩, (by rw [hh, show (T138.setFrames fs).heap = T133.heap from e138]; exact hCe), hRW.1, hRW.2.1, hRW.2.2.1, hRW.2.2.2.mono (by decide) (by decide)⟩
    ·
      rw [hs153_2]
      show own_H (T133.setTop (mkF m 153 #[iv p1, iv p2, iv p3, iv p4, iv p5, iv p6, iv (4 : Int32), rv b1_0, rv b3_0, rv b5_0, rv b7_0, rv b9, rv b111, rv b131, .unset, .unset, .unset] [(.int (2 : Int32))]))
      refine own_go ?_ (fun _ hr => XS.istore X133.here hx rfl (hb hby at_153) rfl (l' := #[iv p1, iv p2, iv p3, iv p4, iv p5, iv p6, iv (4 : Int32), rv b1_0, rv b3_0, rv b5_0, rv b7_0, rv b9, rv b111, rv b131, iv (2 : Int32), .unset, .unset]) rfl (XS.iload X133.here hx rfl (hb hby at_155) rfl (XS.ifYes X133.here hx rfl (pc0 := 157) (pc' := 167) rfl (hb hby at_157) rfl ((if0 _ _).trans (feq (by decide : ¬ ((2 : Int32) = (0 : Int32)))).2) (by decide) (by decide) (XS.iload X133.here hx rfl (hb hby at_167) rfl (XS.iconst X133.here hx rfl (hb hby at_169) (XS.icmpYes X133.here hx rfl (pc0 := 170) (pc' := 180) rfl (hb hby at_170) rfl (feq (by decide : ¬ ((2 : Int32) = (1 : Int32)))).2 (by decide) (by decide) (XS.iload X133.here hx rfl (hb hby at_180) rfl (XS.iconst X133.here hx rfl (hb hby at_182) hr))))))))
      show own_H (T133.setTop (mkF m 183 #[iv p1, iv p2, iv p3, iv p4, iv p5, iv p6, iv (4 : Int32), rv b1_0, rv b3_0, rv b5_0, rv b7_0, rv b9, rv b111, rv b131, iv (2 : Int32), .unset, .unset] [(.int (2 : Int32)), (.int (2 : Int32))]))
      refine own_go ?_ (fun _ hr => XS.icmpNo X133.here hx rfl (hb hby at_183) rfl (teq (by decide : (2 : Int32) = (2 : Int32))).2 (XS.aload X133.here hx rfl (hb hby at_186) rfl rfl (XS.astore X133.here hx rfl (hb hby at_188) rfl rfl (l' := #[iv p1, iv p2, iv p3, iv p4, iv p5, iv p6, iv (4 : Int32), rv b1_0, rv b3_0, rv b5_0, rv b7_0, rv b9, rv b111, rv b131, iv (2 : Int32), rv b5_0, .unset]) rfl (XS.goto X133.here hx rfl (pc0 := 190) (pc' := 197) rfl (hb hby at_190) (by decide) (by decide) (XS.aload X133.here hx rfl (hb hby at_197) rfl rfl (XS.iload X133.here hx rfl (hb hby at_199) rfl hr))))))
      show own_H (T133.setTop (mkF m 201 #[iv p1, iv p2, iv p3, iv p4, iv p5, iv p6, iv (4 : Int32), rv b1_0, rv b3_0, rv b5_0, rv b7_0, rv b9, rv b111, rv b131, iv (2 : Int32), rv b5_0, .unset] [(.int (2 : Int32)), (.ref b131)]))
      obtain ⟨cq139, kq139, q139a, q139b, q139c⟩ := isOf hZ rfl P133_0
      obtain ⟨_, _, ⟨T139, L139, k139, n139⟩, -, X139, ⟨Lc139, hQ139, l139, y139, z139⟩, st139⟩ := X133.virtualBack hx (y := y34_) (z := y34_) hown (mvT hZ (hw _ (tm 204 rfl))) (mvT hZ (hw _ (tm 205 rfl))) (notFace_of_selects (args := #[]) (mvT hZ (hw _ (tm 207 rfl)))) (mvT hZ (hw _ (tm 207 rfl))) (mvT hZ (hw _ (tm 206 rfl))) (by decide) (backOf (W := 0) (rm_rget_4_2 l Z a0 hw [] b131 b133_0 b1_0 b3_0 b5_0 b7_0 b133_1 kb133_2 T133.heap n0 (ltr (ltr (ltr (ltr (ltr (ltr (ltr (ltr (ltr (ltr (ltr (ltr (ltr (ltr (ltr (ltr (ltr (ltr (ltr (ltr (ltr (ltr Z0 K1.1) K3.1) K5.1) K7.1) E9.1) K11.1) K13.1) K105.1) K107.1) K109.1) E111.1) K113.1) E115.1) K117.1) E119.1) K121.1) E123.1) K125.1) E127.1) K129.1) E131.1) K133.1) P133_1 P133_2 P133_3 P133_4 (((((((((((((((((((P5_0.keep K7).ext E9).keep K11).keep K13).keep K105).keep K107).keep K109).ext E111).keep K113).ext E115).keep K117).ext E119).keep K121).ext E123).keep K125).ext E127).keep K129).ext E131).keep K133)) hZ (hw _ (tm 208 rfl)) (hw _ (tm 87 rfl)) (by decide) (by decide)) q139a q139c (g := (mkF m 201 #[iv p1, iv p2, iv p3, iv p4, iv p5, iv p6, iv (4 : Int32), rv b1_0, rv b3_0, rv b5_0, rv b7_0, rv b9, rv b111, rv b131, iv (2 : Int32), rv b5_0, .unset] [(.int (2 : Int32)), (.ref b131)])) rfl (by rw [hml]; rfl) (Steps.refl _) (argsL := [(.int (2 : Int32))]) (rest := []) (lenOf pd__I_Ljava_lang_String_ rfl) rfl (by show 2 * 0 + _ ≤ _; exact Nat.le_of_eq rfl) (hb hby at_201) (fun _ _ => ⟨rfl, rfl, (by decide : 43 + 0 ≤ _), (by decide : 321 + 0 ≤ _)⟩)
      dsimp only [Pt.U, Pt.locs, Pt.cells, Pt.slots] at X139 l139 y139 z139 st139 hQ139
      subst l139 y139 z139
      obtain ⟨rfl, N139q, e139⟩ := hQ139
      have N139 := Fr.app N133 N139q
      refine own_go ?_ (fun _ hr => st139.trans (XS.astore X139.here hx rfl (hb hby at_204) rfl rfl (l' := #[iv p1, iv p2, iv p3, iv p4, iv p5, iv p6, iv (4 : Int32), rv b1_0, rv b3_0, rv b5_0, rv b7_0, rv b9, rv b111, rv b131, iv (2 : Int32), rv b5_0, rv b5_0]) rfl (XS.aload X139.here hx rfl (hb hby at_206) rfl rfl (XS.ifnullNo X139.here hx rfl (hb hby at_208) rfl (XS.aload X139.here hx rfl (hb hby at_211) rfl rfl (XS.aload X139.here hx rfl (hb hby at_213) rfl rfl hr))))))
      show own_H (T139.setTop (mkF m 215 #[iv p1, iv p2, iv p3, iv p4, iv p5, iv p6, iv (4 : Int32), rv b1_0, rv b3_0, rv b5_0, rv b7_0, rv b9, rv b111, rv b131, iv (2 : Int32), rv b5_0, rv b5_0] [(.ref b5_0), (.ref b5_0)]))
      obtain ⟨cq140, kq140, q140a, q140b, q140c⟩ := isOf hZ e139 (((((((((((((((((((P5_0.keep K7).ext E9).keep K11).keep K13).keep K105).keep K107).keep K109).ext E111).keep K113).ext E115).keep K117).ext E119).keep K121).ext E123).keep K125).ext E127).keep K129).ext E131).keep K133)
      obtain ⟨_, _, ⟨T140, L140, k140, n140⟩, -, X140, ⟨Lc140, hQ140, l140, y140, z140⟩, st140⟩ := X139.virtualBack hx (y := y37_) (z := y37_) hown (mvT hZ (hw _ (tm 219 rfl))) (mvT hZ (hw _ (tm 220 rfl))) (notFace_of_selects (args := #[]) (mvT hZ (hw _ (tm 222 rfl)))) (mvT hZ (hw _ (tm 222 rfl))) (mvT hZ (hw _ (tm 221 rfl))) (by decide) (backOf (W := 0) (rm_eq l Z a0 hw [] b5_0 T133.heap n0 (ltr (ltr (ltr (ltr (ltr (ltr (ltr (ltr (ltr (ltr (ltr (ltr (ltr (ltr (ltr (ltr (ltr (ltr (ltr (ltr (ltr (ltr Z0 K1.1) K3.1) K5.1) K7.1) E9.1) K11.1) K13.1) K105.1) K107.1) K109.1) E111.1) K113.1) E115.1) K117.1) E119.1) K121.1) E123.1) K125.1) E127.1) K129.1) E131.1) K133.1) ) hZ (hw _ (tm 223 rfl)) (hw _ (tm 6 rfl)) (by decide) (by decide)) q140a q140c (g := (mkF m 215 #[iv p1, iv p2, iv p3, iv p4, iv p5, iv p6, iv (4 : Int32), rv b1_0, rv b3_0, rv b5_0, rv b7_0, rv b9, rv b111, rv b131, iv (2 : Int32), rv b5_0, rv b5_0] [(.ref b5_0), (.ref b5_0)])) rfl (by rw [hml]; rfl) (Steps.refl _) (argsL := [(.ref b5_0)]) (rest := []) (lenOf pd__Ljava_lang_Object__Z rfl) rfl (by show 2 * 0 + _ ≤ _; exact Nat.le_of_eq rfl) (hb hby at_215) (fun _ _ => ⟨rfl, e139, (by decide : 43 + 0 ≤ _), (by decide : 321 + 0 ≤ _)⟩)
      dsimp only [Pt.U, Pt.locs, Pt.cells, Pt.slots] at X140 l140 y140 z140 st140 hQ140
      subst l140 y140 z140
      obtain ⟨rfl, N140q, e140⟩ := hQ140
      have N140 := Fr.app N139 N140q
      refine own_go ?_ (fun _ hr => st140.trans (XS.ifNo X140.here hx rfl (hb hby at_218) rfl ((if0 _ _).trans (feq (by decide : ¬ ((1 : Int32) = (0 : Int32)))).1) (XS.iconst X140.here hx rfl (hb hby at_221) (XS.goto X140.here hx rfl (pc0 := 222) (pc' := 226) rfl (hb hby at_222) (by decide) (by decide) hr))))
      show own_H (T140.setTop (mkF m 226 #[iv p1, iv p2, iv p3, iv p4, iv p5, iv p6, iv (4 : Int32), rv b1_0, rv b3_0, rv b5_0, rv b7_0, rv b9, rv b111, rv b131, iv (2 : Int32), rv b5_0, rv b5_0] [(.int (1 : Int32))]))
      obtain ⟨fs, hr, hrun, hended, hRW⟩ := Stand.leaveW (s := s) (vm₁ := T127.vm) X140 hS127 (by rw [e140]; exact (ltr (ltr (ltr hk127 K129.1) E131.1) K133.1)) (v := some (.int (1 : Int32))) (fun h => by rw [Bd.returns] at h; cases h)
      have hCe := C134.trans (CHv.at (s := s) (vm0 := T127.vm) X140 hZ hEL C134.1)
      exact ⟨_, _, retN X140 hx (t := .boolean) Bd.returns (by simp) (hb hby at_226) hr, hrun, hended, _, _, rfl, ⟨rfl, N140, trivial⟩, (by rw [hh, show (T140.setFrames fs).heap = T133.heap from e140]; exact hCe), hRW.1, hRW.2.1, hRW.2.2.1, hRW.2.2.2.mono (by decide) (by decide)⟩
    ·
      rw [hs153_3]
      show own_H (T133.setTop (mkF m 153 #[iv p1, iv p2, iv p3, iv p4, iv p5, iv p6, iv (4 : Int32), rv b1_0, rv b3_0, rv b5_0, rv b7_0, rv b9, rv b111, rv b131, .unset, .unset, .unset] [(.int (3 : Int32))]))
      refine own_go ?_ (fun _ hr => XS.istore X133.here hx rfl (hb hby at_153) rfl (l' := #[iv p1, iv p2, iv p3, iv p4, iv p5, iv p6, iv (4 : Int32), rv b1_0, rv b3_0, rv b5_0, rv b7_0, rv b9, rv b111, rv b131, iv (3 : Int32), .unset, .unset]) rfl (XS.iload X133.here hx rfl (hb hby at_155) rfl (XS.ifYes X133.here hx rfl (pc0 := 157) (pc' := 167) rfl (hb hby at_157) rfl ((if0 _ _).trans (feq (by decide : ¬ ((3 : Int32) = (0 : Int32)))).2) (by decide) (by decide) (XS.iload X133.here hx rfl (hb hby at_167) rfl (XS.iconst X133.here hx rfl (hb hby at_169) (XS.icmpYes X133.here hx rfl (pc0 := 170) (pc' := 180) rfl (hb hby at_170) rfl (feq (by decide : ¬ ((3 : Int32) = (1 : Int32)))).2 (by decide) (by decide) (XS.iload X133.here hx rfl (hb hby at_180) rfl (XS.iconst X133.here hx rfl (hb hby at_182) hr))))))))
      show own_H (T133.setTop (mkF m 183 #[iv p1, iv p2, iv p3, iv p4, iv p5, iv p6, iv (4 : Int32), rv b1_0, rv b3_0, rv b5_0, rv b7_0, rv b9, rv b111, rv b131, iv (3 : Int32), .unset, .unset] [(.int (2 : Int32)), (.int (3 : Int32))]))
      refine own_go ?_ (fun _ hr => XS.icmpYes X133.here hx rfl (pc0 := 183) (pc' := 193) rfl (hb hby at_183) rfl (feq (by decide : ¬ ((3 : Int32) = (2 : Int32)))).2 (by decide) (by decide) (XS.aload X133.here hx rfl (hb hby at_193) rfl rfl (XS.astore X133.here hx rfl (hb hby at_195) rfl rfl (l' := #[iv p1, iv p2, iv p3, iv p4, iv p5, iv p6, iv (4 : Int32), rv b1_0, rv b3_0, rv b5_0, rv b7_0, rv b9, rv b111, rv b131, iv (3 : Int32), rv b7_0, .unset]) rfl (XS.aload X133.here hx rfl (hb hby at_197) rfl rfl (XS.iload X133.here hx rfl (hb hby at_199) rfl hr)))))
      show own_H (T133.setTop (mkF m 201 #[iv p1, iv p2, iv p3, iv p4, iv p5, iv p6, iv (4 : Int32), rv b1_0, rv b3_0, rv b5_0, rv b7_0, rv b9, rv b111, rv b131, iv (3 : Int32), rv b7_0, .unset] [(.int (3 : Int32)), (.ref b131)]))
      obtain ⟨cq141, kq141, q141a, q141b, q141c⟩ := isOf hZ rfl P133_0
      obtain ⟨_, _, ⟨T141, L141, k141, n141⟩, -, X141, ⟨Lc141, hQ141, l141, y141, z141⟩, st141⟩ := X133.virtualBack hx (y := y34_) (z := y34_) hown (mvT hZ (hw _ (tm 204 rfl))) (mvT hZ (hw _ (tm 205 rfl))) (notFace_of_selects (args := #[]) (mvT hZ (hw _ (tm 207 rfl)))) (mvT hZ (hw _ (tm 207 rfl))) (mvT hZ (hw _ (tm 206 rfl))) (by decide) (backOf (W := 0) (rm_rget_4_3 l Z a0 hw [] b131 b133_0 b1_0 b3_0 b5_0 b7_0 b133_1 kb133_2 T133.heap n0 (ltr (ltr (ltr (ltr (ltr (ltr (ltr (ltr (ltr (ltr (ltr (ltr (ltr (ltr (ltr (ltr (ltr (ltr (ltr (ltr (ltr (ltr Z0 K1.1) K3.1) K5.1) K7.1) E9.1) K11.1) K13.1) K105.1) K107.1) K109.1) E111.1) K113.1) E115.1) K117.1) E119.1) K121.1) E123.1) K125.1) E127.1) K129.1) E131.1) K133.1) P133_1 P133_2 P133_3 P133_4 ((((((((((((((((((P7_0.ext E9).keep K11).keep K13).keep K105).keep K107).keep K109).ext E111).keep K113).ext E115).keep K117).ext E119).keep K121).ext E123).keep K125).ext E127).keep K129).ext E131).keep K133)) hZ (hw _ (tm 208 rfl)) (hw _ (tm 87 rfl)) (by decide) (by decide)) q141a q141c (g := (mkF m 201 #[iv p1, iv p2, iv p3, iv p4, iv p5, iv p6, iv (4 : Int32), rv b1_0, rv b3_0, rv b5_0, rv b7_0, rv b9, rv b111, rv b131, iv (3 : Int32), rv b7_0, .unset] [(.int (3 : Int32)), (.ref b131)])) rfl (by rw [hml]; rfl) (Steps.refl _) (argsL := [(.int (3 : Int32))]) (rest := []) (lenOf pd__I_Ljava_lang_String_ rfl) rfl (by show 2 * 0 + _ ≤ _; exact Nat.le_of_eq rfl) (hb hby at_201) (fun _ _ => ⟨rfl, rfl, (by decide : 43 + 0 ≤ _), (by decide : 321 + 0 ≤ _)⟩)
      dsimp only [Pt.U, Pt.locs, Pt.cells, Pt.slots] at X141 l141 y141 z141 st141 hQ141
      subst l141 y141 z141
      obtain ⟨rfl, N141q, e141⟩ := hQ141
      have N141 := Fr.app N133 N141q
      refine own_go ?_ (fun _ hr => st141.trans (XS.astore X141.here hx rfl (hb hby at_204) rfl rfl (l' := #[iv p1, iv p2, iv p3, iv p4, iv p5, iv p6, iv (4 : Int32), rv b1_0, rv b3_0, rv b5_0, rv b7_0, rv b9, rv b111, rv b131, iv (3 : Int32), rv b7_0, rv b7_0]) rfl (XS.aload X141.here hx rfl (hb hby at_206) rfl rfl (XS.ifnullNo X141.here hx rfl (hb hby at_208) rfl (XS.aload X141.here hx rfl (hb hby at_211) rfl rfl (XS.aload X141.here hx rfl (hb hby at_213) rfl rfl hr))))))
      show own_H (T141.setTop (mkF m 215 #[iv p1, iv p2, iv p3, iv p4, iv p5, iv p6, iv (4 : Int32), rv b1_0, rv b3_0, rv b5_0, rv b7_0, rv b9, rv b111, rv b131, iv (3 : Int32), rv b7_0, rv b7_0] [(.ref b7_0), (.ref b7_0)]))
      obtain ⟨cq142, kq142, q142a, q142b, q142c⟩ := isOf hZ e141 ((((((((((((((((((P7_0.ext E9).keep K11).keep K13).keep K105).keep K107).keep K109).ext E111).keep K113).ext E115).keep K117).ext E119).keep K121).ext E123).keep K125).ext E127).keep K129).ext E131).keep K133)
      obtain ⟨_, _, ⟨T142, L142, k142, n142⟩, -, X142, ⟨Lc142, hQ142, l142, y142, z142⟩, st142⟩ := X141.virtualBack hx (y := y37_) (z := y37_) hown (mvT hZ (hw _ (tm 219 rfl))) (mvT hZ (hw _ (tm 220 rfl))) (notFace_of_selects (args := #[]) (mvT hZ (hw _ (tm 222 rfl)))) (mvT hZ (hw _ (tm 222 rfl))) (mvT hZ (hw _ (tm 221 rfl))) (by decide) (backOf (W := 0) (rm_eq l Z a0 hw [] b7_0 T133.heap n0 (ltr (ltr (ltr (ltr (ltr (ltr (ltr (ltr (ltr (ltr (ltr (ltr (ltr (ltr (ltr (ltr (ltr (ltr (ltr (ltr (ltr (ltr Z0 K1.1) K3.1) K5.1) K7.1) E9.1) K11.1) K13.1) K105.1) K107.1) K109.1) E111.1) K113.1) E115.1) K117.1) E119.1) K121.1) E123.1) K125.1) E127.1) K129.1) E131.1) K133.1) ) hZ (hw _ (tm 223 rfl)) (hw _ (tm 6 rfl)) (by decide) (by decide)) q142a q142c (g := (mkF m 215 #[iv p1, iv p2, iv p3, iv p4, iv p5, iv p6, iv (4 : Int32), rv b1_0, rv b3_0, rv b5_0, rv b7_0, rv b9, rv b111, rv b131, iv (3 : Int32), rv b7_0, rv b7_0] [(.ref b7_0), (.ref b7_0)])) rfl (by rw [hml]; rfl) (Steps.refl _) (argsL := [(.ref b7_0)]) (rest := []) (lenOf pd__Ljava_lang_Object__Z rfl) rfl (by show 2 * 0 + _ ≤ _; exact Nat.le_of_eq rfl) (hb hby at_215) (fun _ _ => ⟨rfl, e141, (by decide : 43 + 0 ≤ _), (by decide : 321 + 0 ≤ _)⟩)
      dsimp only [Pt.U, Pt.locs, Pt.cells, Pt.slots] at X142 l142 y142 z142 st142 hQ142
      subst l142 y142 z142
      obtain ⟨rfl, N142q, e142⟩ := hQ142
      have N142 := Fr.app N141 N142q
      refine own_go ?_ (fun _ hr => st142.trans (XS.ifNo X142.here hx rfl (hb hby at_218) rfl ((if0 _ _).trans (feq (by decide : ¬ ((1 : Int32) = (0 : Int32)))).1) (XS.iconst X142.here hx rfl (hb hby at_221) (XS.goto X142.here hx rfl (pc0 := 222) (pc' := 226) rfl (hb hby at_222) (by decide) (by decide) hr))))
      show own_H (T142.setTop (mkF m 226 #[iv p1, iv p2, iv p3, iv p4, iv p5, iv p6, iv (4 : Int32), rv b1_0, rv b3_0, rv b5_0, rv b7_0, rv b9, rv b111, rv b131, iv (3 : Int32), rv b7_0, rv b7_0] [(.int (1 : Int32))]))
      obtain ⟨fs, hr, hrun, hended, hRW⟩ := Stand.leaveW (s := s) (vm₁ := T127.vm) X142 hS127 (by rw [e142]; exact (ltr (ltr (ltr hk127 K129.1) E131.1) K133.1)) (v := some (.int (1 : Int32))) (fun h => by rw [Bd.returns] at h; cases h)
      have hCe := C134.trans (CHv.at (s := s) (vm0 := T127.vm) X142 hZ hEL C134.1)
      exact ⟨_, _, retN X142 hx (t := .boolean) Bd.returns (by simp) (hb hby at_226) hr, hrun, hended, _, _, rfl, ⟨rfl, N142, trivial⟩, (by rw [hh, show (T142.setFrames fs).heap = T133.heap from e142]; exact hCe), hRW.1, hRW.2.1, hRW.2.2.1, hRW.2.2.2.mono (by decide) (by decide)⟩
set_option maxRecDepth 65536 in
set_option maxHeartbeats 40000000 in
theorem comes_1 {Post : Tables → Env → Array Value → State → Outcome → State → Prop} (hpost : ∀ tb e args s v u, (limb_1_1.after args s (.returned v) u = true ∧ limb_1_2.after args s (.returned v) u = true ∧ True) → ReturnedEndW s (.returned v) u (Jvm.fieldLocs frame_1_writes args s ++ Jvm.arrayLocs frame_1_arrays args s ++ Jvm.staticLocs frame_1_statics s) 64 5440 → Post tb e args s (.returned v) u) :
    ArmFor flags0 classFile x code maxLocals ret World_1 tables_1 room_1 Calls_1 rest_1 Pre_1 Post := by
  intro l hfl _ _ p e ha hc hk s m args below hf hA hF happ hP
  obtain ⟨hcalls, hrest, hpre⟩ := hP
  obtain ⟨-, -, -, hnamed, -, -, -, hat⟩ := (Spec.applies_iff hf).mp happ
  obtain ⟨hg, hn⟩ := and_e (Cond.before_iff.mp (show (Jvm.Cond.and given_1 narrow_1).before args s = true from hpre))
  obtain ⟨h1, g0⟩ := and_e hg
  obtain ⟨b0, g1⟩ := and_e g0
  obtain ⟨b1, g2⟩ := and_e g1
  obtain ⟨b2, g3⟩ := and_e g2
  obtain ⟨b3, g4⟩ := and_e g3
  obtain ⟨b4, g5⟩ := and_e g4
  obtain ⟨w0, w1, w2, w3, w4, w5, rfl⟩ : ∃ w0 w1 w2 w3 w4 w5 : Value, args = #[w0, w1, w2, w3, w4, w5] := by
    have hs : args.size = 6 := by simpa [Cond.value, given_1] using h1
    obtain ⟨L⟩ := args
    match L, hs with
    | [w0, w1, w2, w3, w4, w5], _ => exact ⟨w0, w1, w2, w3, w4, w5, rfl⟩
  have hw := fun d (hd : d ∈ tables_1) => atoms_spec (ws := Jvm.Cond.code x code maxLocals ret :: tables_1) hat d (List.mem_cons_of_mem _ hd)
  have hfit : Fit s := fun {y c} hc i hi => by
    obtain ⟨ha, rfl⟩ := Array.getElem?_eq_some_iff.mp hc
    have q := List.all_eq_true.mp ((Array.all_eq_true_iff_forall_mem.mp hF) _ (Array.getElem_mem ha)) i (List.mem_range.mpr hi)
    simpa [Array.getElem?_eq_getElem hi] using q
  obtain ⟨i0, ev0⟩ := is_v b0
  obtain rfl : w0 = (.int i0) := Option.some.inj ev0
  obtain ⟨i1, ev1⟩ := is_v b1
  obtain rfl : w1 = (.int i1) := Option.some.inj ev1
  obtain ⟨i2, ev2⟩ := is_v b2
  obtain rfl : w2 = (.int i2) := Option.some.inj ev2
  obtain ⟨i3, ev3⟩ := is_v b3
  obtain rfl : w3 = (.int i3) := Option.some.inj ev3
  obtain ⟨i4, ev4⟩ := is_v b4
  obtain rfl : w4 = (.int i4) := Option.some.inj ev4
  obtain ⟨i5, ev5⟩ := is_v g5
  obtain rfl : w5 = (.int i5) := Option.some.inj ev5
  obtain ⟨hsets, hown0⟩ := atoms_of _ (rest_1_c_eq ▸ (show rest_1_c.before _ s = true from hrest))
  have n5 := not_v (Cond.before_iff.mp (hsets _ (List.mem_of_getElem? (i := 20) rfl)))
  obtain ⟨zc, ez⟩ := is_v (Cond.before_iff.mp (hsets _ (List.mem_of_getElem? (i := 19) rfl)))
  have SZ : Sta s s.heap "java/lang/String" "COMPACT_STRINGS" "Z" (.int zc) := Sta.start ez (Or.inl (hsets _ (List.mem_of_getElem? (i := 18) rfl)))
  have hz : ¬ (zc = (0 : Int32)) := gotF (Cond.eq_ints ez (Term.int_eval (0))) n5
  obtain ⟨wE, eE⟩ := arr_v (Cond.before_iff.mp (hsets _ (List.mem_of_getElem? (i := 6) rfl)))
  have SE : Sta s s.heap "java/util/ArrayList" "DEFAULTCAPACITY_EMPTY_ELEMENTDATA" "[Ljava/lang/Object;" (.ref wE) := Sta.start eE (Or.inr ⟨(hw _ (tm 28 rfl)), (hsets _ (List.mem_of_getElem? (i := 2) rfl))⟩)
  obtain ⟨clE, AE⟩ := Arr.start eE (Cond.before_iff.mp (hsets _ (List.mem_of_getElem? (i := 6) rfl)))
  have VE := own_empty hfit eE AE (Cond.before_iff.mp (hsets _ (List.mem_of_getElem? (i := 8) rfl)))
  obtain ⟨kE, hkE⟩ : ∃ k, k = clE.cls := ⟨_, rfl⟩
  rw [← hkE] at VE
  obtain ⟨wM, eM⟩ := exa_v (Cond.before_iff.mp (hsets _ (List.mem_of_getElem? (i := 11) rfl)))
  have SM : Sta s s.heap "java/util/ImmutableCollections" "EMPTY" "Ljava/lang/Object;" (.ref wM) := Sta.start eM (Or.inl (hsets _ (List.mem_of_getElem? (i := 10) rfl)))
  have EM := Exa.start eM (Cond.before_iff.mp (hsets _ (List.mem_of_getElem? (i := 11) rfl)))
  obtain ⟨cO, kO, mO, mo1, mo2, mo3, mo4⟩ := hcalls.1
  have MO : Mir s "[Ljava/lang/Object;" mO := ⟨cO, kO, mo1, mo2, mo3, mo4⟩
  have hCH : CHv s consts_1 s.vm s.heap := CHv.start (own_EW s _ hw) (fun p hp => hcalls.2.1 p hp) (hsets _ (List.mem_of_getElem? (i := 20) rfl)) (hw _ (tm 19 rfl)) (hw _ (tm 5 rfl))
  obtain ⟨n, o, h1, h2, h3, _, L, rfl, ⟨rfl, N, _⟩, -, hq⟩ := rm0 l s _ hw tables_1 i0 i1 i2 i3 i4 i5 zc wE kE wM mO s.heap s.heap.size (Nat.le_refl _) (Old.start s) SZ SE VE SM EM MO hz p e ha hc hk s m _ below hf ((Spec.applies_iff_loose hf).mp happ).1 ⟨rfl, State.Warmed39.refl s, rfl, hCH⟩ trivial
  refine ⟨n, _, h1, h2, h3, hpost _ _ _ _ _ _ ⟨Cond.after_iff.mpr rfl, Cond.after_iff.mpr (eq_i res_at (Term.int_eval (1)) rfl), trivial⟩ ⟨hq.1, hq.2.1, hq.2.2.1, (hq.2.2.2.sift fun y hy => Or.inr (N y hy)).mono (by decide) (by decide)⟩⟩
theorem main_1_1 : Claimed_1_1 := comes_1 fun _ _ _ _ _ _ h hF => ⟨h.1, hF⟩
theorem main_1_2 : Claimed_1_2 := comes_1 fun _ _ _ _ _ _ h hF => ⟨h.2.1, hF⟩
end Jvm.Pilot.@@N@@
namespace Jvm.Pilot.@@N@@
open Jvm Jvm.ClassFile Sem Op Lib Jvm.Free Jvm.Stand Jvm.Pilot.@@N@@.Jvm.D
/-! MADE BY PROGRAM (witnessworld.py) out of the Statement's table words and the real class files: 36 classes; the members and pool entries that the words name. The judged class is class 1, her method 1. -/
namespace start1
open Jvm.ClassFile
def u (s : String) : CpInfo := .utf8 (stringToUtf16 s)
/-- a pool by its gaps: so many unusable entries, then the entry; so many at the end -/
def gap : Nat → List CpInfo → List CpInfo
  | 0, r => r
  | n + 1, r => .unusable :: gap n r
def poolList (es : List (Nat × CpInfo)) (last : Nat) : List CpInfo := es.foldr (fun e r => gap e.1 (e.2 :: r)) (gap last [])
def pool (es : List (Nat × CpInfo)) (last : Nat) : Array CpInfo := ⟨poolList es last⟩
def fileOf (pool : Array CpInfo) (this : Nat) (attrs : Array Attribute := #[]) (ms : Array MethodInfo := #[]) (fl : Nat := 33) (sup : Nat := 0) (ifs : Array Nat := #[]) (fds : Array FieldInfo := #[]) : ClassFile where
  minorVersion := 0
  majorVersion := 65
  constantPool := pool
  accessFlags := fl
  thisClass := this
  superClass := sup
  interfaces := ifs
  fields := fds
  methods := ms
  attributes := attrs
def plain (name : String) (sup : Option ClassId) : Class where
  name := name
  kind := .ordinary
  loader := none
  accessFlags := 33
  super := sup
  interfaces := #[]
  cf := none
  fields := #[]
  methods := #[]
  instanceTypes := #[]
  staticTypes := #[]
  resolved := #[]
  callSites := []
  init := .initialized
  statics := none
  mirror := none

def pool0 : Array CpInfo := pool [(5, u "<init>"), (0, u "()V"), (1, .class_ 10), (1, u "java/lang/Object"), (0, u "getClass"), (0, u "()Ljava/lang/Class;")] 111

def k0c0 : Code := { maxStack := 0, maxLocals := 1, code := object_method_1_code, exceptionTable := #[], attributes := #[] }
def k0m0 : Method := { name := "<init>", desc := "()V", sig := { parameters := [], returnType := none }, accessFlags := 1, code := some k0c0 }
def k0m1 : Method := { name := "getClass", desc := "()Ljava/lang/Class;", sig := { parameters := [], returnType := some (.object "java/lang/Class") }, accessFlags := 273, code := none }
/-- java/lang/Object -/
def k0 : Class := { plain "java/lang/Object" none with
  accessFlags := 33
  interfaces := #[]
  cf := some (fileOf pool0 8 #[] #[{ accessFlags := 1, nameIndex := 5, descriptorIndex := 6, attributes := #[] }, { accessFlags := 273, nameIndex := 11, descriptorIndex := 12, attributes := #[] }] 33 0 #[] #[])
  fields := #[]
  methods := #[k0m0, k0m1]
  instanceTypes := #[]
  staticTypes := #[]
  resolved := Array.replicate 124 none
  statics := none }

def pool1 : Array CpInfo := pool [(2, .class_ 4), (0, .nameAndType 5 6), (0, u "java/lang/Object"), (0, u "<init>"), (0, u "()V"), (0, .methodref 8 9), (0, .class_ 10), (0, .nameAndType 11 12), (0, u "com/example/ninkasi/ninkasi/csv/CsvRecordGetPinLaw"), (0, u "mk"), (0, u "(I)Ljava/lang/String;"), (0, .class_ 14), (0, u "java/util/ArrayList"), (0, .methodref 13 3), (0, .methodref 13 17), (0, .nameAndType 18 19), (0, u "add"), (0, u "(Ljava/lang/Object;)Z"), (0, .string 21), (0, u "header-name-0"), (0, .string 23), (0, u "header-name-1"), (0, .string 25), (0, u "header-name-2"), (0, .string 27), (0, u "header-name-3"), (0, .class_ 29), (0, u "com/example/ninkasi/ninkasi/csv/CsvRecord"), (0, .methodref 28 31), (0, .nameAndType 5 32), (0, u "(Ljava/util/List;Ljava/util/List;)V"), (0, .integer 2147483647), (0, .methodref 28 35), (0, .nameAndType 36 12), (0, u "get"), (0, .methodref 38 39), (0, .class_ 40), (0, .nameAndType 41 19), (0, u "java/lang/String"), (0, u "equals"), (0, .methodref 38 43), (0, .nameAndType 5 44), (0, u "([C)V"), (0, .methodref 38 46), (0, .nameAndType 47 48), (0, u "valueOf"), (0, u "(C)Ljava/lang/String;"), (2, u "law"), (0, u "(IIIIII)Z")] 3

def k1m0 : Method := { name := "<init>", desc := "()V", sig := { parameters := [], returnType := none }, accessFlags := 1, code := none }
def k1c1 : Code := { maxStack := 4, maxLocals := 17, code := code, exceptionTable := #[], attributes := #[] }
def k1m1 : Method := { name := "law", desc := "(IIIIII)Z", sig := { parameters := [.int, .int, .int, .int, .int, .int], returnType := some .boolean }, accessFlags := 9, code := some k1c1 }
def k1c2 : Code := { maxStack := 6, maxLocals := 5, code := method_3_code, exceptionTable := #[], attributes := #[] }
def k1m2 : Method := { name := "mk", desc := "(I)Ljava/lang/String;", sig := { parameters := [.int], returnType := some (.object "java/lang/String") }, accessFlags := 10, code := some k1c2 }
/-- com/example/ninkasi/ninkasi/csv/CsvRecordGetPinLaw -/
def k1 : Class := { plain "com/example/ninkasi/ninkasi/csv/CsvRecordGetPinLaw" (some 0) with
  accessFlags := 49
  interfaces := #[]
  cf := some (fileOf pool1 8 #[] #[{ accessFlags := 1, nameIndex := 5, descriptorIndex := 6, attributes := #[] }, { accessFlags := 9, nameIndex := 51, descriptorIndex := 52, attributes := #[] }, { accessFlags := 10, nameIndex := 11, descriptorIndex := 12, attributes := #[] }] 49 2 #[] #[])
  fields := #[]
  methods := #[k1m0, k1m1, k1m2]
  instanceTypes := #[]
  staticTypes := #[]
  resolved := Array.replicate 56 none
  statics := none }

def pool2 : Array CpInfo := pool [(1, .class_ 2), (0, u "java/io/Serializable"), (0, .class_ 4), (0, u "java/lang/Object")] 2

/-- java/io/Serializable -/
def k2 : Class := { plain "java/io/Serializable" (some 0) with
  accessFlags := 1537
  interfaces := #[]
  cf := some (fileOf pool2 1 #[] #[] 1537 3 #[] #[])
  fields := #[]
  methods := #[]
  instanceTypes := #[]
  staticTypes := #[]
  resolved := Array.replicate 7 none
  statics := none }

def pool3 : Array CpInfo := pool [(1, .class_ 2), (0, u "java/lang/Comparable"), (0, .class_ 4), (0, u "java/lang/Object")] 7

/-- java/lang/Comparable -/
def k3 : Class := { plain "java/lang/Comparable" (some 0) with
  accessFlags := 1537
  interfaces := #[]
  cf := some (fileOf pool3 1 #[] #[] 1537 3 #[] #[])
  fields := #[]
  methods := #[]
  instanceTypes := #[]
  staticTypes := #[]
  resolved := Array.replicate 12 none
  statics := none }

def pool4 : Array CpInfo := pool [(2, .class_ 4), (1, u "java/lang/CharSequence"), (42, .class_ 48), (0, u "java/lang/CharSequence$1CodePointIterator"), (10, .class_ 60), (0, u "java/lang/CharSequence$1CharIterator"), (5, .class_ 67), (0, u "java/lang/Object")] 63

/-- java/lang/CharSequence -/
def k4 : Class := { plain "java/lang/CharSequence" (some 0) with
  accessFlags := 1537
  interfaces := #[]
  cf := some (fileOf pool4 2 #[.nestMembers #[47, 59]] #[] 1537 66 #[] #[])
  fields := #[]
  methods := #[]
  instanceTypes := #[]
  staticTypes := #[]
  resolved := Array.replicate 131 none
  statics := none }

def pool5 : Array CpInfo := pool [(1, .class_ 2), (0, u "java/lang/constant/Constable"), (0, .class_ 4), (0, u "java/lang/Object")] 6

/-- java/lang/constant/Constable -/
def k5 : Class := { plain "java/lang/constant/Constable" (some 0) with
  accessFlags := 1537
  interfaces := #[]
  cf := some (fileOf pool5 1 #[] #[] 1537 3 #[] #[])
  fields := #[]
  methods := #[]
  instanceTypes := #[]
  staticTypes := #[]
  resolved := Array.replicate 11 none
  statics := none }

def pool6 : Array CpInfo := pool [(1, .class_ 2), (0, u "java/lang/constant/ConstantDesc"), (0, .class_ 4), (0, u "java/lang/Object")] 32

/-- java/lang/constant/ConstantDesc -/
def k6 : Class := { plain "java/lang/constant/ConstantDesc" (some 0) with
  accessFlags := 1537
  interfaces := #[]
  cf := some (fileOf pool6 1 #[] #[] 1537 3 #[] #[])
  fields := #[]
  methods := #[]
  instanceTypes := #[]
  staticTypes := #[]
  resolved := Array.replicate 37 none
  statics := none }

def pool7 : Array CpInfo := pool [(1, .methodref 2 3), (0, .class_ 4), (0, .nameAndType 5 6), (0, u "java/lang/Object"), (0, u "<init>"), (0, u "()V"), (0, .string 8), (0, u ""), (0, .fieldref 10 11), (0, .class_ 12), (0, .nameAndType 13 14), (0, u "java/lang/String"), (0, u "value"), (0, u "[B"), (0, .fieldref 10 16), (0, .nameAndType 17 18), (0, u "coder"), (0, u "B"), (2, u "hash"), (0, u "I"), (2, u "hashIsZero"), (0, u "Z"), (0, .methodref 10 28), (0, .nameAndType 5 29), (0, u "([CIILjava/lang/Void;)V"), (8, .fieldref 10 39), (0, .nameAndType 40 26), (0, u "COMPACT_STRINGS"), (1, .class_ 44), (1, u "java/lang/StringUTF16"), (0, u "compress"), (1, .methodref 42 48), (0, .nameAndType 49 50), (0, u "coderFromArrayLen"), (0, u "([BI)B"), (2, u "toBytes"), (53, .class_ 109), (1, u "java/lang/StringLatin1"), (67, .methodref 42 178), (0, .nameAndType 45 179), (0, u "([CII)[B"), (29, .methodref 10 210), (0, .nameAndType 5 211), (0, u "([BB)V"), (157, u "(C)Z"), (173, u "equals"), (29, u "(Ljava/lang/Object;)Z"), (1, .class_ 576), (0, u "java/lang/CharSequence"), (22, u "CASE_INSENSITIVE_ORDER"), (0, u "Ljava/util/Comparator;"), (181, u "valueOf"), (0, u "(C)Ljava/lang/String;"), (226, u "([C)V"), (4, .methodref 107 1016), (0, .nameAndType 1017 369), (0, u "canEncode"), (0, .methodref 107 1019), (0, .nameAndType 53 1020), (0, u "(C)[B"), (80, u "serialPersistentFields"), (0, u "[Ljava/io/ObjectStreamField;"), (0, .class_ 1104), (0, u "java/lang/String$CaseInsensitiveComparator"), (1, .class_ 1107), (0, u "java/io/Serializable"), (0, .class_ 1109), (0, u "java/lang/Comparable"), (0, .class_ 1111), (0, u "java/lang/constant/Constable"), (0, .class_ 1113), (0, u "java/lang/constant/ConstantDesc"), (2, u "serialVersionUID"), (0, u "J"), (3, u "REPL"), (0, u "C"), (2, u "LATIN1"), (1, u "UTF16")] 323

def k7m0 : Method := { name := "<init>", desc := "()V", sig := { parameters := [], returnType := none }, accessFlags := 1, code := none }
def k7c1 : Code := { maxStack := 5, maxLocals := 2, code := jdk_42_method_3_code, exceptionTable := #[], attributes := #[] }
def k7m1 : Method := { name := "<init>", desc := "([C)V", sig := { parameters := [(.array .char)], returnType := none }, accessFlags := 1, code := some k7c1 }
def k7c2 : Code := { maxStack := 2, maxLocals := 3, code := jdk_42_method_66_code, exceptionTable := #[], attributes := #[] }
def k7m2 : Method := { name := "equals", desc := "(Ljava/lang/Object;)Z", sig := { parameters := [(.object "java/lang/Object")], returnType := some .boolean }, accessFlags := 1, code := some k7c2 }
def k7c3 : Code := { maxStack := 4, maxLocals := 1, code := jdk_42_method_139_code, exceptionTable := #[], attributes := #[] }
def k7m3 : Method := { name := "valueOf", desc := "(C)Ljava/lang/String;", sig := { parameters := [.char], returnType := some (.object "java/lang/String") }, accessFlags := 9, code := some k7c3 }
def k7c4 : Code := { maxStack := 4, maxLocals := 6, code := jdk_42_method_149_code, exceptionTable := #[], attributes := #[] }
def k7m4 : Method := { name := "<init>", desc := "([CIILjava/lang/Void;)V", sig := { parameters := [(.array .char), .int, .int, (.object "java/lang/Void")], returnType := none }, accessFlags := 2, code := some k7c4 }
def k7c5 : Code := { maxStack := 2, maxLocals := 3, code := jdk_42_method_151_code, exceptionTable := #[], attributes := #[] }
def k7m5 : Method := { name := "<init>", desc := "([BB)V", sig := { parameters := [(.array .byte), .byte], returnType := none }, accessFlags := 0, code := some k7c5 }
/-- java/lang/String -/
def k7 : Class := { plain "java/lang/String" (some 0) with
  accessFlags := 49
  interfaces := #[2, 3, 4, 5, 6]
  cf := some (fileOf pool7 10 #[.nestMembers #[1103]] #[{ accessFlags := 1, nameIndex := 5, descriptorIndex := 6, attributes := #[] }, { accessFlags := 1, nameIndex := 5, descriptorIndex := 1010, attributes := #[] }, { accessFlags := 1, nameIndex := 543, descriptorIndex := 573, attributes := #[] }, { accessFlags := 9, nameIndex := 782, descriptorIndex := 783, attributes := #[] }, { accessFlags := 2, nameIndex := 5, descriptorIndex := 29, attributes := #[] }, { accessFlags := 0, nameIndex := 5, descriptorIndex := 211, attributes := #[] }] 49 2 #[1106, 1108, 575, 1110, 1112] #[{ accessFlags := 18, nameIndex := 13, descriptorIndex := 14, attributes := #[] }, { accessFlags := 18, nameIndex := 17, descriptorIndex := 18, attributes := #[] }, { accessFlags := 2, nameIndex := 21, descriptorIndex := 22, attributes := #[] }, { accessFlags := 2, nameIndex := 25, descriptorIndex := 26, attributes := #[] }, { accessFlags := 26, nameIndex := 1116, descriptorIndex := 1117, attributes := #[] }, { accessFlags := 24, nameIndex := 40, descriptorIndex := 26, attributes := #[] }, { accessFlags := 26, nameIndex := 1101, descriptorIndex := 1102, attributes := #[] }, { accessFlags := 26, nameIndex := 1121, descriptorIndex := 1122, attributes := #[] }, { accessFlags := 25, nameIndex := 599, descriptorIndex := 600, attributes := #[] }, { accessFlags := 24, nameIndex := 1125, descriptorIndex := 18, attributes := #[] }, { accessFlags := 24, nameIndex := 1127, descriptorIndex := 18, attributes := #[] }])
  fields := #[{ name := "value", type := (.array .byte), accessFlags := 18, slot := 0, constantValue := 0 }, { name := "coder", type := .byte, accessFlags := 18, slot := 1, constantValue := 0 }, { name := "hash", type := .int, accessFlags := 2, slot := 2, constantValue := 0 }, { name := "hashIsZero", type := .boolean, accessFlags := 2, slot := 3, constantValue := 0 }, { name := "serialVersionUID", type := .long, accessFlags := 26, slot := 0, constantValue := 0 }, { name := "COMPACT_STRINGS", type := .boolean, accessFlags := 24, slot := 1, constantValue := 0 }, { name := "serialPersistentFields", type := (.array (.object "java/io/ObjectStreamField")), accessFlags := 26, slot := 2, constantValue := 0 }, { name := "REPL", type := .char, accessFlags := 26, slot := 3, constantValue := 0 }, { name := "CASE_INSENSITIVE_ORDER", type := (.object "java/util/Comparator"), accessFlags := 25, slot := 4, constantValue := 0 }, { name := "LATIN1", type := .byte, accessFlags := 24, slot := 5, constantValue := 0 }, { name := "UTF16", type := .byte, accessFlags := 24, slot := 6, constantValue := 0 }]
  methods := #[k7m0, k7m1, k7m2, k7m3, k7m4, k7m5]
  instanceTypes := #[(.array .byte), .byte, .int, .boolean]
  staticTypes := #[.long, .boolean, (.array (.object "java/io/ObjectStreamField")), .char, (.object "java/util/Comparator"), .byte, .byte]
  resolved := Array.replicate 1451 none
  statics := some 0 }

def pool8 : Array CpInfo := pool [(8, .class_ 10), (1, u "java/lang/Iterable"), (24, .class_ 36), (0, u "java/lang/Object")] 25

/-- java/lang/Iterable -/
def k8 : Class := { plain "java/lang/Iterable" (some 0) with
  accessFlags := 1537
  interfaces := #[]
  cf := some (fileOf pool8 8 #[] #[] 1537 35 #[] #[])
  fields := #[]
  methods := #[]
  instanceTypes := #[]
  staticTypes := #[]
  resolved := Array.replicate 62 none
  statics := none }

def pool9 : Array CpInfo := pool [(10, .class_ 12), (1, u "java/util/Collection"), (0, u "toArray"), (16, u "()Z"), (29, .class_ 61), (0, u "java/lang/Object"), (0, .class_ 63), (0, u "java/lang/Iterable"), (2, u "isEmpty"), (3, u "()[Ljava/lang/Object;")] 44

def k9m0 : Method := { name := "isEmpty", desc := "()Z", sig := { parameters := [], returnType := some .boolean }, accessFlags := 1025, code := none }
def k9m1 : Method := { name := "toArray", desc := "()[Ljava/lang/Object;", sig := { parameters := [], returnType := some (.array (.object "java/lang/Object")) }, accessFlags := 1025, code := none }
/-- java/util/Collection -/
def k9 : Class := { plain "java/util/Collection" (some 0) with
  accessFlags := 1537
  interfaces := #[8]
  cf := some (fileOf pool9 10 #[] #[{ accessFlags := 1025, nameIndex := 66, descriptorIndex := 30, attributes := #[] }, { accessFlags := 1025, nameIndex := 13, descriptorIndex := 70, attributes := #[] }] 1537 60 #[62] #[])
  fields := #[]
  methods := #[k9m0, k9m1]
  instanceTypes := #[]
  staticTypes := #[]
  resolved := Array.replicate 115 none
  statics := none }

def pool10 : Array CpInfo := pool [(1, .methodref 2 3), (0, .class_ 4), (0, .nameAndType 5 6), (0, u "java/lang/Object"), (0, u "<init>"), (0, u "()V"), (1, .class_ 10), (1, u "java/util/AbstractCollection"), (66, .class_ 78), (0, u "java/util/Collection")] 81

def k10c0 : Code := { maxStack := 1, maxLocals := 1, code := jdk_22_method_1_code, exceptionTable := #[], attributes := #[] }
def k10m0 : Method := { name := "<init>", desc := "()V", sig := { parameters := [], returnType := none }, accessFlags := 4, code := some k10c0 }
/-- java/util/AbstractCollection -/
def k10 : Class := { plain "java/util/AbstractCollection" (some 0) with
  accessFlags := 1057
  interfaces := #[9]
  cf := some (fileOf pool10 8 #[] #[{ accessFlags := 4, nameIndex := 5, descriptorIndex := 6, attributes := #[] }] 1057 2 #[77] #[])
  fields := #[]
  methods := #[k10m0]
  instanceTypes := #[]
  staticTypes := #[]
  resolved := Array.replicate 160 none
  statics := none }

def pool11 : Array CpInfo := pool [(8, .class_ 10), (1, u "java/util/SequencedCollection"), (15, .class_ 27), (0, u "java/lang/Object"), (0, .class_ 29), (0, u "java/util/Collection")] 27

/-- java/util/SequencedCollection -/
def k11 : Class := { plain "java/util/SequencedCollection" (some 0) with
  accessFlags := 1537
  interfaces := #[9]
  cf := some (fileOf pool11 8 #[] #[] 1537 26 #[28] #[])
  fields := #[]
  methods := #[]
  instanceTypes := #[]
  staticTypes := #[]
  resolved := Array.replicate 57 none
  statics := none }

def pool12 : Array CpInfo := pool [(8, .class_ 10), (1, u "java/util/List"), (20, u "(Ljava/lang/Object;)V"), (16, u "<init>"), (26, u "get"), (0, u "(I)Ljava/lang/Object;"), (11, u "of"), (2, .class_ 93), (1, u "java/util/ImmutableCollections"), (2, .class_ 97), (0, u "java/util/ImmutableCollections$List12"), (0, .methodref 96 99), (0, .nameAndType 48 31), (0, .methodref 96 101), (0, .nameAndType 48 102), (0, u "(Ljava/lang/Object;Ljava/lang/Object;)V"), (0, .class_ 104), (0, u "java/lang/Object"), (3, u "([Ljava/lang/Object;)Ljava/util/List;"), (0, .methodref 91 110), (0, .nameAndType 111 108), (0, u "listFromArray"), (0, .methodref 91 113), (0, .nameAndType 114 115), (0, u "listCopy"), (0, u "(Ljava/util/Collection;)Ljava/util/List;"), (4, .class_ 121), (0, u "java/util/SequencedCollection"), (112, u "copyOf")] 16

def k12m0 : Method := { name := "get", desc := "(I)Ljava/lang/Object;", sig := { parameters := [.int], returnType := some (.object "java/lang/Object") }, accessFlags := 1025, code := none }
def k12c1 : Code := { maxStack := 5, maxLocals := 2, code := jdk_40_method_47_code, exceptionTable := #[], attributes := #[] }
def k12m1 : Method := { name := "of", desc := "([Ljava/lang/Object;)Ljava/util/List;", sig := { parameters := [(.array (.object "java/lang/Object"))], returnType := some (.object "java/util/List") }, accessFlags := 137, code := some k12c1 }
def k12c2 : Code := { maxStack := 1, maxLocals := 1, code := jdk_40_method_48_code, exceptionTable := #[], attributes := #[] }
def k12m2 : Method := { name := "copyOf", desc := "(Ljava/util/Collection;)Ljava/util/List;", sig := { parameters := [(.object "java/util/Collection")], returnType := some (.object "java/util/List") }, accessFlags := 9, code := some k12c2 }
/-- java/util/List -/
def k12 : Class := { plain "java/util/List" (some 0) with
  accessFlags := 1537
  interfaces := #[11]
  cf := some (fileOf pool12 8 #[] #[{ accessFlags := 1025, nameIndex := 75, descriptorIndex := 76, attributes := #[] }, { accessFlags := 137, nameIndex := 88, descriptorIndex := 108, attributes := #[] }, { accessFlags := 9, nameIndex := 234, descriptorIndex := 115, attributes := #[] }] 1537 103 #[120] #[])
  fields := #[]
  methods := #[k12m0, k12m1, k12m2]
  instanceTypes := #[]
  staticTypes := #[]
  resolved := Array.replicate 251 none
  statics := none }

def pool13 : Array CpInfo := pool [(1, .methodref 2 3), (0, .class_ 4), (0, .nameAndType 5 6), (0, u "java/util/AbstractCollection"), (0, u "<init>"), (0, u "()V"), (0, .fieldref 8 9), (0, .class_ 10), (0, .nameAndType 11 12), (0, u "java/util/AbstractList"), (0, u "modCount"), (0, u "I"), (64, .class_ 78), (0, u "java/util/AbstractList$Itr"), (3, .class_ 83), (0, u "java/util/AbstractList$ListItr"), (9, .class_ 94), (0, u "java/util/AbstractList$RandomAccessSubList"), (3, .class_ 99), (0, u "java/util/AbstractList$SubList"), (33, .class_ 134), (0, u "java/util/List"), (73, .class_ 209), (0, u "java/util/AbstractList$SubList$1"), (0, .class_ 211), (0, u "java/util/AbstractList$RandomAccessSpliterator")] 6

def k13c0 : Code := { maxStack := 2, maxLocals := 1, code := jdk_39_method_1_code, exceptionTable := #[], attributes := #[] }
def k13m0 : Method := { name := "<init>", desc := "()V", sig := { parameters := [], returnType := none }, accessFlags := 4, code := some k13c0 }
/-- java/util/AbstractList -/
def k13 : Class := { plain "java/util/AbstractList" (some 10) with
  accessFlags := 1057
  interfaces := #[12]
  cf := some (fileOf pool13 8 #[.nestMembers #[93, 98, 208, 210, 82, 77]] #[{ accessFlags := 4, nameIndex := 5, descriptorIndex := 6, attributes := #[] }] 1057 2 #[133] #[{ accessFlags := 132, nameIndex := 11, descriptorIndex := 12, attributes := #[] }])
  fields := #[{ name := "modCount", type := .int, accessFlags := 132, slot := 0, constantValue := 0 }]
  methods := #[k13m0]
  instanceTypes := #[.int]
  staticTypes := #[]
  resolved := Array.replicate 218 none
  statics := none }

def pool14 : Array CpInfo := pool [(1, .class_ 2), (0, u "java/util/RandomAccess"), (0, .class_ 4), (0, u "java/lang/Object")] 2

/-- java/util/RandomAccess -/
def k14 : Class := { plain "java/util/RandomAccess" (some 0) with
  accessFlags := 1537
  interfaces := #[]
  cf := some (fileOf pool14 1 #[] #[] 1537 3 #[] #[])
  fields := #[]
  methods := #[]
  instanceTypes := #[]
  staticTypes := #[]
  resolved := Array.replicate 7 none
  statics := none }

def pool15 : Array CpInfo := pool [(1, .class_ 2), (0, u "java/lang/Cloneable"), (0, .class_ 4), (0, u "java/lang/Object")] 2

/-- java/lang/Cloneable -/
def k15 : Class := { plain "java/lang/Cloneable" (some 0) with
  accessFlags := 1537
  interfaces := #[]
  cf := some (fileOf pool15 1 #[] #[] 1537 3 #[] #[])
  fields := #[]
  methods := #[]
  instanceTypes := #[]
  staticTypes := #[]
  resolved := Array.replicate 7 none
  statics := none }

def pool16 : Array CpInfo := pool [(1, .methodref 2 3), (0, .class_ 4), (0, .nameAndType 5 6), (0, u "java/util/AbstractList"), (0, u "<init>"), (0, u "()V"), (0, .class_ 8), (0, u "java/lang/Object"), (0, .fieldref 10 11), (0, .class_ 12), (0, .nameAndType 13 14), (0, u "java/util/ArrayList"), (0, u "elementData"), (0, u "[Ljava/lang/Object;"), (2, u "EMPTY_ELEMENTDATA"), (21, .fieldref 10 40), (0, .nameAndType 41 14), (0, u "DEFAULTCAPACITY_EMPTY_ELEMENTDATA"), (4, u "toArray"), (0, u "()[Ljava/lang/Object;"), (0, .fieldref 10 49), (0, .nameAndType 50 51), (0, u "size"), (0, u "I"), (6, .class_ 60), (1, u "java/util/Arrays"), (0, u "copyOf"), (1, .fieldref 10 64), (0, .nameAndType 65 51), (0, u "modCount"), (0, .methodref 58 67), (0, .nameAndType 61 68), (0, u "([Ljava/lang/Object;I)[Ljava/lang/Object;"), (0, .methodref 10 70), (0, .nameAndType 71 72), (0, u "grow"), (0, u "(I)[Ljava/lang/Object;"), (6, .methodref 80 81), (0, .class_ 82), (0, .nameAndType 83 84), (0, u "java/lang/Math"), (0, u "max"), (0, u "(II)I"), (11, u "(Ljava/lang/Object;)Z"), (32, .methodref 10 130), (0, .nameAndType 71 47), (0, .methodref 10 132), (0, .nameAndType 133 134), (0, u "add"), (0, u "(Ljava/lang/Object;[Ljava/lang/Object;I)V"), (13, .class_ 149), (0, u "java/util/List"), (23, u "()Z"), (88, .class_ 263), (0, u "java/util/ArrayList$ListItr"), (3, .class_ 268), (0, u "java/util/ArrayList$Itr"), (7, .class_ 277), (0, u "java/util/ArrayList$SubList"), (12, .class_ 291), (0, u "java/util/ArrayList$ArrayListSpliterator"), (37, .class_ 330), (0, u "java/util/RandomAccess"), (0, .class_ 332), (0, u "java/lang/Cloneable"), (0, .class_ 334), (0, u "java/io/Serializable"), (0, u "serialVersionUID"), (0, u "J"), (3, u "DEFAULT_CAPACITY"), (22, u "isEmpty"), (136, .class_ 501), (0, u "java/util/ArrayList$SubList$2"), (0, .class_ 503), (0, u "java/util/ArrayList$SubList$1")] 5

def k16c0 : Code := { maxStack := 2, maxLocals := 1, code := jdk_38_method_2_code, exceptionTable := #[], attributes := #[] }
def k16m0 : Method := { name := "<init>", desc := "()V", sig := { parameters := [], returnType := none }, accessFlags := 1, code := some k16c0 }
def k16c1 : Code := { maxStack := 4, maxLocals := 4, code := jdk_38_method_6_code, exceptionTable := #[], attributes := #[] }
def k16m1 : Method := { name := "grow", desc := "(I)[Ljava/lang/Object;", sig := { parameters := [.int], returnType := some (.array (.object "java/lang/Object")) }, accessFlags := 2, code := some k16c1 }
def k16c2 : Code := { maxStack := 3, maxLocals := 1, code := jdk_38_method_7_code, exceptionTable := #[], attributes := #[] }
def k16m2 : Method := { name := "grow", desc := "()[Ljava/lang/Object;", sig := { parameters := [], returnType := some (.array (.object "java/lang/Object")) }, accessFlags := 2, code := some k16c2 }
def k16c3 : Code := { maxStack := 1, maxLocals := 1, code := jdk_38_method_9_code, exceptionTable := #[], attributes := #[] }
def k16m3 : Method := { name := "isEmpty", desc := "()Z", sig := { parameters := [], returnType := some .boolean }, accessFlags := 1, code := some k16c3 }
def k16c4 : Code := { maxStack := 2, maxLocals := 1, code := jdk_38_method_16_code, exceptionTable := #[], attributes := #[] }
def k16m4 : Method := { name := "toArray", desc := "()[Ljava/lang/Object;", sig := { parameters := [], returnType := some (.array (.object "java/lang/Object")) }, accessFlags := 1, code := some k16c4 }
def k16c5 : Code := { maxStack := 3, maxLocals := 4, code := jdk_38_method_24_code, exceptionTable := #[], attributes := #[] }
def k16m5 : Method := { name := "add", desc := "(Ljava/lang/Object;[Ljava/lang/Object;I)V", sig := { parameters := [(.object "java/lang/Object"), (.array (.object "java/lang/Object")), .int], returnType := none }, accessFlags := 2, code := some k16c5 }
def k16c6 : Code := { maxStack := 4, maxLocals := 2, code := jdk_38_method_25_code, exceptionTable := #[], attributes := #[] }
def k16m6 : Method := { name := "add", desc := "(Ljava/lang/Object;)Z", sig := { parameters := [(.object "java/lang/Object")], returnType := some .boolean }, accessFlags := 1, code := some k16c6 }
/-- java/util/ArrayList -/
def k16 : Class := { plain "java/util/ArrayList" (some 13) with
  accessFlags := 33
  interfaces := #[12, 14, 15, 2]
  cf := some (fileOf pool16 10 #[.nestMembers #[290, 276, 500, 502, 262, 267]] #[{ accessFlags := 1, nameIndex := 5, descriptorIndex := 6, attributes := #[] }, { accessFlags := 2, nameIndex := 71, descriptorIndex := 72, attributes := #[] }, { accessFlags := 2, nameIndex := 71, descriptorIndex := 47, attributes := #[] }, { accessFlags := 1, nameIndex := 363, descriptorIndex := 173, attributes := #[] }, { accessFlags := 1, nameIndex := 46, descriptorIndex := 47, attributes := #[] }, { accessFlags := 2, nameIndex := 133, descriptorIndex := 134, attributes := #[] }, { accessFlags := 1, nameIndex := 133, descriptorIndex := 96, attributes := #[] }] 33 2 #[148, 329, 331, 333] #[{ accessFlags := 26, nameIndex := 335, descriptorIndex := 336, attributes := #[] }, { accessFlags := 26, nameIndex := 340, descriptorIndex := 51, attributes := #[] }, { accessFlags := 26, nameIndex := 17, descriptorIndex := 14, attributes := #[] }, { accessFlags := 26, nameIndex := 41, descriptorIndex := 14, attributes := #[] }, { accessFlags := 128, nameIndex := 13, descriptorIndex := 14, attributes := #[] }, { accessFlags := 2, nameIndex := 50, descriptorIndex := 51, attributes := #[] }])
  fields := #[{ name := "serialVersionUID", type := .long, accessFlags := 26, slot := 0, constantValue := 0 }, { name := "DEFAULT_CAPACITY", type := .int, accessFlags := 26, slot := 1, constantValue := 0 }, { name := "EMPTY_ELEMENTDATA", type := (.array (.object "java/lang/Object")), accessFlags := 26, slot := 2, constantValue := 0 }, { name := "DEFAULTCAPACITY_EMPTY_ELEMENTDATA", type := (.array (.object "java/lang/Object")), accessFlags := 26, slot := 3, constantValue := 0 }, { name := "elementData", type := (.array (.object "java/lang/Object")), accessFlags := 128, slot := 1, constantValue := 0 }, { name := "size", type := .int, accessFlags := 2, slot := 2, constantValue := 0 }]
  methods := #[k16m0, k16m1, k16m2, k16m3, k16m4, k16m5, k16m6]
  instanceTypes := #[.int, (.array (.object "java/lang/Object")), .int]
  staticTypes := #[.long, .int, (.array (.object "java/lang/Object")), (.array (.object "java/lang/Object"))]
  resolved := Array.replicate 509 none
  statics := some 1 }

def pool17 : Array CpInfo := pool [(1, .class_ 2), (0, u "java/lang/Math"), (1, .class_ 6), (1, u "java/lang/Object"), (0, u "<init>"), (0, u "()V"), (89, .class_ 100), (1, u "java/lang/Math$RandomNumberGeneratorHolder"), (71, u "negativeZeroFloatBits"), (0, u "J"), (2, u "negativeZeroDoubleBits"), (21, u "max"), (2, u "min"), (43, u "$assertionsDisabled"), (0, u "Z"), (88, u "(II)I"), (2, u "twoToTheDoubleScaleDown"), (0, u "D"), (4, u "twoToTheDoubleScaleUp"), (9, u "E"), (3, u "PI"), (2, u "TAU"), (2, u "DEGREES_TO_RADIANS"), (0, u "RADIANS_TO_DEGREES")] 94

def k17m0 : Method := { name := "<init>", desc := "()V", sig := { parameters := [], returnType := none }, accessFlags := 2, code := none }
def k17c1 : Code := { maxStack := 2, maxLocals := 2, code := jdk_29_method_65_code, exceptionTable := #[], attributes := #[] }
def k17m1 : Method := { name := "max", desc := "(II)I", sig := { parameters := [.int, .int], returnType := some .int }, accessFlags := 9, code := some k17c1 }
def k17c2 : Code := { maxStack := 2, maxLocals := 2, code := jdk_29_method_69_code, exceptionTable := #[], attributes := #[] }
def k17m2 : Method := { name := "min", desc := "(II)I", sig := { parameters := [.int, .int], returnType := some .int }, accessFlags := 9, code := some k17c2 }
/-- java/lang/Math -/
def k17 : Class := { plain "java/lang/Math" (some 0) with
  accessFlags := 49
  interfaces := #[]
  cf := some (fileOf pool17 1 #[.nestMembers #[98]] #[{ accessFlags := 2, nameIndex := 7, descriptorIndex := 8, attributes := #[] }, { accessFlags := 9, nameIndex := 198, descriptorIndex := 335, attributes := #[] }, { accessFlags := 9, nameIndex := 201, descriptorIndex := 335, attributes := #[] }] 49 4 #[] #[{ accessFlags := 25, nameIndex := 354, descriptorIndex := 339, attributes := #[] }, { accessFlags := 25, nameIndex := 358, descriptorIndex := 339, attributes := #[] }, { accessFlags := 25, nameIndex := 361, descriptorIndex := 339, attributes := #[] }, { accessFlags := 26, nameIndex := 364, descriptorIndex := 339, attributes := #[] }, { accessFlags := 26, nameIndex := 365, descriptorIndex := 339, attributes := #[] }, { accessFlags := 26, nameIndex := 172, descriptorIndex := 173, attributes := #[] }, { accessFlags := 26, nameIndex := 176, descriptorIndex := 173, attributes := #[] }, { accessFlags := 8, nameIndex := 344, descriptorIndex := 339, attributes := #[] }, { accessFlags := 8, nameIndex := 338, descriptorIndex := 339, attributes := #[] }, { accessFlags := 4120, nameIndex := 245, descriptorIndex := 246, attributes := #[] }])
  fields := #[{ name := "E", type := .double, accessFlags := 25, slot := 0, constantValue := 0 }, { name := "PI", type := .double, accessFlags := 25, slot := 1, constantValue := 0 }, { name := "TAU", type := .double, accessFlags := 25, slot := 2, constantValue := 0 }, { name := "DEGREES_TO_RADIANS", type := .double, accessFlags := 26, slot := 3, constantValue := 0 }, { name := "RADIANS_TO_DEGREES", type := .double, accessFlags := 26, slot := 4, constantValue := 0 }, { name := "negativeZeroFloatBits", type := .long, accessFlags := 26, slot := 5, constantValue := 0 }, { name := "negativeZeroDoubleBits", type := .long, accessFlags := 26, slot := 6, constantValue := 0 }, { name := "twoToTheDoubleScaleUp", type := .double, accessFlags := 8, slot := 7, constantValue := 0 }, { name := "twoToTheDoubleScaleDown", type := .double, accessFlags := 8, slot := 8, constantValue := 0 }, { name := "$assertionsDisabled", type := .boolean, accessFlags := 4120, slot := 9, constantValue := 0 }]
  methods := #[k17m0, k17m1, k17m2]
  instanceTypes := #[]
  staticTypes := #[.double, .double, .double, .double, .double, .long, .long, .double, .double, .boolean]
  resolved := Array.replicate 460 none
  statics := none }

def pool18 : Array CpInfo := pool [(1, .methodref 2 3), (0, .class_ 4), (0, .nameAndType 5 6), (0, u "java/util/AbstractList"), (0, u "<init>"), (0, u "()V"), (0, .interfaceMethodref 8 9), (0, .class_ 10), (0, .nameAndType 11 12), (0, u "java/util/List"), (0, u "copyOf"), (0, u "(Ljava/util/Collection;)Ljava/util/List;"), (0, .fieldref 14 15), (0, .class_ 16), (0, .nameAndType 17 18), (0, u "com/example/ninkasi/ninkasi/csv/CsvRecord"), (0, u "fields"), (0, u "Ljava/util/List;"), (0, .fieldref 14 20), (0, .nameAndType 21 18), (0, u "fieldNames"), (0, .interfaceMethodref 8 23), (0, .nameAndType 24 25), (0, u "get"), (0, u "(I)Ljava/lang/Object;"), (0, .class_ 27), (0, u "java/lang/String"), (6, u "(I)Ljava/lang/String;"), (0, .class_ 36), (0, u "java/util/RandomAccess"), (2, u "(Ljava/util/List;Ljava/util/List;)V")] 9

def k18c0 : Code := { maxStack := 2, maxLocals := 3, code := prog_4_method_1_code, exceptionTable := #[], attributes := #[] }
def k18m0 : Method := { name := "<init>", desc := "(Ljava/util/List;Ljava/util/List;)V", sig := { parameters := [(.object "java/util/List"), (.object "java/util/List")], returnType := none }, accessFlags := 1, code := some k18c0 }
def k18c1 : Code := { maxStack := 2, maxLocals := 2, code := prog_4_method_3_code, exceptionTable := #[], attributes := #[] }
def k18m1 : Method := { name := "get", desc := "(I)Ljava/lang/String;", sig := { parameters := [.int], returnType := some (.object "java/lang/String") }, accessFlags := 1, code := some k18c1 }
/-- com/example/ninkasi/ninkasi/csv/CsvRecord -/
def k18 : Class := { plain "com/example/ninkasi/ninkasi/csv/CsvRecord" (some 13) with
  accessFlags := 33
  interfaces := #[14]
  cf := some (fileOf pool18 14 #[] #[{ accessFlags := 1, nameIndex := 5, descriptorIndex := 39, attributes := #[] }, { accessFlags := 1, nameIndex := 24, descriptorIndex := 34, attributes := #[] }] 33 2 #[35] #[{ accessFlags := 18, nameIndex := 17, descriptorIndex := 18, attributes := #[] }, { accessFlags := 18, nameIndex := 21, descriptorIndex := 18, attributes := #[] }])
  fields := #[{ name := "fields", type := (.object "java/util/List"), accessFlags := 18, slot := 1, constantValue := 0 }, { name := "fieldNames", type := (.object "java/util/List"), accessFlags := 18, slot := 2, constantValue := 0 }]
  methods := #[k18m0, k18m1]
  instanceTypes := #[.int, (.object "java/util/List"), (.object "java/util/List")]
  staticTypes := #[]
  resolved := Array.replicate 49 none
  statics := none }

def pool19 : Array CpInfo := pool [(2, .class_ 4), (1, u "java/lang/Object"), (0, u "<init>"), (0, u "()V"), (3, .class_ 11), (0, u "java/util/ImmutableCollections$List12"), (0, .class_ 13), (0, u "java/util/ImmutableCollections$ListN"), (3, u "Z"), (0, .class_ 19), (0, u "java/util/List"), (0, .interfaceMethodref 21 22), (0, .class_ 23), (0, .nameAndType 24 25), (0, u "java/util/Collection"), (0, u "isEmpty"), (0, u "()Z"), (2, u "of"), (1, .interfaceMethodref 21 31), (0, .nameAndType 32 33), (0, u "toArray"), (0, u "()[Ljava/lang/Object;"), (0, .interfaceMethodref 18 35), (0, .nameAndType 28 36), (0, u "([Ljava/lang/Object;)Ljava/util/List;"), (0, .methodref 38 39), (0, .class_ 40), (0, .nameAndType 41 42), (0, u "java/util/Objects"), (0, u "requireNonNull"), (0, u "(Ljava/lang/Object;)Ljava/lang/Object;"), (0, .methodref 12 44), (0, .nameAndType 5 45), (0, u "([Ljava/lang/Object;Z)V"), (1, .class_ 49), (1, u "java/util/ImmutableCollections"), (0, u "$assertionsDisabled"), (5, u "[Ljava/lang/Object;"), (5, u "EMPTY_LIST"), (0, u "Ljava/util/ImmutableCollections$ListN;"), (8, u "EMPTY_LIST_NULLS"), (22, u "SALT32L"), (0, u "J"), (2, u "REVERSE"), (6, u "archivedObjects"), (2, u "EMPTY"), (0, u "Ljava/lang/Object;"), (0, .class_ 112), (0, u "java/util/ImmutableCollections$SetN"), (5, u "EMPTY_SET"), (0, u "Ljava/util/ImmutableCollections$SetN;"), (0, .class_ 121), (0, u "java/util/ImmutableCollections$MapN"), (3, u "EMPTY_MAP"), (0, u "Ljava/util/ImmutableCollections$MapN;"), (4, u "EXPAND_FACTOR"), (0, u "I"), (9, u "listCopy"), (0, u "(Ljava/util/Collection;)Ljava/util/List;"), (7, u "listFromArray"), (17, .class_ 170), (0, u "java/util/ImmutableCollections$MapN$MapNIterator"), (0, .class_ 172), (0, u "java/util/ImmutableCollections$MapN$1"), (0, .class_ 174), (0, u "java/util/ImmutableCollections$Map1"), (0, .class_ 176), (0, u "java/util/ImmutableCollections$AbstractImmutableMap"), (0, .class_ 178), (0, u "java/util/ImmutableCollections$SetN$SetNIterator"), (0, .class_ 180), (0, u "java/util/ImmutableCollections$Set12"), (0, .class_ 182), (0, u "java/util/ImmutableCollections$Set12$1"), (0, .class_ 184), (0, u "java/util/ImmutableCollections$AbstractImmutableSet"), (0, .class_ 186), (0, u "java/util/ImmutableCollections$SubList"), (0, .class_ 188), (0, u "java/util/ImmutableCollections$ListItr"), (0, .class_ 190), (0, u "java/util/ImmutableCollections$AbstractImmutableList"), (0, .class_ 192), (0, u "java/util/ImmutableCollections$AbstractImmutableCollection"), (0, .class_ 194), (0, u "java/util/ImmutableCollections$Access"), (0, .class_ 196), (0, u "java/util/ImmutableCollections$Access$1")] 16

def k19m0 : Method := { name := "<init>", desc := "()V", sig := { parameters := [], returnType := none }, accessFlags := 2, code := none }
def k19c1 : Code := { maxStack := 1, maxLocals := 2, code := jdk_56_method_3_code, exceptionTable := #[], attributes := #[] }
def k19m1 : Method := { name := "listCopy", desc := "(Ljava/util/Collection;)Ljava/util/List;", sig := { parameters := [(.object "java/util/Collection")], returnType := some (.object "java/util/List") }, accessFlags := 8, code := some k19c1 }
def k19c2 : Code := { maxStack := 4, maxLocals := 3, code := jdk_56_method_4_code, exceptionTable := #[], attributes := #[] }
def k19m2 : Method := { name := "listFromArray", desc := "([Ljava/lang/Object;)Ljava/util/List;", sig := { parameters := [(.array (.object "java/lang/Object"))], returnType := some (.object "java/util/List") }, accessFlags := 136, code := some k19c2 }
/-- java/util/ImmutableCollections -/
def k19 : Class := { plain "java/util/ImmutableCollections" (some 0) with
  accessFlags := 32
  interfaces := #[]
  cf := some (fileOf pool19 47 #[.nestMembers #[120, 169, 171, 173, 175, 111, 177, 179, 181, 183, 12, 10, 185, 187, 189, 191, 193, 195]] #[{ accessFlags := 2, nameIndex := 5, descriptorIndex := 6, attributes := #[] }, { accessFlags := 8, nameIndex := 142, descriptorIndex := 143, attributes := #[] }, { accessFlags := 136, nameIndex := 151, descriptorIndex := 36, attributes := #[] }] 32 2 #[] #[{ accessFlags := 26, nameIndex := 95, descriptorIndex := 96, attributes := #[] }, { accessFlags := 26, nameIndex := 99, descriptorIndex := 17, attributes := #[] }, { accessFlags := 10, nameIndex := 106, descriptorIndex := 56, attributes := #[] }, { accessFlags := 26, nameIndex := 109, descriptorIndex := 110, attributes := #[] }, { accessFlags := 24, nameIndex := 62, descriptorIndex := 63, attributes := #[] }, { accessFlags := 24, nameIndex := 72, descriptorIndex := 63, attributes := #[] }, { accessFlags := 24, nameIndex := 118, descriptorIndex := 119, attributes := #[] }, { accessFlags := 24, nameIndex := 125, descriptorIndex := 126, attributes := #[] }, { accessFlags := 24, nameIndex := 131, descriptorIndex := 132, attributes := #[] }, { accessFlags := 4120, nameIndex := 50, descriptorIndex := 17, attributes := #[] }])
  fields := #[{ name := "SALT32L", type := .long, accessFlags := 26, slot := 0, constantValue := 0 }, { name := "REVERSE", type := .boolean, accessFlags := 26, slot := 1, constantValue := 0 }, { name := "archivedObjects", type := (.array (.object "java/lang/Object")), accessFlags := 10, slot := 2, constantValue := 0 }, { name := "EMPTY", type := (.object "java/lang/Object"), accessFlags := 26, slot := 3, constantValue := 0 }, { name := "EMPTY_LIST", type := (.object "java/util/ImmutableCollections$ListN"), accessFlags := 24, slot := 4, constantValue := 0 }, { name := "EMPTY_LIST_NULLS", type := (.object "java/util/ImmutableCollections$ListN"), accessFlags := 24, slot := 5, constantValue := 0 }, { name := "EMPTY_SET", type := (.object "java/util/ImmutableCollections$SetN"), accessFlags := 24, slot := 6, constantValue := 0 }, { name := "EMPTY_MAP", type := (.object "java/util/ImmutableCollections$MapN"), accessFlags := 24, slot := 7, constantValue := 0 }, { name := "EXPAND_FACTOR", type := .int, accessFlags := 24, slot := 8, constantValue := 0 }, { name := "$assertionsDisabled", type := .boolean, accessFlags := 4120, slot := 9, constantValue := 0 }]
  methods := #[k19m0, k19m1, k19m2]
  instanceTypes := #[]
  staticTypes := #[.long, .boolean, (.array (.object "java/lang/Object")), (.object "java/lang/Object"), (.object "java/util/ImmutableCollections$ListN"), (.object "java/util/ImmutableCollections$ListN"), (.object "java/util/ImmutableCollections$SetN"), (.object "java/util/ImmutableCollections$MapN"), .int, .boolean]
  resolved := Array.replicate 213 none
  statics := some 2 }

def pool20 : Array CpInfo := pool [(1, .methodref 2 3), (0, .class_ 4), (0, .nameAndType 5 6), (0, u "java/util/AbstractCollection"), (0, u "<init>"), (0, u "()V"), (1, .class_ 10), (1, u "java/util/ImmutableCollections"), (2, .class_ 14), (0, u "java/util/ImmutableCollections$AbstractImmutableCollection")] 41

def k20c0 : Code := { maxStack := 1, maxLocals := 1, code := jdk_47_method_1_code, exceptionTable := #[], attributes := #[] }
def k20m0 : Method := { name := "<init>", desc := "()V", sig := { parameters := [], returnType := none }, accessFlags := 0, code := some k20c0 }
/-- java/util/ImmutableCollections$AbstractImmutableCollection -/
def k20 : Class := { plain "java/util/ImmutableCollections$AbstractImmutableCollection" (some 10) with
  accessFlags := 1056
  interfaces := #[]
  cf := some (fileOf pool20 13 #[.nestHost 8] #[{ accessFlags := 0, nameIndex := 5, descriptorIndex := 6, attributes := #[] }] 1056 2 #[] #[])
  fields := #[]
  methods := #[k20m0]
  instanceTypes := #[]
  staticTypes := #[]
  resolved := Array.replicate 56 none
  statics := none }

def pool21 : Array CpInfo := pool [(1, .methodref 2 3), (0, .class_ 4), (0, .nameAndType 5 6), (0, u "java/util/ImmutableCollections$AbstractImmutableCollection"), (0, u "<init>"), (0, u "()V"), (1, .class_ 10), (1, u "java/util/ImmutableCollections"), (3, .class_ 16), (1, u "java/util/ImmutableCollections$AbstractImmutableList"), (60, .class_ 78), (0, u "java/util/List"), (45, .class_ 125), (0, u "java/util/RandomAccess")] 70

def k21c0 : Code := { maxStack := 1, maxLocals := 1, code := jdk_46_method_1_code, exceptionTable := #[], attributes := #[] }
def k21m0 : Method := { name := "<init>", desc := "()V", sig := { parameters := [], returnType := none }, accessFlags := 0, code := some k21c0 }
/-- java/util/ImmutableCollections$AbstractImmutableList -/
def k21 : Class := { plain "java/util/ImmutableCollections$AbstractImmutableList" (some 20) with
  accessFlags := 1056
  interfaces := #[12, 14]
  cf := some (fileOf pool21 14 #[.nestHost 8] #[{ accessFlags := 0, nameIndex := 5, descriptorIndex := 6, attributes := #[] }] 1056 2 #[77, 124] #[])
  fields := #[]
  methods := #[k21m0]
  instanceTypes := #[]
  staticTypes := #[]
  resolved := Array.replicate 196 none
  statics := none }

def pool22 : Array CpInfo := pool [(1, .methodref 2 3), (0, .class_ 4), (0, .nameAndType 5 6), (0, u "java/util/ImmutableCollections$AbstractImmutableList"), (0, u "<init>"), (0, u "()V"), (0, .methodref 8 9), (0, .class_ 10), (0, .nameAndType 11 12), (0, u "java/util/Objects"), (0, u "requireNonNull"), (0, u "(Ljava/lang/Object;)Ljava/lang/Object;"), (0, .fieldref 14 15), (0, .class_ 16), (0, .nameAndType 17 18), (0, u "java/util/ImmutableCollections$List12"), (0, u "e0"), (0, u "Ljava/lang/Object;"), (0, .fieldref 20 21), (0, .class_ 22), (0, .nameAndType 23 18), (0, u "java/util/ImmutableCollections"), (0, u "EMPTY"), (0, .fieldref 14 25), (0, .nameAndType 26 18), (0, u "e1"), (43, .class_ 71), (0, u "java/io/Serializable"), (4, u "(Ljava/lang/Object;)V"), (8, u "(Ljava/lang/Object;Ljava/lang/Object;)V"), (4, u "get"), (0, u "(I)Ljava/lang/Object;")] 33

def k22c0 : Code := { maxStack := 2, maxLocals := 2, code := jdk_44_method_1_code, exceptionTable := #[], attributes := #[] }
def k22m0 : Method := { name := "<init>", desc := "(Ljava/lang/Object;)V", sig := { parameters := [(.object "java/lang/Object")], returnType := none }, accessFlags := 0, code := some k22c0 }
def k22c1 : Code := { maxStack := 2, maxLocals := 3, code := jdk_44_method_2_code, exceptionTable := #[], attributes := #[] }
def k22m1 : Method := { name := "<init>", desc := "(Ljava/lang/Object;Ljava/lang/Object;)V", sig := { parameters := [(.object "java/lang/Object"), (.object "java/lang/Object")], returnType := none }, accessFlags := 0, code := some k22c1 }
def k22c2 : Code := { maxStack := 2, maxLocals := 2, code := jdk_44_method_5_code, exceptionTable := #[], attributes := #[] }
def k22m2 : Method := { name := "get", desc := "(I)Ljava/lang/Object;", sig := { parameters := [.int], returnType := some (.object "java/lang/Object") }, accessFlags := 1, code := some k22c2 }
/-- java/util/ImmutableCollections$List12 -/
def k22 : Class := { plain "java/util/ImmutableCollections$List12" (some 21) with
  accessFlags := 48
  interfaces := #[2]
  cf := some (fileOf pool22 14 #[.nestHost 20] #[{ accessFlags := 0, nameIndex := 5, descriptorIndex := 76, attributes := #[] }, { accessFlags := 0, nameIndex := 5, descriptorIndex := 85, attributes := #[] }, { accessFlags := 1, nameIndex := 90, descriptorIndex := 91, attributes := #[] }] 48 2 #[70] #[{ accessFlags := 18, nameIndex := 17, descriptorIndex := 18, attributes := #[] }, { accessFlags := 18, nameIndex := 26, descriptorIndex := 18, attributes := #[] }])
  fields := #[{ name := "e0", type := (.object "java/lang/Object"), accessFlags := 18, slot := 0, constantValue := 0 }, { name := "e1", type := (.object "java/lang/Object"), accessFlags := 18, slot := 1, constantValue := 0 }]
  methods := #[k22m0, k22m1, k22m2]
  instanceTypes := #[(.object "java/lang/Object"), (.object "java/lang/Object")]
  staticTypes := #[]
  resolved := Array.replicate 125 none
  statics := none }

def pool23 : Array CpInfo := pool [(1, .methodref 2 3), (0, .class_ 4), (0, .nameAndType 5 6), (0, u "java/util/ImmutableCollections$AbstractImmutableList"), (0, u "<init>"), (0, u "()V"), (0, .fieldref 8 9), (0, .class_ 10), (0, .nameAndType 11 12), (0, u "java/util/ImmutableCollections$ListN"), (0, u "elements"), (0, u "[Ljava/lang/Object;"), (0, .fieldref 8 14), (0, .nameAndType 15 16), (0, u "allowNulls"), (0, u "Z"), (42, .class_ 60), (0, u "java/io/Serializable"), (4, u "([Ljava/lang/Object;Z)V"), (13, u "get"), (0, u "(I)Ljava/lang/Object;"), (33, .class_ 115), (0, u "java/util/ImmutableCollections")] 3

def k23c0 : Code := { maxStack := 2, maxLocals := 3, code := jdk_45_method_1_code, exceptionTable := #[], attributes := #[] }
def k23m0 : Method := { name := "<init>", desc := "([Ljava/lang/Object;Z)V", sig := { parameters := [(.array (.object "java/lang/Object")), .boolean], returnType := none }, accessFlags := 2, code := some k23c0 }
def k23c1 : Code := { maxStack := 2, maxLocals := 2, code := jdk_45_method_4_code, exceptionTable := #[], attributes := #[] }
def k23m1 : Method := { name := "get", desc := "(I)Ljava/lang/Object;", sig := { parameters := [.int], returnType := some (.object "java/lang/Object") }, accessFlags := 1, code := some k23c1 }
/-- java/util/ImmutableCollections$ListN -/
def k23 : Class := { plain "java/util/ImmutableCollections$ListN" (some 21) with
  accessFlags := 48
  interfaces := #[2]
  cf := some (fileOf pool23 8 #[.nestHost 114] #[{ accessFlags := 2, nameIndex := 5, descriptorIndex := 65, attributes := #[] }, { accessFlags := 1, nameIndex := 79, descriptorIndex := 80, attributes := #[] }] 48 2 #[59] #[{ accessFlags := 18, nameIndex := 11, descriptorIndex := 12, attributes := #[] }, { accessFlags := 18, nameIndex := 15, descriptorIndex := 16, attributes := #[] }])
  fields := #[{ name := "elements", type := (.array (.object "java/lang/Object")), accessFlags := 18, slot := 0, constantValue := 0 }, { name := "allowNulls", type := .boolean, accessFlags := 18, slot := 1, constantValue := 0 }]
  methods := #[k23m0, k23m1]
  instanceTypes := #[(.array (.object "java/lang/Object")), .boolean]
  staticTypes := #[]
  resolved := Array.replicate 119 none
  statics := none }

def pool24 : Array CpInfo := pool [(2, .class_ 4), (1, u "java/lang/Object"), (0, u "<init>"), (0, u "()V"), (7, .class_ 16), (1, u "java/util/Arrays"), (57, .class_ 76), (1, u "java/util/Arrays$NaturalOrder"), (9, .methodref 2 87), (0, .nameAndType 88 89), (0, u "getClass"), (0, u "()Ljava/lang/Class;"), (20, .class_ 111), (0, u "[Ljava/lang/Object;"), (1, .class_ 115), (1, u "java/util/Arrays$LegacyMergeSort"), (1, u "Z"), (32, .methodref 151 152), (0, .class_ 153), (0, .nameAndType 154 155), (0, u "java/lang/System"), (0, u "arraycopy"), (0, u "(Ljava/lang/Object;ILjava/lang/Object;II)V"), (144, .methodref 14 301), (0, .nameAndType 302 303), (0, u "copyOf"), (0, u "([Ljava/lang/Object;ILjava/lang/Class;)[Ljava/lang/Object;"), (0, .methodref 305 306), (0, .class_ 307), (0, .nameAndType 308 309), (0, u "java/lang/Math"), (0, u "min"), (0, u "(II)I"), (65, .class_ 376), (0, u "java/util/Arrays$ArrayList"), (68, u "$assertionsDisabled"), (269, u "MIN_ARRAY_SORT_GRAN"), (0, u "I"), (2, u "INSERTIONSORT_THRESHOLD"), (140, u "([Ljava/lang/Object;I)[Ljava/lang/Object;"), (114, .class_ 976), (0, u "java/util/Arrays$ArrayItr")] 52

def k24m0 : Method := { name := "<init>", desc := "()V", sig := { parameters := [], returnType := none }, accessFlags := 2, code := none }
def k24c1 : Code := { maxStack := 3, maxLocals := 2, code := jdk_65_method_119_code, exceptionTable := #[], attributes := #[] }
def k24m1 : Method := { name := "copyOf", desc := "([Ljava/lang/Object;I)[Ljava/lang/Object;", sig := { parameters := [(.array (.object "java/lang/Object")), .int], returnType := some (.array (.object "java/lang/Object")) }, accessFlags := 9, code := some k24c1 }
def k24c2 : Code := { maxStack := 6, maxLocals := 4, code := jdk_65_method_120_code, exceptionTable := #[], attributes := #[] }
def k24m2 : Method := { name := "copyOf", desc := "([Ljava/lang/Object;ILjava/lang/Class;)[Ljava/lang/Object;", sig := { parameters := [(.array (.object "java/lang/Object")), .int, (.object "java/lang/Class")], returnType := some (.array (.object "java/lang/Object")) }, accessFlags := 9, code := some k24c2 }
/-- java/util/Arrays -/
def k24 : Class := { plain "java/util/Arrays" (some 0) with
  accessFlags := 49
  interfaces := #[]
  cf := some (fileOf pool24 14 #[.nestMembers #[975, 375, 113, 74]] #[{ accessFlags := 2, nameIndex := 5, descriptorIndex := 6, attributes := #[] }, { accessFlags := 9, nameIndex := 302, descriptorIndex := 860, attributes := #[] }, { accessFlags := 9, nameIndex := 302, descriptorIndex := 303, attributes := #[] }] 49 2 #[] #[{ accessFlags := 26, nameIndex := 715, descriptorIndex := 716, attributes := #[] }, { accessFlags := 26, nameIndex := 719, descriptorIndex := 716, attributes := #[] }, { accessFlags := 4120, nameIndex := 445, descriptorIndex := 117, attributes := #[] }])
  fields := #[{ name := "MIN_ARRAY_SORT_GRAN", type := .int, accessFlags := 26, slot := 0, constantValue := 0 }, { name := "INSERTIONSORT_THRESHOLD", type := .int, accessFlags := 26, slot := 1, constantValue := 0 }, { name := "$assertionsDisabled", type := .boolean, accessFlags := 4120, slot := 2, constantValue := 0 }]
  methods := #[k24m0, k24m1, k24m2]
  instanceTypes := #[]
  staticTypes := #[.int, .int, .boolean]
  resolved := Array.replicate 1029 none
  statics := none }

def pool25 : Array CpInfo := pool [(2, .class_ 4), (1, u "java/lang/Object"), (0, u "<init>"), (0, u "()V"), (1, .class_ 10), (1, u "java/lang/System"), (0, u "allowSecurityManager"), (0, u "I"), (16, u "cons"), (0, u "Ljava/io/Console;"), (77, .class_ 110), (1, u "java/lang/System$CallersHolder"), (43, u "initialErrStream"), (0, u "Ljava/io/PrintStream;"), (19, u "security"), (0, u "Ljava/lang/SecurityManager;"), (31, .class_ 209), (0, u "java/lang/System$1"), (7, u "props"), (0, u "Ljava/util/Properties;"), (2, u "lineSeparator"), (0, u "Ljava/lang/String;"), (96, .class_ 321), (1, u "java/lang/System$LoggerFinder"), (5, .class_ 328), (0, u "java/lang/System$Logger"), (67, u "err"), (2, u "out"), (91, u "notSupportedJnuEncoding"), (15, u "in"), (17, u "initialIn"), (0, u "Ljava/io/InputStream;"), (35, u "bootLayer"), (0, u "Ljava/lang/ModuleLayer;"), (99, .class_ 664), (0, u "java/lang/System$2"), (9, u "NEVER"), (2, u "MAYBE"), (49, u "arraycopy"), (0, u "(Ljava/lang/Object;ILjava/lang/Object;II)V"), (72, .class_ 802), (0, u "java/lang/System$Logger$Level")] 31

def k25m0 : Method := { name := "<init>", desc := "()V", sig := { parameters := [], returnType := none }, accessFlags := 2, code := none }
def k25m1 : Method := { name := "arraycopy", desc := "(Ljava/lang/Object;ILjava/lang/Object;II)V", sig := { parameters := [(.object "java/lang/Object"), .int, (.object "java/lang/Object"), .int, .int], returnType := none }, accessFlags := 265, code := none }
/-- java/lang/System -/
def k25 : Class := { plain "java/lang/System" (some 0) with
  accessFlags := 49
  interfaces := #[]
  cf := some (fileOf pool25 8 #[.nestMembers #[319, 327, 801, 108, 663, 208]] #[{ accessFlags := 2, nameIndex := 5, descriptorIndex := 6, attributes := #[] }, { accessFlags := 265, nameIndex := 727, descriptorIndex := 728, attributes := #[] }] 49 2 #[] #[{ accessFlags := 25, nameIndex := 507, descriptorIndex := 526, attributes := #[] }, { accessFlags := 25, nameIndex := 399, descriptorIndex := 155, attributes := #[] }, { accessFlags := 25, nameIndex := 396, descriptorIndex := 155, attributes := #[] }, { accessFlags := 10, nameIndex := 525, descriptorIndex := 526, attributes := #[] }, { accessFlags := 26, nameIndex := 674, descriptorIndex := 12, attributes := #[] }, { accessFlags := 26, nameIndex := 677, descriptorIndex := 12, attributes := #[] }, { accessFlags := 10, nameIndex := 11, descriptorIndex := 12, attributes := #[] }, { accessFlags := 74, nameIndex := 175, descriptorIndex := 176, attributes := #[] }, { accessFlags := 10, nameIndex := 491, descriptorIndex := 222, attributes := #[] }, { accessFlags := 74, nameIndex := 29, descriptorIndex := 30, attributes := #[] }, { accessFlags := 74, nameIndex := 154, descriptorIndex := 155, attributes := #[] }, { accessFlags := 10, nameIndex := 217, descriptorIndex := 218, attributes := #[] }, { accessFlags := 10, nameIndex := 221, descriptorIndex := 222, attributes := #[] }, { accessFlags := 8, nameIndex := 562, descriptorIndex := 563, attributes := #[] }])
  fields := #[{ name := "in", type := (.object "java/io/InputStream"), accessFlags := 25, slot := 0, constantValue := 0 }, { name := "out", type := (.object "java/io/PrintStream"), accessFlags := 25, slot := 1, constantValue := 0 }, { name := "err", type := (.object "java/io/PrintStream"), accessFlags := 25, slot := 2, constantValue := 0 }, { name := "initialIn", type := (.object "java/io/InputStream"), accessFlags := 10, slot := 3, constantValue := 0 }, { name := "NEVER", type := .int, accessFlags := 26, slot := 4, constantValue := 0 }, { name := "MAYBE", type := .int, accessFlags := 26, slot := 5, constantValue := 0 }, { name := "allowSecurityManager", type := .int, accessFlags := 10, slot := 6, constantValue := 0 }, { name := "security", type := (.object "java/lang/SecurityManager"), accessFlags := 74, slot := 7, constantValue := 0 }, { name := "notSupportedJnuEncoding", type := (.object "java/lang/String"), accessFlags := 10, slot := 8, constantValue := 0 }, { name := "cons", type := (.object "java/io/Console"), accessFlags := 74, slot := 9, constantValue := 0 }, { name := "initialErrStream", type := (.object "java/io/PrintStream"), accessFlags := 74, slot := 10, constantValue := 0 }, { name := "props", type := (.object "java/util/Properties"), accessFlags := 10, slot := 11, constantValue := 0 }, { name := "lineSeparator", type := (.object "java/lang/String"), accessFlags := 10, slot := 12, constantValue := 0 }, { name := "bootLayer", type := (.object "java/lang/ModuleLayer"), accessFlags := 8, slot := 13, constantValue := 0 }]
  methods := #[k25m0, k25m1]
  instanceTypes := #[]
  staticTypes := #[(.object "java/io/InputStream"), (.object "java/io/PrintStream"), (.object "java/io/PrintStream"), (.object "java/io/InputStream"), .int, .int, .int, (.object "java/lang/SecurityManager"), (.object "java/lang/String"), (.object "java/io/Console"), (.object "java/io/PrintStream"), (.object "java/util/Properties"), (.object "java/lang/String"), (.object "java/lang/ModuleLayer")]
  resolved := Array.replicate 834 none
  statics := none }

def pool26 : Array CpInfo := pool [(2, .class_ 4), (1, u "java/lang/Object"), (0, u "<init>"), (0, u "()V"), (35, .class_ 44), (1, u "java/util/Objects"), (0, u "requireNonNull"), (0, u "(Ljava/lang/Object;)Ljava/lang/Object;")] 137

def k26m0 : Method := { name := "<init>", desc := "()V", sig := { parameters := [], returnType := none }, accessFlags := 2, code := none }
def k26c1 : Code := { maxStack := 2, maxLocals := 1, code := jdk_31_method_10_code, exceptionTable := #[], attributes := #[] }
def k26m1 : Method := { name := "requireNonNull", desc := "(Ljava/lang/Object;)Ljava/lang/Object;", sig := { parameters := [(.object "java/lang/Object")], returnType := some (.object "java/lang/Object") }, accessFlags := 9, code := some k26c1 }
/-- java/util/Objects -/
def k26 : Class := { plain "java/util/Objects" (some 0) with
  accessFlags := 49
  interfaces := #[]
  cf := some (fileOf pool26 42 #[] #[{ accessFlags := 2, nameIndex := 5, descriptorIndex := 6, attributes := #[] }, { accessFlags := 9, nameIndex := 45, descriptorIndex := 46, attributes := #[] }] 49 2 #[] #[])
  fields := #[]
  methods := #[k26m0, k26m1]
  instanceTypes := #[]
  staticTypes := #[]
  resolved := Array.replicate 184 none
  statics := none }

def pool27 : Array CpInfo := pool [(4, .class_ 6), (1, u "java/lang/Object"), (0, u "<init>"), (0, u "()V"), (5, .class_ 16), (1, u "java/lang/StringLatin1"), (73, u "canEncode"), (14, u "(C)Z"), (15, u "$assertionsDisabled"), (0, u "Z"), (98, .class_ 223), (1, u "java/lang/StringLatin1$LinesSpliterator"), (156, u "toBytes"), (1, u "(C)[B"), (7, .class_ 391), (0, u "java/lang/StringLatin1$CharsSpliterator")] 3

def k27m0 : Method := { name := "<init>", desc := "()V", sig := { parameters := [], returnType := none }, accessFlags := 0, code := none }
def k27c1 : Code := { maxStack := 2, maxLocals := 1, code := jdk_43_method_3_code, exceptionTable := #[], attributes := #[] }
def k27m1 : Method := { name := "canEncode", desc := "(C)Z", sig := { parameters := [.char], returnType := some .boolean }, accessFlags := 9, code := some k27c1 }
def k27c2 : Code := { maxStack := 4, maxLocals := 1, code := jdk_43_method_46_code, exceptionTable := #[], attributes := #[] }
def k27m2 : Method := { name := "toBytes", desc := "(C)[B", sig := { parameters := [.char], returnType := some (.array .byte) }, accessFlags := 9, code := some k27c2 }
/-- java/lang/StringLatin1 -/
def k27 : Class := { plain "java/lang/StringLatin1" (some 0) with
  accessFlags := 48
  interfaces := #[]
  cf := some (fileOf pool27 14 #[.nestMembers #[390, 221]] #[{ accessFlags := 0, nameIndex := 7, descriptorIndex := 8, attributes := #[] }, { accessFlags := 9, nameIndex := 90, descriptorIndex := 105, attributes := #[] }, { accessFlags := 9, nameIndex := 380, descriptorIndex := 382, attributes := #[] }] 48 4 #[] #[{ accessFlags := 4120, nameIndex := 121, descriptorIndex := 122, attributes := #[] }])
  fields := #[{ name := "$assertionsDisabled", type := .boolean, accessFlags := 4120, slot := 0, constantValue := 0 }]
  methods := #[k27m0, k27m1, k27m2]
  instanceTypes := #[]
  staticTypes := #[.boolean]
  resolved := Array.replicate 395 none
  statics := none }

def pool28 : Array CpInfo := pool [(6, .class_ 8), (1, u "java/lang/Object"), (0, u "<init>"), (0, u "()V"), (1, .class_ 14), (1, u "java/lang/StringUTF16"), (31, u "$assertionsDisabled"), (0, u "Z"), (13, u "HI_BYTE_SHIFT"), (0, u "I"), (2, u "LO_BYTE_SHIFT"), (49, .methodref 12 116), (0, .nameAndType 117 118), (0, u "compress"), (0, u "([CI[BII)I"), (3, u "([CII)[B"), (138, u "coderFromArrayLen"), (0, u "([BI)B"), (106, .class_ 371), (1, u "java/lang/StringUTF16$LinesSpliterator"), (58, u "MAX_LENGTH"), (196, .class_ 628), (0, u "java/lang/StringUTF16$CodePointsSpliterator"), (0, .class_ 630), (0, u "java/lang/StringUTF16$CharsSpliterator")] 4

def k28m0 : Method := { name := "<init>", desc := "()V", sig := { parameters := [], returnType := none }, accessFlags := 0, code := none }
def k28c1 : Code := { maxStack := 2, maxLocals := 2, code := jdk_52_method_15_code, exceptionTable := #[], attributes := #[] }
def k28m1 : Method := { name := "coderFromArrayLen", desc := "([BI)B", sig := { parameters := [(.array .byte), .int], returnType := some .byte }, accessFlags := 8, code := some k28c1 }
def k28c2 : Code := { maxStack := 5, maxLocals := 6, code := jdk_52_method_16_code, exceptionTable := #[], attributes := #[] }
def k28m2 : Method := { name := "compress", desc := "([CII)[B", sig := { parameters := [(.array .char), .int, .int], returnType := some (.array .byte) }, accessFlags := 9, code := some k28c2 }
def k28c3 : Code := { maxStack := 3, maxLocals := 7, code := jdk_52_method_21_code, exceptionTable := #[], attributes := #[] }
def k28m3 : Method := { name := "compress", desc := "([CI[BII)I", sig := { parameters := [(.array .char), .int, (.array .byte), .int, .int], returnType := some .int }, accessFlags := 9, code := some k28c3 }
/-- java/lang/StringUTF16 -/
def k28 : Class := { plain "java/lang/StringUTF16" (some 0) with
  accessFlags := 48
  interfaces := #[]
  cf := some (fileOf pool28 12 #[.nestMembers #[627, 629, 369]] #[{ accessFlags := 0, nameIndex := 9, descriptorIndex := 10, attributes := #[] }, { accessFlags := 8, nameIndex := 261, descriptorIndex := 262, attributes := #[] }, { accessFlags := 9, nameIndex := 117, descriptorIndex := 122, attributes := #[] }, { accessFlags := 9, nameIndex := 117, descriptorIndex := 118, attributes := #[] }] 48 6 #[] #[{ accessFlags := 26, nameIndex := 61, descriptorIndex := 62, attributes := #[] }, { accessFlags := 26, nameIndex := 65, descriptorIndex := 62, attributes := #[] }, { accessFlags := 24, nameIndex := 430, descriptorIndex := 62, attributes := #[] }, { accessFlags := 4120, nameIndex := 46, descriptorIndex := 47, attributes := #[] }])
  fields := #[{ name := "HI_BYTE_SHIFT", type := .int, accessFlags := 26, slot := 0, constantValue := 0 }, { name := "LO_BYTE_SHIFT", type := .int, accessFlags := 26, slot := 1, constantValue := 0 }, { name := "MAX_LENGTH", type := .int, accessFlags := 24, slot := 2, constantValue := 0 }, { name := "$assertionsDisabled", type := .boolean, accessFlags := 4120, slot := 3, constantValue := 0 }]
  methods := #[k28m0, k28m1, k28m2, k28m3]
  instanceTypes := #[]
  staticTypes := #[.int, .int, .int, .boolean]
  resolved := Array.replicate 635 none
  statics := none }

def pool29 : Array CpInfo := pool [(2, .class_ 4), (1, u "java/lang/Object"), (0, u "<init>"), (0, u "()V"), (17, .class_ 26), (1, u "jdk/internal/util/Preconditions"), (28, .class_ 56), (0, u "jdk/internal/util/Preconditions$4"), (57, .class_ 115), (0, u "jdk/internal/util/Preconditions$1"), (7, u "SIOOBE_FORMATTER"), (0, u "Ljava/util/function/BiFunction;"), (0, .class_ 126), (0, u "jdk/internal/util/Preconditions$2"), (3, u "AIOOBE_FORMATTER"), (0, .class_ 132), (0, u "jdk/internal/util/Preconditions$3"), (3, u "IOOBE_FORMATTER")] 57

def k29m0 : Method := { name := "<init>", desc := "()V", sig := { parameters := [], returnType := none }, accessFlags := 1, code := none }
/-- jdk/internal/util/Preconditions -/
def k29 : Class := { plain "jdk/internal/util/Preconditions" (some 0) with
  accessFlags := 33
  interfaces := #[]
  cf := some (fileOf pool29 24 #[.nestMembers #[55, 131, 125, 114]] #[{ accessFlags := 1, nameIndex := 5, descriptorIndex := 6, attributes := #[] }] 33 2 #[] #[{ accessFlags := 25, nameIndex := 123, descriptorIndex := 124, attributes := #[] }, { accessFlags := 25, nameIndex := 130, descriptorIndex := 124, attributes := #[] }, { accessFlags := 25, nameIndex := 136, descriptorIndex := 124, attributes := #[] }])
  fields := #[{ name := "SIOOBE_FORMATTER", type := (.object "java/util/function/BiFunction"), accessFlags := 25, slot := 0, constantValue := 0 }, { name := "AIOOBE_FORMATTER", type := (.object "java/util/function/BiFunction"), accessFlags := 25, slot := 1, constantValue := 0 }, { name := "IOOBE_FORMATTER", type := (.object "java/util/function/BiFunction"), accessFlags := 25, slot := 2, constantValue := 0 }]
  methods := #[k29m0]
  instanceTypes := #[]
  staticTypes := #[(.object "java/util/function/BiFunction"), (.object "java/util/function/BiFunction"), (.object "java/util/function/BiFunction")]
  resolved := Array.replicate 194 none
  statics := some 3 }

def pool30 : Array CpInfo := pool [(9, u "<init>"), (6, .class_ 18), (1, u "java/lang/Object"), (0, u "()V"), (1, .class_ 23), (1, u "jdk/internal/util/ArraysSupport"), (0, u "LOG2_ARRAY_LONG_INDEX_SCALE"), (0, u "I"), (2, u "U"), (0, u "Ljdk/internal/misc/Unsafe;"), (8, u "BIG_ENDIAN"), (0, u "Z"), (8, u "LOG2_BYTE_BIT_SIZE"), (4, u "LOG2_ARRAY_INT_INDEX_SCALE"), (54, u "JLA"), (0, u "Ljdk/internal/access/JavaLangAccess;"), (11, u "LOG2_ARRAY_BOOLEAN_INDEX_SCALE"), (9, u "LOG2_ARRAY_BYTE_INDEX_SCALE"), (5, u "LOG2_ARRAY_CHAR_INDEX_SCALE"), (5, u "LOG2_ARRAY_SHORT_INDEX_SCALE"), (18, u "LOG2_ARRAY_FLOAT_INDEX_SCALE"), (24, u "LOG2_ARRAY_DOUBLE_INDEX_SCALE"), (89, u "T_BOOLEAN"), (2, u "T_CHAR"), (1, u "T_FLOAT"), (1, u "T_DOUBLE"), (1, u "T_BYTE"), (1, u "T_SHORT"), (1, u "T_INT"), (1, u "T_LONG"), (1, u "SOFT_MAX_ARRAY_LENGTH")] 83

def k30m0 : Method := { name := "<init>", desc := "()V", sig := { parameters := [], returnType := none }, accessFlags := 2, code := none }
/-- jdk/internal/util/ArraysSupport -/
def k30 : Class := { plain "jdk/internal/util/ArraysSupport" (some 0) with
  accessFlags := 33
  interfaces := #[]
  cf := some (fileOf pool30 21 #[] #[{ accessFlags := 2, nameIndex := 9, descriptorIndex := 19, attributes := #[] }] 33 16 #[] #[{ accessFlags := 24, nameIndex := 28, descriptorIndex := 29, attributes := #[] }, { accessFlags := 26, nameIndex := 38, descriptorIndex := 39, attributes := #[] }, { accessFlags := 25, nameIndex := 121, descriptorIndex := 25, attributes := #[] }, { accessFlags := 25, nameIndex := 131, descriptorIndex := 25, attributes := #[] }, { accessFlags := 25, nameIndex := 137, descriptorIndex := 25, attributes := #[] }, { accessFlags := 25, nameIndex := 143, descriptorIndex := 25, attributes := #[] }, { accessFlags := 25, nameIndex := 53, descriptorIndex := 25, attributes := #[] }, { accessFlags := 25, nameIndex := 24, descriptorIndex := 25, attributes := #[] }, { accessFlags := 25, nameIndex := 162, descriptorIndex := 25, attributes := #[] }, { accessFlags := 25, nameIndex := 187, descriptorIndex := 25, attributes := #[] }, { accessFlags := 26, nameIndex := 48, descriptorIndex := 25, attributes := #[] }, { accessFlags := 25, nameIndex := 277, descriptorIndex := 25, attributes := #[] }, { accessFlags := 25, nameIndex := 280, descriptorIndex := 25, attributes := #[] }, { accessFlags := 25, nameIndex := 282, descriptorIndex := 25, attributes := #[] }, { accessFlags := 25, nameIndex := 284, descriptorIndex := 25, attributes := #[] }, { accessFlags := 25, nameIndex := 286, descriptorIndex := 25, attributes := #[] }, { accessFlags := 25, nameIndex := 288, descriptorIndex := 25, attributes := #[] }, { accessFlags := 25, nameIndex := 290, descriptorIndex := 25, attributes := #[] }, { accessFlags := 25, nameIndex := 292, descriptorIndex := 25, attributes := #[] }, { accessFlags := 26, nameIndex := 108, descriptorIndex := 109, attributes := #[] }, { accessFlags := 25, nameIndex := 294, descriptorIndex := 25, attributes := #[] }])
  fields := #[{ name := "U", type := (.object "jdk/internal/misc/Unsafe"), accessFlags := 24, slot := 0, constantValue := 0 }, { name := "BIG_ENDIAN", type := .boolean, accessFlags := 26, slot := 1, constantValue := 0 }, { name := "LOG2_ARRAY_BOOLEAN_INDEX_SCALE", type := .int, accessFlags := 25, slot := 2, constantValue := 0 }, { name := "LOG2_ARRAY_BYTE_INDEX_SCALE", type := .int, accessFlags := 25, slot := 3, constantValue := 0 }, { name := "LOG2_ARRAY_CHAR_INDEX_SCALE", type := .int, accessFlags := 25, slot := 4, constantValue := 0 }, { name := "LOG2_ARRAY_SHORT_INDEX_SCALE", type := .int, accessFlags := 25, slot := 5, constantValue := 0 }, { name := "LOG2_ARRAY_INT_INDEX_SCALE", type := .int, accessFlags := 25, slot := 6, constantValue := 0 }, { name := "LOG2_ARRAY_LONG_INDEX_SCALE", type := .int, accessFlags := 25, slot := 7, constantValue := 0 }, { name := "LOG2_ARRAY_FLOAT_INDEX_SCALE", type := .int, accessFlags := 25, slot := 8, constantValue := 0 }, { name := "LOG2_ARRAY_DOUBLE_INDEX_SCALE", type := .int, accessFlags := 25, slot := 9, constantValue := 0 }, { name := "LOG2_BYTE_BIT_SIZE", type := .int, accessFlags := 26, slot := 10, constantValue := 0 }, { name := "T_BOOLEAN", type := .int, accessFlags := 25, slot := 11, constantValue := 0 }, { name := "T_CHAR", type := .int, accessFlags := 25, slot := 12, constantValue := 0 }, { name := "T_FLOAT", type := .int, accessFlags := 25, slot := 13, constantValue := 0 }, { name := "T_DOUBLE", type := .int, accessFlags := 25, slot := 14, constantValue := 0 }, { name := "T_BYTE", type := .int, accessFlags := 25, slot := 15, constantValue := 0 }, { name := "T_SHORT", type := .int, accessFlags := 25, slot := 16, constantValue := 0 }, { name := "T_INT", type := .int, accessFlags := 25, slot := 17, constantValue := 0 }, { name := "T_LONG", type := .int, accessFlags := 25, slot := 18, constantValue := 0 }, { name := "JLA", type := (.object "jdk/internal/access/JavaLangAccess"), accessFlags := 26, slot := 19, constantValue := 0 }, { name := "SOFT_MAX_ARRAY_LENGTH", type := .int, accessFlags := 25, slot := 20, constantValue := 0 }]
  methods := #[k30m0]
  instanceTypes := #[]
  staticTypes := #[(.object "jdk/internal/misc/Unsafe"), .boolean, .int, .int, .int, .int, .int, .int, .int, .int, .int, .int, .int, .int, .int, .int, .int, .int, .int, (.object "jdk/internal/access/JavaLangAccess"), .int]
  resolved := Array.replicate 378 none
  statics := none }

/-- the primitive byte -/
def k31 : Class := { plain "byte" none with kind := .primitive 'B', accessFlags := 0x411 }
/-- [B -/
def k32 : Class := { plain "[B" (some 0) with kind := .array 31 .byte, interfaces := #[15, 2], accessFlags := 1041 }

/-- the primitive char -/
def k33 : Class := { plain "char" none with kind := .primitive 'C', accessFlags := 0x411 }
/-- [C -/
def k34 : Class := { plain "[C" (some 0) with kind := .array 33 .char, interfaces := #[15, 2], accessFlags := 1041 }

/-- [Ljava/lang/Object; -/
def k35 : Class := { plain "[Ljava/lang/Object;" (some 0) with kind := .array 0 (.object "java/lang/Object"), interfaces := #[15, 2], accessFlags := 1041, mirror := some 4 }

def heap : Heap := #[{ cls := 7, slots := #[.long 0, .int 1, .null, .int 0, .null, .int 0, .int 0], vm := .statics 7 },
  { cls := 16, slots := #[.long 0, .int 0, .ref 5, .ref 6], vm := .statics 16 },
  { cls := 19, slots := #[.long 0, .int 0, .null, .ref 7, .ref 8, .null, .null, .null, .int 0, .int 1], vm := .statics 19 },
  { cls := 29, slots := #[.null, .null, .null], vm := .statics 29 },
  { cls := 0, slots := #[], vm := .mirror 35 },
  { cls := 35, slots := #[], vm := .none },
  { cls := 35, slots := #[], vm := .none },
  { cls := 0, slots := #[], vm := .none },
  { cls := 23, slots := #[.null, .int 0], vm := .none }]
def classes : Array Class := #[k0, k1, k2, k3, k4, k5, k6, k7, k8, k9, k10, k11, k12, k13, k14, k15, k16, k17, k18, k19, k20, k21, k22, k23, k24, k25, k26, k27, k28, k29, k30, k31, k32, k33, k34, k35]
def interned : List (Array UInt16 × Addr) := []
def slotsUsed : Nat := 26
def theMethod : MethodId := ⟨1, 1⟩
def args0 : Array Value := #[.int 1, .int 2, .int 3, .int 4, .int 5, .int 6]
def aboutOver (below : List Frame) : State where
  vm := { classes := classes, interned := interned.toArray }
  heap := heap
  slotsUsed := slotsUsed
  threads := #[{ frames := .invoking theMethod args0 :: below }]
def below0 : List Frame := [.native { method := ⟨0, 0⟩, args := #[] }]
def about1 : State := aboutOver below0
def p0 : Program := .bare "" "" ""
def e0 : Env := launch0.env 0 0 0
theorem w_frames : about1.frames = Frame.invoking theMethod args0 :: below0 := rfl
set_option maxRecDepth 65536 in
theorem w_args : argsFit about1.vm theMethod args0 = true := by decide +kernel
set_option maxRecDepth 65536 in
theorem w_heap : heapFits about1 = true := by decide +kernel
set_option maxRecDepth 65536 in
theorem w_runnable : about1.curStatus? = some .runnable := by decide +kernel
set_option maxRecDepth 65536 in
theorem w_alone : about1.alone = true := by decide +kernel
set_option maxRecDepth 65536 in
theorem w_named : about1.methodNamed? x = some theMethod := by decide +kernel
set_option maxRecDepth 65536 in
theorem w_hears : about1.hears theMethod below0 = true := by decide +kernel
set_option maxRecDepth 65536 in
theorem w_ripe : about1.ripe theMethod args0 below0 = true := by decide +kernel
theorem w_running : about1.status = .running := rfl
set_option maxRecDepth 65536 in
theorem w_room : about1.hasRoom e0.platform room_1 = true :=
  launch0.hasRoom_least _ room_1 (by decide +kernel) (by decide +kernel) (by decide +kernel) (by decide +kernel) (by decide +kernel) (by decide +kernel)
theorem allAtoms_all (ts : List Jvm.Cond) (a : Array Jvm.Value) (st : Jvm.State) : (allAtoms ts).before a st = ts.all (fun c => c.before a st) := by
  induction ts with
  | nil => rfl
  | cons c t ih =>
    show (Jvm.Cond.and c (allAtoms t)).before a st = _
    rw [Jvm.Cond.before_and, ih, List.all_cons]
def words1 : List Jvm.Cond := Jvm.Cond.code x code maxLocals ret :: tables_1
/-- a 'code' word, met by the world's own term for the bytes: nothing is compared byte by byte -/
theorem code_word {y : MethodName} {bytes : ByteArray} {mx : Nat} {rt : Option FieldType} {a : Array Value} {s : State} {m : MethodId} {meth : Method} {c : Code} (h1 : s.methodNamed? y = some m) (h2 : s.vm.method? m = some meth) (h3 : meth.code = some c) (h4 : c.code = bytes)
    (h5 : (c.maxLocals == mx && c.exceptionTable.isEmpty && decide (c.maxStack ≤ mostOperands) && decide (meth.sig.returnType = rt) && !meth.locks && decide (parseMethodDescriptor y.desc = some meth.sig)) = true) : (Jvm.Cond.code y bytes mx rt).before a s = true := by
  simp only [Bool.and_eq_true, beq_iff_eq, Bool.not_eq_true', decide_eq_true_eq] at h5
  obtain ⟨⟨⟨⟨⟨g1, g2⟩, g3⟩, g4⟩, g5⟩, g6⟩ := h5
  simp [Cond.before, Cond.holds, Cond.value, h1, h2, h3, h4, g1, g2, g3, g4, g5, g6]
def isCode : Jvm.Cond → Bool
  | .code _ _ _ _ => true
  | _ => false
theorem all_split {L : List Jvm.Cond} {P : Jvm.Cond → Bool} (h1 : L.all (fun c => isCode c || P c) = true) (h2 : ∀ c ∈ L.filter isCode, P c = true) : L.all P = true := by
  refine List.all_eq_true.mpr fun c hc => ?_
  have h := List.all_eq_true.mp h1 c hc
  rcases Bool.eq_false_or_eq_true (isCode c) with hi | hi
  · exact h2 c (List.mem_filter.mpr ⟨hc, hi⟩)
  · simpa [hi] using h
set_option maxRecDepth 65536 in
theorem w_c0 : (Jvm.Cond.code x code maxLocals ret).before args0 about1 = true := code_word (m := ⟨1, 1⟩) (meth := k1m1) (c := k1c1) (by decide +kernel) rfl rfl rfl (by decide +kernel)
set_option maxRecDepth 65536 in
theorem w_c1 : (Jvm.Cond.code ({ cls := "com/example/ninkasi/ninkasi/csv/CsvRecordGetPinLaw", name := "mk", desc := "(I)Ljava/lang/String;" } : Jvm.MethodName) method_3_code (5 : Nat) (Option.some (Jvm.ClassFile.FieldType.object "java/lang/String"))).before args0 about1 = true := code_word (m := ⟨1, 2⟩) (meth := k1m2) (c := k1c2) (by decide +kernel) rfl rfl rfl (by decide +kernel)
set_option maxRecDepth 65536 in
theorem w_c2 : (Jvm.Cond.code ({ cls := "java/lang/String", name := "<init>", desc := "([C)V" } : Jvm.MethodName) jdk_42_method_3_code (2 : Nat) (Option.none : Option Jvm.ClassFile.FieldType)).before args0 about1 = true := code_word (m := ⟨7, 1⟩) (meth := k7m1) (c := k7c1) (by decide +kernel) rfl rfl rfl (by decide +kernel)
set_option maxRecDepth 65536 in
theorem w_c3 : (Jvm.Cond.code ({ cls := "java/lang/String", name := "<init>", desc := "([CIILjava/lang/Void;)V" } : Jvm.MethodName) jdk_42_method_149_code (6 : Nat) (Option.none : Option Jvm.ClassFile.FieldType)).before args0 about1 = true := code_word (m := ⟨7, 4⟩) (meth := k7m4) (c := k7c4) (by decide +kernel) rfl rfl rfl (by decide +kernel)
set_option maxRecDepth 65536 in
theorem w_c4 : (Jvm.Cond.code ({ cls := "java/lang/Object", name := "<init>", desc := "()V" } : Jvm.MethodName) object_method_1_code (1 : Nat) (Option.none : Option Jvm.ClassFile.FieldType)).before args0 about1 = true := code_word (m := ⟨0, 0⟩) (meth := k0m0) (c := k0c0) (by decide +kernel) rfl rfl rfl (by decide +kernel)
set_option maxRecDepth 65536 in
theorem w_c5 : (Jvm.Cond.code ({ cls := "java/util/ArrayList", name := "<init>", desc := "()V" } : Jvm.MethodName) jdk_38_method_2_code (1 : Nat) (Option.none : Option Jvm.ClassFile.FieldType)).before args0 about1 = true := code_word (m := ⟨16, 0⟩) (meth := k16m0) (c := k16c0) (by decide +kernel) rfl rfl rfl (by decide +kernel)
set_option maxRecDepth 65536 in
theorem w_c6 : (Jvm.Cond.code ({ cls := "java/util/AbstractList", name := "<init>", desc := "()V" } : Jvm.MethodName) jdk_39_method_1_code (1 : Nat) (Option.none : Option Jvm.ClassFile.FieldType)).before args0 about1 = true := code_word (m := ⟨13, 0⟩) (meth := k13m0) (c := k13c0) (by decide +kernel) rfl rfl rfl (by decide +kernel)
set_option maxRecDepth 65536 in
theorem w_c7 : (Jvm.Cond.code ({ cls := "java/util/AbstractCollection", name := "<init>", desc := "()V" } : Jvm.MethodName) jdk_22_method_1_code (1 : Nat) (Option.none : Option Jvm.ClassFile.FieldType)).before args0 about1 = true := code_word (m := ⟨10, 0⟩) (meth := k10m0) (c := k10c0) (by decide +kernel) rfl rfl rfl (by decide +kernel)
set_option maxRecDepth 65536 in
theorem w_c8 : (Jvm.Cond.code ({ cls := "java/util/ArrayList", name := "add", desc := "(Ljava/lang/Object;)Z" } : Jvm.MethodName) jdk_38_method_25_code (2 : Nat) (Option.some Jvm.ClassFile.FieldType.boolean)).before args0 about1 = true := code_word (m := ⟨16, 6⟩) (meth := k16m6) (c := k16c6) (by decide +kernel) rfl rfl rfl (by decide +kernel)
set_option maxRecDepth 65536 in
theorem w_c9 : (Jvm.Cond.code ({ cls := "java/util/ArrayList", name := "add", desc := "(Ljava/lang/Object;[Ljava/lang/Object;I)V" } : Jvm.MethodName) jdk_38_method_24_code (4 : Nat) (Option.none : Option Jvm.ClassFile.FieldType)).before args0 about1 = true := code_word (m := ⟨16, 5⟩) (meth := k16m5) (c := k16c5) (by decide +kernel) rfl rfl rfl (by decide +kernel)
set_option maxRecDepth 65536 in
theorem w_c10 : (Jvm.Cond.code ({ cls := "java/util/ArrayList", name := "grow", desc := "()[Ljava/lang/Object;" } : Jvm.MethodName) jdk_38_method_7_code (1 : Nat) (Option.some (Jvm.ClassFile.FieldType.array (Jvm.ClassFile.FieldType.object "java/lang/Object")))).before args0 about1 = true := code_word (m := ⟨16, 2⟩) (meth := k16m2) (c := k16c2) (by decide +kernel) rfl rfl rfl (by decide +kernel)
set_option maxRecDepth 65536 in
theorem w_c11 : (Jvm.Cond.code ({ cls := "java/util/ArrayList", name := "grow", desc := "(I)[Ljava/lang/Object;" } : Jvm.MethodName) jdk_38_method_6_code (4 : Nat) (Option.some (Jvm.ClassFile.FieldType.array (Jvm.ClassFile.FieldType.object "java/lang/Object")))).before args0 about1 = true := code_word (m := ⟨16, 1⟩) (meth := k16m1) (c := k16c1) (by decide +kernel) rfl rfl rfl (by decide +kernel)
set_option maxRecDepth 65536 in
theorem w_c12 : (Jvm.Cond.code ({ cls := "java/lang/Math", name := "max", desc := "(II)I" } : Jvm.MethodName) jdk_29_method_65_code (2 : Nat) (Option.some Jvm.ClassFile.FieldType.int)).before args0 about1 = true := code_word (m := ⟨17, 1⟩) (meth := k17m1) (c := k17c1) (by decide +kernel) rfl rfl rfl (by decide +kernel)
set_option maxRecDepth 65536 in
theorem w_c13 : (Jvm.Cond.code ({ cls := "com/example/ninkasi/ninkasi/csv/CsvRecord", name := "<init>", desc := "(Ljava/util/List;Ljava/util/List;)V" } : Jvm.MethodName) prog_4_method_1_code (3 : Nat) (Option.none : Option Jvm.ClassFile.FieldType)).before args0 about1 = true := code_word (m := ⟨18, 0⟩) (meth := k18m0) (c := k18c0) (by decide +kernel) rfl rfl rfl (by decide +kernel)
set_option maxRecDepth 65536 in
theorem w_c14 : (Jvm.Cond.code ({ cls := "java/util/List", name := "copyOf", desc := "(Ljava/util/Collection;)Ljava/util/List;" } : Jvm.MethodName) jdk_40_method_48_code (1 : Nat) (Option.some (Jvm.ClassFile.FieldType.object "java/util/List"))).before args0 about1 = true := code_word (m := ⟨12, 2⟩) (meth := k12m2) (c := k12c2) (by decide +kernel) rfl rfl rfl (by decide +kernel)
set_option maxRecDepth 65536 in
theorem w_c15 : (Jvm.Cond.code ({ cls := "java/util/ImmutableCollections", name := "listCopy", desc := "(Ljava/util/Collection;)Ljava/util/List;" } : Jvm.MethodName) jdk_56_method_3_code (2 : Nat) (Option.some (Jvm.ClassFile.FieldType.object "java/util/List"))).before args0 about1 = true := code_word (m := ⟨19, 1⟩) (meth := k19m1) (c := k19c1) (by decide +kernel) rfl rfl rfl (by decide +kernel)
set_option maxRecDepth 65536 in
theorem w_c16 : (Jvm.Cond.code ({ cls := "java/util/ArrayList", name := "isEmpty", desc := "()Z" } : Jvm.MethodName) jdk_38_method_9_code (1 : Nat) (Option.some Jvm.ClassFile.FieldType.boolean)).before args0 about1 = true := code_word (m := ⟨16, 3⟩) (meth := k16m3) (c := k16c3) (by decide +kernel) rfl rfl rfl (by decide +kernel)
set_option maxRecDepth 65536 in
theorem w_c17 : (Jvm.Cond.code ({ cls := "java/util/ArrayList", name := "toArray", desc := "()[Ljava/lang/Object;" } : Jvm.MethodName) jdk_38_method_16_code (1 : Nat) (Option.some (Jvm.ClassFile.FieldType.array (Jvm.ClassFile.FieldType.object "java/lang/Object")))).before args0 about1 = true := code_word (m := ⟨16, 4⟩) (meth := k16m4) (c := k16c4) (by decide +kernel) rfl rfl rfl (by decide +kernel)
set_option maxRecDepth 65536 in
theorem w_c18 : (Jvm.Cond.code ({ cls := "java/util/Arrays", name := "copyOf", desc := "([Ljava/lang/Object;I)[Ljava/lang/Object;" } : Jvm.MethodName) jdk_65_method_119_code (2 : Nat) (Option.some (Jvm.ClassFile.FieldType.array (Jvm.ClassFile.FieldType.object "java/lang/Object")))).before args0 about1 = true := code_word (m := ⟨24, 1⟩) (meth := k24m1) (c := k24c1) (by decide +kernel) rfl rfl rfl (by decide +kernel)
set_option maxRecDepth 65536 in
theorem w_c19 : (Jvm.Cond.code ({ cls := "java/util/Arrays", name := "copyOf", desc := "([Ljava/lang/Object;ILjava/lang/Class;)[Ljava/lang/Object;" } : Jvm.MethodName) jdk_65_method_120_code (4 : Nat) (Option.some (Jvm.ClassFile.FieldType.array (Jvm.ClassFile.FieldType.object "java/lang/Object")))).before args0 about1 = true := code_word (m := ⟨24, 2⟩) (meth := k24m2) (c := k24c2) (by decide +kernel) rfl rfl rfl (by decide +kernel)
set_option maxRecDepth 65536 in
theorem w_c20 : (Jvm.Cond.code ({ cls := "java/lang/Math", name := "min", desc := "(II)I" } : Jvm.MethodName) jdk_29_method_69_code (2 : Nat) (Option.some Jvm.ClassFile.FieldType.int)).before args0 about1 = true := code_word (m := ⟨17, 2⟩) (meth := k17m2) (c := k17c2) (by decide +kernel) rfl rfl rfl (by decide +kernel)
set_option maxRecDepth 65536 in
theorem w_c21 : (Jvm.Cond.code ({ cls := "java/util/List", name := "of", desc := "([Ljava/lang/Object;)Ljava/util/List;" } : Jvm.MethodName) jdk_40_method_47_code (2 : Nat) (Option.some (Jvm.ClassFile.FieldType.object "java/util/List"))).before args0 about1 = true := code_word (m := ⟨12, 1⟩) (meth := k12m1) (c := k12c1) (by decide +kernel) rfl rfl rfl (by decide +kernel)
set_option maxRecDepth 65536 in
theorem w_c22 : (Jvm.Cond.code ({ cls := "java/util/ImmutableCollections$List12", name := "<init>", desc := "(Ljava/lang/Object;)V" } : Jvm.MethodName) jdk_44_method_1_code (2 : Nat) (Option.none : Option Jvm.ClassFile.FieldType)).before args0 about1 = true := code_word (m := ⟨22, 0⟩) (meth := k22m0) (c := k22c0) (by decide +kernel) rfl rfl rfl (by decide +kernel)
set_option maxRecDepth 65536 in
theorem w_c23 : (Jvm.Cond.code ({ cls := "java/util/ImmutableCollections$AbstractImmutableList", name := "<init>", desc := "()V" } : Jvm.MethodName) jdk_46_method_1_code (1 : Nat) (Option.none : Option Jvm.ClassFile.FieldType)).before args0 about1 = true := code_word (m := ⟨21, 0⟩) (meth := k21m0) (c := k21c0) (by decide +kernel) rfl rfl rfl (by decide +kernel)
set_option maxRecDepth 65536 in
theorem w_c24 : (Jvm.Cond.code ({ cls := "java/util/ImmutableCollections$AbstractImmutableCollection", name := "<init>", desc := "()V" } : Jvm.MethodName) jdk_47_method_1_code (1 : Nat) (Option.none : Option Jvm.ClassFile.FieldType)).before args0 about1 = true := code_word (m := ⟨20, 0⟩) (meth := k20m0) (c := k20c0) (by decide +kernel) rfl rfl rfl (by decide +kernel)
set_option maxRecDepth 65536 in
theorem w_c25 : (Jvm.Cond.code ({ cls := "java/util/Objects", name := "requireNonNull", desc := "(Ljava/lang/Object;)Ljava/lang/Object;" } : Jvm.MethodName) jdk_31_method_10_code (1 : Nat) (Option.some (Jvm.ClassFile.FieldType.object "java/lang/Object"))).before args0 about1 = true := code_word (m := ⟨26, 1⟩) (meth := k26m1) (c := k26c1) (by decide +kernel) rfl rfl rfl (by decide +kernel)
set_option maxRecDepth 65536 in
theorem w_c26 : (Jvm.Cond.code ({ cls := "java/util/ImmutableCollections", name := "listFromArray", desc := "([Ljava/lang/Object;)Ljava/util/List;" } : Jvm.MethodName) jdk_56_method_4_code (3 : Nat) (Option.some (Jvm.ClassFile.FieldType.object "java/util/List"))).before args0 about1 = true := code_word (m := ⟨19, 2⟩) (meth := k19m2) (c := k19c2) (by decide +kernel) rfl rfl rfl (by decide +kernel)
set_option maxRecDepth 65536 in
theorem w_c27 : (Jvm.Cond.code ({ cls := "java/util/ImmutableCollections$ListN", name := "<init>", desc := "([Ljava/lang/Object;Z)V" } : Jvm.MethodName) jdk_45_method_1_code (3 : Nat) (Option.none : Option Jvm.ClassFile.FieldType)).before args0 about1 = true := code_word (m := ⟨23, 0⟩) (meth := k23m0) (c := k23c0) (by decide +kernel) rfl rfl rfl (by decide +kernel)
set_option maxRecDepth 65536 in
theorem w_c28 : (Jvm.Cond.code ({ cls := "com/example/ninkasi/ninkasi/csv/CsvRecord", name := "get", desc := "(I)Ljava/lang/String;" } : Jvm.MethodName) prog_4_method_3_code (2 : Nat) (Option.some (Jvm.ClassFile.FieldType.object "java/lang/String"))).before args0 about1 = true := code_word (m := ⟨18, 1⟩) (meth := k18m1) (c := k18c1) (by decide +kernel) rfl rfl rfl (by decide +kernel)
set_option maxRecDepth 65536 in
theorem w_c29 : (Jvm.Cond.code ({ cls := "java/util/ImmutableCollections$List12", name := "get", desc := "(I)Ljava/lang/Object;" } : Jvm.MethodName) jdk_44_method_5_code (2 : Nat) (Option.some (Jvm.ClassFile.FieldType.object "java/lang/Object"))).before args0 about1 = true := code_word (m := ⟨22, 2⟩) (meth := k22m2) (c := k22c2) (by decide +kernel) rfl rfl rfl (by decide +kernel)
set_option maxRecDepth 65536 in
theorem w_c30 : (Jvm.Cond.code ({ cls := "java/lang/String", name := "equals", desc := "(Ljava/lang/Object;)Z" } : Jvm.MethodName) jdk_42_method_66_code (3 : Nat) (Option.some Jvm.ClassFile.FieldType.boolean)).before args0 about1 = true := code_word (m := ⟨7, 2⟩) (meth := k7m2) (c := k7c2) (by decide +kernel) rfl rfl rfl (by decide +kernel)
set_option maxRecDepth 65536 in
theorem w_c31 : (Jvm.Cond.code ({ cls := "java/util/ImmutableCollections$List12", name := "<init>", desc := "(Ljava/lang/Object;Ljava/lang/Object;)V" } : Jvm.MethodName) jdk_44_method_2_code (3 : Nat) (Option.none : Option Jvm.ClassFile.FieldType)).before args0 about1 = true := code_word (m := ⟨22, 1⟩) (meth := k22m1) (c := k22c1) (by decide +kernel) rfl rfl rfl (by decide +kernel)
set_option maxRecDepth 65536 in
theorem w_c32 : (Jvm.Cond.code ({ cls := "java/lang/String", name := "valueOf", desc := "(C)Ljava/lang/String;" } : Jvm.MethodName) jdk_42_method_139_code (1 : Nat) (Option.some (Jvm.ClassFile.FieldType.object "java/lang/String"))).before args0 about1 = true := code_word (m := ⟨7, 3⟩) (meth := k7m3) (c := k7c3) (by decide +kernel) rfl rfl rfl (by decide +kernel)
set_option maxRecDepth 65536 in
theorem w_c33 : (Jvm.Cond.code ({ cls := "java/lang/StringLatin1", name := "canEncode", desc := "(C)Z" } : Jvm.MethodName) jdk_43_method_3_code (1 : Nat) (Option.some Jvm.ClassFile.FieldType.boolean)).before args0 about1 = true := code_word (m := ⟨27, 1⟩) (meth := k27m1) (c := k27c1) (by decide +kernel) rfl rfl rfl (by decide +kernel)
set_option maxRecDepth 65536 in
theorem w_c34 : (Jvm.Cond.code ({ cls := "java/lang/StringLatin1", name := "toBytes", desc := "(C)[B" } : Jvm.MethodName) jdk_43_method_46_code (1 : Nat) (Option.some (Jvm.ClassFile.FieldType.array Jvm.ClassFile.FieldType.byte))).before args0 about1 = true := code_word (m := ⟨27, 2⟩) (meth := k27m2) (c := k27c2) (by decide +kernel) rfl rfl rfl (by decide +kernel)
set_option maxRecDepth 65536 in
theorem w_c35 : (Jvm.Cond.code ({ cls := "java/lang/String", name := "<init>", desc := "([BB)V" } : Jvm.MethodName) jdk_42_method_151_code (3 : Nat) (Option.none : Option Jvm.ClassFile.FieldType)).before args0 about1 = true := code_word (m := ⟨7, 5⟩) (meth := k7m5) (c := k7c5) (by decide +kernel) rfl rfl rfl (by decide +kernel)
set_option maxRecDepth 65536 in
theorem w_c36 : (Jvm.Cond.code ({ cls := "java/lang/StringUTF16", name := "compress", desc := "([CII)[B" } : Jvm.MethodName) jdk_52_method_16_code (6 : Nat) (Option.some (Jvm.ClassFile.FieldType.array Jvm.ClassFile.FieldType.byte))).before args0 about1 = true := code_word (m := ⟨28, 2⟩) (meth := k28m2) (c := k28c2) (by decide +kernel) rfl rfl rfl (by decide +kernel)
set_option maxRecDepth 65536 in
theorem w_c37 : (Jvm.Cond.code ({ cls := "java/lang/StringUTF16", name := "compress", desc := "([CI[BII)I" } : Jvm.MethodName) jdk_52_method_21_code (7 : Nat) (Option.some Jvm.ClassFile.FieldType.int)).before args0 about1 = true := code_word (m := ⟨28, 3⟩) (meth := k28m3) (c := k28c3) (by decide +kernel) rfl rfl rfl (by decide +kernel)
set_option maxRecDepth 65536 in
theorem w_c38 : (Jvm.Cond.code ({ cls := "java/lang/StringUTF16", name := "coderFromArrayLen", desc := "([BI)B" } : Jvm.MethodName) jdk_52_method_15_code (2 : Nat) (Option.some Jvm.ClassFile.FieldType.byte)).before args0 about1 = true := code_word (m := ⟨28, 1⟩) (meth := k28m1) (c := k28c1) (by decide +kernel) rfl rfl rfl (by decide +kernel)
set_option maxRecDepth 65536 in
theorem w_c39 : (Jvm.Cond.code ({ cls := "java/util/ImmutableCollections$ListN", name := "get", desc := "(I)Ljava/lang/Object;" } : Jvm.MethodName) jdk_45_method_4_code (2 : Nat) (Option.some (Jvm.ClassFile.FieldType.object "java/lang/Object"))).before args0 about1 = true := code_word (m := ⟨23, 1⟩) (meth := k23m1) (c := k23c1) (by decide +kernel) rfl rfl rfl (by decide +kernel)
def codes1 : List Jvm.Cond := [Jvm.Cond.code x code maxLocals ret, Jvm.Cond.code ({ cls := "com/example/ninkasi/ninkasi/csv/CsvRecordGetPinLaw", name := "mk", desc := "(I)Ljava/lang/String;" } : Jvm.MethodName) method_3_code (5 : Nat) (Option.some (Jvm.ClassFile.FieldType.object "java/lang/String")), Jvm.Cond.code ({ cls := "java/lang/String", name := "<init>", desc := "([C)V" } : Jvm.MethodName) jdk_42_method_3_code (2 : Nat) (Option.none : Option Jvm.ClassFile.FieldType), Jvm.Cond.code ({ cls := "java/lang/String", name := "<init>", desc := "([CIILjava/lang/Void;)V" } : Jvm.MethodName) jdk_42_method_149_code (6 : Nat) (Option.none : Option Jvm.ClassFile.FieldType), Jvm.Cond.code ({ cls := "java/lang/Object", name := "<init>", desc := "()V" } : Jvm.MethodName) object_method_1_code (1 : Nat) (Option.none : Option Jvm.ClassFile.FieldType), Jvm.Cond.code ({ cls := "java/util/ArrayList", name := "<init>", desc := "()V" } : Jvm.MethodName) jdk_38_method_2_code (1 : Nat) (Option.none : Option Jvm.ClassFile.FieldType), Jvm.Cond.code ({ cls := "java/util/AbstractList", name := "<init>", desc := "()V" } : Jvm.MethodName) jdk_39_method_1_code (1 : Nat) (Option.none : Option Jvm.ClassFile.FieldType), Jvm.Cond.code ({ cls := "java/util/AbstractCollection", name := "<init>", desc := "()V" } : Jvm.MethodName) jdk_22_method_1_code (1 : Nat) (Option.none : Option Jvm.ClassFile.FieldType), Jvm.Cond.code ({ cls := "java/util/ArrayList", name := "add", desc := "(Ljava/lang/Object;)Z" } : Jvm.MethodName) jdk_38_method_25_code (2 : Nat) (Option.some Jvm.ClassFile.FieldType.boolean), Jvm.Cond.code ({ cls := "java/util/ArrayList", name := "add", desc := "(Ljava/lang/Object;[Ljava/lang/Object;I)V" } : Jvm.MethodName) jdk_38_method_24_code (4 : Nat) (Option.none : Option Jvm.ClassFile.FieldType), Jvm.Cond.code ({ cls := "java/util/ArrayList", name := "grow", desc := "()[Ljava/lang/Object;" } : Jvm.MethodName) jdk_38_method_7_code (1 : Nat) (Option.some (Jvm.ClassFile.FieldType.array (Jvm.ClassFile.FieldType.object "java/lang/Object"))), Jvm.Cond.code ({ cls := "java/util/ArrayList", name := "grow", desc := "(I)[Ljava/lang/Object;" } : Jvm.MethodName) jdk_38_method_6_code (4 : Nat) (Option.some (Jvm.ClassFile.FieldType.array (Jvm.ClassFile.FieldType.object "java/lang/Object"))), Jvm.Cond.code ({ cls := "java/lang/Math", name := "max", desc := "(II)I" } : Jvm.MethodName) jdk_29_method_65_code (2 : Nat) (Option.some Jvm.ClassFile.FieldType.int), Jvm.Cond.code ({ cls := "com/example/ninkasi/ninkasi/csv/CsvRecord", name := "<init>", desc := "(Ljava/util/List;Ljava/util/List;)V" } : Jvm.MethodName) prog_4_method_1_code (3 : Nat) (Option.none : Option Jvm.ClassFile.FieldType), Jvm.Cond.code ({ cls := "java/util/List", name := "copyOf", desc := "(Ljava/util/Collection;)Ljava/util/List;" } : Jvm.MethodName) jdk_40_method_48_code (1 : Nat) (Option.some (Jvm.ClassFile.FieldType.object "java/util/List")), Jvm.Cond.code ({ cls := "java/util/ImmutableCollections", name := "listCopy", desc := "(Ljava/util/Collection;)Ljava/util/List;" } : Jvm.MethodName) jdk_56_method_3_code (2 : Nat) (Option.some (Jvm.ClassFile.FieldType.object "java/util/List")), Jvm.Cond.code ({ cls := "java/util/ArrayList", name := "isEmpty", desc := "()Z" } : Jvm.MethodName) jdk_38_method_9_code (1 : Nat) (Option.some Jvm.ClassFile.FieldType.boolean), Jvm.Cond.code ({ cls := "java/util/ArrayList", name := "toArray", desc := "()[Ljava/lang/Object;" } : Jvm.MethodName) jdk_38_method_16_code (1 : Nat) (Option.some (Jvm.ClassFile.FieldType.array (Jvm.ClassFile.FieldType.object "java/lang/Object"))), Jvm.Cond.code ({ cls := "java/util/Arrays", name := "copyOf", desc := "([Ljava/lang/Object;I)[Ljava/lang/Object;" } : Jvm.MethodName) jdk_65_method_119_code (2 : Nat) (Option.some (Jvm.ClassFile.FieldType.array (Jvm.ClassFile.FieldType.object "java/lang/Object"))), Jvm.Cond.code ({ cls := "java/util/Arrays", name := "copyOf", desc := "([Ljava/lang/Object;ILjava/lang/Class;)[Ljava/lang/Object;" } : Jvm.MethodName) jdk_65_method_120_code (4 : Nat) (Option.some (Jvm.ClassFile.FieldType.array (Jvm.ClassFile.FieldType.object "java/lang/Object"))), Jvm.Cond.code ({ cls := "java/lang/Math", name := "min", desc := "(II)I" } : Jvm.MethodName) jdk_29_method_69_code (2 : Nat) (Option.some Jvm.ClassFile.FieldType.int), Jvm.Cond.code ({ cls := "java/util/List", name := "of", desc := "([Ljava/lang/Object;)Ljava/util/List;" } : Jvm.MethodName) jdk_40_method_47_code (2 : Nat) (Option.some (Jvm.ClassFile.FieldType.object "java/util/List")), Jvm.Cond.code ({ cls := "java/util/ImmutableCollections$List12", name := "<init>", desc := "(Ljava/lang/Object;)V" } : Jvm.MethodName) jdk_44_method_1_code (2 : Nat) (Option.none : Option Jvm.ClassFile.FieldType), Jvm.Cond.code ({ cls := "java/util/ImmutableCollections$AbstractImmutableList", name := "<init>", desc := "()V" } : Jvm.MethodName) jdk_46_method_1_code (1 : Nat) (Option.none : Option Jvm.ClassFile.FieldType), Jvm.Cond.code ({ cls := "java/util/ImmutableCollections$AbstractImmutableCollection", name := "<init>", desc := "()V" } : Jvm.MethodName) jdk_47_method_1_code (1 : Nat) (Option.none : Option Jvm.ClassFile.FieldType), Jvm.Cond.code ({ cls := "java/util/Objects", name := "requireNonNull", desc := "(Ljava/lang/Object;)Ljava/lang/Object;" } : Jvm.MethodName) jdk_31_method_10_code (1 : Nat) (Option.some (Jvm.ClassFile.FieldType.object "java/lang/Object")), Jvm.Cond.code ({ cls := "java/util/ImmutableCollections", name := "listFromArray", desc := "([Ljava/lang/Object;)Ljava/util/List;" } : Jvm.MethodName) jdk_56_method_4_code (3 : Nat) (Option.some (Jvm.ClassFile.FieldType.object "java/util/List")), Jvm.Cond.code ({ cls := "java/util/ImmutableCollections$ListN", name := "<init>", desc := "([Ljava/lang/Object;Z)V" } : Jvm.MethodName) jdk_45_method_1_code (3 : Nat) (Option.none : Option Jvm.ClassFile.FieldType), Jvm.Cond.code ({ cls := "com/example/ninkasi/ninkasi/csv/CsvRecord", name := "get", desc := "(I)Ljava/lang/String;" } : Jvm.MethodName) prog_4_method_3_code (2 : Nat) (Option.some (Jvm.ClassFile.FieldType.object "java/lang/String")), Jvm.Cond.code ({ cls := "java/util/ImmutableCollections$List12", name := "get", desc := "(I)Ljava/lang/Object;" } : Jvm.MethodName) jdk_44_method_5_code (2 : Nat) (Option.some (Jvm.ClassFile.FieldType.object "java/lang/Object")), Jvm.Cond.code ({ cls := "java/lang/String", name := "equals", desc := "(Ljava/lang/Object;)Z" } : Jvm.MethodName) jdk_42_method_66_code (3 : Nat) (Option.some Jvm.ClassFile.FieldType.boolean), Jvm.Cond.code ({ cls := "java/util/ImmutableCollections$List12", name := "<init>", desc := "(Ljava/lang/Object;Ljava/lang/Object;)V" } : Jvm.MethodName) jdk_44_method_2_code (3 : Nat) (Option.none : Option Jvm.ClassFile.FieldType), Jvm.Cond.code ({ cls := "java/lang/String", name := "valueOf", desc := "(C)Ljava/lang/String;" } : Jvm.MethodName) jdk_42_method_139_code (1 : Nat) (Option.some (Jvm.ClassFile.FieldType.object "java/lang/String")), Jvm.Cond.code ({ cls := "java/lang/StringLatin1", name := "canEncode", desc := "(C)Z" } : Jvm.MethodName) jdk_43_method_3_code (1 : Nat) (Option.some Jvm.ClassFile.FieldType.boolean), Jvm.Cond.code ({ cls := "java/lang/StringLatin1", name := "toBytes", desc := "(C)[B" } : Jvm.MethodName) jdk_43_method_46_code (1 : Nat) (Option.some (Jvm.ClassFile.FieldType.array Jvm.ClassFile.FieldType.byte)), Jvm.Cond.code ({ cls := "java/lang/String", name := "<init>", desc := "([BB)V" } : Jvm.MethodName) jdk_42_method_151_code (3 : Nat) (Option.none : Option Jvm.ClassFile.FieldType), Jvm.Cond.code ({ cls := "java/lang/StringUTF16", name := "compress", desc := "([CII)[B" } : Jvm.MethodName) jdk_52_method_16_code (6 : Nat) (Option.some (Jvm.ClassFile.FieldType.array Jvm.ClassFile.FieldType.byte)), Jvm.Cond.code ({ cls := "java/lang/StringUTF16", name := "compress", desc := "([CI[BII)I" } : Jvm.MethodName) jdk_52_method_21_code (7 : Nat) (Option.some Jvm.ClassFile.FieldType.int), Jvm.Cond.code ({ cls := "java/lang/StringUTF16", name := "coderFromArrayLen", desc := "([BI)B" } : Jvm.MethodName) jdk_52_method_15_code (2 : Nat) (Option.some Jvm.ClassFile.FieldType.byte), Jvm.Cond.code ({ cls := "java/util/ImmutableCollections$ListN", name := "get", desc := "(I)Ljava/lang/Object;" } : Jvm.MethodName) jdk_45_method_4_code (2 : Nat) (Option.some (Jvm.ClassFile.FieldType.object "java/lang/Object"))]
set_option maxRecDepth 65536 in
theorem codes_eq : words1.filter isCode = codes1 := rfl
theorem w_codes : ∀ c ∈ words1.filter isCode, c.before args0 about1 = true := by
  rw [codes_eq]
  intro c hc
  simp only [codes1, List.mem_cons, List.not_mem_nil, or_false] at hc
  rcases hc with rfl | rfl | rfl | rfl | rfl | rfl | rfl | rfl | rfl | rfl | rfl | rfl | rfl | rfl | rfl | rfl | rfl | rfl | rfl | rfl | rfl | rfl | rfl | rfl | rfl | rfl | rfl | rfl | rfl | rfl | rfl | rfl | rfl | rfl | rfl | rfl | rfl | rfl | rfl | rfl
  · exact w_c0
  · exact w_c1
  · exact w_c2
  · exact w_c3
  · exact w_c4
  · exact w_c5
  · exact w_c6
  · exact w_c7
  · exact w_c8
  · exact w_c9
  · exact w_c10
  · exact w_c11
  · exact w_c12
  · exact w_c13
  · exact w_c14
  · exact w_c15
  · exact w_c16
  · exact w_c17
  · exact w_c18
  · exact w_c19
  · exact w_c20
  · exact w_c21
  · exact w_c22
  · exact w_c23
  · exact w_c24
  · exact w_c25
  · exact w_c26
  · exact w_c27
  · exact w_c28
  · exact w_c29
  · exact w_c30
  · exact w_c31
  · exact w_c32
  · exact w_c33
  · exact w_c34
  · exact w_c35
  · exact w_c36
  · exact w_c37
  · exact w_c38
  · exact w_c39
set_option maxRecDepth 65536 in
theorem w_t1 : (words1.take 24).all (fun c => isCode c || c.before args0 about1) = true := by decide +kernel
set_option maxRecDepth 65536 in
theorem w_t2 : ((words1.drop 24).take 24).all (fun c => isCode c || c.before args0 about1) = true := by decide +kernel
set_option maxRecDepth 65536 in
theorem w_t3 : (((words1.drop 24).drop 24).take 24).all (fun c => isCode c || c.before args0 about1) = true := by decide +kernel
set_option maxRecDepth 65536 in
theorem w_t4 : ((((words1.drop 24).drop 24).drop 24).take 24).all (fun c => isCode c || c.before args0 about1) = true := by decide +kernel
set_option maxRecDepth 65536 in
theorem w_t5 : (((((words1.drop 24).drop 24).drop 24).drop 24).take 24).all (fun c => isCode c || c.before args0 about1) = true := by decide +kernel
set_option maxRecDepth 65536 in
theorem w_t6 : ((((((words1.drop 24).drop 24).drop 24).drop 24).drop 24).take 24).all (fun c => isCode c || c.before args0 about1) = true := by decide +kernel
set_option maxRecDepth 65536 in
theorem w_t7 : (((((((words1.drop 24).drop 24).drop 24).drop 24).drop 24).drop 24).take 24).all (fun c => isCode c || c.before args0 about1) = true := by decide +kernel
set_option maxRecDepth 65536 in
theorem w_t8 : ((((((((words1.drop 24).drop 24).drop 24).drop 24).drop 24).drop 24).drop 24).take 24).all (fun c => isCode c || c.before args0 about1) = true := by decide +kernel
set_option maxRecDepth 65536 in
theorem w_t9 : (((((((((words1.drop 24).drop 24).drop 24).drop 24).drop 24).drop 24).drop 24).drop 24).take 24).all (fun c => isCode c || c.before args0 about1) = true := by decide +kernel
set_option maxRecDepth 65536 in
theorem w_t10 : ((((((((((words1.drop 24).drop 24).drop 24).drop 24).drop 24).drop 24).drop 24).drop 24).drop 24).take 24).all (fun c => isCode c || c.before args0 about1) = true := by decide +kernel
set_option maxRecDepth 65536 in
theorem w_t11 : ((((((((((words1.drop 24).drop 24).drop 24).drop 24).drop 24).drop 24).drop 24).drop 24).drop 24).drop 24).all (fun c => isCode c || c.before args0 about1) = true := by decide +kernel
theorem w_tables : (allAtoms (Jvm.Cond.code x code maxLocals ret :: tables_1)).before args0 about1 = true := by
  rw [allAtoms_all]
  show words1.all (fun c => c.before args0 about1) = true
  refine all_split ?_ w_codes
  rw [← List.take_append_drop 24 words1, List.all_append, w_t1, ← List.take_append_drop 24 (words1.drop 24), List.all_append, w_t2, ← List.take_append_drop 24 ((words1.drop 24).drop 24), List.all_append, w_t3, ← List.take_append_drop 24 (((words1.drop 24).drop 24).drop 24), List.all_append, w_t4, ← List.take_append_drop 24 ((((words1.drop 24).drop 24).drop 24).drop 24), List.all_append, w_t5, ← List.take_append_drop 24 (((((words1.drop 24).drop 24).drop 24).drop 24).drop 24), List.all_append, w_t6, ← List.take_append_drop 24 ((((((words1.drop 24).drop 24).drop 24).drop 24).drop 24).drop 24), List.all_append, w_t7, ← List.take_append_drop 24 (((((((words1.drop 24).drop 24).drop 24).drop 24).drop 24).drop 24).drop 24), List.all_append, w_t8, ← List.take_append_drop 24 ((((((((words1.drop 24).drop 24).drop 24).drop 24).drop 24).drop 24).drop 24).drop 24), List.all_append, w_t9, ← List.take_append_drop 24 (((((((((words1.drop 24).drop 24).drop 24).drop 24).drop 24).drop 24).drop 24).drop 24).drop 24), List.all_append, w_t10, w_t11]
  rfl
set_option maxRecDepth 65536 in
theorem w_rest : rest_1_c.before args0 about1 = true := by decide +kernel
set_option maxRecDepth 65536 in
theorem w_case : (Jvm.Cond.and given_1 narrow_1).before args0 about1 = true := by decide +kernel
set_option maxRecDepth 65536 in
theorem w_consts : constsHeld consts_1 about1 := Jvm.Lit.constsHeldB_iff.mp (by decide +kernel)
theorem w_applies : (headSpec (Jvm.Cond.code x code maxLocals ret :: tables_1) room_1).applies x e0.platform about1 = true :=
  (Spec.applies_iff w_frames).mpr ⟨w_running, w_runnable, w_alone, w_named, w_hears, w_ripe, w_room, w_tables⟩
theorem atStart : AtStart classFile x code maxLocals ret World_1 tables_1 room_1 Calls_1 rest_1 Pre_1 launch0 p0 e0 about1 theMethod args0 below0 :=
  ⟨lists_1, trivial, launch0.admits_env _ _ _, launch0.least_env, fairChoices_fair.cas, fairChoices_fair.clock, w_frames, w_args, w_heap, w_applies, ⟨⟨35, k35, 4, by decide +kernel, rfl, rfl, _, rfl, rfl⟩, ⟨w_consts, trivial⟩⟩, w_rest, w_case⟩
end start1
theorem witness_1 : WitnessClaimed_1 := ⟨start1.p0, start1.e0, start1.about1, start1.theMethod, start1.args0, start1.below0, start1.atStart⟩
end Jvm.Pilot.@@N@@
