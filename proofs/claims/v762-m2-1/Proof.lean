import JvmDerived
import JvmDerived.Pilot.@@N@@Statement
import JvmDerived.Pilot.@@N@@Code
set_option linter.unusedVariables false
set_option linter.unusedSimpArgs false
namespace Jvm.RoadKit
open Sem ClassFile Op Lib Jvm.Stand Jvm.Free Jvm.LawKit
section New
variable {p : Program} {l : Launch} {e : Env} {R : Room} {s : State} {m : MethodId} {args : Array Value} {below : List Frame} {meth : Method} {c : Code} {T : State} {locs : List Loc} {cells slots : Nat}
theorem retI (X : Stand p l e R s m args below meth c T locs cells slots) (hx : p.tables.exec = Jvm.exec) {pc : Nat} {Ls : Array Slot} {z : Int32} {rest : List Value} (hret : meth.sig.returnType = some .int) (hd : decode c.code pc = .ok (.ireturn, 1)) {fs : List Frame}
    (hl : ∀ (f : JFrame) (acts : List Action), f.method = m → f.locked = none → f.entered = [] → (doReturn e (T.setTop f) acts (some (.int z))).1 = T.setFrames fs) : Steps p.tables e below (T.setTop (mkF m pc Ls (.int z :: rest))) (T.setFrames fs) := by
  have hm' : T.vm.method? m = some meth := X.method'
  have hn : narrow .int (.int z) = .int z := rfl
  show Steps p.tables e below (T.setTop { method := m, pc := pc, locals := Ls, stack := _ :: rest, locked := none }) _
  jvm_step X.here [X.here.top, hx, hd, hm', hret, hn]
  first | (intro acts; rw [hl _ acts rfl rfl rfl]) | rw [hl _ _ rfl rfl rfl]
  exact Steps.refl _
end New
end Jvm.RoadKit
/- laws to paste: Road.backV (cut by pick.py; bodies as the Statement names them) -/
namespace Jvm.Pilot.@@N@@
namespace StrChars
open Jvm Sem ClassFile Op Lib Jvm.Stand Jvm.Free.XT Jvm.Free.ALB Jvm.Free.JM Jvm.Free
open Jvm.Lib.Cold (StaticIs)
/-- a char array whose places are chars -/
def Ch (a : Addr) (A : Cell) (U : State) : Prop := Arr .char a A U ∧ Typed .char A
theorem Ch.mv {a : Addr} {A : Cell} {U U' : State} (h : Ch a A U) (hal : U.vm.Alike U'.vm) (hh : U'.heap = U.heap) : Ch a A U' := ⟨h.1.mv hal hh, h.2⟩
theorem Ch.keep {a : Addr} {A : Cell} {U U' : State} (h : Ch a A U) (hal : U.vm.Alike U'.vm) (hk : U'.heap[a]? = some A) : Ch a A U' := ⟨h.1.keep hal hk, h.2⟩
/-- what place i of a char[]'s cell holds -/
def cv (A : Cell) (i : Nat) : Int32 := match A.slots[i]? with | some (.int x) => x | _ => 0
theorem Ch.get {a : Addr} {A : Cell} {U : State} (h : Ch a A U) {i : Nat} (hi : i < A.slots.size) : A.slots[i]? = some (.int (cv A i)) := by
  have e := Array.getElem?_eq_getElem hi
  have f := h.2 i _ e
  unfold cv; rw [e]
  generalize A.slots[i] = v at f
  cases v <;> simp [fits] at f ⊢
/-- the byte that i2b leaves of a char -/
def lo8 (x : Int32) : Int32 := x.toInt8.toInt32
theorem fits_lo8 (y : Int32) : fits .byte (.int (lo8 y)) = true := by
  have h1 := y.toInt8.le_toInt
  have h2 := y.toInt8.toInt_lt
  simp only [lo8, fits, Bool.and_eq_true, decide_eq_true_eq, Int32.le_iff_toInt_le, Int8.toInt_toInt32, show (-128 : Int32).toInt = -128 from by decide, show (127 : Int32).toInt = 127 from by decide]
  omega
/-- A' is A but that each place j of lo .. hi - 1 holds f j -/
def Laid (A A' : Cell) (lo hi : Nat) (f : Nat → Value) : Prop := A'.cls = A.cls ∧ A'.vm = A.vm ∧ A'.slots.size = A.slots.size ∧ ∀ i, A'.slots[i]? = if lo ≤ i ∧ i < hi then some (f i) else A.slots[i]?
theorem Laid.zero (A : Cell) (lo : Nat) (f : Nat → Value) : Laid A A lo (lo + 0) f := ⟨rfl, rfl, rfl, fun i => by rw [if_neg (by omega)]⟩
theorem Laid.step {A Ak : Cell} {lo k : Nat} {f : Nat → Value} {v : Value} (h : Laid A Ak lo k f) (hlo : lo ≤ k) (hk : k < Ak.slots.size) (hv : v = f k) : Laid A (Ak.setSlot k v) lo (k + 1) f := by
  refine ⟨h.1, h.2.1, by simpa [Cell.setSlot] using h.2.2.1, fun i => ?_⟩
  by_cases e : k = i
  · subst e; rw [Cell.slots_setSlot_self v hk, if_pos (by omega), hv]
  · rw [Cell.slots_setSlot_ne v e, h.2.2.2 i]
    by_cases q : lo ≤ i ∧ i < k
    · rw [if_pos q, if_pos (by omega)]
    · rw [if_neg q, if_neg (by omega)]
def U16 : String := "java/lang/StringUTF16"
namespace Cmp5
def yN : MethodName := ⟨"java/lang/StringUTF16", "compress", "([CI[BII)I"⟩
abbrev yB : ByteArray := jdk_52_method_21_code
theorem d0 : decode yB 0 = .ok (.iconst 0, 1) := by decide +kernel
theorem d1 : decode yB 1 = .ok (.istore 5, 2) := by decide +kernel
theorem d3 : decode yB 3 = .ok (.iload 5, 2) := by decide +kernel
theorem d5 : decode yB 5 = .ok (.iload 4, 2) := by decide +kernel
theorem d7 : decode yB 7 = .ok (.if_icmp (.ge) 37, 3) := by decide +kernel
theorem d10 : decode yB 10 = .ok (.aload_n 0, 1) := by decide +kernel
theorem d11 : decode yB 11 = .ok (.iload_n 1, 1) := by decide +kernel
theorem d12 : decode yB 12 = .ok (.caload, 1) := by decide +kernel
theorem d13 : decode yB 13 = .ok (.istore 6, 2) := by decide +kernel
theorem d15 : decode yB 15 = .ok (.iload 6, 2) := by decide +kernel
theorem d17 : decode yB 17 = .ok (.sipush 255, 3) := by decide +kernel
theorem d20 : decode yB 20 = .ok (.if_icmp (.le) 6, 3) := by decide +kernel
theorem d26 : decode yB 26 = .ok (.aload_n 2, 1) := by decide +kernel
theorem d27 : decode yB 27 = .ok (.iload_n 3, 1) := by decide +kernel
theorem d28 : decode yB 28 = .ok (.iload 6, 2) := by decide +kernel
theorem d30 : decode yB 30 = .ok (.i2b, 1) := by decide +kernel
theorem d31 : decode yB 31 = .ok (.bastore, 1) := by decide +kernel
theorem d32 : decode yB 32 = .ok (.iinc 1 1, 3) := by decide +kernel
theorem d35 : decode yB 35 = .ok (.iinc 3 1, 3) := by decide +kernel
theorem d38 : decode yB 38 = .ok (.iinc 5 1, 3) := by decide +kernel
theorem d41 : decode yB 41 = .ok (.goto (-38), 3) := by decide +kernel
theorem d44 : decode yB 44 = .ok (.iload 4, 2) := by decide +kernel
theorem d46 : decode yB 46 = .ok (.ireturn, 1) := by decide +kernel
def site : List Cond := []
def tab : Cond := tabOf yN yB 7 (some .int) site
def P (b : Addr) (A : Cell) (d : Addr) (B : Cell) (o q len : Nat) (args : Array Value) (s : State) : Prop := args = #[.ref b, .int (Int32.ofNat o), .ref d, .int (Int32.ofNat q), .int (Int32.ofNat len)] ∧ Ch b A s ∧ Arr .byte d B s ∧ b ≠ d ∧ o + len ≤ A.slots.size ∧ q + len ≤ B.slots.size ∧ ∀ i, i < len → ¬ 255 < cv A (o + i)
def E (b : Addr) (A : Cell) (d : Addr) (B : Cell) (o q len : Nat) (r : Option Value) (s u : State) : Prop := r = some (.int (Int32.ofNat len)) ∧ ∃ B', Put d B' s u ∧ Laid B B' q (q + len) (fun j => Value.int (lo8 (cv A (o + (j - q)))))
/-- no char of the range above 255: len; the places written hold each char's low byte -/
theorem law (l : Launch) (b : Addr) (A : Cell) (d : Addr) (B : Cell) (o q len : Nat) : Law l yN 5 5 0 0 yB 7 (some .int) site (P b A d B o q len) (E b A d B o q len) (copyLocs d q len) 0 0 := by
  refine Law.of_walk (plainFor_of_name (by decide +kernel)) (by decide +kernel) (by decide +kernel) (by decide) (fun _ _ h => by rw [h.1]; rfl) (fun _ U U' hal hh h => ⟨h.1, h.2.1.mv hal hh, h.2.2.1.mv hal hh, h.2.2.2⟩) (fun r U U' V V' h1 hal h2 h => ⟨h.1, h.2.elim fun B' q => ⟨B', q.1.mv h1 h2, q.2⟩⟩) ?_
  intro p e s m args below meth c s₁ X0 hexec hbytes hml hret hlk hnm hown hh0 W hP
  obtain ⟨rfl, hA, hB, hne, l1, l2, hp⟩ := hP
  have c1 : Steps p.tables e below (s₁.setTop (entryFrame m #[.ref b, .int (Int32.ofNat o), .ref d, .int (Int32.ofNat q), .int (Int32.ofNat len)] 7)) (s₁.setTop (mkF m 0 #[.val (.ref b), .val (.int (Int32.ofNat o)), .val (.ref d), .val (.int (Int32.ofNat q)), .val (.int (Int32.ofNat len)), .unset, .unset] [])) := entry rfl
  have hA0 := hA.1.mv X0.warmed.alike hh0
  have hB0 := hB.mv X0.warmed.alike hh0
  have a31 := hA.1.2.2.2
  have c2 : Steps p.tables e below (s₁.setTop (entryFrame m #[.ref b, .int (Int32.ofNat o), .ref d, .int (Int32.ofNat q), .int (Int32.ofNat len)] 7)) (s₁.setTop (mkF m 3 #[.val (.ref b), .val (.int (Int32.ofNat o)), .val (.ref d), .val (.int (Int32.ofNat q)), .val (.int (Int32.ofNat len)), .val (.int 0), .unset] [])) := c1.trans (by
    refine iconstV X0.here hexec rfl 0 (hb hbytes d0) (by decide) ?_
    refine XS.istore X0.here hexec rfl (hb hbytes d1) rfl rfl ?_
    exact Steps.refl _)
  have loop : ∀ (r i : Nat), i + r = len → ∀ (z : Slot), (z = .unset ∨ ∃ w, z = .val w ∧ w.category = 1) → ∀ (Tl : State) (Bk : Cell), Stand p l e { frames := 0, locals := 0, cells := 0, slots := 0 } s m #[.ref b, .int (Int32.ofNat o), .ref d, .int (Int32.ofNat q), .int (Int32.ofNat len)] below meth c Tl ([] ++ copyLocs d q i) 0 0 → Put d Bk s₁ Tl → Laid B Bk q (q + i) (fun j => Value.int (lo8 (cv A (o + (j - q))))) →
      Steps p.tables e below (s₁.setTop (entryFrame m #[.ref b, .int (Int32.ofNat o), .ref d, .int (Int32.ofNat q), .int (Int32.ofNat len)] 7)) (Tl.setTop (mkF m 3 #[.val (.ref b), .val (.int (Int32.ofNat (o + i))), .val (.ref d), .val (.int (Int32.ofNat (q + i))), .val (.int (Int32.ofNat len)), .val (.int (Int32.ofNat i)), z] [])) → ∃ (T' : State) (B' : Cell) (z' : Slot), Stand p l e { frames := 0, locals := 0, cells := 0, slots := 0 } s m #[.ref b, .int (Int32.ofNat o), .ref d, .int (Int32.ofNat q), .int (Int32.ofNat len)] below meth c T' ([] ++ copyLocs d q len) 0 0 ∧ Put d B' s₁ T' ∧ Laid B B' q (q + len) (fun j => Value.int (lo8 (cv A (o + (j - q))))) ∧
      Steps p.tables e below (s₁.setTop (entryFrame m #[.ref b, .int (Int32.ofNat o), .ref d, .int (Int32.ofNat q), .int (Int32.ofNat len)] 7)) (T'.setTop (mkF m 3 #[.val (.ref b), .val (.int (Int32.ofNat (o + len))), .val (.ref d), .val (.int (Int32.ofNat (q + len))), .val (.int (Int32.ofNat len)), .val (.int (Int32.ofNat len)), z'] [])) := by
    intro r
    induction r with
    | zero =>
      intro i hi z hz Tl Bk Xl pl fl cl
      have hil : i = len := by omega
      rw [hil] at Xl fl cl
      exact ⟨Tl, Bk, z, Xl, pl, fl, cl⟩
    | succ r ih =>
      intro i hi z hz Tl Bk Xl pl fl cl
      have all := X0.warmed.alike.symm.trans Xl.warmed.alike
      have hAl := hA0.keep all (pl.other hne hA0.1)
      have hBk := hB0.like all pl.1 fl.1 fl.2.1 fl.2.2.1
      have hlt : q + i < Bk.slots.size := by rw [fl.2.2.1]; omega
      have c3 : Steps p.tables e below (s₁.setTop (entryFrame m #[.ref b, .int (Int32.ofNat o), .ref d, .int (Int32.ofNat q), .int (Int32.ofNat len)] 7)) (Tl.setTop (mkF m 12 #[.val (.ref b), .val (.int (Int32.ofNat (o + i))), .val (.ref d), .val (.int (Int32.ofNat (q + i))), .val (.int (Int32.ofNat len)), .val (.int (Int32.ofNat i)), z] [.int (Int32.ofNat (o + i)), .ref b])) := cl.trans (by
        refine XS.iload Xl.here hexec rfl (hb hbytes d3) rfl ?_
        refine XS.iload Xl.here hexec rfl (hb hbytes d5) rfl ?_
        refine XS.icmpNo Xl.here hexec rfl (hb hbytes d7) rfl (ii_ge_f (lt32 (by omega) (by omega))) ?_
        refine XS.aloadN Xl.here hexec rfl (hb hbytes d10) rfl rfl ?_
        refine XS.iloadN Xl.here hexec rfl (hb hbytes d11) rfl ?_
        exact Steps.refl _)
      have c4 : Steps p.tables e below (s₁.setTop (entryFrame m #[.ref b, .int (Int32.ofNat o), .ref d, .int (Int32.ofNat q), .int (Int32.ofNat len)] 7)) (Tl.setTop (mkF m 13 #[.val (.ref b), .val (.int (Int32.ofNat (o + i))), .val (.ref d), .val (.int (Int32.ofNat (q + i))), .val (.int (Int32.ofNat len)), .val (.int (Int32.ofNat i)), z] [.int (cv A (o + i))])) := c3.trans (by
        refine Xl.aget hexec hAl rfl (hA.get (i := o + i) (by omega)) rfl rfl (hb hbytes d12) ?_
        exact Steps.refl _)
      have c5 : Steps p.tables e below (s₁.setTop (entryFrame m #[.ref b, .int (Int32.ofNat o), .ref d, .int (Int32.ofNat q), .int (Int32.ofNat len)] 7)) (Tl.setTop (mkF m 15 #[.val (.ref b), .val (.int (Int32.ofNat (o + i))), .val (.ref d), .val (.int (Int32.ofNat (q + i))), .val (.int (Int32.ofNat len)), .val (.int (Int32.ofNat i)), .val (.int (cv A (o + i)))] [])) := c4.trans (by
        refine XS.istoreS Xl.here hexec rfl (hb hbytes d13) rfl rfl hz ?_
        exact Steps.refl _)
      have c6 : Steps p.tables e below (s₁.setTop (entryFrame m #[.ref b, .int (Int32.ofNat o), .ref d, .int (Int32.ofNat q), .int (Int32.ofNat len)] 7)) (Tl.setTop (mkF m 31 #[.val (.ref b), .val (.int (Int32.ofNat (o + i))), .val (.ref d), .val (.int (Int32.ofNat (q + i))), .val (.int (Int32.ofNat len)), .val (.int (Int32.ofNat i)), .val (.int (cv A (o + i)))] [.int (lo8 (cv A (o + i))), .int (Int32.ofNat (q + i)), .ref d])) := c5.trans (by
        refine XS.iload Xl.here hexec rfl (hb hbytes d15) rfl ?_
        refine sipushV Xl.here hexec rfl 255 (hb hbytes d17) (by decide) ?_
        refine XS.icmpYes Xl.here hexec rfl (pc0 := 20) rfl (hb hbytes d20) rfl (ii_le_t (hp i (by omega))) (by decide) rfl ?_
        refine XS.aloadN Xl.here hexec rfl (hb hbytes d26) rfl rfl ?_
        refine XS.iloadN Xl.here hexec rfl (hb hbytes d27) rfl ?_
        refine XS.iload Xl.here hexec rfl (hb hbytes d28) rfl ?_
        refine i2b Xl.here hexec rfl (hb hbytes d30) rfl ?_
        exact Steps.refl _)
      obtain ⟨T7, X7, p7, st7⟩ := Xl.aput hexec hBk rfl hlt rfl (fits_lo8 (cv A (o + i))) (g := (mkF m 31 #[.val (.ref b), .val (.int (Int32.ofNat (o + i))), .val (.ref d), .val (.int (Int32.ofNat (q + i))), .val (.int (Int32.ofNat len)), .val (.int (Int32.ofNat i)), .val (.int (cv A (o + i)))] [.int (lo8 (cv A (o + i))), .int (Int32.ofNat (q + i)), .ref d])) rfl (rest := []) rfl (hb hbytes d31)
      have c8 : Steps p.tables e below (s₁.setTop (entryFrame m #[.ref b, .int (Int32.ofNat o), .ref d, .int (Int32.ofNat q), .int (Int32.ofNat len)] 7)) (T7.setTop (mkF m 32 #[.val (.ref b), .val (.int (Int32.ofNat (o + i))), .val (.ref d), .val (.int (Int32.ofNat (q + i))), .val (.int (Int32.ofNat len)), .val (.int (Int32.ofNat i)), .val (.int (cv A (o + i)))] [])) := c6.trans (st7 _ (Steps.refl _))
      have c9 : Steps p.tables e below (s₁.setTop (entryFrame m #[.ref b, .int (Int32.ofNat o), .ref d, .int (Int32.ofNat q), .int (Int32.ofNat len)] 7)) (T7.setTop (mkF m 3 #[.val (.ref b), .val (.int (Int32.ofNat (o + i) + 1)), .val (.ref d), .val (.int (Int32.ofNat (q + i) + 1)), .val (.int (Int32.ofNat len)), .val (.int (Int32.ofNat i + 1)), .val (.int (cv A (o + i)))] [])) := c8.trans (by
        refine iincV X7.here hexec rfl 1 (hb hbytes d32) (by decide) rfl rfl ?_
        refine iincV X7.here hexec rfl 1 (hb hbytes d35) (by decide) rfl rfl ?_
        refine iincV X7.here hexec rfl 1 (hb hbytes d38) (by decide) rfl rfl ?_
        refine XS.goto X7.here hexec rfl (pc0 := 41) rfl (hb hbytes d41) (by decide) rfl ?_
        exact Steps.refl _)
      have c10 : Steps p.tables e below (s₁.setTop (entryFrame m #[.ref b, .int (Int32.ofNat o), .ref d, .int (Int32.ofNat q), .int (Int32.ofNat len)] 7)) (T7.setTop (mkF m 3 #[.val (.ref b), .val (.int (Int32.ofNat (o + (i + 1)))), .val (.ref d), .val (.int (Int32.ofNat (q + (i + 1)))), .val (.int (Int32.ofNat len)), .val (.int (Int32.ofNat (i + 1))), .val (.int (cv A (o + i)))] [])) := by
        have := c9
        rw [succ32, succ32, succ32] at this
        exact this
      exact ih (i + 1) (by omega) _ (Or.inr ⟨_, rfl, rfl⟩) T7 _ (by rw [copyLocs_step, ← List.append_assoc]; exact X7) (pl.trans p7) (fl.step (by omega) hlt (by simp)) c10
  obtain ⟨T9, B9, z9, X9, p9, f9, g9⟩ := loop len 0 (by omega) .unset (Or.inl rfl) s₁ B (by simpa [copyLocs] using X0) ⟨hB0.1, fun _ _ => rfl, rfl⟩ (Laid.zero _ _ _) c2
  have c11 : Steps p.tables e below (s₁.setTop (entryFrame m #[.ref b, .int (Int32.ofNat o), .ref d, .int (Int32.ofNat q), .int (Int32.ofNat len)] 7)) (T9.setTop (mkF m 46 #[.val (.ref b), .val (.int (Int32.ofNat (o + len))), .val (.ref d), .val (.int (Int32.ofNat (q + len))), .val (.int (Int32.ofNat len)), .val (.int (Int32.ofNat len)), z9] [.int (Int32.ofNat len)])) := g9.trans (by
    refine XS.iload X9.here hexec rfl (hb hbytes d3) rfl ?_
    refine XS.iload X9.here hexec rfl (hb hbytes d5) rfl ?_
    refine XS.icmpYes X9.here hexec rfl (pc0 := 7) rfl (hb hbytes d7) rfl (ii_ge_t (nlt32 (by omega) (Nat.le_refl _))) (by decide) rfl ?_
    refine XS.iload X9.here hexec rfl (hb hbytes d44) rfl ?_
    exact Steps.refl _)
  exact ⟨T9, some (.int (Int32.ofNat len)), _, _, _, X9, by simp, rfl, rfl, (fun h => by cases h), ⟨rfl, B9, p9.from hh0, f9⟩, fun fs hl => c11.trans (X9.ireturnOut hexec hret rfl (Or.inl rfl) (hb hbytes d46) hl)⟩
end Cmp5
namespace Cmp3
def yN : MethodName := ⟨"java/lang/StringUTF16", "compress", "([CII)[B"⟩
abbrev yB : ByteArray := jdk_52_method_16_code
theorem d0 : decode yB 0 = .ok (.iload_n 2, 1) := by decide +kernel
theorem d1 : decode yB 1 = .ok (.newarray .byte, 2) := by decide +kernel
theorem d3 : decode yB 3 = .ok (.astore_n 3, 1) := by decide +kernel
theorem d4 : decode yB 4 = .ok (.aload_n 0, 1) := by decide +kernel
theorem d5 : decode yB 5 = .ok (.iload_n 1, 1) := by decide +kernel
theorem d6 : decode yB 6 = .ok (.aload_n 3, 1) := by decide +kernel
theorem d7 : decode yB 7 = .ok (.iconst 0, 1) := by decide +kernel
theorem d8 : decode yB 8 = .ok (.iload_n 2, 1) := by decide +kernel
theorem d9 : decode yB 9 = .ok (.invokestatic 115, 3) := by decide +kernel
theorem d12 : decode yB 12 = .ok (.istore 4, 2) := by decide +kernel
theorem d14 : decode yB 14 = .ok (.iload 4, 2) := by decide +kernel
theorem d16 : decode yB 16 = .ok (.iload_n 2, 1) := by decide +kernel
theorem d17 : decode yB 17 = .ok (.if_icmp (.eq) 40, 3) := by decide +kernel
theorem d57 : decode yB 57 = .ok (.aload_n 3, 1) := by decide +kernel
theorem d58 : decode yB 58 = .ok (.areturn, 1) := by decide +kernel
def site : List Cond := [.arrayClass .byte, Cmp5.tab] ++ staticW U16 115 Cmp5.yN
def tab : Cond := tabOf yN yB 6 (some (.array .byte)) site
def P (b : Addr) (A : Cell) (o len : Nat) (args : Array Value) (s : State) : Prop := args = #[.ref b, .int (Int32.ofNat o), .int (Int32.ofNat len)] ∧ Ch b A s ∧ o + len ≤ A.slots.size ∧ len ≤ 536870912 ∧ ∀ i, i < len → ¬ 255 < cv A (o + i)
def E (b : Addr) (A : Cell) (o len : Nat) (r : Option Value) (s u : State) : Prop := NewArr .byte "[B" len (fun j => .int (lo8 (cv A (o + j)))) r s u ∧ u.heap.size = s.heap.size + 1
/-- no char of the range above 255: a new byte[] of their low bytes -/
theorem law (l : Launch) (b : Addr) (A : Cell) (o len : Nat) : Law l yN 3 3 1 18 yB 6 (some (.array .byte)) site (P b A o len) (E b A o len) [] 1 len := by
  refine Law.of_walk (plainFor_of_name (by decide +kernel)) (by decide +kernel) (by decide +kernel) (by decide) (fun _ _ h => by rw [h.1]; rfl) (fun _ U U' hal hh h => ⟨h.1, h.2.1.mv hal hh, h.2.2⟩) (fun r U U' V V' h1 hal h2 h => ⟨NewArr.mv r U U' V V' h1 hal h2 h.1, by rw [h1, h2]; exact h.2⟩) ?_
  intro p e s m args below meth c s₁ X0 hexec hbytes hml hret hlk hnm hown hh0 W hP
  obtain ⟨rfl, hA, l1, l2, hp⟩ := hP
  have a31 := hA.1.2.2.2
  have c1 : Steps p.tables e below (s₁.setTop (entryFrame m #[.ref b, .int (Int32.ofNat o), .int (Int32.ofNat len)] 6)) (s₁.setTop (mkF m 0 #[.val (.ref b), .val (.int (Int32.ofNat o)), .val (.int (Int32.ofNat len)), .unset, .unset, .unset] [])) := entry rfl
  have c2 : Steps p.tables e below (s₁.setTop (entryFrame m #[.ref b, .int (Int32.ofNat o), .int (Int32.ofNat len)] 6)) (s₁.setTop (mkF m 1 #[.val (.ref b), .val (.int (Int32.ofNat o)), .val (.int (Int32.ofNat len)), .unset, .unset, .unset] [.int (Int32.ofNat len)])) := c1.trans (by
    refine XS.iloadN X0.here hexec rfl (hb hbytes d0) rfl ?_
    exact Steps.refl _)
  obtain ⟨T3, B3, X3, ba3, bs3, bv3, bh3, bf3, st3⟩ := X0.anew hexec (atype := .byte) (wk W (.arrayClass .byte)) rfl (by show len * 1 ≤ _; omega) (by omega) (g := (mkF m 1 #[.val (.ref b), .val (.int (Int32.ofNat o)), .val (.int (Int32.ofNat len)), .unset, .unset, .unset] [.int (Int32.ofNat len)])) rfl (hb hbytes d1) (rest := []) rfl (Nat.le_refl _) (by show 0 + len ≤ len; omega)
  rw [hh0] at ba3 st3
  have kp3 : XT.Kept s T3 := (XT.Kept.of_eq hh0).push bh3
  have hA3 := hA.keep X3.warmed.alike (kp3 _ _ hA.1.1)
  have hne : b ≠ s.heap.size := hA.1.ne
  have c4 : Steps p.tables e below (s₁.setTop (entryFrame m #[.ref b, .int (Int32.ofNat o), .int (Int32.ofNat len)] 6)) (T3.setTop (mkF m 3 #[.val (.ref b), .val (.int (Int32.ofNat o)), .val (.int (Int32.ofNat len)), .unset, .unset, .unset] [.ref s.heap.size])) := c2.trans (st3 _ (Steps.refl _))
  have c5 : Steps p.tables e below (s₁.setTop (entryFrame m #[.ref b, .int (Int32.ofNat o), .int (Int32.ofNat len)] 6)) (T3.setTop (mkF m 9 #[.val (.ref b), .val (.int (Int32.ofNat o)), .val (.int (Int32.ofNat len)), .val (.ref s.heap.size), .unset, .unset] [.int (Int32.ofNat len), .int 0, .ref s.heap.size, .int (Int32.ofNat o), .ref b])) := c4.trans (by
    refine XS.astoreN X3.here hexec rfl (hb hbytes d3) rfl rfl rfl ?_
    refine XS.aloadN X3.here hexec rfl (hb hbytes d4) rfl rfl ?_
    refine XS.iloadN X3.here hexec rfl (hb hbytes d5) rfl ?_
    refine XS.aloadN X3.here hexec rfl (hb hbytes d6) rfl rfl ?_
    refine iconstV X3.here hexec rfl 0 (hb hbytes d7) (by decide) ?_
    refine XS.iloadN X3.here hexec rfl (hb hbytes d8) rfl ?_
    exact Steps.refl _)
  obtain ⟨v6, T6, X6, E6, g6⟩ := X3.callS hexec (Cmp5.law l b A s.heap.size B3 o 0 len) hown (wks W (staticW U16 115 Cmp5.yN)) (wk W Cmp5.tab) (W := 0) (Nat.le_of_ble_eq_true rfl) (Nat.le_of_ble_eq_true rfl) (Nat.le_refl _) (by show 0 + len + 0 ≤ len; omega) (g := (mkF m 9 #[.val (.ref b), .val (.int (Int32.ofNat o)), .val (.int (Int32.ofNat len)), .val (.ref s.heap.size), .unset, .unset] [.int (Int32.ofNat len), .int (Int32.ofNat 0), .ref s.heap.size, .int (Int32.ofNat o), .ref b])) rfl (by rw [hml]; rfl) c5 (argsL := [.ref b, .int (Int32.ofNat o), .ref s.heap.size, .int (Int32.ofNat 0), .int (Int32.ofNat len)]) (rest := []) rfl rfl (by show 2 * 0 + 0 ≤ _; decide) (hb hbytes d9) (⟨rfl, hA3, ba3, hne, l1, by rw [bs3]; simp, hp⟩)
  obtain ⟨rfl, B6, p6, f6⟩ := E6
  have c7 : Steps p.tables e below (s₁.setTop (entryFrame m #[.ref b, .int (Int32.ofNat o), .int (Int32.ofNat len)] 6)) (T6.setTop (mkF m 12 #[.val (.ref b), .val (.int (Int32.ofNat o)), .val (.int (Int32.ofNat len)), .val (.ref s.heap.size), .unset, .unset] [.int (Int32.ofNat len)])) := g6
  have c8 : Steps p.tables e below (s₁.setTop (entryFrame m #[.ref b, .int (Int32.ofNat o), .int (Int32.ofNat len)] 6)) (T6.setTop (mkF m 58 #[.val (.ref b), .val (.int (Int32.ofNat o)), .val (.int (Int32.ofNat len)), .val (.ref s.heap.size), .val (.int (Int32.ofNat len)), .unset] [.ref s.heap.size])) := c7.trans (by
    refine XS.istore X6.here hexec rfl (hb hbytes d12) rfl rfl ?_
    refine XS.iload X6.here hexec rfl (hb hbytes d14) rfl ?_
    refine XS.iloadN X6.here hexec rfl (hb hbytes d16) rfl ?_
    refine XS.icmpYes X6.here hexec rfl (pc0 := 17) rfl (hb hbytes d17) rfl (ii_eq_t rfl) (by decide) rfl ?_
    refine XS.aloadN X6.here hexec rfl (hb hbytes d57) rfl rfl ?_
    exact Steps.refl _)
  have X8 := X6.wide (L' := []) (cells' := 1) (slots' := len) (fun x hx hlt => by
    simp only [List.nil_append, copyLocs, List.mem_map, List.mem_range] at hx
    obtain ⟨i, -, rfl⟩ := hx
    exact absurd hlt (Nat.lt_irrefl _)) (Nat.le_refl _) (by omega)
  exact ⟨T6, some (.ref s.heap.size), _, _, _, X8, rfl, rfl, rfl, (fun h => by cases h), ⟨⟨rfl, B6, ba3.like (X3.warmed.alike.symm.trans X6.warmed.alike) p6.1 f6.1 f6.2.1 f6.2.2.1, f6.2.1.trans bv3, by rw [X6.warmed.alike.findClass, f6.1]; exact bf3, by rw [f6.2.2.1, bs3]; simp, fun j hj => by rw [f6.2.2.2 j, if_pos (by omega)]; rfl, kp3.put p6 (Nat.le_refl _)⟩, by rw [p6.2.2, bh3, hh0]; simp⟩, fun fs hl => c8.trans (X8.areturnOut hexec rfl hret rfl (hb hbytes d58) hl)⟩
end Cmp3
namespace CodL
def yN : MethodName := ⟨"java/lang/StringUTF16", "coderFromArrayLen", "([BI)B"⟩
abbrev yB : ByteArray := jdk_52_method_15_code
theorem d0 : decode yB 0 = .ok (.iload_n 1, 1) := by decide +kernel
theorem d1 : decode yB 1 = .ok (.aload_n 0, 1) := by decide +kernel
theorem d2 : decode yB 2 = .ok (.arraylength, 1) := by decide +kernel
theorem d3 : decode yB 3 = .ok (.isub, 1) := by decide +kernel
theorem d4 : decode yB 4 = .ok (.bipush 31, 2) := by decide +kernel
theorem d6 : decode yB 6 = .ok (.iushr, 1) := by decide +kernel
theorem d7 : decode yB 7 = .ok (.i2b, 1) := by decide +kernel
theorem d8 : decode yB 8 = .ok (.ireturn, 1) := by decide +kernel
def site : List Cond := []
def tab : Cond := tabOf yN yB 2 (some .byte) site
def P (d : Addr) (B : Cell) (args : Array Value) (s : State) : Prop := args = #[.ref d, .int (Int32.ofNat B.slots.size)] ∧ Arr .byte d B s
def E (r : Option Value) (s u : State) : Prop := XT.PureE (some (.int 0)) r s u
/-- an array as long as the number of chars: LATIN1 -/
theorem law (l : Launch) (d : Addr) (B : Cell) : Law l yN 2 2 0 0 yB 2 (some .byte) site (P d B) E [] 0 0 := by
  refine Law.of_walk (plainFor_of_name (by decide +kernel)) (by decide +kernel) (by decide +kernel) (by decide) (fun _ _ h => by rw [h.1]; rfl) (fun _ U U' hal hh h => ⟨h.1, h.2.mv hal hh⟩) (fun r U U' V V' h1 hal h2 h => XT.PureE.mv r U U' V V' h1 hal h2 h) ?_
  intro p e s m args below meth c s₁ X0 hexec hbytes hml hret hlk hnm hown hh0 W hP
  obtain ⟨rfl, hB⟩ := hP
  have hB0 := hB.mv X0.warmed.alike hh0
  have c1 : Steps p.tables e below (s₁.setTop (entryFrame m #[.ref d, .int (Int32.ofNat B.slots.size)] 2)) (s₁.setTop (mkF m 0 #[.val (.ref d), .val (.int (Int32.ofNat B.slots.size))] [])) := entry rfl
  have c2 : Steps p.tables e below (s₁.setTop (entryFrame m #[.ref d, .int (Int32.ofNat B.slots.size)] 2)) (s₁.setTop (mkF m 2 #[.val (.ref d), .val (.int (Int32.ofNat B.slots.size))] [.ref d, .int (Int32.ofNat B.slots.size)])) := c1.trans (by
    refine XS.iloadN X0.here hexec rfl (hb hbytes d0) rfl ?_
    refine XS.aloadN X0.here hexec rfl (hb hbytes d1) rfl rfl ?_
    exact Steps.refl _)
  have c3 : Steps p.tables e below (s₁.setTop (entryFrame m #[.ref d, .int (Int32.ofNat B.slots.size)] 2)) (s₁.setTop (mkF m 8 #[.val (.ref d), .val (.int (Int32.ofNat B.slots.size))] [.int (lo8 (ushr (Int32.ofNat B.slots.size - Int32.ofNat B.slots.size) 31))])) := c2.trans (by
    refine X0.alen hexec hB0 rfl rfl (hb hbytes d2) ?_
    refine XS.isub X0.here hexec rfl (hb hbytes d3) rfl ?_
    refine bipushV X0.here hexec rfl 31 (hb hbytes d4) (by decide) ?_
    refine iushr X0.here hexec rfl (hb hbytes d6) rfl ?_
    refine i2b X0.here hexec rfl (hb hbytes d7) rfl ?_
    exact Steps.refl _)
  have e0 : lo8 (ushr (Int32.ofNat B.slots.size - Int32.ofNat B.slots.size) 31) = 0 := by rw [Int32.sub_self]; decide
  rw [e0] at c3
  exact ⟨s₁, some (.int 0), _, _, _, X0, rfl, rfl, rfl, (fun h => by cases h), ⟨rfl, hh0⟩, fun fs hl => c3.trans (X0.ireturnOut hexec hret rfl (Or.inr (Or.inr (Or.inl rfl))) (hb hbytes d8) hl)⟩
end CodL
/-- the String at a is Latin-1 over a new byte[] (the heap's one new cell): the low bytes of the len chars of A from o on; every cell but a is kept -/
def Got (a : Addr) (D : Cell) (fV fC : Field) (A : Cell) (o len : Nat) (r : Option Value) (s u : State) : Prop := r = none ∧ ∃ D' V : Cell, Blank "java/lang/String" a D' u ∧ Same D D' [fV.slot, fC.slot] ∧ D'.slots[fV.slot]? = some (.ref s.heap.size) ∧ D'.slots[fC.slot]? = some (.int 0) ∧ Arr .byte s.heap.size V u ∧ V.vm = .none ∧ u.vm.findClass "[B" = some V.cls ∧ V.slots.size = len ∧ (∀ j, j < len → V.slots[j]? = some (.int (lo8 (cv A (o + j))))) ∧ (∀ (y : Addr) (c : Cell), y ≠ a → s.heap[y]? = some c → u.heap[y]? = some c) ∧ u.heap.size = s.heap.size + 1
theorem Got.mv {a : Addr} {D A : Cell} {fV fC : Field} {o len : Nat} : ∀ r (U U' V V' : State), U'.heap = U.heap → V.vm.Alike V'.vm → V'.heap = V.heap → Got a D fV fC A o len r U V → Got a D fV fC A o len r U' V' :=
  fun r U U' V V' h1 hal h2 ⟨e0, D', X, a1, a2, a3, a4, a5, a6, a7, a8, a9, a10, a11⟩ => ⟨e0, D', X, a1.mv hal h2, a2, by rw [h1]; exact a3, a4, by rw [h1]; exact a5.mv hal h2, a6, by rw [hal.findClass]; exact a7, a8, a9, by rw [h1, h2]; exact a10, by rw [h1, h2]; exact a11⟩
namespace New4
def yN : MethodName := ⟨"java/lang/String", "<init>", "([CIILjava/lang/Void;)V"⟩
abbrev yB : ByteArray := jdk_42_method_149_code
theorem d0 : decode yB 0 = .ok (.aload_n 0, 1) := by decide +kernel
theorem d1 : decode yB 1 = .ok (.invokespecial 1, 3) := by decide +kernel
theorem d4 : decode yB 4 = .ok (.iload_n 3, 1) := by decide +kernel
theorem d5 : decode yB 5 = .ok (.ifCond (.ne) 22, 3) := by decide +kernel
theorem d27 : decode yB 27 = .ok (.getstatic 38, 3) := by decide +kernel
theorem d30 : decode yB 30 = .ok (.ifCond (.eq) 28, 3) := by decide +kernel
theorem d33 : decode yB 33 = .ok (.aload_n 1, 1) := by decide +kernel
theorem d34 : decode yB 34 = .ok (.iload_n 2, 1) := by decide +kernel
theorem d35 : decode yB 35 = .ok (.iload_n 3, 1) := by decide +kernel
theorem d36 : decode yB 36 = .ok (.invokestatic 177, 3) := by decide +kernel
theorem d39 : decode yB 39 = .ok (.astore 5, 2) := by decide +kernel
theorem d41 : decode yB 41 = .ok (.aload_n 0, 1) := by decide +kernel
theorem d42 : decode yB 42 = .ok (.aload 5, 2) := by decide +kernel
theorem d44 : decode yB 44 = .ok (.iload_n 3, 1) := by decide +kernel
theorem d45 : decode yB 45 = .ok (.invokestatic 47, 3) := by decide +kernel
theorem d48 : decode yB 48 = .ok (.putfield 15, 3) := by decide +kernel
theorem d51 : decode yB 51 = .ok (.aload_n 0, 1) := by decide +kernel
theorem d52 : decode yB 52 = .ok (.aload 5, 2) := by decide +kernel
theorem d54 : decode yB 54 = .ok (.putfield 9, 3) := by decide +kernel
theorem d57 : decode yB 57 = .ok (.return_, 1) := by decide +kernel
def site : List Cond := [.fieldLink "java/lang/String" 38 "java/lang/String" "COMPACT_STRINGS" "Z", Cmp3.tab, CodL.tab, .laysFinal "java/lang/String" "java/lang/String" "value" "[B", .fieldLink "java/lang/String" 9 "java/lang/String" "value" "[B", .laysFinal "java/lang/String" "java/lang/String" "coder" "B", .fieldLink "java/lang/String" 15 "java/lang/String" "coder" "B"] ++ objW "java/lang/String" 1 ++ staticW "java/lang/String" 177 Cmp3.yN ++ staticW "java/lang/String" 47 CodL.yN
def tab : Cond := tabOf yN yB 6 none site
def P (a : Addr) (D : Cell) (fV fC : Field) (b : Addr) (A : Cell) (z : Int32) (o len : Nat) (args : Array Value) (s : State) : Prop := args = #[.ref a, .ref b, .int (Int32.ofNat o), .int (Int32.ofNat len), .null] ∧ Blank "java/lang/String" a D s ∧ Found "java/lang/String" "value" "[B" fV s ∧ Found "java/lang/String" "coder" "B" fC s ∧ Ch b A s ∧ StaticIs s "java/lang/String" "COMPACT_STRINGS" "Z" (.int z) ∧ ¬ z = 0 ∧ 0 < len ∧ o + len ≤ A.slots.size ∧ len ≤ 536870912 ∧ ∀ i, i < len → ¬ 255 < cv A (o + i)
def E (a : Addr) (D : Cell) (fV fC : Field) (A : Cell) (o len : Nat) (r : Option Value) (s u : State) : Prop := Got a D fV fC A o len r s u
/-- len > 0, no char of the range above 255: a Latin-1 String of their low bytes -/
theorem law (l : Launch) (a : Addr) (D : Cell) (fV fC : Field) (b : Addr) (A : Cell) (z : Int32) (o len : Nat) : Law l yN 5 4 2 35 yB 6 none site (P a D fV fC b A z o len) (E a D fV fC A o len) [⟨a, fC.slot⟩, ⟨a, fV.slot⟩] 1 len := by
  refine Law.of_walk (plainFor_of_name (by decide +kernel)) (by decide +kernel) (by decide +kernel) (by decide) (fun _ _ h => by rw [h.1]; rfl) (fun _ U U' hal hh h => ⟨h.1, h.2.1.mv hal hh, h.2.2.1.al hal, h.2.2.2.1.al hal, h.2.2.2.2.1.mv hal hh, h.2.2.2.2.2.1.there hal hh, h.2.2.2.2.2.2⟩) (fun r U U' V V' h1 hal h2 h => Got.mv r U U' V V' h1 hal h2 h) ?_
  intro p e s m args below meth c s₁ X0 hexec hbytes hml hret hlk hnm hown hh0 W hP
  obtain ⟨rfl, hB, f1, f2, hA, s1, hz, l0, l1, l2, hp⟩ := hP
  have a31 := hA.1.2.2.2
  have c1 : Steps p.tables e below (s₁.setTop (entryFrame m #[.ref a, .ref b, .int (Int32.ofNat o), .int (Int32.ofNat len), .null] 6)) (s₁.setTop (mkF m 0 #[.val (.ref a), .val (.ref b), .val (.int (Int32.ofNat o)), .val (.int (Int32.ofNat len)), .val .null, .unset] [])) := entry rfl
  have c2 : Steps p.tables e below (s₁.setTop (entryFrame m #[.ref a, .ref b, .int (Int32.ofNat o), .int (Int32.ofNat len), .null] 6)) (s₁.setTop (mkF m 1 #[.val (.ref a), .val (.ref b), .val (.int (Int32.ofNat o)), .val (.int (Int32.ofNat len)), .val .null, .unset] [.ref a])) := c1.trans (by
    refine XS.aloadN X0.here hexec rfl (hb hbytes d0) rfl rfl ?_
    exact Steps.refl _)
  obtain ⟨T3, X3, q3, st3⟩ := X0.oinit hexec hown (wks W (objW "java/lang/String" 1)) (g := (mkF m 1 #[.val (.ref a), .val (.ref b), .val (.int (Int32.ofNat o)), .val (.int (Int32.ofNat len)), .val .null, .unset] [.ref a])) rfl (by rw [hml]; rfl) (rest := []) rfl (hb hbytes d1) (W := 0) (by show 2 * 0 + 0 ≤ _; decide) (Nat.le_of_ble_eq_true rfl) (Nat.le_of_ble_eq_true rfl)
  have hh3 := q3.trans hh0
  have c4 : Steps p.tables e below (s₁.setTop (entryFrame m #[.ref a, .ref b, .int (Int32.ofNat o), .int (Int32.ofNat len), .null] 6)) (T3.setTop (mkF m 27 #[.val (.ref a), .val (.ref b), .val (.int (Int32.ofNat o)), .val (.int (Int32.ofNat len)), .val .null, .unset] [])) := (c2.trans (st3 _ (Steps.refl _))).trans (by
    refine XS.iloadN X3.here hexec rfl (hb hbytes d4) rfl ?_
    refine XS.ifYes X3.here hexec rfl (pc0 := 5) rfl (hb hbytes d5) rfl (i0_ne_t (nz32 (by omega) l0)) (by decide) rfl ?_
    exact Steps.refl _)
  obtain ⟨T5, X5, q5, st5⟩ := X3.sget hexec hown (wk W (.fieldLink "java/lang/String" 38 "java/lang/String" "COMPACT_STRINGS" "Z")) s1 (fun _ _ h => by rw [hh3]; exact h) (g := (mkF m 27 #[.val (.ref a), .val (.ref b), .val (.int (Int32.ofNat o)), .val (.int (Int32.ofNat len)), .val .null, .unset] [])) rfl (hb hbytes d27)
  have hh5 := q5.trans hh3
  have c6 : Steps p.tables e below (s₁.setTop (entryFrame m #[.ref a, .ref b, .int (Int32.ofNat o), .int (Int32.ofNat len), .null] 6)) (T5.setTop (mkF m 30 #[.val (.ref a), .val (.ref b), .val (.int (Int32.ofNat o)), .val (.int (Int32.ofNat len)), .val .null, .unset] [.int z])) := c4.trans (st5 _ (Steps.refl _))
  have c7 : Steps p.tables e below (s₁.setTop (entryFrame m #[.ref a, .ref b, .int (Int32.ofNat o), .int (Int32.ofNat len), .null] 6)) (T5.setTop (mkF m 36 #[.val (.ref a), .val (.ref b), .val (.int (Int32.ofNat o)), .val (.int (Int32.ofNat len)), .val .null, .unset] [.int (Int32.ofNat len), .int (Int32.ofNat o), .ref b])) := c6.trans (by
    refine XS.ifNo X5.here hexec rfl (hb hbytes d30) rfl (i0_eq_f hz) ?_
    refine XS.aloadN X5.here hexec rfl (hb hbytes d33) rfl rfl ?_
    refine XS.iloadN X5.here hexec rfl (hb hbytes d34) rfl ?_
    refine XS.iloadN X5.here hexec rfl (hb hbytes d35) rfl ?_
    exact Steps.refl _)
  obtain ⟨v8, T8, X8, E8, g8⟩ := X5.callS hexec (Cmp3.law l b A o len) hown (wks W (staticW "java/lang/String" 177 Cmp3.yN)) (wk W Cmp3.tab) (W := 0) (Nat.le_of_ble_eq_true rfl) (Nat.le_of_ble_eq_true rfl) (Nat.le_refl _) (by show 0 + len ≤ len; omega) (g := (mkF m 36 #[.val (.ref a), .val (.ref b), .val (.int (Int32.ofNat o)), .val (.int (Int32.ofNat len)), .val .null, .unset] [.int (Int32.ofNat len), .int (Int32.ofNat o), .ref b])) rfl (by rw [hml]; rfl) c7 (argsL := [.ref b, .int (Int32.ofNat o), .int (Int32.ofNat len)]) (rest := []) rfl rfl (by show 2 * 0 + 0 ≤ _; decide) (hb hbytes d36) (⟨rfl, hA.mv X5.warmed.alike hh5, l1, l2, hp⟩)
  obtain ⟨e8, z8⟩ := E8
  obtain ⟨rfl, N, n1, n2, n3, n4, n5, n6⟩ := NewArr.mv _ T5 s _ _ hh5.symm (Vm.Alike.refl _) rfl e8
  rw [hh5] at z8
  have hB1 := hB.keep X8.warmed.alike (n6 _ _ hB.1)
  have hne : s.heap.size ≠ a := (Nat.ne_of_lt (Array.getElem?_eq_some_iff.mp hB.1).1).symm
  have c9 : Steps p.tables e below (s₁.setTop (entryFrame m #[.ref a, .ref b, .int (Int32.ofNat o), .int (Int32.ofNat len), .null] 6)) (T8.setTop (mkF m 39 #[.val (.ref a), .val (.ref b), .val (.int (Int32.ofNat o)), .val (.int (Int32.ofNat len)), .val .null, .unset] [.ref s.heap.size])) := g8
  have c10 : Steps p.tables e below (s₁.setTop (entryFrame m #[.ref a, .ref b, .int (Int32.ofNat o), .int (Int32.ofNat len), .null] 6)) (T8.setTop (mkF m 45 #[.val (.ref a), .val (.ref b), .val (.int (Int32.ofNat o)), .val (.int (Int32.ofNat len)), .val .null, .val (.ref s.heap.size)] [.int (Int32.ofNat N.slots.size), .ref s.heap.size, .ref a])) := by
    have hc : Steps p.tables e below (s₁.setTop (entryFrame m #[.ref a, .ref b, .int (Int32.ofNat o), .int (Int32.ofNat len), .null] 6)) (T8.setTop (mkF m 45 #[.val (.ref a), .val (.ref b), .val (.int (Int32.ofNat o)), .val (.int (Int32.ofNat len)), .val .null, .val (.ref s.heap.size)] [.int (Int32.ofNat len), .ref s.heap.size, .ref a])) := c9.trans (by
      refine XS.astore X8.here hexec rfl (hb hbytes d39) rfl rfl rfl ?_
      refine XS.aloadN X8.here hexec rfl (hb hbytes d41) rfl rfl ?_
      refine XS.aload X8.here hexec rfl (hb hbytes d42) rfl rfl ?_
      refine XS.iloadN X8.here hexec rfl (hb hbytes d44) rfl ?_
      exact Steps.refl _)
    rw [n4]; exact hc
  obtain ⟨v11, T11, X11, E11, g11⟩ := X8.callS hexec (CodL.law l s.heap.size N) hown (wks W (staticW "java/lang/String" 47 CodL.yN)) (wk W CodL.tab) (W := 1) (Nat.le_of_ble_eq_true rfl) (Nat.le_of_ble_eq_true rfl) (Nat.le_refl _) (by show 0 + len + 0 ≤ len; omega) (g := (mkF m 45 #[.val (.ref a), .val (.ref b), .val (.int (Int32.ofNat o)), .val (.int (Int32.ofNat len)), .val .null, .val (.ref s.heap.size)] [.int (Int32.ofNat N.slots.size), .ref s.heap.size, .ref a])) rfl (by rw [hml]; rfl) c10 (argsL := [.ref s.heap.size, .int (Int32.ofNat N.slots.size)]) (rest := [.ref a]) rfl rfl (by show 2 * 0 + (1 + 0) ≤ _; decide) (hb hbytes d45) (⟨rfl, n1⟩)
  obtain ⟨rfl, q11⟩ := E11
  have hB11 := hB1.mv (X8.warmed.alike.symm.trans X11.warmed.alike) q11
  have c12 : Steps p.tables e below (s₁.setTop (entryFrame m #[.ref a, .ref b, .int (Int32.ofNat o), .int (Int32.ofNat len), .null] 6)) (T11.setTop (mkF m 48 #[.val (.ref a), .val (.ref b), .val (.int (Int32.ofNat o)), .val (.int (Int32.ofNat len)), .val .null, .val (.ref s.heap.size)] [.int 0, .ref a])) := g11
  obtain ⟨T13, X13, p13, bl13, sl13, st13⟩ := X11.finit hexec hown (wk W (.fieldLink "java/lang/String" 15 "java/lang/String" "coder" "B")) (Or.inr ⟨_, (wk W (.laysFinal "java/lang/String" "java/lang/String" "coder" "B"))⟩) (Or.inl ⟨rfl, hnm⟩) f2 (Or.inl rfl) hB11 (t := .byte) (by decide +kernel) rfl (g := (mkF m 48 #[.val (.ref a), .val (.ref b), .val (.int (Int32.ofNat o)), .val (.int (Int32.ofNat len)), .val .null, .val (.ref s.heap.size)] [.int 0, .ref a])) rfl (rest := []) rfl (hb hbytes d48)
  have c14 : Steps p.tables e below (s₁.setTop (entryFrame m #[.ref a, .ref b, .int (Int32.ofNat o), .int (Int32.ofNat len), .null] 6)) (T13.setTop (mkF m 54 #[.val (.ref a), .val (.ref b), .val (.int (Int32.ofNat o)), .val (.int (Int32.ofNat len)), .val .null, .val (.ref s.heap.size)] [.ref s.heap.size, .ref a])) := (c12.trans (st13 _ (Steps.refl _))).trans (by
    refine XS.aloadN X13.here hexec rfl (hb hbytes d51) rfl rfl ?_
    refine XS.aload X13.here hexec rfl (hb hbytes d52) rfl rfl ?_
    exact Steps.refl _)
  obtain ⟨T15, X15, p15, bl15, sl15, st15⟩ := X13.finit hexec hown (wk W (.fieldLink "java/lang/String" 9 "java/lang/String" "value" "[B")) (Or.inr ⟨_, (wk W (.laysFinal "java/lang/String" "java/lang/String" "value" "[B"))⟩) (Or.inl ⟨rfl, hnm⟩) f1 (Or.inl rfl) bl13 (t := (.array .byte)) (by decide +kernel) rfl (g := (mkF m 54 #[.val (.ref a), .val (.ref b), .val (.int (Int32.ofNat o)), .val (.int (Int32.ofNat len)), .val .null, .val (.ref s.heap.size)] [.ref s.heap.size, .ref a])) rfl (rest := []) rfl (hb hbytes d54)
  have c16 : Steps p.tables e below (s₁.setTop (entryFrame m #[.ref a, .ref b, .int (Int32.ofNat o), .int (Int32.ofNat len), .null] 6)) (T15.setTop (mkF m 57 #[.val (.ref a), .val (.ref b), .val (.int (Int32.ofNat o)), .val (.int (Int32.ofNat len)), .val .null, .val (.ref s.heap.size)] [])) := c14.trans (st15 _ (Steps.refl _))
  have ap := apart (Or.inr ⟨_, (wk W (.laysFinal "java/lang/String" "java/lang/String" "value" "[B"))⟩) (Or.inr ⟨_, (wk W (.laysFinal "java/lang/String" "java/lang/String" "coder" "B"))⟩) f1 f2 (t₁ := .array .byte) (t₂ := .byte) (by decide +kernel) (by decide +kernel) (by decide)
  have al := X8.warmed.alike.symm.trans X15.warmed.alike
  have n7 : T11.heap[s.heap.size]? = some N := by rw [q11]; exact n1.1
  exact ⟨T15, none, _, _, _, X15, by simp, rfl, by omega, (fun _ => rfl), ⟨rfl, _, N, bl15, ((Same.refl D _).set _ (by simp)).set _ (by simp), sl15, (Cell.slots_setSlot_ne _ ap).trans sl13, n1.keep al (p15.other hne (p13.other hne n7)), n2, by rw [al.findClass]; exact n3, n4, n5, fun y c h1 h2 => p15.other h1 (p13.other h1 (by rw [q11]; exact n6 y c h2)), by rw [p15.2.2, p13.2.2, q11]; exact z8⟩, fun fs hl => c16.trans (X15.returnOut hexec hret (hb hbytes d57) hl)⟩
end New4
namespace New1
def yN : MethodName := ⟨"java/lang/String", "<init>", "([C)V"⟩
abbrev yB : ByteArray := jdk_42_method_3_code
theorem d0 : decode yB 0 = .ok (.aload_n 0, 1) := by decide +kernel
theorem d1 : decode yB 1 = .ok (.aload_n 1, 1) := by decide +kernel
theorem d2 : decode yB 2 = .ok (.iconst 0, 1) := by decide +kernel
theorem d3 : decode yB 3 = .ok (.aload_n 1, 1) := by decide +kernel
theorem d4 : decode yB 4 = .ok (.arraylength, 1) := by decide +kernel
theorem d5 : decode yB 5 = .ok (.aconst_null, 1) := by decide +kernel
theorem d6 : decode yB 6 = .ok (.invokespecial 27, 3) := by decide +kernel
theorem d9 : decode yB 9 = .ok (.return_, 1) := by decide +kernel
def site : List Cond := [New4.tab] ++ initW "java/lang/String" 27 New4.yN
def tab : Cond := tabOf yN yB 2 none site
def P (a : Addr) (D : Cell) (fV fC : Field) (b : Addr) (A : Cell) (z : Int32) (args : Array Value) (s : State) : Prop := args = #[.ref a, .ref b] ∧ Blank "java/lang/String" a D s ∧ Found "java/lang/String" "value" "[B" fV s ∧ Found "java/lang/String" "coder" "B" fC s ∧ Ch b A s ∧ StaticIs s "java/lang/String" "COMPACT_STRINGS" "Z" (.int z) ∧ ¬ z = 0 ∧ 0 < A.slots.size ∧ A.slots.size ≤ 536870912 ∧ ∀ i, i < A.slots.size → ¬ 255 < cv A i
def E (a : Addr) (D : Cell) (fV fC : Field) (A : Cell) (r : Option Value) (s u : State) : Prop := Got a D fV fC A 0 A.slots.size r s u
/-- new String(chars), not empty, no char above 255: a Latin-1 String of their low bytes -/
theorem law (l : Launch) (a : Addr) (D : Cell) (fV fC : Field) (b : Addr) (A : Cell) (z : Int32) : Law l yN 2 1 3 52 yB 2 none site (P a D fV fC b A z) (E a D fV fC A) [⟨a, fC.slot⟩, ⟨a, fV.slot⟩] 1 A.slots.size := by
  refine Law.of_walk (plainFor_of_name (by decide +kernel)) (by decide +kernel) (by decide +kernel) (by decide) (fun _ _ h => by rw [h.1]; rfl) (fun _ U U' hal hh h => ⟨h.1, h.2.1.mv hal hh, h.2.2.1.al hal, h.2.2.2.1.al hal, h.2.2.2.2.1.mv hal hh, h.2.2.2.2.2.1.there hal hh, h.2.2.2.2.2.2⟩) (fun r U U' V V' h1 hal h2 h => Got.mv r U U' V V' h1 hal h2 h) ?_
  intro p e s m args below meth c s₁ X0 hexec hbytes hml hret hlk hnm hown hh0 W hP
  obtain ⟨rfl, hB, f1, f2, hA, s1, hz, l0, l2, hp⟩ := hP
  have c1 : Steps p.tables e below (s₁.setTop (entryFrame m #[.ref a, .ref b] 2)) (s₁.setTop (mkF m 0 #[.val (.ref a), .val (.ref b)] [])) := entry rfl
  have c2 : Steps p.tables e below (s₁.setTop (entryFrame m #[.ref a, .ref b] 2)) (s₁.setTop (mkF m 6 #[.val (.ref a), .val (.ref b)] [.null, .int (Int32.ofNat A.slots.size), .int 0, .ref b, .ref a])) := c1.trans (by
    refine XS.aloadN X0.here hexec rfl (hb hbytes d0) rfl rfl ?_
    refine XS.aloadN X0.here hexec rfl (hb hbytes d1) rfl rfl ?_
    refine iconstV X0.here hexec rfl 0 (hb hbytes d2) (by decide) ?_
    refine XS.aloadN X0.here hexec rfl (hb hbytes d3) rfl rfl ?_
    refine X0.alen hexec (hA.1.mv X0.warmed.alike hh0) rfl rfl (hb hbytes d4) ?_
    refine XS.aconstNull X0.here hexec rfl (hb hbytes d5) ?_
    exact Steps.refl _)
  obtain ⟨v3, T3, X3, E3, g3⟩ := X0.callN hexec (New4.law l a D fV fC b A z 0 A.slots.size) rfl hown (wks W (initW "java/lang/String" 27 New4.yN)) (W New4.tab (by simp only [site, List.mem_cons, List.mem_append, true_or, or_true])) (W := 0) (Nat.le_of_ble_eq_true rfl) (Nat.le_of_ble_eq_true rfl) (Nat.le_refl _) (by show 0 + A.slots.size ≤ A.slots.size; omega) (g := (mkF m 6 #[.val (.ref a), .val (.ref b)] [.null, .int (Int32.ofNat A.slots.size), .int (Int32.ofNat 0), .ref b, .ref a])) rfl (by rw [hml]; rfl) c2 (argsL := [.ref b, .int (Int32.ofNat 0), .int (Int32.ofNat A.slots.size), .null]) (rest := []) rfl rfl (by show 2 * 0 + 0 ≤ _; decide) (hb hbytes d6) (⟨rfl, hB.mv X0.warmed.alike hh0, f1.al X0.warmed.alike, f2.al X0.warmed.alike, hA.mv X0.warmed.alike hh0, s1.there X0.warmed.alike hh0, hz, l0, by omega, l2, fun i hi => by rw [Nat.zero_add]; exact hp i hi⟩)
  have e0 := Got.mv _ s₁ s _ _ hh0.symm (Vm.Alike.refl _) rfl E3
  obtain rfl := e0.1
  have c4 : Steps p.tables e below (s₁.setTop (entryFrame m #[.ref a, .ref b] 2)) (T3.setTop (mkF m 9 #[.val (.ref a), .val (.ref b)] [])) := g3
  exact ⟨T3, none, _, _, _, X3, by simp, rfl, by omega, (fun _ => rfl), e0, fun fs hl => c4.trans (X3.returnOut hexec hret (hb hbytes d9) hl)⟩
theorem pays {l : Launch} {R : Room} {p : Program} {e : Env} {below : List Frame} {s : State} {sargs : Array Value} {len W : Nat} (a : Addr) (D : Cell) (fV fC : Field) (b : Addr) (A : Cell) (z : Int32) (htab : tab.before sargs s = true) (hfr : 4 ≤ R.frames) (hlo : W + 65 ≤ R.locals) :
    Back l R p e below s sargs yN len W (fun A₁ a₁ => A₁.cells + 1 ≤ R.cells ∧ A₁.slots + A.slots.size ≤ R.slots ∧ P a D fV fC b A z a₁ A₁.U) (fun A₁ _ v₁ B₁ => E a D fV fC A v₁ A₁.U B₁.U ∧ B₁.locs = A₁.locs ++ [⟨a, fC.slot⟩, ⟨a, fV.slot⟩] ∧ B₁.cells = A₁.cells + 1 ∧ B₁.slots = A₁.slots + A.slots.size) :=
  (law l a D fV fC b A z).pays htab hfr (by omega)
end New1
end StrChars
namespace StrChars.Road
open Jvm Sem ClassFile Op Lib Jvm.Stand Jvm.Free Jvm.Free.XT
open Jvm.Lib.Cold (StaticIs)
abbrev ST : String := "java/lang/String"
/-- every table word that New1's law asks, flat -/
abbrev words : List Jvm.Cond := [.code New1.yN New1.yB 2 none, .initialized ST, .methodLink ST 27 New4.yN, .instanceMethod New4.yN,
  .code New4.yN New4.yB 6 none, .fieldLink ST 38 ST "COMPACT_STRINGS" "Z", .laysFinal ST ST "value" "[B", .fieldLink ST 9 ST "value" "[B", .laysFinal ST ST "coder" "B", .fieldLink ST 15 ST "coder" "B",
  .methodLink ST 1 Lib.objectInit, .instanceMethod Lib.objectInit, .code Lib.objectInit ⟨#[0xb1]⟩ 1 none, .methodLink ST 177 Cmp3.yN, .static Cmp3.yN, .methodLink ST 47 CodL.yN, .static CodL.yN,
  .code Cmp3.yN Cmp3.yB 6 (some (.array .byte)), .initialized U16, .arrayClass .byte, .methodLink U16 115 Cmp5.yN, .static Cmp5.yN, .code Cmp5.yN Cmp5.yB 7 (some .int), .code CodL.yN CodL.yB 2 (some .byte)]
theorem tab_of {a : Array Value} {s : State} (h : ∀ w ∈ words, w.before a s = true) : New1.tab.before a s = true := by
  have h5 : Cmp5.tab.before a s = true := unparts (wk h (.code Cmp5.yN Cmp5.yB 7 (some .int))) (wks h (.initialized Cmp5.yN.cls :: Cmp5.site))
  have hc : CodL.tab.before a s = true := unparts (wk h (.code CodL.yN CodL.yB 2 (some .byte))) (wks h (.initialized CodL.yN.cls :: CodL.site))
  have q5 : ∀ w ∈ Cmp5.tab :: words, w.before a s = true := fun w hw => (List.mem_cons.mp hw).elim (fun e => e ▸ h5) (h w)
  have h3 : Cmp3.tab.before a s = true := unparts (wk q5 (.code Cmp3.yN Cmp3.yB 6 (some (.array .byte)))) (wks q5 (.initialized Cmp3.yN.cls :: Cmp3.site))
  have q3 : ∀ w ∈ Cmp3.tab :: CodL.tab :: words, w.before a s = true := fun w hw => (List.mem_cons.mp hw).elim (fun e => e ▸ h3) fun hw => (List.mem_cons.mp hw).elim (fun e => e ▸ hc) (h w)
  have h4 : New4.tab.before a s = true := unparts (wk q3 (.code New4.yN New4.yB 6 none)) (wks q3 (.initialized New4.yN.cls :: New4.site))
  have q4 : ∀ w ∈ New4.tab :: words, w.before a s = true := fun w hw => (List.mem_cons.mp hw).elim (fun e => e ▸ h4) (h w)
  exact unparts (wk q4 (.code New1.yN New1.yB 2 none)) (wks q4 (.initialized New1.yN.cls :: New1.site))
/-- the words ride from the start Z to the walk's own state -/
theorem moved {Z s : State} {a0 args : Array Value} (hZ : Z.Warmed39 s.vm) (hw : ∀ d ∈ words, d.before a0 Z = true) : ∀ d ∈ words, d.before args s = true := fun d hd => by
  have q := hw d hd
  have t : ∀ d ∈ words, d = .arrayClass .byte ∨ (d.onTables && d.keepsFace) = true := by decide +kernel
  rcases t d hd with rfl | t
  · exact RoadKit.mvA hZ q
  · exact RoadKit.mv hZ q t
/-- WHAT COMES BACK, over the tables of the start Z: h the heap at the call, h' behind it -/
def Q (Z : State) (x : Addr) (A : Cell) (h : Heap) (v : Option Value) (h' : Heap) (L : List Loc) : Prop := v = none ∧ (∀ y ∈ L, y.base = x) ∧ RoadKit.Keep h h' [x] ∧ h'.size = h.size + 1 ∧ RoadKit.Exa Z h' x ST ∧ RoadKit.Fld Z h' x ST "value" "[B" (.ref h.size) ∧ RoadKit.Fld Z h' x ST "coder" "B" (.int 0) ∧
  (∃ V : Cell, RoadKit.Arr Z h' h.size V .byte ∧ V.vm = .none ∧ Z.vm.findClass "[B" = some V.cls ∧ V.slots.size = A.slots.size ∧ ∀ j, j < A.slots.size → V.slots[j]? = some (.int (lo8 (cv A j)))) ∧
  ∀ (O n d : String) (w : Value), RoadKit.Fld Z h x O n d w → RoadKit.slotOf Z O n d ≠ RoadKit.slotOf Z ST "value" "[B" → RoadKit.slotOf Z O n d ≠ RoadKit.slotOf Z ST "coder" "B" → RoadKit.Fld Z h' x O n d w
/-- **new String(chars) AT A CALL, IN THE ROAD'S FORM**: for specialBack behind newO: x the fresh String, b the char[] with the cell A -/
theorem back {p : Program} {l : Launch} {e : Env} {R : Room} {s : State} {args : Array Value} {below : List Frame} {len W : Nat} {Z : State} {a0 : Array Value} {h : Heap} (hZ : Z.Warmed39 s.vm) (hw : ∀ d ∈ words, d.before a0 Z = true) {kI : Nat} (wi : (Jvm.Cond.instantiable ST kI).before a0 Z = true)
    {x b : Addr} {A : Cell} {z : Int32} {v0 c0 : Value} (E : RoadKit.Exa Z h x ST) (V : RoadKit.Fld Z h x ST "value" "[B" v0) (C : RoadKit.Fld Z h x ST "coder" "B" c0) (K : RoadKit.Arr Z h b A .char) (hty : Typed .char A) (S : RoadKit.Sta Z h ST "COMPACT_STRINGS" "Z" (.int z)) (hz : ¬ z = 0)
    (l0 : 0 < A.slots.size) (l2 : A.slots.size ≤ 536870912) (hp : ∀ i, i < A.slots.size → ¬ 255 < cv A i) (hfr : 4 ≤ R.frames) (hlo : W + 65 ≤ R.locals) :
    Back l R p e below s args New1.yN len W (fun P a => a = #[.ref x, .ref b] ∧ P.U.heap = h ∧ P.cells + 1 ≤ R.cells ∧ P.slots + A.slots.size ≤ R.slots)
      (fun P _ v B => ∃ L, Q Z x A h v B.U.heap L ∧ B.locs = P.locs ++ L ∧ B.cells = P.cells + 1 ∧ B.slots = P.slots + A.slots.size) := by
  intro m meth c P g ig mk a X hg hsize hdg hW hn hp'
  obtain ⟨rfl, rfl, r1, r2⟩ := hp'
  have al : Z.vm.Alike P.U.vm := hZ.alike.trans X.warmed.alike
  obtain ⟨D, cfV, kV, iV, fV, hD, gV, stV, knV, obV, asV, slV⟩ := id V
  obtain ⟨D', cfC, kC, iC, fC, hD', gC, stC, -, -, asC, slC⟩ := id C
  cases hD.symm.trans hD'
  obtain ⟨D2, kD, e1, e2, e3, e4, e5⟩ := id E
  cases hD.symm.trans e1
  obtain ⟨c2, k2, i1, i2, i3, -⟩ := Cond.instantiable_spec wi
  cases e2.symm.trans i1
  cases e3.symm.trans i2
  obtain ⟨kU, u1, u2⟩ := al.2.2 _ _ e3
  have hB : Blank ST x D P.U := ⟨hD, ⟨knV, fun q hq => by rw [hq] at obV; cases obV⟩, by rw [al.findClass]; exact e2, kU, u1, by rw [u2]; exact i3, by rw [u2]; exact e5 i3⟩
  have F1 : Found ST "value" "[B" fV P.U := ⟨SBG.found_only al ⟨cfV, kV, iV, gV⟩, stV⟩
  have F2 : Found ST "coder" "B" fC P.U := ⟨SBG.found_only al ⟨cfC, kC, iC, gC⟩, stC⟩
  have hA : Ch b A P.U := ⟨⟨K.1, State.isArrayOf_alike al K.2.1, K.2.2, by omega⟩, hty⟩
  have hS : StaticIs P.U ST "COMPACT_STRINGS" "Z" (.int z) := by
    obtain ⟨cfS, iS, kS, fS, st, cS, t1, t2, t3, t4, t5, t6, t7⟩ := S
    exact StaticIs.there (s := { Z with heap := P.U.heap }) ⟨cfS, iS, kS, fS, st, cS, t1, t2, t3, t4, t5, (fun q => by rw [q] at t6; cases t6), t7⟩ al rfl
  obtain ⟨v, B, X', ⟨⟨hv, E', V', q1, q2, q3, q4, q5, q6, q7, q8, q9, q10, q11⟩, hl, hc, hs⟩, st⟩ := New1.pays x D fV fC b A z (tab_of (moved hZ hw)) hfr hlo m meth c P g ig mk _ X hg hsize hdg hW hn ⟨r1, r2, rfl, hB, F1, F2, hA, hS, hz, l0, l2, hp⟩
  have al' : Z.vm.Alike B.U.vm := hZ.alike.trans X'.warmed.alike
  have hsz : E'.slots.size = D.slots.size := by
    obtain ⟨-, -, -, kB, w1, w2, w3⟩ := q1
    obtain ⟨kB', y1, y2⟩ := al'.2.2 _ _ e3
    rw [q2.2.1] at w1
    cases w1.symm.trans y1
    rw [w3, e5 i3, y2]
  refine ⟨v, B, X', ⟨_, ⟨hv, ?_, ⟨by omega, fun y cy hy hn' => q10 y cy (by simpa using hn') hy, fun y cy hy => ?_⟩, q11, ⟨E', _, q1.1, by rw [q2.2.1]; exact e2, by rw [q2.2.1]; exact e3, by rw [q2.1]; exact obV, fun _ => by rw [hsz]; exact e5 i3⟩,
    ⟨E', cfV, kV, iV, fV, q1.1, gV, stV, by rw [q2.1]; exact knV, by rw [q2.1]; exact obV, by rw [q2.2.1]; exact asV, q3⟩, ⟨E', cfC, kC, iC, fC, q1.1, gC, stC, by rw [q2.1]; exact knV, by rw [q2.1]; exact obV, by rw [q2.2.1]; exact asC, q4⟩,
    ⟨V', ⟨q5.1, State.isArrayOf_alike al'.symm q5.2.1, q5.2.2.1⟩, q6, by rw [← al'.findClass]; exact q7, q8, fun j hj => by have := q9 j hj; rwa [Nat.zero_add] at this⟩, fun O n d w F n1 n2 => ?_⟩, hl, hc, hs⟩, st⟩
  · intro y hy
    simp only [List.mem_cons, List.not_mem_nil, or_false] at hy
    rcases hy with rfl | rfl <;> rfl
  · by_cases q : y = x
    · subst q
      cases hD.symm.trans hy
      exact ⟨E', q1.1, q2.2.1, q2.1, hsz⟩
    · exact ⟨cy, q10 y cy q hy, rfl, rfl, rfl⟩
  · obtain ⟨D3, cf, k, i, f, g1, g2, g3, g4, g5, g6, g7⟩ := F
    cases hD.symm.trans g1
    simp only [RoadKit.slotOf, g2, gV, gC, Option.map_some, Option.getD_some] at n1 n2
    exact ⟨E', cf, k, i, f, q1.1, g2, g3, by rw [q2.1]; exact g4, by rw [q2.1]; exact g5, by rw [q2.2.1]; exact g6, by rw [q2.2.2 f.slot (by simp [n1, n2])]; exact g7⟩
end StrChars.Road
namespace StrChars.Road
open Jvm Sem ClassFile Op Lib Jvm.Stand Jvm.Free Jvm.Free.XT
/-- WHAT COMES BACK, the byte[] as a list of values -/
def QA (Z : State) (x : Addr) (zn : Int32) (cs : List Int32) (h : Heap) (v : Option Value) (h' : Heap) (L : List Loc) : Prop := v = none ∧ (∀ y ∈ L, y.base = x) ∧ RoadKit.Keep h h' [x] ∧ h'.size = h.size + 1 ∧ RoadKit.Exa Z h' x ST ∧ RoadKit.Fld Z h' x ST "value" "[B" (.ref h.size) ∧ RoadKit.Fld Z h' x ST "coder" "B" (.int 0) ∧
  (∃ kb, Z.vm.findClass "[B" = some kb ∧ RoadKit.Arv Z h' h.size kb .byte zn (cs.map fun c => .int (lo8 c)) (.int 0)) ∧
  ∀ (O n d : String) (w : Value), RoadKit.Fld Z h x O n d w → RoadKit.slotOf Z O n d ≠ RoadKit.slotOf Z ST "value" "[B" → RoadKit.slotOf Z O n d ≠ RoadKit.slotOf Z ST "coder" "B" → RoadKit.Fld Z h' x O n d w
/-- **new String(chars) AT A CALL, THE ARRAYS AS LISTS**: the char[] at b holds cs, not empty, no char above 255 -/
theorem backArv {p : Program} {l : Launch} {e : Env} {R : Room} {s : State} {args : Array Value} {below : List Frame} {len W : Nat} {Z : State} {a0 : Array Value} {h : Heap} (hZ : Z.Warmed39 s.vm) (hw : ∀ d ∈ words, d.before a0 Z = true) {kI : Nat} (wi : (Jvm.Cond.instantiable ST kI).before a0 Z = true)
    {x b : Addr} {k : ClassId} {zn z : Int32} {cs : List Int32} {dv v0 c0 : Value} (E : RoadKit.Exa Z h x ST) (V : RoadKit.Fld Z h x ST "value" "[B" v0) (C : RoadKit.Fld Z h x ST "coder" "B" c0) (K : RoadKit.Arv Z h b k .char zn (cs.map Value.int) dv) (S : RoadKit.Sta Z h ST "COMPACT_STRINGS" "Z" (.int z)) (hz : ¬ z = 0)
    (hlen : zn.toNatClampNeg = cs.length) (h0 : 0 < cs.length) (hbig : cs.length ≤ 536870912) (hall : ∀ c ∈ cs, ¬ 255 < c) (hfr : 4 ≤ R.frames) (hlo : W + 65 ≤ R.locals) :
    Back l R p e below s args New1.yN len W (fun P a => a = #[.ref x, .ref b] ∧ P.U.heap = h ∧ P.cells + 1 ≤ R.cells ∧ P.slots + cs.length ≤ R.slots)
      (fun P _ v B => ∃ L, QA Z x zn cs h v B.U.heap L ∧ B.locs = P.locs ++ L ∧ B.cells = P.cells + 1 ∧ B.slots = P.slots + cs.length) := by
  obtain ⟨A, K1, K2, K3, K4, K5, K6⟩ := K
  have e : A.slots.size = cs.length := K3.trans hlen
  have hat : ∀ (i : Nat) (hi : i < cs.length), A.slots[i]? = some (.int cs[i]) := fun i hi => by rw [K5 i (by omega)]; simp [List.getD_eq_getElem?_getD, hi]
  have hcv : ∀ (i : Nat) (hi : i < cs.length), cv A i = cs[i] := fun i hi => by unfold cv; rw [hat i hi]
  have hty : Typed .char A := fun i v hv => by
    have hi : i < A.slots.size := (Array.getElem?_eq_some_iff.mp hv).1
    have q := K5 i hi
    rw [hv] at q
    rw [Option.some.inj q]
    exact K6 i hi
  refine Back.mono (back hZ hw wi E V C K1 hty S hz (by omega) (by omega) (fun i hi => by rw [hcv i (by omega)]; exact hall _ (List.getElem_mem _)) hfr hlo) (fun P a hp => ⟨hp.1, hp.2.1, hp.2.2.1, by rw [e]; exact hp.2.2.2⟩) (fun P a v B hp hq => ?_)
  obtain ⟨L, ⟨q1, q2, q3, q4, q5, q6, q7, ⟨V', v1, v2, v3, v4, v5⟩, q9⟩, hl, hc, hs⟩ := hq
  refine ⟨L, ⟨q1, q2, q3, q4, q5, q6, q7, ⟨V'.cls, v3, V', v1, rfl, by rw [v4, e, hlen], K4, fun i hi => ?_, fun i hi => ?_⟩, q9⟩, hl, hc, by rw [hs, e]⟩
  · have hi' : i < cs.length := by omega
    rw [v5 i (by omega), hcv i hi']; simp [List.getD_eq_getElem?_getD, hi']
  · have hi' : i < cs.length := by omega
    simp only [List.getD_eq_getElem?_getD, List.getElem?_map, List.getElem?_eq_getElem hi', Option.map_some, Option.getD_some]
    exact fits_lo8 _
end StrChars.Road
namespace StrChars.Road
open Jvm Sem ClassFile Op Lib Jvm.Stand Jvm.Free Jvm.Free.XT
/-- WHAT COMES BACK, in the writer's own shape -/
def QV (Z : State) (x : Addr) (N : Int32) (bs : List Int32) (h : Heap) (n0 : Nat) (v : Option Value) (h' : Heap) (L : List Loc) : Prop := v = none ∧ RoadKit.Fr n0 L ∧ RoadKit.Keep h h' [x] ∧ RoadKit.Exa Z h' x ST ∧ RoadKit.Fld Z h' x ST "coder" "B" (.int 0) ∧
  ∃ (t : Addr) (kb : ClassId), n0 ≤ t ∧ h.size ≤ t ∧ ¬ t = x ∧ RoadKit.Fld Z h' x ST "value" "[B" (.ref t) ∧ RoadKit.Arv Z h' t kb .byte N (bs.map Value.int) (.int 0)
/-- **new String(chars) AT A CALL, FOR THE WRITER**: a char[] of n known ints, each 0 to 255 -/
theorem backV {p : Program} {l : Launch} {e : Env} {R : Room} {s : State} {args : Array Value} {below : List Frame} {len W : Nat} {Z : State} {a0 : Array Value} {h : Heap} (hZ : Z.Warmed39 s.vm) (hw : ∀ d ∈ words, d.before a0 Z = true) {kI : Nat} (wi : (Jvm.Cond.instantiable ST kI).before a0 Z = true)
    {x b : Addr} {kC : ClassId} {cs bs : List Int32} {d v0 c0 : Value} {z N : Int32} {n n0 : Nat} (hx0 : n0 ≤ x) (hh0 : n0 ≤ h.size) (E : RoadKit.Exa Z h x ST) (V : RoadKit.Fld Z h x ST "value" "[B" v0) (C : RoadKit.Fld Z h x ST "coder" "B" c0) (K : RoadKit.Arv Z h b kC .char N (cs.map Value.int) d) (S : RoadKit.Sta Z h ST "COMPACT_STRINGS" "Z" (.int z)) (hz : ¬ z = 0)
    (hn : cs.length = n) (hN : N = Int32.ofNat n) (l0 : 0 < n) (l2 : n ≤ 4000) (hp : ∀ c ∈ cs, ¬ c < 0 ∧ ¬ (255 : Int32) < c) (hb : bs = cs.map (fun c => c.toInt8.toInt32)) (hfr : 4 ≤ R.frames) (hlo : W + 65 ≤ R.locals) :
    Back l R p e below s args (⟨"java/lang/String", "<init>", "([C)V"⟩ : MethodName) len W (fun P a => a = #[.ref x, .ref b] ∧ P.U.heap = h ∧ P.cells + 1 ≤ R.cells ∧ P.slots + n ≤ R.slots)
      (fun P _ v B => ∃ L, QV Z x N bs h n0 v B.U.heap L ∧ B.locs = P.locs ++ L ∧ B.cells = P.cells + 1 ∧ B.slots = P.slots + n) := by
  subst hn hN hb
  refine Back.mono (backArv hZ hw wi E V C K S hz (n32 (by omega)) l0 (by omega) (fun c hc => (hp c hc).2) hfr hlo) (fun P a hp => hp) (fun P a v B hp hq => ?_)
  obtain ⟨L, ⟨q1, q2, q3, q4, q5, q6, q7, ⟨kb, v1, v2⟩, q9⟩, hl, hc, hs⟩ := hq
  exact ⟨L, ⟨q1, fun y hy => by rw [q2 y hy]; exact hx0, q3, q5, q7, h.size, kb, hh0, Nat.le_refl _, Nat.ne_of_gt E.lt, q6, by rw [List.map_map]; exact v2⟩, hl, hc, hs⟩
end StrChars.Road
end Jvm.Pilot.@@N@@
namespace Jvm.Pilot.@@N@@
open Jvm Jvm.ClassFile Sem Op Lib Jvm.Free Jvm.Stand Jvm.LawKit Jvm.RoadKit Bundle Jvm.Pilot.@@N@@.Jvm.D
/-- from Y the run comes to an end of which Q tells -/
def own_G (FE : State → Outcome → State → List Loc → Nat → Nat → Prop) (p : Program) (e : Env) (below : List Frame) (s : State) (C S : Nat) (Q : Option Value → Heap → List Loc → Prop) (Y : State) : Prop :=
  ∃ s₂ o, Steps p.tables e below Y s₂ ∧ s₂.status = .running ∧ Ended s₂ below o ∧ ∃ v L, o = .returned v ∧ Q v s₂.heap L ∧ FE s o s₂ L C S
theorem own_go {FE : State → Outcome → State → List Loc → Nat → Nat → Prop} {p : Program} {e : Env} {below : List Frame} {s : State} {C S : Nat} {Q : Option Value → Heap → List Loc → Prop} {Y Y' : State} (k : own_G FE p e below s C S Q Y') (h : ∀ target, Steps p.tables e below Y' target → Steps p.tables e below Y target) : own_G FE p e below s C S Q Y :=
  let ⟨s₂, o, h1, r⟩ := k; ⟨s₂, o, h _ h1, r⟩
theorem own_eqint {args : Array Value} {s : State} {t : Term} {k : Int32} (h : (Jvm.Cond.eq t (.int k)).value args s none s [] = some true) : t.eval args s none [] s = some (.int k) := by
  simp only [Cond.value, Term.eval] at h
  cases ht : t.eval args s none [] s with
  | none => simp [ht] at h
  | some x => cases x <;> simp [ht] at h ⊢; exact h
theorem own_empty {args : Array Value} {s : State} {t : Term} {a : Addr} {cl : Cell} {ty : FieldType} (hf : Fit s) (ev : t.eval args s none [] s = some (.ref a)) (A : Arr s s.heap a cl ty) (h : (Jvm.Cond.eq (.length t) (.int 0)).value args s none s [] = some true) : Arv s s.heap a cl.cls ty (0 : Int32) [] .null := by
  have hl := own_eqint h
  have ha : s.arrayAt? a = some cl := Arr.fin (Vm.Alike.refl _) A
  have q : cl.slots.size < 2 ^ 31 ∧ cl.slots.size.toInt32 = 0 := by
    simp only [Term.eval, ev, Option.bind_eq_bind, Option.bind_some, ha] at hl
    split at hl
    · rename_i hn
      exact ⟨hn, by simpa using hl⟩
    · cases hl
  exact Arv.start hf A q.1 q.2 (by decide) rfl trivial
theorem own_char (x : Int32) : ¬ nar .char ((x &&& (255 : Int32)).toUInt32.toUInt16.toUInt32.toInt32) < 0 ∧ ¬ (255 : Int32) < nar .char ((x &&& (255 : Int32)).toUInt32.toUInt16.toUInt32.toInt32) := by
  have t : ∀ k : Fin 256, ¬ nar .char ((Int32.ofNat k.val).toUInt32.toUInt16.toUInt32.toInt32) < 0 ∧ ¬ (255 : Int32) < nar .char ((Int32.ofNat k.val).toUInt32.toUInt16.toUInt32.toInt32) := by decide +kernel
  have h : (x &&& 255).toBitVec.toNat < 256 := by
    simp only [Int32.toBitVec_and, BitVec.toNat_and]
    exact Nat.lt_succ_of_le Nat.and_le_right
  have e : (x &&& 255) = Int32.ofNat (x &&& 255).toBitVec.toNat := by
    apply Int32.toBitVec_inj.mp
    show _ = BitVec.ofNat 32 _
    rw [BitVec.ofNat_toNat]; simp
  rw [e]
  exact t ⟨_, h⟩
theorem own_le255 (x : Int32) : ¬ ((255 : Int32) < ((x &&& (255 : Int32)).toUInt32.toUInt16.toUInt32.toInt32)) := by
  rw [i2c_mask]
  have h := c_and x 255 (by decide)
  rw [Int32.lt_iff_toInt_lt]
  omega
theorem own_n (x : Int32) : ((1 : Int32) + (x &&& (1 : Int32))) + (((x.toUInt32 >>> ((1 : Int32) &&& 31).toUInt32).toInt32) &&& (1 : Int32)) = 1 ∨ ((1 : Int32) + (x &&& (1 : Int32))) + (((x.toUInt32 >>> ((1 : Int32) &&& 31).toUInt32).toInt32) &&& (1 : Int32)) = 2 ∨ ((1 : Int32) + (x &&& (1 : Int32))) + (((x.toUInt32 >>> ((1 : Int32) &&& 31).toUInt32).toInt32) &&& (1 : Int32)) = 3 := by
  rcases and_one x with h | h <;> rcases and_one ((x.toUInt32 >>> ((1 : Int32) &&& 31).toUInt32).toInt32) with k | k <;> rw [h, k] <;> decide
theorem d2_0 : decode jdk_43_method_3_code 0 = .ok (.iload_n 0, 1) := by decide +kernel
theorem d2_1 : decode jdk_43_method_3_code 1 = .ok (.sipush 255, 3) := by decide +kernel
theorem d2_4 : decode jdk_43_method_3_code 4 = .ok (.if_icmp .gt 7, 3) := by decide +kernel
theorem d2_7 : decode jdk_43_method_3_code 7 = .ok (.iconst 1, 1) := by decide +kernel
theorem d2_8 : decode jdk_43_method_3_code 8 = .ok (.goto 4, 3) := by decide +kernel
theorem d2_12 : decode jdk_43_method_3_code 12 = .ok (.ireturn, 1) := by decide +kernel
theorem pn_2 : plainName "java/lang/StringLatin1" = true := by first | (simp [plainName, overriddenIn]; done) | decide +kernel
theorem ef_2 (m : MethodId) (x0 : Int32) : entryFrame m #[(.int x0)] 1 = mkF m 0 #[iv x0] [] := by first | (simp [entryFrame, mkF, argsToLocals, Value.category]; done) | rfl
def Q_rm2 (Z : State) (p1 : Int32) (h0 : Heap) (n0 : Nat) : Option Value → Heap → List Loc → Prop := fun v h L => v = some (.int (1 : Int32)) ∧ Fr n0 L ∧ h = h0
set_option maxRecDepth 65536 in
set_option maxHeartbeats 40000000 in
theorem rm2 (l : Launch) (Z : State) (a0 : Array Value) (hw : ∀ d ∈ tables_1, d.before a0 Z = true) (ws : List Jvm.Cond) (p1 : Int32) (h0 : Heap) (n0 : Nat) (Z0 : n0 ≤ h0.size) (hp : ¬ ((255 : Int32) < p1)) :
    MetFree l (⟨"java/lang/StringLatin1", "canEncode", "(C)Z"⟩ : MethodName) (head1 (Jvm.Cond.code (⟨"java/lang/StringLatin1", "canEncode", "(C)Z"⟩ : MethodName) jdk_43_method_3_code 1 (some .boolean) :: ws) ({ frames := 0, cells := 0, slots := 0, locals := 0 } : Room)) (fun a U => a = #[(.int p1)] ∧ Z.Warmed39 U.vm ∧ U.heap = h0) (fun _ _ _ _ _ => True) (fun _ U o U' => ∃ v L, o = .returned v ∧ (Q_rm2 Z p1 h0 n0) v U'.heap L ∧ FrameEnd U o U' L ({ frames := 0, cells := 0, slots := 0, locals := 0 } : Room).cells ({ frames := 0, cells := 0, slots := 0, locals := 0 } : Room).slots) := by
  refine MetFree.of_bodySF (plainFor_of_name pn_2) hisR ?_
  intro p e s m args below meth c s₁ Bd hml0 hP hK
  obtain ⟨rfl, hZ, hh⟩ := hP
  have hx := Bd.exec
  have hby := Bd.bytes
  have hml : c.maxLocals = 1 := hml0
  have hown : s.vm.findClass "java/lang/StringLatin1" = some m.cls := findClass_of_methodNamed Bd.named
  have hnm := (name_of_methodNamed Bd.named Bd.method).1
  have X0 : Stand p l e ({ frames := 0, cells := 0, slots := 0, locals := 0 } : Room) s m #[(.int p1)] below meth c s₁ [] 0 0 := Stand.of_body Bd
  have e0 : s₁.heap = h0 := by rw [← hh, Bd.state]; rfl
  have N0 := Fr.nil n0
  show own_G FrameEnd p e below s ({ frames := 0, cells := 0, slots := 0, locals := 0 } : Room).cells ({ frames := 0, cells := 0, slots := 0, locals := 0 } : Room).slots (Q_rm2 Z p1 h0 n0) (s₁.setTop (entryFrame m #[(.int p1)] 1))
  refine own_go (Y' := s₁.setTop (mkF m 0 #[iv p1] [])) ?_ (fun t k => castTop (ef_2 m p1) k)
  refine own_go ?_ (fun target hr => XS.iloadN X0.here hx rfl (hb hby d2_0) rfl (XS.sipush X0.here hx rfl (hb hby d2_1) (XS.icmpNo X0.here hx rfl (hb hby d2_4) rfl (flt hp).2.2.1 (XS.iconst X0.here hx rfl (hb hby d2_7) (XS.goto X0.here hx rfl (pc0 := 8) (pc' := 12) rfl (hb hby d2_8) (by decide) (by decide) hr)))))
  show own_G _ p e below s _ _ _ (s₁.setTop (mkF m 12 #[iv p1] [(.int (1 : Int32))]))
  obtain ⟨fs, hr, hrun, hended, hW, hsame⟩ := X0.leave (v := some (.int (1 : Int32))) (fun h => by rw [Bd.returns] at h; cases h)
  exact ⟨_, _, retN X0 hx (t := .boolean) Bd.returns (by simp) (hb hby d2_12) hr, hrun, hended, _, _, rfl, ⟨rfl, N0, e0⟩, ⟨_, rfl⟩, hW, hsame.mono (by decide) (by decide)⟩
theorem d3_0 : decode jdk_43_method_46_code 0 = .ok (.iconst 1, 1) := by decide +kernel
theorem d3_1 : decode jdk_43_method_46_code 1 = .ok (.newarray .byte, 2) := by decide +kernel
theorem d3_3 : decode jdk_43_method_46_code 3 = .ok (.dup, 1) := by decide +kernel
theorem d3_4 : decode jdk_43_method_46_code 4 = .ok (.iconst 0, 1) := by decide +kernel
theorem d3_5 : decode jdk_43_method_46_code 5 = .ok (.iload_n 0, 1) := by decide +kernel
theorem d3_6 : decode jdk_43_method_46_code 6 = .ok (.i2b, 1) := by decide +kernel
theorem d3_7 : decode jdk_43_method_46_code 7 = .ok (.bastore, 1) := by decide +kernel
theorem d3_8 : decode jdk_43_method_46_code 8 = .ok (.areturn, 1) := by decide +kernel
theorem pn_3 : plainName "java/lang/StringLatin1" = true := by first | (simp [plainName, overriddenIn]; done) | decide +kernel
theorem ef_3 (m : MethodId) (x0 : Int32) : entryFrame m #[(.int x0)] 1 = mkF m 0 #[iv x0] [] := by first | (simp [entryFrame, mkF, argsToLocals, Value.category]; done) | rfl
def Q_rm3 (Z : State) (p1 : Int32) (h0 : Heap) (n0 : Nat) : Option Value → Heap → List Loc → Prop := fun v h L => ∃ (nb : Addr), v = some (.ref nb) ∧ Fr n0 L ∧ Keep h0 h [] ∧ h0.size ≤ nb
set_option maxRecDepth 65536 in
set_option maxHeartbeats 40000000 in
theorem rm3 (l : Launch) (Z : State) (a0 : Array Value) (hw : ∀ d ∈ tables_1, d.before a0 Z = true) (ws : List Jvm.Cond) (p1 : Int32) (h0 : Heap) (n0 : Nat) (Z0 : n0 ≤ h0.size) :
    MetFree l (⟨"java/lang/StringLatin1", "toBytes", "(C)[B"⟩ : MethodName) (head1 (Jvm.Cond.code (⟨"java/lang/StringLatin1", "toBytes", "(C)[B"⟩ : MethodName) jdk_43_method_46_code 1 (some (.array .byte)) :: ws) ({ frames := 0, cells := 1, slots := 1, locals := 0 } : Room)) (fun a U => a = #[(.int p1)] ∧ Z.Warmed39 U.vm ∧ U.heap = h0) (fun _ _ _ _ _ => True) (fun _ U o U' => ∃ v L, o = .returned v ∧ (Q_rm3 Z p1 h0 n0) v U'.heap L ∧ FrameEnd U o U' L ({ frames := 0, cells := 1, slots := 1, locals := 0 } : Room).cells ({ frames := 0, cells := 1, slots := 1, locals := 0 } : Room).slots) := by
  refine MetFree.of_bodySF (plainFor_of_name pn_3) hisR ?_
  intro p e s m args below meth c s₁ Bd hml0 hP hK
  obtain ⟨rfl, hZ, hh⟩ := hP
  have hx := Bd.exec
  have hby := Bd.bytes
  have hml : c.maxLocals = 1 := hml0
  have hown : s.vm.findClass "java/lang/StringLatin1" = some m.cls := findClass_of_methodNamed Bd.named
  have hnm := (name_of_methodNamed Bd.named Bd.method).1
  have X0 : Stand p l e ({ frames := 0, cells := 1, slots := 1, locals := 0 } : Room) s m #[(.int p1)] below meth c s₁ [] 0 0 := Stand.of_body Bd
  have e0 : s₁.heap = h0 := by rw [← hh, Bd.state]; rfl
  have N0 := Fr.nil n0
  show own_G FrameEnd p e below s ({ frames := 0, cells := 1, slots := 1, locals := 0 } : Room).cells ({ frames := 0, cells := 1, slots := 1, locals := 0 } : Room).slots (Q_rm3 Z p1 h0 n0) (s₁.setTop (entryFrame m #[(.int p1)] 1))
  refine own_go (Y' := s₁.setTop (mkF m 0 #[iv p1] [])) ?_ (fun t k => castTop (ef_3 m p1) k)
  refine own_go ?_ (fun target hr => XS.iconst X0.here hx rfl (hb hby d3_0) hr)
  show own_G _ p e below s _ _ _ (s₁.setTop (mkF m 1 #[iv p1] [(.int (1 : Int32))]))
  obtain ⟨T1, h1, k1, X1, e1, E1, A1, st1⟩ := newP X0 hx hZ (hw _ (List.mem_of_getElem? (i := 14) rfl)) e0 (g := (mkF m 1 #[iv p1] [(.int (1 : Int32))])) rfl (hb hby d3_1) rfl (by decide) (cap := 1) (by decide) (by decide) (by decide) (by decide)
  obtain ⟨b1, g1⟩ : ∃ z, z = h0.size := ⟨_, rfl⟩
  rw [← g1] at A1 st1
  have V1 : Arv Z h1 b1 k1 .byte (1 : Int32) [(.int (0 : Int32))] (.int (0 : Int32)) := (Arv.new A1 (by decide)).pad (pad_rep [] (.int (0 : Int32)) 1)
  have g_b1 : n0 ≤ b1 := Nat.le_trans Z0 (Nat.le_of_eq g1.symm)
  have sz_b1 : h0.size ≤ b1 := Nat.le_trans (Keep.refl h0 []).1 (Nat.le_of_eq g1.symm)
  refine own_go ?_ (fun target hr => st1 _ (XS.dup X1.here hx rfl (hb hby d3_3) rfl rfl (XS.iconst X1.here hx rfl (hb hby d3_4) (XS.iloadN X1.here hx rfl (hb hby d3_5) rfl (XS.i2b X1.here hx rfl (hb hby d3_6) rfl hr)))))
  show own_G _ p e below s _ _ _ (T1.setTop (mkF m 7 #[iv p1] [(.int (p1.toInt8.toInt32)), (.int (0 : Int32)), (.ref b1), (.ref b1)]))
  obtain ⟨cl2, Ar2, qk2, S2, M2, H2, G2⟩ := id V1
  have hin2 : ¬ ((0 : Int32) < 0 ∨ cl2.slots.size ≤ ((0 : Int32)).toNatClampNeg) := inb_of S2 ⟨by decide, by decide⟩
  obtain ⟨T2, h2, X2, e2, W2, st2⟩ := stB X1 hx hZ e1 Ar2 (j := (0 : Int32)) hin2 (g := (mkF m 7 #[iv p1] [(.int (p1.toInt8.toInt32)), (.int (0 : Int32)), (.ref b1), (.ref b1)])) rfl rfl (hb hby d3_7)
  have V2 : Arv Z h2 b1 k1 .byte (1 : Int32) [(.int (nar .byte (p1.toInt8.toInt32)))] (.int (0 : Int32)) := Arv.set Ar2 qk2 S2 M2 H2 G2 (fits_nar_byte _) W2 0 rfl (Nat.le_of_ble_eq_true rfl)
  have N2 := Fr.snoc X2 N0 g_b1
  refine own_go ?_ (fun target hr => st2 _ hr)
  show own_G _ p e below s _ _ _ (T2.setTop (mkF m 8 #[iv p1] [(.ref b1)]))
  obtain ⟨fs, hr, hrun, hended, hW, hsame⟩ := X2.leave (v := some (.ref b1)) (fun h => by rw [Bd.returns] at h; cases h)
  exact ⟨_, _, retOut X2 hx Bd.returns rfl (Or.inr (Or.inr (Or.inr (Or.inr ⟨rfl, rfl, rfl⟩)))) (hb hby d3_8) hr, hrun, hended, _, _, rfl, (by rw [show (T2.setFrames fs).heap = h2 from e2]; exact ⟨b1, rfl, N2, (((Keep.refl h0 []).ext E1).wr W2 (Or.inr sz_b1)), sz_b1⟩), ⟨_, rfl⟩, hW, hsame.mono (by decide) (by decide)⟩
theorem d4_0 : decode jdk_42_method_151_code 0 = .ok (.aload_n 0, 1) := by decide +kernel
theorem d4_1 : decode jdk_42_method_151_code 1 = .ok (.invokespecial 1, 3) := by decide +kernel
theorem d4_4 : decode jdk_42_method_151_code 4 = .ok (.aload_n 0, 1) := by decide +kernel
theorem d4_5 : decode jdk_42_method_151_code 5 = .ok (.aload_n 1, 1) := by decide +kernel
theorem d4_6 : decode jdk_42_method_151_code 6 = .ok (.putfield 9, 3) := by decide +kernel
theorem d4_9 : decode jdk_42_method_151_code 9 = .ok (.aload_n 0, 1) := by decide +kernel
theorem d4_10 : decode jdk_42_method_151_code 10 = .ok (.iload_n 2, 1) := by decide +kernel
theorem d4_11 : decode jdk_42_method_151_code 11 = .ok (.putfield 15, 3) := by decide +kernel
theorem d4_14 : decode jdk_42_method_151_code 14 = .ok (.return_, 1) := by decide +kernel
theorem pn_4 : plainName "java/lang/String" = true := by first | (simp [plainName, overriddenIn]; done) | decide +kernel
theorem ef_4 (m : MethodId) (x0 : Addr) (x1 : Addr) (x2 : Int32) : entryFrame m #[(.ref x0), (.ref x1), (.int x2)] 3 = mkF m 0 #[rv x0, rv x1, iv x2] [] := by first | (simp [entryFrame, mkF, argsToLocals, Value.category]; done) | rfl
def Q_rm4 (Z : State) (a1 : Addr) (a2 : Addr) (p3 : Int32) (u1 : Value) (u2 : Value) (h0 : Heap) (n0 : Nat) : Option Value → Heap → List Loc → Prop := fun v h L => v = none ∧ Fr n0 L ∧ Keep h0 h [a1] ∧ Exa Z h a1 "java/lang/String"
set_option maxRecDepth 65536 in
set_option maxHeartbeats 40000000 in
theorem rm4 (l : Launch) (Z : State) (a0 : Array Value) (hw : ∀ d ∈ tables_1, d.before a0 Z = true) (ws : List Jvm.Cond) (a1 : Addr) (a2 : Addr) (p3 : Int32) (u1 : Value) (u2 : Value) (h0 : Heap) (n0 : Nat) (Z0 : n0 ≤ h0.size) (E_a1 : Exa Z h0 a1 "java/lang/String") (F_a1_value : Fld Z h0 a1 "java/lang/String" "value" "[B" u1) (F_a1_coder : Fld Z h0 a1 "java/lang/String" "coder" "B" u2) (g_a1 : n0 ≤ a1) :
    MetFree l (⟨"java/lang/String", "<init>", "([BB)V"⟩ : MethodName) (head1 (Jvm.Cond.code (⟨"java/lang/String", "<init>", "([BB)V"⟩ : MethodName) jdk_42_method_151_code 3 none :: ws) ({ frames := 1, cells := 0, slots := 0, locals := 12 } : Room)) (fun a U => a = #[(.ref a1), (.ref a2), (.int p3)] ∧ Z.Warmed39 U.vm ∧ U.heap = h0) (fun _ _ _ _ _ => True) (fun _ U o U' => ∃ v L, o = .returned v ∧ (Q_rm4 Z a1 a2 p3 u1 u2 h0 n0) v U'.heap L ∧ FrameEnd U o U' L ({ frames := 1, cells := 0, slots := 0, locals := 12 } : Room).cells ({ frames := 1, cells := 0, slots := 0, locals := 12 } : Room).slots) := by
  refine MetFree.of_bodySF (plainFor_of_name pn_4) hisR ?_
  intro p e s m args below meth c s₁ Bd hml0 hP hK
  obtain ⟨rfl, hZ, hh⟩ := hP
  have hx := Bd.exec
  have hby := Bd.bytes
  have hml : c.maxLocals = 3 := hml0
  have hown : s.vm.findClass "java/lang/String" = some m.cls := findClass_of_methodNamed Bd.named
  have hnm := (name_of_methodNamed Bd.named Bd.method).1
  have X0 : Stand p l e ({ frames := 1, cells := 0, slots := 0, locals := 12 } : Room) s m #[(.ref a1), (.ref a2), (.int p3)] below meth c s₁ [] 0 0 := Stand.of_body Bd
  have e0 : s₁.heap = h0 := by rw [← hh, Bd.state]; rfl
  have N0 := Fr.nil n0
  show own_G FrameEnd p e below s ({ frames := 1, cells := 0, slots := 0, locals := 12 } : Room).cells ({ frames := 1, cells := 0, slots := 0, locals := 12 } : Room).slots (Q_rm4 Z a1 a2 p3 u1 u2 h0 n0) (s₁.setTop (entryFrame m #[(.ref a1), (.ref a2), (.int p3)] 3))
  refine own_go (Y' := s₁.setTop (mkF m 0 #[rv a1, rv a2, iv p3] [])) ?_ (fun t k => castTop (ef_4 m a1 a2 p3) k)
  refine own_go ?_ (fun target hr => XS.aloadN X0.here hx rfl (hb hby d4_0) rfl rfl hr)
  show own_G _ p e below s _ _ _ (s₁.setTop (mkF m 1 #[rv a1, rv a2, iv p3] [(.ref a1)]))
  obtain ⟨T1, X1, e1, st1⟩ := initO X0 hx hZ hown (hw _ (List.mem_of_getElem? (i := 19) rfl)) (hw _ (List.mem_of_getElem? (i := 20) rfl)) (hw _ (List.mem_of_getElem? (i := 21) rfl)) e0 (g := (mkF m 1 #[rv a1, rv a2, iv p3] [(.ref a1)])) rfl (by rw [hml]; rfl) rfl (hb hby d4_1) (by decide) (W := 0) (by show 2 * 0 + _ ≤ _; exact Nat.le_of_eq rfl) (by decide)
  refine own_go ?_ (fun target hr => st1 _ (XS.aloadN X1.here hx rfl (hb hby d4_4) rfl rfl (XS.aloadN X1.here hx rfl (hb hby d4_5) rfl rfl hr)))
  show own_G _ p e below s _ _ _ (T1.setTop (mkF m 6 #[rv a1, rv a2, iv p3] [(.ref a2), (.ref a1)]))
  obtain ⟨T2, h2, X2, e2, W2, st2⟩ := putF X1 hx hZ hown (host := "") (Or.inl (hw _ (List.mem_of_getElem? (i := 22) rfl))) Via.refl e1 F_a1_value E_a1 (Or.inr ⟨(hw _ (List.mem_of_getElem? (i := 23) rfl)), rfl, hnm⟩) (hw _ (List.mem_of_getElem? (i := 10) rfl)) (ty := (.array .byte)) (by decide) rfl rfl (g := (mkF m 6 #[rv a1, rv a2, iv p3] [(.ref a2), (.ref a1)])) rfl rfl (hb hby d4_6)
  have Fw2 := F_a1_value.same W2
  have N2 := Fr.snoc X2 N0 g_a1
  refine own_go ?_ (fun target hr => st2 _ (XS.aloadN X2.here hx rfl (hb hby d4_9) rfl rfl (XS.iloadN X2.here hx rfl (hb hby d4_10) rfl hr)))
  show own_G _ p e below s _ _ _ (T2.setTop (mkF m 11 #[rv a1, rv a2, iv p3] [(.int p3), (.ref a1)]))
  obtain ⟨T3, h3, X3, e3, W3, st3⟩ := putFN X2 hx hZ hown (hw _ (List.mem_of_getElem? (i := 24) rfl)) Via.refl e2 (F_a1_coder.other W2 (Or.inr (slot_ne (Or.inr (hw _ (List.mem_of_getElem? (i := 25) rfl))) (Or.inr (hw _ (List.mem_of_getElem? (i := 23) rfl))) (by decide) (t := .byte) (t' := (.array .byte)) (by decide) (by decide)))) (E_a1.wr W2) (Or.inr ⟨(hw _ (List.mem_of_getElem? (i := 25) rfl)), rfl, hnm⟩) (hw _ (List.mem_of_getElem? (i := 10) rfl)) (ty := .byte) (v' := (.int (nar .byte p3))) (by decide) rfl (fits_nar_byte _) (g := (mkF m 11 #[rv a1, rv a2, iv p3] [(.int p3), (.ref a1)])) rfl rfl (hb hby d4_11)
  have Fw3 := (F_a1_coder.other W2 (Or.inr (slot_ne (Or.inr (hw _ (List.mem_of_getElem? (i := 25) rfl))) (Or.inr (hw _ (List.mem_of_getElem? (i := 23) rfl))) (by decide) (t := .byte) (t' := (.array .byte)) (by decide) (by decide)))).same W3
  have N3 := Fr.snoc X3 N2 g_a1
  refine own_go ?_ (fun target hr => st3 _ hr)
  show own_G _ p e below s _ _ _ (T3.setTop (mkF m 14 #[rv a1, rv a2, iv p3] []))
  obtain ⟨fs, hr, hrun, hended, hW, hsame⟩ := X3.leave (v := none) (fun _ => rfl)
  exact ⟨_, _, X3.returnOut hx Bd.returns (hb hby d4_14) hr, hrun, hended, _, _, rfl, (by rw [show (T3.setFrames fs).heap = h3 from e3]; exact ⟨rfl, N3, (((Keep.refl h0 [a1]).wr W2 (Or.inl (List.mem_of_getElem? (i := 0) rfl))).wr W3 (Or.inl (List.mem_of_getElem? (i := 0) rfl))), ((E_a1.wr W2).wr W3)⟩), ⟨_, rfl⟩, hW, hsame.mono (by decide) (by decide)⟩
theorem d1_0 : decode jdk_42_method_139_code 0 = .ok (.getstatic 38, 3) := by decide +kernel
theorem d1_3 : decode jdk_42_method_139_code 3 = .ok (.ifCond .eq 23, 3) := by decide +kernel
theorem d1_6 : decode jdk_42_method_139_code 6 = .ok (.iload_n 0, 1) := by decide +kernel
theorem d1_7 : decode jdk_42_method_139_code 7 = .ok (.invokestatic 1015, 3) := by decide +kernel
theorem d1_10 : decode jdk_42_method_139_code 10 = .ok (.ifCond .eq 16, 3) := by decide +kernel
theorem d1_13 : decode jdk_42_method_139_code 13 = .ok (.new 10, 3) := by decide +kernel
theorem d1_16 : decode jdk_42_method_139_code 16 = .ok (.dup, 1) := by decide +kernel
theorem d1_17 : decode jdk_42_method_139_code 17 = .ok (.iload_n 0, 1) := by decide +kernel
theorem d1_18 : decode jdk_42_method_139_code 18 = .ok (.invokestatic 1018, 3) := by decide +kernel
theorem d1_21 : decode jdk_42_method_139_code 21 = .ok (.iconst 0, 1) := by decide +kernel
theorem d1_22 : decode jdk_42_method_139_code 22 = .ok (.invokespecial 209, 3) := by decide +kernel
theorem d1_25 : decode jdk_42_method_139_code 25 = .ok (.areturn, 1) := by decide +kernel
theorem pn_1 : plainName "java/lang/String" = true := by first | (simp [plainName, overriddenIn]; done) | decide +kernel
theorem pd__C_Z : parseMethodDescriptor "(C)Z" = some ⟨[.char], some .boolean⟩ := by decide +kernel
theorem pd__C__B : parseMethodDescriptor "(C)[B" = some ⟨[.char], some (.array .byte)⟩ := by decide +kernel
theorem pd___BB_V : parseMethodDescriptor "([BB)V" = some ⟨[(.array .byte), .byte], none⟩ := by decide +kernel
theorem ef_1 (m : MethodId) (x0 : Int32) : entryFrame m #[(.int x0)] 1 = mkF m 0 #[iv x0] [] := by first | (simp [entryFrame, mkF, argsToLocals, Value.category]; done) | rfl
def Q_rm1 (Z : State) (p1 : Int32) (zc : Int32) (h0 : Heap) (n0 : Nat) : Option Value → Heap → List Loc → Prop := fun v h L => ∃ (ns : Addr), v = some (.ref ns) ∧ Fr n0 L ∧ Keep h0 h [] ∧ h0.size ≤ ns ∧ Exa Z h ns "java/lang/String"
set_option maxRecDepth 65536 in
set_option maxHeartbeats 40000000 in
theorem rm1 (l : Launch) (Z : State) (a0 : Array Value) (hw : ∀ d ∈ tables_1, d.before a0 Z = true) (ws : List Jvm.Cond) (p1 : Int32) (zc : Int32) (h0 : Heap) (n0 : Nat) (Z0 : n0 ≤ h0.size) (hold : Old Z n0 h0) (S_COMPACT_STRINGS : Sta Z Z.heap "java/lang/String" "COMPACT_STRINGS" "Z" (.int zc)) (hz : ¬ (zc = (0 : Int32))) (hp : ¬ ((255 : Int32) < p1)) :
    MetFree l (⟨"java/lang/String", "valueOf", "(C)Ljava/lang/String;"⟩ : MethodName) (head1 (Jvm.Cond.code (⟨"java/lang/String", "valueOf", "(C)Ljava/lang/String;"⟩ : MethodName) jdk_42_method_139_code 1 (some (.object "java/lang/String")) :: ws) ({ frames := 2, cells := 2, slots := 5, locals := 27 } : Room)) (fun a U => a = #[(.int p1)] ∧ Z.Warmed39 U.vm ∧ U.heap = h0) (fun _ _ _ _ _ => True) (fun _ U o U' => ∃ v L, o = .returned v ∧ (Q_rm1 Z p1 zc h0 n0) v U'.heap L ∧ FrameEnd U o U' L ({ frames := 2, cells := 2, slots := 5, locals := 27 } : Room).cells ({ frames := 2, cells := 2, slots := 5, locals := 27 } : Room).slots) := by
  refine MetFree.of_bodySF (plainFor_of_name pn_1) hisR ?_
  intro p e s m args below meth c s₁ Bd hml0 hP hK
  obtain ⟨rfl, hZ, hh⟩ := hP
  have hx := Bd.exec
  have hby := Bd.bytes
  have hml : c.maxLocals = 1 := hml0
  have hown : s.vm.findClass "java/lang/String" = some m.cls := findClass_of_methodNamed Bd.named
  have hnm := (name_of_methodNamed Bd.named Bd.method).1
  have X0 : Stand p l e ({ frames := 2, cells := 2, slots := 5, locals := 27 } : Room) s m #[(.int p1)] below meth c s₁ [] 0 0 := Stand.of_body Bd
  have e0 : s₁.heap = h0 := by rw [← hh, Bd.state]; rfl
  have N0 := Fr.nil n0
  show own_G FrameEnd p e below s ({ frames := 2, cells := 2, slots := 5, locals := 27 } : Room).cells ({ frames := 2, cells := 2, slots := 5, locals := 27 } : Room).slots (Q_rm1 Z p1 zc h0 n0) (s₁.setTop (entryFrame m #[(.int p1)] 1))
  refine own_go (Y' := s₁.setTop (mkF m 0 #[iv p1] [])) ?_ (fun t k => castTop (ef_1 m p1) k)
  obtain ⟨T1, X1, e1, st1⟩ := getS2 X0 hx hZ hown (host := "") (Or.inl (hw _ (List.mem_of_getElem? (i := 4) rfl))) Via.refl e0 (S_COMPACT_STRINGS.ext hold.2) (g := (mkF m 0 #[iv p1] [])) rfl (hb hby d1_0)
  refine own_go ?_ (fun target hr => st1 _ (XS.ifNo X1.here hx rfl (hb hby d1_3) rfl ((if0 _ _).trans (feq hz).1) (XS.iloadN X1.here hx rfl (hb hby d1_6) rfl hr)))
  show own_G _ p e below s _ _ _ (T1.setTop (mkF m 7 #[iv p1] [(.int p1)]))
  obtain ⟨_, _, ⟨T2, L2, k2, n2⟩, -, X2, ⟨Lc2, hQ2, l2, y2, z2⟩, st2⟩ := Jvm.LawKit.callS X1 hx (y := (⟨"java/lang/StringLatin1", "canEncode", "(C)Z"⟩ : MethodName)) hown (mvT hZ (hw _ (List.mem_of_getElem? (i := 5) rfl))) (mvT hZ (hw _ (List.mem_of_getElem? (i := 6) rfl))) (mvT hZ (hw _ (List.mem_of_getElem? (i := 7) rfl))) (mvT hZ (hw _ (List.mem_of_getElem? (i := 8) rfl))) (by decide) (backOf (W := 0) (rm2 l Z a0 hw [] p1 h0 n0 Z0 hp) hZ (hw _ (List.mem_of_getElem? (i := 8) rfl)) (hw _ (List.mem_of_getElem? (i := 7) rfl)) (by decide) (by decide)) (g := (mkF m 7 #[iv p1] [(.int p1)])) rfl (by rw [hml]; rfl) (argsL := [(.int p1)]) (rest := []) (lenOf pd__C_Z rfl) rfl (by show 2 * 0 + _ ≤ _; exact Nat.le_of_eq rfl) (hb hby d1_7) (fun _ _ => ⟨rfl, e1, (by decide : 0 + 0 ≤ _), (by decide : 0 + 0 ≤ _)⟩)
  dsimp only [Pt.U, Pt.locs, Pt.cells, Pt.slots] at X2 l2 y2 z2 st2 hQ2
  subst l2 y2 z2
  obtain ⟨rfl, N2q, e2⟩ := hQ2
  have N2 := Fr.app N0 N2q
  refine own_go ?_ (fun target hr => st2 _ (XS.ifNo X2.here hx rfl (hb hby d1_10) rfl ((if0 _ _).trans (feq (by decide : ¬ ((1 : Int32) = (0 : Int32)))).1) hr))
  show own_G _ p e below s _ _ _ (T2.setTop (mkF m 13 #[iv p1] []))
  obtain ⟨T3, h3, X3, e3, E3, A3, D3, -, st3⟩ := newO X2 hx hZ hown (hw _ (List.mem_of_getElem? (i := 9) rfl)) (hw _ (List.mem_of_getElem? (i := 10) rfl)) (hw _ (List.mem_of_getElem? (i := 2) rfl)) e2 (g := (mkF m 13 #[iv p1] [])) rfl (hb hby d1_13) (by decide) (by decide)
  obtain ⟨b3, g3⟩ : ∃ z, z = h0.size := ⟨_, rfl⟩
  rw [← g3] at A3 D3 st3
  have g_b3 : n0 ≤ b3 := Nat.le_trans Z0 (Nat.le_of_eq g3.symm)
  have sz_b3 : h0.size ≤ b3 := Nat.le_trans (Keep.refl h0 []).1 (Nat.le_of_eq g3.symm)
  have F3_23 : Fld Z h3 b3 "java/lang/String" "value" "[B" .null := D3 (Or.inr (hw _ (List.mem_of_getElem? (i := 23) rfl))) (ty := (.array .byte)) (by decide)
  have F3_25 : Fld Z h3 b3 "java/lang/String" "coder" "B" (.int (0 : Int32)) := D3 (Or.inr (hw _ (List.mem_of_getElem? (i := 25) rfl))) (ty := .byte) (by decide)
  refine own_go ?_ (fun target hr => st3 _ (XS.dup X3.here hx rfl (hb hby d1_16) rfl rfl (XS.iloadN X3.here hx rfl (hb hby d1_17) rfl hr)))
  show own_G _ p e below s _ _ _ (T3.setTop (mkF m 18 #[iv p1] [(.int p1), (.ref b3), (.ref b3)]))
  obtain ⟨_, _, ⟨T4, L4, k4, n4⟩, -, X4, ⟨Lc4, hQ4, l4, y4, z4⟩, st4⟩ := Jvm.LawKit.callS X3 hx (y := (⟨"java/lang/StringLatin1", "toBytes", "(C)[B"⟩ : MethodName)) hown (mvT hZ (hw _ (List.mem_of_getElem? (i := 11) rfl))) (mvT hZ (hw _ (List.mem_of_getElem? (i := 12) rfl))) (mvT hZ (hw _ (List.mem_of_getElem? (i := 7) rfl))) (mvT hZ (hw _ (List.mem_of_getElem? (i := 13) rfl))) (by decide) (backOf (W := 2) (rm3 l Z a0 hw [] p1 h3 n0 (Nat.le_trans Z0 E3.1) ) hZ (hw _ (List.mem_of_getElem? (i := 13) rfl)) (hw _ (List.mem_of_getElem? (i := 7) rfl)) (by decide) (by decide)) (g := (mkF m 18 #[iv p1] [(.int p1), (.ref b3), (.ref b3)])) rfl (by rw [hml]; rfl) (argsL := [(.int p1)]) (rest := [(.ref b3), (.ref b3)]) (lenOf pd__C__B rfl) rfl (by show 2 * 0 + _ ≤ _; exact Nat.le_of_eq rfl) (hb hby d1_18) (fun _ _ => ⟨rfl, e3, (by decide : 1 + 1 ≤ _), (by decide : 4 + 1 ≤ _)⟩)
  dsimp only [Pt.U, Pt.locs, Pt.cells, Pt.slots] at X4 l4 y4 z4 st4 hQ4
  subst l4 y4 z4
  obtain ⟨b4_0, rfl, N4q, K4, yb4_0⟩ := hQ4
  have g_b4_0 : n0 ≤ b4_0 := Nat.le_trans (Nat.le_trans Z0 E3.1) yb4_0
  have sz_b4_0 : h0.size ≤ b4_0 := Nat.le_trans ((Keep.refl h0 []).ext E3).1 yb4_0
  have N4 := Fr.app N2 N4q
  refine own_go ?_ (fun target hr => st4 _ (XS.iconst X4.here hx rfl (hb hby d1_21) hr))
  show own_G _ p e below s _ _ _ (T4.setTop (mkF m 22 #[iv p1] [(.int (0 : Int32)), (.ref b4_0), (.ref b3), (.ref b3)]))
  obtain ⟨_, _, ⟨T5, L5, k5, n5⟩, -, X5, ⟨Lc5, hQ5, l5, y5, z5⟩, st5⟩ := X4.specialBack hx (y := (⟨"java/lang/String", "<init>", "([BB)V"⟩ : MethodName)) rfl hown (mvT hZ (hw _ (List.mem_of_getElem? (i := 15) rfl))) (mvT hZ (hw _ (List.mem_of_getElem? (i := 16) rfl))) (mvT hZ (hw _ (List.mem_of_getElem? (i := 18) rfl))) (by decide) (backOf (W := 1) (rm4 l Z a0 hw [] b3 b4_0 (0 : Int32) (.null) (.int (0 : Int32)) T4.heap n0 (Nat.le_trans (Nat.le_trans Z0 E3.1) K4.1) (A3.keep K4) (F3_23.keep K4 nin0) (F3_25.keep K4 nin0) g_b3) hZ (hw _ (List.mem_of_getElem? (i := 18) rfl)) (hw _ (List.mem_of_getElem? (i := 2) rfl)) (by decide) (by decide)) (g := (mkF m 22 #[iv p1] [(.int (0 : Int32)), (.ref b4_0), (.ref b3), (.ref b3)])) rfl (by rw [hml]; rfl) (Steps.refl _) (a := b3) (argsL := [(.ref b4_0), (.int (0 : Int32))]) (rest := [(.ref b3)]) (lenOf pd___BB_V rfl) rfl (by show 2 * 0 + _ ≤ _; exact Nat.le_of_eq rfl) (hb hby d1_22) (fun _ _ => ⟨rfl, rfl, (by decide : 2 + 0 ≤ _), (by decide : 5 + 0 ≤ _)⟩)
  dsimp only [Pt.U, Pt.locs, Pt.cells, Pt.slots] at X5 l5 y5 z5 st5 hQ5
  subst l5 y5 z5
  obtain ⟨rfl, N5q, K5, P5_0⟩ := hQ5
  have N5 := Fr.app N4 N5q
  refine own_go ?_ (fun target hr => st5.trans hr)
  show own_G _ p e below s _ _ _ (T5.setTop (mkF m 25 #[iv p1] [(.ref b3)]))
  obtain ⟨fs, hr, hrun, hended, hW, hsame⟩ := X5.leave (v := some (.ref b3)) (fun h => by rw [Bd.returns] at h; cases h)
  exact ⟨_, _, retOut X5 hx Bd.returns rfl (Or.inr (Or.inr (Or.inr (Or.inr ⟨rfl, rfl, rfl⟩)))) (hb hby d1_25) hr, hrun, hended, _, _, rfl, ⟨b3, rfl, N5, ((((Keep.refl h0 []).ext E3).trans K4 all0).trans K5 (allS (Or.inr sz_b3) all0)), sz_b3, P5_0⟩, ⟨_, rfl⟩, hW, hsame.mono (by decide) (by decide)⟩
theorem d13_0 : decode jdk_22_method_1_code 0 = .ok (.aload_n 0, 1) := by decide +kernel
theorem d13_1 : decode jdk_22_method_1_code 1 = .ok (.invokespecial 1, 3) := by decide +kernel
theorem d13_4 : decode jdk_22_method_1_code 4 = .ok (.return_, 1) := by decide +kernel
theorem pn_13 : plainName "java/util/AbstractCollection" = true := by first | (simp [plainName, overriddenIn]; done) | decide +kernel
theorem ef_13 (m : MethodId) (x0 : Addr) : entryFrame m #[(.ref x0)] 1 = mkF m 0 #[rv x0] [] := by first | (simp [entryFrame, mkF, argsToLocals, Value.category]; done) | rfl
def Q_rm13 (Z : State) (a1 : Addr) (h0 : Heap) (n0 : Nat) : Option Value → Heap → List Loc → Prop := fun v h L => v = none ∧ Fr n0 L ∧ h = h0
set_option maxRecDepth 65536 in
set_option maxHeartbeats 40000000 in
theorem rm13 (l : Launch) (Z : State) (a0 : Array Value) (hw : ∀ d ∈ tables_1, d.before a0 Z = true) (ws : List Jvm.Cond) (a1 : Addr) (h0 : Heap) (n0 : Nat) (Z0 : n0 ≤ h0.size) :
    MetFree l (⟨"java/util/AbstractCollection", "<init>", "()V"⟩ : MethodName) (head1 (Jvm.Cond.code (⟨"java/util/AbstractCollection", "<init>", "()V"⟩ : MethodName) jdk_22_method_1_code 1 none :: ws) ({ frames := 1, cells := 0, slots := 0, locals := 12 } : Room)) (fun a U => a = #[(.ref a1)] ∧ Z.Warmed39 U.vm ∧ U.heap = h0) (fun _ _ _ _ _ => True) (fun _ U o U' => ∃ v L, o = .returned v ∧ (Q_rm13 Z a1 h0 n0) v U'.heap L ∧ FrameEnd U o U' L ({ frames := 1, cells := 0, slots := 0, locals := 12 } : Room).cells ({ frames := 1, cells := 0, slots := 0, locals := 12 } : Room).slots) := by
  refine MetFree.of_bodySF (plainFor_of_name pn_13) hisR ?_
  intro p e s m args below meth c s₁ Bd hml0 hP hK
  obtain ⟨rfl, hZ, hh⟩ := hP
  have hx := Bd.exec
  have hby := Bd.bytes
  have hml : c.maxLocals = 1 := hml0
  have hown : s.vm.findClass "java/util/AbstractCollection" = some m.cls := findClass_of_methodNamed Bd.named
  have hnm := (name_of_methodNamed Bd.named Bd.method).1
  have X0 : Stand p l e ({ frames := 1, cells := 0, slots := 0, locals := 12 } : Room) s m #[(.ref a1)] below meth c s₁ [] 0 0 := Stand.of_body Bd
  have e0 : s₁.heap = h0 := by rw [← hh, Bd.state]; rfl
  have N0 := Fr.nil n0
  show own_G FrameEnd p e below s ({ frames := 1, cells := 0, slots := 0, locals := 12 } : Room).cells ({ frames := 1, cells := 0, slots := 0, locals := 12 } : Room).slots (Q_rm13 Z a1 h0 n0) (s₁.setTop (entryFrame m #[(.ref a1)] 1))
  refine own_go (Y' := s₁.setTop (mkF m 0 #[rv a1] [])) ?_ (fun t k => castTop (ef_13 m a1) k)
  refine own_go ?_ (fun target hr => XS.aloadN X0.here hx rfl (hb hby d13_0) rfl rfl hr)
  show own_G _ p e below s _ _ _ (s₁.setTop (mkF m 1 #[rv a1] [(.ref a1)]))
  obtain ⟨T1, X1, e1, st1⟩ := initO X0 hx hZ hown (hw _ (List.mem_of_getElem? (i := 62) rfl)) (hw _ (List.mem_of_getElem? (i := 20) rfl)) (hw _ (List.mem_of_getElem? (i := 21) rfl)) e0 (g := (mkF m 1 #[rv a1] [(.ref a1)])) rfl (by rw [hml]; rfl) rfl (hb hby d13_1) (by decide) (W := 0) (by show 2 * 0 + _ ≤ _; exact Nat.le_of_eq rfl) (by decide)
  refine own_go ?_ (fun target hr => st1 _ hr)
  show own_G _ p e below s _ _ _ (T1.setTop (mkF m 4 #[rv a1] []))
  obtain ⟨fs, hr, hrun, hended, hW, hsame⟩ := X1.leave (v := none) (fun _ => rfl)
  exact ⟨_, _, X1.returnOut hx Bd.returns (hb hby d13_4) hr, hrun, hended, _, _, rfl, ⟨rfl, N0, e1⟩, ⟨_, rfl⟩, hW, hsame.mono (by decide) (by decide)⟩
theorem d12_0 : decode jdk_39_method_1_code 0 = .ok (.aload_n 0, 1) := by decide +kernel
theorem d12_1 : decode jdk_39_method_1_code 1 = .ok (.invokespecial 1, 3) := by decide +kernel
theorem d12_4 : decode jdk_39_method_1_code 4 = .ok (.aload_n 0, 1) := by decide +kernel
theorem d12_5 : decode jdk_39_method_1_code 5 = .ok (.iconst 0, 1) := by decide +kernel
theorem d12_6 : decode jdk_39_method_1_code 6 = .ok (.putfield 7, 3) := by decide +kernel
theorem d12_9 : decode jdk_39_method_1_code 9 = .ok (.return_, 1) := by decide +kernel
theorem pn_12 : plainName "java/util/AbstractList" = true := by first | (simp [plainName, overriddenIn]; done) | decide +kernel
theorem pd___V : parseMethodDescriptor "()V" = some ⟨[], none⟩ := by decide +kernel
theorem ef_12 (m : MethodId) (x0 : Addr) : entryFrame m #[(.ref x0)] 1 = mkF m 0 #[rv x0] [] := by first | (simp [entryFrame, mkF, argsToLocals, Value.category]; done) | rfl
def Q_rm12 (Z : State) (a1 : Addr) (u0 : Value) (u1 : Value) (u2 : Value) (h0 : Heap) (n0 : Nat) : Option Value → Heap → List Loc → Prop := fun v h L => v = none ∧ Fr n0 L ∧ Keep h0 h [a1] ∧ Exa Z h a1 "java/util/ArrayList" ∧ Fld Z h a1 "java/util/AbstractList" "modCount" "I" (.int (0 : Int32)) ∧ Fld Z h a1 "java/util/ArrayList" "elementData" "[Ljava/lang/Object;" u1 ∧ Fld Z h a1 "java/util/ArrayList" "size" "I" u2
set_option maxRecDepth 65536 in
set_option maxHeartbeats 40000000 in
theorem rm12 (l : Launch) (Z : State) (a0 : Array Value) (hw : ∀ d ∈ tables_1, d.before a0 Z = true) (ws : List Jvm.Cond) (a1 : Addr) (u0 : Value) (u1 : Value) (u2 : Value) (h0 : Heap) (n0 : Nat) (Z0 : n0 ≤ h0.size) (E_a1 : Exa Z h0 a1 "java/util/ArrayList") (F_a1_modCount : Fld Z h0 a1 "java/util/AbstractList" "modCount" "I" u0) (F_a1_elementData : Fld Z h0 a1 "java/util/ArrayList" "elementData" "[Ljava/lang/Object;" u1) (F_a1_size : Fld Z h0 a1 "java/util/ArrayList" "size" "I" u2) (g_a1 : n0 ≤ a1) :
    MetFree l (⟨"java/util/AbstractList", "<init>", "()V"⟩ : MethodName) (head1 (Jvm.Cond.code (⟨"java/util/AbstractList", "<init>", "()V"⟩ : MethodName) jdk_39_method_1_code 1 none :: ws) ({ frames := 2, cells := 0, slots := 0, locals := 24 } : Room)) (fun a U => a = #[(.ref a1)] ∧ Z.Warmed39 U.vm ∧ U.heap = h0) (fun _ _ _ _ _ => True) (fun _ U o U' => ∃ v L, o = .returned v ∧ (Q_rm12 Z a1 u0 u1 u2 h0 n0) v U'.heap L ∧ FrameEnd U o U' L ({ frames := 2, cells := 0, slots := 0, locals := 24 } : Room).cells ({ frames := 2, cells := 0, slots := 0, locals := 24 } : Room).slots) := by
  refine MetFree.of_bodySF (plainFor_of_name pn_12) hisR ?_
  intro p e s m args below meth c s₁ Bd hml0 hP hK
  obtain ⟨rfl, hZ, hh⟩ := hP
  have hx := Bd.exec
  have hby := Bd.bytes
  have hml : c.maxLocals = 1 := hml0
  have hown : s.vm.findClass "java/util/AbstractList" = some m.cls := findClass_of_methodNamed Bd.named
  have hnm := (name_of_methodNamed Bd.named Bd.method).1
  have X0 : Stand p l e ({ frames := 2, cells := 0, slots := 0, locals := 24 } : Room) s m #[(.ref a1)] below meth c s₁ [] 0 0 := Stand.of_body Bd
  have e0 : s₁.heap = h0 := by rw [← hh, Bd.state]; rfl
  have N0 := Fr.nil n0
  show own_G FrameEnd p e below s ({ frames := 2, cells := 0, slots := 0, locals := 24 } : Room).cells ({ frames := 2, cells := 0, slots := 0, locals := 24 } : Room).slots (Q_rm12 Z a1 u0 u1 u2 h0 n0) (s₁.setTop (entryFrame m #[(.ref a1)] 1))
  refine own_go (Y' := s₁.setTop (mkF m 0 #[rv a1] [])) ?_ (fun t k => castTop (ef_12 m a1) k)
  refine own_go ?_ (fun target hr => XS.aloadN X0.here hx rfl (hb hby d12_0) rfl rfl hr)
  show own_G _ p e below s _ _ _ (s₁.setTop (mkF m 1 #[rv a1] [(.ref a1)]))
  obtain ⟨_, _, ⟨T1, L1, k1, n1⟩, -, X1, ⟨Lc1, hQ1, l1, y1, z1⟩, st1⟩ := X0.specialBack hx (y := (⟨"java/util/AbstractCollection", "<init>", "()V"⟩ : MethodName)) rfl hown (mvT hZ (hw _ (List.mem_of_getElem? (i := 56) rfl))) (mvT hZ (hw _ (List.mem_of_getElem? (i := 57) rfl))) (mvT hZ (hw _ (List.mem_of_getElem? (i := 61) rfl))) (by decide) (backOf (W := 0) (rm13 l Z a0 hw [] a1 h0 n0 Z0 ) hZ (hw _ (List.mem_of_getElem? (i := 61) rfl)) (hw _ (List.mem_of_getElem? (i := 60) rfl)) (by decide) (by decide)) (g := (mkF m 1 #[rv a1] [(.ref a1)])) rfl (by rw [hml]; rfl) (Steps.refl _) (a := a1) (argsL := []) (rest := []) (lenOf pd___V rfl) rfl (by show 2 * 0 + _ ≤ _; exact Nat.le_of_eq rfl) (hb hby d12_1) (fun _ _ => ⟨rfl, e0, (by decide : 0 + 0 ≤ _), (by decide : 0 + 0 ≤ _)⟩)
  dsimp only [Pt.U, Pt.locs, Pt.cells, Pt.slots] at X1 l1 y1 z1 st1 hQ1
  subst l1 y1 z1
  obtain ⟨rfl, N1q, e1⟩ := hQ1
  have N1 := Fr.app N0 N1q
  refine own_go ?_ (fun target hr => st1.trans (XS.aloadN X1.here hx rfl (hb hby d12_4) rfl rfl (XS.iconst X1.here hx rfl (hb hby d12_5) hr)))
  show own_G _ p e below s _ _ _ (T1.setTop (mkF m 6 #[rv a1] [(.int (0 : Int32)), (.ref a1)]))
  obtain ⟨T2, h2, X2, e2, W2, st2⟩ := putF X1 hx hZ hown (host := "") (Or.inl (hw _ (List.mem_of_getElem? (i := 63) rfl))) Via.refl e1 F_a1_modCount E_a1 (Or.inl (hw _ (List.mem_of_getElem? (i := 64) rfl))) (hw _ (List.mem_of_getElem? (i := 45) rfl)) (ty := .int) (by decide) rfl rfl (g := (mkF m 6 #[rv a1] [(.int (0 : Int32)), (.ref a1)])) rfl rfl (hb hby d12_6)
  have Fw2 := F_a1_modCount.same W2
  have N2 := Fr.snoc X2 N1 g_a1
  refine own_go ?_ (fun target hr => st2 _ hr)
  show own_G _ p e below s _ _ _ (T2.setTop (mkF m 9 #[rv a1] []))
  obtain ⟨fs, hr, hrun, hended, hW, hsame⟩ := X2.leave (v := none) (fun _ => rfl)
  exact ⟨_, _, X2.returnOut hx Bd.returns (hb hby d12_9) hr, hrun, hended, _, _, rfl, (by rw [show (T2.setFrames fs).heap = h2 from e2]; exact ⟨rfl, N2, ((Keep.refl h0 [a1]).wr W2 (Or.inl (List.mem_of_getElem? (i := 0) rfl))), (E_a1.wr W2), Fw2, (F_a1_elementData.other W2 (Or.inr (slot_ne (Or.inl (hw _ (List.mem_of_getElem? (i := 67) rfl))) (Or.inl (hw _ (List.mem_of_getElem? (i := 64) rfl))) (by decide) (t := (.array (.object "java/lang/Object"))) (t' := .int) (by decide) (by decide)))), (F_a1_size.other W2 (Or.inr (slot_ne (Or.inl (hw _ (List.mem_of_getElem? (i := 80) rfl))) (Or.inl (hw _ (List.mem_of_getElem? (i := 64) rfl))) (by decide) (t := .int) (t' := .int) (by decide) (by decide))))⟩), ⟨_, rfl⟩, hW, hsame.mono (by decide) (by decide)⟩
theorem d11_0 : decode jdk_38_method_2_code 0 = .ok (.aload_n 0, 1) := by decide +kernel
theorem d11_1 : decode jdk_38_method_2_code 1 = .ok (.invokespecial 1, 3) := by decide +kernel
theorem d11_4 : decode jdk_38_method_2_code 4 = .ok (.aload_n 0, 1) := by decide +kernel
theorem d11_5 : decode jdk_38_method_2_code 5 = .ok (.getstatic 39, 3) := by decide +kernel
theorem d11_8 : decode jdk_38_method_2_code 8 = .ok (.putfield 9, 3) := by decide +kernel
theorem d11_11 : decode jdk_38_method_2_code 11 = .ok (.return_, 1) := by decide +kernel
theorem pn_11 : plainName "java/util/ArrayList" = true := by first | (simp [plainName, overriddenIn]; done) | decide +kernel
theorem ef_11 (m : MethodId) (x0 : Addr) : entryFrame m #[(.ref x0)] 1 = mkF m 0 #[rv x0] [] := by first | (simp [entryFrame, mkF, argsToLocals, Value.category]; done) | rfl
def Q_rm11 (Z : State) (a1 : Addr) (u0 : Value) (u1 : Value) (u2 : Value) (wE : Addr) (h0 : Heap) (n0 : Nat) : Option Value → Heap → List Loc → Prop := fun v h L => v = none ∧ Fr n0 L ∧ Keep h0 h [a1] ∧ Exa Z h a1 "java/util/ArrayList" ∧ Fld Z h a1 "java/util/AbstractList" "modCount" "I" (.int (0 : Int32)) ∧ Fld Z h a1 "java/util/ArrayList" "elementData" "[Ljava/lang/Object;" (.ref wE) ∧ Fld Z h a1 "java/util/ArrayList" "size" "I" u2
set_option maxRecDepth 65536 in
set_option maxHeartbeats 40000000 in
theorem rm11 (l : Launch) (Z : State) (a0 : Array Value) (hw : ∀ d ∈ tables_1, d.before a0 Z = true) (ws : List Jvm.Cond) (a1 : Addr) (u0 : Value) (u1 : Value) (u2 : Value) (wE : Addr) (h0 : Heap) (n0 : Nat) (Z0 : n0 ≤ h0.size) (E_a1 : Exa Z h0 a1 "java/util/ArrayList") (F_a1_modCount : Fld Z h0 a1 "java/util/AbstractList" "modCount" "I" u0) (F_a1_elementData : Fld Z h0 a1 "java/util/ArrayList" "elementData" "[Ljava/lang/Object;" u1) (F_a1_size : Fld Z h0 a1 "java/util/ArrayList" "size" "I" u2) (g_a1 : n0 ≤ a1) (hold : Old Z n0 h0) (S_DEFAULTCAPACITY_EMPTY_ELEMENTDATA : Sta Z Z.heap "java/util/ArrayList" "DEFAULTCAPACITY_EMPTY_ELEMENTDATA" "[Ljava/lang/Object;" (.ref wE)) :
    MetFree l (⟨"java/util/ArrayList", "<init>", "()V"⟩ : MethodName) (head1 (Jvm.Cond.code (⟨"java/util/ArrayList", "<init>", "()V"⟩ : MethodName) jdk_38_method_2_code 1 none :: ws) ({ frames := 3, cells := 0, slots := 0, locals := 36 } : Room)) (fun a U => a = #[(.ref a1)] ∧ Z.Warmed39 U.vm ∧ U.heap = h0) (fun _ _ _ _ _ => True) (fun _ U o U' => ∃ v L, o = .returned v ∧ (Q_rm11 Z a1 u0 u1 u2 wE h0 n0) v U'.heap L ∧ FrameEnd U o U' L ({ frames := 3, cells := 0, slots := 0, locals := 36 } : Room).cells ({ frames := 3, cells := 0, slots := 0, locals := 36 } : Room).slots) := by
  refine MetFree.of_bodySF (plainFor_of_name pn_11) hisR ?_
  intro p e s m args below meth c s₁ Bd hml0 hP hK
  obtain ⟨rfl, hZ, hh⟩ := hP
  have hx := Bd.exec
  have hby := Bd.bytes
  have hml : c.maxLocals = 1 := hml0
  have hown : s.vm.findClass "java/util/ArrayList" = some m.cls := findClass_of_methodNamed Bd.named
  have hnm := (name_of_methodNamed Bd.named Bd.method).1
  have X0 : Stand p l e ({ frames := 3, cells := 0, slots := 0, locals := 36 } : Room) s m #[(.ref a1)] below meth c s₁ [] 0 0 := Stand.of_body Bd
  have e0 : s₁.heap = h0 := by rw [← hh, Bd.state]; rfl
  have N0 := Fr.nil n0
  show own_G FrameEnd p e below s ({ frames := 3, cells := 0, slots := 0, locals := 36 } : Room).cells ({ frames := 3, cells := 0, slots := 0, locals := 36 } : Room).slots (Q_rm11 Z a1 u0 u1 u2 wE h0 n0) (s₁.setTop (entryFrame m #[(.ref a1)] 1))
  refine own_go (Y' := s₁.setTop (mkF m 0 #[rv a1] [])) ?_ (fun t k => castTop (ef_11 m a1) k)
  refine own_go ?_ (fun target hr => XS.aloadN X0.here hx rfl (hb hby d11_0) rfl rfl hr)
  show own_G _ p e below s _ _ _ (s₁.setTop (mkF m 1 #[rv a1] [(.ref a1)]))
  obtain ⟨_, _, ⟨T1, L1, k1, n1⟩, -, X1, ⟨Lc1, hQ1, l1, y1, z1⟩, st1⟩ := X0.specialBack hx (y := (⟨"java/util/AbstractList", "<init>", "()V"⟩ : MethodName)) rfl hown (mvT hZ (hw _ (List.mem_of_getElem? (i := 50) rfl))) (mvT hZ (hw _ (List.mem_of_getElem? (i := 51) rfl))) (mvT hZ (hw _ (List.mem_of_getElem? (i := 55) rfl))) (by decide) (backOf (W := 0) (rm12 l Z a0 hw [] a1 (u0) (u1) (u2) h0 n0 Z0 E_a1 F_a1_modCount F_a1_elementData F_a1_size g_a1) hZ (hw _ (List.mem_of_getElem? (i := 55) rfl)) (hw _ (List.mem_of_getElem? (i := 54) rfl)) (by decide) (by decide)) (g := (mkF m 1 #[rv a1] [(.ref a1)])) rfl (by rw [hml]; rfl) (Steps.refl _) (a := a1) (argsL := []) (rest := []) (lenOf pd___V rfl) rfl (by show 2 * 0 + _ ≤ _; exact Nat.le_of_eq rfl) (hb hby d11_1) (fun _ _ => ⟨rfl, e0, (by decide : 0 + 0 ≤ _), (by decide : 0 + 0 ≤ _)⟩)
  dsimp only [Pt.U, Pt.locs, Pt.cells, Pt.slots] at X1 l1 y1 z1 st1 hQ1
  subst l1 y1 z1
  obtain ⟨rfl, N1q, K1, P1_0, P1_1, P1_2, P1_3⟩ := hQ1
  have N1 := Fr.app N0 N1q
  refine own_go ?_ (fun target hr => st1.trans (XS.aloadN X1.here hx rfl (hb hby d11_4) rfl rfl hr))
  show own_G _ p e below s _ _ _ (T1.setTop (mkF m 5 #[rv a1] [(.ref a1)]))
  obtain ⟨T2, X2, e2, st2⟩ := getS2 X1 hx hZ hown (host := "") (Or.inl (hw _ (List.mem_of_getElem? (i := 65) rfl))) Via.refl rfl (S_DEFAULTCAPACITY_EMPTY_ELEMENTDATA.ext (hold.keep K1 (allS g_a1 all0)).2) (g := (mkF m 5 #[rv a1] [(.ref a1)])) rfl (hb hby d11_5)
  refine own_go ?_ (fun target hr => st2 _ hr)
  show own_G _ p e below s _ _ _ (T2.setTop (mkF m 8 #[rv a1] [(.ref wE), (.ref a1)]))
  obtain ⟨T3, h3, X3, e3, W3, st3⟩ := putF X2 hx hZ hown (host := "") (Or.inl (hw _ (List.mem_of_getElem? (i := 66) rfl))) Via.refl e2 P1_2 P1_0 (Or.inl (hw _ (List.mem_of_getElem? (i := 67) rfl))) (hw _ (List.mem_of_getElem? (i := 45) rfl)) (ty := (.array (.object "java/lang/Object"))) (by decide) rfl rfl (g := (mkF m 8 #[rv a1] [(.ref wE), (.ref a1)])) rfl rfl (hb hby d11_8)
  have Fw3 := P1_2.same W3
  have N3 := Fr.snoc X3 N1 g_a1
  refine own_go ?_ (fun target hr => st3 _ hr)
  show own_G _ p e below s _ _ _ (T3.setTop (mkF m 11 #[rv a1] []))
  obtain ⟨fs, hr, hrun, hended, hW, hsame⟩ := X3.leave (v := none) (fun _ => rfl)
  exact ⟨_, _, X3.returnOut hx Bd.returns (hb hby d11_11) hr, hrun, hended, _, _, rfl, (by rw [show (T3.setFrames fs).heap = h3 from e3]; exact ⟨rfl, N3, (((Keep.refl h0 [a1]).trans K1 (allS (Or.inl (List.mem_of_getElem? (i := 0) rfl)) all0)).wr W3 (Or.inl (List.mem_of_getElem? (i := 0) rfl))), (P1_0.wr W3), (P1_1.other W3 (Or.inr (slot_ne (Or.inl (hw _ (List.mem_of_getElem? (i := 64) rfl))) (Or.inl (hw _ (List.mem_of_getElem? (i := 67) rfl))) (by decide) (t := .int) (t' := (.array (.object "java/lang/Object"))) (by decide) (by decide)))), Fw3, (P1_3.other W3 (Or.inr (slot_ne (Or.inl (hw _ (List.mem_of_getElem? (i := 80) rfl))) (Or.inl (hw _ (List.mem_of_getElem? (i := 67) rfl))) (by decide) (t := .int) (t' := (.array (.object "java/lang/Object"))) (by decide) (by decide))))⟩), ⟨_, rfl⟩, hW, hsame.mono (by decide) (by decide)⟩
theorem d18_0 : decode jdk_29_method_65_code 0 = .ok (.iload_n 0, 1) := by decide +kernel
theorem d18_1 : decode jdk_29_method_65_code 1 = .ok (.iload_n 1, 1) := by decide +kernel
theorem d18_2 : decode jdk_29_method_65_code 2 = .ok (.if_icmp .lt 7, 3) := by decide +kernel
theorem d18_5 : decode jdk_29_method_65_code 5 = .ok (.iload_n 0, 1) := by decide +kernel
theorem d18_6 : decode jdk_29_method_65_code 6 = .ok (.goto 4, 3) := by decide +kernel
theorem d18_10 : decode jdk_29_method_65_code 10 = .ok (.ireturn, 1) := by decide +kernel
theorem ef_18 (m : MethodId) (x0 : Int32) (x1 : Int32) : entryFrame m #[(.int x0), (.int x1)] 2 = mkF m 0 #[iv x0, iv x1] [] := by first | (simp [entryFrame, mkF, argsToLocals, Value.category]; done) | rfl
def Q_rm_max (Z : State)  (h0 : Heap) (n0 : Nat) : Option Value → Heap → List Loc → Prop := fun v h L => v = some (.int (10 : Int32)) ∧ Fr n0 L ∧ h = h0
set_option maxRecDepth 65536 in
set_option maxHeartbeats 40000000 in
theorem rm_max (l : Launch) (Z : State) (a0 : Array Value) (hw : ∀ d ∈ tables_1, d.before a0 Z = true) (ws : List Jvm.Cond)  (h0 : Heap) (n0 : Nat) (Z0 : n0 ≤ h0.size) :
    MetFree l (⟨"java/lang/Math", "max", "(II)I"⟩ : MethodName) (head1 (Jvm.Cond.code (⟨"java/lang/Math", "max", "(II)I"⟩ : MethodName) jdk_29_method_65_code 2 (some .int) :: ws) ({ frames := 0, cells := 0, slots := 0, locals := 0 } : Room)) (fun a U => a = #[(.int (10 : Int32)), (.int (1 : Int32))] ∧ Z.Warmed39 U.vm ∧ U.heap = h0) (fun _ _ _ _ _ => True) (fun _ U o U' => ∃ v L, o = .returned v ∧ (Q_rm_max Z  h0 n0) v U'.heap L ∧ FrameEnd U o U' L ({ frames := 0, cells := 0, slots := 0, locals := 0 } : Room).cells ({ frames := 0, cells := 0, slots := 0, locals := 0 } : Room).slots) := by
  refine MetFree.of_bodySF (Jvm.Free.JP.mathPlain rfl (by decide +kernel)) hisR ?_
  intro p e s m args below meth c s₁ Bd hml0 hP hK
  obtain ⟨rfl, hZ, hh⟩ := hP
  have hx := Bd.exec
  have hby := Bd.bytes
  have hml : c.maxLocals = 2 := hml0
  have hown : s.vm.findClass "java/lang/Math" = some m.cls := findClass_of_methodNamed Bd.named
  have hnm := (name_of_methodNamed Bd.named Bd.method).1
  have X0 : Stand p l e ({ frames := 0, cells := 0, slots := 0, locals := 0 } : Room) s m #[(.int (10 : Int32)), (.int (1 : Int32))] below meth c s₁ [] 0 0 := Stand.of_body Bd
  have e0 : s₁.heap = h0 := by rw [← hh, Bd.state]; rfl
  have N0 := Fr.nil n0
  show own_G FrameEnd p e below s ({ frames := 0, cells := 0, slots := 0, locals := 0 } : Room).cells ({ frames := 0, cells := 0, slots := 0, locals := 0 } : Room).slots (Q_rm_max Z  h0 n0) (s₁.setTop (entryFrame m #[(.int (10 : Int32)), (.int (1 : Int32))] 2))
  refine own_go (Y' := s₁.setTop (mkF m 0 #[iv (10 : Int32), iv (1 : Int32)] [])) ?_ (fun t k => castTop (ef_18 m (10 : Int32) (1 : Int32)) k)
  refine own_go ?_ (fun target hr => XS.iloadN X0.here hx rfl (hb hby d18_0) rfl (XS.iloadN X0.here hx rfl (hb hby d18_1) rfl (XS.icmpNo X0.here hx rfl (hb hby d18_2) rfl (flt (by decide : ¬ ((10 : Int32) < (1 : Int32)))).1 (XS.iloadN X0.here hx rfl (hb hby d18_5) rfl (XS.goto X0.here hx rfl (pc0 := 6) (pc' := 10) rfl (hb hby d18_6) (by decide) (by decide) hr)))))
  show own_G _ p e below s _ _ _ (s₁.setTop (mkF m 10 #[iv (10 : Int32), iv (1 : Int32)] [(.int (10 : Int32))]))
  obtain ⟨fs, hr, hrun, hended, hW, hsame⟩ := X0.leave (v := some (.int (10 : Int32))) (fun h => by rw [Bd.returns] at h; cases h)
  exact ⟨_, _, retI X0 hx Bd.returns (hb hby d18_10) hr, hrun, hended, _, _, rfl, ⟨rfl, N0, e0⟩, ⟨_, rfl⟩, hW, hsame.mono (by decide) (by decide)⟩
theorem d17_0 : decode jdk_38_method_6_code 0 = .ok (.aload_n 0, 1) := by decide +kernel
theorem d17_1 : decode jdk_38_method_6_code 1 = .ok (.getfield 9, 3) := by decide +kernel
theorem d17_4 : decode jdk_38_method_6_code 4 = .ok (.arraylength, 1) := by decide +kernel
theorem d17_5 : decode jdk_38_method_6_code 5 = .ok (.istore_n 2, 1) := by decide +kernel
theorem d17_6 : decode jdk_38_method_6_code 6 = .ok (.iload_n 2, 1) := by decide +kernel
theorem d17_7 : decode jdk_38_method_6_code 7 = .ok (.ifCond .gt 13, 3) := by decide +kernel
theorem d17_10 : decode jdk_38_method_6_code 10 = .ok (.aload_n 0, 1) := by decide +kernel
theorem d17_11 : decode jdk_38_method_6_code 11 = .ok (.getfield 9, 3) := by decide +kernel
theorem d17_14 : decode jdk_38_method_6_code 14 = .ok (.getstatic 39, 3) := by decide +kernel
theorem d17_17 : decode jdk_38_method_6_code 17 = .ok (.if_acmp .eq 28, 3) := by decide +kernel
theorem d17_45 : decode jdk_38_method_6_code 45 = .ok (.aload_n 0, 1) := by decide +kernel
theorem d17_46 : decode jdk_38_method_6_code 46 = .ok (.bipush 10, 2) := by decide +kernel
theorem d17_48 : decode jdk_38_method_6_code 48 = .ok (.iload_n 1, 1) := by decide +kernel
theorem d17_49 : decode jdk_38_method_6_code 49 = .ok (.invokestatic 79, 3) := by decide +kernel
theorem d17_52 : decode jdk_38_method_6_code 52 = .ok (.anewarray 7, 3) := by decide +kernel
theorem d17_55 : decode jdk_38_method_6_code 55 = .ok (.dup_x1, 1) := by decide +kernel
theorem d17_56 : decode jdk_38_method_6_code 56 = .ok (.putfield 9, 3) := by decide +kernel
theorem d17_59 : decode jdk_38_method_6_code 59 = .ok (.areturn, 1) := by decide +kernel
theorem pn_17 : plainName "java/util/ArrayList" = true := by first | (simp [plainName, overriddenIn]; done) | decide +kernel
theorem pd__II_I : parseMethodDescriptor "(II)I" = some ⟨[.int, .int], some .int⟩ := by decide +kernel
theorem ef_17 (m : MethodId) (x0 : Addr) (x1 : Int32) : entryFrame m #[(.ref x0), (.int x1)] 4 = mkF m 0 #[rv x0, iv x1, .unset, .unset] [] := by first | (simp [entryFrame, mkF, argsToLocals, Value.category]; done) | rfl
def Q_rm_grow1 (Z : State) (a1 : Addr) (mc : Int32) (wE : Addr) (kE : ClassId) (h0 : Heap) (n0 : Nat) : Option Value → Heap → List Loc → Prop := fun v h L => ∃ (nb : Addr) (nk : ClassId), v = some (.ref nb) ∧ Fr n0 L ∧ Keep h0 h [a1] ∧ h0.size ≤ nb ∧ Exa Z h a1 "java/util/ArrayList" ∧ Fld Z h a1 "java/util/AbstractList" "modCount" "I" (.int mc) ∧ Fld Z h a1 "java/util/ArrayList" "elementData" "[Ljava/lang/Object;" (.ref nb) ∧ Fld Z h a1 "java/util/ArrayList" "size" "I" (.int (0 : Int32)) ∧ Arv Z h nb nk (.object "java/lang/Object") (10 : Int32) [.null, .null, .null, .null, .null, .null, .null, .null, .null, .null] .null ∧ Exa Z h nb "[Ljava/lang/Object;" ∧ Ovr Z nk "java/lang/Object"
set_option maxRecDepth 65536 in
set_option maxHeartbeats 40000000 in
theorem rm_grow1 (l : Launch) (Z : State) (a0 : Array Value) (hw : ∀ d ∈ tables_1, d.before a0 Z = true) (ws : List Jvm.Cond) (a1 : Addr) (mc : Int32) (wE : Addr) (kE : ClassId) (h0 : Heap) (n0 : Nat) (Z0 : n0 ≤ h0.size) (E_a1 : Exa Z h0 a1 "java/util/ArrayList") (F_a1_modCount : Fld Z h0 a1 "java/util/AbstractList" "modCount" "I" (.int mc)) (F_a1_elementData : Fld Z h0 a1 "java/util/ArrayList" "elementData" "[Ljava/lang/Object;" (.ref wE)) (F_a1_size : Fld Z h0 a1 "java/util/ArrayList" "size" "I" (.int (0 : Int32))) (g_a1 : n0 ≤ a1) (hold : Old Z n0 h0) (S_DEFAULTCAPACITY_EMPTY_ELEMENTDATA : Sta Z Z.heap "java/util/ArrayList" "DEFAULTCAPACITY_EMPTY_ELEMENTDATA" "[Ljava/lang/Object;" (.ref wE)) (V_wE : Arv Z Z.heap wE kE (.object "java/lang/Object") (0 : Int32) [] .null) :
    MetFree l (⟨"java/util/ArrayList", "grow", "(I)[Ljava/lang/Object;"⟩ : MethodName) (head1 (Jvm.Cond.code (⟨"java/util/ArrayList", "grow", "(I)[Ljava/lang/Object;"⟩ : MethodName) jdk_38_method_6_code 4 (some (.array (.object "java/lang/Object"))) :: ws) ({ frames := 1, cells := 1, slots := 10, locals := 14 } : Room)) (fun a U => a = #[(.ref a1), (.int (1 : Int32))] ∧ Z.Warmed39 U.vm ∧ U.heap = h0) (fun _ _ _ _ _ => True) (fun _ U o U' => ∃ v L, o = .returned v ∧ (Q_rm_grow1 Z a1 mc wE kE h0 n0) v U'.heap L ∧ FrameEnd U o U' L ({ frames := 1, cells := 1, slots := 10, locals := 14 } : Room).cells ({ frames := 1, cells := 1, slots := 10, locals := 14 } : Room).slots) := by
  refine MetFree.of_bodySF (plainFor_of_name pn_17) hisR ?_
  intro p e s m args below meth c s₁ Bd hml0 hP hK
  obtain ⟨rfl, hZ, hh⟩ := hP
  have hx := Bd.exec
  have hby := Bd.bytes
  have hml : c.maxLocals = 4 := hml0
  have hown : s.vm.findClass "java/util/ArrayList" = some m.cls := findClass_of_methodNamed Bd.named
  have hnm := (name_of_methodNamed Bd.named Bd.method).1
  have X0 : Stand p l e ({ frames := 1, cells := 1, slots := 10, locals := 14 } : Room) s m #[(.ref a1), (.int (1 : Int32))] below meth c s₁ [] 0 0 := Stand.of_body Bd
  have e0 : s₁.heap = h0 := by rw [← hh, Bd.state]; rfl
  have N0 := Fr.nil n0
  show own_G FrameEnd p e below s ({ frames := 1, cells := 1, slots := 10, locals := 14 } : Room).cells ({ frames := 1, cells := 1, slots := 10, locals := 14 } : Room).slots (Q_rm_grow1 Z a1 mc wE kE h0 n0) (s₁.setTop (entryFrame m #[(.ref a1), (.int (1 : Int32))] 4))
  refine own_go (Y' := s₁.setTop (mkF m 0 #[rv a1, iv (1 : Int32), .unset, .unset] [])) ?_ (fun t k => castTop (ef_17 m a1 (1 : Int32)) k)
  refine own_go ?_ (fun target hr => XS.aloadN X0.here hx rfl (hb hby d17_0) rfl rfl hr)
  show own_G _ p e below s _ _ _ (s₁.setTop (mkF m 1 #[rv a1, iv (1 : Int32), .unset, .unset] [(.ref a1)]))
  obtain ⟨T1, X1, e1, st1⟩ := getF X0 hx hZ hown (host := "") (Or.inl (hw _ (List.mem_of_getElem? (i := 66) rfl))) Via.refl e0 F_a1_elementData (g := (mkF m 1 #[rv a1, iv (1 : Int32), .unset, .unset] [(.ref a1)])) rfl rfl (hb hby d17_1)
  refine own_go ?_ (fun target hr => st1 _ hr)
  show own_G _ p e below s _ _ _ (T1.setTop (mkF m 4 #[rv a1, iv (1 : Int32), .unset, .unset] [(.ref wE)]))
  obtain ⟨cl2, Ar2, -, S2, M2, -, -⟩ := id (V_wE.ext hold.2)
  refine own_go ?_ (fun target hr => X1.arraylength hx (by rw [e1]; exact Ar2.1) (State.isArrayOf_alike hZ.alike Ar2.2.1) (g := (mkF m 4 #[rv a1, iv (1 : Int32), .unset, .unset] [(.ref wE)])) rfl rfl (hb hby d17_4) _ hr)
  rw [len_of S2 M2]
  show own_G _ p e below s _ _ _ (T1.setTop (mkF m 5 #[rv a1, iv (1 : Int32), .unset, .unset] [(.int (0 : Int32))]))
  refine own_go ?_ (fun target hr => XS.istoreN X1.here hx rfl (hb hby d17_5) rfl (l' := #[rv a1, iv (1 : Int32), iv (0 : Int32), .unset]) rfl (XS.iloadN X1.here hx rfl (hb hby d17_6) rfl (XS.ifNo X1.here hx rfl (hb hby d17_7) rfl ((if0 _ _).trans (flt (by decide : ¬ ((0 : Int32) < (0 : Int32)))).2.2.1) (XS.aloadN X1.here hx rfl (hb hby d17_10) rfl rfl hr))))
  show own_G _ p e below s _ _ _ (T1.setTop (mkF m 11 #[rv a1, iv (1 : Int32), iv (0 : Int32), .unset] [(.ref a1)]))
  obtain ⟨T3, X3, e3, st3⟩ := getF X1 hx hZ hown (host := "") (Or.inl (hw _ (List.mem_of_getElem? (i := 66) rfl))) Via.refl e1 F_a1_elementData (g := (mkF m 11 #[rv a1, iv (1 : Int32), iv (0 : Int32), .unset] [(.ref a1)])) rfl rfl (hb hby d17_11)
  refine own_go ?_ (fun target hr => st3 _ hr)
  show own_G _ p e below s _ _ _ (T3.setTop (mkF m 14 #[rv a1, iv (1 : Int32), iv (0 : Int32), .unset] [(.ref wE)]))
  obtain ⟨T4, X4, e4, st4⟩ := getS2 X3 hx hZ hown (host := "") (Or.inl (hw _ (List.mem_of_getElem? (i := 65) rfl))) Via.refl e3 (S_DEFAULTCAPACITY_EMPTY_ELEMENTDATA.ext hold.2) (g := (mkF m 14 #[rv a1, iv (1 : Int32), iv (0 : Int32), .unset] [(.ref wE)])) rfl (hb hby d17_14)
  refine own_go ?_ (fun target hr => st4 _ (Jvm.RoadKit.acmp (g := (mkF m 17 #[rv a1, iv (1 : Int32), iv (0 : Int32), .unset] [(.ref wE), (.ref wE)])) X4 hx rfl rfl rfl (pc0 := 17) (pc' := 45) (same := true) rfl (hb hby d17_17) rfl (decide_eq_true rfl) (by decide) (by decide) (XS.aloadN X4.here hx rfl (hb hby d17_45) rfl rfl (XS.bipush X4.here hx rfl (hb hby d17_46) (XS.iloadN X4.here hx rfl (hb hby d17_48) rfl hr)))))
  show own_G _ p e below s _ _ _ (T4.setTop (mkF m 49 #[rv a1, iv (1 : Int32), iv (0 : Int32), .unset] [(.int (1 : Int32)), (.int (10 : Int32)), (.ref a1)]))
  obtain ⟨_, _, ⟨T5, L5, k5, n5⟩, -, X5, ⟨Lc5, hQ5, l5, y5, z5⟩, st5⟩ := Jvm.LawKit.callS X4 hx (y := (⟨"java/lang/Math", "max", "(II)I"⟩ : MethodName)) hown (mvT hZ (hw _ (List.mem_of_getElem? (i := 96) rfl))) (mvT hZ (hw _ (List.mem_of_getElem? (i := 97) rfl))) (mvT hZ (hw _ (List.mem_of_getElem? (i := 98) rfl))) (mvT hZ (hw _ (List.mem_of_getElem? (i := 99) rfl))) (by decide) (backOf (W := 1) (rm_max l Z a0 hw []  h0 n0 Z0 ) hZ (hw _ (List.mem_of_getElem? (i := 99) rfl)) (hw _ (List.mem_of_getElem? (i := 98) rfl)) (by decide) (by decide)) (g := (mkF m 49 #[rv a1, iv (1 : Int32), iv (0 : Int32), .unset] [(.int (1 : Int32)), (.int (10 : Int32)), (.ref a1)])) rfl (by rw [hml]; rfl) (argsL := [(.int (10 : Int32)), (.int (1 : Int32))]) (rest := [(.ref a1)]) (lenOf pd__II_I rfl) rfl (by show 2 * 0 + _ ≤ _; exact Nat.le_of_eq rfl) (hb hby d17_49) (fun _ _ => ⟨rfl, e4, (by decide : 0 + 0 ≤ _), (by decide : 0 + 0 ≤ _)⟩)
  dsimp only [Pt.U, Pt.locs, Pt.cells, Pt.slots] at X5 l5 y5 z5 st5 hQ5
  subst l5 y5 z5
  obtain ⟨rfl, N5q, e5⟩ := hQ5
  have N5 := Fr.app N0 N5q
  refine own_go ?_ (fun target hr => st5 _ hr)
  show own_G _ p e below s _ _ _ (T5.setTop (mkF m 52 #[rv a1, iv (1 : Int32), iv (0 : Int32), .unset] [(.int (10 : Int32)), (.ref a1)]))
  obtain ⟨T6, h6, k6, X6, e6, E6, A6, B6, O6, st6⟩ := newRE X5 hx hZ hown (hw _ (List.mem_of_getElem? (i := 100) rfl)) (hw _ (List.mem_of_getElem? (i := 101) rfl)) e5 (g := (mkF m 52 #[rv a1, iv (1 : Int32), iv (0 : Int32), .unset] [(.int (10 : Int32)), (.ref a1)])) rfl (hb hby d17_52) rfl (by decide) (cap := 10) (by decide) (by decide) (by decide) (by decide) (ad := "[Ljava/lang/Object;") (by decide)
  obtain ⟨b6, g6⟩ : ∃ z, z = h0.size := ⟨_, rfl⟩
  rw [← g6] at A6 B6 st6
  have V6 : Arv Z h6 b6 k6 (.object "java/lang/Object") (10 : Int32) [.null, .null, .null, .null, .null, .null, .null, .null, .null, .null] .null := (Arv.new A6 (by decide)).pad (pad_rep [] .null 10)
  have g_b6 : n0 ≤ b6 := Nat.le_trans Z0 (Nat.le_of_eq g6.symm)
  have sz_b6 : h0.size ≤ b6 := Nat.le_trans (Keep.refl h0 [a1]).1 (Nat.le_of_eq g6.symm)
  refine own_go ?_ (fun target hr => st6 _ (XS.dupX1 X6.here hx rfl (hb hby d17_55) rfl rfl rfl hr))
  show own_G _ p e below s _ _ _ (T6.setTop (mkF m 56 #[rv a1, iv (1 : Int32), iv (0 : Int32), .unset] [(.ref b6), (.ref a1), (.ref b6)]))
  obtain ⟨T7, h7, X7, e7, W7, st7⟩ := putF X6 hx hZ hown (host := "") (Or.inl (hw _ (List.mem_of_getElem? (i := 66) rfl))) Via.refl e6 (F_a1_elementData.ext E6) (E_a1.ext E6) (Or.inl (hw _ (List.mem_of_getElem? (i := 67) rfl))) (hw _ (List.mem_of_getElem? (i := 45) rfl)) (ty := (.array (.object "java/lang/Object"))) (by decide) rfl rfl (g := (mkF m 56 #[rv a1, iv (1 : Int32), iv (0 : Int32), .unset] [(.ref b6), (.ref a1), (.ref b6)])) rfl rfl (hb hby d17_56)
  have Fw7 := (F_a1_elementData.ext E6).same W7
  have N7 := Fr.snoc X7 N5 g_a1
  refine own_go ?_ (fun target hr => st7 _ hr)
  show own_G _ p e below s _ _ _ (T7.setTop (mkF m 59 #[rv a1, iv (1 : Int32), iv (0 : Int32), .unset] [(.ref b6)]))
  obtain ⟨fs, hr, hrun, hended, hW, hsame⟩ := X7.leave (v := some (.ref b6)) (fun h => by rw [Bd.returns] at h; cases h)
  exact ⟨_, _, retOut X7 hx Bd.returns rfl (Or.inr (Or.inr (Or.inr (Or.inr ⟨rfl, rfl, rfl⟩)))) (hb hby d17_59) hr, hrun, hended, _, _, rfl, (by rw [show (T7.setFrames fs).heap = h7 from e7]; exact ⟨b6, k6, rfl, N7, (((Keep.refl h0 [a1]).ext E6).wr W7 (Or.inl (List.mem_of_getElem? (i := 0) rfl))), sz_b6, ((E_a1.ext E6).wr W7), ((F_a1_modCount.ext E6).other W7 (Or.inr (slot_ne (Or.inl (hw _ (List.mem_of_getElem? (i := 64) rfl))) (Or.inl (hw _ (List.mem_of_getElem? (i := 67) rfl))) (by decide) (t := .int) (t' := (.array (.object "java/lang/Object"))) (by decide) (by decide)))), Fw7, ((F_a1_size.ext E6).other W7 (Or.inr (slot_ne (Or.inl (hw _ (List.mem_of_getElem? (i := 80) rfl))) (Or.inl (hw _ (List.mem_of_getElem? (i := 67) rfl))) (by decide) (t := .int) (t' := (.array (.object "java/lang/Object"))) (by decide) (by decide)))), (V6.other W7 (Ne.symm (Nat.ne_of_lt (Nat.lt_of_lt_of_le E_a1.lt (Nat.le_of_eq g6.symm))))), (B6.wr W7), O6⟩), ⟨_, rfl⟩, hW, hsame.mono (by decide) (by decide)⟩
theorem d16_0 : decode jdk_38_method_7_code 0 = .ok (.aload_n 0, 1) := by decide +kernel
theorem d16_1 : decode jdk_38_method_7_code 1 = .ok (.aload_n 0, 1) := by decide +kernel
theorem d16_2 : decode jdk_38_method_7_code 2 = .ok (.getfield 48, 3) := by decide +kernel
theorem d16_5 : decode jdk_38_method_7_code 5 = .ok (.iconst 1, 1) := by decide +kernel
theorem d16_6 : decode jdk_38_method_7_code 6 = .ok (.iadd, 1) := by decide +kernel
theorem d16_7 : decode jdk_38_method_7_code 7 = .ok (.invokevirtual 69, 3) := by decide +kernel
theorem d16_10 : decode jdk_38_method_7_code 10 = .ok (.areturn, 1) := by decide +kernel
theorem pn_16 : plainName "java/util/ArrayList" = true := by first | (simp [plainName, overriddenIn]; done) | decide +kernel
theorem pd__I__Ljava_lang_Object_ : parseMethodDescriptor "(I)[Ljava/lang/Object;" = some ⟨[.int], some (.array (.object "java/lang/Object"))⟩ := by decide +kernel
theorem ef_16 (m : MethodId) (x0 : Addr) : entryFrame m #[(.ref x0)] 1 = mkF m 0 #[rv x0] [] := by first | (simp [entryFrame, mkF, argsToLocals, Value.category]; done) | rfl
def Q_rm_grow0 (Z : State) (a1 : Addr) (mc : Int32) (wE : Addr) (kE : ClassId) (h0 : Heap) (n0 : Nat) : Option Value → Heap → List Loc → Prop := fun v h L => ∃ (nb : Addr) (nk : ClassId), v = some (.ref nb) ∧ Fr n0 L ∧ Keep h0 h [a1] ∧ h0.size ≤ nb ∧ Exa Z h a1 "java/util/ArrayList" ∧ Fld Z h a1 "java/util/AbstractList" "modCount" "I" (.int mc) ∧ Fld Z h a1 "java/util/ArrayList" "elementData" "[Ljava/lang/Object;" (.ref nb) ∧ Fld Z h a1 "java/util/ArrayList" "size" "I" (.int (0 : Int32)) ∧ Arv Z h nb nk (.object "java/lang/Object") (10 : Int32) [.null, .null, .null, .null, .null, .null, .null, .null, .null, .null] .null ∧ Exa Z h nb "[Ljava/lang/Object;" ∧ Ovr Z nk "java/lang/Object"
set_option maxRecDepth 65536 in
set_option maxHeartbeats 40000000 in
theorem rm_grow0 (l : Launch) (Z : State) (a0 : Array Value) (hw : ∀ d ∈ tables_1, d.before a0 Z = true) (ws : List Jvm.Cond) (a1 : Addr) (mc : Int32) (wE : Addr) (kE : ClassId) (h0 : Heap) (n0 : Nat) (Z0 : n0 ≤ h0.size) (E_a1 : Exa Z h0 a1 "java/util/ArrayList") (F_a1_modCount : Fld Z h0 a1 "java/util/AbstractList" "modCount" "I" (.int mc)) (F_a1_elementData : Fld Z h0 a1 "java/util/ArrayList" "elementData" "[Ljava/lang/Object;" (.ref wE)) (F_a1_size : Fld Z h0 a1 "java/util/ArrayList" "size" "I" (.int (0 : Int32))) (g_a1 : n0 ≤ a1) (hold : Old Z n0 h0) (S_DEFAULTCAPACITY_EMPTY_ELEMENTDATA : Sta Z Z.heap "java/util/ArrayList" "DEFAULTCAPACITY_EMPTY_ELEMENTDATA" "[Ljava/lang/Object;" (.ref wE)) (V_wE : Arv Z Z.heap wE kE (.object "java/lang/Object") (0 : Int32) [] .null) :
    MetFree l (⟨"java/util/ArrayList", "grow", "()[Ljava/lang/Object;"⟩ : MethodName) (head1 (Jvm.Cond.code (⟨"java/util/ArrayList", "grow", "()[Ljava/lang/Object;"⟩ : MethodName) jdk_38_method_7_code 1 (some (.array (.object "java/lang/Object"))) :: ws) ({ frames := 2, cells := 1, slots := 10, locals := 29 } : Room)) (fun a U => a = #[(.ref a1)] ∧ Z.Warmed39 U.vm ∧ U.heap = h0) (fun _ _ _ _ _ => True) (fun _ U o U' => ∃ v L, o = .returned v ∧ (Q_rm_grow0 Z a1 mc wE kE h0 n0) v U'.heap L ∧ FrameEnd U o U' L ({ frames := 2, cells := 1, slots := 10, locals := 29 } : Room).cells ({ frames := 2, cells := 1, slots := 10, locals := 29 } : Room).slots) := by
  refine MetFree.of_bodySF (plainFor_of_name pn_16) hisR ?_
  intro p e s m args below meth c s₁ Bd hml0 hP hK
  obtain ⟨rfl, hZ, hh⟩ := hP
  have hx := Bd.exec
  have hby := Bd.bytes
  have hml : c.maxLocals = 1 := hml0
  have hown : s.vm.findClass "java/util/ArrayList" = some m.cls := findClass_of_methodNamed Bd.named
  have hnm := (name_of_methodNamed Bd.named Bd.method).1
  have X0 : Stand p l e ({ frames := 2, cells := 1, slots := 10, locals := 29 } : Room) s m #[(.ref a1)] below meth c s₁ [] 0 0 := Stand.of_body Bd
  have e0 : s₁.heap = h0 := by rw [← hh, Bd.state]; rfl
  have N0 := Fr.nil n0
  show own_G FrameEnd p e below s ({ frames := 2, cells := 1, slots := 10, locals := 29 } : Room).cells ({ frames := 2, cells := 1, slots := 10, locals := 29 } : Room).slots (Q_rm_grow0 Z a1 mc wE kE h0 n0) (s₁.setTop (entryFrame m #[(.ref a1)] 1))
  refine own_go (Y' := s₁.setTop (mkF m 0 #[rv a1] [])) ?_ (fun t k => castTop (ef_16 m a1) k)
  refine own_go ?_ (fun target hr => XS.aloadN X0.here hx rfl (hb hby d16_0) rfl rfl (XS.aloadN X0.here hx rfl (hb hby d16_1) rfl rfl hr))
  show own_G _ p e below s _ _ _ (s₁.setTop (mkF m 2 #[rv a1] [(.ref a1), (.ref a1)]))
  obtain ⟨T1, X1, e1, st1⟩ := getF X0 hx hZ hown (host := "") (Or.inl (hw _ (List.mem_of_getElem? (i := 79) rfl))) Via.refl e0 F_a1_size (g := (mkF m 2 #[rv a1] [(.ref a1), (.ref a1)])) rfl rfl (hb hby d16_2)
  refine own_go ?_ (fun target hr => st1 _ (XS.iconst X1.here hx rfl (hb hby d16_5) (XS.iadd X1.here hx rfl (hb hby d16_6) rfl hr)))
  show own_G _ p e below s _ _ _ (T1.setTop (mkF m 7 #[rv a1] [(.int (1 : Int32)), (.ref a1)]))
  obtain ⟨cq2, qp2, qp2'⟩ := E_a1.cell
  obtain ⟨_, _, ⟨T2, L2, k2, n2⟩, -, X2, ⟨Lc2, hQ2, l2, y2, z2⟩, st2⟩ := X1.privateBack hx (y := (⟨"java/util/ArrayList", "grow", "(I)[Ljava/lang/Object;"⟩ : MethodName)) hown (mvT hZ (hw _ (List.mem_of_getElem? (i := 91) rfl))) (mvT hZ (hw _ (List.mem_of_getElem? (i := 92) rfl))) (mvT hZ (hw _ (List.mem_of_getElem? (i := 94) rfl))) (Cond.privateMethod_at (mvP hZ (hw _ (List.mem_of_getElem? (i := 93) rfl)) (args := #[]))) (mvT hZ (hw _ (List.mem_of_getElem? (i := 95) rfl))) (by decide) (backOf (W := 0) (rm_grow1 l Z a0 hw [] a1 mc wE kE h0 n0 Z0 E_a1 F_a1_modCount F_a1_elementData F_a1_size g_a1 hold S_DEFAULTCAPACITY_EMPTY_ELEMENTDATA V_wE) hZ (hw _ (List.mem_of_getElem? (i := 95) rfl)) (hw _ (List.mem_of_getElem? (i := 46) rfl)) (by decide) (by decide)) (g := (mkF m 7 #[rv a1] [(.int (1 : Int32)), (.ref a1)])) rfl (by rw [hml]; rfl) (Steps.refl _) (a := a1) (by rw [e1]; exact qp2) qp2' (argsL := [(.int (1 : Int32))]) (rest := []) (lenOf pd__I__Ljava_lang_Object_ rfl) rfl (by show 2 * 0 + _ ≤ _; exact Nat.le_of_eq rfl) (hb hby d16_7) (fun _ _ => ⟨rfl, e1, (by decide : 0 + 1 ≤ _), (by decide : 0 + 10 ≤ _)⟩)
  dsimp only [Pt.U, Pt.locs, Pt.cells, Pt.slots] at X2 l2 y2 z2 st2 hQ2
  subst l2 y2 z2
  obtain ⟨b2_0, kb2_1, rfl, N2q, K2, yb2_0, P2_0, P2_1, P2_2, P2_3, P2_4, P2_5, P2_6⟩ := hQ2
  have g_b2_0 : n0 ≤ b2_0 := Nat.le_trans Z0 yb2_0
  have sz_b2_0 : h0.size ≤ b2_0 := Nat.le_trans (Keep.refl h0 [a1]).1 yb2_0
  have N2 := Fr.app N0 N2q
  refine own_go ?_ (fun target hr => st2.trans hr)
  show own_G _ p e below s _ _ _ (T2.setTop (mkF m 10 #[rv a1] [(.ref b2_0)]))
  obtain ⟨fs, hr, hrun, hended, hW, hsame⟩ := X2.leave (v := some (.ref b2_0)) (fun h => by rw [Bd.returns] at h; cases h)
  exact ⟨_, _, retOut X2 hx Bd.returns rfl (Or.inr (Or.inr (Or.inr (Or.inr ⟨rfl, rfl, rfl⟩)))) (hb hby d16_10) hr, hrun, hended, _, _, rfl, ⟨b2_0, kb2_1, rfl, N2, ((Keep.refl h0 [a1]).trans K2 (allS (Or.inl (List.mem_of_getElem? (i := 0) rfl)) all0)), sz_b2_0, P2_0, P2_1, P2_2, P2_3, P2_4, P2_5, P2_6⟩, ⟨_, rfl⟩, hW, hsame.mono (by decide) (by decide)⟩
theorem d15_0 : decode jdk_38_method_24_code 0 = .ok (.iload_n 3, 1) := by decide +kernel
theorem d15_1 : decode jdk_38_method_24_code 1 = .ok (.aload_n 2, 1) := by decide +kernel
theorem d15_2 : decode jdk_38_method_24_code 2 = .ok (.arraylength, 1) := by decide +kernel
theorem d15_3 : decode jdk_38_method_24_code 3 = .ok (.if_icmp .ne 8, 3) := by decide +kernel
theorem d15_6 : decode jdk_38_method_24_code 6 = .ok (.aload_n 0, 1) := by decide +kernel
theorem d15_7 : decode jdk_38_method_24_code 7 = .ok (.invokevirtual 129, 3) := by decide +kernel
theorem d15_10 : decode jdk_38_method_24_code 10 = .ok (.astore_n 2, 1) := by decide +kernel
theorem d15_11 : decode jdk_38_method_24_code 11 = .ok (.aload_n 2, 1) := by decide +kernel
theorem d15_12 : decode jdk_38_method_24_code 12 = .ok (.iload_n 3, 1) := by decide +kernel
theorem d15_13 : decode jdk_38_method_24_code 13 = .ok (.aload_n 1, 1) := by decide +kernel
theorem d15_14 : decode jdk_38_method_24_code 14 = .ok (.aastore, 1) := by decide +kernel
theorem d15_15 : decode jdk_38_method_24_code 15 = .ok (.aload_n 0, 1) := by decide +kernel
theorem d15_16 : decode jdk_38_method_24_code 16 = .ok (.iload_n 3, 1) := by decide +kernel
theorem d15_17 : decode jdk_38_method_24_code 17 = .ok (.iconst 1, 1) := by decide +kernel
theorem d15_18 : decode jdk_38_method_24_code 18 = .ok (.iadd, 1) := by decide +kernel
theorem d15_19 : decode jdk_38_method_24_code 19 = .ok (.putfield 48, 3) := by decide +kernel
theorem d15_22 : decode jdk_38_method_24_code 22 = .ok (.return_, 1) := by decide +kernel
theorem pn_15 : plainName "java/util/ArrayList" = true := by first | (simp [plainName, overriddenIn]; done) | decide +kernel
theorem pd____Ljava_lang_Object_ : parseMethodDescriptor "()[Ljava/lang/Object;" = some ⟨[], some (.array (.object "java/lang/Object"))⟩ := by decide +kernel
theorem ef_15 (m : MethodId) (x0 : Addr) (x1 : Addr) (x2 : Addr) (x3 : Int32) : entryFrame m #[(.ref x0), (.ref x1), (.ref x2), (.int x3)] 4 = mkF m 0 #[rv x0, rv x1, rv x2, iv x3] [] := by first | (simp [entryFrame, mkF, argsToLocals, Value.category]; done) | rfl
def Q_rm_add3_0 (Z : State) (a1 : Addr) (a2 : Addr) (wE : Addr) (mc : Int32) (kE : ClassId) (h0 : Heap) (n0 : Nat) : Option Value → Heap → List Loc → Prop := fun v h L => ∃ (nb : Addr) (nk : ClassId), v = none ∧ Fr n0 L ∧ Keep h0 h [a1] ∧ h0.size ≤ nb ∧ Exa Z h a1 "java/util/ArrayList" ∧ Fld Z h a1 "java/util/AbstractList" "modCount" "I" (.int mc) ∧ Fld Z h a1 "java/util/ArrayList" "elementData" "[Ljava/lang/Object;" (.ref nb) ∧ Fld Z h a1 "java/util/ArrayList" "size" "I" (.int (1 : Int32)) ∧ Arv Z h nb nk (.object "java/lang/Object") (10 : Int32) [(.ref a2), .null, .null, .null, .null, .null, .null, .null, .null, .null] .null ∧ Exa Z h nb "[Ljava/lang/Object;" ∧ Ovr Z nk "java/lang/Object"
set_option maxRecDepth 65536 in
set_option maxHeartbeats 40000000 in
theorem rm_add3_0 (l : Launch) (Z : State) (a0 : Array Value) (hw : ∀ d ∈ tables_1, d.before a0 Z = true) (ws : List Jvm.Cond) (a1 : Addr) (a2 : Addr) (wE : Addr) (mc : Int32) (kE : ClassId) (h0 : Heap) (n0 : Nat) (Z0 : n0 ≤ h0.size) (E_a1 : Exa Z h0 a1 "java/util/ArrayList") (F_a1_modCount : Fld Z h0 a1 "java/util/AbstractList" "modCount" "I" (.int mc)) (F_a1_elementData : Fld Z h0 a1 "java/util/ArrayList" "elementData" "[Ljava/lang/Object;" (.ref wE)) (F_a1_size : Fld Z h0 a1 "java/util/ArrayList" "size" "I" (.int (0 : Int32))) (g_a1 : n0 ≤ a1) (hold : Old Z n0 h0) (S_DEFAULTCAPACITY_EMPTY_ELEMENTDATA : Sta Z Z.heap "java/util/ArrayList" "DEFAULTCAPACITY_EMPTY_ELEMENTDATA" "[Ljava/lang/Object;" (.ref wE)) (V_wE : Arv Z Z.heap wE kE (.object "java/lang/Object") (0 : Int32) [] .null) (E_a2 : Exa Z h0 a2 "java/lang/String") :
    MetFree l (⟨"java/util/ArrayList", "add", "(Ljava/lang/Object;[Ljava/lang/Object;I)V"⟩ : MethodName) (head1 (Jvm.Cond.code (⟨"java/util/ArrayList", "add", "(Ljava/lang/Object;[Ljava/lang/Object;I)V"⟩ : MethodName) jdk_38_method_24_code 4 none :: ws) ({ frames := 3, cells := 1, slots := 10, locals := 41 } : Room)) (fun a U => a = #[(.ref a1), (.ref a2), (.ref wE), (.int (0 : Int32))] ∧ Z.Warmed39 U.vm ∧ U.heap = h0) (fun _ _ _ _ _ => True) (fun _ U o U' => ∃ v L, o = .returned v ∧ (Q_rm_add3_0 Z a1 a2 wE mc kE h0 n0) v U'.heap L ∧ FrameEnd U o U' L ({ frames := 3, cells := 1, slots := 10, locals := 41 } : Room).cells ({ frames := 3, cells := 1, slots := 10, locals := 41 } : Room).slots) := by
  refine MetFree.of_bodySF (plainFor_of_name pn_15) hisR ?_
  intro p e s m args below meth c s₁ Bd hml0 hP hK
  obtain ⟨rfl, hZ, hh⟩ := hP
  have hx := Bd.exec
  have hby := Bd.bytes
  have hml : c.maxLocals = 4 := hml0
  have hown : s.vm.findClass "java/util/ArrayList" = some m.cls := findClass_of_methodNamed Bd.named
  have hnm := (name_of_methodNamed Bd.named Bd.method).1
  have X0 : Stand p l e ({ frames := 3, cells := 1, slots := 10, locals := 41 } : Room) s m #[(.ref a1), (.ref a2), (.ref wE), (.int (0 : Int32))] below meth c s₁ [] 0 0 := Stand.of_body Bd
  have e0 : s₁.heap = h0 := by rw [← hh, Bd.state]; rfl
  have N0 := Fr.nil n0
  show own_G FrameEnd p e below s ({ frames := 3, cells := 1, slots := 10, locals := 41 } : Room).cells ({ frames := 3, cells := 1, slots := 10, locals := 41 } : Room).slots (Q_rm_add3_0 Z a1 a2 wE mc kE h0 n0) (s₁.setTop (entryFrame m #[(.ref a1), (.ref a2), (.ref wE), (.int (0 : Int32))] 4))
  refine own_go (Y' := s₁.setTop (mkF m 0 #[rv a1, rv a2, rv wE, iv (0 : Int32)] [])) ?_ (fun t k => castTop (ef_15 m a1 a2 wE (0 : Int32)) k)
  refine own_go ?_ (fun target hr => XS.iloadN X0.here hx rfl (hb hby d15_0) rfl (XS.aloadN X0.here hx rfl (hb hby d15_1) rfl rfl hr))
  show own_G _ p e below s _ _ _ (s₁.setTop (mkF m 2 #[rv a1, rv a2, rv wE, iv (0 : Int32)] [(.ref wE), (.int (0 : Int32))]))
  obtain ⟨cl1, Ar1, -, S1, M1, -, -⟩ := id (V_wE.ext hold.2)
  refine own_go ?_ (fun target hr => X0.arraylength hx (by rw [e0]; exact Ar1.1) (State.isArrayOf_alike hZ.alike Ar1.2.1) (g := (mkF m 2 #[rv a1, rv a2, rv wE, iv (0 : Int32)] [(.ref wE), (.int (0 : Int32))])) rfl rfl (hb hby d15_2) _ hr)
  rw [len_of S1 M1]
  show own_G _ p e below s _ _ _ (s₁.setTop (mkF m 3 #[rv a1, rv a2, rv wE, iv (0 : Int32)] [(.int (0 : Int32)), (.int (0 : Int32))]))
  refine own_go ?_ (fun target hr => XS.icmpNo X0.here hx rfl (hb hby d15_3) rfl (teq (by decide : (0 : Int32) = (0 : Int32))).2 (XS.aloadN X0.here hx rfl (hb hby d15_6) rfl rfl hr))
  show own_G _ p e below s _ _ _ (s₁.setTop (mkF m 7 #[rv a1, rv a2, rv wE, iv (0 : Int32)] [(.ref a1)]))
  obtain ⟨cq2, qp2, qp2'⟩ := E_a1.cell
  obtain ⟨_, _, ⟨T2, L2, k2, n2⟩, -, X2, ⟨Lc2, hQ2, l2, y2, z2⟩, st2⟩ := X0.privateBack hx (y := (⟨"java/util/ArrayList", "grow", "()[Ljava/lang/Object;"⟩ : MethodName)) hown (mvT hZ (hw _ (List.mem_of_getElem? (i := 86) rfl))) (mvT hZ (hw _ (List.mem_of_getElem? (i := 87) rfl))) (mvT hZ (hw _ (List.mem_of_getElem? (i := 89) rfl))) (Cond.privateMethod_at (mvP hZ (hw _ (List.mem_of_getElem? (i := 88) rfl)) (args := #[]))) (mvT hZ (hw _ (List.mem_of_getElem? (i := 90) rfl))) (by decide) (backOf (W := 0) (rm_grow0 l Z a0 hw [] a1 mc wE kE h0 n0 Z0 E_a1 F_a1_modCount F_a1_elementData F_a1_size g_a1 hold S_DEFAULTCAPACITY_EMPTY_ELEMENTDATA V_wE) hZ (hw _ (List.mem_of_getElem? (i := 90) rfl)) (hw _ (List.mem_of_getElem? (i := 46) rfl)) (by decide) (by decide)) (g := (mkF m 7 #[rv a1, rv a2, rv wE, iv (0 : Int32)] [(.ref a1)])) rfl (by rw [hml]; rfl) (Steps.refl _) (a := a1) (by rw [e0]; exact qp2) qp2' (argsL := []) (rest := []) (lenOf pd____Ljava_lang_Object_ rfl) rfl (by show 2 * 0 + _ ≤ _; exact Nat.le_of_eq rfl) (hb hby d15_7) (fun _ _ => ⟨rfl, e0, (by decide : 0 + 1 ≤ _), (by decide : 0 + 10 ≤ _)⟩)
  dsimp only [Pt.U, Pt.locs, Pt.cells, Pt.slots] at X2 l2 y2 z2 st2 hQ2
  subst l2 y2 z2
  obtain ⟨b2_0, kb2_1, rfl, N2q, K2, yb2_0, P2_0, P2_1, P2_2, P2_3, P2_4, P2_5, P2_6⟩ := hQ2
  have g_b2_0 : n0 ≤ b2_0 := Nat.le_trans Z0 yb2_0
  have sz_b2_0 : h0.size ≤ b2_0 := Nat.le_trans (Keep.refl h0 [a1]).1 yb2_0
  have N2 := Fr.app N0 N2q
  refine own_go ?_ (fun target hr => st2.trans (XS.astoreN X2.here hx rfl (hb hby d15_10) rfl rfl (l' := #[rv a1, rv a2, rv b2_0, iv (0 : Int32)]) rfl (XS.aloadN X2.here hx rfl (hb hby d15_11) rfl rfl (XS.iloadN X2.here hx rfl (hb hby d15_12) rfl (XS.aloadN X2.here hx rfl (hb hby d15_13) rfl rfl hr)))))
  show own_G _ p e below s _ _ _ (T2.setTop (mkF m 14 #[rv a1, rv a2, rv b2_0, iv (0 : Int32)] [(.ref a2), (.int (0 : Int32)), (.ref b2_0)]))
  obtain ⟨cl3, Ar3, qk3, S3, M3, H3, G3⟩ := id P2_4
  have hin3 : ¬ ((0 : Int32) < 0 ∨ cl3.slots.size ≤ ((0 : Int32)).toNatClampNeg) := inb_of S3 ⟨by decide, by decide⟩
  obtain ⟨T3, h3, X3, e3, W3, st3⟩ := stR X2 hx hZ rfl Ar3 (j := (0 : Int32)) hin3 rfl (Sto.ofV Ar3 qk3 P2_6 (Ins.of_exa (E_a2.keep K2) (hw _ (List.mem_of_getElem? (i := 102) rfl)))) (g := (mkF m 14 #[rv a1, rv a2, rv b2_0, iv (0 : Int32)] [(.ref a2), (.int (0 : Int32)), (.ref b2_0)])) rfl rfl (hb hby d15_14)
  have V3 : Arv Z h3 b2_0 kb2_1 (.object "java/lang/Object") (10 : Int32) [(.ref a2), .null, .null, .null, .null, .null, .null, .null, .null, .null] .null := Arv.set Ar3 qk3 S3 M3 H3 G3 rfl W3 0 rfl (Nat.le_of_ble_eq_true rfl)
  have N3 := Fr.snoc X3 N2 g_b2_0
  refine own_go ?_ (fun target hr => st3 _ (XS.aloadN X3.here hx rfl (hb hby d15_15) rfl rfl (XS.iloadN X3.here hx rfl (hb hby d15_16) rfl (XS.iconst X3.here hx rfl (hb hby d15_17) (XS.iadd X3.here hx rfl (hb hby d15_18) rfl hr)))))
  show own_G _ p e below s _ _ _ (T3.setTop (mkF m 19 #[rv a1, rv a2, rv b2_0, iv (0 : Int32)] [(.int (1 : Int32)), (.ref a1)]))
  obtain ⟨T4, h4, X4, e4, W4, st4⟩ := putF X3 hx hZ hown (host := "") (Or.inl (hw _ (List.mem_of_getElem? (i := 79) rfl))) Via.refl e3 (P2_3.other W3 (Or.inl (Nat.ne_of_lt (Nat.lt_of_lt_of_le E_a1.lt yb2_0)))) (P2_0.wr W3) (Or.inl (hw _ (List.mem_of_getElem? (i := 80) rfl))) (hw _ (List.mem_of_getElem? (i := 45) rfl)) (ty := .int) (by decide) rfl rfl (g := (mkF m 19 #[rv a1, rv a2, rv b2_0, iv (0 : Int32)] [(.int (1 : Int32)), (.ref a1)])) rfl rfl (hb hby d15_19)
  have Fw4 := (P2_3.other W3 (Or.inl (Nat.ne_of_lt (Nat.lt_of_lt_of_le E_a1.lt yb2_0)))).same W4
  have N4 := Fr.snoc X4 N3 g_a1
  refine own_go ?_ (fun target hr => st4 _ hr)
  show own_G _ p e below s _ _ _ (T4.setTop (mkF m 22 #[rv a1, rv a2, rv b2_0, iv (0 : Int32)] []))
  obtain ⟨fs, hr, hrun, hended, hW, hsame⟩ := X4.leave (v := none) (fun _ => rfl)
  exact ⟨_, _, X4.returnOut hx Bd.returns (hb hby d15_22) hr, hrun, hended, _, _, rfl, (by rw [show (T4.setFrames fs).heap = h4 from e4]; exact ⟨b2_0, kb2_1, rfl, N4, ((((Keep.refl h0 [a1]).trans K2 (allS (Or.inl (List.mem_of_getElem? (i := 0) rfl)) all0)).wr W3 (Or.inr sz_b2_0)).wr W4 (Or.inl (List.mem_of_getElem? (i := 0) rfl))), sz_b2_0, ((P2_0.wr W3).wr W4), ((P2_1.other W3 (Or.inl (Nat.ne_of_lt (Nat.lt_of_lt_of_le E_a1.lt yb2_0)))).other W4 (Or.inr (slot_ne (Or.inl (hw _ (List.mem_of_getElem? (i := 64) rfl))) (Or.inl (hw _ (List.mem_of_getElem? (i := 80) rfl))) (by decide) (t := .int) (t' := .int) (by decide) (by decide)))), ((P2_2.other W3 (Or.inl (Nat.ne_of_lt (Nat.lt_of_lt_of_le E_a1.lt yb2_0)))).other W4 (Or.inr (slot_ne (Or.inl (hw _ (List.mem_of_getElem? (i := 67) rfl))) (Or.inl (hw _ (List.mem_of_getElem? (i := 80) rfl))) (by decide) (t := (.array (.object "java/lang/Object"))) (t' := .int) (by decide) (by decide)))), Fw4, (V3.other W4 (Ne.symm (Nat.ne_of_lt (Nat.lt_of_lt_of_le E_a1.lt yb2_0)))), ((P2_5.wr W3).wr W4), P2_6⟩), ⟨_, rfl⟩, hW, hsame.mono (by decide) (by decide)⟩
theorem d14_0 : decode jdk_38_method_25_code 0 = .ok (.aload_n 0, 1) := by decide +kernel
theorem d14_1 : decode jdk_38_method_25_code 1 = .ok (.dup, 1) := by decide +kernel
theorem d14_2 : decode jdk_38_method_25_code 2 = .ok (.getfield 63, 3) := by decide +kernel
theorem d14_5 : decode jdk_38_method_25_code 5 = .ok (.iconst 1, 1) := by decide +kernel
theorem d14_6 : decode jdk_38_method_25_code 6 = .ok (.iadd, 1) := by decide +kernel
theorem d14_7 : decode jdk_38_method_25_code 7 = .ok (.putfield 63, 3) := by decide +kernel
theorem d14_10 : decode jdk_38_method_25_code 10 = .ok (.aload_n 0, 1) := by decide +kernel
theorem d14_11 : decode jdk_38_method_25_code 11 = .ok (.aload_n 1, 1) := by decide +kernel
theorem d14_12 : decode jdk_38_method_25_code 12 = .ok (.aload_n 0, 1) := by decide +kernel
theorem d14_13 : decode jdk_38_method_25_code 13 = .ok (.getfield 9, 3) := by decide +kernel
theorem d14_16 : decode jdk_38_method_25_code 16 = .ok (.aload_n 0, 1) := by decide +kernel
theorem d14_17 : decode jdk_38_method_25_code 17 = .ok (.getfield 48, 3) := by decide +kernel
theorem d14_20 : decode jdk_38_method_25_code 20 = .ok (.invokevirtual 131, 3) := by decide +kernel
theorem d14_23 : decode jdk_38_method_25_code 23 = .ok (.iconst 1, 1) := by decide +kernel
theorem d14_24 : decode jdk_38_method_25_code 24 = .ok (.ireturn, 1) := by decide +kernel
theorem pn_14 : plainName "java/util/ArrayList" = true := by first | (simp [plainName, overriddenIn]; done) | decide +kernel
theorem pd__Ljava_lang_Object__Ljava_lang_Object_I_V : parseMethodDescriptor "(Ljava/lang/Object;[Ljava/lang/Object;I)V" = some ⟨[(.object "java/lang/Object"), (.array (.object "java/lang/Object")), .int], none⟩ := by decide +kernel
theorem ef_14 (m : MethodId) (x0 : Addr) (x1 : Addr) : entryFrame m #[(.ref x0), (.ref x1)] 2 = mkF m 0 #[rv x0, rv x1] [] := by first | (simp [entryFrame, mkF, argsToLocals, Value.category]; done) | rfl
def Q_rm_add1_0 (Z : State) (a1 : Addr) (a2 : Addr) (mc : Int32) (wE : Addr) (kE : ClassId) (h0 : Heap) (n0 : Nat) : Option Value → Heap → List Loc → Prop := fun v h L => ∃ (nb : Addr) (nk : ClassId), v = some (.int (1 : Int32)) ∧ Fr n0 L ∧ Keep h0 h [a1] ∧ h0.size ≤ nb ∧ Exa Z h a1 "java/util/ArrayList" ∧ Fld Z h a1 "java/util/AbstractList" "modCount" "I" (.int (mc + (1 : Int32))) ∧ Fld Z h a1 "java/util/ArrayList" "elementData" "[Ljava/lang/Object;" (.ref nb) ∧ Fld Z h a1 "java/util/ArrayList" "size" "I" (.int (1 : Int32)) ∧ Arv Z h nb nk (.object "java/lang/Object") (10 : Int32) [(.ref a2), .null, .null, .null, .null, .null, .null, .null, .null, .null] .null ∧ Exa Z h nb "[Ljava/lang/Object;" ∧ Ovr Z nk "java/lang/Object"
set_option maxRecDepth 65536 in
set_option maxHeartbeats 40000000 in
theorem rm_add1_0 (l : Launch) (Z : State) (a0 : Array Value) (hw : ∀ d ∈ tables_1, d.before a0 Z = true) (ws : List Jvm.Cond) (a1 : Addr) (a2 : Addr) (mc : Int32) (wE : Addr) (kE : ClassId) (h0 : Heap) (n0 : Nat) (Z0 : n0 ≤ h0.size) (E_a1 : Exa Z h0 a1 "java/util/ArrayList") (F_a1_modCount : Fld Z h0 a1 "java/util/AbstractList" "modCount" "I" (.int mc)) (F_a1_elementData : Fld Z h0 a1 "java/util/ArrayList" "elementData" "[Ljava/lang/Object;" (.ref wE)) (F_a1_size : Fld Z h0 a1 "java/util/ArrayList" "size" "I" (.int (0 : Int32))) (g_a1 : n0 ≤ a1) (hold : Old Z n0 h0) (S_DEFAULTCAPACITY_EMPTY_ELEMENTDATA : Sta Z Z.heap "java/util/ArrayList" "DEFAULTCAPACITY_EMPTY_ELEMENTDATA" "[Ljava/lang/Object;" (.ref wE)) (V_wE : Arv Z Z.heap wE kE (.object "java/lang/Object") (0 : Int32) [] .null) (E_a2 : Exa Z h0 a2 "java/lang/String") :
    MetFree l (⟨"java/util/ArrayList", "add", "(Ljava/lang/Object;)Z"⟩ : MethodName) (head1 (Jvm.Cond.code (⟨"java/util/ArrayList", "add", "(Ljava/lang/Object;)Z"⟩ : MethodName) jdk_38_method_25_code 2 (some .boolean) :: ws) ({ frames := 4, cells := 1, slots := 10, locals := 56 } : Room)) (fun a U => a = #[(.ref a1), (.ref a2)] ∧ Z.Warmed39 U.vm ∧ U.heap = h0) (fun _ _ _ _ _ => True) (fun _ U o U' => ∃ v L, o = .returned v ∧ (Q_rm_add1_0 Z a1 a2 mc wE kE h0 n0) v U'.heap L ∧ FrameEnd U o U' L ({ frames := 4, cells := 1, slots := 10, locals := 56 } : Room).cells ({ frames := 4, cells := 1, slots := 10, locals := 56 } : Room).slots) := by
  refine MetFree.of_bodySF (plainFor_of_name pn_14) hisR ?_
  intro p e s m args below meth c s₁ Bd hml0 hP hK
  obtain ⟨rfl, hZ, hh⟩ := hP
  have hx := Bd.exec
  have hby := Bd.bytes
  have hml : c.maxLocals = 2 := hml0
  have hown : s.vm.findClass "java/util/ArrayList" = some m.cls := findClass_of_methodNamed Bd.named
  have hnm := (name_of_methodNamed Bd.named Bd.method).1
  have X0 : Stand p l e ({ frames := 4, cells := 1, slots := 10, locals := 56 } : Room) s m #[(.ref a1), (.ref a2)] below meth c s₁ [] 0 0 := Stand.of_body Bd
  have e0 : s₁.heap = h0 := by rw [← hh, Bd.state]; rfl
  have N0 := Fr.nil n0
  show own_G FrameEnd p e below s ({ frames := 4, cells := 1, slots := 10, locals := 56 } : Room).cells ({ frames := 4, cells := 1, slots := 10, locals := 56 } : Room).slots (Q_rm_add1_0 Z a1 a2 mc wE kE h0 n0) (s₁.setTop (entryFrame m #[(.ref a1), (.ref a2)] 2))
  refine own_go (Y' := s₁.setTop (mkF m 0 #[rv a1, rv a2] [])) ?_ (fun t k => castTop (ef_14 m a1 a2) k)
  refine own_go ?_ (fun target hr => XS.aloadN X0.here hx rfl (hb hby d14_0) rfl rfl (XS.dup X0.here hx rfl (hb hby d14_1) rfl rfl hr))
  show own_G _ p e below s _ _ _ (s₁.setTop (mkF m 2 #[rv a1, rv a2] [(.ref a1), (.ref a1)]))
  obtain ⟨T1, X1, e1, st1⟩ := getF X0 hx hZ hown (host := "") (Or.inl (hw _ (List.mem_of_getElem? (i := 77) rfl))) (Via.of (hw _ (List.mem_of_getElem? (i := 78) rfl))) e0 F_a1_modCount (g := (mkF m 2 #[rv a1, rv a2] [(.ref a1), (.ref a1)])) rfl rfl (hb hby d14_2)
  refine own_go ?_ (fun target hr => st1 _ (XS.iconst X1.here hx rfl (hb hby d14_5) (XS.iadd X1.here hx rfl (hb hby d14_6) rfl hr)))
  show own_G _ p e below s _ _ _ (T1.setTop (mkF m 7 #[rv a1, rv a2] [(.int (mc + (1 : Int32))), (.ref a1)]))
  obtain ⟨T2, h2, X2, e2, W2, st2⟩ := putF X1 hx hZ hown (host := "") (Or.inl (hw _ (List.mem_of_getElem? (i := 77) rfl))) (Via.of (hw _ (List.mem_of_getElem? (i := 78) rfl))) e1 F_a1_modCount E_a1 (Or.inl (hw _ (List.mem_of_getElem? (i := 64) rfl))) (hw _ (List.mem_of_getElem? (i := 45) rfl)) (ty := .int) (by decide) rfl rfl (g := (mkF m 7 #[rv a1, rv a2] [(.int (mc + (1 : Int32))), (.ref a1)])) rfl rfl (hb hby d14_7)
  have Fw2 := F_a1_modCount.same W2
  have N2 := Fr.snoc X2 N0 g_a1
  refine own_go ?_ (fun target hr => st2 _ (XS.aloadN X2.here hx rfl (hb hby d14_10) rfl rfl (XS.aloadN X2.here hx rfl (hb hby d14_11) rfl rfl (XS.aloadN X2.here hx rfl (hb hby d14_12) rfl rfl hr))))
  show own_G _ p e below s _ _ _ (T2.setTop (mkF m 13 #[rv a1, rv a2] [(.ref a1), (.ref a2), (.ref a1)]))
  obtain ⟨T3, X3, e3, st3⟩ := getF X2 hx hZ hown (host := "") (Or.inl (hw _ (List.mem_of_getElem? (i := 66) rfl))) Via.refl e2 (F_a1_elementData.other W2 (Or.inr (slot_ne (Or.inl (hw _ (List.mem_of_getElem? (i := 67) rfl))) (Or.inl (hw _ (List.mem_of_getElem? (i := 64) rfl))) (by decide) (t := (.array (.object "java/lang/Object"))) (t' := .int) (by decide) (by decide)))) (g := (mkF m 13 #[rv a1, rv a2] [(.ref a1), (.ref a2), (.ref a1)])) rfl rfl (hb hby d14_13)
  refine own_go ?_ (fun target hr => st3 _ (XS.aloadN X3.here hx rfl (hb hby d14_16) rfl rfl hr))
  show own_G _ p e below s _ _ _ (T3.setTop (mkF m 17 #[rv a1, rv a2] [(.ref a1), (.ref wE), (.ref a2), (.ref a1)]))
  obtain ⟨T4, X4, e4, st4⟩ := getF X3 hx hZ hown (host := "") (Or.inl (hw _ (List.mem_of_getElem? (i := 79) rfl))) Via.refl e3 (F_a1_size.other W2 (Or.inr (slot_ne (Or.inl (hw _ (List.mem_of_getElem? (i := 80) rfl))) (Or.inl (hw _ (List.mem_of_getElem? (i := 64) rfl))) (by decide) (t := .int) (t' := .int) (by decide) (by decide)))) (g := (mkF m 17 #[rv a1, rv a2] [(.ref a1), (.ref wE), (.ref a2), (.ref a1)])) rfl rfl (hb hby d14_17)
  refine own_go ?_ (fun target hr => st4 _ hr)
  show own_G _ p e below s _ _ _ (T4.setTop (mkF m 20 #[rv a1, rv a2] [(.int (0 : Int32)), (.ref wE), (.ref a2), (.ref a1)]))
  obtain ⟨cq5, qp5, qp5'⟩ := (E_a1.wr W2).cell
  obtain ⟨_, _, ⟨T5, L5, k5, n5⟩, -, X5, ⟨Lc5, hQ5, l5, y5, z5⟩, st5⟩ := X4.privateBack hx (y := (⟨"java/util/ArrayList", "add", "(Ljava/lang/Object;[Ljava/lang/Object;I)V"⟩ : MethodName)) hown (mvT hZ (hw _ (List.mem_of_getElem? (i := 81) rfl))) (mvT hZ (hw _ (List.mem_of_getElem? (i := 82) rfl))) (mvT hZ (hw _ (List.mem_of_getElem? (i := 84) rfl))) (Cond.privateMethod_at (mvP hZ (hw _ (List.mem_of_getElem? (i := 83) rfl)) (args := #[]))) (mvT hZ (hw _ (List.mem_of_getElem? (i := 85) rfl))) (by decide) (backOf (W := 0) (rm_add3_0 l Z a0 hw [] a1 a2 wE (mc + (1 : Int32)) kE h2 n0 (Nat.le_trans Z0 (Keep.of_wr W2).1) (E_a1.wr W2) Fw2 (F_a1_elementData.other W2 (Or.inr (slot_ne (Or.inl (hw _ (List.mem_of_getElem? (i := 67) rfl))) (Or.inl (hw _ (List.mem_of_getElem? (i := 64) rfl))) (by decide) (t := (.array (.object "java/lang/Object"))) (t' := .int) (by decide) (by decide)))) (F_a1_size.other W2 (Or.inr (slot_ne (Or.inl (hw _ (List.mem_of_getElem? (i := 80) rfl))) (Or.inl (hw _ (List.mem_of_getElem? (i := 64) rfl))) (by decide) (t := .int) (t' := .int) (by decide) (by decide)))) g_a1 (hold.wr W2 g_a1) S_DEFAULTCAPACITY_EMPTY_ELEMENTDATA V_wE (E_a2.wr W2)) hZ (hw _ (List.mem_of_getElem? (i := 85) rfl)) (hw _ (List.mem_of_getElem? (i := 46) rfl)) (by decide) (by decide)) (g := (mkF m 20 #[rv a1, rv a2] [(.int (0 : Int32)), (.ref wE), (.ref a2), (.ref a1)])) rfl (by rw [hml]; rfl) (Steps.refl _) (a := a1) (by rw [e4]; exact qp5) qp5' (argsL := [(.ref a2), (.ref wE), (.int (0 : Int32))]) (rest := []) (lenOf pd__Ljava_lang_Object__Ljava_lang_Object_I_V rfl) rfl (by show 2 * 0 + _ ≤ _; exact Nat.le_of_eq rfl) (hb hby d14_20) (fun _ _ => ⟨rfl, e4, (by decide : 0 + 1 ≤ _), (by decide : 0 + 10 ≤ _)⟩)
  dsimp only [Pt.U, Pt.locs, Pt.cells, Pt.slots] at X5 l5 y5 z5 st5 hQ5
  subst l5 y5 z5
  obtain ⟨b5_0, kb5_1, rfl, N5q, K5, yb5_0, P5_0, P5_1, P5_2, P5_3, P5_4, P5_5, P5_6⟩ := hQ5
  have g_b5_0 : n0 ≤ b5_0 := Nat.le_trans (Nat.le_trans Z0 (Keep.of_wr W2).1) yb5_0
  have sz_b5_0 : h0.size ≤ b5_0 := Nat.le_trans ((Keep.refl h0 [a1]).wr W2 (Or.inl (List.mem_of_getElem? (i := 0) rfl))).1 yb5_0
  have N5 := Fr.app N2 N5q
  refine own_go ?_ (fun target hr => st5.trans (XS.iconst X5.here hx rfl (hb hby d14_23) hr))
  show own_G _ p e below s _ _ _ (T5.setTop (mkF m 24 #[rv a1, rv a2] [(.int (1 : Int32))]))
  obtain ⟨fs, hr, hrun, hended, hW, hsame⟩ := X5.leave (v := some (.int (1 : Int32))) (fun h => by rw [Bd.returns] at h; cases h)
  exact ⟨_, _, retN X5 hx (t := .boolean) Bd.returns (by simp) (hb hby d14_24) hr, hrun, hended, _, _, rfl, ⟨b5_0, kb5_1, rfl, N5, (((Keep.refl h0 [a1]).wr W2 (Or.inl (List.mem_of_getElem? (i := 0) rfl))).trans K5 (allS (Or.inl (List.mem_of_getElem? (i := 0) rfl)) all0)), sz_b5_0, P5_0, P5_1, P5_2, P5_3, P5_4, P5_5, P5_6⟩, ⟨_, rfl⟩, hW, hsame.mono (by decide) (by decide)⟩
def Q_rm_add3_1 (Z : State) (a1 : Addr) (a2 : Addr) (b : Addr) (mc : Int32) (kb : ClassId) (el0 : Addr) (h0 : Heap) (n0 : Nat) : Option Value → Heap → List Loc → Prop := fun v h L => v = none ∧ Fr n0 L ∧ Keep h0 h [a1, b] ∧ Exa Z h a1 "java/util/ArrayList" ∧ Fld Z h a1 "java/util/AbstractList" "modCount" "I" (.int mc) ∧ Fld Z h a1 "java/util/ArrayList" "elementData" "[Ljava/lang/Object;" (.ref b) ∧ Fld Z h a1 "java/util/ArrayList" "size" "I" (.int (2 : Int32)) ∧ Arv Z h b kb (.object "java/lang/Object") (10 : Int32) [(.ref el0), (.ref a2), .null, .null, .null, .null, .null, .null, .null, .null] .null
set_option maxRecDepth 65536 in
set_option maxHeartbeats 40000000 in
theorem rm_add3_1 (l : Launch) (Z : State) (a0 : Array Value) (hw : ∀ d ∈ tables_1, d.before a0 Z = true) (ws : List Jvm.Cond) (a1 : Addr) (a2 : Addr) (b : Addr) (mc : Int32) (kb : ClassId) (el0 : Addr) (h0 : Heap) (n0 : Nat) (Z0 : n0 ≤ h0.size) (E_a1 : Exa Z h0 a1 "java/util/ArrayList") (F_a1_modCount : Fld Z h0 a1 "java/util/AbstractList" "modCount" "I" (.int mc)) (F_a1_elementData : Fld Z h0 a1 "java/util/ArrayList" "elementData" "[Ljava/lang/Object;" (.ref b)) (F_a1_size : Fld Z h0 a1 "java/util/ArrayList" "size" "I" (.int (1 : Int32))) (V_b : Arv Z h0 b kb (.object "java/lang/Object") (10 : Int32) [(.ref el0), .null, .null, .null, .null, .null, .null, .null, .null, .null] .null) (ov_kb : Ovr Z kb "java/lang/Object") (E_a2 : Exa Z h0 a2 "java/lang/String") (g_a1 : n0 ≤ a1) (g_b : n0 ≤ b) (ne_a1_b : a1 ≠ b) :
    MetFree l (⟨"java/util/ArrayList", "add", "(Ljava/lang/Object;[Ljava/lang/Object;I)V"⟩ : MethodName) (head1 (Jvm.Cond.code (⟨"java/util/ArrayList", "add", "(Ljava/lang/Object;[Ljava/lang/Object;I)V"⟩ : MethodName) jdk_38_method_24_code 4 none :: ws) ({ frames := 0, cells := 0, slots := 0, locals := 0 } : Room)) (fun a U => a = #[(.ref a1), (.ref a2), (.ref b), (.int (1 : Int32))] ∧ Z.Warmed39 U.vm ∧ U.heap = h0) (fun _ _ _ _ _ => True) (fun _ U o U' => ∃ v L, o = .returned v ∧ (Q_rm_add3_1 Z a1 a2 b mc kb el0 h0 n0) v U'.heap L ∧ FrameEnd U o U' L ({ frames := 0, cells := 0, slots := 0, locals := 0 } : Room).cells ({ frames := 0, cells := 0, slots := 0, locals := 0 } : Room).slots) := by
  refine MetFree.of_bodySF (plainFor_of_name pn_15) hisR ?_
  intro p e s m args below meth c s₁ Bd hml0 hP hK
  obtain ⟨rfl, hZ, hh⟩ := hP
  have hx := Bd.exec
  have hby := Bd.bytes
  have hml : c.maxLocals = 4 := hml0
  have hown : s.vm.findClass "java/util/ArrayList" = some m.cls := findClass_of_methodNamed Bd.named
  have hnm := (name_of_methodNamed Bd.named Bd.method).1
  have X0 : Stand p l e ({ frames := 0, cells := 0, slots := 0, locals := 0 } : Room) s m #[(.ref a1), (.ref a2), (.ref b), (.int (1 : Int32))] below meth c s₁ [] 0 0 := Stand.of_body Bd
  have e0 : s₁.heap = h0 := by rw [← hh, Bd.state]; rfl
  have N0 := Fr.nil n0
  show own_G FrameEnd p e below s ({ frames := 0, cells := 0, slots := 0, locals := 0 } : Room).cells ({ frames := 0, cells := 0, slots := 0, locals := 0 } : Room).slots (Q_rm_add3_1 Z a1 a2 b mc kb el0 h0 n0) (s₁.setTop (entryFrame m #[(.ref a1), (.ref a2), (.ref b), (.int (1 : Int32))] 4))
  refine own_go (Y' := s₁.setTop (mkF m 0 #[rv a1, rv a2, rv b, iv (1 : Int32)] [])) ?_ (fun t k => castTop (ef_15 m a1 a2 b (1 : Int32)) k)
  refine own_go ?_ (fun target hr => XS.iloadN X0.here hx rfl (hb hby d15_0) rfl (XS.aloadN X0.here hx rfl (hb hby d15_1) rfl rfl hr))
  show own_G _ p e below s _ _ _ (s₁.setTop (mkF m 2 #[rv a1, rv a2, rv b, iv (1 : Int32)] [(.ref b), (.int (1 : Int32))]))
  obtain ⟨cl1, Ar1, -, S1, M1, -, -⟩ := id V_b
  refine own_go ?_ (fun target hr => X0.arraylength hx (by rw [e0]; exact Ar1.1) (State.isArrayOf_alike hZ.alike Ar1.2.1) (g := (mkF m 2 #[rv a1, rv a2, rv b, iv (1 : Int32)] [(.ref b), (.int (1 : Int32))])) rfl rfl (hb hby d15_2) _ hr)
  rw [len_of S1 M1]
  show own_G _ p e below s _ _ _ (s₁.setTop (mkF m 3 #[rv a1, rv a2, rv b, iv (1 : Int32)] [(.int (10 : Int32)), (.int (1 : Int32))]))
  refine own_go ?_ (fun target hr => XS.icmpYes X0.here hx rfl (pc0 := 3) (pc' := 11) rfl (hb hby d15_3) rfl (feq (by decide : ¬ ((1 : Int32) = (10 : Int32)))).2 (by decide) (by decide) (XS.aloadN X0.here hx rfl (hb hby d15_11) rfl rfl (XS.iloadN X0.here hx rfl (hb hby d15_12) rfl (XS.aloadN X0.here hx rfl (hb hby d15_13) rfl rfl hr))))
  show own_G _ p e below s _ _ _ (s₁.setTop (mkF m 14 #[rv a1, rv a2, rv b, iv (1 : Int32)] [(.ref a2), (.int (1 : Int32)), (.ref b)]))
  obtain ⟨cl2, Ar2, qk2, S2, M2, H2, G2⟩ := id V_b
  have hin2 : ¬ ((1 : Int32) < 0 ∨ cl2.slots.size ≤ ((1 : Int32)).toNatClampNeg) := inb_of S2 ⟨by decide, by decide⟩
  obtain ⟨T2, h2, X2, e2, W2, st2⟩ := stR X0 hx hZ e0 Ar2 (j := (1 : Int32)) hin2 rfl (Sto.ofV Ar2 qk2 ov_kb (Ins.of_exa E_a2 (hw _ (List.mem_of_getElem? (i := 102) rfl)))) (g := (mkF m 14 #[rv a1, rv a2, rv b, iv (1 : Int32)] [(.ref a2), (.int (1 : Int32)), (.ref b)])) rfl rfl (hb hby d15_14)
  have V2 : Arv Z h2 b kb (.object "java/lang/Object") (10 : Int32) [(.ref el0), (.ref a2), .null, .null, .null, .null, .null, .null, .null, .null] .null := Arv.set Ar2 qk2 S2 M2 H2 G2 rfl W2 1 rfl (Nat.le_of_ble_eq_true rfl)
  have N2 := Fr.snoc X2 N0 g_b
  refine own_go ?_ (fun target hr => st2 _ (XS.aloadN X2.here hx rfl (hb hby d15_15) rfl rfl (XS.iloadN X2.here hx rfl (hb hby d15_16) rfl (XS.iconst X2.here hx rfl (hb hby d15_17) (XS.iadd X2.here hx rfl (hb hby d15_18) rfl hr)))))
  show own_G _ p e below s _ _ _ (T2.setTop (mkF m 19 #[rv a1, rv a2, rv b, iv (1 : Int32)] [(.int (2 : Int32)), (.ref a1)]))
  obtain ⟨T3, h3, X3, e3, W3, st3⟩ := putF X2 hx hZ hown (host := "") (Or.inl (hw _ (List.mem_of_getElem? (i := 79) rfl))) Via.refl e2 (F_a1_size.other W2 (Or.inl ne_a1_b)) (E_a1.wr W2) (Or.inl (hw _ (List.mem_of_getElem? (i := 80) rfl))) (hw _ (List.mem_of_getElem? (i := 45) rfl)) (ty := .int) (by decide) rfl rfl (g := (mkF m 19 #[rv a1, rv a2, rv b, iv (1 : Int32)] [(.int (2 : Int32)), (.ref a1)])) rfl rfl (hb hby d15_19)
  have Fw3 := (F_a1_size.other W2 (Or.inl ne_a1_b)).same W3
  have N3 := Fr.snoc X3 N2 g_a1
  refine own_go ?_ (fun target hr => st3 _ hr)
  show own_G _ p e below s _ _ _ (T3.setTop (mkF m 22 #[rv a1, rv a2, rv b, iv (1 : Int32)] []))
  obtain ⟨fs, hr, hrun, hended, hW, hsame⟩ := X3.leave (v := none) (fun _ => rfl)
  exact ⟨_, _, X3.returnOut hx Bd.returns (hb hby d15_22) hr, hrun, hended, _, _, rfl, (by rw [show (T3.setFrames fs).heap = h3 from e3]; exact ⟨rfl, N3, (((Keep.refl h0 [a1, b]).wr W2 (Or.inl (List.mem_of_getElem? (i := 1) rfl))).wr W3 (Or.inl (List.mem_of_getElem? (i := 0) rfl))), ((E_a1.wr W2).wr W3), ((F_a1_modCount.other W2 (Or.inl ne_a1_b)).other W3 (Or.inr (slot_ne (Or.inl (hw _ (List.mem_of_getElem? (i := 64) rfl))) (Or.inl (hw _ (List.mem_of_getElem? (i := 80) rfl))) (by decide) (t := .int) (t' := .int) (by decide) (by decide)))), ((F_a1_elementData.other W2 (Or.inl ne_a1_b)).other W3 (Or.inr (slot_ne (Or.inl (hw _ (List.mem_of_getElem? (i := 67) rfl))) (Or.inl (hw _ (List.mem_of_getElem? (i := 80) rfl))) (by decide) (t := (.array (.object "java/lang/Object"))) (t' := .int) (by decide) (by decide)))), Fw3, (V2.other W3 (Ne.symm ne_a1_b))⟩), ⟨_, rfl⟩, hW, hsame.mono (by decide) (by decide)⟩
def Q_rm_add1_1 (Z : State) (a1 : Addr) (a2 : Addr) (mc : Int32) (b : Addr) (kb : ClassId) (el0 : Addr) (h0 : Heap) (n0 : Nat) : Option Value → Heap → List Loc → Prop := fun v h L => v = some (.int (1 : Int32)) ∧ Fr n0 L ∧ Keep h0 h [a1, b] ∧ Exa Z h a1 "java/util/ArrayList" ∧ Fld Z h a1 "java/util/AbstractList" "modCount" "I" (.int (mc + (1 : Int32))) ∧ Fld Z h a1 "java/util/ArrayList" "elementData" "[Ljava/lang/Object;" (.ref b) ∧ Fld Z h a1 "java/util/ArrayList" "size" "I" (.int (2 : Int32)) ∧ Arv Z h b kb (.object "java/lang/Object") (10 : Int32) [(.ref el0), (.ref a2), .null, .null, .null, .null, .null, .null, .null, .null] .null
set_option maxRecDepth 65536 in
set_option maxHeartbeats 40000000 in
theorem rm_add1_1 (l : Launch) (Z : State) (a0 : Array Value) (hw : ∀ d ∈ tables_1, d.before a0 Z = true) (ws : List Jvm.Cond) (a1 : Addr) (a2 : Addr) (mc : Int32) (b : Addr) (kb : ClassId) (el0 : Addr) (h0 : Heap) (n0 : Nat) (Z0 : n0 ≤ h0.size) (E_a1 : Exa Z h0 a1 "java/util/ArrayList") (F_a1_modCount : Fld Z h0 a1 "java/util/AbstractList" "modCount" "I" (.int mc)) (F_a1_elementData : Fld Z h0 a1 "java/util/ArrayList" "elementData" "[Ljava/lang/Object;" (.ref b)) (F_a1_size : Fld Z h0 a1 "java/util/ArrayList" "size" "I" (.int (1 : Int32))) (V_b : Arv Z h0 b kb (.object "java/lang/Object") (10 : Int32) [(.ref el0), .null, .null, .null, .null, .null, .null, .null, .null, .null] .null) (ov_kb : Ovr Z kb "java/lang/Object") (E_a2 : Exa Z h0 a2 "java/lang/String") (g_a1 : n0 ≤ a1) (g_b : n0 ≤ b) (ne_a1_b : a1 ≠ b) :
    MetFree l (⟨"java/util/ArrayList", "add", "(Ljava/lang/Object;)Z"⟩ : MethodName) (head1 (Jvm.Cond.code (⟨"java/util/ArrayList", "add", "(Ljava/lang/Object;)Z"⟩ : MethodName) jdk_38_method_25_code 2 (some .boolean) :: ws) ({ frames := 1, cells := 0, slots := 0, locals := 15 } : Room)) (fun a U => a = #[(.ref a1), (.ref a2)] ∧ Z.Warmed39 U.vm ∧ U.heap = h0) (fun _ _ _ _ _ => True) (fun _ U o U' => ∃ v L, o = .returned v ∧ (Q_rm_add1_1 Z a1 a2 mc b kb el0 h0 n0) v U'.heap L ∧ FrameEnd U o U' L ({ frames := 1, cells := 0, slots := 0, locals := 15 } : Room).cells ({ frames := 1, cells := 0, slots := 0, locals := 15 } : Room).slots) := by
  refine MetFree.of_bodySF (plainFor_of_name pn_14) hisR ?_
  intro p e s m args below meth c s₁ Bd hml0 hP hK
  obtain ⟨rfl, hZ, hh⟩ := hP
  have hx := Bd.exec
  have hby := Bd.bytes
  have hml : c.maxLocals = 2 := hml0
  have hown : s.vm.findClass "java/util/ArrayList" = some m.cls := findClass_of_methodNamed Bd.named
  have hnm := (name_of_methodNamed Bd.named Bd.method).1
  have X0 : Stand p l e ({ frames := 1, cells := 0, slots := 0, locals := 15 } : Room) s m #[(.ref a1), (.ref a2)] below meth c s₁ [] 0 0 := Stand.of_body Bd
  have e0 : s₁.heap = h0 := by rw [← hh, Bd.state]; rfl
  have N0 := Fr.nil n0
  show own_G FrameEnd p e below s ({ frames := 1, cells := 0, slots := 0, locals := 15 } : Room).cells ({ frames := 1, cells := 0, slots := 0, locals := 15 } : Room).slots (Q_rm_add1_1 Z a1 a2 mc b kb el0 h0 n0) (s₁.setTop (entryFrame m #[(.ref a1), (.ref a2)] 2))
  refine own_go (Y' := s₁.setTop (mkF m 0 #[rv a1, rv a2] [])) ?_ (fun t k => castTop (ef_14 m a1 a2) k)
  refine own_go ?_ (fun target hr => XS.aloadN X0.here hx rfl (hb hby d14_0) rfl rfl (XS.dup X0.here hx rfl (hb hby d14_1) rfl rfl hr))
  show own_G _ p e below s _ _ _ (s₁.setTop (mkF m 2 #[rv a1, rv a2] [(.ref a1), (.ref a1)]))
  obtain ⟨T1, X1, e1, st1⟩ := getF X0 hx hZ hown (host := "") (Or.inl (hw _ (List.mem_of_getElem? (i := 77) rfl))) (Via.of (hw _ (List.mem_of_getElem? (i := 78) rfl))) e0 F_a1_modCount (g := (mkF m 2 #[rv a1, rv a2] [(.ref a1), (.ref a1)])) rfl rfl (hb hby d14_2)
  refine own_go ?_ (fun target hr => st1 _ (XS.iconst X1.here hx rfl (hb hby d14_5) (XS.iadd X1.here hx rfl (hb hby d14_6) rfl hr)))
  show own_G _ p e below s _ _ _ (T1.setTop (mkF m 7 #[rv a1, rv a2] [(.int (mc + (1 : Int32))), (.ref a1)]))
  obtain ⟨T2, h2, X2, e2, W2, st2⟩ := putF X1 hx hZ hown (host := "") (Or.inl (hw _ (List.mem_of_getElem? (i := 77) rfl))) (Via.of (hw _ (List.mem_of_getElem? (i := 78) rfl))) e1 F_a1_modCount E_a1 (Or.inl (hw _ (List.mem_of_getElem? (i := 64) rfl))) (hw _ (List.mem_of_getElem? (i := 45) rfl)) (ty := .int) (by decide) rfl rfl (g := (mkF m 7 #[rv a1, rv a2] [(.int (mc + (1 : Int32))), (.ref a1)])) rfl rfl (hb hby d14_7)
  have Fw2 := F_a1_modCount.same W2
  have N2 := Fr.snoc X2 N0 g_a1
  refine own_go ?_ (fun target hr => st2 _ (XS.aloadN X2.here hx rfl (hb hby d14_10) rfl rfl (XS.aloadN X2.here hx rfl (hb hby d14_11) rfl rfl (XS.aloadN X2.here hx rfl (hb hby d14_12) rfl rfl hr))))
  show own_G _ p e below s _ _ _ (T2.setTop (mkF m 13 #[rv a1, rv a2] [(.ref a1), (.ref a2), (.ref a1)]))
  obtain ⟨T3, X3, e3, st3⟩ := getF X2 hx hZ hown (host := "") (Or.inl (hw _ (List.mem_of_getElem? (i := 66) rfl))) Via.refl e2 (F_a1_elementData.other W2 (Or.inr (slot_ne (Or.inl (hw _ (List.mem_of_getElem? (i := 67) rfl))) (Or.inl (hw _ (List.mem_of_getElem? (i := 64) rfl))) (by decide) (t := (.array (.object "java/lang/Object"))) (t' := .int) (by decide) (by decide)))) (g := (mkF m 13 #[rv a1, rv a2] [(.ref a1), (.ref a2), (.ref a1)])) rfl rfl (hb hby d14_13)
  refine own_go ?_ (fun target hr => st3 _ (XS.aloadN X3.here hx rfl (hb hby d14_16) rfl rfl hr))
  show own_G _ p e below s _ _ _ (T3.setTop (mkF m 17 #[rv a1, rv a2] [(.ref a1), (.ref b), (.ref a2), (.ref a1)]))
  obtain ⟨T4, X4, e4, st4⟩ := getF X3 hx hZ hown (host := "") (Or.inl (hw _ (List.mem_of_getElem? (i := 79) rfl))) Via.refl e3 (F_a1_size.other W2 (Or.inr (slot_ne (Or.inl (hw _ (List.mem_of_getElem? (i := 80) rfl))) (Or.inl (hw _ (List.mem_of_getElem? (i := 64) rfl))) (by decide) (t := .int) (t' := .int) (by decide) (by decide)))) (g := (mkF m 17 #[rv a1, rv a2] [(.ref a1), (.ref b), (.ref a2), (.ref a1)])) rfl rfl (hb hby d14_17)
  refine own_go ?_ (fun target hr => st4 _ hr)
  show own_G _ p e below s _ _ _ (T4.setTop (mkF m 20 #[rv a1, rv a2] [(.int (1 : Int32)), (.ref b), (.ref a2), (.ref a1)]))
  obtain ⟨cq5, qp5, qp5'⟩ := (E_a1.wr W2).cell
  obtain ⟨_, _, ⟨T5, L5, k5, n5⟩, -, X5, ⟨Lc5, hQ5, l5, y5, z5⟩, st5⟩ := X4.privateBack hx (y := (⟨"java/util/ArrayList", "add", "(Ljava/lang/Object;[Ljava/lang/Object;I)V"⟩ : MethodName)) hown (mvT hZ (hw _ (List.mem_of_getElem? (i := 81) rfl))) (mvT hZ (hw _ (List.mem_of_getElem? (i := 82) rfl))) (mvT hZ (hw _ (List.mem_of_getElem? (i := 84) rfl))) (Cond.privateMethod_at (mvP hZ (hw _ (List.mem_of_getElem? (i := 83) rfl)) (args := #[]))) (mvT hZ (hw _ (List.mem_of_getElem? (i := 85) rfl))) (by decide) (backOf (W := 0) (rm_add3_1 l Z a0 hw [] a1 a2 b (mc + (1 : Int32)) kb el0 h2 n0 (Nat.le_trans Z0 (Keep.of_wr W2).1) (E_a1.wr W2) Fw2 (F_a1_elementData.other W2 (Or.inr (slot_ne (Or.inl (hw _ (List.mem_of_getElem? (i := 67) rfl))) (Or.inl (hw _ (List.mem_of_getElem? (i := 64) rfl))) (by decide) (t := (.array (.object "java/lang/Object"))) (t' := .int) (by decide) (by decide)))) (F_a1_size.other W2 (Or.inr (slot_ne (Or.inl (hw _ (List.mem_of_getElem? (i := 80) rfl))) (Or.inl (hw _ (List.mem_of_getElem? (i := 64) rfl))) (by decide) (t := .int) (t' := .int) (by decide) (by decide)))) (V_b.other W2 (Ne.symm ne_a1_b)) ov_kb (E_a2.wr W2) g_a1 g_b ne_a1_b) hZ (hw _ (List.mem_of_getElem? (i := 85) rfl)) (hw _ (List.mem_of_getElem? (i := 46) rfl)) (by decide) (by decide)) (g := (mkF m 20 #[rv a1, rv a2] [(.int (1 : Int32)), (.ref b), (.ref a2), (.ref a1)])) rfl (by rw [hml]; rfl) (Steps.refl _) (a := a1) (by rw [e4]; exact qp5) qp5' (argsL := [(.ref a2), (.ref b), (.int (1 : Int32))]) (rest := []) (lenOf pd__Ljava_lang_Object__Ljava_lang_Object_I_V rfl) rfl (by show 2 * 0 + _ ≤ _; exact Nat.le_of_eq rfl) (hb hby d14_20) (fun _ _ => ⟨rfl, e4, (by decide : 0 + 0 ≤ _), (by decide : 0 + 0 ≤ _)⟩)
  dsimp only [Pt.U, Pt.locs, Pt.cells, Pt.slots] at X5 l5 y5 z5 st5 hQ5
  subst l5 y5 z5
  obtain ⟨rfl, N5q, K5, P5_0, P5_1, P5_2, P5_3, P5_4⟩ := hQ5
  have N5 := Fr.app N2 N5q
  refine own_go ?_ (fun target hr => st5.trans (XS.iconst X5.here hx rfl (hb hby d14_23) hr))
  show own_G _ p e below s _ _ _ (T5.setTop (mkF m 24 #[rv a1, rv a2] [(.int (1 : Int32))]))
  obtain ⟨fs, hr, hrun, hended, hW, hsame⟩ := X5.leave (v := some (.int (1 : Int32))) (fun h => by rw [Bd.returns] at h; cases h)
  exact ⟨_, _, retN X5 hx (t := .boolean) Bd.returns (by simp) (hb hby d14_24) hr, hrun, hended, _, _, rfl, ⟨rfl, N5, (((Keep.refl h0 [a1, b]).wr W2 (Or.inl (List.mem_of_getElem? (i := 0) rfl))).trans K5 (allS (Or.inl (List.mem_of_getElem? (i := 0) rfl)) (allS (Or.inl (List.mem_of_getElem? (i := 1) rfl)) all0))), P5_0, P5_1, P5_2, P5_3, P5_4⟩, ⟨_, rfl⟩, hW, hsame.mono (by decide) (by decide)⟩
def Q_rm_add3_2 (Z : State) (a1 : Addr) (a2 : Addr) (b : Addr) (mc : Int32) (kb : ClassId) (el0 : Addr) (el1 : Addr) (h0 : Heap) (n0 : Nat) : Option Value → Heap → List Loc → Prop := fun v h L => v = none ∧ Fr n0 L ∧ Keep h0 h [a1, b] ∧ Exa Z h a1 "java/util/ArrayList" ∧ Fld Z h a1 "java/util/AbstractList" "modCount" "I" (.int mc) ∧ Fld Z h a1 "java/util/ArrayList" "elementData" "[Ljava/lang/Object;" (.ref b) ∧ Fld Z h a1 "java/util/ArrayList" "size" "I" (.int (3 : Int32)) ∧ Arv Z h b kb (.object "java/lang/Object") (10 : Int32) [(.ref el0), (.ref el1), (.ref a2), .null, .null, .null, .null, .null, .null, .null] .null
set_option maxRecDepth 65536 in
set_option maxHeartbeats 40000000 in
theorem rm_add3_2 (l : Launch) (Z : State) (a0 : Array Value) (hw : ∀ d ∈ tables_1, d.before a0 Z = true) (ws : List Jvm.Cond) (a1 : Addr) (a2 : Addr) (b : Addr) (mc : Int32) (kb : ClassId) (el0 : Addr) (el1 : Addr) (h0 : Heap) (n0 : Nat) (Z0 : n0 ≤ h0.size) (E_a1 : Exa Z h0 a1 "java/util/ArrayList") (F_a1_modCount : Fld Z h0 a1 "java/util/AbstractList" "modCount" "I" (.int mc)) (F_a1_elementData : Fld Z h0 a1 "java/util/ArrayList" "elementData" "[Ljava/lang/Object;" (.ref b)) (F_a1_size : Fld Z h0 a1 "java/util/ArrayList" "size" "I" (.int (2 : Int32))) (V_b : Arv Z h0 b kb (.object "java/lang/Object") (10 : Int32) [(.ref el0), (.ref el1), .null, .null, .null, .null, .null, .null, .null, .null] .null) (ov_kb : Ovr Z kb "java/lang/Object") (E_a2 : Exa Z h0 a2 "java/lang/String") (g_a1 : n0 ≤ a1) (g_b : n0 ≤ b) (ne_a1_b : a1 ≠ b) :
    MetFree l (⟨"java/util/ArrayList", "add", "(Ljava/lang/Object;[Ljava/lang/Object;I)V"⟩ : MethodName) (head1 (Jvm.Cond.code (⟨"java/util/ArrayList", "add", "(Ljava/lang/Object;[Ljava/lang/Object;I)V"⟩ : MethodName) jdk_38_method_24_code 4 none :: ws) ({ frames := 0, cells := 0, slots := 0, locals := 0 } : Room)) (fun a U => a = #[(.ref a1), (.ref a2), (.ref b), (.int (2 : Int32))] ∧ Z.Warmed39 U.vm ∧ U.heap = h0) (fun _ _ _ _ _ => True) (fun _ U o U' => ∃ v L, o = .returned v ∧ (Q_rm_add3_2 Z a1 a2 b mc kb el0 el1 h0 n0) v U'.heap L ∧ FrameEnd U o U' L ({ frames := 0, cells := 0, slots := 0, locals := 0 } : Room).cells ({ frames := 0, cells := 0, slots := 0, locals := 0 } : Room).slots) := by
  refine MetFree.of_bodySF (plainFor_of_name pn_15) hisR ?_
  intro p e s m args below meth c s₁ Bd hml0 hP hK
  obtain ⟨rfl, hZ, hh⟩ := hP
  have hx := Bd.exec
  have hby := Bd.bytes
  have hml : c.maxLocals = 4 := hml0
  have hown : s.vm.findClass "java/util/ArrayList" = some m.cls := findClass_of_methodNamed Bd.named
  have hnm := (name_of_methodNamed Bd.named Bd.method).1
  have X0 : Stand p l e ({ frames := 0, cells := 0, slots := 0, locals := 0 } : Room) s m #[(.ref a1), (.ref a2), (.ref b), (.int (2 : Int32))] below meth c s₁ [] 0 0 := Stand.of_body Bd
  have e0 : s₁.heap = h0 := by rw [← hh, Bd.state]; rfl
  have N0 := Fr.nil n0
  show own_G FrameEnd p e below s ({ frames := 0, cells := 0, slots := 0, locals := 0 } : Room).cells ({ frames := 0, cells := 0, slots := 0, locals := 0 } : Room).slots (Q_rm_add3_2 Z a1 a2 b mc kb el0 el1 h0 n0) (s₁.setTop (entryFrame m #[(.ref a1), (.ref a2), (.ref b), (.int (2 : Int32))] 4))
  refine own_go (Y' := s₁.setTop (mkF m 0 #[rv a1, rv a2, rv b, iv (2 : Int32)] [])) ?_ (fun t k => castTop (ef_15 m a1 a2 b (2 : Int32)) k)
  refine own_go ?_ (fun target hr => XS.iloadN X0.here hx rfl (hb hby d15_0) rfl (XS.aloadN X0.here hx rfl (hb hby d15_1) rfl rfl hr))
  show own_G _ p e below s _ _ _ (s₁.setTop (mkF m 2 #[rv a1, rv a2, rv b, iv (2 : Int32)] [(.ref b), (.int (2 : Int32))]))
  obtain ⟨cl1, Ar1, -, S1, M1, -, -⟩ := id V_b
  refine own_go ?_ (fun target hr => X0.arraylength hx (by rw [e0]; exact Ar1.1) (State.isArrayOf_alike hZ.alike Ar1.2.1) (g := (mkF m 2 #[rv a1, rv a2, rv b, iv (2 : Int32)] [(.ref b), (.int (2 : Int32))])) rfl rfl (hb hby d15_2) _ hr)
  rw [len_of S1 M1]
  show own_G _ p e below s _ _ _ (s₁.setTop (mkF m 3 #[rv a1, rv a2, rv b, iv (2 : Int32)] [(.int (10 : Int32)), (.int (2 : Int32))]))
  refine own_go ?_ (fun target hr => XS.icmpYes X0.here hx rfl (pc0 := 3) (pc' := 11) rfl (hb hby d15_3) rfl (feq (by decide : ¬ ((2 : Int32) = (10 : Int32)))).2 (by decide) (by decide) (XS.aloadN X0.here hx rfl (hb hby d15_11) rfl rfl (XS.iloadN X0.here hx rfl (hb hby d15_12) rfl (XS.aloadN X0.here hx rfl (hb hby d15_13) rfl rfl hr))))
  show own_G _ p e below s _ _ _ (s₁.setTop (mkF m 14 #[rv a1, rv a2, rv b, iv (2 : Int32)] [(.ref a2), (.int (2 : Int32)), (.ref b)]))
  obtain ⟨cl2, Ar2, qk2, S2, M2, H2, G2⟩ := id V_b
  have hin2 : ¬ ((2 : Int32) < 0 ∨ cl2.slots.size ≤ ((2 : Int32)).toNatClampNeg) := inb_of S2 ⟨by decide, by decide⟩
  obtain ⟨T2, h2, X2, e2, W2, st2⟩ := stR X0 hx hZ e0 Ar2 (j := (2 : Int32)) hin2 rfl (Sto.ofV Ar2 qk2 ov_kb (Ins.of_exa E_a2 (hw _ (List.mem_of_getElem? (i := 102) rfl)))) (g := (mkF m 14 #[rv a1, rv a2, rv b, iv (2 : Int32)] [(.ref a2), (.int (2 : Int32)), (.ref b)])) rfl rfl (hb hby d15_14)
  have V2 : Arv Z h2 b kb (.object "java/lang/Object") (10 : Int32) [(.ref el0), (.ref el1), (.ref a2), .null, .null, .null, .null, .null, .null, .null] .null := Arv.set Ar2 qk2 S2 M2 H2 G2 rfl W2 2 rfl (Nat.le_of_ble_eq_true rfl)
  have N2 := Fr.snoc X2 N0 g_b
  refine own_go ?_ (fun target hr => st2 _ (XS.aloadN X2.here hx rfl (hb hby d15_15) rfl rfl (XS.iloadN X2.here hx rfl (hb hby d15_16) rfl (XS.iconst X2.here hx rfl (hb hby d15_17) (XS.iadd X2.here hx rfl (hb hby d15_18) rfl hr)))))
  show own_G _ p e below s _ _ _ (T2.setTop (mkF m 19 #[rv a1, rv a2, rv b, iv (2 : Int32)] [(.int (3 : Int32)), (.ref a1)]))
  obtain ⟨T3, h3, X3, e3, W3, st3⟩ := putF X2 hx hZ hown (host := "") (Or.inl (hw _ (List.mem_of_getElem? (i := 79) rfl))) Via.refl e2 (F_a1_size.other W2 (Or.inl ne_a1_b)) (E_a1.wr W2) (Or.inl (hw _ (List.mem_of_getElem? (i := 80) rfl))) (hw _ (List.mem_of_getElem? (i := 45) rfl)) (ty := .int) (by decide) rfl rfl (g := (mkF m 19 #[rv a1, rv a2, rv b, iv (2 : Int32)] [(.int (3 : Int32)), (.ref a1)])) rfl rfl (hb hby d15_19)
  have Fw3 := (F_a1_size.other W2 (Or.inl ne_a1_b)).same W3
  have N3 := Fr.snoc X3 N2 g_a1
  refine own_go ?_ (fun target hr => st3 _ hr)
  show own_G _ p e below s _ _ _ (T3.setTop (mkF m 22 #[rv a1, rv a2, rv b, iv (2 : Int32)] []))
  obtain ⟨fs, hr, hrun, hended, hW, hsame⟩ := X3.leave (v := none) (fun _ => rfl)
  exact ⟨_, _, X3.returnOut hx Bd.returns (hb hby d15_22) hr, hrun, hended, _, _, rfl, (by rw [show (T3.setFrames fs).heap = h3 from e3]; exact ⟨rfl, N3, (((Keep.refl h0 [a1, b]).wr W2 (Or.inl (List.mem_of_getElem? (i := 1) rfl))).wr W3 (Or.inl (List.mem_of_getElem? (i := 0) rfl))), ((E_a1.wr W2).wr W3), ((F_a1_modCount.other W2 (Or.inl ne_a1_b)).other W3 (Or.inr (slot_ne (Or.inl (hw _ (List.mem_of_getElem? (i := 64) rfl))) (Or.inl (hw _ (List.mem_of_getElem? (i := 80) rfl))) (by decide) (t := .int) (t' := .int) (by decide) (by decide)))), ((F_a1_elementData.other W2 (Or.inl ne_a1_b)).other W3 (Or.inr (slot_ne (Or.inl (hw _ (List.mem_of_getElem? (i := 67) rfl))) (Or.inl (hw _ (List.mem_of_getElem? (i := 80) rfl))) (by decide) (t := (.array (.object "java/lang/Object"))) (t' := .int) (by decide) (by decide)))), Fw3, (V2.other W3 (Ne.symm ne_a1_b))⟩), ⟨_, rfl⟩, hW, hsame.mono (by decide) (by decide)⟩
def Q_rm_add1_2 (Z : State) (a1 : Addr) (a2 : Addr) (mc : Int32) (b : Addr) (kb : ClassId) (el0 : Addr) (el1 : Addr) (h0 : Heap) (n0 : Nat) : Option Value → Heap → List Loc → Prop := fun v h L => v = some (.int (1 : Int32)) ∧ Fr n0 L ∧ Keep h0 h [a1, b] ∧ Exa Z h a1 "java/util/ArrayList" ∧ Fld Z h a1 "java/util/AbstractList" "modCount" "I" (.int (mc + (1 : Int32))) ∧ Fld Z h a1 "java/util/ArrayList" "elementData" "[Ljava/lang/Object;" (.ref b) ∧ Fld Z h a1 "java/util/ArrayList" "size" "I" (.int (3 : Int32)) ∧ Arv Z h b kb (.object "java/lang/Object") (10 : Int32) [(.ref el0), (.ref el1), (.ref a2), .null, .null, .null, .null, .null, .null, .null] .null
set_option maxRecDepth 65536 in
set_option maxHeartbeats 40000000 in
theorem rm_add1_2 (l : Launch) (Z : State) (a0 : Array Value) (hw : ∀ d ∈ tables_1, d.before a0 Z = true) (ws : List Jvm.Cond) (a1 : Addr) (a2 : Addr) (mc : Int32) (b : Addr) (kb : ClassId) (el0 : Addr) (el1 : Addr) (h0 : Heap) (n0 : Nat) (Z0 : n0 ≤ h0.size) (E_a1 : Exa Z h0 a1 "java/util/ArrayList") (F_a1_modCount : Fld Z h0 a1 "java/util/AbstractList" "modCount" "I" (.int mc)) (F_a1_elementData : Fld Z h0 a1 "java/util/ArrayList" "elementData" "[Ljava/lang/Object;" (.ref b)) (F_a1_size : Fld Z h0 a1 "java/util/ArrayList" "size" "I" (.int (2 : Int32))) (V_b : Arv Z h0 b kb (.object "java/lang/Object") (10 : Int32) [(.ref el0), (.ref el1), .null, .null, .null, .null, .null, .null, .null, .null] .null) (ov_kb : Ovr Z kb "java/lang/Object") (E_a2 : Exa Z h0 a2 "java/lang/String") (g_a1 : n0 ≤ a1) (g_b : n0 ≤ b) (ne_a1_b : a1 ≠ b) :
    MetFree l (⟨"java/util/ArrayList", "add", "(Ljava/lang/Object;)Z"⟩ : MethodName) (head1 (Jvm.Cond.code (⟨"java/util/ArrayList", "add", "(Ljava/lang/Object;)Z"⟩ : MethodName) jdk_38_method_25_code 2 (some .boolean) :: ws) ({ frames := 1, cells := 0, slots := 0, locals := 15 } : Room)) (fun a U => a = #[(.ref a1), (.ref a2)] ∧ Z.Warmed39 U.vm ∧ U.heap = h0) (fun _ _ _ _ _ => True) (fun _ U o U' => ∃ v L, o = .returned v ∧ (Q_rm_add1_2 Z a1 a2 mc b kb el0 el1 h0 n0) v U'.heap L ∧ FrameEnd U o U' L ({ frames := 1, cells := 0, slots := 0, locals := 15 } : Room).cells ({ frames := 1, cells := 0, slots := 0, locals := 15 } : Room).slots) := by
  refine MetFree.of_bodySF (plainFor_of_name pn_14) hisR ?_
  intro p e s m args below meth c s₁ Bd hml0 hP hK
  obtain ⟨rfl, hZ, hh⟩ := hP
  have hx := Bd.exec
  have hby := Bd.bytes
  have hml : c.maxLocals = 2 := hml0
  have hown : s.vm.findClass "java/util/ArrayList" = some m.cls := findClass_of_methodNamed Bd.named
  have hnm := (name_of_methodNamed Bd.named Bd.method).1
  have X0 : Stand p l e ({ frames := 1, cells := 0, slots := 0, locals := 15 } : Room) s m #[(.ref a1), (.ref a2)] below meth c s₁ [] 0 0 := Stand.of_body Bd
  have e0 : s₁.heap = h0 := by rw [← hh, Bd.state]; rfl
  have N0 := Fr.nil n0
  show own_G FrameEnd p e below s ({ frames := 1, cells := 0, slots := 0, locals := 15 } : Room).cells ({ frames := 1, cells := 0, slots := 0, locals := 15 } : Room).slots (Q_rm_add1_2 Z a1 a2 mc b kb el0 el1 h0 n0) (s₁.setTop (entryFrame m #[(.ref a1), (.ref a2)] 2))
  refine own_go (Y' := s₁.setTop (mkF m 0 #[rv a1, rv a2] [])) ?_ (fun t k => castTop (ef_14 m a1 a2) k)
  refine own_go ?_ (fun target hr => XS.aloadN X0.here hx rfl (hb hby d14_0) rfl rfl (XS.dup X0.here hx rfl (hb hby d14_1) rfl rfl hr))
  show own_G _ p e below s _ _ _ (s₁.setTop (mkF m 2 #[rv a1, rv a2] [(.ref a1), (.ref a1)]))
  obtain ⟨T1, X1, e1, st1⟩ := getF X0 hx hZ hown (host := "") (Or.inl (hw _ (List.mem_of_getElem? (i := 77) rfl))) (Via.of (hw _ (List.mem_of_getElem? (i := 78) rfl))) e0 F_a1_modCount (g := (mkF m 2 #[rv a1, rv a2] [(.ref a1), (.ref a1)])) rfl rfl (hb hby d14_2)
  refine own_go ?_ (fun target hr => st1 _ (XS.iconst X1.here hx rfl (hb hby d14_5) (XS.iadd X1.here hx rfl (hb hby d14_6) rfl hr)))
  show own_G _ p e below s _ _ _ (T1.setTop (mkF m 7 #[rv a1, rv a2] [(.int (mc + (1 : Int32))), (.ref a1)]))
  obtain ⟨T2, h2, X2, e2, W2, st2⟩ := putF X1 hx hZ hown (host := "") (Or.inl (hw _ (List.mem_of_getElem? (i := 77) rfl))) (Via.of (hw _ (List.mem_of_getElem? (i := 78) rfl))) e1 F_a1_modCount E_a1 (Or.inl (hw _ (List.mem_of_getElem? (i := 64) rfl))) (hw _ (List.mem_of_getElem? (i := 45) rfl)) (ty := .int) (by decide) rfl rfl (g := (mkF m 7 #[rv a1, rv a2] [(.int (mc + (1 : Int32))), (.ref a1)])) rfl rfl (hb hby d14_7)
  have Fw2 := F_a1_modCount.same W2
  have N2 := Fr.snoc X2 N0 g_a1
  refine own_go ?_ (fun target hr => st2 _ (XS.aloadN X2.here hx rfl (hb hby d14_10) rfl rfl (XS.aloadN X2.here hx rfl (hb hby d14_11) rfl rfl (XS.aloadN X2.here hx rfl (hb hby d14_12) rfl rfl hr))))
  show own_G _ p e below s _ _ _ (T2.setTop (mkF m 13 #[rv a1, rv a2] [(.ref a1), (.ref a2), (.ref a1)]))
  obtain ⟨T3, X3, e3, st3⟩ := getF X2 hx hZ hown (host := "") (Or.inl (hw _ (List.mem_of_getElem? (i := 66) rfl))) Via.refl e2 (F_a1_elementData.other W2 (Or.inr (slot_ne (Or.inl (hw _ (List.mem_of_getElem? (i := 67) rfl))) (Or.inl (hw _ (List.mem_of_getElem? (i := 64) rfl))) (by decide) (t := (.array (.object "java/lang/Object"))) (t' := .int) (by decide) (by decide)))) (g := (mkF m 13 #[rv a1, rv a2] [(.ref a1), (.ref a2), (.ref a1)])) rfl rfl (hb hby d14_13)
  refine own_go ?_ (fun target hr => st3 _ (XS.aloadN X3.here hx rfl (hb hby d14_16) rfl rfl hr))
  show own_G _ p e below s _ _ _ (T3.setTop (mkF m 17 #[rv a1, rv a2] [(.ref a1), (.ref b), (.ref a2), (.ref a1)]))
  obtain ⟨T4, X4, e4, st4⟩ := getF X3 hx hZ hown (host := "") (Or.inl (hw _ (List.mem_of_getElem? (i := 79) rfl))) Via.refl e3 (F_a1_size.other W2 (Or.inr (slot_ne (Or.inl (hw _ (List.mem_of_getElem? (i := 80) rfl))) (Or.inl (hw _ (List.mem_of_getElem? (i := 64) rfl))) (by decide) (t := .int) (t' := .int) (by decide) (by decide)))) (g := (mkF m 17 #[rv a1, rv a2] [(.ref a1), (.ref b), (.ref a2), (.ref a1)])) rfl rfl (hb hby d14_17)
  refine own_go ?_ (fun target hr => st4 _ hr)
  show own_G _ p e below s _ _ _ (T4.setTop (mkF m 20 #[rv a1, rv a2] [(.int (2 : Int32)), (.ref b), (.ref a2), (.ref a1)]))
  obtain ⟨cq5, qp5, qp5'⟩ := (E_a1.wr W2).cell
  obtain ⟨_, _, ⟨T5, L5, k5, n5⟩, -, X5, ⟨Lc5, hQ5, l5, y5, z5⟩, st5⟩ := X4.privateBack hx (y := (⟨"java/util/ArrayList", "add", "(Ljava/lang/Object;[Ljava/lang/Object;I)V"⟩ : MethodName)) hown (mvT hZ (hw _ (List.mem_of_getElem? (i := 81) rfl))) (mvT hZ (hw _ (List.mem_of_getElem? (i := 82) rfl))) (mvT hZ (hw _ (List.mem_of_getElem? (i := 84) rfl))) (Cond.privateMethod_at (mvP hZ (hw _ (List.mem_of_getElem? (i := 83) rfl)) (args := #[]))) (mvT hZ (hw _ (List.mem_of_getElem? (i := 85) rfl))) (by decide) (backOf (W := 0) (rm_add3_2 l Z a0 hw [] a1 a2 b (mc + (1 : Int32)) kb el0 el1 h2 n0 (Nat.le_trans Z0 (Keep.of_wr W2).1) (E_a1.wr W2) Fw2 (F_a1_elementData.other W2 (Or.inr (slot_ne (Or.inl (hw _ (List.mem_of_getElem? (i := 67) rfl))) (Or.inl (hw _ (List.mem_of_getElem? (i := 64) rfl))) (by decide) (t := (.array (.object "java/lang/Object"))) (t' := .int) (by decide) (by decide)))) (F_a1_size.other W2 (Or.inr (slot_ne (Or.inl (hw _ (List.mem_of_getElem? (i := 80) rfl))) (Or.inl (hw _ (List.mem_of_getElem? (i := 64) rfl))) (by decide) (t := .int) (t' := .int) (by decide) (by decide)))) (V_b.other W2 (Ne.symm ne_a1_b)) ov_kb (E_a2.wr W2) g_a1 g_b ne_a1_b) hZ (hw _ (List.mem_of_getElem? (i := 85) rfl)) (hw _ (List.mem_of_getElem? (i := 46) rfl)) (by decide) (by decide)) (g := (mkF m 20 #[rv a1, rv a2] [(.int (2 : Int32)), (.ref b), (.ref a2), (.ref a1)])) rfl (by rw [hml]; rfl) (Steps.refl _) (a := a1) (by rw [e4]; exact qp5) qp5' (argsL := [(.ref a2), (.ref b), (.int (2 : Int32))]) (rest := []) (lenOf pd__Ljava_lang_Object__Ljava_lang_Object_I_V rfl) rfl (by show 2 * 0 + _ ≤ _; exact Nat.le_of_eq rfl) (hb hby d14_20) (fun _ _ => ⟨rfl, e4, (by decide : 0 + 0 ≤ _), (by decide : 0 + 0 ≤ _)⟩)
  dsimp only [Pt.U, Pt.locs, Pt.cells, Pt.slots] at X5 l5 y5 z5 st5 hQ5
  subst l5 y5 z5
  obtain ⟨rfl, N5q, K5, P5_0, P5_1, P5_2, P5_3, P5_4⟩ := hQ5
  have N5 := Fr.app N2 N5q
  refine own_go ?_ (fun target hr => st5.trans (XS.iconst X5.here hx rfl (hb hby d14_23) hr))
  show own_G _ p e below s _ _ _ (T5.setTop (mkF m 24 #[rv a1, rv a2] [(.int (1 : Int32))]))
  obtain ⟨fs, hr, hrun, hended, hW, hsame⟩ := X5.leave (v := some (.int (1 : Int32))) (fun h => by rw [Bd.returns] at h; cases h)
  exact ⟨_, _, retN X5 hx (t := .boolean) Bd.returns (by simp) (hb hby d14_24) hr, hrun, hended, _, _, rfl, ⟨rfl, N5, (((Keep.refl h0 [a1, b]).wr W2 (Or.inl (List.mem_of_getElem? (i := 0) rfl))).trans K5 (allS (Or.inl (List.mem_of_getElem? (i := 0) rfl)) (allS (Or.inl (List.mem_of_getElem? (i := 1) rfl)) all0))), P5_0, P5_1, P5_2, P5_3, P5_4⟩, ⟨_, rfl⟩, hW, hsame.mono (by decide) (by decide)⟩
theorem d20_0 : decode jdk_30_method_1_code 0 = .ok (.aload_n 0, 1) := by decide +kernel
theorem d20_1 : decode jdk_30_method_1_code 1 = .ok (.invokespecial 1, 3) := by decide +kernel
theorem d20_4 : decode jdk_30_method_1_code 4 = .ok (.return_, 1) := by decide +kernel
theorem pn_20 : plainName "java/lang/Record" = true := by first | (simp [plainName, overriddenIn]; done) | decide +kernel
theorem ef_20 (m : MethodId) (x0 : Addr) : entryFrame m #[(.ref x0)] 1 = mkF m 0 #[rv x0] [] := by first | (simp [entryFrame, mkF, argsToLocals, Value.category]; done) | rfl
def Q_rm20 (Z : State) (a1 : Addr) (h0 : Heap) (n0 : Nat) : Option Value → Heap → List Loc → Prop := fun v h L => v = none ∧ Fr n0 L ∧ h = h0
set_option maxRecDepth 65536 in
set_option maxHeartbeats 40000000 in
theorem rm20 (l : Launch) (Z : State) (a0 : Array Value) (hw : ∀ d ∈ tables_1, d.before a0 Z = true) (ws : List Jvm.Cond) (a1 : Addr) (h0 : Heap) (n0 : Nat) (Z0 : n0 ≤ h0.size) :
    MetFree l (⟨"java/lang/Record", "<init>", "()V"⟩ : MethodName) (head1 (Jvm.Cond.code (⟨"java/lang/Record", "<init>", "()V"⟩ : MethodName) jdk_30_method_1_code 1 none :: ws) ({ frames := 1, cells := 0, slots := 0, locals := 12 } : Room)) (fun a U => a = #[(.ref a1)] ∧ Z.Warmed39 U.vm ∧ U.heap = h0) (fun _ _ _ _ _ => True) (fun _ U o U' => ∃ v L, o = .returned v ∧ (Q_rm20 Z a1 h0 n0) v U'.heap L ∧ FrameEnd U o U' L ({ frames := 1, cells := 0, slots := 0, locals := 12 } : Room).cells ({ frames := 1, cells := 0, slots := 0, locals := 12 } : Room).slots) := by
  refine MetFree.of_bodySF (plainFor_of_name pn_20) hisR ?_
  intro p e s m args below meth c s₁ Bd hml0 hP hK
  obtain ⟨rfl, hZ, hh⟩ := hP
  have hx := Bd.exec
  have hby := Bd.bytes
  have hml : c.maxLocals = 1 := hml0
  have hown : s.vm.findClass "java/lang/Record" = some m.cls := findClass_of_methodNamed Bd.named
  have hnm := (name_of_methodNamed Bd.named Bd.method).1
  have X0 : Stand p l e ({ frames := 1, cells := 0, slots := 0, locals := 12 } : Room) s m #[(.ref a1)] below meth c s₁ [] 0 0 := Stand.of_body Bd
  have e0 : s₁.heap = h0 := by rw [← hh, Bd.state]; rfl
  have N0 := Fr.nil n0
  show own_G FrameEnd p e below s ({ frames := 1, cells := 0, slots := 0, locals := 12 } : Room).cells ({ frames := 1, cells := 0, slots := 0, locals := 12 } : Room).slots (Q_rm20 Z a1 h0 n0) (s₁.setTop (entryFrame m #[(.ref a1)] 1))
  refine own_go (Y' := s₁.setTop (mkF m 0 #[rv a1] [])) ?_ (fun t k => castTop (ef_20 m a1) k)
  refine own_go ?_ (fun target hr => XS.aloadN X0.here hx rfl (hb hby d20_0) rfl rfl hr)
  show own_G _ p e below s _ _ _ (s₁.setTop (mkF m 1 #[rv a1] [(.ref a1)]))
  obtain ⟨T1, X1, e1, st1⟩ := initO X0 hx hZ hown (hw _ (List.mem_of_getElem? (i := 114) rfl)) (hw _ (List.mem_of_getElem? (i := 20) rfl)) (hw _ (List.mem_of_getElem? (i := 21) rfl)) e0 (g := (mkF m 1 #[rv a1] [(.ref a1)])) rfl (by rw [hml]; rfl) rfl (hb hby d20_1) (by decide) (W := 0) (by show 2 * 0 + _ ≤ _; exact Nat.le_of_eq rfl) (by decide)
  refine own_go ?_ (fun target hr => st1 _ hr)
  show own_G _ p e below s _ _ _ (T1.setTop (mkF m 4 #[rv a1] []))
  obtain ⟨fs, hr, hrun, hended, hW, hsame⟩ := X1.leave (v := none) (fun _ => rfl)
  exact ⟨_, _, X1.returnOut hx Bd.returns (hb hby d20_4) hr, hrun, hended, _, _, rfl, ⟨rfl, N0, e1⟩, ⟨_, rfl⟩, hW, hsame.mono (by decide) (by decide)⟩
theorem d19_0 : decode prog_20_method_1_code 0 = .ok (.aload_n 0, 1) := by decide +kernel
theorem d19_1 : decode prog_20_method_1_code 1 = .ok (.invokespecial 1, 3) := by decide +kernel
theorem d19_4 : decode prog_20_method_1_code 4 = .ok (.aload_n 0, 1) := by decide +kernel
theorem d19_5 : decode prog_20_method_1_code 5 = .ok (.iload_n 1, 1) := by decide +kernel
theorem d19_6 : decode prog_20_method_1_code 6 = .ok (.putfield 7, 3) := by decide +kernel
theorem d19_9 : decode prog_20_method_1_code 9 = .ok (.aload_n 0, 1) := by decide +kernel
theorem d19_10 : decode prog_20_method_1_code 10 = .ok (.aload_n 2, 1) := by decide +kernel
theorem d19_11 : decode prog_20_method_1_code 11 = .ok (.putfield 13, 3) := by decide +kernel
theorem d19_14 : decode prog_20_method_1_code 14 = .ok (.return_, 1) := by decide +kernel
theorem pn_19 : plainName "com/example/tableau_abduction/tableauabduction/cli/TabSeparatedFile$Row" = true := by first | (simp [plainName, overriddenIn]; done) | decide +kernel
theorem ef_19 (m : MethodId) (x0 : Addr) (x1 : Int32) (x2 : Addr) : entryFrame m #[(.ref x0), (.int x1), (.ref x2)] 3 = mkF m 0 #[rv x0, iv x1, rv x2] [] := by first | (simp [entryFrame, mkF, argsToLocals, Value.category]; done) | rfl
def Q_rm19 (Z : State) (a1 : Addr) (p2 : Int32) (a3 : Addr) (u1 : Value) (u2 : Value) (h0 : Heap) (n0 : Nat) : Option Value → Heap → List Loc → Prop := fun v h L => v = none ∧ Fr n0 L ∧ Keep h0 h [a1] ∧ Exa Z h a1 "com/example/tableau_abduction/tableauabduction/cli/TabSeparatedFile$Row" ∧ Fld Z h a1 "com/example/tableau_abduction/tableauabduction/cli/TabSeparatedFile$Row" "line" "I" (.int p2) ∧ Fld Z h a1 "com/example/tableau_abduction/tableauabduction/cli/TabSeparatedFile$Row" "fields" "Ljava/util/List;" (.ref a3)
set_option maxRecDepth 65536 in
set_option maxHeartbeats 40000000 in
theorem rm19 (l : Launch) (Z : State) (a0 : Array Value) (hw : ∀ d ∈ tables_1, d.before a0 Z = true) (ws : List Jvm.Cond) (a1 : Addr) (p2 : Int32) (a3 : Addr) (u1 : Value) (u2 : Value) (h0 : Heap) (n0 : Nat) (Z0 : n0 ≤ h0.size) (E_a1 : Exa Z h0 a1 "com/example/tableau_abduction/tableauabduction/cli/TabSeparatedFile$Row") (F_a1_line : Fld Z h0 a1 "com/example/tableau_abduction/tableauabduction/cli/TabSeparatedFile$Row" "line" "I" u1) (F_a1_fields : Fld Z h0 a1 "com/example/tableau_abduction/tableauabduction/cli/TabSeparatedFile$Row" "fields" "Ljava/util/List;" u2) (g_a1 : n0 ≤ a1) :
    MetFree l (⟨"com/example/tableau_abduction/tableauabduction/cli/TabSeparatedFile$Row", "<init>", "(ILjava/util/List;)V"⟩ : MethodName) (head1 (Jvm.Cond.code (⟨"com/example/tableau_abduction/tableauabduction/cli/TabSeparatedFile$Row", "<init>", "(ILjava/util/List;)V"⟩ : MethodName) prog_20_method_1_code 3 none :: ws) ({ frames := 2, cells := 0, slots := 0, locals := 24 } : Room)) (fun a U => a = #[(.ref a1), (.int p2), (.ref a3)] ∧ Z.Warmed39 U.vm ∧ U.heap = h0) (fun _ _ _ _ _ => True) (fun _ U o U' => ∃ v L, o = .returned v ∧ (Q_rm19 Z a1 p2 a3 u1 u2 h0 n0) v U'.heap L ∧ FrameEnd U o U' L ({ frames := 2, cells := 0, slots := 0, locals := 24 } : Room).cells ({ frames := 2, cells := 0, slots := 0, locals := 24 } : Room).slots) := by
  refine MetFree.of_bodySF (plainFor_of_name pn_19) hisR ?_
  intro p e s m args below meth c s₁ Bd hml0 hP hK
  obtain ⟨rfl, hZ, hh⟩ := hP
  have hx := Bd.exec
  have hby := Bd.bytes
  have hml : c.maxLocals = 3 := hml0
  have hown : s.vm.findClass "com/example/tableau_abduction/tableauabduction/cli/TabSeparatedFile$Row" = some m.cls := findClass_of_methodNamed Bd.named
  have hnm := (name_of_methodNamed Bd.named Bd.method).1
  have X0 : Stand p l e ({ frames := 2, cells := 0, slots := 0, locals := 24 } : Room) s m #[(.ref a1), (.int p2), (.ref a3)] below meth c s₁ [] 0 0 := Stand.of_body Bd
  have e0 : s₁.heap = h0 := by rw [← hh, Bd.state]; rfl
  have N0 := Fr.nil n0
  show own_G FrameEnd p e below s ({ frames := 2, cells := 0, slots := 0, locals := 24 } : Room).cells ({ frames := 2, cells := 0, slots := 0, locals := 24 } : Room).slots (Q_rm19 Z a1 p2 a3 u1 u2 h0 n0) (s₁.setTop (entryFrame m #[(.ref a1), (.int p2), (.ref a3)] 3))
  refine own_go (Y' := s₁.setTop (mkF m 0 #[rv a1, iv p2, rv a3] [])) ?_ (fun t k => castTop (ef_19 m a1 p2 a3) k)
  refine own_go ?_ (fun target hr => XS.aloadN X0.here hx rfl (hb hby d19_0) rfl rfl hr)
  show own_G _ p e below s _ _ _ (s₁.setTop (mkF m 1 #[rv a1, iv p2, rv a3] [(.ref a1)]))
  obtain ⟨_, _, ⟨T1, L1, k1, n1⟩, -, X1, ⟨Lc1, hQ1, l1, y1, z1⟩, st1⟩ := X0.specialBack hx (y := (⟨"java/lang/Record", "<init>", "()V"⟩ : MethodName)) rfl hown (mvT hZ (hw _ (List.mem_of_getElem? (i := 109) rfl))) (mvT hZ (hw _ (List.mem_of_getElem? (i := 110) rfl))) (mvT hZ (hw _ (List.mem_of_getElem? (i := 113) rfl))) (by decide) (backOf (W := 0) (rm20 l Z a0 hw [] a1 h0 n0 Z0 ) hZ (hw _ (List.mem_of_getElem? (i := 113) rfl)) (hw _ (List.mem_of_getElem? (i := 112) rfl)) (by decide) (by decide)) (g := (mkF m 1 #[rv a1, iv p2, rv a3] [(.ref a1)])) rfl (by rw [hml]; rfl) (Steps.refl _) (a := a1) (argsL := []) (rest := []) (lenOf pd___V rfl) rfl (by show 2 * 0 + _ ≤ _; exact Nat.le_of_eq rfl) (hb hby d19_1) (fun _ _ => ⟨rfl, e0, (by decide : 0 + 0 ≤ _), (by decide : 0 + 0 ≤ _)⟩)
  dsimp only [Pt.U, Pt.locs, Pt.cells, Pt.slots] at X1 l1 y1 z1 st1 hQ1
  subst l1 y1 z1
  obtain ⟨rfl, N1q, e1⟩ := hQ1
  have N1 := Fr.app N0 N1q
  refine own_go ?_ (fun target hr => st1.trans (XS.aloadN X1.here hx rfl (hb hby d19_4) rfl rfl (XS.iloadN X1.here hx rfl (hb hby d19_5) rfl hr)))
  show own_G _ p e below s _ _ _ (T1.setTop (mkF m 6 #[rv a1, iv p2, rv a3] [(.int p2), (.ref a1)]))
  obtain ⟨T2, h2, X2, e2, W2, st2⟩ := putF X1 hx hZ hown (host := "") (Or.inl (hw _ (List.mem_of_getElem? (i := 115) rfl))) Via.refl e1 F_a1_line E_a1 (Or.inr ⟨(hw _ (List.mem_of_getElem? (i := 116) rfl)), rfl, hnm⟩) (hw _ (List.mem_of_getElem? (i := 104) rfl)) (ty := .int) (by decide) rfl rfl (g := (mkF m 6 #[rv a1, iv p2, rv a3] [(.int p2), (.ref a1)])) rfl rfl (hb hby d19_6)
  have Fw2 := F_a1_line.same W2
  have N2 := Fr.snoc X2 N1 g_a1
  refine own_go ?_ (fun target hr => st2 _ (XS.aloadN X2.here hx rfl (hb hby d19_9) rfl rfl (XS.aloadN X2.here hx rfl (hb hby d19_10) rfl rfl hr)))
  show own_G _ p e below s _ _ _ (T2.setTop (mkF m 11 #[rv a1, iv p2, rv a3] [(.ref a3), (.ref a1)]))
  obtain ⟨T3, h3, X3, e3, W3, st3⟩ := putF X2 hx hZ hown (host := "") (Or.inl (hw _ (List.mem_of_getElem? (i := 117) rfl))) Via.refl e2 (F_a1_fields.other W2 (Or.inr (slot_ne (Or.inr (hw _ (List.mem_of_getElem? (i := 118) rfl))) (Or.inr (hw _ (List.mem_of_getElem? (i := 116) rfl))) (by decide) (t := (.object "java/util/List")) (t' := .int) (by decide) (by decide)))) (E_a1.wr W2) (Or.inr ⟨(hw _ (List.mem_of_getElem? (i := 118) rfl)), rfl, hnm⟩) (hw _ (List.mem_of_getElem? (i := 104) rfl)) (ty := (.object "java/util/List")) (by decide) rfl rfl (g := (mkF m 11 #[rv a1, iv p2, rv a3] [(.ref a3), (.ref a1)])) rfl rfl (hb hby d19_11)
  have Fw3 := (F_a1_fields.other W2 (Or.inr (slot_ne (Or.inr (hw _ (List.mem_of_getElem? (i := 118) rfl))) (Or.inr (hw _ (List.mem_of_getElem? (i := 116) rfl))) (by decide) (t := (.object "java/util/List")) (t' := .int) (by decide) (by decide)))).same W3
  have N3 := Fr.snoc X3 N2 g_a1
  refine own_go ?_ (fun target hr => st3 _ hr)
  show own_G _ p e below s _ _ _ (T3.setTop (mkF m 14 #[rv a1, iv p2, rv a3] []))
  obtain ⟨fs, hr, hrun, hended, hW, hsame⟩ := X3.leave (v := none) (fun _ => rfl)
  exact ⟨_, _, X3.returnOut hx Bd.returns (hb hby d19_14) hr, hrun, hended, _, _, rfl, (by rw [show (T3.setFrames fs).heap = h3 from e3]; exact ⟨rfl, N3, (((Keep.refl h0 [a1]).wr W2 (Or.inl (List.mem_of_getElem? (i := 0) rfl))).wr W3 (Or.inl (List.mem_of_getElem? (i := 0) rfl))), ((E_a1.wr W2).wr W3), (Fw2.other W3 (Or.inr (slot_ne (Or.inr (hw _ (List.mem_of_getElem? (i := 116) rfl))) (Or.inr (hw _ (List.mem_of_getElem? (i := 118) rfl))) (by decide) (t := .int) (t' := (.object "java/util/List")) (by decide) (by decide)))), Fw3⟩), ⟨_, rfl⟩, hW, hsame.mono (by decide) (by decide)⟩
theorem d27_0 : decode prog_20_method_6_code 0 = .ok (.aload_n 0, 1) := by decide +kernel
theorem d27_1 : decode prog_20_method_6_code 1 = .ok (.getfield 7, 3) := by decide +kernel
theorem d27_4 : decode prog_20_method_6_code 4 = .ok (.ireturn, 1) := by decide +kernel
theorem pn_27 : plainName "com/example/tableau_abduction/tableauabduction/cli/TabSeparatedFile$Row" = true := by first | (simp [plainName, overriddenIn]; done) | decide +kernel
theorem ef_27 (m : MethodId) (x0 : Addr) : entryFrame m #[(.ref x0)] 1 = mkF m 0 #[rv x0] [] := by first | (simp [entryFrame, mkF, argsToLocals, Value.category]; done) | rfl
def Q_rm27 (Z : State) (a1 : Addr) (w : Int32) (h0 : Heap) (n0 : Nat) : Option Value → Heap → List Loc → Prop := fun v h L => v = some (.int w) ∧ Fr n0 L ∧ h = h0
set_option maxRecDepth 65536 in
set_option maxHeartbeats 40000000 in
theorem rm27 (l : Launch) (Z : State) (a0 : Array Value) (hw : ∀ d ∈ tables_1, d.before a0 Z = true) (ws : List Jvm.Cond) (a1 : Addr) (w : Int32) (h0 : Heap) (n0 : Nat) (Z0 : n0 ≤ h0.size) (F_a1_line : Fld Z h0 a1 "com/example/tableau_abduction/tableauabduction/cli/TabSeparatedFile$Row" "line" "I" (.int w)) :
    MetFree l (⟨"com/example/tableau_abduction/tableauabduction/cli/TabSeparatedFile$Row", "line", "()I"⟩ : MethodName) (head1 (Jvm.Cond.code (⟨"com/example/tableau_abduction/tableauabduction/cli/TabSeparatedFile$Row", "line", "()I"⟩ : MethodName) prog_20_method_6_code 1 (some .int) :: ws) ({ frames := 0, cells := 0, slots := 0, locals := 0 } : Room)) (fun a U => a = #[(.ref a1)] ∧ Z.Warmed39 U.vm ∧ U.heap = h0) (fun _ _ _ _ _ => True) (fun _ U o U' => ∃ v L, o = .returned v ∧ (Q_rm27 Z a1 w h0 n0) v U'.heap L ∧ FrameEnd U o U' L ({ frames := 0, cells := 0, slots := 0, locals := 0 } : Room).cells ({ frames := 0, cells := 0, slots := 0, locals := 0 } : Room).slots) := by
  refine MetFree.of_bodySF (plainFor_of_name pn_27) hisR ?_
  intro p e s m args below meth c s₁ Bd hml0 hP hK
  obtain ⟨rfl, hZ, hh⟩ := hP
  have hx := Bd.exec
  have hby := Bd.bytes
  have hml : c.maxLocals = 1 := hml0
  have hown : s.vm.findClass "com/example/tableau_abduction/tableauabduction/cli/TabSeparatedFile$Row" = some m.cls := findClass_of_methodNamed Bd.named
  have hnm := (name_of_methodNamed Bd.named Bd.method).1
  have X0 : Stand p l e ({ frames := 0, cells := 0, slots := 0, locals := 0 } : Room) s m #[(.ref a1)] below meth c s₁ [] 0 0 := Stand.of_body Bd
  have e0 : s₁.heap = h0 := by rw [← hh, Bd.state]; rfl
  have N0 := Fr.nil n0
  show own_G FrameEnd p e below s ({ frames := 0, cells := 0, slots := 0, locals := 0 } : Room).cells ({ frames := 0, cells := 0, slots := 0, locals := 0 } : Room).slots (Q_rm27 Z a1 w h0 n0) (s₁.setTop (entryFrame m #[(.ref a1)] 1))
  refine own_go (Y' := s₁.setTop (mkF m 0 #[rv a1] [])) ?_ (fun t k => castTop (ef_27 m a1) k)
  refine own_go ?_ (fun target hr => XS.aloadN X0.here hx rfl (hb hby d27_0) rfl rfl hr)
  show own_G _ p e below s _ _ _ (s₁.setTop (mkF m 1 #[rv a1] [(.ref a1)]))
  obtain ⟨T1, X1, e1, st1⟩ := getF X0 hx hZ hown (host := "") (Or.inl (hw _ (List.mem_of_getElem? (i := 115) rfl))) Via.refl e0 F_a1_line (g := (mkF m 1 #[rv a1] [(.ref a1)])) rfl rfl (hb hby d27_1)
  refine own_go ?_ (fun target hr => st1 _ hr)
  show own_G _ p e below s _ _ _ (T1.setTop (mkF m 4 #[rv a1] [(.int w)]))
  obtain ⟨fs, hr, hrun, hended, hW, hsame⟩ := X1.leave (v := some (.int w)) (fun h => by rw [Bd.returns] at h; cases h)
  exact ⟨_, _, retI X1 hx Bd.returns (hb hby d27_4) hr, hrun, hended, _, _, rfl, ⟨rfl, N0, e1⟩, ⟨_, rfl⟩, hW, hsame.mono (by decide) (by decide)⟩
theorem d26_0 : decode jdk_42_method_66_code 0 = .ok (.aload_n 0, 1) := by decide +kernel
theorem d26_1 : decode jdk_42_method_66_code 1 = .ok (.aload_n 1, 1) := by decide +kernel
theorem d26_2 : decode jdk_42_method_66_code 2 = .ok (.if_acmp .ne 5, 3) := by decide +kernel
theorem d26_5 : decode jdk_42_method_66_code 5 = .ok (.iconst 1, 1) := by decide +kernel
theorem d26_6 : decode jdk_42_method_66_code 6 = .ok (.ireturn, 1) := by decide +kernel
theorem pn_26 : plainName "java/lang/String" = true := by first | (simp [plainName, overriddenIn]; done) | decide +kernel
theorem ef_26 (m : MethodId) (x0 : Addr) (x1 : Addr) : entryFrame m #[(.ref x0), (.ref x1)] 3 = mkF m 0 #[rv x0, rv x1, .unset] [] := by first | (simp [entryFrame, mkF, argsToLocals, Value.category]; done) | rfl
def Q_rm_eq (Z : State) (a1 : Addr) (h0 : Heap) (n0 : Nat) : Option Value → Heap → List Loc → Prop := fun v h L => v = some (.int (1 : Int32)) ∧ Fr n0 L ∧ h = h0
set_option maxRecDepth 65536 in
set_option maxHeartbeats 40000000 in
theorem rm_eq (l : Launch) (Z : State) (a0 : Array Value) (hw : ∀ d ∈ tables_1, d.before a0 Z = true) (ws : List Jvm.Cond) (a1 : Addr) (h0 : Heap) (n0 : Nat) (Z0 : n0 ≤ h0.size) :
    MetFree l (⟨"java/lang/String", "equals", "(Ljava/lang/Object;)Z"⟩ : MethodName) (head1 (Jvm.Cond.code (⟨"java/lang/String", "equals", "(Ljava/lang/Object;)Z"⟩ : MethodName) jdk_42_method_66_code 3 (some .boolean) :: ws) ({ frames := 0, cells := 0, slots := 0, locals := 0 } : Room)) (fun a U => a = #[(.ref a1), (.ref a1)] ∧ Z.Warmed39 U.vm ∧ U.heap = h0) (fun _ _ _ _ _ => True) (fun _ U o U' => ∃ v L, o = .returned v ∧ (Q_rm_eq Z a1 h0 n0) v U'.heap L ∧ FrameEnd U o U' L ({ frames := 0, cells := 0, slots := 0, locals := 0 } : Room).cells ({ frames := 0, cells := 0, slots := 0, locals := 0 } : Room).slots) := by
  refine MetFree.of_bodySF (plainFor_of_name pn_26) hisR ?_
  intro p e s m args below meth c s₁ Bd hml0 hP hK
  obtain ⟨rfl, hZ, hh⟩ := hP
  have hx := Bd.exec
  have hby := Bd.bytes
  have hml : c.maxLocals = 3 := hml0
  have hown : s.vm.findClass "java/lang/String" = some m.cls := findClass_of_methodNamed Bd.named
  have hnm := (name_of_methodNamed Bd.named Bd.method).1
  have X0 : Stand p l e ({ frames := 0, cells := 0, slots := 0, locals := 0 } : Room) s m #[(.ref a1), (.ref a1)] below meth c s₁ [] 0 0 := Stand.of_body Bd
  have e0 : s₁.heap = h0 := by rw [← hh, Bd.state]; rfl
  have N0 := Fr.nil n0
  show own_G FrameEnd p e below s ({ frames := 0, cells := 0, slots := 0, locals := 0 } : Room).cells ({ frames := 0, cells := 0, slots := 0, locals := 0 } : Room).slots (Q_rm_eq Z a1 h0 n0) (s₁.setTop (entryFrame m #[(.ref a1), (.ref a1)] 3))
  refine own_go (Y' := s₁.setTop (mkF m 0 #[rv a1, rv a1, .unset] [])) ?_ (fun t k => castTop (ef_26 m a1 a1) k)
  refine own_go ?_ (fun target hr => XS.aloadN X0.here hx rfl (hb hby d26_0) rfl rfl (XS.aloadN X0.here hx rfl (hb hby d26_1) rfl rfl (Jvm.RoadKit.acmp (g := (mkF m 2 #[rv a1, rv a1, .unset] [(.ref a1), (.ref a1)])) X0 hx rfl rfl rfl (pc0 := 2) (pc' := 5) (same := true) rfl (hb hby d26_2) rfl (decide_eq_true rfl) (by decide) (by decide) (XS.iconst X0.here hx rfl (hb hby d26_5) hr))))
  show own_G _ p e below s _ _ _ (s₁.setTop (mkF m 6 #[rv a1, rv a1, .unset] [(.int (1 : Int32))]))
  obtain ⟨fs, hr, hrun, hended, hW, hsame⟩ := X0.leave (v := some (.int (1 : Int32))) (fun h => by rw [Bd.returns] at h; cases h)
  exact ⟨_, _, retN X0 hx (t := .boolean) Bd.returns (by simp) (hb hby d26_6) hr, hrun, hended, _, _, rfl, ⟨rfl, N0, e0⟩, ⟨_, rfl⟩, hW, hsame.mono (by decide) (by decide)⟩
theorem d24_0 : decode jdk_41_method_11_code 0 = .ok (.iload_n 0, 1) := by decide +kernel
theorem d24_1 : decode jdk_41_method_11_code 1 = .ok (.ifCond .lt 8, 3) := by decide +kernel
theorem d24_4 : decode jdk_41_method_11_code 4 = .ok (.iload_n 0, 1) := by decide +kernel
theorem d24_5 : decode jdk_41_method_11_code 5 = .ok (.iload_n 1, 1) := by decide +kernel
theorem d24_6 : decode jdk_41_method_11_code 6 = .ok (.if_icmp .lt 10, 3) := by decide +kernel
theorem d24_16 : decode jdk_41_method_11_code 16 = .ok (.iload_n 0, 1) := by decide +kernel
theorem d24_17 : decode jdk_41_method_11_code 17 = .ok (.ireturn, 1) := by decide +kernel
theorem pn_24 : plainName "jdk/internal/util/Preconditions" = true := by first | (simp [plainName, overriddenIn]; done) | decide +kernel
theorem ef_24 (m : MethodId) (x0 : Int32) (x1 : Int32) : entryFrame m #[(.int x0), (.int x1), .null] 3 = mkF m 0 #[iv x0, iv x1, .val .null] [] := by first | (simp [entryFrame, mkF, argsToLocals, Value.category]; done) | rfl
def Q_rm_pchk_1_0 (Z : State)  (h0 : Heap) (n0 : Nat) : Option Value → Heap → List Loc → Prop := fun v h L => v = some (.int (0 : Int32)) ∧ Fr n0 L ∧ h = h0
set_option maxRecDepth 65536 in
set_option maxHeartbeats 40000000 in
theorem rm_pchk_1_0 (l : Launch) (Z : State) (a0 : Array Value) (hw : ∀ d ∈ tables_1, d.before a0 Z = true) (ws : List Jvm.Cond)  (h0 : Heap) (n0 : Nat) (Z0 : n0 ≤ h0.size) :
    MetFree l (⟨"jdk/internal/util/Preconditions", "checkIndex", "(IILjava/util/function/BiFunction;)I"⟩ : MethodName) (head1 (Jvm.Cond.code (⟨"jdk/internal/util/Preconditions", "checkIndex", "(IILjava/util/function/BiFunction;)I"⟩ : MethodName) jdk_41_method_11_code 3 (some .int) :: ws) ({ frames := 0, cells := 0, slots := 0, locals := 0 } : Room)) (fun a U => a = #[(.int (0 : Int32)), (.int (1 : Int32)), .null] ∧ Z.Warmed39 U.vm ∧ U.heap = h0) (fun _ _ _ _ _ => True) (fun _ U o U' => ∃ v L, o = .returned v ∧ (Q_rm_pchk_1_0 Z  h0 n0) v U'.heap L ∧ FrameEnd U o U' L ({ frames := 0, cells := 0, slots := 0, locals := 0 } : Room).cells ({ frames := 0, cells := 0, slots := 0, locals := 0 } : Room).slots) := by
  refine MetFree.of_bodySF (plainFor_of_name pn_24) hisR ?_
  intro p e s m args below meth c s₁ Bd hml0 hP hK
  obtain ⟨rfl, hZ, hh⟩ := hP
  have hx := Bd.exec
  have hby := Bd.bytes
  have hml : c.maxLocals = 3 := hml0
  have hown : s.vm.findClass "jdk/internal/util/Preconditions" = some m.cls := findClass_of_methodNamed Bd.named
  have hnm := (name_of_methodNamed Bd.named Bd.method).1
  have X0 : Stand p l e ({ frames := 0, cells := 0, slots := 0, locals := 0 } : Room) s m #[(.int (0 : Int32)), (.int (1 : Int32)), .null] below meth c s₁ [] 0 0 := Stand.of_body Bd
  have e0 : s₁.heap = h0 := by rw [← hh, Bd.state]; rfl
  have N0 := Fr.nil n0
  show own_G FrameEnd p e below s ({ frames := 0, cells := 0, slots := 0, locals := 0 } : Room).cells ({ frames := 0, cells := 0, slots := 0, locals := 0 } : Room).slots (Q_rm_pchk_1_0 Z  h0 n0) (s₁.setTop (entryFrame m #[(.int (0 : Int32)), (.int (1 : Int32)), .null] 3))
  refine own_go (Y' := s₁.setTop (mkF m 0 #[iv (0 : Int32), iv (1 : Int32), .val .null] [])) ?_ (fun t k => castTop (ef_24 m (0 : Int32) (1 : Int32)) k)
  refine own_go ?_ (fun target hr => XS.iloadN X0.here hx rfl (hb hby d24_0) rfl (XS.ifNo X0.here hx rfl (hb hby d24_1) rfl ((if0 _ _).trans (flt (by decide : ¬ ((0 : Int32) < (0 : Int32)))).1) (XS.iloadN X0.here hx rfl (hb hby d24_4) rfl (XS.iloadN X0.here hx rfl (hb hby d24_5) rfl (XS.icmpYes X0.here hx rfl (pc0 := 6) (pc' := 16) rfl (hb hby d24_6) rfl (tlt (by decide : (0 : Int32) < (1 : Int32))).1 (by decide) (by decide) (XS.iloadN X0.here hx rfl (hb hby d24_16) rfl hr))))))
  show own_G _ p e below s _ _ _ (s₁.setTop (mkF m 17 #[iv (0 : Int32), iv (1 : Int32), .val .null] [(.int (0 : Int32))]))
  obtain ⟨fs, hr, hrun, hended, hW, hsame⟩ := X0.leave (v := some (.int (0 : Int32))) (fun h => by rw [Bd.returns] at h; cases h)
  exact ⟨_, _, retI X0 hx Bd.returns (hb hby d24_17) hr, hrun, hended, _, _, rfl, ⟨rfl, N0, e0⟩, ⟨_, rfl⟩, hW, hsame.mono (by decide) (by decide)⟩
theorem d23_0 : decode jdk_31_method_17_code 0 = .ok (.iload_n 0, 1) := by decide +kernel
theorem d23_1 : decode jdk_31_method_17_code 1 = .ok (.iload_n 1, 1) := by decide +kernel
theorem d23_2 : decode jdk_31_method_17_code 2 = .ok (.aconst_null, 1) := by decide +kernel
theorem d23_3 : decode jdk_31_method_17_code 3 = .ok (.invokestatic 105, 3) := by decide +kernel
theorem d23_6 : decode jdk_31_method_17_code 6 = .ok (.ireturn, 1) := by decide +kernel
theorem pn_23 : plainName "java/util/Objects" = true := by first | (simp [plainName, overriddenIn]; done) | decide +kernel
theorem pd__IILjava_util_function_BiFunction__I : parseMethodDescriptor "(IILjava/util/function/BiFunction;)I" = some ⟨[.int, .int, (.object "java/util/function/BiFunction")], some .int⟩ := by decide +kernel
theorem ef_23 (m : MethodId) (x0 : Int32) (x1 : Int32) : entryFrame m #[(.int x0), (.int x1)] 2 = mkF m 0 #[iv x0, iv x1] [] := by first | (simp [entryFrame, mkF, argsToLocals, Value.category]; done) | rfl
def Q_rm_ochk_1_0 (Z : State)  (h0 : Heap) (n0 : Nat) : Option Value → Heap → List Loc → Prop := fun v h L => v = some (.int (0 : Int32)) ∧ Fr n0 L ∧ h = h0
set_option maxRecDepth 65536 in
set_option maxHeartbeats 40000000 in
theorem rm_ochk_1_0 (l : Launch) (Z : State) (a0 : Array Value) (hw : ∀ d ∈ tables_1, d.before a0 Z = true) (ws : List Jvm.Cond)  (h0 : Heap) (n0 : Nat) (Z0 : n0 ≤ h0.size) :
    MetFree l (⟨"java/util/Objects", "checkIndex", "(II)I"⟩ : MethodName) (head1 (Jvm.Cond.code (⟨"java/util/Objects", "checkIndex", "(II)I"⟩ : MethodName) jdk_31_method_17_code 2 (some .int) :: ws) ({ frames := 1, cells := 0, slots := 0, locals := 14 } : Room)) (fun a U => a = #[(.int (0 : Int32)), (.int (1 : Int32))] ∧ Z.Warmed39 U.vm ∧ U.heap = h0) (fun _ _ _ _ _ => True) (fun _ U o U' => ∃ v L, o = .returned v ∧ (Q_rm_ochk_1_0 Z  h0 n0) v U'.heap L ∧ FrameEnd U o U' L ({ frames := 1, cells := 0, slots := 0, locals := 14 } : Room).cells ({ frames := 1, cells := 0, slots := 0, locals := 14 } : Room).slots) := by
  refine MetFree.of_bodySF (plainFor_of_name pn_23) hisR ?_
  intro p e s m args below meth c s₁ Bd hml0 hP hK
  obtain ⟨rfl, hZ, hh⟩ := hP
  have hx := Bd.exec
  have hby := Bd.bytes
  have hml : c.maxLocals = 2 := hml0
  have hown : s.vm.findClass "java/util/Objects" = some m.cls := findClass_of_methodNamed Bd.named
  have hnm := (name_of_methodNamed Bd.named Bd.method).1
  have X0 : Stand p l e ({ frames := 1, cells := 0, slots := 0, locals := 14 } : Room) s m #[(.int (0 : Int32)), (.int (1 : Int32))] below meth c s₁ [] 0 0 := Stand.of_body Bd
  have e0 : s₁.heap = h0 := by rw [← hh, Bd.state]; rfl
  have N0 := Fr.nil n0
  show own_G FrameEnd p e below s ({ frames := 1, cells := 0, slots := 0, locals := 14 } : Room).cells ({ frames := 1, cells := 0, slots := 0, locals := 14 } : Room).slots (Q_rm_ochk_1_0 Z  h0 n0) (s₁.setTop (entryFrame m #[(.int (0 : Int32)), (.int (1 : Int32))] 2))
  refine own_go (Y' := s₁.setTop (mkF m 0 #[iv (0 : Int32), iv (1 : Int32)] [])) ?_ (fun t k => castTop (ef_23 m (0 : Int32) (1 : Int32)) k)
  refine own_go ?_ (fun target hr => XS.iloadN X0.here hx rfl (hb hby d23_0) rfl (XS.iloadN X0.here hx rfl (hb hby d23_1) rfl (XS.aconstNull X0.here hx rfl (hb hby d23_2) hr)))
  show own_G _ p e below s _ _ _ (s₁.setTop (mkF m 3 #[iv (0 : Int32), iv (1 : Int32)] [.null, (.int (1 : Int32)), (.int (0 : Int32))]))
  obtain ⟨_, _, ⟨T1, L1, k1, n1⟩, -, X1, ⟨Lc1, hQ1, l1, y1, z1⟩, st1⟩ := Jvm.LawKit.callS X0 hx (y := (⟨"jdk/internal/util/Preconditions", "checkIndex", "(IILjava/util/function/BiFunction;)I"⟩ : MethodName)) hown (mvT hZ (hw _ (List.mem_of_getElem? (i := 136) rfl))) (mvT hZ (hw _ (List.mem_of_getElem? (i := 137) rfl))) (mvT hZ (hw _ (List.mem_of_getElem? (i := 138) rfl))) (mvT hZ (hw _ (List.mem_of_getElem? (i := 139) rfl))) (by decide) (backOf (W := 0) (rm_pchk_1_0 l Z a0 hw []  h0 n0 Z0 ) hZ (hw _ (List.mem_of_getElem? (i := 139) rfl)) (hw _ (List.mem_of_getElem? (i := 138) rfl)) (by decide) (by decide)) (g := (mkF m 3 #[iv (0 : Int32), iv (1 : Int32)] [.null, (.int (1 : Int32)), (.int (0 : Int32))])) rfl (by rw [hml]; rfl) (argsL := [(.int (0 : Int32)), (.int (1 : Int32)), .null]) (rest := []) (lenOf pd__IILjava_util_function_BiFunction__I rfl) rfl (by show 2 * 0 + _ ≤ _; exact Nat.le_of_eq rfl) (hb hby d23_3) (fun _ _ => ⟨rfl, e0, (by decide : 0 + 0 ≤ _), (by decide : 0 + 0 ≤ _)⟩)
  dsimp only [Pt.U, Pt.locs, Pt.cells, Pt.slots] at X1 l1 y1 z1 st1 hQ1
  subst l1 y1 z1
  obtain ⟨rfl, N1q, e1⟩ := hQ1
  have N1 := Fr.app N0 N1q
  refine own_go ?_ (fun target hr => st1 _ hr)
  show own_G _ p e below s _ _ _ (T1.setTop (mkF m 6 #[iv (0 : Int32), iv (1 : Int32)] [(.int (0 : Int32))]))
  obtain ⟨fs, hr, hrun, hended, hW, hsame⟩ := X1.leave (v := some (.int (0 : Int32))) (fun h => by rw [Bd.returns] at h; cases h)
  exact ⟨_, _, retI X1 hx Bd.returns (hb hby d23_6) hr, hrun, hended, _, _, rfl, ⟨rfl, N1, e1⟩, ⟨_, rfl⟩, hW, hsame.mono (by decide) (by decide)⟩
theorem d25_0 : decode jdk_38_method_18_code 0 = .ok (.aload_n 0, 1) := by decide +kernel
theorem d25_1 : decode jdk_38_method_18_code 1 = .ok (.getfield 9, 3) := by decide +kernel
theorem d25_4 : decode jdk_38_method_18_code 4 = .ok (.iload_n 1, 1) := by decide +kernel
theorem d25_5 : decode jdk_38_method_18_code 5 = .ok (.aaload, 1) := by decide +kernel
theorem d25_6 : decode jdk_38_method_18_code 6 = .ok (.areturn, 1) := by decide +kernel
theorem pn_25 : plainName "java/util/ArrayList" = true := by first | (simp [plainName, overriddenIn]; done) | decide +kernel
theorem ef_25 (m : MethodId) (x0 : Addr) (x1 : Int32) : entryFrame m #[(.ref x0), (.int x1)] 2 = mkF m 0 #[rv x0, iv x1] [] := by first | (simp [entryFrame, mkF, argsToLocals, Value.category]; done) | rfl
def Q_rm_ed_1_0 (Z : State) (a1 : Addr) (b : Addr) (kb : ClassId) (el0 : Addr) (h0 : Heap) (n0 : Nat) : Option Value → Heap → List Loc → Prop := fun v h L => v = some (.ref el0) ∧ Fr n0 L ∧ h = h0
set_option maxRecDepth 65536 in
set_option maxHeartbeats 40000000 in
theorem rm_ed_1_0 (l : Launch) (Z : State) (a0 : Array Value) (hw : ∀ d ∈ tables_1, d.before a0 Z = true) (ws : List Jvm.Cond) (a1 : Addr) (b : Addr) (kb : ClassId) (el0 : Addr) (h0 : Heap) (n0 : Nat) (Z0 : n0 ≤ h0.size) (E_a1 : Exa Z h0 a1 "java/util/ArrayList") (F_a1_elementData : Fld Z h0 a1 "java/util/ArrayList" "elementData" "[Ljava/lang/Object;" (.ref b)) (F_a1_size : Fld Z h0 a1 "java/util/ArrayList" "size" "I" (.int (1 : Int32))) (V_b : Arv Z h0 b kb (.object "java/lang/Object") (10 : Int32) [(.ref el0), .null, .null, .null, .null, .null, .null, .null, .null, .null] .null) :
    MetFree l (⟨"java/util/ArrayList", "elementData", "(I)Ljava/lang/Object;"⟩ : MethodName) (head1 (Jvm.Cond.code (⟨"java/util/ArrayList", "elementData", "(I)Ljava/lang/Object;"⟩ : MethodName) jdk_38_method_18_code 2 (some (.object "java/lang/Object")) :: ws) ({ frames := 0, cells := 0, slots := 0, locals := 0 } : Room)) (fun a U => a = #[(.ref a1), (.int (0 : Int32))] ∧ Z.Warmed39 U.vm ∧ U.heap = h0) (fun _ _ _ _ _ => True) (fun _ U o U' => ∃ v L, o = .returned v ∧ (Q_rm_ed_1_0 Z a1 b kb el0 h0 n0) v U'.heap L ∧ FrameEnd U o U' L ({ frames := 0, cells := 0, slots := 0, locals := 0 } : Room).cells ({ frames := 0, cells := 0, slots := 0, locals := 0 } : Room).slots) := by
  refine MetFree.of_bodySF (plainFor_of_name pn_25) hisR ?_
  intro p e s m args below meth c s₁ Bd hml0 hP hK
  obtain ⟨rfl, hZ, hh⟩ := hP
  have hx := Bd.exec
  have hby := Bd.bytes
  have hml : c.maxLocals = 2 := hml0
  have hown : s.vm.findClass "java/util/ArrayList" = some m.cls := findClass_of_methodNamed Bd.named
  have hnm := (name_of_methodNamed Bd.named Bd.method).1
  have X0 : Stand p l e ({ frames := 0, cells := 0, slots := 0, locals := 0 } : Room) s m #[(.ref a1), (.int (0 : Int32))] below meth c s₁ [] 0 0 := Stand.of_body Bd
  have e0 : s₁.heap = h0 := by rw [← hh, Bd.state]; rfl
  have N0 := Fr.nil n0
  show own_G FrameEnd p e below s ({ frames := 0, cells := 0, slots := 0, locals := 0 } : Room).cells ({ frames := 0, cells := 0, slots := 0, locals := 0 } : Room).slots (Q_rm_ed_1_0 Z a1 b kb el0 h0 n0) (s₁.setTop (entryFrame m #[(.ref a1), (.int (0 : Int32))] 2))
  refine own_go (Y' := s₁.setTop (mkF m 0 #[rv a1, iv (0 : Int32)] [])) ?_ (fun t k => castTop (ef_25 m a1 (0 : Int32)) k)
  refine own_go ?_ (fun target hr => XS.aloadN X0.here hx rfl (hb hby d25_0) rfl rfl hr)
  show own_G _ p e below s _ _ _ (s₁.setTop (mkF m 1 #[rv a1, iv (0 : Int32)] [(.ref a1)]))
  obtain ⟨T1, X1, e1, st1⟩ := getF X0 hx hZ hown (host := "") (Or.inl (hw _ (List.mem_of_getElem? (i := 66) rfl))) Via.refl e0 F_a1_elementData (g := (mkF m 1 #[rv a1, iv (0 : Int32)] [(.ref a1)])) rfl rfl (hb hby d25_1)
  refine own_go ?_ (fun target hr => st1 _ (XS.iloadN X1.here hx rfl (hb hby d25_4) rfl hr))
  show own_G _ p e below s _ _ _ (T1.setTop (mkF m 5 #[rv a1, iv (0 : Int32)] [(.int (0 : Int32)), (.ref b)]))
  obtain ⟨cl2, Ar2, qk2, S2, M2, H2, G2⟩ := id V_b
  have hin2 : ¬ ((0 : Int32) < 0 ∨ cl2.slots.size ≤ ((0 : Int32)).toNatClampNeg) := inb_of S2 ⟨by decide, by decide⟩
  refine own_go ?_ (fun target hr => X1.aaload hx (j := (0 : Int32)) (v := (.ref el0)) (by rw [e1]; exact Ar2.1) (State.isArrayOf_alike hZ.alike Ar2.2.1) rfl Ar2.2.2 hin2 (Has.at H2 hin2 rfl) (g := (mkF m 5 #[rv a1, iv (0 : Int32)] [(.int (0 : Int32)), (.ref b)])) rfl rfl (hb hby d25_5) _ hr)
  show own_G _ p e below s _ _ _ (T1.setTop (mkF m 6 #[rv a1, iv (0 : Int32)] [(.ref el0)]))
  obtain ⟨fs, hr, hrun, hended, hW, hsame⟩ := X1.leave (v := some (.ref el0)) (fun h => by rw [Bd.returns] at h; cases h)
  exact ⟨_, _, retOut X1 hx Bd.returns rfl (Or.inr (Or.inr (Or.inr (Or.inr ⟨rfl, rfl, rfl⟩)))) (hb hby d25_6) hr, hrun, hended, _, _, rfl, ⟨rfl, N0, e1⟩, ⟨_, rfl⟩, hW, hsame.mono (by decide) (by decide)⟩
theorem d22_0 : decode jdk_38_method_20_code 0 = .ok (.iload_n 1, 1) := by decide +kernel
theorem d22_1 : decode jdk_38_method_20_code 1 = .ok (.aload_n 0, 1) := by decide +kernel
theorem d22_2 : decode jdk_38_method_20_code 2 = .ok (.getfield 48, 3) := by decide +kernel
theorem d22_5 : decode jdk_38_method_20_code 5 = .ok (.invokestatic 118, 3) := by decide +kernel
theorem d22_8 : decode jdk_38_method_20_code 8 = .ok (.pop, 1) := by decide +kernel
theorem d22_9 : decode jdk_38_method_20_code 9 = .ok (.aload_n 0, 1) := by decide +kernel
theorem d22_10 : decode jdk_38_method_20_code 10 = .ok (.iload_n 1, 1) := by decide +kernel
theorem d22_11 : decode jdk_38_method_20_code 11 = .ok (.invokevirtual 123, 3) := by decide +kernel
theorem d22_14 : decode jdk_38_method_20_code 14 = .ok (.areturn, 1) := by decide +kernel
theorem pn_22 : plainName "java/util/ArrayList" = true := by first | (simp [plainName, overriddenIn]; done) | decide +kernel
theorem pd__I_Ljava_lang_Object_ : parseMethodDescriptor "(I)Ljava/lang/Object;" = some ⟨[.int], some (.object "java/lang/Object")⟩ := by decide +kernel
theorem ef_22 (m : MethodId) (x0 : Addr) (x1 : Int32) : entryFrame m #[(.ref x0), (.int x1)] 2 = mkF m 0 #[rv x0, iv x1] [] := by first | (simp [entryFrame, mkF, argsToLocals, Value.category]; done) | rfl
def Q_rm_get_1_0 (Z : State) (a1 : Addr) (b : Addr) (kb : ClassId) (el0 : Addr) (h0 : Heap) (n0 : Nat) : Option Value → Heap → List Loc → Prop := fun v h L => v = some (.ref el0) ∧ Fr n0 L ∧ h = h0
set_option maxRecDepth 65536 in
set_option maxHeartbeats 40000000 in
theorem rm_get_1_0 (l : Launch) (Z : State) (a0 : Array Value) (hw : ∀ d ∈ tables_1, d.before a0 Z = true) (ws : List Jvm.Cond) (a1 : Addr) (b : Addr) (kb : ClassId) (el0 : Addr) (h0 : Heap) (n0 : Nat) (Z0 : n0 ≤ h0.size) (E_a1 : Exa Z h0 a1 "java/util/ArrayList") (F_a1_elementData : Fld Z h0 a1 "java/util/ArrayList" "elementData" "[Ljava/lang/Object;" (.ref b)) (F_a1_size : Fld Z h0 a1 "java/util/ArrayList" "size" "I" (.int (1 : Int32))) (V_b : Arv Z h0 b kb (.object "java/lang/Object") (10 : Int32) [(.ref el0), .null, .null, .null, .null, .null, .null, .null, .null, .null] .null) :
    MetFree l (⟨"java/util/ArrayList", "get", "(I)Ljava/lang/Object;"⟩ : MethodName) (head1 (Jvm.Cond.code (⟨"java/util/ArrayList", "get", "(I)Ljava/lang/Object;"⟩ : MethodName) jdk_38_method_20_code 2 (some (.object "java/lang/Object")) :: ws) ({ frames := 2, cells := 0, slots := 0, locals := 27 } : Room)) (fun a U => a = #[(.ref a1), (.int (0 : Int32))] ∧ Z.Warmed39 U.vm ∧ U.heap = h0) (fun _ _ _ _ _ => True) (fun _ U o U' => ∃ v L, o = .returned v ∧ (Q_rm_get_1_0 Z a1 b kb el0 h0 n0) v U'.heap L ∧ FrameEnd U o U' L ({ frames := 2, cells := 0, slots := 0, locals := 27 } : Room).cells ({ frames := 2, cells := 0, slots := 0, locals := 27 } : Room).slots) := by
  refine MetFree.of_bodySF (plainFor_of_name pn_22) hisR ?_
  intro p e s m args below meth c s₁ Bd hml0 hP hK
  obtain ⟨rfl, hZ, hh⟩ := hP
  have hx := Bd.exec
  have hby := Bd.bytes
  have hml : c.maxLocals = 2 := hml0
  have hown : s.vm.findClass "java/util/ArrayList" = some m.cls := findClass_of_methodNamed Bd.named
  have hnm := (name_of_methodNamed Bd.named Bd.method).1
  have X0 : Stand p l e ({ frames := 2, cells := 0, slots := 0, locals := 27 } : Room) s m #[(.ref a1), (.int (0 : Int32))] below meth c s₁ [] 0 0 := Stand.of_body Bd
  have e0 : s₁.heap = h0 := by rw [← hh, Bd.state]; rfl
  have N0 := Fr.nil n0
  show own_G FrameEnd p e below s ({ frames := 2, cells := 0, slots := 0, locals := 27 } : Room).cells ({ frames := 2, cells := 0, slots := 0, locals := 27 } : Room).slots (Q_rm_get_1_0 Z a1 b kb el0 h0 n0) (s₁.setTop (entryFrame m #[(.ref a1), (.int (0 : Int32))] 2))
  refine own_go (Y' := s₁.setTop (mkF m 0 #[rv a1, iv (0 : Int32)] [])) ?_ (fun t k => castTop (ef_22 m a1 (0 : Int32)) k)
  refine own_go ?_ (fun target hr => XS.iloadN X0.here hx rfl (hb hby d22_0) rfl (XS.aloadN X0.here hx rfl (hb hby d22_1) rfl rfl hr))
  show own_G _ p e below s _ _ _ (s₁.setTop (mkF m 2 #[rv a1, iv (0 : Int32)] [(.ref a1), (.int (0 : Int32))]))
  obtain ⟨T1, X1, e1, st1⟩ := getF X0 hx hZ hown (host := "") (Or.inl (hw _ (List.mem_of_getElem? (i := 79) rfl))) Via.refl e0 F_a1_size (g := (mkF m 2 #[rv a1, iv (0 : Int32)] [(.ref a1), (.int (0 : Int32))])) rfl rfl (hb hby d22_2)
  refine own_go ?_ (fun target hr => st1 _ hr)
  show own_G _ p e below s _ _ _ (T1.setTop (mkF m 5 #[rv a1, iv (0 : Int32)] [(.int (1 : Int32)), (.int (0 : Int32))]))
  obtain ⟨_, _, ⟨T2, L2, k2, n2⟩, -, X2, ⟨Lc2, hQ2, l2, y2, z2⟩, st2⟩ := Jvm.LawKit.callS X1 hx (y := (⟨"java/util/Objects", "checkIndex", "(II)I"⟩ : MethodName)) hown (mvT hZ (hw _ (List.mem_of_getElem? (i := 132) rfl))) (mvT hZ (hw _ (List.mem_of_getElem? (i := 133) rfl))) (mvT hZ (hw _ (List.mem_of_getElem? (i := 134) rfl))) (mvT hZ (hw _ (List.mem_of_getElem? (i := 135) rfl))) (by decide) (backOf (W := 0) (rm_ochk_1_0 l Z a0 hw []  h0 n0 Z0 ) hZ (hw _ (List.mem_of_getElem? (i := 135) rfl)) (hw _ (List.mem_of_getElem? (i := 134) rfl)) (by decide) (by decide)) (g := (mkF m 5 #[rv a1, iv (0 : Int32)] [(.int (1 : Int32)), (.int (0 : Int32))])) rfl (by rw [hml]; rfl) (argsL := [(.int (0 : Int32)), (.int (1 : Int32))]) (rest := []) (lenOf pd__II_I rfl) rfl (by show 2 * 0 + _ ≤ _; exact Nat.le_of_eq rfl) (hb hby d22_5) (fun _ _ => ⟨rfl, e1, (by decide : 0 + 0 ≤ _), (by decide : 0 + 0 ≤ _)⟩)
  dsimp only [Pt.U, Pt.locs, Pt.cells, Pt.slots] at X2 l2 y2 z2 st2 hQ2
  subst l2 y2 z2
  obtain ⟨rfl, N2q, e2⟩ := hQ2
  have N2 := Fr.app N0 N2q
  refine own_go ?_ (fun target hr => st2 _ (XS.pop X2.here hx rfl (hb hby d22_8) rfl rfl (XS.aloadN X2.here hx rfl (hb hby d22_9) rfl rfl (XS.iloadN X2.here hx rfl (hb hby d22_10) rfl hr))))
  show own_G _ p e below s _ _ _ (T2.setTop (mkF m 11 #[rv a1, iv (0 : Int32)] [(.int (0 : Int32)), (.ref a1)]))
  obtain ⟨cq3, kq3, q3a, q3b, q3c⟩ := isOf hZ e2 E_a1
  obtain ⟨_, _, ⟨T3, L3, k3, n3⟩, -, X3, ⟨Lc3, hQ3, l3, y3, z3⟩, st3⟩ := X2.virtualBack hx (y := (⟨"java/util/ArrayList", "elementData", "(I)Ljava/lang/Object;"⟩ : MethodName)) (z := (⟨"java/util/ArrayList", "elementData", "(I)Ljava/lang/Object;"⟩ : MethodName)) hown (mvT hZ (hw _ (List.mem_of_getElem? (i := 140) rfl))) (mvT hZ (hw _ (List.mem_of_getElem? (i := 141) rfl))) (notFace_of_selects (args := #[]) (mvT hZ (hw _ (List.mem_of_getElem? (i := 143) rfl)))) (mvT hZ (hw _ (List.mem_of_getElem? (i := 143) rfl))) (mvT hZ (hw _ (List.mem_of_getElem? (i := 142) rfl))) (by decide) (backOf (W := 0) (rm_ed_1_0 l Z a0 hw [] a1 b kb el0 h0 n0 Z0 E_a1 F_a1_elementData F_a1_size V_b) hZ (hw _ (List.mem_of_getElem? (i := 144) rfl)) (hw _ (List.mem_of_getElem? (i := 46) rfl)) (by decide) (by decide)) q3a q3c (g := (mkF m 11 #[rv a1, iv (0 : Int32)] [(.int (0 : Int32)), (.ref a1)])) rfl (by rw [hml]; rfl) (Steps.refl _) (argsL := [(.int (0 : Int32))]) (rest := []) (lenOf pd__I_Ljava_lang_Object_ rfl) rfl (by show 2 * 0 + _ ≤ _; exact Nat.le_of_eq rfl) (hb hby d22_11) (fun _ _ => ⟨rfl, e2, (by decide : 0 + 0 ≤ _), (by decide : 0 + 0 ≤ _)⟩)
  dsimp only [Pt.U, Pt.locs, Pt.cells, Pt.slots] at X3 l3 y3 z3 st3 hQ3
  subst l3 y3 z3
  obtain ⟨rfl, N3q, e3⟩ := hQ3
  have N3 := Fr.app N2 N3q
  refine own_go ?_ (fun target hr => st3.trans hr)
  show own_G _ p e below s _ _ _ (T3.setTop (mkF m 14 #[rv a1, iv (0 : Int32)] [(.ref el0)]))
  obtain ⟨fs, hr, hrun, hended, hW, hsame⟩ := X3.leave (v := some (.ref el0)) (fun h => by rw [Bd.returns] at h; cases h)
  exact ⟨_, _, retOut X3 hx Bd.returns rfl (Or.inr (Or.inr (Or.inr (Or.inr ⟨rfl, rfl, rfl⟩)))) (hb hby d22_14) hr, hrun, hended, _, _, rfl, ⟨rfl, N3, e3⟩, ⟨_, rfl⟩, hW, hsame.mono (by decide) (by decide)⟩
theorem d21_0 : decode prog_20_method_2_code 0 = .ok (.aload_n 0, 1) := by decide +kernel
theorem d21_1 : decode prog_20_method_2_code 1 = .ok (.getfield 13, 3) := by decide +kernel
theorem d21_4 : decode prog_20_method_2_code 4 = .ok (.iload_n 1, 1) := by decide +kernel
theorem d21_5 : decode prog_20_method_2_code 5 = .ok (.invokeinterface 17 2, 5) := by decide +kernel
theorem d21_10 : decode prog_20_method_2_code 10 = .ok (.checkcast 23, 3) := by decide +kernel
theorem d21_13 : decode prog_20_method_2_code 13 = .ok (.areturn, 1) := by decide +kernel
theorem pn_21 : plainName "com/example/tableau_abduction/tableauabduction/cli/TabSeparatedFile$Row" = true := by first | (simp [plainName, overriddenIn]; done) | decide +kernel
theorem ef_21 (m : MethodId) (x0 : Addr) (x1 : Int32) : entryFrame m #[(.ref x0), (.int x1)] 2 = mkF m 0 #[rv x0, iv x1] [] := by first | (simp [entryFrame, mkF, argsToLocals, Value.category]; done) | rfl
def Q_rm_field_1_0 (Z : State) (a1 : Addr) (a2 : Addr) (b : Addr) (kb : ClassId) (el0 : Addr) (h0 : Heap) (n0 : Nat) : Option Value → Heap → List Loc → Prop := fun v h L => v = some (.ref el0) ∧ Fr n0 L ∧ h = h0
set_option maxRecDepth 65536 in
set_option maxHeartbeats 40000000 in
theorem rm_field_1_0 (l : Launch) (Z : State) (a0 : Array Value) (hw : ∀ d ∈ tables_1, d.before a0 Z = true) (ws : List Jvm.Cond) (a1 : Addr) (a2 : Addr) (b : Addr) (kb : ClassId) (el0 : Addr) (h0 : Heap) (n0 : Nat) (Z0 : n0 ≤ h0.size) (F_a1_fields : Fld Z h0 a1 "com/example/tableau_abduction/tableauabduction/cli/TabSeparatedFile$Row" "fields" "Ljava/util/List;" (.ref a2)) (E_a2 : Exa Z h0 a2 "java/util/ArrayList") (F_a2_elementData : Fld Z h0 a2 "java/util/ArrayList" "elementData" "[Ljava/lang/Object;" (.ref b)) (F_a2_size : Fld Z h0 a2 "java/util/ArrayList" "size" "I" (.int (1 : Int32))) (V_b : Arv Z h0 b kb (.object "java/lang/Object") (10 : Int32) [(.ref el0), .null, .null, .null, .null, .null, .null, .null, .null, .null] .null) (E_el0 : Exa Z h0 el0 "java/lang/String") :
    MetFree l (⟨"com/example/tableau_abduction/tableauabduction/cli/TabSeparatedFile$Row", "field", "(I)Ljava/lang/String;"⟩ : MethodName) (head1 (Jvm.Cond.code (⟨"com/example/tableau_abduction/tableauabduction/cli/TabSeparatedFile$Row", "field", "(I)Ljava/lang/String;"⟩ : MethodName) prog_20_method_2_code 2 (some (.object "java/lang/String")) :: ws) ({ frames := 3, cells := 0, slots := 0, locals := 40 } : Room)) (fun a U => a = #[(.ref a1), (.int (0 : Int32))] ∧ Z.Warmed39 U.vm ∧ U.heap = h0) (fun _ _ _ _ _ => True) (fun _ U o U' => ∃ v L, o = .returned v ∧ (Q_rm_field_1_0 Z a1 a2 b kb el0 h0 n0) v U'.heap L ∧ FrameEnd U o U' L ({ frames := 3, cells := 0, slots := 0, locals := 40 } : Room).cells ({ frames := 3, cells := 0, slots := 0, locals := 40 } : Room).slots) := by
  refine MetFree.of_bodySF (plainFor_of_name pn_21) hisR ?_
  intro p e s m args below meth c s₁ Bd hml0 hP hK
  obtain ⟨rfl, hZ, hh⟩ := hP
  have hx := Bd.exec
  have hby := Bd.bytes
  have hml : c.maxLocals = 2 := hml0
  have hown : s.vm.findClass "com/example/tableau_abduction/tableauabduction/cli/TabSeparatedFile$Row" = some m.cls := findClass_of_methodNamed Bd.named
  have hnm := (name_of_methodNamed Bd.named Bd.method).1
  have X0 : Stand p l e ({ frames := 3, cells := 0, slots := 0, locals := 40 } : Room) s m #[(.ref a1), (.int (0 : Int32))] below meth c s₁ [] 0 0 := Stand.of_body Bd
  have e0 : s₁.heap = h0 := by rw [← hh, Bd.state]; rfl
  have N0 := Fr.nil n0
  show own_G FrameEnd p e below s ({ frames := 3, cells := 0, slots := 0, locals := 40 } : Room).cells ({ frames := 3, cells := 0, slots := 0, locals := 40 } : Room).slots (Q_rm_field_1_0 Z a1 a2 b kb el0 h0 n0) (s₁.setTop (entryFrame m #[(.ref a1), (.int (0 : Int32))] 2))
  refine own_go (Y' := s₁.setTop (mkF m 0 #[rv a1, iv (0 : Int32)] [])) ?_ (fun t k => castTop (ef_21 m a1 (0 : Int32)) k)
  refine own_go ?_ (fun target hr => XS.aloadN X0.here hx rfl (hb hby d21_0) rfl rfl hr)
  show own_G _ p e below s _ _ _ (s₁.setTop (mkF m 1 #[rv a1, iv (0 : Int32)] [(.ref a1)]))
  obtain ⟨T1, X1, e1, st1⟩ := getF X0 hx hZ hown (host := "") (Or.inl (hw _ (List.mem_of_getElem? (i := 117) rfl))) Via.refl e0 F_a1_fields (g := (mkF m 1 #[rv a1, iv (0 : Int32)] [(.ref a1)])) rfl rfl (hb hby d21_1)
  refine own_go ?_ (fun target hr => st1 _ (XS.iloadN X1.here hx rfl (hb hby d21_4) rfl hr))
  show own_G _ p e below s _ _ _ (T1.setTop (mkF m 5 #[rv a1, iv (0 : Int32)] [(.int (0 : Int32)), (.ref a2)]))
  obtain ⟨cq2, kq2, q2a, q2b, q2c⟩ := isOf hZ e1 E_a2
  obtain ⟨_, _, ⟨T2, L2, k2, n2⟩, -, X2, ⟨Lc2, hQ2, l2, y2, z2⟩, st2⟩ := X1.interfaceBack hx (xi := (⟨"java/util/List", "get", "(I)Ljava/lang/Object;"⟩ : MethodName)) (y := (⟨"java/util/ArrayList", "get", "(I)Ljava/lang/Object;"⟩ : MethodName)) hown (mvT hZ (hw _ (List.mem_of_getElem? (i := 124) rfl))) (mvT hZ (hw _ (List.mem_of_getElem? (i := 125) rfl))) (mvT hZ (hw _ (List.mem_of_getElem? (i := 126) rfl))) (mvT hZ (hw _ (List.mem_of_getElem? (i := 127) rfl))) (mvT hZ (hw _ (List.mem_of_getElem? (i := 128) rfl))) (mvT hZ (hw _ (List.mem_of_getElem? (i := 129) rfl))) (mvT hZ (hw _ (List.mem_of_getElem? (i := 130) rfl))) (mvT hZ (hw _ (List.mem_of_getElem? (i := 75) rfl))) (by decide) (backOf (W := 0) (rm_get_1_0 l Z a0 hw [] a2 b kb el0 h0 n0 Z0 E_a2 F_a2_elementData F_a2_size V_b) hZ (hw _ (List.mem_of_getElem? (i := 131) rfl)) (hw _ (List.mem_of_getElem? (i := 46) rfl)) (by decide) (by decide)) q2a q2b q2c (g := (mkF m 5 #[rv a1, iv (0 : Int32)] [(.int (0 : Int32)), (.ref a2)])) rfl (by rw [hml]; rfl) (Steps.refl _) (argsL := [(.int (0 : Int32))]) (rest := []) (lenOf pd__I_Ljava_lang_Object_ rfl) rfl (by show 2 * 0 + _ ≤ _; exact Nat.le_of_eq rfl) (hb hby d21_5) (fun _ _ => ⟨rfl, e1, (by decide : 0 + 0 ≤ _), (by decide : 0 + 0 ≤ _)⟩)
  dsimp only [Pt.U, Pt.locs, Pt.cells, Pt.slots] at X2 l2 y2 z2 st2 hQ2
  subst l2 y2 z2
  obtain ⟨rfl, N2q, e2⟩ := hQ2
  have N2 := Fr.app N0 N2q
  refine own_go ?_ (fun target hr => st2.trans hr)
  show own_G _ p e below s _ _ _ (T2.setTop (mkF m 10 #[rv a1, iv (0 : Int32)] [(.ref el0)]))
  obtain ⟨T3, X3, e3, st3⟩ := castY X2 hx hZ hown (hw _ (List.mem_of_getElem? (i := 145) rfl)) e2 (Ins.self E_el0) (g := (mkF m 10 #[rv a1, iv (0 : Int32)] [(.ref el0)])) rfl rfl (hb hby d21_10)
  refine own_go ?_ (fun target hr => st3 _ hr)
  show own_G _ p e below s _ _ _ (T3.setTop (mkF m 13 #[rv a1, iv (0 : Int32)] [(.ref el0)]))
  obtain ⟨fs, hr, hrun, hended, hW, hsame⟩ := X3.leave (v := some (.ref el0)) (fun h => by rw [Bd.returns] at h; cases h)
  exact ⟨_, _, retOut X3 hx Bd.returns rfl (Or.inr (Or.inr (Or.inr (Or.inr ⟨rfl, rfl, rfl⟩)))) (hb hby d21_13) hr, hrun, hended, _, _, rfl, ⟨rfl, N2, e3⟩, ⟨_, rfl⟩, hW, hsame.mono (by decide) (by decide)⟩
def Q_rm_pchk_2_0 (Z : State)  (h0 : Heap) (n0 : Nat) : Option Value → Heap → List Loc → Prop := fun v h L => v = some (.int (0 : Int32)) ∧ Fr n0 L ∧ h = h0
set_option maxRecDepth 65536 in
set_option maxHeartbeats 40000000 in
theorem rm_pchk_2_0 (l : Launch) (Z : State) (a0 : Array Value) (hw : ∀ d ∈ tables_1, d.before a0 Z = true) (ws : List Jvm.Cond)  (h0 : Heap) (n0 : Nat) (Z0 : n0 ≤ h0.size) :
    MetFree l (⟨"jdk/internal/util/Preconditions", "checkIndex", "(IILjava/util/function/BiFunction;)I"⟩ : MethodName) (head1 (Jvm.Cond.code (⟨"jdk/internal/util/Preconditions", "checkIndex", "(IILjava/util/function/BiFunction;)I"⟩ : MethodName) jdk_41_method_11_code 3 (some .int) :: ws) ({ frames := 0, cells := 0, slots := 0, locals := 0 } : Room)) (fun a U => a = #[(.int (0 : Int32)), (.int (2 : Int32)), .null] ∧ Z.Warmed39 U.vm ∧ U.heap = h0) (fun _ _ _ _ _ => True) (fun _ U o U' => ∃ v L, o = .returned v ∧ (Q_rm_pchk_2_0 Z  h0 n0) v U'.heap L ∧ FrameEnd U o U' L ({ frames := 0, cells := 0, slots := 0, locals := 0 } : Room).cells ({ frames := 0, cells := 0, slots := 0, locals := 0 } : Room).slots) := by
  refine MetFree.of_bodySF (plainFor_of_name pn_24) hisR ?_
  intro p e s m args below meth c s₁ Bd hml0 hP hK
  obtain ⟨rfl, hZ, hh⟩ := hP
  have hx := Bd.exec
  have hby := Bd.bytes
  have hml : c.maxLocals = 3 := hml0
  have hown : s.vm.findClass "jdk/internal/util/Preconditions" = some m.cls := findClass_of_methodNamed Bd.named
  have hnm := (name_of_methodNamed Bd.named Bd.method).1
  have X0 : Stand p l e ({ frames := 0, cells := 0, slots := 0, locals := 0 } : Room) s m #[(.int (0 : Int32)), (.int (2 : Int32)), .null] below meth c s₁ [] 0 0 := Stand.of_body Bd
  have e0 : s₁.heap = h0 := by rw [← hh, Bd.state]; rfl
  have N0 := Fr.nil n0
  show own_G FrameEnd p e below s ({ frames := 0, cells := 0, slots := 0, locals := 0 } : Room).cells ({ frames := 0, cells := 0, slots := 0, locals := 0 } : Room).slots (Q_rm_pchk_2_0 Z  h0 n0) (s₁.setTop (entryFrame m #[(.int (0 : Int32)), (.int (2 : Int32)), .null] 3))
  refine own_go (Y' := s₁.setTop (mkF m 0 #[iv (0 : Int32), iv (2 : Int32), .val .null] [])) ?_ (fun t k => castTop (ef_24 m (0 : Int32) (2 : Int32)) k)
  refine own_go ?_ (fun target hr => XS.iloadN X0.here hx rfl (hb hby d24_0) rfl (XS.ifNo X0.here hx rfl (hb hby d24_1) rfl ((if0 _ _).trans (flt (by decide : ¬ ((0 : Int32) < (0 : Int32)))).1) (XS.iloadN X0.here hx rfl (hb hby d24_4) rfl (XS.iloadN X0.here hx rfl (hb hby d24_5) rfl (XS.icmpYes X0.here hx rfl (pc0 := 6) (pc' := 16) rfl (hb hby d24_6) rfl (tlt (by decide : (0 : Int32) < (2 : Int32))).1 (by decide) (by decide) (XS.iloadN X0.here hx rfl (hb hby d24_16) rfl hr))))))
  show own_G _ p e below s _ _ _ (s₁.setTop (mkF m 17 #[iv (0 : Int32), iv (2 : Int32), .val .null] [(.int (0 : Int32))]))
  obtain ⟨fs, hr, hrun, hended, hW, hsame⟩ := X0.leave (v := some (.int (0 : Int32))) (fun h => by rw [Bd.returns] at h; cases h)
  exact ⟨_, _, retI X0 hx Bd.returns (hb hby d24_17) hr, hrun, hended, _, _, rfl, ⟨rfl, N0, e0⟩, ⟨_, rfl⟩, hW, hsame.mono (by decide) (by decide)⟩
def Q_rm_ochk_2_0 (Z : State)  (h0 : Heap) (n0 : Nat) : Option Value → Heap → List Loc → Prop := fun v h L => v = some (.int (0 : Int32)) ∧ Fr n0 L ∧ h = h0
set_option maxRecDepth 65536 in
set_option maxHeartbeats 40000000 in
theorem rm_ochk_2_0 (l : Launch) (Z : State) (a0 : Array Value) (hw : ∀ d ∈ tables_1, d.before a0 Z = true) (ws : List Jvm.Cond)  (h0 : Heap) (n0 : Nat) (Z0 : n0 ≤ h0.size) :
    MetFree l (⟨"java/util/Objects", "checkIndex", "(II)I"⟩ : MethodName) (head1 (Jvm.Cond.code (⟨"java/util/Objects", "checkIndex", "(II)I"⟩ : MethodName) jdk_31_method_17_code 2 (some .int) :: ws) ({ frames := 1, cells := 0, slots := 0, locals := 14 } : Room)) (fun a U => a = #[(.int (0 : Int32)), (.int (2 : Int32))] ∧ Z.Warmed39 U.vm ∧ U.heap = h0) (fun _ _ _ _ _ => True) (fun _ U o U' => ∃ v L, o = .returned v ∧ (Q_rm_ochk_2_0 Z  h0 n0) v U'.heap L ∧ FrameEnd U o U' L ({ frames := 1, cells := 0, slots := 0, locals := 14 } : Room).cells ({ frames := 1, cells := 0, slots := 0, locals := 14 } : Room).slots) := by
  refine MetFree.of_bodySF (plainFor_of_name pn_23) hisR ?_
  intro p e s m args below meth c s₁ Bd hml0 hP hK
  obtain ⟨rfl, hZ, hh⟩ := hP
  have hx := Bd.exec
  have hby := Bd.bytes
  have hml : c.maxLocals = 2 := hml0
  have hown : s.vm.findClass "java/util/Objects" = some m.cls := findClass_of_methodNamed Bd.named
  have hnm := (name_of_methodNamed Bd.named Bd.method).1
  have X0 : Stand p l e ({ frames := 1, cells := 0, slots := 0, locals := 14 } : Room) s m #[(.int (0 : Int32)), (.int (2 : Int32))] below meth c s₁ [] 0 0 := Stand.of_body Bd
  have e0 : s₁.heap = h0 := by rw [← hh, Bd.state]; rfl
  have N0 := Fr.nil n0
  show own_G FrameEnd p e below s ({ frames := 1, cells := 0, slots := 0, locals := 14 } : Room).cells ({ frames := 1, cells := 0, slots := 0, locals := 14 } : Room).slots (Q_rm_ochk_2_0 Z  h0 n0) (s₁.setTop (entryFrame m #[(.int (0 : Int32)), (.int (2 : Int32))] 2))
  refine own_go (Y' := s₁.setTop (mkF m 0 #[iv (0 : Int32), iv (2 : Int32)] [])) ?_ (fun t k => castTop (ef_23 m (0 : Int32) (2 : Int32)) k)
  refine own_go ?_ (fun target hr => XS.iloadN X0.here hx rfl (hb hby d23_0) rfl (XS.iloadN X0.here hx rfl (hb hby d23_1) rfl (XS.aconstNull X0.here hx rfl (hb hby d23_2) hr)))
  show own_G _ p e below s _ _ _ (s₁.setTop (mkF m 3 #[iv (0 : Int32), iv (2 : Int32)] [.null, (.int (2 : Int32)), (.int (0 : Int32))]))
  obtain ⟨_, _, ⟨T1, L1, k1, n1⟩, -, X1, ⟨Lc1, hQ1, l1, y1, z1⟩, st1⟩ := Jvm.LawKit.callS X0 hx (y := (⟨"jdk/internal/util/Preconditions", "checkIndex", "(IILjava/util/function/BiFunction;)I"⟩ : MethodName)) hown (mvT hZ (hw _ (List.mem_of_getElem? (i := 136) rfl))) (mvT hZ (hw _ (List.mem_of_getElem? (i := 137) rfl))) (mvT hZ (hw _ (List.mem_of_getElem? (i := 138) rfl))) (mvT hZ (hw _ (List.mem_of_getElem? (i := 139) rfl))) (by decide) (backOf (W := 0) (rm_pchk_2_0 l Z a0 hw []  h0 n0 Z0 ) hZ (hw _ (List.mem_of_getElem? (i := 139) rfl)) (hw _ (List.mem_of_getElem? (i := 138) rfl)) (by decide) (by decide)) (g := (mkF m 3 #[iv (0 : Int32), iv (2 : Int32)] [.null, (.int (2 : Int32)), (.int (0 : Int32))])) rfl (by rw [hml]; rfl) (argsL := [(.int (0 : Int32)), (.int (2 : Int32)), .null]) (rest := []) (lenOf pd__IILjava_util_function_BiFunction__I rfl) rfl (by show 2 * 0 + _ ≤ _; exact Nat.le_of_eq rfl) (hb hby d23_3) (fun _ _ => ⟨rfl, e0, (by decide : 0 + 0 ≤ _), (by decide : 0 + 0 ≤ _)⟩)
  dsimp only [Pt.U, Pt.locs, Pt.cells, Pt.slots] at X1 l1 y1 z1 st1 hQ1
  subst l1 y1 z1
  obtain ⟨rfl, N1q, e1⟩ := hQ1
  have N1 := Fr.app N0 N1q
  refine own_go ?_ (fun target hr => st1 _ hr)
  show own_G _ p e below s _ _ _ (T1.setTop (mkF m 6 #[iv (0 : Int32), iv (2 : Int32)] [(.int (0 : Int32))]))
  obtain ⟨fs, hr, hrun, hended, hW, hsame⟩ := X1.leave (v := some (.int (0 : Int32))) (fun h => by rw [Bd.returns] at h; cases h)
  exact ⟨_, _, retI X1 hx Bd.returns (hb hby d23_6) hr, hrun, hended, _, _, rfl, ⟨rfl, N1, e1⟩, ⟨_, rfl⟩, hW, hsame.mono (by decide) (by decide)⟩
def Q_rm_ed_2_0 (Z : State) (a1 : Addr) (b : Addr) (kb : ClassId) (el0 : Addr) (el1 : Addr) (h0 : Heap) (n0 : Nat) : Option Value → Heap → List Loc → Prop := fun v h L => v = some (.ref el0) ∧ Fr n0 L ∧ h = h0
set_option maxRecDepth 65536 in
set_option maxHeartbeats 40000000 in
theorem rm_ed_2_0 (l : Launch) (Z : State) (a0 : Array Value) (hw : ∀ d ∈ tables_1, d.before a0 Z = true) (ws : List Jvm.Cond) (a1 : Addr) (b : Addr) (kb : ClassId) (el0 : Addr) (el1 : Addr) (h0 : Heap) (n0 : Nat) (Z0 : n0 ≤ h0.size) (E_a1 : Exa Z h0 a1 "java/util/ArrayList") (F_a1_elementData : Fld Z h0 a1 "java/util/ArrayList" "elementData" "[Ljava/lang/Object;" (.ref b)) (F_a1_size : Fld Z h0 a1 "java/util/ArrayList" "size" "I" (.int (2 : Int32))) (V_b : Arv Z h0 b kb (.object "java/lang/Object") (10 : Int32) [(.ref el0), (.ref el1), .null, .null, .null, .null, .null, .null, .null, .null] .null) :
    MetFree l (⟨"java/util/ArrayList", "elementData", "(I)Ljava/lang/Object;"⟩ : MethodName) (head1 (Jvm.Cond.code (⟨"java/util/ArrayList", "elementData", "(I)Ljava/lang/Object;"⟩ : MethodName) jdk_38_method_18_code 2 (some (.object "java/lang/Object")) :: ws) ({ frames := 0, cells := 0, slots := 0, locals := 0 } : Room)) (fun a U => a = #[(.ref a1), (.int (0 : Int32))] ∧ Z.Warmed39 U.vm ∧ U.heap = h0) (fun _ _ _ _ _ => True) (fun _ U o U' => ∃ v L, o = .returned v ∧ (Q_rm_ed_2_0 Z a1 b kb el0 el1 h0 n0) v U'.heap L ∧ FrameEnd U o U' L ({ frames := 0, cells := 0, slots := 0, locals := 0 } : Room).cells ({ frames := 0, cells := 0, slots := 0, locals := 0 } : Room).slots) := by
  refine MetFree.of_bodySF (plainFor_of_name pn_25) hisR ?_
  intro p e s m args below meth c s₁ Bd hml0 hP hK
  obtain ⟨rfl, hZ, hh⟩ := hP
  have hx := Bd.exec
  have hby := Bd.bytes
  have hml : c.maxLocals = 2 := hml0
  have hown : s.vm.findClass "java/util/ArrayList" = some m.cls := findClass_of_methodNamed Bd.named
  have hnm := (name_of_methodNamed Bd.named Bd.method).1
  have X0 : Stand p l e ({ frames := 0, cells := 0, slots := 0, locals := 0 } : Room) s m #[(.ref a1), (.int (0 : Int32))] below meth c s₁ [] 0 0 := Stand.of_body Bd
  have e0 : s₁.heap = h0 := by rw [← hh, Bd.state]; rfl
  have N0 := Fr.nil n0
  show own_G FrameEnd p e below s ({ frames := 0, cells := 0, slots := 0, locals := 0 } : Room).cells ({ frames := 0, cells := 0, slots := 0, locals := 0 } : Room).slots (Q_rm_ed_2_0 Z a1 b kb el0 el1 h0 n0) (s₁.setTop (entryFrame m #[(.ref a1), (.int (0 : Int32))] 2))
  refine own_go (Y' := s₁.setTop (mkF m 0 #[rv a1, iv (0 : Int32)] [])) ?_ (fun t k => castTop (ef_25 m a1 (0 : Int32)) k)
  refine own_go ?_ (fun target hr => XS.aloadN X0.here hx rfl (hb hby d25_0) rfl rfl hr)
  show own_G _ p e below s _ _ _ (s₁.setTop (mkF m 1 #[rv a1, iv (0 : Int32)] [(.ref a1)]))
  obtain ⟨T1, X1, e1, st1⟩ := getF X0 hx hZ hown (host := "") (Or.inl (hw _ (List.mem_of_getElem? (i := 66) rfl))) Via.refl e0 F_a1_elementData (g := (mkF m 1 #[rv a1, iv (0 : Int32)] [(.ref a1)])) rfl rfl (hb hby d25_1)
  refine own_go ?_ (fun target hr => st1 _ (XS.iloadN X1.here hx rfl (hb hby d25_4) rfl hr))
  show own_G _ p e below s _ _ _ (T1.setTop (mkF m 5 #[rv a1, iv (0 : Int32)] [(.int (0 : Int32)), (.ref b)]))
  obtain ⟨cl2, Ar2, qk2, S2, M2, H2, G2⟩ := id V_b
  have hin2 : ¬ ((0 : Int32) < 0 ∨ cl2.slots.size ≤ ((0 : Int32)).toNatClampNeg) := inb_of S2 ⟨by decide, by decide⟩
  refine own_go ?_ (fun target hr => X1.aaload hx (j := (0 : Int32)) (v := (.ref el0)) (by rw [e1]; exact Ar2.1) (State.isArrayOf_alike hZ.alike Ar2.2.1) rfl Ar2.2.2 hin2 (Has.at H2 hin2 rfl) (g := (mkF m 5 #[rv a1, iv (0 : Int32)] [(.int (0 : Int32)), (.ref b)])) rfl rfl (hb hby d25_5) _ hr)
  show own_G _ p e below s _ _ _ (T1.setTop (mkF m 6 #[rv a1, iv (0 : Int32)] [(.ref el0)]))
  obtain ⟨fs, hr, hrun, hended, hW, hsame⟩ := X1.leave (v := some (.ref el0)) (fun h => by rw [Bd.returns] at h; cases h)
  exact ⟨_, _, retOut X1 hx Bd.returns rfl (Or.inr (Or.inr (Or.inr (Or.inr ⟨rfl, rfl, rfl⟩)))) (hb hby d25_6) hr, hrun, hended, _, _, rfl, ⟨rfl, N0, e1⟩, ⟨_, rfl⟩, hW, hsame.mono (by decide) (by decide)⟩
def Q_rm_get_2_0 (Z : State) (a1 : Addr) (b : Addr) (kb : ClassId) (el0 : Addr) (el1 : Addr) (h0 : Heap) (n0 : Nat) : Option Value → Heap → List Loc → Prop := fun v h L => v = some (.ref el0) ∧ Fr n0 L ∧ h = h0
set_option maxRecDepth 65536 in
set_option maxHeartbeats 40000000 in
theorem rm_get_2_0 (l : Launch) (Z : State) (a0 : Array Value) (hw : ∀ d ∈ tables_1, d.before a0 Z = true) (ws : List Jvm.Cond) (a1 : Addr) (b : Addr) (kb : ClassId) (el0 : Addr) (el1 : Addr) (h0 : Heap) (n0 : Nat) (Z0 : n0 ≤ h0.size) (E_a1 : Exa Z h0 a1 "java/util/ArrayList") (F_a1_elementData : Fld Z h0 a1 "java/util/ArrayList" "elementData" "[Ljava/lang/Object;" (.ref b)) (F_a1_size : Fld Z h0 a1 "java/util/ArrayList" "size" "I" (.int (2 : Int32))) (V_b : Arv Z h0 b kb (.object "java/lang/Object") (10 : Int32) [(.ref el0), (.ref el1), .null, .null, .null, .null, .null, .null, .null, .null] .null) :
    MetFree l (⟨"java/util/ArrayList", "get", "(I)Ljava/lang/Object;"⟩ : MethodName) (head1 (Jvm.Cond.code (⟨"java/util/ArrayList", "get", "(I)Ljava/lang/Object;"⟩ : MethodName) jdk_38_method_20_code 2 (some (.object "java/lang/Object")) :: ws) ({ frames := 2, cells := 0, slots := 0, locals := 27 } : Room)) (fun a U => a = #[(.ref a1), (.int (0 : Int32))] ∧ Z.Warmed39 U.vm ∧ U.heap = h0) (fun _ _ _ _ _ => True) (fun _ U o U' => ∃ v L, o = .returned v ∧ (Q_rm_get_2_0 Z a1 b kb el0 el1 h0 n0) v U'.heap L ∧ FrameEnd U o U' L ({ frames := 2, cells := 0, slots := 0, locals := 27 } : Room).cells ({ frames := 2, cells := 0, slots := 0, locals := 27 } : Room).slots) := by
  refine MetFree.of_bodySF (plainFor_of_name pn_22) hisR ?_
  intro p e s m args below meth c s₁ Bd hml0 hP hK
  obtain ⟨rfl, hZ, hh⟩ := hP
  have hx := Bd.exec
  have hby := Bd.bytes
  have hml : c.maxLocals = 2 := hml0
  have hown : s.vm.findClass "java/util/ArrayList" = some m.cls := findClass_of_methodNamed Bd.named
  have hnm := (name_of_methodNamed Bd.named Bd.method).1
  have X0 : Stand p l e ({ frames := 2, cells := 0, slots := 0, locals := 27 } : Room) s m #[(.ref a1), (.int (0 : Int32))] below meth c s₁ [] 0 0 := Stand.of_body Bd
  have e0 : s₁.heap = h0 := by rw [← hh, Bd.state]; rfl
  have N0 := Fr.nil n0
  show own_G FrameEnd p e below s ({ frames := 2, cells := 0, slots := 0, locals := 27 } : Room).cells ({ frames := 2, cells := 0, slots := 0, locals := 27 } : Room).slots (Q_rm_get_2_0 Z a1 b kb el0 el1 h0 n0) (s₁.setTop (entryFrame m #[(.ref a1), (.int (0 : Int32))] 2))
  refine own_go (Y' := s₁.setTop (mkF m 0 #[rv a1, iv (0 : Int32)] [])) ?_ (fun t k => castTop (ef_22 m a1 (0 : Int32)) k)
  refine own_go ?_ (fun target hr => XS.iloadN X0.here hx rfl (hb hby d22_0) rfl (XS.aloadN X0.here hx rfl (hb hby d22_1) rfl rfl hr))
  show own_G _ p e below s _ _ _ (s₁.setTop (mkF m 2 #[rv a1, iv (0 : Int32)] [(.ref a1), (.int (0 : Int32))]))
  obtain ⟨T1, X1, e1, st1⟩ := getF X0 hx hZ hown (host := "") (Or.inl (hw _ (List.mem_of_getElem? (i := 79) rfl))) Via.refl e0 F_a1_size (g := (mkF m 2 #[rv a1, iv (0 : Int32)] [(.ref a1), (.int (0 : Int32))])) rfl rfl (hb hby d22_2)
  refine own_go ?_ (fun target hr => st1 _ hr)
  show own_G _ p e below s _ _ _ (T1.setTop (mkF m 5 #[rv a1, iv (0 : Int32)] [(.int (2 : Int32)), (.int (0 : Int32))]))
  obtain ⟨_, _, ⟨T2, L2, k2, n2⟩, -, X2, ⟨Lc2, hQ2, l2, y2, z2⟩, st2⟩ := Jvm.LawKit.callS X1 hx (y := (⟨"java/util/Objects", "checkIndex", "(II)I"⟩ : MethodName)) hown (mvT hZ (hw _ (List.mem_of_getElem? (i := 132) rfl))) (mvT hZ (hw _ (List.mem_of_getElem? (i := 133) rfl))) (mvT hZ (hw _ (List.mem_of_getElem? (i := 134) rfl))) (mvT hZ (hw _ (List.mem_of_getElem? (i := 135) rfl))) (by decide) (backOf (W := 0) (rm_ochk_2_0 l Z a0 hw []  h0 n0 Z0 ) hZ (hw _ (List.mem_of_getElem? (i := 135) rfl)) (hw _ (List.mem_of_getElem? (i := 134) rfl)) (by decide) (by decide)) (g := (mkF m 5 #[rv a1, iv (0 : Int32)] [(.int (2 : Int32)), (.int (0 : Int32))])) rfl (by rw [hml]; rfl) (argsL := [(.int (0 : Int32)), (.int (2 : Int32))]) (rest := []) (lenOf pd__II_I rfl) rfl (by show 2 * 0 + _ ≤ _; exact Nat.le_of_eq rfl) (hb hby d22_5) (fun _ _ => ⟨rfl, e1, (by decide : 0 + 0 ≤ _), (by decide : 0 + 0 ≤ _)⟩)
  dsimp only [Pt.U, Pt.locs, Pt.cells, Pt.slots] at X2 l2 y2 z2 st2 hQ2
  subst l2 y2 z2
  obtain ⟨rfl, N2q, e2⟩ := hQ2
  have N2 := Fr.app N0 N2q
  refine own_go ?_ (fun target hr => st2 _ (XS.pop X2.here hx rfl (hb hby d22_8) rfl rfl (XS.aloadN X2.here hx rfl (hb hby d22_9) rfl rfl (XS.iloadN X2.here hx rfl (hb hby d22_10) rfl hr))))
  show own_G _ p e below s _ _ _ (T2.setTop (mkF m 11 #[rv a1, iv (0 : Int32)] [(.int (0 : Int32)), (.ref a1)]))
  obtain ⟨cq3, kq3, q3a, q3b, q3c⟩ := isOf hZ e2 E_a1
  obtain ⟨_, _, ⟨T3, L3, k3, n3⟩, -, X3, ⟨Lc3, hQ3, l3, y3, z3⟩, st3⟩ := X2.virtualBack hx (y := (⟨"java/util/ArrayList", "elementData", "(I)Ljava/lang/Object;"⟩ : MethodName)) (z := (⟨"java/util/ArrayList", "elementData", "(I)Ljava/lang/Object;"⟩ : MethodName)) hown (mvT hZ (hw _ (List.mem_of_getElem? (i := 140) rfl))) (mvT hZ (hw _ (List.mem_of_getElem? (i := 141) rfl))) (notFace_of_selects (args := #[]) (mvT hZ (hw _ (List.mem_of_getElem? (i := 143) rfl)))) (mvT hZ (hw _ (List.mem_of_getElem? (i := 143) rfl))) (mvT hZ (hw _ (List.mem_of_getElem? (i := 142) rfl))) (by decide) (backOf (W := 0) (rm_ed_2_0 l Z a0 hw [] a1 b kb el0 el1 h0 n0 Z0 E_a1 F_a1_elementData F_a1_size V_b) hZ (hw _ (List.mem_of_getElem? (i := 144) rfl)) (hw _ (List.mem_of_getElem? (i := 46) rfl)) (by decide) (by decide)) q3a q3c (g := (mkF m 11 #[rv a1, iv (0 : Int32)] [(.int (0 : Int32)), (.ref a1)])) rfl (by rw [hml]; rfl) (Steps.refl _) (argsL := [(.int (0 : Int32))]) (rest := []) (lenOf pd__I_Ljava_lang_Object_ rfl) rfl (by show 2 * 0 + _ ≤ _; exact Nat.le_of_eq rfl) (hb hby d22_11) (fun _ _ => ⟨rfl, e2, (by decide : 0 + 0 ≤ _), (by decide : 0 + 0 ≤ _)⟩)
  dsimp only [Pt.U, Pt.locs, Pt.cells, Pt.slots] at X3 l3 y3 z3 st3 hQ3
  subst l3 y3 z3
  obtain ⟨rfl, N3q, e3⟩ := hQ3
  have N3 := Fr.app N2 N3q
  refine own_go ?_ (fun target hr => st3.trans hr)
  show own_G _ p e below s _ _ _ (T3.setTop (mkF m 14 #[rv a1, iv (0 : Int32)] [(.ref el0)]))
  obtain ⟨fs, hr, hrun, hended, hW, hsame⟩ := X3.leave (v := some (.ref el0)) (fun h => by rw [Bd.returns] at h; cases h)
  exact ⟨_, _, retOut X3 hx Bd.returns rfl (Or.inr (Or.inr (Or.inr (Or.inr ⟨rfl, rfl, rfl⟩)))) (hb hby d22_14) hr, hrun, hended, _, _, rfl, ⟨rfl, N3, e3⟩, ⟨_, rfl⟩, hW, hsame.mono (by decide) (by decide)⟩
def Q_rm_field_2_0 (Z : State) (a1 : Addr) (a2 : Addr) (b : Addr) (kb : ClassId) (el0 : Addr) (el1 : Addr) (h0 : Heap) (n0 : Nat) : Option Value → Heap → List Loc → Prop := fun v h L => v = some (.ref el0) ∧ Fr n0 L ∧ h = h0
set_option maxRecDepth 65536 in
set_option maxHeartbeats 40000000 in
theorem rm_field_2_0 (l : Launch) (Z : State) (a0 : Array Value) (hw : ∀ d ∈ tables_1, d.before a0 Z = true) (ws : List Jvm.Cond) (a1 : Addr) (a2 : Addr) (b : Addr) (kb : ClassId) (el0 : Addr) (el1 : Addr) (h0 : Heap) (n0 : Nat) (Z0 : n0 ≤ h0.size) (F_a1_fields : Fld Z h0 a1 "com/example/tableau_abduction/tableauabduction/cli/TabSeparatedFile$Row" "fields" "Ljava/util/List;" (.ref a2)) (E_a2 : Exa Z h0 a2 "java/util/ArrayList") (F_a2_elementData : Fld Z h0 a2 "java/util/ArrayList" "elementData" "[Ljava/lang/Object;" (.ref b)) (F_a2_size : Fld Z h0 a2 "java/util/ArrayList" "size" "I" (.int (2 : Int32))) (V_b : Arv Z h0 b kb (.object "java/lang/Object") (10 : Int32) [(.ref el0), (.ref el1), .null, .null, .null, .null, .null, .null, .null, .null] .null) (E_el0 : Exa Z h0 el0 "java/lang/String") :
    MetFree l (⟨"com/example/tableau_abduction/tableauabduction/cli/TabSeparatedFile$Row", "field", "(I)Ljava/lang/String;"⟩ : MethodName) (head1 (Jvm.Cond.code (⟨"com/example/tableau_abduction/tableauabduction/cli/TabSeparatedFile$Row", "field", "(I)Ljava/lang/String;"⟩ : MethodName) prog_20_method_2_code 2 (some (.object "java/lang/String")) :: ws) ({ frames := 3, cells := 0, slots := 0, locals := 40 } : Room)) (fun a U => a = #[(.ref a1), (.int (0 : Int32))] ∧ Z.Warmed39 U.vm ∧ U.heap = h0) (fun _ _ _ _ _ => True) (fun _ U o U' => ∃ v L, o = .returned v ∧ (Q_rm_field_2_0 Z a1 a2 b kb el0 el1 h0 n0) v U'.heap L ∧ FrameEnd U o U' L ({ frames := 3, cells := 0, slots := 0, locals := 40 } : Room).cells ({ frames := 3, cells := 0, slots := 0, locals := 40 } : Room).slots) := by
  refine MetFree.of_bodySF (plainFor_of_name pn_21) hisR ?_
  intro p e s m args below meth c s₁ Bd hml0 hP hK
  obtain ⟨rfl, hZ, hh⟩ := hP
  have hx := Bd.exec
  have hby := Bd.bytes
  have hml : c.maxLocals = 2 := hml0
  have hown : s.vm.findClass "com/example/tableau_abduction/tableauabduction/cli/TabSeparatedFile$Row" = some m.cls := findClass_of_methodNamed Bd.named
  have hnm := (name_of_methodNamed Bd.named Bd.method).1
  have X0 : Stand p l e ({ frames := 3, cells := 0, slots := 0, locals := 40 } : Room) s m #[(.ref a1), (.int (0 : Int32))] below meth c s₁ [] 0 0 := Stand.of_body Bd
  have e0 : s₁.heap = h0 := by rw [← hh, Bd.state]; rfl
  have N0 := Fr.nil n0
  show own_G FrameEnd p e below s ({ frames := 3, cells := 0, slots := 0, locals := 40 } : Room).cells ({ frames := 3, cells := 0, slots := 0, locals := 40 } : Room).slots (Q_rm_field_2_0 Z a1 a2 b kb el0 el1 h0 n0) (s₁.setTop (entryFrame m #[(.ref a1), (.int (0 : Int32))] 2))
  refine own_go (Y' := s₁.setTop (mkF m 0 #[rv a1, iv (0 : Int32)] [])) ?_ (fun t k => castTop (ef_21 m a1 (0 : Int32)) k)
  refine own_go ?_ (fun target hr => XS.aloadN X0.here hx rfl (hb hby d21_0) rfl rfl hr)
  show own_G _ p e below s _ _ _ (s₁.setTop (mkF m 1 #[rv a1, iv (0 : Int32)] [(.ref a1)]))
  obtain ⟨T1, X1, e1, st1⟩ := getF X0 hx hZ hown (host := "") (Or.inl (hw _ (List.mem_of_getElem? (i := 117) rfl))) Via.refl e0 F_a1_fields (g := (mkF m 1 #[rv a1, iv (0 : Int32)] [(.ref a1)])) rfl rfl (hb hby d21_1)
  refine own_go ?_ (fun target hr => st1 _ (XS.iloadN X1.here hx rfl (hb hby d21_4) rfl hr))
  show own_G _ p e below s _ _ _ (T1.setTop (mkF m 5 #[rv a1, iv (0 : Int32)] [(.int (0 : Int32)), (.ref a2)]))
  obtain ⟨cq2, kq2, q2a, q2b, q2c⟩ := isOf hZ e1 E_a2
  obtain ⟨_, _, ⟨T2, L2, k2, n2⟩, -, X2, ⟨Lc2, hQ2, l2, y2, z2⟩, st2⟩ := X1.interfaceBack hx (xi := (⟨"java/util/List", "get", "(I)Ljava/lang/Object;"⟩ : MethodName)) (y := (⟨"java/util/ArrayList", "get", "(I)Ljava/lang/Object;"⟩ : MethodName)) hown (mvT hZ (hw _ (List.mem_of_getElem? (i := 124) rfl))) (mvT hZ (hw _ (List.mem_of_getElem? (i := 125) rfl))) (mvT hZ (hw _ (List.mem_of_getElem? (i := 126) rfl))) (mvT hZ (hw _ (List.mem_of_getElem? (i := 127) rfl))) (mvT hZ (hw _ (List.mem_of_getElem? (i := 128) rfl))) (mvT hZ (hw _ (List.mem_of_getElem? (i := 129) rfl))) (mvT hZ (hw _ (List.mem_of_getElem? (i := 130) rfl))) (mvT hZ (hw _ (List.mem_of_getElem? (i := 75) rfl))) (by decide) (backOf (W := 0) (rm_get_2_0 l Z a0 hw [] a2 b kb el0 el1 h0 n0 Z0 E_a2 F_a2_elementData F_a2_size V_b) hZ (hw _ (List.mem_of_getElem? (i := 131) rfl)) (hw _ (List.mem_of_getElem? (i := 46) rfl)) (by decide) (by decide)) q2a q2b q2c (g := (mkF m 5 #[rv a1, iv (0 : Int32)] [(.int (0 : Int32)), (.ref a2)])) rfl (by rw [hml]; rfl) (Steps.refl _) (argsL := [(.int (0 : Int32))]) (rest := []) (lenOf pd__I_Ljava_lang_Object_ rfl) rfl (by show 2 * 0 + _ ≤ _; exact Nat.le_of_eq rfl) (hb hby d21_5) (fun _ _ => ⟨rfl, e1, (by decide : 0 + 0 ≤ _), (by decide : 0 + 0 ≤ _)⟩)
  dsimp only [Pt.U, Pt.locs, Pt.cells, Pt.slots] at X2 l2 y2 z2 st2 hQ2
  subst l2 y2 z2
  obtain ⟨rfl, N2q, e2⟩ := hQ2
  have N2 := Fr.app N0 N2q
  refine own_go ?_ (fun target hr => st2.trans hr)
  show own_G _ p e below s _ _ _ (T2.setTop (mkF m 10 #[rv a1, iv (0 : Int32)] [(.ref el0)]))
  obtain ⟨T3, X3, e3, st3⟩ := castY X2 hx hZ hown (hw _ (List.mem_of_getElem? (i := 145) rfl)) e2 (Ins.self E_el0) (g := (mkF m 10 #[rv a1, iv (0 : Int32)] [(.ref el0)])) rfl rfl (hb hby d21_10)
  refine own_go ?_ (fun target hr => st3 _ hr)
  show own_G _ p e below s _ _ _ (T3.setTop (mkF m 13 #[rv a1, iv (0 : Int32)] [(.ref el0)]))
  obtain ⟨fs, hr, hrun, hended, hW, hsame⟩ := X3.leave (v := some (.ref el0)) (fun h => by rw [Bd.returns] at h; cases h)
  exact ⟨_, _, retOut X3 hx Bd.returns rfl (Or.inr (Or.inr (Or.inr (Or.inr ⟨rfl, rfl, rfl⟩)))) (hb hby d21_13) hr, hrun, hended, _, _, rfl, ⟨rfl, N2, e3⟩, ⟨_, rfl⟩, hW, hsame.mono (by decide) (by decide)⟩
def Q_rm_pchk_2_1 (Z : State)  (h0 : Heap) (n0 : Nat) : Option Value → Heap → List Loc → Prop := fun v h L => v = some (.int (1 : Int32)) ∧ Fr n0 L ∧ h = h0
set_option maxRecDepth 65536 in
set_option maxHeartbeats 40000000 in
theorem rm_pchk_2_1 (l : Launch) (Z : State) (a0 : Array Value) (hw : ∀ d ∈ tables_1, d.before a0 Z = true) (ws : List Jvm.Cond)  (h0 : Heap) (n0 : Nat) (Z0 : n0 ≤ h0.size) :
    MetFree l (⟨"jdk/internal/util/Preconditions", "checkIndex", "(IILjava/util/function/BiFunction;)I"⟩ : MethodName) (head1 (Jvm.Cond.code (⟨"jdk/internal/util/Preconditions", "checkIndex", "(IILjava/util/function/BiFunction;)I"⟩ : MethodName) jdk_41_method_11_code 3 (some .int) :: ws) ({ frames := 0, cells := 0, slots := 0, locals := 0 } : Room)) (fun a U => a = #[(.int (1 : Int32)), (.int (2 : Int32)), .null] ∧ Z.Warmed39 U.vm ∧ U.heap = h0) (fun _ _ _ _ _ => True) (fun _ U o U' => ∃ v L, o = .returned v ∧ (Q_rm_pchk_2_1 Z  h0 n0) v U'.heap L ∧ FrameEnd U o U' L ({ frames := 0, cells := 0, slots := 0, locals := 0 } : Room).cells ({ frames := 0, cells := 0, slots := 0, locals := 0 } : Room).slots) := by
  refine MetFree.of_bodySF (plainFor_of_name pn_24) hisR ?_
  intro p e s m args below meth c s₁ Bd hml0 hP hK
  obtain ⟨rfl, hZ, hh⟩ := hP
  have hx := Bd.exec
  have hby := Bd.bytes
  have hml : c.maxLocals = 3 := hml0
  have hown : s.vm.findClass "jdk/internal/util/Preconditions" = some m.cls := findClass_of_methodNamed Bd.named
  have hnm := (name_of_methodNamed Bd.named Bd.method).1
  have X0 : Stand p l e ({ frames := 0, cells := 0, slots := 0, locals := 0 } : Room) s m #[(.int (1 : Int32)), (.int (2 : Int32)), .null] below meth c s₁ [] 0 0 := Stand.of_body Bd
  have e0 : s₁.heap = h0 := by rw [← hh, Bd.state]; rfl
  have N0 := Fr.nil n0
  show own_G FrameEnd p e below s ({ frames := 0, cells := 0, slots := 0, locals := 0 } : Room).cells ({ frames := 0, cells := 0, slots := 0, locals := 0 } : Room).slots (Q_rm_pchk_2_1 Z  h0 n0) (s₁.setTop (entryFrame m #[(.int (1 : Int32)), (.int (2 : Int32)), .null] 3))
  refine own_go (Y' := s₁.setTop (mkF m 0 #[iv (1 : Int32), iv (2 : Int32), .val .null] [])) ?_ (fun t k => castTop (ef_24 m (1 : Int32) (2 : Int32)) k)
  refine own_go ?_ (fun target hr => XS.iloadN X0.here hx rfl (hb hby d24_0) rfl (XS.ifNo X0.here hx rfl (hb hby d24_1) rfl ((if0 _ _).trans (flt (by decide : ¬ ((1 : Int32) < (0 : Int32)))).1) (XS.iloadN X0.here hx rfl (hb hby d24_4) rfl (XS.iloadN X0.here hx rfl (hb hby d24_5) rfl (XS.icmpYes X0.here hx rfl (pc0 := 6) (pc' := 16) rfl (hb hby d24_6) rfl (tlt (by decide : (1 : Int32) < (2 : Int32))).1 (by decide) (by decide) (XS.iloadN X0.here hx rfl (hb hby d24_16) rfl hr))))))
  show own_G _ p e below s _ _ _ (s₁.setTop (mkF m 17 #[iv (1 : Int32), iv (2 : Int32), .val .null] [(.int (1 : Int32))]))
  obtain ⟨fs, hr, hrun, hended, hW, hsame⟩ := X0.leave (v := some (.int (1 : Int32))) (fun h => by rw [Bd.returns] at h; cases h)
  exact ⟨_, _, retI X0 hx Bd.returns (hb hby d24_17) hr, hrun, hended, _, _, rfl, ⟨rfl, N0, e0⟩, ⟨_, rfl⟩, hW, hsame.mono (by decide) (by decide)⟩
def Q_rm_ochk_2_1 (Z : State)  (h0 : Heap) (n0 : Nat) : Option Value → Heap → List Loc → Prop := fun v h L => v = some (.int (1 : Int32)) ∧ Fr n0 L ∧ h = h0
set_option maxRecDepth 65536 in
set_option maxHeartbeats 40000000 in
theorem rm_ochk_2_1 (l : Launch) (Z : State) (a0 : Array Value) (hw : ∀ d ∈ tables_1, d.before a0 Z = true) (ws : List Jvm.Cond)  (h0 : Heap) (n0 : Nat) (Z0 : n0 ≤ h0.size) :
    MetFree l (⟨"java/util/Objects", "checkIndex", "(II)I"⟩ : MethodName) (head1 (Jvm.Cond.code (⟨"java/util/Objects", "checkIndex", "(II)I"⟩ : MethodName) jdk_31_method_17_code 2 (some .int) :: ws) ({ frames := 1, cells := 0, slots := 0, locals := 14 } : Room)) (fun a U => a = #[(.int (1 : Int32)), (.int (2 : Int32))] ∧ Z.Warmed39 U.vm ∧ U.heap = h0) (fun _ _ _ _ _ => True) (fun _ U o U' => ∃ v L, o = .returned v ∧ (Q_rm_ochk_2_1 Z  h0 n0) v U'.heap L ∧ FrameEnd U o U' L ({ frames := 1, cells := 0, slots := 0, locals := 14 } : Room).cells ({ frames := 1, cells := 0, slots := 0, locals := 14 } : Room).slots) := by
  refine MetFree.of_bodySF (plainFor_of_name pn_23) hisR ?_
  intro p e s m args below meth c s₁ Bd hml0 hP hK
  obtain ⟨rfl, hZ, hh⟩ := hP
  have hx := Bd.exec
  have hby := Bd.bytes
  have hml : c.maxLocals = 2 := hml0
  have hown : s.vm.findClass "java/util/Objects" = some m.cls := findClass_of_methodNamed Bd.named
  have hnm := (name_of_methodNamed Bd.named Bd.method).1
  have X0 : Stand p l e ({ frames := 1, cells := 0, slots := 0, locals := 14 } : Room) s m #[(.int (1 : Int32)), (.int (2 : Int32))] below meth c s₁ [] 0 0 := Stand.of_body Bd
  have e0 : s₁.heap = h0 := by rw [← hh, Bd.state]; rfl
  have N0 := Fr.nil n0
  show own_G FrameEnd p e below s ({ frames := 1, cells := 0, slots := 0, locals := 14 } : Room).cells ({ frames := 1, cells := 0, slots := 0, locals := 14 } : Room).slots (Q_rm_ochk_2_1 Z  h0 n0) (s₁.setTop (entryFrame m #[(.int (1 : Int32)), (.int (2 : Int32))] 2))
  refine own_go (Y' := s₁.setTop (mkF m 0 #[iv (1 : Int32), iv (2 : Int32)] [])) ?_ (fun t k => castTop (ef_23 m (1 : Int32) (2 : Int32)) k)
  refine own_go ?_ (fun target hr => XS.iloadN X0.here hx rfl (hb hby d23_0) rfl (XS.iloadN X0.here hx rfl (hb hby d23_1) rfl (XS.aconstNull X0.here hx rfl (hb hby d23_2) hr)))
  show own_G _ p e below s _ _ _ (s₁.setTop (mkF m 3 #[iv (1 : Int32), iv (2 : Int32)] [.null, (.int (2 : Int32)), (.int (1 : Int32))]))
  obtain ⟨_, _, ⟨T1, L1, k1, n1⟩, -, X1, ⟨Lc1, hQ1, l1, y1, z1⟩, st1⟩ := Jvm.LawKit.callS X0 hx (y := (⟨"jdk/internal/util/Preconditions", "checkIndex", "(IILjava/util/function/BiFunction;)I"⟩ : MethodName)) hown (mvT hZ (hw _ (List.mem_of_getElem? (i := 136) rfl))) (mvT hZ (hw _ (List.mem_of_getElem? (i := 137) rfl))) (mvT hZ (hw _ (List.mem_of_getElem? (i := 138) rfl))) (mvT hZ (hw _ (List.mem_of_getElem? (i := 139) rfl))) (by decide) (backOf (W := 0) (rm_pchk_2_1 l Z a0 hw []  h0 n0 Z0 ) hZ (hw _ (List.mem_of_getElem? (i := 139) rfl)) (hw _ (List.mem_of_getElem? (i := 138) rfl)) (by decide) (by decide)) (g := (mkF m 3 #[iv (1 : Int32), iv (2 : Int32)] [.null, (.int (2 : Int32)), (.int (1 : Int32))])) rfl (by rw [hml]; rfl) (argsL := [(.int (1 : Int32)), (.int (2 : Int32)), .null]) (rest := []) (lenOf pd__IILjava_util_function_BiFunction__I rfl) rfl (by show 2 * 0 + _ ≤ _; exact Nat.le_of_eq rfl) (hb hby d23_3) (fun _ _ => ⟨rfl, e0, (by decide : 0 + 0 ≤ _), (by decide : 0 + 0 ≤ _)⟩)
  dsimp only [Pt.U, Pt.locs, Pt.cells, Pt.slots] at X1 l1 y1 z1 st1 hQ1
  subst l1 y1 z1
  obtain ⟨rfl, N1q, e1⟩ := hQ1
  have N1 := Fr.app N0 N1q
  refine own_go ?_ (fun target hr => st1 _ hr)
  show own_G _ p e below s _ _ _ (T1.setTop (mkF m 6 #[iv (1 : Int32), iv (2 : Int32)] [(.int (1 : Int32))]))
  obtain ⟨fs, hr, hrun, hended, hW, hsame⟩ := X1.leave (v := some (.int (1 : Int32))) (fun h => by rw [Bd.returns] at h; cases h)
  exact ⟨_, _, retI X1 hx Bd.returns (hb hby d23_6) hr, hrun, hended, _, _, rfl, ⟨rfl, N1, e1⟩, ⟨_, rfl⟩, hW, hsame.mono (by decide) (by decide)⟩
def Q_rm_ed_2_1 (Z : State) (a1 : Addr) (b : Addr) (kb : ClassId) (el0 : Addr) (el1 : Addr) (h0 : Heap) (n0 : Nat) : Option Value → Heap → List Loc → Prop := fun v h L => v = some (.ref el1) ∧ Fr n0 L ∧ h = h0
set_option maxRecDepth 65536 in
set_option maxHeartbeats 40000000 in
theorem rm_ed_2_1 (l : Launch) (Z : State) (a0 : Array Value) (hw : ∀ d ∈ tables_1, d.before a0 Z = true) (ws : List Jvm.Cond) (a1 : Addr) (b : Addr) (kb : ClassId) (el0 : Addr) (el1 : Addr) (h0 : Heap) (n0 : Nat) (Z0 : n0 ≤ h0.size) (E_a1 : Exa Z h0 a1 "java/util/ArrayList") (F_a1_elementData : Fld Z h0 a1 "java/util/ArrayList" "elementData" "[Ljava/lang/Object;" (.ref b)) (F_a1_size : Fld Z h0 a1 "java/util/ArrayList" "size" "I" (.int (2 : Int32))) (V_b : Arv Z h0 b kb (.object "java/lang/Object") (10 : Int32) [(.ref el0), (.ref el1), .null, .null, .null, .null, .null, .null, .null, .null] .null) :
    MetFree l (⟨"java/util/ArrayList", "elementData", "(I)Ljava/lang/Object;"⟩ : MethodName) (head1 (Jvm.Cond.code (⟨"java/util/ArrayList", "elementData", "(I)Ljava/lang/Object;"⟩ : MethodName) jdk_38_method_18_code 2 (some (.object "java/lang/Object")) :: ws) ({ frames := 0, cells := 0, slots := 0, locals := 0 } : Room)) (fun a U => a = #[(.ref a1), (.int (1 : Int32))] ∧ Z.Warmed39 U.vm ∧ U.heap = h0) (fun _ _ _ _ _ => True) (fun _ U o U' => ∃ v L, o = .returned v ∧ (Q_rm_ed_2_1 Z a1 b kb el0 el1 h0 n0) v U'.heap L ∧ FrameEnd U o U' L ({ frames := 0, cells := 0, slots := 0, locals := 0 } : Room).cells ({ frames := 0, cells := 0, slots := 0, locals := 0 } : Room).slots) := by
  refine MetFree.of_bodySF (plainFor_of_name pn_25) hisR ?_
  intro p e s m args below meth c s₁ Bd hml0 hP hK
  obtain ⟨rfl, hZ, hh⟩ := hP
  have hx := Bd.exec
  have hby := Bd.bytes
  have hml : c.maxLocals = 2 := hml0
  have hown : s.vm.findClass "java/util/ArrayList" = some m.cls := findClass_of_methodNamed Bd.named
  have hnm := (name_of_methodNamed Bd.named Bd.method).1
  have X0 : Stand p l e ({ frames := 0, cells := 0, slots := 0, locals := 0 } : Room) s m #[(.ref a1), (.int (1 : Int32))] below meth c s₁ [] 0 0 := Stand.of_body Bd
  have e0 : s₁.heap = h0 := by rw [← hh, Bd.state]; rfl
  have N0 := Fr.nil n0
  show own_G FrameEnd p e below s ({ frames := 0, cells := 0, slots := 0, locals := 0 } : Room).cells ({ frames := 0, cells := 0, slots := 0, locals := 0 } : Room).slots (Q_rm_ed_2_1 Z a1 b kb el0 el1 h0 n0) (s₁.setTop (entryFrame m #[(.ref a1), (.int (1 : Int32))] 2))
  refine own_go (Y' := s₁.setTop (mkF m 0 #[rv a1, iv (1 : Int32)] [])) ?_ (fun t k => castTop (ef_25 m a1 (1 : Int32)) k)
  refine own_go ?_ (fun target hr => XS.aloadN X0.here hx rfl (hb hby d25_0) rfl rfl hr)
  show own_G _ p e below s _ _ _ (s₁.setTop (mkF m 1 #[rv a1, iv (1 : Int32)] [(.ref a1)]))
  obtain ⟨T1, X1, e1, st1⟩ := getF X0 hx hZ hown (host := "") (Or.inl (hw _ (List.mem_of_getElem? (i := 66) rfl))) Via.refl e0 F_a1_elementData (g := (mkF m 1 #[rv a1, iv (1 : Int32)] [(.ref a1)])) rfl rfl (hb hby d25_1)
  refine own_go ?_ (fun target hr => st1 _ (XS.iloadN X1.here hx rfl (hb hby d25_4) rfl hr))
  show own_G _ p e below s _ _ _ (T1.setTop (mkF m 5 #[rv a1, iv (1 : Int32)] [(.int (1 : Int32)), (.ref b)]))
  obtain ⟨cl2, Ar2, qk2, S2, M2, H2, G2⟩ := id V_b
  have hin2 : ¬ ((1 : Int32) < 0 ∨ cl2.slots.size ≤ ((1 : Int32)).toNatClampNeg) := inb_of S2 ⟨by decide, by decide⟩
  refine own_go ?_ (fun target hr => X1.aaload hx (j := (1 : Int32)) (v := (.ref el1)) (by rw [e1]; exact Ar2.1) (State.isArrayOf_alike hZ.alike Ar2.2.1) rfl Ar2.2.2 hin2 (Has.at H2 hin2 rfl) (g := (mkF m 5 #[rv a1, iv (1 : Int32)] [(.int (1 : Int32)), (.ref b)])) rfl rfl (hb hby d25_5) _ hr)
  show own_G _ p e below s _ _ _ (T1.setTop (mkF m 6 #[rv a1, iv (1 : Int32)] [(.ref el1)]))
  obtain ⟨fs, hr, hrun, hended, hW, hsame⟩ := X1.leave (v := some (.ref el1)) (fun h => by rw [Bd.returns] at h; cases h)
  exact ⟨_, _, retOut X1 hx Bd.returns rfl (Or.inr (Or.inr (Or.inr (Or.inr ⟨rfl, rfl, rfl⟩)))) (hb hby d25_6) hr, hrun, hended, _, _, rfl, ⟨rfl, N0, e1⟩, ⟨_, rfl⟩, hW, hsame.mono (by decide) (by decide)⟩
def Q_rm_get_2_1 (Z : State) (a1 : Addr) (b : Addr) (kb : ClassId) (el0 : Addr) (el1 : Addr) (h0 : Heap) (n0 : Nat) : Option Value → Heap → List Loc → Prop := fun v h L => v = some (.ref el1) ∧ Fr n0 L ∧ h = h0
set_option maxRecDepth 65536 in
set_option maxHeartbeats 40000000 in
theorem rm_get_2_1 (l : Launch) (Z : State) (a0 : Array Value) (hw : ∀ d ∈ tables_1, d.before a0 Z = true) (ws : List Jvm.Cond) (a1 : Addr) (b : Addr) (kb : ClassId) (el0 : Addr) (el1 : Addr) (h0 : Heap) (n0 : Nat) (Z0 : n0 ≤ h0.size) (E_a1 : Exa Z h0 a1 "java/util/ArrayList") (F_a1_elementData : Fld Z h0 a1 "java/util/ArrayList" "elementData" "[Ljava/lang/Object;" (.ref b)) (F_a1_size : Fld Z h0 a1 "java/util/ArrayList" "size" "I" (.int (2 : Int32))) (V_b : Arv Z h0 b kb (.object "java/lang/Object") (10 : Int32) [(.ref el0), (.ref el1), .null, .null, .null, .null, .null, .null, .null, .null] .null) :
    MetFree l (⟨"java/util/ArrayList", "get", "(I)Ljava/lang/Object;"⟩ : MethodName) (head1 (Jvm.Cond.code (⟨"java/util/ArrayList", "get", "(I)Ljava/lang/Object;"⟩ : MethodName) jdk_38_method_20_code 2 (some (.object "java/lang/Object")) :: ws) ({ frames := 2, cells := 0, slots := 0, locals := 27 } : Room)) (fun a U => a = #[(.ref a1), (.int (1 : Int32))] ∧ Z.Warmed39 U.vm ∧ U.heap = h0) (fun _ _ _ _ _ => True) (fun _ U o U' => ∃ v L, o = .returned v ∧ (Q_rm_get_2_1 Z a1 b kb el0 el1 h0 n0) v U'.heap L ∧ FrameEnd U o U' L ({ frames := 2, cells := 0, slots := 0, locals := 27 } : Room).cells ({ frames := 2, cells := 0, slots := 0, locals := 27 } : Room).slots) := by
  refine MetFree.of_bodySF (plainFor_of_name pn_22) hisR ?_
  intro p e s m args below meth c s₁ Bd hml0 hP hK
  obtain ⟨rfl, hZ, hh⟩ := hP
  have hx := Bd.exec
  have hby := Bd.bytes
  have hml : c.maxLocals = 2 := hml0
  have hown : s.vm.findClass "java/util/ArrayList" = some m.cls := findClass_of_methodNamed Bd.named
  have hnm := (name_of_methodNamed Bd.named Bd.method).1
  have X0 : Stand p l e ({ frames := 2, cells := 0, slots := 0, locals := 27 } : Room) s m #[(.ref a1), (.int (1 : Int32))] below meth c s₁ [] 0 0 := Stand.of_body Bd
  have e0 : s₁.heap = h0 := by rw [← hh, Bd.state]; rfl
  have N0 := Fr.nil n0
  show own_G FrameEnd p e below s ({ frames := 2, cells := 0, slots := 0, locals := 27 } : Room).cells ({ frames := 2, cells := 0, slots := 0, locals := 27 } : Room).slots (Q_rm_get_2_1 Z a1 b kb el0 el1 h0 n0) (s₁.setTop (entryFrame m #[(.ref a1), (.int (1 : Int32))] 2))
  refine own_go (Y' := s₁.setTop (mkF m 0 #[rv a1, iv (1 : Int32)] [])) ?_ (fun t k => castTop (ef_22 m a1 (1 : Int32)) k)
  refine own_go ?_ (fun target hr => XS.iloadN X0.here hx rfl (hb hby d22_0) rfl (XS.aloadN X0.here hx rfl (hb hby d22_1) rfl rfl hr))
  show own_G _ p e below s _ _ _ (s₁.setTop (mkF m 2 #[rv a1, iv (1 : Int32)] [(.ref a1), (.int (1 : Int32))]))
  obtain ⟨T1, X1, e1, st1⟩ := getF X0 hx hZ hown (host := "") (Or.inl (hw _ (List.mem_of_getElem? (i := 79) rfl))) Via.refl e0 F_a1_size (g := (mkF m 2 #[rv a1, iv (1 : Int32)] [(.ref a1), (.int (1 : Int32))])) rfl rfl (hb hby d22_2)
  refine own_go ?_ (fun target hr => st1 _ hr)
  show own_G _ p e below s _ _ _ (T1.setTop (mkF m 5 #[rv a1, iv (1 : Int32)] [(.int (2 : Int32)), (.int (1 : Int32))]))
  obtain ⟨_, _, ⟨T2, L2, k2, n2⟩, -, X2, ⟨Lc2, hQ2, l2, y2, z2⟩, st2⟩ := Jvm.LawKit.callS X1 hx (y := (⟨"java/util/Objects", "checkIndex", "(II)I"⟩ : MethodName)) hown (mvT hZ (hw _ (List.mem_of_getElem? (i := 132) rfl))) (mvT hZ (hw _ (List.mem_of_getElem? (i := 133) rfl))) (mvT hZ (hw _ (List.mem_of_getElem? (i := 134) rfl))) (mvT hZ (hw _ (List.mem_of_getElem? (i := 135) rfl))) (by decide) (backOf (W := 0) (rm_ochk_2_1 l Z a0 hw []  h0 n0 Z0 ) hZ (hw _ (List.mem_of_getElem? (i := 135) rfl)) (hw _ (List.mem_of_getElem? (i := 134) rfl)) (by decide) (by decide)) (g := (mkF m 5 #[rv a1, iv (1 : Int32)] [(.int (2 : Int32)), (.int (1 : Int32))])) rfl (by rw [hml]; rfl) (argsL := [(.int (1 : Int32)), (.int (2 : Int32))]) (rest := []) (lenOf pd__II_I rfl) rfl (by show 2 * 0 + _ ≤ _; exact Nat.le_of_eq rfl) (hb hby d22_5) (fun _ _ => ⟨rfl, e1, (by decide : 0 + 0 ≤ _), (by decide : 0 + 0 ≤ _)⟩)
  dsimp only [Pt.U, Pt.locs, Pt.cells, Pt.slots] at X2 l2 y2 z2 st2 hQ2
  subst l2 y2 z2
  obtain ⟨rfl, N2q, e2⟩ := hQ2
  have N2 := Fr.app N0 N2q
  refine own_go ?_ (fun target hr => st2 _ (XS.pop X2.here hx rfl (hb hby d22_8) rfl rfl (XS.aloadN X2.here hx rfl (hb hby d22_9) rfl rfl (XS.iloadN X2.here hx rfl (hb hby d22_10) rfl hr))))
  show own_G _ p e below s _ _ _ (T2.setTop (mkF m 11 #[rv a1, iv (1 : Int32)] [(.int (1 : Int32)), (.ref a1)]))
  obtain ⟨cq3, kq3, q3a, q3b, q3c⟩ := isOf hZ e2 E_a1
  obtain ⟨_, _, ⟨T3, L3, k3, n3⟩, -, X3, ⟨Lc3, hQ3, l3, y3, z3⟩, st3⟩ := X2.virtualBack hx (y := (⟨"java/util/ArrayList", "elementData", "(I)Ljava/lang/Object;"⟩ : MethodName)) (z := (⟨"java/util/ArrayList", "elementData", "(I)Ljava/lang/Object;"⟩ : MethodName)) hown (mvT hZ (hw _ (List.mem_of_getElem? (i := 140) rfl))) (mvT hZ (hw _ (List.mem_of_getElem? (i := 141) rfl))) (notFace_of_selects (args := #[]) (mvT hZ (hw _ (List.mem_of_getElem? (i := 143) rfl)))) (mvT hZ (hw _ (List.mem_of_getElem? (i := 143) rfl))) (mvT hZ (hw _ (List.mem_of_getElem? (i := 142) rfl))) (by decide) (backOf (W := 0) (rm_ed_2_1 l Z a0 hw [] a1 b kb el0 el1 h0 n0 Z0 E_a1 F_a1_elementData F_a1_size V_b) hZ (hw _ (List.mem_of_getElem? (i := 144) rfl)) (hw _ (List.mem_of_getElem? (i := 46) rfl)) (by decide) (by decide)) q3a q3c (g := (mkF m 11 #[rv a1, iv (1 : Int32)] [(.int (1 : Int32)), (.ref a1)])) rfl (by rw [hml]; rfl) (Steps.refl _) (argsL := [(.int (1 : Int32))]) (rest := []) (lenOf pd__I_Ljava_lang_Object_ rfl) rfl (by show 2 * 0 + _ ≤ _; exact Nat.le_of_eq rfl) (hb hby d22_11) (fun _ _ => ⟨rfl, e2, (by decide : 0 + 0 ≤ _), (by decide : 0 + 0 ≤ _)⟩)
  dsimp only [Pt.U, Pt.locs, Pt.cells, Pt.slots] at X3 l3 y3 z3 st3 hQ3
  subst l3 y3 z3
  obtain ⟨rfl, N3q, e3⟩ := hQ3
  have N3 := Fr.app N2 N3q
  refine own_go ?_ (fun target hr => st3.trans hr)
  show own_G _ p e below s _ _ _ (T3.setTop (mkF m 14 #[rv a1, iv (1 : Int32)] [(.ref el1)]))
  obtain ⟨fs, hr, hrun, hended, hW, hsame⟩ := X3.leave (v := some (.ref el1)) (fun h => by rw [Bd.returns] at h; cases h)
  exact ⟨_, _, retOut X3 hx Bd.returns rfl (Or.inr (Or.inr (Or.inr (Or.inr ⟨rfl, rfl, rfl⟩)))) (hb hby d22_14) hr, hrun, hended, _, _, rfl, ⟨rfl, N3, e3⟩, ⟨_, rfl⟩, hW, hsame.mono (by decide) (by decide)⟩
def Q_rm_field_2_1 (Z : State) (a1 : Addr) (a2 : Addr) (b : Addr) (kb : ClassId) (el0 : Addr) (el1 : Addr) (h0 : Heap) (n0 : Nat) : Option Value → Heap → List Loc → Prop := fun v h L => v = some (.ref el1) ∧ Fr n0 L ∧ h = h0
set_option maxRecDepth 65536 in
set_option maxHeartbeats 40000000 in
theorem rm_field_2_1 (l : Launch) (Z : State) (a0 : Array Value) (hw : ∀ d ∈ tables_1, d.before a0 Z = true) (ws : List Jvm.Cond) (a1 : Addr) (a2 : Addr) (b : Addr) (kb : ClassId) (el0 : Addr) (el1 : Addr) (h0 : Heap) (n0 : Nat) (Z0 : n0 ≤ h0.size) (F_a1_fields : Fld Z h0 a1 "com/example/tableau_abduction/tableauabduction/cli/TabSeparatedFile$Row" "fields" "Ljava/util/List;" (.ref a2)) (E_a2 : Exa Z h0 a2 "java/util/ArrayList") (F_a2_elementData : Fld Z h0 a2 "java/util/ArrayList" "elementData" "[Ljava/lang/Object;" (.ref b)) (F_a2_size : Fld Z h0 a2 "java/util/ArrayList" "size" "I" (.int (2 : Int32))) (V_b : Arv Z h0 b kb (.object "java/lang/Object") (10 : Int32) [(.ref el0), (.ref el1), .null, .null, .null, .null, .null, .null, .null, .null] .null) (E_el1 : Exa Z h0 el1 "java/lang/String") :
    MetFree l (⟨"com/example/tableau_abduction/tableauabduction/cli/TabSeparatedFile$Row", "field", "(I)Ljava/lang/String;"⟩ : MethodName) (head1 (Jvm.Cond.code (⟨"com/example/tableau_abduction/tableauabduction/cli/TabSeparatedFile$Row", "field", "(I)Ljava/lang/String;"⟩ : MethodName) prog_20_method_2_code 2 (some (.object "java/lang/String")) :: ws) ({ frames := 3, cells := 0, slots := 0, locals := 40 } : Room)) (fun a U => a = #[(.ref a1), (.int (1 : Int32))] ∧ Z.Warmed39 U.vm ∧ U.heap = h0) (fun _ _ _ _ _ => True) (fun _ U o U' => ∃ v L, o = .returned v ∧ (Q_rm_field_2_1 Z a1 a2 b kb el0 el1 h0 n0) v U'.heap L ∧ FrameEnd U o U' L ({ frames := 3, cells := 0, slots := 0, locals := 40 } : Room).cells ({ frames := 3, cells := 0, slots := 0, locals := 40 } : Room).slots) := by
  refine MetFree.of_bodySF (plainFor_of_name pn_21) hisR ?_
  intro p e s m args below meth c s₁ Bd hml0 hP hK
  obtain ⟨rfl, hZ, hh⟩ := hP
  have hx := Bd.exec
  have hby := Bd.bytes
  have hml : c.maxLocals = 2 := hml0
  have hown : s.vm.findClass "com/example/tableau_abduction/tableauabduction/cli/TabSeparatedFile$Row" = some m.cls := findClass_of_methodNamed Bd.named
  have hnm := (name_of_methodNamed Bd.named Bd.method).1
  have X0 : Stand p l e ({ frames := 3, cells := 0, slots := 0, locals := 40 } : Room) s m #[(.ref a1), (.int (1 : Int32))] below meth c s₁ [] 0 0 := Stand.of_body Bd
  have e0 : s₁.heap = h0 := by rw [← hh, Bd.state]; rfl
  have N0 := Fr.nil n0
  show own_G FrameEnd p e below s ({ frames := 3, cells := 0, slots := 0, locals := 40 } : Room).cells ({ frames := 3, cells := 0, slots := 0, locals := 40 } : Room).slots (Q_rm_field_2_1 Z a1 a2 b kb el0 el1 h0 n0) (s₁.setTop (entryFrame m #[(.ref a1), (.int (1 : Int32))] 2))
  refine own_go (Y' := s₁.setTop (mkF m 0 #[rv a1, iv (1 : Int32)] [])) ?_ (fun t k => castTop (ef_21 m a1 (1 : Int32)) k)
  refine own_go ?_ (fun target hr => XS.aloadN X0.here hx rfl (hb hby d21_0) rfl rfl hr)
  show own_G _ p e below s _ _ _ (s₁.setTop (mkF m 1 #[rv a1, iv (1 : Int32)] [(.ref a1)]))
  obtain ⟨T1, X1, e1, st1⟩ := getF X0 hx hZ hown (host := "") (Or.inl (hw _ (List.mem_of_getElem? (i := 117) rfl))) Via.refl e0 F_a1_fields (g := (mkF m 1 #[rv a1, iv (1 : Int32)] [(.ref a1)])) rfl rfl (hb hby d21_1)
  refine own_go ?_ (fun target hr => st1 _ (XS.iloadN X1.here hx rfl (hb hby d21_4) rfl hr))
  show own_G _ p e below s _ _ _ (T1.setTop (mkF m 5 #[rv a1, iv (1 : Int32)] [(.int (1 : Int32)), (.ref a2)]))
  obtain ⟨cq2, kq2, q2a, q2b, q2c⟩ := isOf hZ e1 E_a2
  obtain ⟨_, _, ⟨T2, L2, k2, n2⟩, -, X2, ⟨Lc2, hQ2, l2, y2, z2⟩, st2⟩ := X1.interfaceBack hx (xi := (⟨"java/util/List", "get", "(I)Ljava/lang/Object;"⟩ : MethodName)) (y := (⟨"java/util/ArrayList", "get", "(I)Ljava/lang/Object;"⟩ : MethodName)) hown (mvT hZ (hw _ (List.mem_of_getElem? (i := 124) rfl))) (mvT hZ (hw _ (List.mem_of_getElem? (i := 125) rfl))) (mvT hZ (hw _ (List.mem_of_getElem? (i := 126) rfl))) (mvT hZ (hw _ (List.mem_of_getElem? (i := 127) rfl))) (mvT hZ (hw _ (List.mem_of_getElem? (i := 128) rfl))) (mvT hZ (hw _ (List.mem_of_getElem? (i := 129) rfl))) (mvT hZ (hw _ (List.mem_of_getElem? (i := 130) rfl))) (mvT hZ (hw _ (List.mem_of_getElem? (i := 75) rfl))) (by decide) (backOf (W := 0) (rm_get_2_1 l Z a0 hw [] a2 b kb el0 el1 h0 n0 Z0 E_a2 F_a2_elementData F_a2_size V_b) hZ (hw _ (List.mem_of_getElem? (i := 131) rfl)) (hw _ (List.mem_of_getElem? (i := 46) rfl)) (by decide) (by decide)) q2a q2b q2c (g := (mkF m 5 #[rv a1, iv (1 : Int32)] [(.int (1 : Int32)), (.ref a2)])) rfl (by rw [hml]; rfl) (Steps.refl _) (argsL := [(.int (1 : Int32))]) (rest := []) (lenOf pd__I_Ljava_lang_Object_ rfl) rfl (by show 2 * 0 + _ ≤ _; exact Nat.le_of_eq rfl) (hb hby d21_5) (fun _ _ => ⟨rfl, e1, (by decide : 0 + 0 ≤ _), (by decide : 0 + 0 ≤ _)⟩)
  dsimp only [Pt.U, Pt.locs, Pt.cells, Pt.slots] at X2 l2 y2 z2 st2 hQ2
  subst l2 y2 z2
  obtain ⟨rfl, N2q, e2⟩ := hQ2
  have N2 := Fr.app N0 N2q
  refine own_go ?_ (fun target hr => st2.trans hr)
  show own_G _ p e below s _ _ _ (T2.setTop (mkF m 10 #[rv a1, iv (1 : Int32)] [(.ref el1)]))
  obtain ⟨T3, X3, e3, st3⟩ := castY X2 hx hZ hown (hw _ (List.mem_of_getElem? (i := 145) rfl)) e2 (Ins.self E_el1) (g := (mkF m 10 #[rv a1, iv (1 : Int32)] [(.ref el1)])) rfl rfl (hb hby d21_10)
  refine own_go ?_ (fun target hr => st3 _ hr)
  show own_G _ p e below s _ _ _ (T3.setTop (mkF m 13 #[rv a1, iv (1 : Int32)] [(.ref el1)]))
  obtain ⟨fs, hr, hrun, hended, hW, hsame⟩ := X3.leave (v := some (.ref el1)) (fun h => by rw [Bd.returns] at h; cases h)
  exact ⟨_, _, retOut X3 hx Bd.returns rfl (Or.inr (Or.inr (Or.inr (Or.inr ⟨rfl, rfl, rfl⟩)))) (hb hby d21_13) hr, hrun, hended, _, _, rfl, ⟨rfl, N2, e3⟩, ⟨_, rfl⟩, hW, hsame.mono (by decide) (by decide)⟩
def Q_rm_pchk_3_0 (Z : State)  (h0 : Heap) (n0 : Nat) : Option Value → Heap → List Loc → Prop := fun v h L => v = some (.int (0 : Int32)) ∧ Fr n0 L ∧ h = h0
set_option maxRecDepth 65536 in
set_option maxHeartbeats 40000000 in
theorem rm_pchk_3_0 (l : Launch) (Z : State) (a0 : Array Value) (hw : ∀ d ∈ tables_1, d.before a0 Z = true) (ws : List Jvm.Cond)  (h0 : Heap) (n0 : Nat) (Z0 : n0 ≤ h0.size) :
    MetFree l (⟨"jdk/internal/util/Preconditions", "checkIndex", "(IILjava/util/function/BiFunction;)I"⟩ : MethodName) (head1 (Jvm.Cond.code (⟨"jdk/internal/util/Preconditions", "checkIndex", "(IILjava/util/function/BiFunction;)I"⟩ : MethodName) jdk_41_method_11_code 3 (some .int) :: ws) ({ frames := 0, cells := 0, slots := 0, locals := 0 } : Room)) (fun a U => a = #[(.int (0 : Int32)), (.int (3 : Int32)), .null] ∧ Z.Warmed39 U.vm ∧ U.heap = h0) (fun _ _ _ _ _ => True) (fun _ U o U' => ∃ v L, o = .returned v ∧ (Q_rm_pchk_3_0 Z  h0 n0) v U'.heap L ∧ FrameEnd U o U' L ({ frames := 0, cells := 0, slots := 0, locals := 0 } : Room).cells ({ frames := 0, cells := 0, slots := 0, locals := 0 } : Room).slots) := by
  refine MetFree.of_bodySF (plainFor_of_name pn_24) hisR ?_
  intro p e s m args below meth c s₁ Bd hml0 hP hK
  obtain ⟨rfl, hZ, hh⟩ := hP
  have hx := Bd.exec
  have hby := Bd.bytes
  have hml : c.maxLocals = 3 := hml0
  have hown : s.vm.findClass "jdk/internal/util/Preconditions" = some m.cls := findClass_of_methodNamed Bd.named
  have hnm := (name_of_methodNamed Bd.named Bd.method).1
  have X0 : Stand p l e ({ frames := 0, cells := 0, slots := 0, locals := 0 } : Room) s m #[(.int (0 : Int32)), (.int (3 : Int32)), .null] below meth c s₁ [] 0 0 := Stand.of_body Bd
  have e0 : s₁.heap = h0 := by rw [← hh, Bd.state]; rfl
  have N0 := Fr.nil n0
  show own_G FrameEnd p e below s ({ frames := 0, cells := 0, slots := 0, locals := 0 } : Room).cells ({ frames := 0, cells := 0, slots := 0, locals := 0 } : Room).slots (Q_rm_pchk_3_0 Z  h0 n0) (s₁.setTop (entryFrame m #[(.int (0 : Int32)), (.int (3 : Int32)), .null] 3))
  refine own_go (Y' := s₁.setTop (mkF m 0 #[iv (0 : Int32), iv (3 : Int32), .val .null] [])) ?_ (fun t k => castTop (ef_24 m (0 : Int32) (3 : Int32)) k)
  refine own_go ?_ (fun target hr => XS.iloadN X0.here hx rfl (hb hby d24_0) rfl (XS.ifNo X0.here hx rfl (hb hby d24_1) rfl ((if0 _ _).trans (flt (by decide : ¬ ((0 : Int32) < (0 : Int32)))).1) (XS.iloadN X0.here hx rfl (hb hby d24_4) rfl (XS.iloadN X0.here hx rfl (hb hby d24_5) rfl (XS.icmpYes X0.here hx rfl (pc0 := 6) (pc' := 16) rfl (hb hby d24_6) rfl (tlt (by decide : (0 : Int32) < (3 : Int32))).1 (by decide) (by decide) (XS.iloadN X0.here hx rfl (hb hby d24_16) rfl hr))))))
  show own_G _ p e below s _ _ _ (s₁.setTop (mkF m 17 #[iv (0 : Int32), iv (3 : Int32), .val .null] [(.int (0 : Int32))]))
  obtain ⟨fs, hr, hrun, hended, hW, hsame⟩ := X0.leave (v := some (.int (0 : Int32))) (fun h => by rw [Bd.returns] at h; cases h)
  exact ⟨_, _, retI X0 hx Bd.returns (hb hby d24_17) hr, hrun, hended, _, _, rfl, ⟨rfl, N0, e0⟩, ⟨_, rfl⟩, hW, hsame.mono (by decide) (by decide)⟩
def Q_rm_ochk_3_0 (Z : State)  (h0 : Heap) (n0 : Nat) : Option Value → Heap → List Loc → Prop := fun v h L => v = some (.int (0 : Int32)) ∧ Fr n0 L ∧ h = h0
set_option maxRecDepth 65536 in
set_option maxHeartbeats 40000000 in
theorem rm_ochk_3_0 (l : Launch) (Z : State) (a0 : Array Value) (hw : ∀ d ∈ tables_1, d.before a0 Z = true) (ws : List Jvm.Cond)  (h0 : Heap) (n0 : Nat) (Z0 : n0 ≤ h0.size) :
    MetFree l (⟨"java/util/Objects", "checkIndex", "(II)I"⟩ : MethodName) (head1 (Jvm.Cond.code (⟨"java/util/Objects", "checkIndex", "(II)I"⟩ : MethodName) jdk_31_method_17_code 2 (some .int) :: ws) ({ frames := 1, cells := 0, slots := 0, locals := 14 } : Room)) (fun a U => a = #[(.int (0 : Int32)), (.int (3 : Int32))] ∧ Z.Warmed39 U.vm ∧ U.heap = h0) (fun _ _ _ _ _ => True) (fun _ U o U' => ∃ v L, o = .returned v ∧ (Q_rm_ochk_3_0 Z  h0 n0) v U'.heap L ∧ FrameEnd U o U' L ({ frames := 1, cells := 0, slots := 0, locals := 14 } : Room).cells ({ frames := 1, cells := 0, slots := 0, locals := 14 } : Room).slots) := by
  refine MetFree.of_bodySF (plainFor_of_name pn_23) hisR ?_
  intro p e s m args below meth c s₁ Bd hml0 hP hK
  obtain ⟨rfl, hZ, hh⟩ := hP
  have hx := Bd.exec
  have hby := Bd.bytes
  have hml : c.maxLocals = 2 := hml0
  have hown : s.vm.findClass "java/util/Objects" = some m.cls := findClass_of_methodNamed Bd.named
  have hnm := (name_of_methodNamed Bd.named Bd.method).1
  have X0 : Stand p l e ({ frames := 1, cells := 0, slots := 0, locals := 14 } : Room) s m #[(.int (0 : Int32)), (.int (3 : Int32))] below meth c s₁ [] 0 0 := Stand.of_body Bd
  have e0 : s₁.heap = h0 := by rw [← hh, Bd.state]; rfl
  have N0 := Fr.nil n0
  show own_G FrameEnd p e below s ({ frames := 1, cells := 0, slots := 0, locals := 14 } : Room).cells ({ frames := 1, cells := 0, slots := 0, locals := 14 } : Room).slots (Q_rm_ochk_3_0 Z  h0 n0) (s₁.setTop (entryFrame m #[(.int (0 : Int32)), (.int (3 : Int32))] 2))
  refine own_go (Y' := s₁.setTop (mkF m 0 #[iv (0 : Int32), iv (3 : Int32)] [])) ?_ (fun t k => castTop (ef_23 m (0 : Int32) (3 : Int32)) k)
  refine own_go ?_ (fun target hr => XS.iloadN X0.here hx rfl (hb hby d23_0) rfl (XS.iloadN X0.here hx rfl (hb hby d23_1) rfl (XS.aconstNull X0.here hx rfl (hb hby d23_2) hr)))
  show own_G _ p e below s _ _ _ (s₁.setTop (mkF m 3 #[iv (0 : Int32), iv (3 : Int32)] [.null, (.int (3 : Int32)), (.int (0 : Int32))]))
  obtain ⟨_, _, ⟨T1, L1, k1, n1⟩, -, X1, ⟨Lc1, hQ1, l1, y1, z1⟩, st1⟩ := Jvm.LawKit.callS X0 hx (y := (⟨"jdk/internal/util/Preconditions", "checkIndex", "(IILjava/util/function/BiFunction;)I"⟩ : MethodName)) hown (mvT hZ (hw _ (List.mem_of_getElem? (i := 136) rfl))) (mvT hZ (hw _ (List.mem_of_getElem? (i := 137) rfl))) (mvT hZ (hw _ (List.mem_of_getElem? (i := 138) rfl))) (mvT hZ (hw _ (List.mem_of_getElem? (i := 139) rfl))) (by decide) (backOf (W := 0) (rm_pchk_3_0 l Z a0 hw []  h0 n0 Z0 ) hZ (hw _ (List.mem_of_getElem? (i := 139) rfl)) (hw _ (List.mem_of_getElem? (i := 138) rfl)) (by decide) (by decide)) (g := (mkF m 3 #[iv (0 : Int32), iv (3 : Int32)] [.null, (.int (3 : Int32)), (.int (0 : Int32))])) rfl (by rw [hml]; rfl) (argsL := [(.int (0 : Int32)), (.int (3 : Int32)), .null]) (rest := []) (lenOf pd__IILjava_util_function_BiFunction__I rfl) rfl (by show 2 * 0 + _ ≤ _; exact Nat.le_of_eq rfl) (hb hby d23_3) (fun _ _ => ⟨rfl, e0, (by decide : 0 + 0 ≤ _), (by decide : 0 + 0 ≤ _)⟩)
  dsimp only [Pt.U, Pt.locs, Pt.cells, Pt.slots] at X1 l1 y1 z1 st1 hQ1
  subst l1 y1 z1
  obtain ⟨rfl, N1q, e1⟩ := hQ1
  have N1 := Fr.app N0 N1q
  refine own_go ?_ (fun target hr => st1 _ hr)
  show own_G _ p e below s _ _ _ (T1.setTop (mkF m 6 #[iv (0 : Int32), iv (3 : Int32)] [(.int (0 : Int32))]))
  obtain ⟨fs, hr, hrun, hended, hW, hsame⟩ := X1.leave (v := some (.int (0 : Int32))) (fun h => by rw [Bd.returns] at h; cases h)
  exact ⟨_, _, retI X1 hx Bd.returns (hb hby d23_6) hr, hrun, hended, _, _, rfl, ⟨rfl, N1, e1⟩, ⟨_, rfl⟩, hW, hsame.mono (by decide) (by decide)⟩
def Q_rm_ed_3_0 (Z : State) (a1 : Addr) (b : Addr) (kb : ClassId) (el0 : Addr) (el1 : Addr) (el2 : Addr) (h0 : Heap) (n0 : Nat) : Option Value → Heap → List Loc → Prop := fun v h L => v = some (.ref el0) ∧ Fr n0 L ∧ h = h0
set_option maxRecDepth 65536 in
set_option maxHeartbeats 40000000 in
theorem rm_ed_3_0 (l : Launch) (Z : State) (a0 : Array Value) (hw : ∀ d ∈ tables_1, d.before a0 Z = true) (ws : List Jvm.Cond) (a1 : Addr) (b : Addr) (kb : ClassId) (el0 : Addr) (el1 : Addr) (el2 : Addr) (h0 : Heap) (n0 : Nat) (Z0 : n0 ≤ h0.size) (E_a1 : Exa Z h0 a1 "java/util/ArrayList") (F_a1_elementData : Fld Z h0 a1 "java/util/ArrayList" "elementData" "[Ljava/lang/Object;" (.ref b)) (F_a1_size : Fld Z h0 a1 "java/util/ArrayList" "size" "I" (.int (3 : Int32))) (V_b : Arv Z h0 b kb (.object "java/lang/Object") (10 : Int32) [(.ref el0), (.ref el1), (.ref el2), .null, .null, .null, .null, .null, .null, .null] .null) :
    MetFree l (⟨"java/util/ArrayList", "elementData", "(I)Ljava/lang/Object;"⟩ : MethodName) (head1 (Jvm.Cond.code (⟨"java/util/ArrayList", "elementData", "(I)Ljava/lang/Object;"⟩ : MethodName) jdk_38_method_18_code 2 (some (.object "java/lang/Object")) :: ws) ({ frames := 0, cells := 0, slots := 0, locals := 0 } : Room)) (fun a U => a = #[(.ref a1), (.int (0 : Int32))] ∧ Z.Warmed39 U.vm ∧ U.heap = h0) (fun _ _ _ _ _ => True) (fun _ U o U' => ∃ v L, o = .returned v ∧ (Q_rm_ed_3_0 Z a1 b kb el0 el1 el2 h0 n0) v U'.heap L ∧ FrameEnd U o U' L ({ frames := 0, cells := 0, slots := 0, locals := 0 } : Room).cells ({ frames := 0, cells := 0, slots := 0, locals := 0 } : Room).slots) := by
  refine MetFree.of_bodySF (plainFor_of_name pn_25) hisR ?_
  intro p e s m args below meth c s₁ Bd hml0 hP hK
  obtain ⟨rfl, hZ, hh⟩ := hP
  have hx := Bd.exec
  have hby := Bd.bytes
  have hml : c.maxLocals = 2 := hml0
  have hown : s.vm.findClass "java/util/ArrayList" = some m.cls := findClass_of_methodNamed Bd.named
  have hnm := (name_of_methodNamed Bd.named Bd.method).1
  have X0 : Stand p l e ({ frames := 0, cells := 0, slots := 0, locals := 0 } : Room) s m #[(.ref a1), (.int (0 : Int32))] below meth c s₁ [] 0 0 := Stand.of_body Bd
  have e0 : s₁.heap = h0 := by rw [← hh, Bd.state]; rfl
  have N0 := Fr.nil n0
  show own_G FrameEnd p e below s ({ frames := 0, cells := 0, slots := 0, locals := 0 } : Room).cells ({ frames := 0, cells := 0, slots := 0, locals := 0 } : Room).slots (Q_rm_ed_3_0 Z a1 b kb el0 el1 el2 h0 n0) (s₁.setTop (entryFrame m #[(.ref a1), (.int (0 : Int32))] 2))
  refine own_go (Y' := s₁.setTop (mkF m 0 #[rv a1, iv (0 : Int32)] [])) ?_ (fun t k => castTop (ef_25 m a1 (0 : Int32)) k)
  refine own_go ?_ (fun target hr => XS.aloadN X0.here hx rfl (hb hby d25_0) rfl rfl hr)
  show own_G _ p e below s _ _ _ (s₁.setTop (mkF m 1 #[rv a1, iv (0 : Int32)] [(.ref a1)]))
  obtain ⟨T1, X1, e1, st1⟩ := getF X0 hx hZ hown (host := "") (Or.inl (hw _ (List.mem_of_getElem? (i := 66) rfl))) Via.refl e0 F_a1_elementData (g := (mkF m 1 #[rv a1, iv (0 : Int32)] [(.ref a1)])) rfl rfl (hb hby d25_1)
  refine own_go ?_ (fun target hr => st1 _ (XS.iloadN X1.here hx rfl (hb hby d25_4) rfl hr))
  show own_G _ p e below s _ _ _ (T1.setTop (mkF m 5 #[rv a1, iv (0 : Int32)] [(.int (0 : Int32)), (.ref b)]))
  obtain ⟨cl2, Ar2, qk2, S2, M2, H2, G2⟩ := id V_b
  have hin2 : ¬ ((0 : Int32) < 0 ∨ cl2.slots.size ≤ ((0 : Int32)).toNatClampNeg) := inb_of S2 ⟨by decide, by decide⟩
  refine own_go ?_ (fun target hr => X1.aaload hx (j := (0 : Int32)) (v := (.ref el0)) (by rw [e1]; exact Ar2.1) (State.isArrayOf_alike hZ.alike Ar2.2.1) rfl Ar2.2.2 hin2 (Has.at H2 hin2 rfl) (g := (mkF m 5 #[rv a1, iv (0 : Int32)] [(.int (0 : Int32)), (.ref b)])) rfl rfl (hb hby d25_5) _ hr)
  show own_G _ p e below s _ _ _ (T1.setTop (mkF m 6 #[rv a1, iv (0 : Int32)] [(.ref el0)]))
  obtain ⟨fs, hr, hrun, hended, hW, hsame⟩ := X1.leave (v := some (.ref el0)) (fun h => by rw [Bd.returns] at h; cases h)
  exact ⟨_, _, retOut X1 hx Bd.returns rfl (Or.inr (Or.inr (Or.inr (Or.inr ⟨rfl, rfl, rfl⟩)))) (hb hby d25_6) hr, hrun, hended, _, _, rfl, ⟨rfl, N0, e1⟩, ⟨_, rfl⟩, hW, hsame.mono (by decide) (by decide)⟩
def Q_rm_get_3_0 (Z : State) (a1 : Addr) (b : Addr) (kb : ClassId) (el0 : Addr) (el1 : Addr) (el2 : Addr) (h0 : Heap) (n0 : Nat) : Option Value → Heap → List Loc → Prop := fun v h L => v = some (.ref el0) ∧ Fr n0 L ∧ h = h0
set_option maxRecDepth 65536 in
set_option maxHeartbeats 40000000 in
theorem rm_get_3_0 (l : Launch) (Z : State) (a0 : Array Value) (hw : ∀ d ∈ tables_1, d.before a0 Z = true) (ws : List Jvm.Cond) (a1 : Addr) (b : Addr) (kb : ClassId) (el0 : Addr) (el1 : Addr) (el2 : Addr) (h0 : Heap) (n0 : Nat) (Z0 : n0 ≤ h0.size) (E_a1 : Exa Z h0 a1 "java/util/ArrayList") (F_a1_elementData : Fld Z h0 a1 "java/util/ArrayList" "elementData" "[Ljava/lang/Object;" (.ref b)) (F_a1_size : Fld Z h0 a1 "java/util/ArrayList" "size" "I" (.int (3 : Int32))) (V_b : Arv Z h0 b kb (.object "java/lang/Object") (10 : Int32) [(.ref el0), (.ref el1), (.ref el2), .null, .null, .null, .null, .null, .null, .null] .null) :
    MetFree l (⟨"java/util/ArrayList", "get", "(I)Ljava/lang/Object;"⟩ : MethodName) (head1 (Jvm.Cond.code (⟨"java/util/ArrayList", "get", "(I)Ljava/lang/Object;"⟩ : MethodName) jdk_38_method_20_code 2 (some (.object "java/lang/Object")) :: ws) ({ frames := 2, cells := 0, slots := 0, locals := 27 } : Room)) (fun a U => a = #[(.ref a1), (.int (0 : Int32))] ∧ Z.Warmed39 U.vm ∧ U.heap = h0) (fun _ _ _ _ _ => True) (fun _ U o U' => ∃ v L, o = .returned v ∧ (Q_rm_get_3_0 Z a1 b kb el0 el1 el2 h0 n0) v U'.heap L ∧ FrameEnd U o U' L ({ frames := 2, cells := 0, slots := 0, locals := 27 } : Room).cells ({ frames := 2, cells := 0, slots := 0, locals := 27 } : Room).slots) := by
  refine MetFree.of_bodySF (plainFor_of_name pn_22) hisR ?_
  intro p e s m args below meth c s₁ Bd hml0 hP hK
  obtain ⟨rfl, hZ, hh⟩ := hP
  have hx := Bd.exec
  have hby := Bd.bytes
  have hml : c.maxLocals = 2 := hml0
  have hown : s.vm.findClass "java/util/ArrayList" = some m.cls := findClass_of_methodNamed Bd.named
  have hnm := (name_of_methodNamed Bd.named Bd.method).1
  have X0 : Stand p l e ({ frames := 2, cells := 0, slots := 0, locals := 27 } : Room) s m #[(.ref a1), (.int (0 : Int32))] below meth c s₁ [] 0 0 := Stand.of_body Bd
  have e0 : s₁.heap = h0 := by rw [← hh, Bd.state]; rfl
  have N0 := Fr.nil n0
  show own_G FrameEnd p e below s ({ frames := 2, cells := 0, slots := 0, locals := 27 } : Room).cells ({ frames := 2, cells := 0, slots := 0, locals := 27 } : Room).slots (Q_rm_get_3_0 Z a1 b kb el0 el1 el2 h0 n0) (s₁.setTop (entryFrame m #[(.ref a1), (.int (0 : Int32))] 2))
  refine own_go (Y' := s₁.setTop (mkF m 0 #[rv a1, iv (0 : Int32)] [])) ?_ (fun t k => castTop (ef_22 m a1 (0 : Int32)) k)
  refine own_go ?_ (fun target hr => XS.iloadN X0.here hx rfl (hb hby d22_0) rfl (XS.aloadN X0.here hx rfl (hb hby d22_1) rfl rfl hr))
  show own_G _ p e below s _ _ _ (s₁.setTop (mkF m 2 #[rv a1, iv (0 : Int32)] [(.ref a1), (.int (0 : Int32))]))
  obtain ⟨T1, X1, e1, st1⟩ := getF X0 hx hZ hown (host := "") (Or.inl (hw _ (List.mem_of_getElem? (i := 79) rfl))) Via.refl e0 F_a1_size (g := (mkF m 2 #[rv a1, iv (0 : Int32)] [(.ref a1), (.int (0 : Int32))])) rfl rfl (hb hby d22_2)
  refine own_go ?_ (fun target hr => st1 _ hr)
  show own_G _ p e below s _ _ _ (T1.setTop (mkF m 5 #[rv a1, iv (0 : Int32)] [(.int (3 : Int32)), (.int (0 : Int32))]))
  obtain ⟨_, _, ⟨T2, L2, k2, n2⟩, -, X2, ⟨Lc2, hQ2, l2, y2, z2⟩, st2⟩ := Jvm.LawKit.callS X1 hx (y := (⟨"java/util/Objects", "checkIndex", "(II)I"⟩ : MethodName)) hown (mvT hZ (hw _ (List.mem_of_getElem? (i := 132) rfl))) (mvT hZ (hw _ (List.mem_of_getElem? (i := 133) rfl))) (mvT hZ (hw _ (List.mem_of_getElem? (i := 134) rfl))) (mvT hZ (hw _ (List.mem_of_getElem? (i := 135) rfl))) (by decide) (backOf (W := 0) (rm_ochk_3_0 l Z a0 hw []  h0 n0 Z0 ) hZ (hw _ (List.mem_of_getElem? (i := 135) rfl)) (hw _ (List.mem_of_getElem? (i := 134) rfl)) (by decide) (by decide)) (g := (mkF m 5 #[rv a1, iv (0 : Int32)] [(.int (3 : Int32)), (.int (0 : Int32))])) rfl (by rw [hml]; rfl) (argsL := [(.int (0 : Int32)), (.int (3 : Int32))]) (rest := []) (lenOf pd__II_I rfl) rfl (by show 2 * 0 + _ ≤ _; exact Nat.le_of_eq rfl) (hb hby d22_5) (fun _ _ => ⟨rfl, e1, (by decide : 0 + 0 ≤ _), (by decide : 0 + 0 ≤ _)⟩)
  dsimp only [Pt.U, Pt.locs, Pt.cells, Pt.slots] at X2 l2 y2 z2 st2 hQ2
  subst l2 y2 z2
  obtain ⟨rfl, N2q, e2⟩ := hQ2
  have N2 := Fr.app N0 N2q
  refine own_go ?_ (fun target hr => st2 _ (XS.pop X2.here hx rfl (hb hby d22_8) rfl rfl (XS.aloadN X2.here hx rfl (hb hby d22_9) rfl rfl (XS.iloadN X2.here hx rfl (hb hby d22_10) rfl hr))))
  show own_G _ p e below s _ _ _ (T2.setTop (mkF m 11 #[rv a1, iv (0 : Int32)] [(.int (0 : Int32)), (.ref a1)]))
  obtain ⟨cq3, kq3, q3a, q3b, q3c⟩ := isOf hZ e2 E_a1
  obtain ⟨_, _, ⟨T3, L3, k3, n3⟩, -, X3, ⟨Lc3, hQ3, l3, y3, z3⟩, st3⟩ := X2.virtualBack hx (y := (⟨"java/util/ArrayList", "elementData", "(I)Ljava/lang/Object;"⟩ : MethodName)) (z := (⟨"java/util/ArrayList", "elementData", "(I)Ljava/lang/Object;"⟩ : MethodName)) hown (mvT hZ (hw _ (List.mem_of_getElem? (i := 140) rfl))) (mvT hZ (hw _ (List.mem_of_getElem? (i := 141) rfl))) (notFace_of_selects (args := #[]) (mvT hZ (hw _ (List.mem_of_getElem? (i := 143) rfl)))) (mvT hZ (hw _ (List.mem_of_getElem? (i := 143) rfl))) (mvT hZ (hw _ (List.mem_of_getElem? (i := 142) rfl))) (by decide) (backOf (W := 0) (rm_ed_3_0 l Z a0 hw [] a1 b kb el0 el1 el2 h0 n0 Z0 E_a1 F_a1_elementData F_a1_size V_b) hZ (hw _ (List.mem_of_getElem? (i := 144) rfl)) (hw _ (List.mem_of_getElem? (i := 46) rfl)) (by decide) (by decide)) q3a q3c (g := (mkF m 11 #[rv a1, iv (0 : Int32)] [(.int (0 : Int32)), (.ref a1)])) rfl (by rw [hml]; rfl) (Steps.refl _) (argsL := [(.int (0 : Int32))]) (rest := []) (lenOf pd__I_Ljava_lang_Object_ rfl) rfl (by show 2 * 0 + _ ≤ _; exact Nat.le_of_eq rfl) (hb hby d22_11) (fun _ _ => ⟨rfl, e2, (by decide : 0 + 0 ≤ _), (by decide : 0 + 0 ≤ _)⟩)
  dsimp only [Pt.U, Pt.locs, Pt.cells, Pt.slots] at X3 l3 y3 z3 st3 hQ3
  subst l3 y3 z3
  obtain ⟨rfl, N3q, e3⟩ := hQ3
  have N3 := Fr.app N2 N3q
  refine own_go ?_ (fun target hr => st3.trans hr)
  show own_G _ p e below s _ _ _ (T3.setTop (mkF m 14 #[rv a1, iv (0 : Int32)] [(.ref el0)]))
  obtain ⟨fs, hr, hrun, hended, hW, hsame⟩ := X3.leave (v := some (.ref el0)) (fun h => by rw [Bd.returns] at h; cases h)
  exact ⟨_, _, retOut X3 hx Bd.returns rfl (Or.inr (Or.inr (Or.inr (Or.inr ⟨rfl, rfl, rfl⟩)))) (hb hby d22_14) hr, hrun, hended, _, _, rfl, ⟨rfl, N3, e3⟩, ⟨_, rfl⟩, hW, hsame.mono (by decide) (by decide)⟩
def Q_rm_field_3_0 (Z : State) (a1 : Addr) (a2 : Addr) (b : Addr) (kb : ClassId) (el0 : Addr) (el1 : Addr) (el2 : Addr) (h0 : Heap) (n0 : Nat) : Option Value → Heap → List Loc → Prop := fun v h L => v = some (.ref el0) ∧ Fr n0 L ∧ h = h0
set_option maxRecDepth 65536 in
set_option maxHeartbeats 40000000 in
theorem rm_field_3_0 (l : Launch) (Z : State) (a0 : Array Value) (hw : ∀ d ∈ tables_1, d.before a0 Z = true) (ws : List Jvm.Cond) (a1 : Addr) (a2 : Addr) (b : Addr) (kb : ClassId) (el0 : Addr) (el1 : Addr) (el2 : Addr) (h0 : Heap) (n0 : Nat) (Z0 : n0 ≤ h0.size) (F_a1_fields : Fld Z h0 a1 "com/example/tableau_abduction/tableauabduction/cli/TabSeparatedFile$Row" "fields" "Ljava/util/List;" (.ref a2)) (E_a2 : Exa Z h0 a2 "java/util/ArrayList") (F_a2_elementData : Fld Z h0 a2 "java/util/ArrayList" "elementData" "[Ljava/lang/Object;" (.ref b)) (F_a2_size : Fld Z h0 a2 "java/util/ArrayList" "size" "I" (.int (3 : Int32))) (V_b : Arv Z h0 b kb (.object "java/lang/Object") (10 : Int32) [(.ref el0), (.ref el1), (.ref el2), .null, .null, .null, .null, .null, .null, .null] .null) (E_el0 : Exa Z h0 el0 "java/lang/String") :
    MetFree l (⟨"com/example/tableau_abduction/tableauabduction/cli/TabSeparatedFile$Row", "field", "(I)Ljava/lang/String;"⟩ : MethodName) (head1 (Jvm.Cond.code (⟨"com/example/tableau_abduction/tableauabduction/cli/TabSeparatedFile$Row", "field", "(I)Ljava/lang/String;"⟩ : MethodName) prog_20_method_2_code 2 (some (.object "java/lang/String")) :: ws) ({ frames := 3, cells := 0, slots := 0, locals := 40 } : Room)) (fun a U => a = #[(.ref a1), (.int (0 : Int32))] ∧ Z.Warmed39 U.vm ∧ U.heap = h0) (fun _ _ _ _ _ => True) (fun _ U o U' => ∃ v L, o = .returned v ∧ (Q_rm_field_3_0 Z a1 a2 b kb el0 el1 el2 h0 n0) v U'.heap L ∧ FrameEnd U o U' L ({ frames := 3, cells := 0, slots := 0, locals := 40 } : Room).cells ({ frames := 3, cells := 0, slots := 0, locals := 40 } : Room).slots) := by
  refine MetFree.of_bodySF (plainFor_of_name pn_21) hisR ?_
  intro p e s m args below meth c s₁ Bd hml0 hP hK
  obtain ⟨rfl, hZ, hh⟩ := hP
  have hx := Bd.exec
  have hby := Bd.bytes
  have hml : c.maxLocals = 2 := hml0
  have hown : s.vm.findClass "com/example/tableau_abduction/tableauabduction/cli/TabSeparatedFile$Row" = some m.cls := findClass_of_methodNamed Bd.named
  have hnm := (name_of_methodNamed Bd.named Bd.method).1
  have X0 : Stand p l e ({ frames := 3, cells := 0, slots := 0, locals := 40 } : Room) s m #[(.ref a1), (.int (0 : Int32))] below meth c s₁ [] 0 0 := Stand.of_body Bd
  have e0 : s₁.heap = h0 := by rw [← hh, Bd.state]; rfl
  have N0 := Fr.nil n0
  show own_G FrameEnd p e below s ({ frames := 3, cells := 0, slots := 0, locals := 40 } : Room).cells ({ frames := 3, cells := 0, slots := 0, locals := 40 } : Room).slots (Q_rm_field_3_0 Z a1 a2 b kb el0 el1 el2 h0 n0) (s₁.setTop (entryFrame m #[(.ref a1), (.int (0 : Int32))] 2))
  refine own_go (Y' := s₁.setTop (mkF m 0 #[rv a1, iv (0 : Int32)] [])) ?_ (fun t k => castTop (ef_21 m a1 (0 : Int32)) k)
  refine own_go ?_ (fun target hr => XS.aloadN X0.here hx rfl (hb hby d21_0) rfl rfl hr)
  show own_G _ p e below s _ _ _ (s₁.setTop (mkF m 1 #[rv a1, iv (0 : Int32)] [(.ref a1)]))
  obtain ⟨T1, X1, e1, st1⟩ := getF X0 hx hZ hown (host := "") (Or.inl (hw _ (List.mem_of_getElem? (i := 117) rfl))) Via.refl e0 F_a1_fields (g := (mkF m 1 #[rv a1, iv (0 : Int32)] [(.ref a1)])) rfl rfl (hb hby d21_1)
  refine own_go ?_ (fun target hr => st1 _ (XS.iloadN X1.here hx rfl (hb hby d21_4) rfl hr))
  show own_G _ p e below s _ _ _ (T1.setTop (mkF m 5 #[rv a1, iv (0 : Int32)] [(.int (0 : Int32)), (.ref a2)]))
  obtain ⟨cq2, kq2, q2a, q2b, q2c⟩ := isOf hZ e1 E_a2
  obtain ⟨_, _, ⟨T2, L2, k2, n2⟩, -, X2, ⟨Lc2, hQ2, l2, y2, z2⟩, st2⟩ := X1.interfaceBack hx (xi := (⟨"java/util/List", "get", "(I)Ljava/lang/Object;"⟩ : MethodName)) (y := (⟨"java/util/ArrayList", "get", "(I)Ljava/lang/Object;"⟩ : MethodName)) hown (mvT hZ (hw _ (List.mem_of_getElem? (i := 124) rfl))) (mvT hZ (hw _ (List.mem_of_getElem? (i := 125) rfl))) (mvT hZ (hw _ (List.mem_of_getElem? (i := 126) rfl))) (mvT hZ (hw _ (List.mem_of_getElem? (i := 127) rfl))) (mvT hZ (hw _ (List.mem_of_getElem? (i := 128) rfl))) (mvT hZ (hw _ (List.mem_of_getElem? (i := 129) rfl))) (mvT hZ (hw _ (List.mem_of_getElem? (i := 130) rfl))) (mvT hZ (hw _ (List.mem_of_getElem? (i := 75) rfl))) (by decide) (backOf (W := 0) (rm_get_3_0 l Z a0 hw [] a2 b kb el0 el1 el2 h0 n0 Z0 E_a2 F_a2_elementData F_a2_size V_b) hZ (hw _ (List.mem_of_getElem? (i := 131) rfl)) (hw _ (List.mem_of_getElem? (i := 46) rfl)) (by decide) (by decide)) q2a q2b q2c (g := (mkF m 5 #[rv a1, iv (0 : Int32)] [(.int (0 : Int32)), (.ref a2)])) rfl (by rw [hml]; rfl) (Steps.refl _) (argsL := [(.int (0 : Int32))]) (rest := []) (lenOf pd__I_Ljava_lang_Object_ rfl) rfl (by show 2 * 0 + _ ≤ _; exact Nat.le_of_eq rfl) (hb hby d21_5) (fun _ _ => ⟨rfl, e1, (by decide : 0 + 0 ≤ _), (by decide : 0 + 0 ≤ _)⟩)
  dsimp only [Pt.U, Pt.locs, Pt.cells, Pt.slots] at X2 l2 y2 z2 st2 hQ2
  subst l2 y2 z2
  obtain ⟨rfl, N2q, e2⟩ := hQ2
  have N2 := Fr.app N0 N2q
  refine own_go ?_ (fun target hr => st2.trans hr)
  show own_G _ p e below s _ _ _ (T2.setTop (mkF m 10 #[rv a1, iv (0 : Int32)] [(.ref el0)]))
  obtain ⟨T3, X3, e3, st3⟩ := castY X2 hx hZ hown (hw _ (List.mem_of_getElem? (i := 145) rfl)) e2 (Ins.self E_el0) (g := (mkF m 10 #[rv a1, iv (0 : Int32)] [(.ref el0)])) rfl rfl (hb hby d21_10)
  refine own_go ?_ (fun target hr => st3 _ hr)
  show own_G _ p e below s _ _ _ (T3.setTop (mkF m 13 #[rv a1, iv (0 : Int32)] [(.ref el0)]))
  obtain ⟨fs, hr, hrun, hended, hW, hsame⟩ := X3.leave (v := some (.ref el0)) (fun h => by rw [Bd.returns] at h; cases h)
  exact ⟨_, _, retOut X3 hx Bd.returns rfl (Or.inr (Or.inr (Or.inr (Or.inr ⟨rfl, rfl, rfl⟩)))) (hb hby d21_13) hr, hrun, hended, _, _, rfl, ⟨rfl, N2, e3⟩, ⟨_, rfl⟩, hW, hsame.mono (by decide) (by decide)⟩
def Q_rm_pchk_3_1 (Z : State)  (h0 : Heap) (n0 : Nat) : Option Value → Heap → List Loc → Prop := fun v h L => v = some (.int (1 : Int32)) ∧ Fr n0 L ∧ h = h0
set_option maxRecDepth 65536 in
set_option maxHeartbeats 40000000 in
theorem rm_pchk_3_1 (l : Launch) (Z : State) (a0 : Array Value) (hw : ∀ d ∈ tables_1, d.before a0 Z = true) (ws : List Jvm.Cond)  (h0 : Heap) (n0 : Nat) (Z0 : n0 ≤ h0.size) :
    MetFree l (⟨"jdk/internal/util/Preconditions", "checkIndex", "(IILjava/util/function/BiFunction;)I"⟩ : MethodName) (head1 (Jvm.Cond.code (⟨"jdk/internal/util/Preconditions", "checkIndex", "(IILjava/util/function/BiFunction;)I"⟩ : MethodName) jdk_41_method_11_code 3 (some .int) :: ws) ({ frames := 0, cells := 0, slots := 0, locals := 0 } : Room)) (fun a U => a = #[(.int (1 : Int32)), (.int (3 : Int32)), .null] ∧ Z.Warmed39 U.vm ∧ U.heap = h0) (fun _ _ _ _ _ => True) (fun _ U o U' => ∃ v L, o = .returned v ∧ (Q_rm_pchk_3_1 Z  h0 n0) v U'.heap L ∧ FrameEnd U o U' L ({ frames := 0, cells := 0, slots := 0, locals := 0 } : Room).cells ({ frames := 0, cells := 0, slots := 0, locals := 0 } : Room).slots) := by
  refine MetFree.of_bodySF (plainFor_of_name pn_24) hisR ?_
  intro p e s m args below meth c s₁ Bd hml0 hP hK
  obtain ⟨rfl, hZ, hh⟩ := hP
  have hx := Bd.exec
  have hby := Bd.bytes
  have hml : c.maxLocals = 3 := hml0
  have hown : s.vm.findClass "jdk/internal/util/Preconditions" = some m.cls := findClass_of_methodNamed Bd.named
  have hnm := (name_of_methodNamed Bd.named Bd.method).1
  have X0 : Stand p l e ({ frames := 0, cells := 0, slots := 0, locals := 0 } : Room) s m #[(.int (1 : Int32)), (.int (3 : Int32)), .null] below meth c s₁ [] 0 0 := Stand.of_body Bd
  have e0 : s₁.heap = h0 := by rw [← hh, Bd.state]; rfl
  have N0 := Fr.nil n0
  show own_G FrameEnd p e below s ({ frames := 0, cells := 0, slots := 0, locals := 0 } : Room).cells ({ frames := 0, cells := 0, slots := 0, locals := 0 } : Room).slots (Q_rm_pchk_3_1 Z  h0 n0) (s₁.setTop (entryFrame m #[(.int (1 : Int32)), (.int (3 : Int32)), .null] 3))
  refine own_go (Y' := s₁.setTop (mkF m 0 #[iv (1 : Int32), iv (3 : Int32), .val .null] [])) ?_ (fun t k => castTop (ef_24 m (1 : Int32) (3 : Int32)) k)
  refine own_go ?_ (fun target hr => XS.iloadN X0.here hx rfl (hb hby d24_0) rfl (XS.ifNo X0.here hx rfl (hb hby d24_1) rfl ((if0 _ _).trans (flt (by decide : ¬ ((1 : Int32) < (0 : Int32)))).1) (XS.iloadN X0.here hx rfl (hb hby d24_4) rfl (XS.iloadN X0.here hx rfl (hb hby d24_5) rfl (XS.icmpYes X0.here hx rfl (pc0 := 6) (pc' := 16) rfl (hb hby d24_6) rfl (tlt (by decide : (1 : Int32) < (3 : Int32))).1 (by decide) (by decide) (XS.iloadN X0.here hx rfl (hb hby d24_16) rfl hr))))))
  show own_G _ p e below s _ _ _ (s₁.setTop (mkF m 17 #[iv (1 : Int32), iv (3 : Int32), .val .null] [(.int (1 : Int32))]))
  obtain ⟨fs, hr, hrun, hended, hW, hsame⟩ := X0.leave (v := some (.int (1 : Int32))) (fun h => by rw [Bd.returns] at h; cases h)
  exact ⟨_, _, retI X0 hx Bd.returns (hb hby d24_17) hr, hrun, hended, _, _, rfl, ⟨rfl, N0, e0⟩, ⟨_, rfl⟩, hW, hsame.mono (by decide) (by decide)⟩
def Q_rm_ochk_3_1 (Z : State)  (h0 : Heap) (n0 : Nat) : Option Value → Heap → List Loc → Prop := fun v h L => v = some (.int (1 : Int32)) ∧ Fr n0 L ∧ h = h0
set_option maxRecDepth 65536 in
set_option maxHeartbeats 40000000 in
theorem rm_ochk_3_1 (l : Launch) (Z : State) (a0 : Array Value) (hw : ∀ d ∈ tables_1, d.before a0 Z = true) (ws : List Jvm.Cond)  (h0 : Heap) (n0 : Nat) (Z0 : n0 ≤ h0.size) :
    MetFree l (⟨"java/util/Objects", "checkIndex", "(II)I"⟩ : MethodName) (head1 (Jvm.Cond.code (⟨"java/util/Objects", "checkIndex", "(II)I"⟩ : MethodName) jdk_31_method_17_code 2 (some .int) :: ws) ({ frames := 1, cells := 0, slots := 0, locals := 14 } : Room)) (fun a U => a = #[(.int (1 : Int32)), (.int (3 : Int32))] ∧ Z.Warmed39 U.vm ∧ U.heap = h0) (fun _ _ _ _ _ => True) (fun _ U o U' => ∃ v L, o = .returned v ∧ (Q_rm_ochk_3_1 Z  h0 n0) v U'.heap L ∧ FrameEnd U o U' L ({ frames := 1, cells := 0, slots := 0, locals := 14 } : Room).cells ({ frames := 1, cells := 0, slots := 0, locals := 14 } : Room).slots) := by
  refine MetFree.of_bodySF (plainFor_of_name pn_23) hisR ?_
  intro p e s m args below meth c s₁ Bd hml0 hP hK
  obtain ⟨rfl, hZ, hh⟩ := hP
  have hx := Bd.exec
  have hby := Bd.bytes
  have hml : c.maxLocals = 2 := hml0
  have hown : s.vm.findClass "java/util/Objects" = some m.cls := findClass_of_methodNamed Bd.named
  have hnm := (name_of_methodNamed Bd.named Bd.method).1
  have X0 : Stand p l e ({ frames := 1, cells := 0, slots := 0, locals := 14 } : Room) s m #[(.int (1 : Int32)), (.int (3 : Int32))] below meth c s₁ [] 0 0 := Stand.of_body Bd
  have e0 : s₁.heap = h0 := by rw [← hh, Bd.state]; rfl
  have N0 := Fr.nil n0
  show own_G FrameEnd p e below s ({ frames := 1, cells := 0, slots := 0, locals := 14 } : Room).cells ({ frames := 1, cells := 0, slots := 0, locals := 14 } : Room).slots (Q_rm_ochk_3_1 Z  h0 n0) (s₁.setTop (entryFrame m #[(.int (1 : Int32)), (.int (3 : Int32))] 2))
  refine own_go (Y' := s₁.setTop (mkF m 0 #[iv (1 : Int32), iv (3 : Int32)] [])) ?_ (fun t k => castTop (ef_23 m (1 : Int32) (3 : Int32)) k)
  refine own_go ?_ (fun target hr => XS.iloadN X0.here hx rfl (hb hby d23_0) rfl (XS.iloadN X0.here hx rfl (hb hby d23_1) rfl (XS.aconstNull X0.here hx rfl (hb hby d23_2) hr)))
  show own_G _ p e below s _ _ _ (s₁.setTop (mkF m 3 #[iv (1 : Int32), iv (3 : Int32)] [.null, (.int (3 : Int32)), (.int (1 : Int32))]))
  obtain ⟨_, _, ⟨T1, L1, k1, n1⟩, -, X1, ⟨Lc1, hQ1, l1, y1, z1⟩, st1⟩ := Jvm.LawKit.callS X0 hx (y := (⟨"jdk/internal/util/Preconditions", "checkIndex", "(IILjava/util/function/BiFunction;)I"⟩ : MethodName)) hown (mvT hZ (hw _ (List.mem_of_getElem? (i := 136) rfl))) (mvT hZ (hw _ (List.mem_of_getElem? (i := 137) rfl))) (mvT hZ (hw _ (List.mem_of_getElem? (i := 138) rfl))) (mvT hZ (hw _ (List.mem_of_getElem? (i := 139) rfl))) (by decide) (backOf (W := 0) (rm_pchk_3_1 l Z a0 hw []  h0 n0 Z0 ) hZ (hw _ (List.mem_of_getElem? (i := 139) rfl)) (hw _ (List.mem_of_getElem? (i := 138) rfl)) (by decide) (by decide)) (g := (mkF m 3 #[iv (1 : Int32), iv (3 : Int32)] [.null, (.int (3 : Int32)), (.int (1 : Int32))])) rfl (by rw [hml]; rfl) (argsL := [(.int (1 : Int32)), (.int (3 : Int32)), .null]) (rest := []) (lenOf pd__IILjava_util_function_BiFunction__I rfl) rfl (by show 2 * 0 + _ ≤ _; exact Nat.le_of_eq rfl) (hb hby d23_3) (fun _ _ => ⟨rfl, e0, (by decide : 0 + 0 ≤ _), (by decide : 0 + 0 ≤ _)⟩)
  dsimp only [Pt.U, Pt.locs, Pt.cells, Pt.slots] at X1 l1 y1 z1 st1 hQ1
  subst l1 y1 z1
  obtain ⟨rfl, N1q, e1⟩ := hQ1
  have N1 := Fr.app N0 N1q
  refine own_go ?_ (fun target hr => st1 _ hr)
  show own_G _ p e below s _ _ _ (T1.setTop (mkF m 6 #[iv (1 : Int32), iv (3 : Int32)] [(.int (1 : Int32))]))
  obtain ⟨fs, hr, hrun, hended, hW, hsame⟩ := X1.leave (v := some (.int (1 : Int32))) (fun h => by rw [Bd.returns] at h; cases h)
  exact ⟨_, _, retI X1 hx Bd.returns (hb hby d23_6) hr, hrun, hended, _, _, rfl, ⟨rfl, N1, e1⟩, ⟨_, rfl⟩, hW, hsame.mono (by decide) (by decide)⟩
def Q_rm_ed_3_1 (Z : State) (a1 : Addr) (b : Addr) (kb : ClassId) (el0 : Addr) (el1 : Addr) (el2 : Addr) (h0 : Heap) (n0 : Nat) : Option Value → Heap → List Loc → Prop := fun v h L => v = some (.ref el1) ∧ Fr n0 L ∧ h = h0
set_option maxRecDepth 65536 in
set_option maxHeartbeats 40000000 in
theorem rm_ed_3_1 (l : Launch) (Z : State) (a0 : Array Value) (hw : ∀ d ∈ tables_1, d.before a0 Z = true) (ws : List Jvm.Cond) (a1 : Addr) (b : Addr) (kb : ClassId) (el0 : Addr) (el1 : Addr) (el2 : Addr) (h0 : Heap) (n0 : Nat) (Z0 : n0 ≤ h0.size) (E_a1 : Exa Z h0 a1 "java/util/ArrayList") (F_a1_elementData : Fld Z h0 a1 "java/util/ArrayList" "elementData" "[Ljava/lang/Object;" (.ref b)) (F_a1_size : Fld Z h0 a1 "java/util/ArrayList" "size" "I" (.int (3 : Int32))) (V_b : Arv Z h0 b kb (.object "java/lang/Object") (10 : Int32) [(.ref el0), (.ref el1), (.ref el2), .null, .null, .null, .null, .null, .null, .null] .null) :
    MetFree l (⟨"java/util/ArrayList", "elementData", "(I)Ljava/lang/Object;"⟩ : MethodName) (head1 (Jvm.Cond.code (⟨"java/util/ArrayList", "elementData", "(I)Ljava/lang/Object;"⟩ : MethodName) jdk_38_method_18_code 2 (some (.object "java/lang/Object")) :: ws) ({ frames := 0, cells := 0, slots := 0, locals := 0 } : Room)) (fun a U => a = #[(.ref a1), (.int (1 : Int32))] ∧ Z.Warmed39 U.vm ∧ U.heap = h0) (fun _ _ _ _ _ => True) (fun _ U o U' => ∃ v L, o = .returned v ∧ (Q_rm_ed_3_1 Z a1 b kb el0 el1 el2 h0 n0) v U'.heap L ∧ FrameEnd U o U' L ({ frames := 0, cells := 0, slots := 0, locals := 0 } : Room).cells ({ frames := 0, cells := 0, slots := 0, locals := 0 } : Room).slots) := by
  refine MetFree.of_bodySF (plainFor_of_name pn_25) hisR ?_
  intro p e s m args below meth c s₁ Bd hml0 hP hK
  obtain ⟨rfl, hZ, hh⟩ := hP
  have hx := Bd.exec
  have hby := Bd.bytes
  have hml : c.maxLocals = 2 := hml0
  have hown : s.vm.findClass "java/util/ArrayList" = some m.cls := findClass_of_methodNamed Bd.named
  have hnm := (name_of_methodNamed Bd.named Bd.method).1
  have X0 : Stand p l e ({ frames := 0, cells := 0, slots := 0, locals := 0 } : Room) s m #[(.ref a1), (.int (1 : Int32))] below meth c s₁ [] 0 0 := Stand.of_body Bd
  have e0 : s₁.heap = h0 := by rw [← hh, Bd.state]; rfl
  have N0 := Fr.nil n0
  show own_G FrameEnd p e below s ({ frames := 0, cells := 0, slots := 0, locals := 0 } : Room).cells ({ frames := 0, cells := 0, slots := 0, locals := 0 } : Room).slots (Q_rm_ed_3_1 Z a1 b kb el0 el1 el2 h0 n0) (s₁.setTop (entryFrame m #[(.ref a1), (.int (1 : Int32))] 2))
  refine own_go (Y' := s₁.setTop (mkF m 0 #[rv a1, iv (1 : Int32)] [])) ?_ (fun t k => castTop (ef_25 m a1 (1 : Int32)) k)
  refine own_go ?_ (fun target hr => XS.aloadN X0.here hx rfl (hb hby d25_0) rfl rfl hr)
  show own_G _ p e below s _ _ _ (s₁.setTop (mkF m 1 #[rv a1, iv (1 : Int32)] [(.ref a1)]))
  obtain ⟨T1, X1, e1, st1⟩ := getF X0 hx hZ hown (host := "") (Or.inl (hw _ (List.mem_of_getElem? (i := 66) rfl))) Via.refl e0 F_a1_elementData (g := (mkF m 1 #[rv a1, iv (1 : Int32)] [(.ref a1)])) rfl rfl (hb hby d25_1)
  refine own_go ?_ (fun target hr => st1 _ (XS.iloadN X1.here hx rfl (hb hby d25_4) rfl hr))
  show own_G _ p e below s _ _ _ (T1.setTop (mkF m 5 #[rv a1, iv (1 : Int32)] [(.int (1 : Int32)), (.ref b)]))
  obtain ⟨cl2, Ar2, qk2, S2, M2, H2, G2⟩ := id V_b
  have hin2 : ¬ ((1 : Int32) < 0 ∨ cl2.slots.size ≤ ((1 : Int32)).toNatClampNeg) := inb_of S2 ⟨by decide, by decide⟩
  refine own_go ?_ (fun target hr => X1.aaload hx (j := (1 : Int32)) (v := (.ref el1)) (by rw [e1]; exact Ar2.1) (State.isArrayOf_alike hZ.alike Ar2.2.1) rfl Ar2.2.2 hin2 (Has.at H2 hin2 rfl) (g := (mkF m 5 #[rv a1, iv (1 : Int32)] [(.int (1 : Int32)), (.ref b)])) rfl rfl (hb hby d25_5) _ hr)
  show own_G _ p e below s _ _ _ (T1.setTop (mkF m 6 #[rv a1, iv (1 : Int32)] [(.ref el1)]))
  obtain ⟨fs, hr, hrun, hended, hW, hsame⟩ := X1.leave (v := some (.ref el1)) (fun h => by rw [Bd.returns] at h; cases h)
  exact ⟨_, _, retOut X1 hx Bd.returns rfl (Or.inr (Or.inr (Or.inr (Or.inr ⟨rfl, rfl, rfl⟩)))) (hb hby d25_6) hr, hrun, hended, _, _, rfl, ⟨rfl, N0, e1⟩, ⟨_, rfl⟩, hW, hsame.mono (by decide) (by decide)⟩
def Q_rm_get_3_1 (Z : State) (a1 : Addr) (b : Addr) (kb : ClassId) (el0 : Addr) (el1 : Addr) (el2 : Addr) (h0 : Heap) (n0 : Nat) : Option Value → Heap → List Loc → Prop := fun v h L => v = some (.ref el1) ∧ Fr n0 L ∧ h = h0
set_option maxRecDepth 65536 in
set_option maxHeartbeats 40000000 in
theorem rm_get_3_1 (l : Launch) (Z : State) (a0 : Array Value) (hw : ∀ d ∈ tables_1, d.before a0 Z = true) (ws : List Jvm.Cond) (a1 : Addr) (b : Addr) (kb : ClassId) (el0 : Addr) (el1 : Addr) (el2 : Addr) (h0 : Heap) (n0 : Nat) (Z0 : n0 ≤ h0.size) (E_a1 : Exa Z h0 a1 "java/util/ArrayList") (F_a1_elementData : Fld Z h0 a1 "java/util/ArrayList" "elementData" "[Ljava/lang/Object;" (.ref b)) (F_a1_size : Fld Z h0 a1 "java/util/ArrayList" "size" "I" (.int (3 : Int32))) (V_b : Arv Z h0 b kb (.object "java/lang/Object") (10 : Int32) [(.ref el0), (.ref el1), (.ref el2), .null, .null, .null, .null, .null, .null, .null] .null) :
    MetFree l (⟨"java/util/ArrayList", "get", "(I)Ljava/lang/Object;"⟩ : MethodName) (head1 (Jvm.Cond.code (⟨"java/util/ArrayList", "get", "(I)Ljava/lang/Object;"⟩ : MethodName) jdk_38_method_20_code 2 (some (.object "java/lang/Object")) :: ws) ({ frames := 2, cells := 0, slots := 0, locals := 27 } : Room)) (fun a U => a = #[(.ref a1), (.int (1 : Int32))] ∧ Z.Warmed39 U.vm ∧ U.heap = h0) (fun _ _ _ _ _ => True) (fun _ U o U' => ∃ v L, o = .returned v ∧ (Q_rm_get_3_1 Z a1 b kb el0 el1 el2 h0 n0) v U'.heap L ∧ FrameEnd U o U' L ({ frames := 2, cells := 0, slots := 0, locals := 27 } : Room).cells ({ frames := 2, cells := 0, slots := 0, locals := 27 } : Room).slots) := by
  refine MetFree.of_bodySF (plainFor_of_name pn_22) hisR ?_
  intro p e s m args below meth c s₁ Bd hml0 hP hK
  obtain ⟨rfl, hZ, hh⟩ := hP
  have hx := Bd.exec
  have hby := Bd.bytes
  have hml : c.maxLocals = 2 := hml0
  have hown : s.vm.findClass "java/util/ArrayList" = some m.cls := findClass_of_methodNamed Bd.named
  have hnm := (name_of_methodNamed Bd.named Bd.method).1
  have X0 : Stand p l e ({ frames := 2, cells := 0, slots := 0, locals := 27 } : Room) s m #[(.ref a1), (.int (1 : Int32))] below meth c s₁ [] 0 0 := Stand.of_body Bd
  have e0 : s₁.heap = h0 := by rw [← hh, Bd.state]; rfl
  have N0 := Fr.nil n0
  show own_G FrameEnd p e below s ({ frames := 2, cells := 0, slots := 0, locals := 27 } : Room).cells ({ frames := 2, cells := 0, slots := 0, locals := 27 } : Room).slots (Q_rm_get_3_1 Z a1 b kb el0 el1 el2 h0 n0) (s₁.setTop (entryFrame m #[(.ref a1), (.int (1 : Int32))] 2))
  refine own_go (Y' := s₁.setTop (mkF m 0 #[rv a1, iv (1 : Int32)] [])) ?_ (fun t k => castTop (ef_22 m a1 (1 : Int32)) k)
  refine own_go ?_ (fun target hr => XS.iloadN X0.here hx rfl (hb hby d22_0) rfl (XS.aloadN X0.here hx rfl (hb hby d22_1) rfl rfl hr))
  show own_G _ p e below s _ _ _ (s₁.setTop (mkF m 2 #[rv a1, iv (1 : Int32)] [(.ref a1), (.int (1 : Int32))]))
  obtain ⟨T1, X1, e1, st1⟩ := getF X0 hx hZ hown (host := "") (Or.inl (hw _ (List.mem_of_getElem? (i := 79) rfl))) Via.refl e0 F_a1_size (g := (mkF m 2 #[rv a1, iv (1 : Int32)] [(.ref a1), (.int (1 : Int32))])) rfl rfl (hb hby d22_2)
  refine own_go ?_ (fun target hr => st1 _ hr)
  show own_G _ p e below s _ _ _ (T1.setTop (mkF m 5 #[rv a1, iv (1 : Int32)] [(.int (3 : Int32)), (.int (1 : Int32))]))
  obtain ⟨_, _, ⟨T2, L2, k2, n2⟩, -, X2, ⟨Lc2, hQ2, l2, y2, z2⟩, st2⟩ := Jvm.LawKit.callS X1 hx (y := (⟨"java/util/Objects", "checkIndex", "(II)I"⟩ : MethodName)) hown (mvT hZ (hw _ (List.mem_of_getElem? (i := 132) rfl))) (mvT hZ (hw _ (List.mem_of_getElem? (i := 133) rfl))) (mvT hZ (hw _ (List.mem_of_getElem? (i := 134) rfl))) (mvT hZ (hw _ (List.mem_of_getElem? (i := 135) rfl))) (by decide) (backOf (W := 0) (rm_ochk_3_1 l Z a0 hw []  h0 n0 Z0 ) hZ (hw _ (List.mem_of_getElem? (i := 135) rfl)) (hw _ (List.mem_of_getElem? (i := 134) rfl)) (by decide) (by decide)) (g := (mkF m 5 #[rv a1, iv (1 : Int32)] [(.int (3 : Int32)), (.int (1 : Int32))])) rfl (by rw [hml]; rfl) (argsL := [(.int (1 : Int32)), (.int (3 : Int32))]) (rest := []) (lenOf pd__II_I rfl) rfl (by show 2 * 0 + _ ≤ _; exact Nat.le_of_eq rfl) (hb hby d22_5) (fun _ _ => ⟨rfl, e1, (by decide : 0 + 0 ≤ _), (by decide : 0 + 0 ≤ _)⟩)
  dsimp only [Pt.U, Pt.locs, Pt.cells, Pt.slots] at X2 l2 y2 z2 st2 hQ2
  subst l2 y2 z2
  obtain ⟨rfl, N2q, e2⟩ := hQ2
  have N2 := Fr.app N0 N2q
  refine own_go ?_ (fun target hr => st2 _ (XS.pop X2.here hx rfl (hb hby d22_8) rfl rfl (XS.aloadN X2.here hx rfl (hb hby d22_9) rfl rfl (XS.iloadN X2.here hx rfl (hb hby d22_10) rfl hr))))
  show own_G _ p e below s _ _ _ (T2.setTop (mkF m 11 #[rv a1, iv (1 : Int32)] [(.int (1 : Int32)), (.ref a1)]))
  obtain ⟨cq3, kq3, q3a, q3b, q3c⟩ := isOf hZ e2 E_a1
  obtain ⟨_, _, ⟨T3, L3, k3, n3⟩, -, X3, ⟨Lc3, hQ3, l3, y3, z3⟩, st3⟩ := X2.virtualBack hx (y := (⟨"java/util/ArrayList", "elementData", "(I)Ljava/lang/Object;"⟩ : MethodName)) (z := (⟨"java/util/ArrayList", "elementData", "(I)Ljava/lang/Object;"⟩ : MethodName)) hown (mvT hZ (hw _ (List.mem_of_getElem? (i := 140) rfl))) (mvT hZ (hw _ (List.mem_of_getElem? (i := 141) rfl))) (notFace_of_selects (args := #[]) (mvT hZ (hw _ (List.mem_of_getElem? (i := 143) rfl)))) (mvT hZ (hw _ (List.mem_of_getElem? (i := 143) rfl))) (mvT hZ (hw _ (List.mem_of_getElem? (i := 142) rfl))) (by decide) (backOf (W := 0) (rm_ed_3_1 l Z a0 hw [] a1 b kb el0 el1 el2 h0 n0 Z0 E_a1 F_a1_elementData F_a1_size V_b) hZ (hw _ (List.mem_of_getElem? (i := 144) rfl)) (hw _ (List.mem_of_getElem? (i := 46) rfl)) (by decide) (by decide)) q3a q3c (g := (mkF m 11 #[rv a1, iv (1 : Int32)] [(.int (1 : Int32)), (.ref a1)])) rfl (by rw [hml]; rfl) (Steps.refl _) (argsL := [(.int (1 : Int32))]) (rest := []) (lenOf pd__I_Ljava_lang_Object_ rfl) rfl (by show 2 * 0 + _ ≤ _; exact Nat.le_of_eq rfl) (hb hby d22_11) (fun _ _ => ⟨rfl, e2, (by decide : 0 + 0 ≤ _), (by decide : 0 + 0 ≤ _)⟩)
  dsimp only [Pt.U, Pt.locs, Pt.cells, Pt.slots] at X3 l3 y3 z3 st3 hQ3
  subst l3 y3 z3
  obtain ⟨rfl, N3q, e3⟩ := hQ3
  have N3 := Fr.app N2 N3q
  refine own_go ?_ (fun target hr => st3.trans hr)
  show own_G _ p e below s _ _ _ (T3.setTop (mkF m 14 #[rv a1, iv (1 : Int32)] [(.ref el1)]))
  obtain ⟨fs, hr, hrun, hended, hW, hsame⟩ := X3.leave (v := some (.ref el1)) (fun h => by rw [Bd.returns] at h; cases h)
  exact ⟨_, _, retOut X3 hx Bd.returns rfl (Or.inr (Or.inr (Or.inr (Or.inr ⟨rfl, rfl, rfl⟩)))) (hb hby d22_14) hr, hrun, hended, _, _, rfl, ⟨rfl, N3, e3⟩, ⟨_, rfl⟩, hW, hsame.mono (by decide) (by decide)⟩
def Q_rm_field_3_1 (Z : State) (a1 : Addr) (a2 : Addr) (b : Addr) (kb : ClassId) (el0 : Addr) (el1 : Addr) (el2 : Addr) (h0 : Heap) (n0 : Nat) : Option Value → Heap → List Loc → Prop := fun v h L => v = some (.ref el1) ∧ Fr n0 L ∧ h = h0
set_option maxRecDepth 65536 in
set_option maxHeartbeats 40000000 in
theorem rm_field_3_1 (l : Launch) (Z : State) (a0 : Array Value) (hw : ∀ d ∈ tables_1, d.before a0 Z = true) (ws : List Jvm.Cond) (a1 : Addr) (a2 : Addr) (b : Addr) (kb : ClassId) (el0 : Addr) (el1 : Addr) (el2 : Addr) (h0 : Heap) (n0 : Nat) (Z0 : n0 ≤ h0.size) (F_a1_fields : Fld Z h0 a1 "com/example/tableau_abduction/tableauabduction/cli/TabSeparatedFile$Row" "fields" "Ljava/util/List;" (.ref a2)) (E_a2 : Exa Z h0 a2 "java/util/ArrayList") (F_a2_elementData : Fld Z h0 a2 "java/util/ArrayList" "elementData" "[Ljava/lang/Object;" (.ref b)) (F_a2_size : Fld Z h0 a2 "java/util/ArrayList" "size" "I" (.int (3 : Int32))) (V_b : Arv Z h0 b kb (.object "java/lang/Object") (10 : Int32) [(.ref el0), (.ref el1), (.ref el2), .null, .null, .null, .null, .null, .null, .null] .null) (E_el1 : Exa Z h0 el1 "java/lang/String") :
    MetFree l (⟨"com/example/tableau_abduction/tableauabduction/cli/TabSeparatedFile$Row", "field", "(I)Ljava/lang/String;"⟩ : MethodName) (head1 (Jvm.Cond.code (⟨"com/example/tableau_abduction/tableauabduction/cli/TabSeparatedFile$Row", "field", "(I)Ljava/lang/String;"⟩ : MethodName) prog_20_method_2_code 2 (some (.object "java/lang/String")) :: ws) ({ frames := 3, cells := 0, slots := 0, locals := 40 } : Room)) (fun a U => a = #[(.ref a1), (.int (1 : Int32))] ∧ Z.Warmed39 U.vm ∧ U.heap = h0) (fun _ _ _ _ _ => True) (fun _ U o U' => ∃ v L, o = .returned v ∧ (Q_rm_field_3_1 Z a1 a2 b kb el0 el1 el2 h0 n0) v U'.heap L ∧ FrameEnd U o U' L ({ frames := 3, cells := 0, slots := 0, locals := 40 } : Room).cells ({ frames := 3, cells := 0, slots := 0, locals := 40 } : Room).slots) := by
  refine MetFree.of_bodySF (plainFor_of_name pn_21) hisR ?_
  intro p e s m args below meth c s₁ Bd hml0 hP hK
  obtain ⟨rfl, hZ, hh⟩ := hP
  have hx := Bd.exec
  have hby := Bd.bytes
  have hml : c.maxLocals = 2 := hml0
  have hown : s.vm.findClass "com/example/tableau_abduction/tableauabduction/cli/TabSeparatedFile$Row" = some m.cls := findClass_of_methodNamed Bd.named
  have hnm := (name_of_methodNamed Bd.named Bd.method).1
  have X0 : Stand p l e ({ frames := 3, cells := 0, slots := 0, locals := 40 } : Room) s m #[(.ref a1), (.int (1 : Int32))] below meth c s₁ [] 0 0 := Stand.of_body Bd
  have e0 : s₁.heap = h0 := by rw [← hh, Bd.state]; rfl
  have N0 := Fr.nil n0
  show own_G FrameEnd p e below s ({ frames := 3, cells := 0, slots := 0, locals := 40 } : Room).cells ({ frames := 3, cells := 0, slots := 0, locals := 40 } : Room).slots (Q_rm_field_3_1 Z a1 a2 b kb el0 el1 el2 h0 n0) (s₁.setTop (entryFrame m #[(.ref a1), (.int (1 : Int32))] 2))
  refine own_go (Y' := s₁.setTop (mkF m 0 #[rv a1, iv (1 : Int32)] [])) ?_ (fun t k => castTop (ef_21 m a1 (1 : Int32)) k)
  refine own_go ?_ (fun target hr => XS.aloadN X0.here hx rfl (hb hby d21_0) rfl rfl hr)
  show own_G _ p e below s _ _ _ (s₁.setTop (mkF m 1 #[rv a1, iv (1 : Int32)] [(.ref a1)]))
  obtain ⟨T1, X1, e1, st1⟩ := getF X0 hx hZ hown (host := "") (Or.inl (hw _ (List.mem_of_getElem? (i := 117) rfl))) Via.refl e0 F_a1_fields (g := (mkF m 1 #[rv a1, iv (1 : Int32)] [(.ref a1)])) rfl rfl (hb hby d21_1)
  refine own_go ?_ (fun target hr => st1 _ (XS.iloadN X1.here hx rfl (hb hby d21_4) rfl hr))
  show own_G _ p e below s _ _ _ (T1.setTop (mkF m 5 #[rv a1, iv (1 : Int32)] [(.int (1 : Int32)), (.ref a2)]))
  obtain ⟨cq2, kq2, q2a, q2b, q2c⟩ := isOf hZ e1 E_a2
  obtain ⟨_, _, ⟨T2, L2, k2, n2⟩, -, X2, ⟨Lc2, hQ2, l2, y2, z2⟩, st2⟩ := X1.interfaceBack hx (xi := (⟨"java/util/List", "get", "(I)Ljava/lang/Object;"⟩ : MethodName)) (y := (⟨"java/util/ArrayList", "get", "(I)Ljava/lang/Object;"⟩ : MethodName)) hown (mvT hZ (hw _ (List.mem_of_getElem? (i := 124) rfl))) (mvT hZ (hw _ (List.mem_of_getElem? (i := 125) rfl))) (mvT hZ (hw _ (List.mem_of_getElem? (i := 126) rfl))) (mvT hZ (hw _ (List.mem_of_getElem? (i := 127) rfl))) (mvT hZ (hw _ (List.mem_of_getElem? (i := 128) rfl))) (mvT hZ (hw _ (List.mem_of_getElem? (i := 129) rfl))) (mvT hZ (hw _ (List.mem_of_getElem? (i := 130) rfl))) (mvT hZ (hw _ (List.mem_of_getElem? (i := 75) rfl))) (by decide) (backOf (W := 0) (rm_get_3_1 l Z a0 hw [] a2 b kb el0 el1 el2 h0 n0 Z0 E_a2 F_a2_elementData F_a2_size V_b) hZ (hw _ (List.mem_of_getElem? (i := 131) rfl)) (hw _ (List.mem_of_getElem? (i := 46) rfl)) (by decide) (by decide)) q2a q2b q2c (g := (mkF m 5 #[rv a1, iv (1 : Int32)] [(.int (1 : Int32)), (.ref a2)])) rfl (by rw [hml]; rfl) (Steps.refl _) (argsL := [(.int (1 : Int32))]) (rest := []) (lenOf pd__I_Ljava_lang_Object_ rfl) rfl (by show 2 * 0 + _ ≤ _; exact Nat.le_of_eq rfl) (hb hby d21_5) (fun _ _ => ⟨rfl, e1, (by decide : 0 + 0 ≤ _), (by decide : 0 + 0 ≤ _)⟩)
  dsimp only [Pt.U, Pt.locs, Pt.cells, Pt.slots] at X2 l2 y2 z2 st2 hQ2
  subst l2 y2 z2
  obtain ⟨rfl, N2q, e2⟩ := hQ2
  have N2 := Fr.app N0 N2q
  refine own_go ?_ (fun target hr => st2.trans hr)
  show own_G _ p e below s _ _ _ (T2.setTop (mkF m 10 #[rv a1, iv (1 : Int32)] [(.ref el1)]))
  obtain ⟨T3, X3, e3, st3⟩ := castY X2 hx hZ hown (hw _ (List.mem_of_getElem? (i := 145) rfl)) e2 (Ins.self E_el1) (g := (mkF m 10 #[rv a1, iv (1 : Int32)] [(.ref el1)])) rfl rfl (hb hby d21_10)
  refine own_go ?_ (fun target hr => st3 _ hr)
  show own_G _ p e below s _ _ _ (T3.setTop (mkF m 13 #[rv a1, iv (1 : Int32)] [(.ref el1)]))
  obtain ⟨fs, hr, hrun, hended, hW, hsame⟩ := X3.leave (v := some (.ref el1)) (fun h => by rw [Bd.returns] at h; cases h)
  exact ⟨_, _, retOut X3 hx Bd.returns rfl (Or.inr (Or.inr (Or.inr (Or.inr ⟨rfl, rfl, rfl⟩)))) (hb hby d21_13) hr, hrun, hended, _, _, rfl, ⟨rfl, N2, e3⟩, ⟨_, rfl⟩, hW, hsame.mono (by decide) (by decide)⟩
def Q_rm_pchk_3_2 (Z : State)  (h0 : Heap) (n0 : Nat) : Option Value → Heap → List Loc → Prop := fun v h L => v = some (.int (2 : Int32)) ∧ Fr n0 L ∧ h = h0
set_option maxRecDepth 65536 in
set_option maxHeartbeats 40000000 in
theorem rm_pchk_3_2 (l : Launch) (Z : State) (a0 : Array Value) (hw : ∀ d ∈ tables_1, d.before a0 Z = true) (ws : List Jvm.Cond)  (h0 : Heap) (n0 : Nat) (Z0 : n0 ≤ h0.size) :
    MetFree l (⟨"jdk/internal/util/Preconditions", "checkIndex", "(IILjava/util/function/BiFunction;)I"⟩ : MethodName) (head1 (Jvm.Cond.code (⟨"jdk/internal/util/Preconditions", "checkIndex", "(IILjava/util/function/BiFunction;)I"⟩ : MethodName) jdk_41_method_11_code 3 (some .int) :: ws) ({ frames := 0, cells := 0, slots := 0, locals := 0 } : Room)) (fun a U => a = #[(.int (2 : Int32)), (.int (3 : Int32)), .null] ∧ Z.Warmed39 U.vm ∧ U.heap = h0) (fun _ _ _ _ _ => True) (fun _ U o U' => ∃ v L, o = .returned v ∧ (Q_rm_pchk_3_2 Z  h0 n0) v U'.heap L ∧ FrameEnd U o U' L ({ frames := 0, cells := 0, slots := 0, locals := 0 } : Room).cells ({ frames := 0, cells := 0, slots := 0, locals := 0 } : Room).slots) := by
  refine MetFree.of_bodySF (plainFor_of_name pn_24) hisR ?_
  intro p e s m args below meth c s₁ Bd hml0 hP hK
  obtain ⟨rfl, hZ, hh⟩ := hP
  have hx := Bd.exec
  have hby := Bd.bytes
  have hml : c.maxLocals = 3 := hml0
  have hown : s.vm.findClass "jdk/internal/util/Preconditions" = some m.cls := findClass_of_methodNamed Bd.named
  have hnm := (name_of_methodNamed Bd.named Bd.method).1
  have X0 : Stand p l e ({ frames := 0, cells := 0, slots := 0, locals := 0 } : Room) s m #[(.int (2 : Int32)), (.int (3 : Int32)), .null] below meth c s₁ [] 0 0 := Stand.of_body Bd
  have e0 : s₁.heap = h0 := by rw [← hh, Bd.state]; rfl
  have N0 := Fr.nil n0
  show own_G FrameEnd p e below s ({ frames := 0, cells := 0, slots := 0, locals := 0 } : Room).cells ({ frames := 0, cells := 0, slots := 0, locals := 0 } : Room).slots (Q_rm_pchk_3_2 Z  h0 n0) (s₁.setTop (entryFrame m #[(.int (2 : Int32)), (.int (3 : Int32)), .null] 3))
  refine own_go (Y' := s₁.setTop (mkF m 0 #[iv (2 : Int32), iv (3 : Int32), .val .null] [])) ?_ (fun t k => castTop (ef_24 m (2 : Int32) (3 : Int32)) k)
  refine own_go ?_ (fun target hr => XS.iloadN X0.here hx rfl (hb hby d24_0) rfl (XS.ifNo X0.here hx rfl (hb hby d24_1) rfl ((if0 _ _).trans (flt (by decide : ¬ ((2 : Int32) < (0 : Int32)))).1) (XS.iloadN X0.here hx rfl (hb hby d24_4) rfl (XS.iloadN X0.here hx rfl (hb hby d24_5) rfl (XS.icmpYes X0.here hx rfl (pc0 := 6) (pc' := 16) rfl (hb hby d24_6) rfl (tlt (by decide : (2 : Int32) < (3 : Int32))).1 (by decide) (by decide) (XS.iloadN X0.here hx rfl (hb hby d24_16) rfl hr))))))
  show own_G _ p e below s _ _ _ (s₁.setTop (mkF m 17 #[iv (2 : Int32), iv (3 : Int32), .val .null] [(.int (2 : Int32))]))
  obtain ⟨fs, hr, hrun, hended, hW, hsame⟩ := X0.leave (v := some (.int (2 : Int32))) (fun h => by rw [Bd.returns] at h; cases h)
  exact ⟨_, _, retI X0 hx Bd.returns (hb hby d24_17) hr, hrun, hended, _, _, rfl, ⟨rfl, N0, e0⟩, ⟨_, rfl⟩, hW, hsame.mono (by decide) (by decide)⟩
def Q_rm_ochk_3_2 (Z : State)  (h0 : Heap) (n0 : Nat) : Option Value → Heap → List Loc → Prop := fun v h L => v = some (.int (2 : Int32)) ∧ Fr n0 L ∧ h = h0
set_option maxRecDepth 65536 in
set_option maxHeartbeats 40000000 in
theorem rm_ochk_3_2 (l : Launch) (Z : State) (a0 : Array Value) (hw : ∀ d ∈ tables_1, d.before a0 Z = true) (ws : List Jvm.Cond)  (h0 : Heap) (n0 : Nat) (Z0 : n0 ≤ h0.size) :
    MetFree l (⟨"java/util/Objects", "checkIndex", "(II)I"⟩ : MethodName) (head1 (Jvm.Cond.code (⟨"java/util/Objects", "checkIndex", "(II)I"⟩ : MethodName) jdk_31_method_17_code 2 (some .int) :: ws) ({ frames := 1, cells := 0, slots := 0, locals := 14 } : Room)) (fun a U => a = #[(.int (2 : Int32)), (.int (3 : Int32))] ∧ Z.Warmed39 U.vm ∧ U.heap = h0) (fun _ _ _ _ _ => True) (fun _ U o U' => ∃ v L, o = .returned v ∧ (Q_rm_ochk_3_2 Z  h0 n0) v U'.heap L ∧ FrameEnd U o U' L ({ frames := 1, cells := 0, slots := 0, locals := 14 } : Room).cells ({ frames := 1, cells := 0, slots := 0, locals := 14 } : Room).slots) := by
  refine MetFree.of_bodySF (plainFor_of_name pn_23) hisR ?_
  intro p e s m args below meth c s₁ Bd hml0 hP hK
  obtain ⟨rfl, hZ, hh⟩ := hP
  have hx := Bd.exec
  have hby := Bd.bytes
  have hml : c.maxLocals = 2 := hml0
  have hown : s.vm.findClass "java/util/Objects" = some m.cls := findClass_of_methodNamed Bd.named
  have hnm := (name_of_methodNamed Bd.named Bd.method).1
  have X0 : Stand p l e ({ frames := 1, cells := 0, slots := 0, locals := 14 } : Room) s m #[(.int (2 : Int32)), (.int (3 : Int32))] below meth c s₁ [] 0 0 := Stand.of_body Bd
  have e0 : s₁.heap = h0 := by rw [← hh, Bd.state]; rfl
  have N0 := Fr.nil n0
  show own_G FrameEnd p e below s ({ frames := 1, cells := 0, slots := 0, locals := 14 } : Room).cells ({ frames := 1, cells := 0, slots := 0, locals := 14 } : Room).slots (Q_rm_ochk_3_2 Z  h0 n0) (s₁.setTop (entryFrame m #[(.int (2 : Int32)), (.int (3 : Int32))] 2))
  refine own_go (Y' := s₁.setTop (mkF m 0 #[iv (2 : Int32), iv (3 : Int32)] [])) ?_ (fun t k => castTop (ef_23 m (2 : Int32) (3 : Int32)) k)
  refine own_go ?_ (fun target hr => XS.iloadN X0.here hx rfl (hb hby d23_0) rfl (XS.iloadN X0.here hx rfl (hb hby d23_1) rfl (XS.aconstNull X0.here hx rfl (hb hby d23_2) hr)))
  show own_G _ p e below s _ _ _ (s₁.setTop (mkF m 3 #[iv (2 : Int32), iv (3 : Int32)] [.null, (.int (3 : Int32)), (.int (2 : Int32))]))
  obtain ⟨_, _, ⟨T1, L1, k1, n1⟩, -, X1, ⟨Lc1, hQ1, l1, y1, z1⟩, st1⟩ := Jvm.LawKit.callS X0 hx (y := (⟨"jdk/internal/util/Preconditions", "checkIndex", "(IILjava/util/function/BiFunction;)I"⟩ : MethodName)) hown (mvT hZ (hw _ (List.mem_of_getElem? (i := 136) rfl))) (mvT hZ (hw _ (List.mem_of_getElem? (i := 137) rfl))) (mvT hZ (hw _ (List.mem_of_getElem? (i := 138) rfl))) (mvT hZ (hw _ (List.mem_of_getElem? (i := 139) rfl))) (by decide) (backOf (W := 0) (rm_pchk_3_2 l Z a0 hw []  h0 n0 Z0 ) hZ (hw _ (List.mem_of_getElem? (i := 139) rfl)) (hw _ (List.mem_of_getElem? (i := 138) rfl)) (by decide) (by decide)) (g := (mkF m 3 #[iv (2 : Int32), iv (3 : Int32)] [.null, (.int (3 : Int32)), (.int (2 : Int32))])) rfl (by rw [hml]; rfl) (argsL := [(.int (2 : Int32)), (.int (3 : Int32)), .null]) (rest := []) (lenOf pd__IILjava_util_function_BiFunction__I rfl) rfl (by show 2 * 0 + _ ≤ _; exact Nat.le_of_eq rfl) (hb hby d23_3) (fun _ _ => ⟨rfl, e0, (by decide : 0 + 0 ≤ _), (by decide : 0 + 0 ≤ _)⟩)
  dsimp only [Pt.U, Pt.locs, Pt.cells, Pt.slots] at X1 l1 y1 z1 st1 hQ1
  subst l1 y1 z1
  obtain ⟨rfl, N1q, e1⟩ := hQ1
  have N1 := Fr.app N0 N1q
  refine own_go ?_ (fun target hr => st1 _ hr)
  show own_G _ p e below s _ _ _ (T1.setTop (mkF m 6 #[iv (2 : Int32), iv (3 : Int32)] [(.int (2 : Int32))]))
  obtain ⟨fs, hr, hrun, hended, hW, hsame⟩ := X1.leave (v := some (.int (2 : Int32))) (fun h => by rw [Bd.returns] at h; cases h)
  exact ⟨_, _, retI X1 hx Bd.returns (hb hby d23_6) hr, hrun, hended, _, _, rfl, ⟨rfl, N1, e1⟩, ⟨_, rfl⟩, hW, hsame.mono (by decide) (by decide)⟩
def Q_rm_ed_3_2 (Z : State) (a1 : Addr) (b : Addr) (kb : ClassId) (el0 : Addr) (el1 : Addr) (el2 : Addr) (h0 : Heap) (n0 : Nat) : Option Value → Heap → List Loc → Prop := fun v h L => v = some (.ref el2) ∧ Fr n0 L ∧ h = h0
set_option maxRecDepth 65536 in
set_option maxHeartbeats 40000000 in
theorem rm_ed_3_2 (l : Launch) (Z : State) (a0 : Array Value) (hw : ∀ d ∈ tables_1, d.before a0 Z = true) (ws : List Jvm.Cond) (a1 : Addr) (b : Addr) (kb : ClassId) (el0 : Addr) (el1 : Addr) (el2 : Addr) (h0 : Heap) (n0 : Nat) (Z0 : n0 ≤ h0.size) (E_a1 : Exa Z h0 a1 "java/util/ArrayList") (F_a1_elementData : Fld Z h0 a1 "java/util/ArrayList" "elementData" "[Ljava/lang/Object;" (.ref b)) (F_a1_size : Fld Z h0 a1 "java/util/ArrayList" "size" "I" (.int (3 : Int32))) (V_b : Arv Z h0 b kb (.object "java/lang/Object") (10 : Int32) [(.ref el0), (.ref el1), (.ref el2), .null, .null, .null, .null, .null, .null, .null] .null) :
    MetFree l (⟨"java/util/ArrayList", "elementData", "(I)Ljava/lang/Object;"⟩ : MethodName) (head1 (Jvm.Cond.code (⟨"java/util/ArrayList", "elementData", "(I)Ljava/lang/Object;"⟩ : MethodName) jdk_38_method_18_code 2 (some (.object "java/lang/Object")) :: ws) ({ frames := 0, cells := 0, slots := 0, locals := 0 } : Room)) (fun a U => a = #[(.ref a1), (.int (2 : Int32))] ∧ Z.Warmed39 U.vm ∧ U.heap = h0) (fun _ _ _ _ _ => True) (fun _ U o U' => ∃ v L, o = .returned v ∧ (Q_rm_ed_3_2 Z a1 b kb el0 el1 el2 h0 n0) v U'.heap L ∧ FrameEnd U o U' L ({ frames := 0, cells := 0, slots := 0, locals := 0 } : Room).cells ({ frames := 0, cells := 0, slots := 0, locals := 0 } : Room).slots) := by
  refine MetFree.of_bodySF (plainFor_of_name pn_25) hisR ?_
  intro p e s m args below meth c s₁ Bd hml0 hP hK
  obtain ⟨rfl, hZ, hh⟩ := hP
  have hx := Bd.exec
  have hby := Bd.bytes
  have hml : c.maxLocals = 2 := hml0
  have hown : s.vm.findClass "java/util/ArrayList" = some m.cls := findClass_of_methodNamed Bd.named
  have hnm := (name_of_methodNamed Bd.named Bd.method).1
  have X0 : Stand p l e ({ frames := 0, cells := 0, slots := 0, locals := 0 } : Room) s m #[(.ref a1), (.int (2 : Int32))] below meth c s₁ [] 0 0 := Stand.of_body Bd
  have e0 : s₁.heap = h0 := by rw [← hh, Bd.state]; rfl
  have N0 := Fr.nil n0
  show own_G FrameEnd p e below s ({ frames := 0, cells := 0, slots := 0, locals := 0 } : Room).cells ({ frames := 0, cells := 0, slots := 0, locals := 0 } : Room).slots (Q_rm_ed_3_2 Z a1 b kb el0 el1 el2 h0 n0) (s₁.setTop (entryFrame m #[(.ref a1), (.int (2 : Int32))] 2))
  refine own_go (Y' := s₁.setTop (mkF m 0 #[rv a1, iv (2 : Int32)] [])) ?_ (fun t k => castTop (ef_25 m a1 (2 : Int32)) k)
  refine own_go ?_ (fun target hr => XS.aloadN X0.here hx rfl (hb hby d25_0) rfl rfl hr)
  show own_G _ p e below s _ _ _ (s₁.setTop (mkF m 1 #[rv a1, iv (2 : Int32)] [(.ref a1)]))
  obtain ⟨T1, X1, e1, st1⟩ := getF X0 hx hZ hown (host := "") (Or.inl (hw _ (List.mem_of_getElem? (i := 66) rfl))) Via.refl e0 F_a1_elementData (g := (mkF m 1 #[rv a1, iv (2 : Int32)] [(.ref a1)])) rfl rfl (hb hby d25_1)
  refine own_go ?_ (fun target hr => st1 _ (XS.iloadN X1.here hx rfl (hb hby d25_4) rfl hr))
  show own_G _ p e below s _ _ _ (T1.setTop (mkF m 5 #[rv a1, iv (2 : Int32)] [(.int (2 : Int32)), (.ref b)]))
  obtain ⟨cl2, Ar2, qk2, S2, M2, H2, G2⟩ := id V_b
  have hin2 : ¬ ((2 : Int32) < 0 ∨ cl2.slots.size ≤ ((2 : Int32)).toNatClampNeg) := inb_of S2 ⟨by decide, by decide⟩
  refine own_go ?_ (fun target hr => X1.aaload hx (j := (2 : Int32)) (v := (.ref el2)) (by rw [e1]; exact Ar2.1) (State.isArrayOf_alike hZ.alike Ar2.2.1) rfl Ar2.2.2 hin2 (Has.at H2 hin2 rfl) (g := (mkF m 5 #[rv a1, iv (2 : Int32)] [(.int (2 : Int32)), (.ref b)])) rfl rfl (hb hby d25_5) _ hr)
  show own_G _ p e below s _ _ _ (T1.setTop (mkF m 6 #[rv a1, iv (2 : Int32)] [(.ref el2)]))
  obtain ⟨fs, hr, hrun, hended, hW, hsame⟩ := X1.leave (v := some (.ref el2)) (fun h => by rw [Bd.returns] at h; cases h)
  exact ⟨_, _, retOut X1 hx Bd.returns rfl (Or.inr (Or.inr (Or.inr (Or.inr ⟨rfl, rfl, rfl⟩)))) (hb hby d25_6) hr, hrun, hended, _, _, rfl, ⟨rfl, N0, e1⟩, ⟨_, rfl⟩, hW, hsame.mono (by decide) (by decide)⟩
def Q_rm_get_3_2 (Z : State) (a1 : Addr) (b : Addr) (kb : ClassId) (el0 : Addr) (el1 : Addr) (el2 : Addr) (h0 : Heap) (n0 : Nat) : Option Value → Heap → List Loc → Prop := fun v h L => v = some (.ref el2) ∧ Fr n0 L ∧ h = h0
set_option maxRecDepth 65536 in
set_option maxHeartbeats 40000000 in
theorem rm_get_3_2 (l : Launch) (Z : State) (a0 : Array Value) (hw : ∀ d ∈ tables_1, d.before a0 Z = true) (ws : List Jvm.Cond) (a1 : Addr) (b : Addr) (kb : ClassId) (el0 : Addr) (el1 : Addr) (el2 : Addr) (h0 : Heap) (n0 : Nat) (Z0 : n0 ≤ h0.size) (E_a1 : Exa Z h0 a1 "java/util/ArrayList") (F_a1_elementData : Fld Z h0 a1 "java/util/ArrayList" "elementData" "[Ljava/lang/Object;" (.ref b)) (F_a1_size : Fld Z h0 a1 "java/util/ArrayList" "size" "I" (.int (3 : Int32))) (V_b : Arv Z h0 b kb (.object "java/lang/Object") (10 : Int32) [(.ref el0), (.ref el1), (.ref el2), .null, .null, .null, .null, .null, .null, .null] .null) :
    MetFree l (⟨"java/util/ArrayList", "get", "(I)Ljava/lang/Object;"⟩ : MethodName) (head1 (Jvm.Cond.code (⟨"java/util/ArrayList", "get", "(I)Ljava/lang/Object;"⟩ : MethodName) jdk_38_method_20_code 2 (some (.object "java/lang/Object")) :: ws) ({ frames := 2, cells := 0, slots := 0, locals := 27 } : Room)) (fun a U => a = #[(.ref a1), (.int (2 : Int32))] ∧ Z.Warmed39 U.vm ∧ U.heap = h0) (fun _ _ _ _ _ => True) (fun _ U o U' => ∃ v L, o = .returned v ∧ (Q_rm_get_3_2 Z a1 b kb el0 el1 el2 h0 n0) v U'.heap L ∧ FrameEnd U o U' L ({ frames := 2, cells := 0, slots := 0, locals := 27 } : Room).cells ({ frames := 2, cells := 0, slots := 0, locals := 27 } : Room).slots) := by
  refine MetFree.of_bodySF (plainFor_of_name pn_22) hisR ?_
  intro p e s m args below meth c s₁ Bd hml0 hP hK
  obtain ⟨rfl, hZ, hh⟩ := hP
  have hx := Bd.exec
  have hby := Bd.bytes
  have hml : c.maxLocals = 2 := hml0
  have hown : s.vm.findClass "java/util/ArrayList" = some m.cls := findClass_of_methodNamed Bd.named
  have hnm := (name_of_methodNamed Bd.named Bd.method).1
  have X0 : Stand p l e ({ frames := 2, cells := 0, slots := 0, locals := 27 } : Room) s m #[(.ref a1), (.int (2 : Int32))] below meth c s₁ [] 0 0 := Stand.of_body Bd
  have e0 : s₁.heap = h0 := by rw [← hh, Bd.state]; rfl
  have N0 := Fr.nil n0
  show own_G FrameEnd p e below s ({ frames := 2, cells := 0, slots := 0, locals := 27 } : Room).cells ({ frames := 2, cells := 0, slots := 0, locals := 27 } : Room).slots (Q_rm_get_3_2 Z a1 b kb el0 el1 el2 h0 n0) (s₁.setTop (entryFrame m #[(.ref a1), (.int (2 : Int32))] 2))
  refine own_go (Y' := s₁.setTop (mkF m 0 #[rv a1, iv (2 : Int32)] [])) ?_ (fun t k => castTop (ef_22 m a1 (2 : Int32)) k)
  refine own_go ?_ (fun target hr => XS.iloadN X0.here hx rfl (hb hby d22_0) rfl (XS.aloadN X0.here hx rfl (hb hby d22_1) rfl rfl hr))
  show own_G _ p e below s _ _ _ (s₁.setTop (mkF m 2 #[rv a1, iv (2 : Int32)] [(.ref a1), (.int (2 : Int32))]))
  obtain ⟨T1, X1, e1, st1⟩ := getF X0 hx hZ hown (host := "") (Or.inl (hw _ (List.mem_of_getElem? (i := 79) rfl))) Via.refl e0 F_a1_size (g := (mkF m 2 #[rv a1, iv (2 : Int32)] [(.ref a1), (.int (2 : Int32))])) rfl rfl (hb hby d22_2)
  refine own_go ?_ (fun target hr => st1 _ hr)
  show own_G _ p e below s _ _ _ (T1.setTop (mkF m 5 #[rv a1, iv (2 : Int32)] [(.int (3 : Int32)), (.int (2 : Int32))]))
  obtain ⟨_, _, ⟨T2, L2, k2, n2⟩, -, X2, ⟨Lc2, hQ2, l2, y2, z2⟩, st2⟩ := Jvm.LawKit.callS X1 hx (y := (⟨"java/util/Objects", "checkIndex", "(II)I"⟩ : MethodName)) hown (mvT hZ (hw _ (List.mem_of_getElem? (i := 132) rfl))) (mvT hZ (hw _ (List.mem_of_getElem? (i := 133) rfl))) (mvT hZ (hw _ (List.mem_of_getElem? (i := 134) rfl))) (mvT hZ (hw _ (List.mem_of_getElem? (i := 135) rfl))) (by decide) (backOf (W := 0) (rm_ochk_3_2 l Z a0 hw []  h0 n0 Z0 ) hZ (hw _ (List.mem_of_getElem? (i := 135) rfl)) (hw _ (List.mem_of_getElem? (i := 134) rfl)) (by decide) (by decide)) (g := (mkF m 5 #[rv a1, iv (2 : Int32)] [(.int (3 : Int32)), (.int (2 : Int32))])) rfl (by rw [hml]; rfl) (argsL := [(.int (2 : Int32)), (.int (3 : Int32))]) (rest := []) (lenOf pd__II_I rfl) rfl (by show 2 * 0 + _ ≤ _; exact Nat.le_of_eq rfl) (hb hby d22_5) (fun _ _ => ⟨rfl, e1, (by decide : 0 + 0 ≤ _), (by decide : 0 + 0 ≤ _)⟩)
  dsimp only [Pt.U, Pt.locs, Pt.cells, Pt.slots] at X2 l2 y2 z2 st2 hQ2
  subst l2 y2 z2
  obtain ⟨rfl, N2q, e2⟩ := hQ2
  have N2 := Fr.app N0 N2q
  refine own_go ?_ (fun target hr => st2 _ (XS.pop X2.here hx rfl (hb hby d22_8) rfl rfl (XS.aloadN X2.here hx rfl (hb hby d22_9) rfl rfl (XS.iloadN X2.here hx rfl (hb hby d22_10) rfl hr))))
  show own_G _ p e below s _ _ _ (T2.setTop (mkF m 11 #[rv a1, iv (2 : Int32)] [(.int (2 : Int32)), (.ref a1)]))
  obtain ⟨cq3, kq3, q3a, q3b, q3c⟩ := isOf hZ e2 E_a1
  obtain ⟨_, _, ⟨T3, L3, k3, n3⟩, -, X3, ⟨Lc3, hQ3, l3, y3, z3⟩, st3⟩ := X2.virtualBack hx (y := (⟨"java/util/ArrayList", "elementData", "(I)Ljava/lang/Object;"⟩ : MethodName)) (z := (⟨"java/util/ArrayList", "elementData", "(I)Ljava/lang/Object;"⟩ : MethodName)) hown (mvT hZ (hw _ (List.mem_of_getElem? (i := 140) rfl))) (mvT hZ (hw _ (List.mem_of_getElem? (i := 141) rfl))) (notFace_of_selects (args := #[]) (mvT hZ (hw _ (List.mem_of_getElem? (i := 143) rfl)))) (mvT hZ (hw _ (List.mem_of_getElem? (i := 143) rfl))) (mvT hZ (hw _ (List.mem_of_getElem? (i := 142) rfl))) (by decide) (backOf (W := 0) (rm_ed_3_2 l Z a0 hw [] a1 b kb el0 el1 el2 h0 n0 Z0 E_a1 F_a1_elementData F_a1_size V_b) hZ (hw _ (List.mem_of_getElem? (i := 144) rfl)) (hw _ (List.mem_of_getElem? (i := 46) rfl)) (by decide) (by decide)) q3a q3c (g := (mkF m 11 #[rv a1, iv (2 : Int32)] [(.int (2 : Int32)), (.ref a1)])) rfl (by rw [hml]; rfl) (Steps.refl _) (argsL := [(.int (2 : Int32))]) (rest := []) (lenOf pd__I_Ljava_lang_Object_ rfl) rfl (by show 2 * 0 + _ ≤ _; exact Nat.le_of_eq rfl) (hb hby d22_11) (fun _ _ => ⟨rfl, e2, (by decide : 0 + 0 ≤ _), (by decide : 0 + 0 ≤ _)⟩)
  dsimp only [Pt.U, Pt.locs, Pt.cells, Pt.slots] at X3 l3 y3 z3 st3 hQ3
  subst l3 y3 z3
  obtain ⟨rfl, N3q, e3⟩ := hQ3
  have N3 := Fr.app N2 N3q
  refine own_go ?_ (fun target hr => st3.trans hr)
  show own_G _ p e below s _ _ _ (T3.setTop (mkF m 14 #[rv a1, iv (2 : Int32)] [(.ref el2)]))
  obtain ⟨fs, hr, hrun, hended, hW, hsame⟩ := X3.leave (v := some (.ref el2)) (fun h => by rw [Bd.returns] at h; cases h)
  exact ⟨_, _, retOut X3 hx Bd.returns rfl (Or.inr (Or.inr (Or.inr (Or.inr ⟨rfl, rfl, rfl⟩)))) (hb hby d22_14) hr, hrun, hended, _, _, rfl, ⟨rfl, N3, e3⟩, ⟨_, rfl⟩, hW, hsame.mono (by decide) (by decide)⟩
def Q_rm_field_3_2 (Z : State) (a1 : Addr) (a2 : Addr) (b : Addr) (kb : ClassId) (el0 : Addr) (el1 : Addr) (el2 : Addr) (h0 : Heap) (n0 : Nat) : Option Value → Heap → List Loc → Prop := fun v h L => v = some (.ref el2) ∧ Fr n0 L ∧ h = h0
set_option maxRecDepth 65536 in
set_option maxHeartbeats 40000000 in
theorem rm_field_3_2 (l : Launch) (Z : State) (a0 : Array Value) (hw : ∀ d ∈ tables_1, d.before a0 Z = true) (ws : List Jvm.Cond) (a1 : Addr) (a2 : Addr) (b : Addr) (kb : ClassId) (el0 : Addr) (el1 : Addr) (el2 : Addr) (h0 : Heap) (n0 : Nat) (Z0 : n0 ≤ h0.size) (F_a1_fields : Fld Z h0 a1 "com/example/tableau_abduction/tableauabduction/cli/TabSeparatedFile$Row" "fields" "Ljava/util/List;" (.ref a2)) (E_a2 : Exa Z h0 a2 "java/util/ArrayList") (F_a2_elementData : Fld Z h0 a2 "java/util/ArrayList" "elementData" "[Ljava/lang/Object;" (.ref b)) (F_a2_size : Fld Z h0 a2 "java/util/ArrayList" "size" "I" (.int (3 : Int32))) (V_b : Arv Z h0 b kb (.object "java/lang/Object") (10 : Int32) [(.ref el0), (.ref el1), (.ref el2), .null, .null, .null, .null, .null, .null, .null] .null) (E_el2 : Exa Z h0 el2 "java/lang/String") :
    MetFree l (⟨"com/example/tableau_abduction/tableauabduction/cli/TabSeparatedFile$Row", "field", "(I)Ljava/lang/String;"⟩ : MethodName) (head1 (Jvm.Cond.code (⟨"com/example/tableau_abduction/tableauabduction/cli/TabSeparatedFile$Row", "field", "(I)Ljava/lang/String;"⟩ : MethodName) prog_20_method_2_code 2 (some (.object "java/lang/String")) :: ws) ({ frames := 3, cells := 0, slots := 0, locals := 40 } : Room)) (fun a U => a = #[(.ref a1), (.int (2 : Int32))] ∧ Z.Warmed39 U.vm ∧ U.heap = h0) (fun _ _ _ _ _ => True) (fun _ U o U' => ∃ v L, o = .returned v ∧ (Q_rm_field_3_2 Z a1 a2 b kb el0 el1 el2 h0 n0) v U'.heap L ∧ FrameEnd U o U' L ({ frames := 3, cells := 0, slots := 0, locals := 40 } : Room).cells ({ frames := 3, cells := 0, slots := 0, locals := 40 } : Room).slots) := by
  refine MetFree.of_bodySF (plainFor_of_name pn_21) hisR ?_
  intro p e s m args below meth c s₁ Bd hml0 hP hK
  obtain ⟨rfl, hZ, hh⟩ := hP
  have hx := Bd.exec
  have hby := Bd.bytes
  have hml : c.maxLocals = 2 := hml0
  have hown : s.vm.findClass "com/example/tableau_abduction/tableauabduction/cli/TabSeparatedFile$Row" = some m.cls := findClass_of_methodNamed Bd.named
  have hnm := (name_of_methodNamed Bd.named Bd.method).1
  have X0 : Stand p l e ({ frames := 3, cells := 0, slots := 0, locals := 40 } : Room) s m #[(.ref a1), (.int (2 : Int32))] below meth c s₁ [] 0 0 := Stand.of_body Bd
  have e0 : s₁.heap = h0 := by rw [← hh, Bd.state]; rfl
  have N0 := Fr.nil n0
  show own_G FrameEnd p e below s ({ frames := 3, cells := 0, slots := 0, locals := 40 } : Room).cells ({ frames := 3, cells := 0, slots := 0, locals := 40 } : Room).slots (Q_rm_field_3_2 Z a1 a2 b kb el0 el1 el2 h0 n0) (s₁.setTop (entryFrame m #[(.ref a1), (.int (2 : Int32))] 2))
  refine own_go (Y' := s₁.setTop (mkF m 0 #[rv a1, iv (2 : Int32)] [])) ?_ (fun t k => castTop (ef_21 m a1 (2 : Int32)) k)
  refine own_go ?_ (fun target hr => XS.aloadN X0.here hx rfl (hb hby d21_0) rfl rfl hr)
  show own_G _ p e below s _ _ _ (s₁.setTop (mkF m 1 #[rv a1, iv (2 : Int32)] [(.ref a1)]))
  obtain ⟨T1, X1, e1, st1⟩ := getF X0 hx hZ hown (host := "") (Or.inl (hw _ (List.mem_of_getElem? (i := 117) rfl))) Via.refl e0 F_a1_fields (g := (mkF m 1 #[rv a1, iv (2 : Int32)] [(.ref a1)])) rfl rfl (hb hby d21_1)
  refine own_go ?_ (fun target hr => st1 _ (XS.iloadN X1.here hx rfl (hb hby d21_4) rfl hr))
  show own_G _ p e below s _ _ _ (T1.setTop (mkF m 5 #[rv a1, iv (2 : Int32)] [(.int (2 : Int32)), (.ref a2)]))
  obtain ⟨cq2, kq2, q2a, q2b, q2c⟩ := isOf hZ e1 E_a2
  obtain ⟨_, _, ⟨T2, L2, k2, n2⟩, -, X2, ⟨Lc2, hQ2, l2, y2, z2⟩, st2⟩ := X1.interfaceBack hx (xi := (⟨"java/util/List", "get", "(I)Ljava/lang/Object;"⟩ : MethodName)) (y := (⟨"java/util/ArrayList", "get", "(I)Ljava/lang/Object;"⟩ : MethodName)) hown (mvT hZ (hw _ (List.mem_of_getElem? (i := 124) rfl))) (mvT hZ (hw _ (List.mem_of_getElem? (i := 125) rfl))) (mvT hZ (hw _ (List.mem_of_getElem? (i := 126) rfl))) (mvT hZ (hw _ (List.mem_of_getElem? (i := 127) rfl))) (mvT hZ (hw _ (List.mem_of_getElem? (i := 128) rfl))) (mvT hZ (hw _ (List.mem_of_getElem? (i := 129) rfl))) (mvT hZ (hw _ (List.mem_of_getElem? (i := 130) rfl))) (mvT hZ (hw _ (List.mem_of_getElem? (i := 75) rfl))) (by decide) (backOf (W := 0) (rm_get_3_2 l Z a0 hw [] a2 b kb el0 el1 el2 h0 n0 Z0 E_a2 F_a2_elementData F_a2_size V_b) hZ (hw _ (List.mem_of_getElem? (i := 131) rfl)) (hw _ (List.mem_of_getElem? (i := 46) rfl)) (by decide) (by decide)) q2a q2b q2c (g := (mkF m 5 #[rv a1, iv (2 : Int32)] [(.int (2 : Int32)), (.ref a2)])) rfl (by rw [hml]; rfl) (Steps.refl _) (argsL := [(.int (2 : Int32))]) (rest := []) (lenOf pd__I_Ljava_lang_Object_ rfl) rfl (by show 2 * 0 + _ ≤ _; exact Nat.le_of_eq rfl) (hb hby d21_5) (fun _ _ => ⟨rfl, e1, (by decide : 0 + 0 ≤ _), (by decide : 0 + 0 ≤ _)⟩)
  dsimp only [Pt.U, Pt.locs, Pt.cells, Pt.slots] at X2 l2 y2 z2 st2 hQ2
  subst l2 y2 z2
  obtain ⟨rfl, N2q, e2⟩ := hQ2
  have N2 := Fr.app N0 N2q
  refine own_go ?_ (fun target hr => st2.trans hr)
  show own_G _ p e below s _ _ _ (T2.setTop (mkF m 10 #[rv a1, iv (2 : Int32)] [(.ref el2)]))
  obtain ⟨T3, X3, e3, st3⟩ := castY X2 hx hZ hown (hw _ (List.mem_of_getElem? (i := 145) rfl)) e2 (Ins.self E_el2) (g := (mkF m 10 #[rv a1, iv (2 : Int32)] [(.ref el2)])) rfl rfl (hb hby d21_10)
  refine own_go ?_ (fun target hr => st3 _ hr)
  show own_G _ p e below s _ _ _ (T3.setTop (mkF m 13 #[rv a1, iv (2 : Int32)] [(.ref el2)]))
  obtain ⟨fs, hr, hrun, hended, hW, hsame⟩ := X3.leave (v := some (.ref el2)) (fun h => by rw [Bd.returns] at h; cases h)
  exact ⟨_, _, retOut X3 hx Bd.returns rfl (Or.inr (Or.inr (Or.inr (Or.inr ⟨rfl, rfl, rfl⟩)))) (hb hby d21_13) hr, hrun, hended, _, _, rfl, ⟨rfl, N2, e3⟩, ⟨_, rfl⟩, hW, hsame.mono (by decide) (by decide)⟩
theorem pn_0 : plainName "com/example/tableau_abduction/tableauabduction/cli/RowFieldPinLaw" = true := by first | (simp [plainName, overriddenIn]; done) | decide +kernel
theorem pd__C_Ljava_lang_String_ : parseMethodDescriptor "(C)Ljava/lang/String;" = some ⟨[.char], some (.object "java/lang/String")⟩ := by decide +kernel
theorem pd___C_V : parseMethodDescriptor "([C)V" = some ⟨[(.array .char)], none⟩ := by decide +kernel
theorem pd__Ljava_lang_Object__Z : parseMethodDescriptor "(Ljava/lang/Object;)Z" = some ⟨[(.object "java/lang/Object")], some .boolean⟩ := by decide +kernel
theorem pd__ILjava_util_List__V : parseMethodDescriptor "(ILjava/util/List;)V" = some ⟨[.int, (.object "java/util/List")], none⟩ := by decide +kernel
theorem pd__I_Ljava_lang_String_ : parseMethodDescriptor "(I)Ljava/lang/String;" = some ⟨[.int], some (.object "java/lang/String")⟩ := by decide +kernel
theorem pd___I : parseMethodDescriptor "()I" = some ⟨[], some .int⟩ := by decide +kernel
theorem ef_0 (m : MethodId) (x0 : Int32) (x1 : Int32) (x2 : Int32) (x3 : Int32) (x4 : Int32) : entryFrame m #[(.int x0), (.int x1), (.int x2), (.int x3), (.int x4)] maxLocals = mkF m 0 #[iv x0, iv x1, iv x2, iv x3, iv x4, .unset, .unset, .unset, .unset, .unset, .unset, .unset, .unset, .unset, .unset] [] := by first | (simp [entryFrame, mkF, argsToLocals, Value.category, maxLocals]; done) | rfl
def Q_rm0 (Z : State) (p1 : Int32) (p2 : Int32) (p3 : Int32) (p4 : Int32) (p5 : Int32) (zc : Int32) (wE : Addr) (kE : ClassId) (h0 : Heap) (n0 : Nat) : Option Value → Heap → List Loc → Prop := fun v h L => v = some (.int (1 : Int32)) ∧ Fr n0 L ∧ True
set_option maxRecDepth 65536 in
set_option maxHeartbeats 40000000 in
theorem rm0 (l : Launch) (Z : State) (a0 : Array Value) (hw : ∀ d ∈ tables_1, d.before a0 Z = true) (ws : List Jvm.Cond) (p1 : Int32) (p2 : Int32) (p3 : Int32) (p4 : Int32) (p5 : Int32) (zc : Int32) (wE : Addr) (kE : ClassId) (h0 : Heap) (n0 : Nat) (Z0 : n0 ≤ h0.size) (hold : Old Z n0 h0) (S_COMPACT_STRINGS : Sta Z Z.heap "java/lang/String" "COMPACT_STRINGS" "Z" (.int zc)) (S_DEFAULTCAPACITY_EMPTY_ELEMENTDATA : Sta Z Z.heap "java/util/ArrayList" "DEFAULTCAPACITY_EMPTY_ELEMENTDATA" "[Ljava/lang/Object;" (.ref wE)) (V_wE : Arv Z Z.heap wE kE (.object "java/lang/Object") (0 : Int32) [] .null) (hz : ¬ (zc = (0 : Int32))) :
    MetFree l x (head1 (Jvm.Cond.code x code maxLocals ret :: ws) room_1) (fun a U => a = #[(.int p1), (.int p2), (.int p3), (.int p4), (.int p5)] ∧ Z.Warmed39 U.vm ∧ U.heap = h0) (fun _ _ _ _ _ => True) (fun _ U o U' => ∃ v L, o = .returned v ∧ (Q_rm0 Z p1 p2 p3 p4 p5 zc wE kE h0 n0) v U'.heap L ∧ FrameEnd U o U' L room_1.cells room_1.slots) := by
  refine MetFree.of_bodySF (plainFor_of_name pn_0) hisR ?_
  intro p e s m args below meth c s₁ Bd hml0 hP hK
  obtain ⟨rfl, hZ, hh⟩ := hP
  have hx := Bd.exec
  have hby := Bd.bytes
  have hml : c.maxLocals = 15 := hml0
  have hown : s.vm.findClass "com/example/tableau_abduction/tableauabduction/cli/RowFieldPinLaw" = some m.cls := findClass_of_methodNamed Bd.named
  have hnm := (name_of_methodNamed Bd.named Bd.method).1
  have X0 : Stand p l e room_1 s m #[(.int p1), (.int p2), (.int p3), (.int p4), (.int p5)] below meth c s₁ [] 0 0 := Stand.of_body Bd
  have e0 : s₁.heap = h0 := by rw [← hh, Bd.state]; rfl
  have N0 := Fr.nil n0
  show own_G FrameEnd p e below s room_1.cells room_1.slots (Q_rm0 Z p1 p2 p3 p4 p5 zc wE kE h0 n0) (s₁.setTop (entryFrame m #[(.int p1), (.int p2), (.int p3), (.int p4), (.int p5)] maxLocals))
  refine own_go (Y' := s₁.setTop (mkF m 0 #[iv p1, iv p2, iv p3, iv p4, iv p5, .unset, .unset, .unset, .unset, .unset, .unset, .unset, .unset, .unset, .unset] [])) ?_ (fun t k => castTop (ef_0 m p1 p2 p3 p4 p5) k)
  have hws : ∀ d ∈ StrChars.Road.words, d.before a0 Z = true := fun d hd => hw d ((by decide +kernel : ∀ d ∈ StrChars.Road.words, d ∈ tables_1) d hd)
  refine own_go ?_ (fun target hr => XS.iloadN X0.here hx rfl (hb hby at_0) rfl (XS.sipush X0.here hx rfl (hb hby at_1) (XS.iand X0.here hx rfl (hb hby at_4) rfl (XS.i2c X0.here hx rfl (hb hby at_5) rfl (XS.istore X0.here hx rfl (hb hby at_6) rfl (l' := #[iv p1, iv p2, iv p3, iv p4, iv p5, iv ((p2 &&& (255 : Int32)).toUInt32.toUInt16.toUInt32.toInt32), .unset, .unset, .unset, .unset, .unset, .unset, .unset, .unset, .unset]) rfl (XS.iloadN X0.here hx rfl (hb hby at_8) rfl (XS.sipush X0.here hx rfl (hb hby at_9) (XS.iand X0.here hx rfl (hb hby at_12) rfl hr))))))))
  show own_G _ p e below s _ _ _ (s₁.setTop (mkF m 13 #[iv p1, iv p2, iv p3, iv p4, iv p5, iv ((p2 &&& (255 : Int32)).toUInt32.toUInt16.toUInt32.toInt32), .unset, .unset, .unset, .unset, .unset, .unset, .unset, .unset, .unset] [(.int (p3 &&& (255 : Int32)))]))
  refine own_go ?_ (fun target hr => XS.i2c X0.here hx rfl (hb hby at_13) rfl (XS.istore X0.here hx rfl (hb hby at_14) rfl (l' := #[iv p1, iv p2, iv p3, iv p4, iv p5, iv ((p2 &&& (255 : Int32)).toUInt32.toUInt16.toUInt32.toInt32), iv ((p3 &&& (255 : Int32)).toUInt32.toUInt16.toUInt32.toInt32), .unset, .unset, .unset, .unset, .unset, .unset, .unset, .unset]) rfl (XS.iloadN X0.here hx rfl (hb hby at_16) rfl (XS.sipush X0.here hx rfl (hb hby at_17) (XS.iand X0.here hx rfl (hb hby at_20) rfl (XS.i2c X0.here hx rfl (hb hby at_21) rfl (XS.istore X0.here hx rfl (hb hby at_22) rfl (l' := #[iv p1, iv p2, iv p3, iv p4, iv p5, iv ((p2 &&& (255 : Int32)).toUInt32.toUInt16.toUInt32.toInt32), iv ((p3 &&& (255 : Int32)).toUInt32.toUInt16.toUInt32.toInt32), iv ((p4 &&& (255 : Int32)).toUInt32.toUInt16.toUInt32.toInt32), .unset, .unset, .unset, .unset, .unset, .unset, .unset]) rfl (XS.iload X0.here hx rfl (hb hby at_24) rfl hr))))))))
  show own_G _ p e below s _ _ _ (s₁.setTop (mkF m 26 #[iv p1, iv p2, iv p3, iv p4, iv p5, iv ((p2 &&& (255 : Int32)).toUInt32.toUInt16.toUInt32.toInt32), iv ((p3 &&& (255 : Int32)).toUInt32.toUInt16.toUInt32.toInt32), iv ((p4 &&& (255 : Int32)).toUInt32.toUInt16.toUInt32.toInt32), .unset, .unset, .unset, .unset, .unset, .unset, .unset] [(.int ((p2 &&& (255 : Int32)).toUInt32.toUInt16.toUInt32.toInt32))]))
  obtain ⟨_, _, ⟨T1, L1, k1, n1⟩, -, X1, ⟨Lc1, hQ1, l1, y1, z1⟩, st1⟩ := Jvm.LawKit.callS X0 hx (y := (⟨"java/lang/String", "valueOf", "(C)Ljava/lang/String;"⟩ : MethodName)) hown (mvT hZ (hw _ (List.mem_of_getElem? (i := 0) rfl))) (mvT hZ (hw _ (List.mem_of_getElem? (i := 1) rfl))) (mvT hZ (hw _ (List.mem_of_getElem? (i := 2) rfl))) (mvT hZ (hw _ (List.mem_of_getElem? (i := 3) rfl))) (by decide) (backOf (W := 0) (rm1 l Z a0 hw [] ((p2 &&& (255 : Int32)).toUInt32.toUInt16.toUInt32.toInt32) zc h0 n0 Z0 hold S_COMPACT_STRINGS hz (own_le255 p2)) hZ (hw _ (List.mem_of_getElem? (i := 3) rfl)) (hw _ (List.mem_of_getElem? (i := 2) rfl)) (by decide) (by decide)) (g := (mkF m 26 #[iv p1, iv p2, iv p3, iv p4, iv p5, iv ((p2 &&& (255 : Int32)).toUInt32.toUInt16.toUInt32.toInt32), iv ((p3 &&& (255 : Int32)).toUInt32.toUInt16.toUInt32.toInt32), iv ((p4 &&& (255 : Int32)).toUInt32.toUInt16.toUInt32.toInt32), .unset, .unset, .unset, .unset, .unset, .unset, .unset] [(.int ((p2 &&& (255 : Int32)).toUInt32.toUInt16.toUInt32.toInt32))])) rfl (by rw [hml]; rfl) (argsL := [(.int ((p2 &&& (255 : Int32)).toUInt32.toUInt16.toUInt32.toInt32))]) (rest := []) (lenOf pd__C_Ljava_lang_String_ rfl) rfl (by show 2 * 0 + _ ≤ _; exact Nat.le_of_eq rfl) (hb hby at_26) (fun _ _ => ⟨rfl, e0, (by decide : 0 + 2 ≤ _), (by decide : 0 + 5 ≤ _)⟩)
  dsimp only [Pt.U, Pt.locs, Pt.cells, Pt.slots] at X1 l1 y1 z1 st1 hQ1
  subst l1 y1 z1
  obtain ⟨b1_0, rfl, N1q, K1, yb1_0, P1_0⟩ := hQ1
  have g_b1_0 : n0 ≤ b1_0 := Nat.le_trans Z0 yb1_0
  have N1 := Fr.app N0 N1q
  refine own_go ?_ (fun target hr => st1 _ (XS.astore X1.here hx rfl (hb hby at_29) rfl rfl (l' := #[iv p1, iv p2, iv p3, iv p4, iv p5, iv ((p2 &&& (255 : Int32)).toUInt32.toUInt16.toUInt32.toInt32), iv ((p3 &&& (255 : Int32)).toUInt32.toUInt16.toUInt32.toInt32), iv ((p4 &&& (255 : Int32)).toUInt32.toUInt16.toUInt32.toInt32), rv b1_0, .unset, .unset, .unset, .unset, .unset, .unset]) rfl hr))
  show own_G _ p e below s _ _ _ (T1.setTop (mkF m 31 #[iv p1, iv p2, iv p3, iv p4, iv p5, iv ((p2 &&& (255 : Int32)).toUInt32.toUInt16.toUInt32.toInt32), iv ((p3 &&& (255 : Int32)).toUInt32.toUInt16.toUInt32.toInt32), iv ((p4 &&& (255 : Int32)).toUInt32.toUInt16.toUInt32.toInt32), rv b1_0, .unset, .unset, .unset, .unset, .unset, .unset] []))
  obtain ⟨T2, h2, X2, e2, E2, A2, D2, -, st2⟩ := newO X1 hx hZ hown (hw _ (List.mem_of_getElem? (i := 26) rfl)) (hw _ (List.mem_of_getElem? (i := 10) rfl)) (hw _ (List.mem_of_getElem? (i := 2) rfl)) rfl (g := (mkF m 31 #[iv p1, iv p2, iv p3, iv p4, iv p5, iv ((p2 &&& (255 : Int32)).toUInt32.toUInt16.toUInt32.toInt32), iv ((p3 &&& (255 : Int32)).toUInt32.toUInt16.toUInt32.toInt32), iv ((p4 &&& (255 : Int32)).toUInt32.toUInt16.toUInt32.toInt32), rv b1_0, .unset, .unset, .unset, .unset, .unset, .unset] [])) rfl (hb hby at_31) (by decide) (by decide)
  obtain ⟨b2, g2⟩ : ∃ z, z = T1.heap.size := ⟨_, rfl⟩
  rw [← g2] at A2 D2 st2
  have g_b2 : n0 ≤ b2 := Nat.le_trans (Nat.le_trans Z0 K1.1) (Nat.le_of_eq g2.symm)
  have F2_23 : Fld Z h2 b2 "java/lang/String" "value" "[B" .null := D2 (Or.inr (hw _ (List.mem_of_getElem? (i := 23) rfl))) (ty := (.array .byte)) (by decide)
  have F2_25 : Fld Z h2 b2 "java/lang/String" "coder" "B" (.int (0 : Int32)) := D2 (Or.inr (hw _ (List.mem_of_getElem? (i := 25) rfl))) (ty := .byte) (by decide)
  refine own_go ?_ (fun target hr => st2 _ (XS.dup X2.here hx rfl (hb hby at_34) rfl rfl (XS.iconst X2.here hx rfl (hb hby at_35) hr)))
  show own_G _ p e below s _ _ _ (T2.setTop (mkF m 36 #[iv p1, iv p2, iv p3, iv p4, iv p5, iv ((p2 &&& (255 : Int32)).toUInt32.toUInt16.toUInt32.toInt32), iv ((p3 &&& (255 : Int32)).toUInt32.toUInt16.toUInt32.toInt32), iv ((p4 &&& (255 : Int32)).toUInt32.toUInt16.toUInt32.toInt32), rv b1_0, .unset, .unset, .unset, .unset, .unset, .unset] [(.int (2 : Int32)), (.ref b2), (.ref b2)]))
  obtain ⟨T3, h3, k3, X3, e3, E3, A3, st3⟩ := newP X2 hx hZ (hw _ (List.mem_of_getElem? (i := 27) rfl)) e2 (g := (mkF m 36 #[iv p1, iv p2, iv p3, iv p4, iv p5, iv ((p2 &&& (255 : Int32)).toUInt32.toUInt16.toUInt32.toInt32), iv ((p3 &&& (255 : Int32)).toUInt32.toUInt16.toUInt32.toInt32), iv ((p4 &&& (255 : Int32)).toUInt32.toUInt16.toUInt32.toInt32), rv b1_0, .unset, .unset, .unset, .unset, .unset, .unset] [(.int (2 : Int32)), (.ref b2), (.ref b2)])) rfl (hb hby at_36) rfl (by decide) (cap := 2) (by decide) (by decide) (by decide) (by decide)
  obtain ⟨b3, g3⟩ : ∃ z, z = h2.size := ⟨_, rfl⟩
  rw [← g3] at A3 st3
  have V3 : Arv Z h3 b3 k3 .char (2 : Int32) [(.int (0 : Int32)), (.int (0 : Int32))] (.int (0 : Int32)) := (Arv.new A3 (by decide)).pad (pad_rep [] (.int (0 : Int32)) 2)
  have g_b3 : n0 ≤ b3 := Nat.le_trans (Nat.le_trans (Nat.le_trans Z0 K1.1) E2.1) (Nat.le_of_eq g3.symm)
  refine own_go ?_ (fun target hr => st3 _ (XS.dup X3.here hx rfl (hb hby at_38) rfl rfl (XS.iconst X3.here hx rfl (hb hby at_39) (XS.iload X3.here hx rfl (hb hby at_40) rfl hr))))
  show own_G _ p e below s _ _ _ (T3.setTop (mkF m 42 #[iv p1, iv p2, iv p3, iv p4, iv p5, iv ((p2 &&& (255 : Int32)).toUInt32.toUInt16.toUInt32.toInt32), iv ((p3 &&& (255 : Int32)).toUInt32.toUInt16.toUInt32.toInt32), iv ((p4 &&& (255 : Int32)).toUInt32.toUInt16.toUInt32.toInt32), rv b1_0, .unset, .unset, .unset, .unset, .unset, .unset] [(.int ((p3 &&& (255 : Int32)).toUInt32.toUInt16.toUInt32.toInt32)), (.int (0 : Int32)), (.ref b3), (.ref b3), (.ref b2), (.ref b2)]))
  obtain ⟨cl4, Ar4, qk4, S4, M4, H4, G4⟩ := id V3
  have hin4 : ¬ ((0 : Int32) < 0 ∨ cl4.slots.size ≤ ((0 : Int32)).toNatClampNeg) := inb_of S4 ⟨by decide, by decide⟩
  obtain ⟨T4, h4, X4, e4, W4, st4⟩ := stC X3 hx hZ e3 Ar4 (j := (0 : Int32)) hin4 (g := (mkF m 42 #[iv p1, iv p2, iv p3, iv p4, iv p5, iv ((p2 &&& (255 : Int32)).toUInt32.toUInt16.toUInt32.toInt32), iv ((p3 &&& (255 : Int32)).toUInt32.toUInt16.toUInt32.toInt32), iv ((p4 &&& (255 : Int32)).toUInt32.toUInt16.toUInt32.toInt32), rv b1_0, .unset, .unset, .unset, .unset, .unset, .unset] [(.int ((p3 &&& (255 : Int32)).toUInt32.toUInt16.toUInt32.toInt32)), (.int (0 : Int32)), (.ref b3), (.ref b3), (.ref b2), (.ref b2)])) rfl rfl (hb hby at_42)
  have V4 : Arv Z h4 b3 k3 .char (2 : Int32) [(.int (nar .char ((p3 &&& (255 : Int32)).toUInt32.toUInt16.toUInt32.toInt32))), (.int (0 : Int32))] (.int (0 : Int32)) := Arv.set Ar4 qk4 S4 M4 H4 G4 (fits_nar_char _) W4 0 rfl (Nat.le_of_ble_eq_true rfl)
  have N4 := Fr.snoc X4 N1 g_b3
  refine own_go ?_ (fun target hr => st4 _ (XS.dup X4.here hx rfl (hb hby at_43) rfl rfl (XS.iconst X4.here hx rfl (hb hby at_44) (XS.iload X4.here hx rfl (hb hby at_45) rfl hr))))
  show own_G _ p e below s _ _ _ (T4.setTop (mkF m 47 #[iv p1, iv p2, iv p3, iv p4, iv p5, iv ((p2 &&& (255 : Int32)).toUInt32.toUInt16.toUInt32.toInt32), iv ((p3 &&& (255 : Int32)).toUInt32.toUInt16.toUInt32.toInt32), iv ((p4 &&& (255 : Int32)).toUInt32.toUInt16.toUInt32.toInt32), rv b1_0, .unset, .unset, .unset, .unset, .unset, .unset] [(.int ((p2 &&& (255 : Int32)).toUInt32.toUInt16.toUInt32.toInt32)), (.int (1 : Int32)), (.ref b3), (.ref b3), (.ref b2), (.ref b2)]))
  obtain ⟨cl5, Ar5, qk5, S5, M5, H5, G5⟩ := id V4
  have hin5 : ¬ ((1 : Int32) < 0 ∨ cl5.slots.size ≤ ((1 : Int32)).toNatClampNeg) := inb_of S5 ⟨by decide, by decide⟩
  obtain ⟨T5, h5, X5, e5, W5, st5⟩ := stC X4 hx hZ e4 Ar5 (j := (1 : Int32)) hin5 (g := (mkF m 47 #[iv p1, iv p2, iv p3, iv p4, iv p5, iv ((p2 &&& (255 : Int32)).toUInt32.toUInt16.toUInt32.toInt32), iv ((p3 &&& (255 : Int32)).toUInt32.toUInt16.toUInt32.toInt32), iv ((p4 &&& (255 : Int32)).toUInt32.toUInt16.toUInt32.toInt32), rv b1_0, .unset, .unset, .unset, .unset, .unset, .unset] [(.int ((p2 &&& (255 : Int32)).toUInt32.toUInt16.toUInt32.toInt32)), (.int (1 : Int32)), (.ref b3), (.ref b3), (.ref b2), (.ref b2)])) rfl rfl (hb hby at_47)
  have V5 : Arv Z h5 b3 k3 .char (2 : Int32) [(.int (nar .char ((p3 &&& (255 : Int32)).toUInt32.toUInt16.toUInt32.toInt32))), (.int (nar .char ((p2 &&& (255 : Int32)).toUInt32.toUInt16.toUInt32.toInt32)))] (.int (0 : Int32)) := Arv.set Ar5 qk5 S5 M5 H5 G5 (fits_nar_char _) W5 1 rfl (Nat.le_of_ble_eq_true rfl)
  have N5 := Fr.snoc X5 N4 g_b3
  refine own_go ?_ (fun target hr => st5 _ hr)
  show own_G _ p e below s _ _ _ (T5.setTop (mkF m 48 #[iv p1, iv p2, iv p3, iv p4, iv p5, iv ((p2 &&& (255 : Int32)).toUInt32.toUInt16.toUInt32.toInt32), iv ((p3 &&& (255 : Int32)).toUInt32.toUInt16.toUInt32.toInt32), iv ((p4 &&& (255 : Int32)).toUInt32.toUInt16.toUInt32.toInt32), rv b1_0, .unset, .unset, .unset, .unset, .unset, .unset] [(.ref b3), (.ref b2), (.ref b2)]))
  obtain ⟨_, _, ⟨T6, L6, k6, n6⟩, -, X6, ⟨Lc6, hQ6, l6, y6, z6⟩, st6⟩ := X5.specialBack hx (y := (⟨"java/lang/String", "<init>", "([C)V"⟩ : MethodName)) rfl hown (mvT hZ (hw _ (List.mem_of_getElem? (i := 28) rfl))) (mvT hZ (hw _ (List.mem_of_getElem? (i := 29) rfl))) (mvT hZ (hw _ (List.mem_of_getElem? (i := 30) rfl))) (by decide) (StrChars.Road.backV (W := 1) hZ hws (kI := 4) (hw _ (List.mem_of_getElem? (i := 10) rfl)) (cs := ([(nar .char ((p3 &&& (255 : Int32)).toUInt32.toUInt16.toUInt32.toInt32)), (nar .char ((p2 &&& (255 : Int32)).toUInt32.toUInt16.toUInt32.toInt32))] : List Int32)) (bs := (([(nar .char ((p3 &&& (255 : Int32)).toUInt32.toUInt16.toUInt32.toInt32)), (nar .char ((p2 &&& (255 : Int32)).toUInt32.toUInt16.toUInt32.toInt32))] : List Int32)).map (fun c => c.toInt8.toInt32)) (n := 2) g_b2 (Nat.le_trans (Nat.le_trans (Nat.le_trans (Nat.le_trans (Nat.le_trans Z0 K1.1) E2.1) E3.1) (Keep.of_wr W4).1) (Keep.of_wr W5).1) (((A2.ext E3).wr W4).wr W5) (((F2_23.ext E3).other W4 (Or.inl (Nat.ne_of_lt (Nat.lt_of_lt_of_le A2.lt (Nat.le_of_eq g3.symm))))).other W5 (Or.inl (Nat.ne_of_lt (Nat.lt_of_lt_of_le A2.lt (Nat.le_of_eq g3.symm))))) (((F2_25.ext E3).other W4 (Or.inl (Nat.ne_of_lt (Nat.lt_of_lt_of_le A2.lt (Nat.le_of_eq g3.symm))))).other W5 (Or.inl (Nat.ne_of_lt (Nat.lt_of_lt_of_le A2.lt (Nat.le_of_eq g3.symm))))) V5 (S_COMPACT_STRINGS.ext (((((hold.keep K1 all0).ext E2).ext E3).wr W4 g_b3).wr W5 g_b3).2) hz rfl rfl (by decide) (by decide) (by intro c hc; simp only [List.mem_cons, List.not_mem_nil, or_false] at hc; rcases hc with rfl | rfl; exact own_char p3; exact own_char p2) rfl (by decide) (by decide)) (g := (mkF m 48 #[iv p1, iv p2, iv p3, iv p4, iv p5, iv ((p2 &&& (255 : Int32)).toUInt32.toUInt16.toUInt32.toInt32), iv ((p3 &&& (255 : Int32)).toUInt32.toUInt16.toUInt32.toInt32), iv ((p4 &&& (255 : Int32)).toUInt32.toUInt16.toUInt32.toInt32), rv b1_0, .unset, .unset, .unset, .unset, .unset, .unset] [(.ref b3), (.ref b2), (.ref b2)])) rfl (by rw [hml]; rfl) (Steps.refl _) (a := b2) (argsL := [(.ref b3)]) (rest := [(.ref b2)]) (lenOf pd___C_V rfl) rfl (by show 2 * 0 + _ ≤ _; exact Nat.le_of_eq rfl) (hb hby at_48) (fun _ _ => ⟨rfl, e5, (by decide : 4 + 1 ≤ _), (by decide : 11 + 2 ≤ _)⟩)
  dsimp only [Pt.U, Pt.locs, Pt.cells, Pt.slots] at X6 l6 y6 z6 st6 hQ6
  subst l6 y6 z6
  obtain ⟨rfl, N6q, K6, P6_0, P6_1, t6, kt6, y6a, y6b, y6c, P6_2, P6_3⟩ := hQ6
  have g_t6 : n0 ≤ t6 := Nat.le_trans (Nat.le_trans (Nat.le_trans (Nat.le_trans (Nat.le_trans (Nat.le_trans Z0 K1.1) E2.1) E3.1) (Keep.of_wr W4).1) (Keep.of_wr W5).1) y6b
  have N6 := Fr.app N5 N6q
  refine own_go ?_ (fun target hr => st6.trans (XS.astore X6.here hx rfl (hb hby at_51) rfl rfl (l' := #[iv p1, iv p2, iv p3, iv p4, iv p5, iv ((p2 &&& (255 : Int32)).toUInt32.toUInt16.toUInt32.toInt32), iv ((p3 &&& (255 : Int32)).toUInt32.toUInt16.toUInt32.toInt32), iv ((p4 &&& (255 : Int32)).toUInt32.toUInt16.toUInt32.toInt32), rv b1_0, rv b2, .unset, .unset, .unset, .unset, .unset]) rfl hr))
  show own_G _ p e below s _ _ _ (T6.setTop (mkF m 53 #[iv p1, iv p2, iv p3, iv p4, iv p5, iv ((p2 &&& (255 : Int32)).toUInt32.toUInt16.toUInt32.toInt32), iv ((p3 &&& (255 : Int32)).toUInt32.toUInt16.toUInt32.toInt32), iv ((p4 &&& (255 : Int32)).toUInt32.toUInt16.toUInt32.toInt32), rv b1_0, rv b2, .unset, .unset, .unset, .unset, .unset] []))
  obtain ⟨T7, h7, X7, e7, E7, A7, D7, -, st7⟩ := newO X6 hx hZ hown (hw _ (List.mem_of_getElem? (i := 26) rfl)) (hw _ (List.mem_of_getElem? (i := 10) rfl)) (hw _ (List.mem_of_getElem? (i := 2) rfl)) rfl (g := (mkF m 53 #[iv p1, iv p2, iv p3, iv p4, iv p5, iv ((p2 &&& (255 : Int32)).toUInt32.toUInt16.toUInt32.toInt32), iv ((p3 &&& (255 : Int32)).toUInt32.toUInt16.toUInt32.toInt32), iv ((p4 &&& (255 : Int32)).toUInt32.toUInt16.toUInt32.toInt32), rv b1_0, rv b2, .unset, .unset, .unset, .unset, .unset] [])) rfl (hb hby at_53) (by decide) (by decide)
  obtain ⟨b7, g7⟩ : ∃ z, z = T6.heap.size := ⟨_, rfl⟩
  rw [← g7] at A7 D7 st7
  have g_b7 : n0 ≤ b7 := Nat.le_trans (Nat.le_trans (Nat.le_trans (Nat.le_trans (Nat.le_trans (Nat.le_trans (Nat.le_trans Z0 K1.1) E2.1) E3.1) (Keep.of_wr W4).1) (Keep.of_wr W5).1) K6.1) (Nat.le_of_eq g7.symm)
  have F7_23 : Fld Z h7 b7 "java/lang/String" "value" "[B" .null := D7 (Or.inr (hw _ (List.mem_of_getElem? (i := 23) rfl))) (ty := (.array .byte)) (by decide)
  have F7_25 : Fld Z h7 b7 "java/lang/String" "coder" "B" (.int (0 : Int32)) := D7 (Or.inr (hw _ (List.mem_of_getElem? (i := 25) rfl))) (ty := .byte) (by decide)
  refine own_go ?_ (fun target hr => st7 _ (XS.dup X7.here hx rfl (hb hby at_56) rfl rfl (XS.iconst X7.here hx rfl (hb hby at_57) hr)))
  show own_G _ p e below s _ _ _ (T7.setTop (mkF m 58 #[iv p1, iv p2, iv p3, iv p4, iv p5, iv ((p2 &&& (255 : Int32)).toUInt32.toUInt16.toUInt32.toInt32), iv ((p3 &&& (255 : Int32)).toUInt32.toUInt16.toUInt32.toInt32), iv ((p4 &&& (255 : Int32)).toUInt32.toUInt16.toUInt32.toInt32), rv b1_0, rv b2, .unset, .unset, .unset, .unset, .unset] [(.int (3 : Int32)), (.ref b7), (.ref b7)]))
  obtain ⟨T8, h8, k8, X8, e8, E8, A8, st8⟩ := newP X7 hx hZ (hw _ (List.mem_of_getElem? (i := 27) rfl)) e7 (g := (mkF m 58 #[iv p1, iv p2, iv p3, iv p4, iv p5, iv ((p2 &&& (255 : Int32)).toUInt32.toUInt16.toUInt32.toInt32), iv ((p3 &&& (255 : Int32)).toUInt32.toUInt16.toUInt32.toInt32), iv ((p4 &&& (255 : Int32)).toUInt32.toUInt16.toUInt32.toInt32), rv b1_0, rv b2, .unset, .unset, .unset, .unset, .unset] [(.int (3 : Int32)), (.ref b7), (.ref b7)])) rfl (hb hby at_58) rfl (by decide) (cap := 3) (by decide) (by decide) (by decide) (by decide)
  obtain ⟨b8, g8⟩ : ∃ z, z = h7.size := ⟨_, rfl⟩
  rw [← g8] at A8 st8
  have V8 : Arv Z h8 b8 k8 .char (3 : Int32) [(.int (0 : Int32)), (.int (0 : Int32)), (.int (0 : Int32))] (.int (0 : Int32)) := (Arv.new A8 (by decide)).pad (pad_rep [] (.int (0 : Int32)) 3)
  have g_b8 : n0 ≤ b8 := Nat.le_trans (Nat.le_trans (Nat.le_trans (Nat.le_trans (Nat.le_trans (Nat.le_trans (Nat.le_trans (Nat.le_trans Z0 K1.1) E2.1) E3.1) (Keep.of_wr W4).1) (Keep.of_wr W5).1) K6.1) E7.1) (Nat.le_of_eq g8.symm)
  refine own_go ?_ (fun target hr => st8 _ (XS.dup X8.here hx rfl (hb hby at_60) rfl rfl (XS.iconst X8.here hx rfl (hb hby at_61) (XS.iload X8.here hx rfl (hb hby at_62) rfl hr))))
  show own_G _ p e below s _ _ _ (T8.setTop (mkF m 64 #[iv p1, iv p2, iv p3, iv p4, iv p5, iv ((p2 &&& (255 : Int32)).toUInt32.toUInt16.toUInt32.toInt32), iv ((p3 &&& (255 : Int32)).toUInt32.toUInt16.toUInt32.toInt32), iv ((p4 &&& (255 : Int32)).toUInt32.toUInt16.toUInt32.toInt32), rv b1_0, rv b2, .unset, .unset, .unset, .unset, .unset] [(.int ((p4 &&& (255 : Int32)).toUInt32.toUInt16.toUInt32.toInt32)), (.int (0 : Int32)), (.ref b8), (.ref b8), (.ref b7), (.ref b7)]))
  obtain ⟨cl9, Ar9, qk9, S9, M9, H9, G9⟩ := id V8
  have hin9 : ¬ ((0 : Int32) < 0 ∨ cl9.slots.size ≤ ((0 : Int32)).toNatClampNeg) := inb_of S9 ⟨by decide, by decide⟩
  obtain ⟨T9, h9, X9, e9, W9, st9⟩ := stC X8 hx hZ e8 Ar9 (j := (0 : Int32)) hin9 (g := (mkF m 64 #[iv p1, iv p2, iv p3, iv p4, iv p5, iv ((p2 &&& (255 : Int32)).toUInt32.toUInt16.toUInt32.toInt32), iv ((p3 &&& (255 : Int32)).toUInt32.toUInt16.toUInt32.toInt32), iv ((p4 &&& (255 : Int32)).toUInt32.toUInt16.toUInt32.toInt32), rv b1_0, rv b2, .unset, .unset, .unset, .unset, .unset] [(.int ((p4 &&& (255 : Int32)).toUInt32.toUInt16.toUInt32.toInt32)), (.int (0 : Int32)), (.ref b8), (.ref b8), (.ref b7), (.ref b7)])) rfl rfl (hb hby at_64)
  have V9 : Arv Z h9 b8 k8 .char (3 : Int32) [(.int (nar .char ((p4 &&& (255 : Int32)).toUInt32.toUInt16.toUInt32.toInt32))), (.int (0 : Int32)), (.int (0 : Int32))] (.int (0 : Int32)) := Arv.set Ar9 qk9 S9 M9 H9 G9 (fits_nar_char _) W9 0 rfl (Nat.le_of_ble_eq_true rfl)
  have N9 := Fr.snoc X9 N6 g_b8
  refine own_go ?_ (fun target hr => st9 _ (XS.dup X9.here hx rfl (hb hby at_65) rfl rfl (XS.iconst X9.here hx rfl (hb hby at_66) (XS.iload X9.here hx rfl (hb hby at_67) rfl hr))))
  show own_G _ p e below s _ _ _ (T9.setTop (mkF m 69 #[iv p1, iv p2, iv p3, iv p4, iv p5, iv ((p2 &&& (255 : Int32)).toUInt32.toUInt16.toUInt32.toInt32), iv ((p3 &&& (255 : Int32)).toUInt32.toUInt16.toUInt32.toInt32), iv ((p4 &&& (255 : Int32)).toUInt32.toUInt16.toUInt32.toInt32), rv b1_0, rv b2, .unset, .unset, .unset, .unset, .unset] [(.int ((p3 &&& (255 : Int32)).toUInt32.toUInt16.toUInt32.toInt32)), (.int (1 : Int32)), (.ref b8), (.ref b8), (.ref b7), (.ref b7)]))
  obtain ⟨cl10, Ar10, qk10, S10, M10, H10, G10⟩ := id V9
  have hin10 : ¬ ((1 : Int32) < 0 ∨ cl10.slots.size ≤ ((1 : Int32)).toNatClampNeg) := inb_of S10 ⟨by decide, by decide⟩
  obtain ⟨T10, h10, X10, e10, W10, st10⟩ := stC X9 hx hZ e9 Ar10 (j := (1 : Int32)) hin10 (g := (mkF m 69 #[iv p1, iv p2, iv p3, iv p4, iv p5, iv ((p2 &&& (255 : Int32)).toUInt32.toUInt16.toUInt32.toInt32), iv ((p3 &&& (255 : Int32)).toUInt32.toUInt16.toUInt32.toInt32), iv ((p4 &&& (255 : Int32)).toUInt32.toUInt16.toUInt32.toInt32), rv b1_0, rv b2, .unset, .unset, .unset, .unset, .unset] [(.int ((p3 &&& (255 : Int32)).toUInt32.toUInt16.toUInt32.toInt32)), (.int (1 : Int32)), (.ref b8), (.ref b8), (.ref b7), (.ref b7)])) rfl rfl (hb hby at_69)
  have V10 : Arv Z h10 b8 k8 .char (3 : Int32) [(.int (nar .char ((p4 &&& (255 : Int32)).toUInt32.toUInt16.toUInt32.toInt32))), (.int (nar .char ((p3 &&& (255 : Int32)).toUInt32.toUInt16.toUInt32.toInt32))), (.int (0 : Int32))] (.int (0 : Int32)) := Arv.set Ar10 qk10 S10 M10 H10 G10 (fits_nar_char _) W10 1 rfl (Nat.le_of_ble_eq_true rfl)
  have N10 := Fr.snoc X10 N9 g_b8
  refine own_go ?_ (fun target hr => st10 _ (XS.dup X10.here hx rfl (hb hby at_70) rfl rfl (XS.iconst X10.here hx rfl (hb hby at_71) (XS.iload X10.here hx rfl (hb hby at_72) rfl hr))))
  show own_G _ p e below s _ _ _ (T10.setTop (mkF m 74 #[iv p1, iv p2, iv p3, iv p4, iv p5, iv ((p2 &&& (255 : Int32)).toUInt32.toUInt16.toUInt32.toInt32), iv ((p3 &&& (255 : Int32)).toUInt32.toUInt16.toUInt32.toInt32), iv ((p4 &&& (255 : Int32)).toUInt32.toUInt16.toUInt32.toInt32), rv b1_0, rv b2, .unset, .unset, .unset, .unset, .unset] [(.int ((p2 &&& (255 : Int32)).toUInt32.toUInt16.toUInt32.toInt32)), (.int (2 : Int32)), (.ref b8), (.ref b8), (.ref b7), (.ref b7)]))
  obtain ⟨cl11, Ar11, qk11, S11, M11, H11, G11⟩ := id V10
  have hin11 : ¬ ((2 : Int32) < 0 ∨ cl11.slots.size ≤ ((2 : Int32)).toNatClampNeg) := inb_of S11 ⟨by decide, by decide⟩
  obtain ⟨T11, h11, X11, e11, W11, st11⟩ := stC X10 hx hZ e10 Ar11 (j := (2 : Int32)) hin11 (g := (mkF m 74 #[iv p1, iv p2, iv p3, iv p4, iv p5, iv ((p2 &&& (255 : Int32)).toUInt32.toUInt16.toUInt32.toInt32), iv ((p3 &&& (255 : Int32)).toUInt32.toUInt16.toUInt32.toInt32), iv ((p4 &&& (255 : Int32)).toUInt32.toUInt16.toUInt32.toInt32), rv b1_0, rv b2, .unset, .unset, .unset, .unset, .unset] [(.int ((p2 &&& (255 : Int32)).toUInt32.toUInt16.toUInt32.toInt32)), (.int (2 : Int32)), (.ref b8), (.ref b8), (.ref b7), (.ref b7)])) rfl rfl (hb hby at_74)
  have V11 : Arv Z h11 b8 k8 .char (3 : Int32) [(.int (nar .char ((p4 &&& (255 : Int32)).toUInt32.toUInt16.toUInt32.toInt32))), (.int (nar .char ((p3 &&& (255 : Int32)).toUInt32.toUInt16.toUInt32.toInt32))), (.int (nar .char ((p2 &&& (255 : Int32)).toUInt32.toUInt16.toUInt32.toInt32)))] (.int (0 : Int32)) := Arv.set Ar11 qk11 S11 M11 H11 G11 (fits_nar_char _) W11 2 rfl (Nat.le_of_ble_eq_true rfl)
  have N11 := Fr.snoc X11 N10 g_b8
  refine own_go ?_ (fun target hr => st11 _ hr)
  show own_G _ p e below s _ _ _ (T11.setTop (mkF m 75 #[iv p1, iv p2, iv p3, iv p4, iv p5, iv ((p2 &&& (255 : Int32)).toUInt32.toUInt16.toUInt32.toInt32), iv ((p3 &&& (255 : Int32)).toUInt32.toUInt16.toUInt32.toInt32), iv ((p4 &&& (255 : Int32)).toUInt32.toUInt16.toUInt32.toInt32), rv b1_0, rv b2, .unset, .unset, .unset, .unset, .unset] [(.ref b8), (.ref b7), (.ref b7)]))
  obtain ⟨_, _, ⟨T12, L12, k12, n12⟩, -, X12, ⟨Lc12, hQ12, l12, y12, z12⟩, st12⟩ := X11.specialBack hx (y := (⟨"java/lang/String", "<init>", "([C)V"⟩ : MethodName)) rfl hown (mvT hZ (hw _ (List.mem_of_getElem? (i := 28) rfl))) (mvT hZ (hw _ (List.mem_of_getElem? (i := 29) rfl))) (mvT hZ (hw _ (List.mem_of_getElem? (i := 30) rfl))) (by decide) (StrChars.Road.backV (W := 1) hZ hws (kI := 4) (hw _ (List.mem_of_getElem? (i := 10) rfl)) (cs := ([(nar .char ((p4 &&& (255 : Int32)).toUInt32.toUInt16.toUInt32.toInt32)), (nar .char ((p3 &&& (255 : Int32)).toUInt32.toUInt16.toUInt32.toInt32)), (nar .char ((p2 &&& (255 : Int32)).toUInt32.toUInt16.toUInt32.toInt32))] : List Int32)) (bs := (([(nar .char ((p4 &&& (255 : Int32)).toUInt32.toUInt16.toUInt32.toInt32)), (nar .char ((p3 &&& (255 : Int32)).toUInt32.toUInt16.toUInt32.toInt32)), (nar .char ((p2 &&& (255 : Int32)).toUInt32.toUInt16.toUInt32.toInt32))] : List Int32)).map (fun c => c.toInt8.toInt32)) (n := 3) g_b7 (Nat.le_trans (Nat.le_trans (Nat.le_trans (Nat.le_trans (Nat.le_trans (Nat.le_trans (Nat.le_trans (Nat.le_trans (Nat.le_trans (Nat.le_trans (Nat.le_trans Z0 K1.1) E2.1) E3.1) (Keep.of_wr W4).1) (Keep.of_wr W5).1) K6.1) E7.1) E8.1) (Keep.of_wr W9).1) (Keep.of_wr W10).1) (Keep.of_wr W11).1) ((((A7.ext E8).wr W9).wr W10).wr W11) ((((F7_23.ext E8).other W9 (Or.inl (Nat.ne_of_lt (Nat.lt_of_lt_of_le A7.lt (Nat.le_of_eq g8.symm))))).other W10 (Or.inl (Nat.ne_of_lt (Nat.lt_of_lt_of_le A7.lt (Nat.le_of_eq g8.symm))))).other W11 (Or.inl (Nat.ne_of_lt (Nat.lt_of_lt_of_le A7.lt (Nat.le_of_eq g8.symm))))) ((((F7_25.ext E8).other W9 (Or.inl (Nat.ne_of_lt (Nat.lt_of_lt_of_le A7.lt (Nat.le_of_eq g8.symm))))).other W10 (Or.inl (Nat.ne_of_lt (Nat.lt_of_lt_of_le A7.lt (Nat.le_of_eq g8.symm))))).other W11 (Or.inl (Nat.ne_of_lt (Nat.lt_of_lt_of_le A7.lt (Nat.le_of_eq g8.symm))))) V11 (S_COMPACT_STRINGS.ext (((((((((((hold.keep K1 all0).ext E2).ext E3).wr W4 g_b3).wr W5 g_b3).keep K6 (allS g_b2 all0)).ext E7).ext E8).wr W9 g_b8).wr W10 g_b8).wr W11 g_b8).2) hz rfl rfl (by decide) (by decide) (by intro c hc; simp only [List.mem_cons, List.not_mem_nil, or_false] at hc; rcases hc with rfl | rfl | rfl; exact own_char p4; exact own_char p3; exact own_char p2) rfl (by decide) (by decide)) (g := (mkF m 75 #[iv p1, iv p2, iv p3, iv p4, iv p5, iv ((p2 &&& (255 : Int32)).toUInt32.toUInt16.toUInt32.toInt32), iv ((p3 &&& (255 : Int32)).toUInt32.toUInt16.toUInt32.toInt32), iv ((p4 &&& (255 : Int32)).toUInt32.toUInt16.toUInt32.toInt32), rv b1_0, rv b2, .unset, .unset, .unset, .unset, .unset] [(.ref b8), (.ref b7), (.ref b7)])) rfl (by rw [hml]; rfl) (Steps.refl _) (a := b7) (argsL := [(.ref b8)]) (rest := [(.ref b7)]) (lenOf pd___C_V rfl) rfl (by show 2 * 0 + _ ≤ _; exact Nat.le_of_eq rfl) (hb hby at_75) (fun _ _ => ⟨rfl, e11, (by decide : 7 + 1 ≤ _), (by decide : 20 + 3 ≤ _)⟩)
  dsimp only [Pt.U, Pt.locs, Pt.cells, Pt.slots] at X12 l12 y12 z12 st12 hQ12
  subst l12 y12 z12
  obtain ⟨rfl, N12q, K12, P12_0, P12_1, t12, kt12, y12a, y12b, y12c, P12_2, P12_3⟩ := hQ12
  have g_t12 : n0 ≤ t12 := Nat.le_trans (Nat.le_trans (Nat.le_trans (Nat.le_trans (Nat.le_trans (Nat.le_trans (Nat.le_trans (Nat.le_trans (Nat.le_trans (Nat.le_trans (Nat.le_trans (Nat.le_trans Z0 K1.1) E2.1) E3.1) (Keep.of_wr W4).1) (Keep.of_wr W5).1) K6.1) E7.1) E8.1) (Keep.of_wr W9).1) (Keep.of_wr W10).1) (Keep.of_wr W11).1) y12b
  have N12 := Fr.app N11 N12q
  refine own_go ?_ (fun target hr => st12.trans (XS.astore X12.here hx rfl (hb hby at_78) rfl rfl (l' := #[iv p1, iv p2, iv p3, iv p4, iv p5, iv ((p2 &&& (255 : Int32)).toUInt32.toUInt16.toUInt32.toInt32), iv ((p3 &&& (255 : Int32)).toUInt32.toUInt16.toUInt32.toInt32), iv ((p4 &&& (255 : Int32)).toUInt32.toUInt16.toUInt32.toInt32), rv b1_0, rv b2, rv b7, .unset, .unset, .unset, .unset]) rfl (XS.iconst X12.here hx rfl (hb hby at_80) (XS.iload X12.here hx rfl (hb hby at_81) rfl (XS.iconst X12.here hx rfl (hb hby at_83) (XS.iand X12.here hx rfl (hb hby at_84) rfl (XS.iadd X12.here hx rfl (hb hby at_85) rfl (XS.iload X12.here hx rfl (hb hby at_86) rfl hr))))))))
  show own_G _ p e below s _ _ _ (T12.setTop (mkF m 88 #[iv p1, iv p2, iv p3, iv p4, iv p5, iv ((p2 &&& (255 : Int32)).toUInt32.toUInt16.toUInt32.toInt32), iv ((p3 &&& (255 : Int32)).toUInt32.toUInt16.toUInt32.toInt32), iv ((p4 &&& (255 : Int32)).toUInt32.toUInt16.toUInt32.toInt32), rv b1_0, rv b2, rv b7, .unset, .unset, .unset, .unset] [(.int p5), (.int ((1 : Int32) + (p5 &&& (1 : Int32))))]))
  refine own_go ?_ (fun target hr => XS.iconst X12.here hx rfl (hb hby at_88) (XS.iushr X12.here hx rfl (hb hby at_89) rfl (XS.iconst X12.here hx rfl (hb hby at_90) (XS.iand X12.here hx rfl (hb hby at_91) rfl (XS.iadd X12.here hx rfl (hb hby at_92) rfl hr)))))
  show own_G _ p e below s _ _ _ (T12.setTop (mkF m 93 #[iv p1, iv p2, iv p3, iv p4, iv p5, iv ((p2 &&& (255 : Int32)).toUInt32.toUInt16.toUInt32.toInt32), iv ((p3 &&& (255 : Int32)).toUInt32.toUInt16.toUInt32.toInt32), iv ((p4 &&& (255 : Int32)).toUInt32.toUInt16.toUInt32.toInt32), rv b1_0, rv b2, rv b7, .unset, .unset, .unset, .unset] [(.int (((1 : Int32) + (p5 &&& (1 : Int32))) + (((p5.toUInt32 >>> ((1 : Int32) &&& 31).toUInt32).toInt32) &&& (1 : Int32))))]))
  rcases own_n p5 with hs93_0 | hs93_1 | hs93_2
  ·
    rw [hs93_0]
    show own_G _ p e below s _ _ _ (T12.setTop (mkF m 93 #[iv p1, iv p2, iv p3, iv p4, iv p5, iv ((p2 &&& (255 : Int32)).toUInt32.toUInt16.toUInt32.toInt32), iv ((p3 &&& (255 : Int32)).toUInt32.toUInt16.toUInt32.toInt32), iv ((p4 &&& (255 : Int32)).toUInt32.toUInt16.toUInt32.toInt32), rv b1_0, rv b2, rv b7, .unset, .unset, .unset, .unset] [(.int (1 : Int32))]))
    refine own_go ?_ (fun target hr => XS.istore X12.here hx rfl (hb hby at_93) rfl (l' := #[iv p1, iv p2, iv p3, iv p4, iv p5, iv ((p2 &&& (255 : Int32)).toUInt32.toUInt16.toUInt32.toInt32), iv ((p3 &&& (255 : Int32)).toUInt32.toUInt16.toUInt32.toInt32), iv ((p4 &&& (255 : Int32)).toUInt32.toUInt16.toUInt32.toInt32), rv b1_0, rv b2, rv b7, iv (1 : Int32), .unset, .unset, .unset]) rfl hr)
    show own_G _ p e below s _ _ _ (T12.setTop (mkF m 95 #[iv p1, iv p2, iv p3, iv p4, iv p5, iv ((p2 &&& (255 : Int32)).toUInt32.toUInt16.toUInt32.toInt32), iv ((p3 &&& (255 : Int32)).toUInt32.toUInt16.toUInt32.toInt32), iv ((p4 &&& (255 : Int32)).toUInt32.toUInt16.toUInt32.toInt32), rv b1_0, rv b2, rv b7, iv (1 : Int32), .unset, .unset, .unset] []))
    obtain ⟨T13, h13, X13, e13, E13, A13, D13, -, st13⟩ := newO X12 hx hZ hown (hw _ (List.mem_of_getElem? (i := 44) rfl)) (hw _ (List.mem_of_getElem? (i := 45) rfl)) (hw _ (List.mem_of_getElem? (i := 46) rfl)) rfl (g := (mkF m 95 #[iv p1, iv p2, iv p3, iv p4, iv p5, iv ((p2 &&& (255 : Int32)).toUInt32.toUInt16.toUInt32.toInt32), iv ((p3 &&& (255 : Int32)).toUInt32.toUInt16.toUInt32.toInt32), iv ((p4 &&& (255 : Int32)).toUInt32.toUInt16.toUInt32.toInt32), rv b1_0, rv b2, rv b7, iv (1 : Int32), .unset, .unset, .unset] [])) rfl (hb hby at_95) (by decide) (by decide)
    obtain ⟨b13, g13⟩ : ∃ z, z = T12.heap.size := ⟨_, rfl⟩
    rw [← g13] at A13 D13 st13
    have g_b13 : n0 ≤ b13 := Nat.le_trans (Nat.le_trans (Nat.le_trans (Nat.le_trans (Nat.le_trans (Nat.le_trans (Nat.le_trans (Nat.le_trans (Nat.le_trans (Nat.le_trans (Nat.le_trans (Nat.le_trans (Nat.le_trans Z0 K1.1) E2.1) E3.1) (Keep.of_wr W4).1) (Keep.of_wr W5).1) K6.1) E7.1) E8.1) (Keep.of_wr W9).1) (Keep.of_wr W10).1) (Keep.of_wr W11).1) K12.1) (Nat.le_of_eq g13.symm)
    have F13_64 : Fld Z h13 b13 "java/util/AbstractList" "modCount" "I" (.int (0 : Int32)) := D13 (Or.inl (hw _ (List.mem_of_getElem? (i := 64) rfl))) (ty := .int) (by decide)
    have F13_67 : Fld Z h13 b13 "java/util/ArrayList" "elementData" "[Ljava/lang/Object;" .null := D13 (Or.inl (hw _ (List.mem_of_getElem? (i := 67) rfl))) (ty := (.array (.object "java/lang/Object"))) (by decide)
    have F13_80 : Fld Z h13 b13 "java/util/ArrayList" "size" "I" (.int (0 : Int32)) := D13 (Or.inl (hw _ (List.mem_of_getElem? (i := 80) rfl))) (ty := .int) (by decide)
    refine own_go ?_ (fun target hr => st13 _ (XS.dup X13.here hx rfl (hb hby at_98) rfl rfl hr))
    show own_G _ p e below s _ _ _ (T13.setTop (mkF m 99 #[iv p1, iv p2, iv p3, iv p4, iv p5, iv ((p2 &&& (255 : Int32)).toUInt32.toUInt16.toUInt32.toInt32), iv ((p3 &&& (255 : Int32)).toUInt32.toUInt16.toUInt32.toInt32), iv ((p4 &&& (255 : Int32)).toUInt32.toUInt16.toUInt32.toInt32), rv b1_0, rv b2, rv b7, iv (1 : Int32), .unset, .unset, .unset] [(.ref b13), (.ref b13)]))
    obtain ⟨_, _, ⟨T14, L14, k14, n14⟩, -, X14, ⟨Lc14, hQ14, l14, y14, z14⟩, st14⟩ := X13.specialBack hx (y := (⟨"java/util/ArrayList", "<init>", "()V"⟩ : MethodName)) rfl hown (mvT hZ (hw _ (List.mem_of_getElem? (i := 47) rfl))) (mvT hZ (hw _ (List.mem_of_getElem? (i := 48) rfl))) (mvT hZ (hw _ (List.mem_of_getElem? (i := 49) rfl))) (by decide) (backOf (W := 1) (rm11 l Z a0 hw [] b13 (.int (0 : Int32)) (.null) (.int (0 : Int32)) wE h13 n0 (Nat.le_trans (Nat.le_trans (Nat.le_trans (Nat.le_trans (Nat.le_trans (Nat.le_trans (Nat.le_trans (Nat.le_trans (Nat.le_trans (Nat.le_trans (Nat.le_trans (Nat.le_trans (Nat.le_trans Z0 K1.1) E2.1) E3.1) (Keep.of_wr W4).1) (Keep.of_wr W5).1) K6.1) E7.1) E8.1) (Keep.of_wr W9).1) (Keep.of_wr W10).1) (Keep.of_wr W11).1) K12.1) E13.1) A13 F13_64 F13_67 F13_80 g_b13 (((((((((((((hold.keep K1 all0).ext E2).ext E3).wr W4 g_b3).wr W5 g_b3).keep K6 (allS g_b2 all0)).ext E7).ext E8).wr W9 g_b8).wr W10 g_b8).wr W11 g_b8).keep K12 (allS g_b7 all0)).ext E13) S_DEFAULTCAPACITY_EMPTY_ELEMENTDATA) hZ (hw _ (List.mem_of_getElem? (i := 49) rfl)) (hw _ (List.mem_of_getElem? (i := 46) rfl)) (by decide) (by decide)) (g := (mkF m 99 #[iv p1, iv p2, iv p3, iv p4, iv p5, iv ((p2 &&& (255 : Int32)).toUInt32.toUInt16.toUInt32.toInt32), iv ((p3 &&& (255 : Int32)).toUInt32.toUInt16.toUInt32.toInt32), iv ((p4 &&& (255 : Int32)).toUInt32.toUInt16.toUInt32.toInt32), rv b1_0, rv b2, rv b7, iv (1 : Int32), .unset, .unset, .unset] [(.ref b13), (.ref b13)])) rfl (by rw [hml]; rfl) (Steps.refl _) (a := b13) (argsL := []) (rest := [(.ref b13)]) (lenOf pd___V rfl) rfl (by show 2 * 0 + _ ≤ _; exact Nat.le_of_eq rfl) (hb hby at_99) (fun _ _ => ⟨rfl, e13, (by decide : 9 + 0 ≤ _), (by decide : 26 + 0 ≤ _)⟩)
    dsimp only [Pt.U, Pt.locs, Pt.cells, Pt.slots] at X14 l14 y14 z14 st14 hQ14
    subst l14 y14 z14
    obtain ⟨rfl, N14q, K14, P14_0, P14_1, P14_2, P14_3⟩ := hQ14
    have N14 := Fr.app N12 N14q
    refine own_go ?_ (fun target hr => st14.trans (XS.astore X14.here hx rfl (hb hby at_102) rfl rfl (l' := #[iv p1, iv p2, iv p3, iv p4, iv p5, iv ((p2 &&& (255 : Int32)).toUInt32.toUInt16.toUInt32.toInt32), iv ((p3 &&& (255 : Int32)).toUInt32.toUInt16.toUInt32.toInt32), iv ((p4 &&& (255 : Int32)).toUInt32.toUInt16.toUInt32.toInt32), rv b1_0, rv b2, rv b7, iv (1 : Int32), rv b13, .unset, .unset]) rfl (XS.aload X14.here hx rfl (hb hby at_104) rfl rfl (XS.aload X14.here hx rfl (hb hby at_106) rfl rfl hr))))
    show own_G _ p e below s _ _ _ (T14.setTop (mkF m 108 #[iv p1, iv p2, iv p3, iv p4, iv p5, iv ((p2 &&& (255 : Int32)).toUInt32.toUInt16.toUInt32.toInt32), iv ((p3 &&& (255 : Int32)).toUInt32.toUInt16.toUInt32.toInt32), iv ((p4 &&& (255 : Int32)).toUInt32.toUInt16.toUInt32.toInt32), rv b1_0, rv b2, rv b7, iv (1 : Int32), rv b13, .unset, .unset] [(.ref b1_0), (.ref b13)]))
    obtain ⟨cq15, kq15, q15a, q15b, q15c⟩ := isOf hZ rfl P14_0
    obtain ⟨_, _, ⟨T15, L15, k15, n15⟩, -, X15, ⟨Lc15, hQ15, l15, y15, z15⟩, st15⟩ := X14.interfaceBack hx (xi := (⟨"java/util/List", "add", "(Ljava/lang/Object;)Z"⟩ : MethodName)) (y := (⟨"java/util/ArrayList", "add", "(Ljava/lang/Object;)Z"⟩ : MethodName)) hown (mvT hZ (hw _ (List.mem_of_getElem? (i := 68) rfl))) (mvT hZ (hw _ (List.mem_of_getElem? (i := 69) rfl))) (mvT hZ (hw _ (List.mem_of_getElem? (i := 70) rfl))) (mvT hZ (hw _ (List.mem_of_getElem? (i := 71) rfl))) (mvT hZ (hw _ (List.mem_of_getElem? (i := 72) rfl))) (mvT hZ (hw _ (List.mem_of_getElem? (i := 73) rfl))) (mvT hZ (hw _ (List.mem_of_getElem? (i := 74) rfl))) (mvT hZ (hw _ (List.mem_of_getElem? (i := 75) rfl))) (by decide) (backOf (W := 0) (rm_add1_0 l Z a0 hw [] b13 b1_0 (0 : Int32) wE kE T14.heap n0 (Nat.le_trans (Nat.le_trans (Nat.le_trans (Nat.le_trans (Nat.le_trans (Nat.le_trans (Nat.le_trans (Nat.le_trans (Nat.le_trans (Nat.le_trans (Nat.le_trans (Nat.le_trans (Nat.le_trans (Nat.le_trans Z0 K1.1) E2.1) E3.1) (Keep.of_wr W4).1) (Keep.of_wr W5).1) K6.1) E7.1) E8.1) (Keep.of_wr W9).1) (Keep.of_wr W10).1) (Keep.of_wr W11).1) K12.1) E13.1) K14.1) P14_0 P14_1 P14_2 P14_3 g_b13 ((((((((((((((hold.keep K1 all0).ext E2).ext E3).wr W4 g_b3).wr W5 g_b3).keep K6 (allS g_b2 all0)).ext E7).ext E8).wr W9 g_b8).wr W10 g_b8).wr W11 g_b8).keep K12 (allS g_b7 all0)).ext E13).keep K14 (allS g_b13 all0)) S_DEFAULTCAPACITY_EMPTY_ELEMENTDATA V_wE (((((((((((((P1_0.ext E2).ext E3).wr W4).wr W5).keep K6).ext E7).ext E8).wr W9).wr W10).wr W11).keep K12).ext E13).keep K14)) hZ (hw _ (List.mem_of_getElem? (i := 76) rfl)) (hw _ (List.mem_of_getElem? (i := 46) rfl)) (by decide) (by decide)) q15a q15b q15c (g := (mkF m 108 #[iv p1, iv p2, iv p3, iv p4, iv p5, iv ((p2 &&& (255 : Int32)).toUInt32.toUInt16.toUInt32.toInt32), iv ((p3 &&& (255 : Int32)).toUInt32.toUInt16.toUInt32.toInt32), iv ((p4 &&& (255 : Int32)).toUInt32.toUInt16.toUInt32.toInt32), rv b1_0, rv b2, rv b7, iv (1 : Int32), rv b13, .unset, .unset] [(.ref b1_0), (.ref b13)])) rfl (by rw [hml]; rfl) (Steps.refl _) (argsL := [(.ref b1_0)]) (rest := []) (lenOf pd__Ljava_lang_Object__Z rfl) rfl (by show 2 * 0 + _ ≤ _; exact Nat.le_of_eq rfl) (hb hby at_108) (fun _ _ => ⟨rfl, rfl, (by decide : 9 + 1 ≤ _), (by decide : 26 + 10 ≤ _)⟩)
    dsimp only [Pt.U, Pt.locs, Pt.cells, Pt.slots] at X15 l15 y15 z15 st15 hQ15
    subst l15 y15 z15
    obtain ⟨b15_0, kb15_1, rfl, N15q, K15, yb15_0, P15_0, P15_1, P15_2, P15_3, P15_4, P15_5, P15_6⟩ := hQ15
    have g_b15_0 : n0 ≤ b15_0 := Nat.le_trans (Nat.le_trans (Nat.le_trans (Nat.le_trans (Nat.le_trans (Nat.le_trans (Nat.le_trans (Nat.le_trans (Nat.le_trans (Nat.le_trans (Nat.le_trans (Nat.le_trans (Nat.le_trans (Nat.le_trans (Nat.le_trans Z0 K1.1) E2.1) E3.1) (Keep.of_wr W4).1) (Keep.of_wr W5).1) K6.1) E7.1) E8.1) (Keep.of_wr W9).1) (Keep.of_wr W10).1) (Keep.of_wr W11).1) K12.1) E13.1) K14.1) yb15_0
    have N15 := Fr.app N14 N15q
    refine own_go ?_ (fun target hr => st15.trans (XS.pop X15.here hx rfl (hb hby at_113) rfl rfl (XS.iload X15.here hx rfl (hb hby at_114) rfl (XS.iconst X15.here hx rfl (hb hby at_116) (XS.icmpYes X15.here hx rfl (pc0 := 117) (pc' := 130) rfl (hb hby at_117) rfl (tlt (by decide : (1 : Int32) < (2 : Int32))).1 (by decide) (by decide) (XS.iload X15.here hx rfl (hb hby at_130) rfl (XS.iconst X15.here hx rfl (hb hby at_132) (XS.icmpYes X15.here hx rfl (pc0 := 133) (pc' := 146) rfl (hb hby at_133) rfl (tlt (by decide : (1 : Int32) < (3 : Int32))).1 (by decide) (by decide) hr))))))))
    show own_G _ p e below s _ _ _ (T15.setTop (mkF m 146 #[iv p1, iv p2, iv p3, iv p4, iv p5, iv ((p2 &&& (255 : Int32)).toUInt32.toUInt16.toUInt32.toInt32), iv ((p3 &&& (255 : Int32)).toUInt32.toUInt16.toUInt32.toInt32), iv ((p4 &&& (255 : Int32)).toUInt32.toUInt16.toUInt32.toInt32), rv b1_0, rv b2, rv b7, iv (1 : Int32), rv b13, .unset, .unset] []))
    obtain ⟨T16, h16, X16, e16, E16, A16, D16, -, st16⟩ := newO X15 hx hZ hown (hw _ (List.mem_of_getElem? (i := 103) rfl)) (hw _ (List.mem_of_getElem? (i := 104) rfl)) (hw _ (List.mem_of_getElem? (i := 105) rfl)) rfl (g := (mkF m 146 #[iv p1, iv p2, iv p3, iv p4, iv p5, iv ((p2 &&& (255 : Int32)).toUInt32.toUInt16.toUInt32.toInt32), iv ((p3 &&& (255 : Int32)).toUInt32.toUInt16.toUInt32.toInt32), iv ((p4 &&& (255 : Int32)).toUInt32.toUInt16.toUInt32.toInt32), rv b1_0, rv b2, rv b7, iv (1 : Int32), rv b13, .unset, .unset] [])) rfl (hb hby at_146) (by decide) (by decide)
    obtain ⟨b16, g16⟩ : ∃ z, z = T15.heap.size := ⟨_, rfl⟩
    rw [← g16] at A16 D16 st16
    have g_b16 : n0 ≤ b16 := Nat.le_trans (Nat.le_trans (Nat.le_trans (Nat.le_trans (Nat.le_trans (Nat.le_trans (Nat.le_trans (Nat.le_trans (Nat.le_trans (Nat.le_trans (Nat.le_trans (Nat.le_trans (Nat.le_trans (Nat.le_trans (Nat.le_trans (Nat.le_trans Z0 K1.1) E2.1) E3.1) (Keep.of_wr W4).1) (Keep.of_wr W5).1) K6.1) E7.1) E8.1) (Keep.of_wr W9).1) (Keep.of_wr W10).1) (Keep.of_wr W11).1) K12.1) E13.1) K14.1) K15.1) (Nat.le_of_eq g16.symm)
    have F16_116 : Fld Z h16 b16 "com/example/tableau_abduction/tableauabduction/cli/TabSeparatedFile$Row" "line" "I" (.int (0 : Int32)) := D16 (Or.inr (hw _ (List.mem_of_getElem? (i := 116) rfl))) (ty := .int) (by decide)
    have F16_118 : Fld Z h16 b16 "com/example/tableau_abduction/tableauabduction/cli/TabSeparatedFile$Row" "fields" "Ljava/util/List;" .null := D16 (Or.inr (hw _ (List.mem_of_getElem? (i := 118) rfl))) (ty := (.object "java/util/List")) (by decide)
    refine own_go ?_ (fun target hr => st16 _ (XS.dup X16.here hx rfl (hb hby at_149) rfl rfl (XS.iloadN X16.here hx rfl (hb hby at_150) rfl (XS.aload X16.here hx rfl (hb hby at_151) rfl rfl hr))))
    show own_G _ p e below s _ _ _ (T16.setTop (mkF m 153 #[iv p1, iv p2, iv p3, iv p4, iv p5, iv ((p2 &&& (255 : Int32)).toUInt32.toUInt16.toUInt32.toInt32), iv ((p3 &&& (255 : Int32)).toUInt32.toUInt16.toUInt32.toInt32), iv ((p4 &&& (255 : Int32)).toUInt32.toUInt16.toUInt32.toInt32), rv b1_0, rv b2, rv b7, iv (1 : Int32), rv b13, .unset, .unset] [(.ref b13), (.int p1), (.ref b16), (.ref b16)]))
    obtain ⟨_, _, ⟨T17, L17, k17, n17⟩, -, X17, ⟨Lc17, hQ17, l17, y17, z17⟩, st17⟩ := X16.specialBack hx (y := (⟨"com/example/tableau_abduction/tableauabduction/cli/TabSeparatedFile$Row", "<init>", "(ILjava/util/List;)V"⟩ : MethodName)) rfl hown (mvT hZ (hw _ (List.mem_of_getElem? (i := 106) rfl))) (mvT hZ (hw _ (List.mem_of_getElem? (i := 107) rfl))) (mvT hZ (hw _ (List.mem_of_getElem? (i := 108) rfl))) (by decide) (backOf (W := 1) (rm19 l Z a0 hw [] b16 p1 b13 (.int (0 : Int32)) (.null) h16 n0 (Nat.le_trans (Nat.le_trans (Nat.le_trans (Nat.le_trans (Nat.le_trans (Nat.le_trans (Nat.le_trans (Nat.le_trans (Nat.le_trans (Nat.le_trans (Nat.le_trans (Nat.le_trans (Nat.le_trans (Nat.le_trans (Nat.le_trans (Nat.le_trans Z0 K1.1) E2.1) E3.1) (Keep.of_wr W4).1) (Keep.of_wr W5).1) K6.1) E7.1) E8.1) (Keep.of_wr W9).1) (Keep.of_wr W10).1) (Keep.of_wr W11).1) K12.1) E13.1) K14.1) K15.1) E16.1) A16 F16_116 F16_118 g_b16) hZ (hw _ (List.mem_of_getElem? (i := 108) rfl)) (hw _ (List.mem_of_getElem? (i := 105) rfl)) (by decide) (by decide)) (g := (mkF m 153 #[iv p1, iv p2, iv p3, iv p4, iv p5, iv ((p2 &&& (255 : Int32)).toUInt32.toUInt16.toUInt32.toInt32), iv ((p3 &&& (255 : Int32)).toUInt32.toUInt16.toUInt32.toInt32), iv ((p4 &&& (255 : Int32)).toUInt32.toUInt16.toUInt32.toInt32), rv b1_0, rv b2, rv b7, iv (1 : Int32), rv b13, .unset, .unset] [(.ref b13), (.int p1), (.ref b16), (.ref b16)])) rfl (by rw [hml]; rfl) (Steps.refl _) (a := b16) (argsL := [(.int p1), (.ref b13)]) (rest := [(.ref b16)]) (lenOf pd__ILjava_util_List__V rfl) rfl (by show 2 * 0 + _ ≤ _; exact Nat.le_of_eq rfl) (hb hby at_153) (fun _ _ => ⟨rfl, e16, (by decide : 11 + 0 ≤ _), (by decide : 38 + 0 ≤ _)⟩)
    dsimp only [Pt.U, Pt.locs, Pt.cells, Pt.slots] at X17 l17 y17 z17 st17 hQ17
    subst l17 y17 z17
    obtain ⟨rfl, N17q, K17, P17_0, P17_1, P17_2⟩ := hQ17
    have N17 := Fr.app N15 N17q
    refine own_go ?_ (fun target hr => st17.trans (XS.astore X17.here hx rfl (hb hby at_156) rfl rfl (l' := #[iv p1, iv p2, iv p3, iv p4, iv p5, iv ((p2 &&& (255 : Int32)).toUInt32.toUInt16.toUInt32.toInt32), iv ((p3 &&& (255 : Int32)).toUInt32.toUInt16.toUInt32.toInt32), iv ((p4 &&& (255 : Int32)).toUInt32.toUInt16.toUInt32.toInt32), rv b1_0, rv b2, rv b7, iv (1 : Int32), rv b13, rv b16, .unset]) rfl (XS.aload X17.here hx rfl (hb hby at_158) rfl rfl (XS.aload X17.here hx rfl (hb hby at_160) rfl rfl (XS.iconst X17.here hx rfl (hb hby at_162) hr)))))
    show own_G _ p e below s _ _ _ (T17.setTop (mkF m 163 #[iv p1, iv p2, iv p3, iv p4, iv p5, iv ((p2 &&& (255 : Int32)).toUInt32.toUInt16.toUInt32.toInt32), iv ((p3 &&& (255 : Int32)).toUInt32.toUInt16.toUInt32.toInt32), iv ((p4 &&& (255 : Int32)).toUInt32.toUInt16.toUInt32.toInt32), rv b1_0, rv b2, rv b7, iv (1 : Int32), rv b13, rv b16, .unset] [(.int (0 : Int32)), (.ref b16), (.ref b1_0)]))
    have ne_b13_b16 : b13 ≠ b16 := Nat.ne_of_lt (Nat.lt_of_lt_of_le A13.lt (Nat.le_trans K14.1 (Nat.le_trans K15.1 (Nat.le_of_eq g16.symm))))
    obtain ⟨cq18, kq18, q18a, q18b, q18c⟩ := isOf hZ rfl P17_0
    obtain ⟨_, _, ⟨T18, L18, k18, n18⟩, -, X18, ⟨Lc18, hQ18, l18, y18, z18⟩, st18⟩ := X17.virtualBack hx (y := (⟨"com/example/tableau_abduction/tableauabduction/cli/TabSeparatedFile$Row", "field", "(I)Ljava/lang/String;"⟩ : MethodName)) (z := (⟨"com/example/tableau_abduction/tableauabduction/cli/TabSeparatedFile$Row", "field", "(I)Ljava/lang/String;"⟩ : MethodName)) hown (mvT hZ (hw _ (List.mem_of_getElem? (i := 119) rfl))) (mvT hZ (hw _ (List.mem_of_getElem? (i := 120) rfl))) (notFace_of_selects (args := #[]) (mvT hZ (hw _ (List.mem_of_getElem? (i := 122) rfl)))) (mvT hZ (hw _ (List.mem_of_getElem? (i := 122) rfl))) (mvT hZ (hw _ (List.mem_of_getElem? (i := 121) rfl))) (by decide) (backOf (W := 1) (rm_field_1_0 l Z a0 hw [] b16 b13 b15_0 kb15_1 b1_0 T17.heap n0 (Nat.le_trans (Nat.le_trans (Nat.le_trans (Nat.le_trans (Nat.le_trans (Nat.le_trans (Nat.le_trans (Nat.le_trans (Nat.le_trans (Nat.le_trans (Nat.le_trans (Nat.le_trans (Nat.le_trans (Nat.le_trans (Nat.le_trans (Nat.le_trans (Nat.le_trans Z0 K1.1) E2.1) E3.1) (Keep.of_wr W4).1) (Keep.of_wr W5).1) K6.1) E7.1) E8.1) (Keep.of_wr W9).1) (Keep.of_wr W10).1) (Keep.of_wr W11).1) K12.1) E13.1) K14.1) K15.1) E16.1) K17.1) P17_2 ((P15_0.ext E16).keep K17) ((P15_2.ext E16).keep K17 (ninS ne_b13_b16 nin0)) ((P15_3.ext E16).keep K17 (ninS ne_b13_b16 nin0)) ((P15_4.ext E16).keep K17 (ninS (Nat.ne_of_lt (Nat.lt_of_lt_of_le P15_4.lt (Nat.le_of_eq g16.symm))) nin0)) ((((((((((((((((P1_0.ext E2).ext E3).wr W4).wr W5).keep K6).ext E7).ext E8).wr W9).wr W10).wr W11).keep K12).ext E13).keep K14).keep K15).ext E16).keep K17)) hZ (hw _ (List.mem_of_getElem? (i := 123) rfl)) (hw _ (List.mem_of_getElem? (i := 105) rfl)) (by decide) (by decide)) q18a q18c (g := (mkF m 163 #[iv p1, iv p2, iv p3, iv p4, iv p5, iv ((p2 &&& (255 : Int32)).toUInt32.toUInt16.toUInt32.toInt32), iv ((p3 &&& (255 : Int32)).toUInt32.toUInt16.toUInt32.toInt32), iv ((p4 &&& (255 : Int32)).toUInt32.toUInt16.toUInt32.toInt32), rv b1_0, rv b2, rv b7, iv (1 : Int32), rv b13, rv b16, .unset] [(.int (0 : Int32)), (.ref b16), (.ref b1_0)])) rfl (by rw [hml]; rfl) (Steps.refl _) (argsL := [(.int (0 : Int32))]) (rest := [(.ref b1_0)]) (lenOf pd__I_Ljava_lang_String_ rfl) rfl (by show 2 * 0 + _ ≤ _; exact Nat.le_of_eq rfl) (hb hby at_163) (fun _ _ => ⟨rfl, rfl, (by decide : 11 + 0 ≤ _), (by decide : 38 + 0 ≤ _)⟩)
    dsimp only [Pt.U, Pt.locs, Pt.cells, Pt.slots] at X18 l18 y18 z18 st18 hQ18
    subst l18 y18 z18
    obtain ⟨rfl, N18q, e18⟩ := hQ18
    have N18 := Fr.app N17 N18q
    refine own_go ?_ (fun target hr => st18.trans hr)
    show own_G _ p e below s _ _ _ (T18.setTop (mkF m 166 #[iv p1, iv p2, iv p3, iv p4, iv p5, iv ((p2 &&& (255 : Int32)).toUInt32.toUInt16.toUInt32.toInt32), iv ((p3 &&& (255 : Int32)).toUInt32.toUInt16.toUInt32.toInt32), iv ((p4 &&& (255 : Int32)).toUInt32.toUInt16.toUInt32.toInt32), rv b1_0, rv b2, rv b7, iv (1 : Int32), rv b13, rv b16, .unset] [(.ref b1_0), (.ref b1_0)]))
    obtain ⟨cq19, kq19, q19a, q19b, q19c⟩ := isOf hZ e18 ((((((((((((((((P1_0.ext E2).ext E3).wr W4).wr W5).keep K6).ext E7).ext E8).wr W9).wr W10).wr W11).keep K12).ext E13).keep K14).keep K15).ext E16).keep K17)
    obtain ⟨_, _, ⟨T19, L19, k19, n19⟩, -, X19, ⟨Lc19, hQ19, l19, y19, z19⟩, st19⟩ := X18.virtualBack hx (y := (⟨"java/lang/String", "equals", "(Ljava/lang/Object;)Z"⟩ : MethodName)) (z := (⟨"java/lang/String", "equals", "(Ljava/lang/Object;)Z"⟩ : MethodName)) hown (mvT hZ (hw _ (List.mem_of_getElem? (i := 146) rfl))) (mvT hZ (hw _ (List.mem_of_getElem? (i := 147) rfl))) (notFace_of_selects (args := #[]) (mvT hZ (hw _ (List.mem_of_getElem? (i := 149) rfl)))) (mvT hZ (hw _ (List.mem_of_getElem? (i := 149) rfl))) (mvT hZ (hw _ (List.mem_of_getElem? (i := 148) rfl))) (by decide) (backOf (W := 0) (rm_eq l Z a0 hw [] b1_0 T17.heap n0 (Nat.le_trans (Nat.le_trans (Nat.le_trans (Nat.le_trans (Nat.le_trans (Nat.le_trans (Nat.le_trans (Nat.le_trans (Nat.le_trans (Nat.le_trans (Nat.le_trans (Nat.le_trans (Nat.le_trans (Nat.le_trans (Nat.le_trans (Nat.le_trans (Nat.le_trans Z0 K1.1) E2.1) E3.1) (Keep.of_wr W4).1) (Keep.of_wr W5).1) K6.1) E7.1) E8.1) (Keep.of_wr W9).1) (Keep.of_wr W10).1) (Keep.of_wr W11).1) K12.1) E13.1) K14.1) K15.1) E16.1) K17.1) ) hZ (hw _ (List.mem_of_getElem? (i := 150) rfl)) (hw _ (List.mem_of_getElem? (i := 2) rfl)) (by decide) (by decide)) q19a q19c (g := (mkF m 166 #[iv p1, iv p2, iv p3, iv p4, iv p5, iv ((p2 &&& (255 : Int32)).toUInt32.toUInt16.toUInt32.toInt32), iv ((p3 &&& (255 : Int32)).toUInt32.toUInt16.toUInt32.toInt32), iv ((p4 &&& (255 : Int32)).toUInt32.toUInt16.toUInt32.toInt32), rv b1_0, rv b2, rv b7, iv (1 : Int32), rv b13, rv b16, .unset] [(.ref b1_0), (.ref b1_0)])) rfl (by rw [hml]; rfl) (Steps.refl _) (argsL := [(.ref b1_0)]) (rest := []) (lenOf pd__Ljava_lang_Object__Z rfl) rfl (by show 2 * 0 + _ ≤ _; exact Nat.le_of_eq rfl) (hb hby at_166) (fun _ _ => ⟨rfl, e18, (by decide : 11 + 0 ≤ _), (by decide : 38 + 0 ≤ _)⟩)
    dsimp only [Pt.U, Pt.locs, Pt.cells, Pt.slots] at X19 l19 y19 z19 st19 hQ19
    subst l19 y19 z19
    obtain ⟨rfl, N19q, e19⟩ := hQ19
    have N19 := Fr.app N18 N19q
    refine own_go ?_ (fun target hr => st19.trans (XS.istore X19.here hx rfl (hb hby at_169) rfl (l' := #[iv p1, iv p2, iv p3, iv p4, iv p5, iv ((p2 &&& (255 : Int32)).toUInt32.toUInt16.toUInt32.toInt32), iv ((p3 &&& (255 : Int32)).toUInt32.toUInt16.toUInt32.toInt32), iv ((p4 &&& (255 : Int32)).toUInt32.toUInt16.toUInt32.toInt32), rv b1_0, rv b2, rv b7, iv (1 : Int32), rv b13, rv b16, iv (1 : Int32)]) rfl (XS.iload X19.here hx rfl (hb hby at_171) rfl (XS.iconst X19.here hx rfl (hb hby at_173) (XS.icmpYes X19.here hx rfl (pc0 := 174) (pc' := 203) rfl (hb hby at_174) rfl (tlt (by decide : (1 : Int32) < (2 : Int32))).1 (by decide) (by decide) (XS.iload X19.here hx rfl (hb hby at_203) rfl (XS.iconst X19.here hx rfl (hb hby at_205) (XS.icmpYes X19.here hx rfl (pc0 := 206) (pc' := 235) rfl (hb hby at_206) rfl (tlt (by decide : (1 : Int32) < (3 : Int32))).1 (by decide) (by decide) hr))))))))
    show own_G _ p e below s _ _ _ (T19.setTop (mkF m 235 #[iv p1, iv p2, iv p3, iv p4, iv p5, iv ((p2 &&& (255 : Int32)).toUInt32.toUInt16.toUInt32.toInt32), iv ((p3 &&& (255 : Int32)).toUInt32.toUInt16.toUInt32.toInt32), iv ((p4 &&& (255 : Int32)).toUInt32.toUInt16.toUInt32.toInt32), rv b1_0, rv b2, rv b7, iv (1 : Int32), rv b13, rv b16, iv (1 : Int32)] []))
    refine own_go ?_ (fun target hr => XS.iload X19.here hx rfl (hb hby at_235) rfl (XS.ifNo X19.here hx rfl (hb hby at_237) rfl ((if0 _ _).trans (feq (by decide : ¬ ((1 : Int32) = (0 : Int32)))).1) (XS.aload X19.here hx rfl (hb hby at_240) rfl rfl hr)))
    show own_G _ p e below s _ _ _ (T19.setTop (mkF m 242 #[iv p1, iv p2, iv p3, iv p4, iv p5, iv ((p2 &&& (255 : Int32)).toUInt32.toUInt16.toUInt32.toInt32), iv ((p3 &&& (255 : Int32)).toUInt32.toUInt16.toUInt32.toInt32), iv ((p4 &&& (255 : Int32)).toUInt32.toUInt16.toUInt32.toInt32), rv b1_0, rv b2, rv b7, iv (1 : Int32), rv b13, rv b16, iv (1 : Int32)] [(.ref b16)]))
    obtain ⟨cq20, kq20, q20a, q20b, q20c⟩ := isOf hZ e19 P17_0
    obtain ⟨_, _, ⟨T20, L20, k20, n20⟩, -, X20, ⟨Lc20, hQ20, l20, y20, z20⟩, st20⟩ := X19.virtualBack hx (y := (⟨"com/example/tableau_abduction/tableauabduction/cli/TabSeparatedFile$Row", "line", "()I"⟩ : MethodName)) (z := (⟨"com/example/tableau_abduction/tableauabduction/cli/TabSeparatedFile$Row", "line", "()I"⟩ : MethodName)) hown (mvT hZ (hw _ (List.mem_of_getElem? (i := 151) rfl))) (mvT hZ (hw _ (List.mem_of_getElem? (i := 152) rfl))) (notFace_of_selects (args := #[]) (mvT hZ (hw _ (List.mem_of_getElem? (i := 154) rfl)))) (mvT hZ (hw _ (List.mem_of_getElem? (i := 154) rfl))) (mvT hZ (hw _ (List.mem_of_getElem? (i := 153) rfl))) (by decide) (backOf (W := 0) (rm27 l Z a0 hw [] b16 p1 T17.heap n0 (Nat.le_trans (Nat.le_trans (Nat.le_trans (Nat.le_trans (Nat.le_trans (Nat.le_trans (Nat.le_trans (Nat.le_trans (Nat.le_trans (Nat.le_trans (Nat.le_trans (Nat.le_trans (Nat.le_trans (Nat.le_trans (Nat.le_trans (Nat.le_trans (Nat.le_trans Z0 K1.1) E2.1) E3.1) (Keep.of_wr W4).1) (Keep.of_wr W5).1) K6.1) E7.1) E8.1) (Keep.of_wr W9).1) (Keep.of_wr W10).1) (Keep.of_wr W11).1) K12.1) E13.1) K14.1) K15.1) E16.1) K17.1) P17_1) hZ (hw _ (List.mem_of_getElem? (i := 155) rfl)) (hw _ (List.mem_of_getElem? (i := 105) rfl)) (by decide) (by decide)) q20a q20c (g := (mkF m 242 #[iv p1, iv p2, iv p3, iv p4, iv p5, iv ((p2 &&& (255 : Int32)).toUInt32.toUInt16.toUInt32.toInt32), iv ((p3 &&& (255 : Int32)).toUInt32.toUInt16.toUInt32.toInt32), iv ((p4 &&& (255 : Int32)).toUInt32.toUInt16.toUInt32.toInt32), rv b1_0, rv b2, rv b7, iv (1 : Int32), rv b13, rv b16, iv (1 : Int32)] [(.ref b16)])) rfl (by rw [hml]; rfl) (Steps.refl _) (argsL := []) (rest := []) (lenOf pd___I rfl) rfl (by show 2 * 0 + _ ≤ _; exact Nat.le_of_eq rfl) (hb hby at_242) (fun _ _ => ⟨rfl, e19, (by decide : 11 + 0 ≤ _), (by decide : 38 + 0 ≤ _)⟩)
    dsimp only [Pt.U, Pt.locs, Pt.cells, Pt.slots] at X20 l20 y20 z20 st20 hQ20
    subst l20 y20 z20
    obtain ⟨rfl, N20q, e20⟩ := hQ20
    have N20 := Fr.app N19 N20q
    refine own_go ?_ (fun target hr => st20.trans (XS.iloadN X20.here hx rfl (hb hby at_245) rfl (XS.icmpNo X20.here hx rfl (hb hby at_246) rfl (teq (rfl : p1 = p1)).2 (XS.iconst X20.here hx rfl (hb hby at_249) (XS.goto X20.here hx rfl (pc0 := 250) (pc' := 254) rfl (hb hby at_250) (by decide) (by decide) hr)))))
    show own_G _ p e below s _ _ _ (T20.setTop (mkF m 254 #[iv p1, iv p2, iv p3, iv p4, iv p5, iv ((p2 &&& (255 : Int32)).toUInt32.toUInt16.toUInt32.toInt32), iv ((p3 &&& (255 : Int32)).toUInt32.toUInt16.toUInt32.toInt32), iv ((p4 &&& (255 : Int32)).toUInt32.toUInt16.toUInt32.toInt32), rv b1_0, rv b2, rv b7, iv (1 : Int32), rv b13, rv b16, iv (1 : Int32)] [(.int (1 : Int32))]))
    obtain ⟨fs, hr, hrun, hended, hW, hsame⟩ := X20.leave (v := some (.int (1 : Int32))) (fun h => by rw [Bd.returns] at h; cases h)
    exact ⟨_, _, retN X20 hx (t := .boolean) Bd.returns (by simp) (hb hby at_254) hr, hrun, hended, _, _, rfl, ⟨rfl, N20, trivial⟩, ⟨_, rfl⟩, hW, hsame.mono (by decide) (by decide)⟩
  ·
    rw [hs93_1]
    show own_G _ p e below s _ _ _ (T12.setTop (mkF m 93 #[iv p1, iv p2, iv p3, iv p4, iv p5, iv ((p2 &&& (255 : Int32)).toUInt32.toUInt16.toUInt32.toInt32), iv ((p3 &&& (255 : Int32)).toUInt32.toUInt16.toUInt32.toInt32), iv ((p4 &&& (255 : Int32)).toUInt32.toUInt16.toUInt32.toInt32), rv b1_0, rv b2, rv b7, .unset, .unset, .unset, .unset] [(.int (2 : Int32))]))
    refine own_go ?_ (fun target hr => XS.istore X12.here hx rfl (hb hby at_93) rfl (l' := #[iv p1, iv p2, iv p3, iv p4, iv p5, iv ((p2 &&& (255 : Int32)).toUInt32.toUInt16.toUInt32.toInt32), iv ((p3 &&& (255 : Int32)).toUInt32.toUInt16.toUInt32.toInt32), iv ((p4 &&& (255 : Int32)).toUInt32.toUInt16.toUInt32.toInt32), rv b1_0, rv b2, rv b7, iv (2 : Int32), .unset, .unset, .unset]) rfl hr)
    show own_G _ p e below s _ _ _ (T12.setTop (mkF m 95 #[iv p1, iv p2, iv p3, iv p4, iv p5, iv ((p2 &&& (255 : Int32)).toUInt32.toUInt16.toUInt32.toInt32), iv ((p3 &&& (255 : Int32)).toUInt32.toUInt16.toUInt32.toInt32), iv ((p4 &&& (255 : Int32)).toUInt32.toUInt16.toUInt32.toInt32), rv b1_0, rv b2, rv b7, iv (2 : Int32), .unset, .unset, .unset] []))
    obtain ⟨T21, h21, X21, e21, E21, A21, D21, -, st21⟩ := newO X12 hx hZ hown (hw _ (List.mem_of_getElem? (i := 44) rfl)) (hw _ (List.mem_of_getElem? (i := 45) rfl)) (hw _ (List.mem_of_getElem? (i := 46) rfl)) rfl (g := (mkF m 95 #[iv p1, iv p2, iv p3, iv p4, iv p5, iv ((p2 &&& (255 : Int32)).toUInt32.toUInt16.toUInt32.toInt32), iv ((p3 &&& (255 : Int32)).toUInt32.toUInt16.toUInt32.toInt32), iv ((p4 &&& (255 : Int32)).toUInt32.toUInt16.toUInt32.toInt32), rv b1_0, rv b2, rv b7, iv (2 : Int32), .unset, .unset, .unset] [])) rfl (hb hby at_95) (by decide) (by decide)
    obtain ⟨b21, g21⟩ : ∃ z, z = T12.heap.size := ⟨_, rfl⟩
    rw [← g21] at A21 D21 st21
    have g_b21 : n0 ≤ b21 := Nat.le_trans (Nat.le_trans (Nat.le_trans (Nat.le_trans (Nat.le_trans (Nat.le_trans (Nat.le_trans (Nat.le_trans (Nat.le_trans (Nat.le_trans (Nat.le_trans (Nat.le_trans (Nat.le_trans Z0 K1.1) E2.1) E3.1) (Keep.of_wr W4).1) (Keep.of_wr W5).1) K6.1) E7.1) E8.1) (Keep.of_wr W9).1) (Keep.of_wr W10).1) (Keep.of_wr W11).1) K12.1) (Nat.le_of_eq g21.symm)
    have F21_64 : Fld Z h21 b21 "java/util/AbstractList" "modCount" "I" (.int (0 : Int32)) := D21 (Or.inl (hw _ (List.mem_of_getElem? (i := 64) rfl))) (ty := .int) (by decide)
    have F21_67 : Fld Z h21 b21 "java/util/ArrayList" "elementData" "[Ljava/lang/Object;" .null := D21 (Or.inl (hw _ (List.mem_of_getElem? (i := 67) rfl))) (ty := (.array (.object "java/lang/Object"))) (by decide)
    have F21_80 : Fld Z h21 b21 "java/util/ArrayList" "size" "I" (.int (0 : Int32)) := D21 (Or.inl (hw _ (List.mem_of_getElem? (i := 80) rfl))) (ty := .int) (by decide)
    refine own_go ?_ (fun target hr => st21 _ (XS.dup X21.here hx rfl (hb hby at_98) rfl rfl hr))
    show own_G _ p e below s _ _ _ (T21.setTop (mkF m 99 #[iv p1, iv p2, iv p3, iv p4, iv p5, iv ((p2 &&& (255 : Int32)).toUInt32.toUInt16.toUInt32.toInt32), iv ((p3 &&& (255 : Int32)).toUInt32.toUInt16.toUInt32.toInt32), iv ((p4 &&& (255 : Int32)).toUInt32.toUInt16.toUInt32.toInt32), rv b1_0, rv b2, rv b7, iv (2 : Int32), .unset, .unset, .unset] [(.ref b21), (.ref b21)]))
    obtain ⟨_, _, ⟨T22, L22, k22, n22⟩, -, X22, ⟨Lc22, hQ22, l22, y22, z22⟩, st22⟩ := X21.specialBack hx (y := (⟨"java/util/ArrayList", "<init>", "()V"⟩ : MethodName)) rfl hown (mvT hZ (hw _ (List.mem_of_getElem? (i := 47) rfl))) (mvT hZ (hw _ (List.mem_of_getElem? (i := 48) rfl))) (mvT hZ (hw _ (List.mem_of_getElem? (i := 49) rfl))) (by decide) (backOf (W := 1) (rm11 l Z a0 hw [] b21 (.int (0 : Int32)) (.null) (.int (0 : Int32)) wE h21 n0 (Nat.le_trans (Nat.le_trans (Nat.le_trans (Nat.le_trans (Nat.le_trans (Nat.le_trans (Nat.le_trans (Nat.le_trans (Nat.le_trans (Nat.le_trans (Nat.le_trans (Nat.le_trans (Nat.le_trans Z0 K1.1) E2.1) E3.1) (Keep.of_wr W4).1) (Keep.of_wr W5).1) K6.1) E7.1) E8.1) (Keep.of_wr W9).1) (Keep.of_wr W10).1) (Keep.of_wr W11).1) K12.1) E21.1) A21 F21_64 F21_67 F21_80 g_b21 (((((((((((((hold.keep K1 all0).ext E2).ext E3).wr W4 g_b3).wr W5 g_b3).keep K6 (allS g_b2 all0)).ext E7).ext E8).wr W9 g_b8).wr W10 g_b8).wr W11 g_b8).keep K12 (allS g_b7 all0)).ext E21) S_DEFAULTCAPACITY_EMPTY_ELEMENTDATA) hZ (hw _ (List.mem_of_getElem? (i := 49) rfl)) (hw _ (List.mem_of_getElem? (i := 46) rfl)) (by decide) (by decide)) (g := (mkF m 99 #[iv p1, iv p2, iv p3, iv p4, iv p5, iv ((p2 &&& (255 : Int32)).toUInt32.toUInt16.toUInt32.toInt32), iv ((p3 &&& (255 : Int32)).toUInt32.toUInt16.toUInt32.toInt32), iv ((p4 &&& (255 : Int32)).toUInt32.toUInt16.toUInt32.toInt32), rv b1_0, rv b2, rv b7, iv (2 : Int32), .unset, .unset, .unset] [(.ref b21), (.ref b21)])) rfl (by rw [hml]; rfl) (Steps.refl _) (a := b21) (argsL := []) (rest := [(.ref b21)]) (lenOf pd___V rfl) rfl (by show 2 * 0 + _ ≤ _; exact Nat.le_of_eq rfl) (hb hby at_99) (fun _ _ => ⟨rfl, e21, (by decide : 9 + 0 ≤ _), (by decide : 26 + 0 ≤ _)⟩)
    dsimp only [Pt.U, Pt.locs, Pt.cells, Pt.slots] at X22 l22 y22 z22 st22 hQ22
    subst l22 y22 z22
    obtain ⟨rfl, N22q, K22, P22_0, P22_1, P22_2, P22_3⟩ := hQ22
    have N22 := Fr.app N12 N22q
    refine own_go ?_ (fun target hr => st22.trans (XS.astore X22.here hx rfl (hb hby at_102) rfl rfl (l' := #[iv p1, iv p2, iv p3, iv p4, iv p5, iv ((p2 &&& (255 : Int32)).toUInt32.toUInt16.toUInt32.toInt32), iv ((p3 &&& (255 : Int32)).toUInt32.toUInt16.toUInt32.toInt32), iv ((p4 &&& (255 : Int32)).toUInt32.toUInt16.toUInt32.toInt32), rv b1_0, rv b2, rv b7, iv (2 : Int32), rv b21, .unset, .unset]) rfl (XS.aload X22.here hx rfl (hb hby at_104) rfl rfl (XS.aload X22.here hx rfl (hb hby at_106) rfl rfl hr))))
    show own_G _ p e below s _ _ _ (T22.setTop (mkF m 108 #[iv p1, iv p2, iv p3, iv p4, iv p5, iv ((p2 &&& (255 : Int32)).toUInt32.toUInt16.toUInt32.toInt32), iv ((p3 &&& (255 : Int32)).toUInt32.toUInt16.toUInt32.toInt32), iv ((p4 &&& (255 : Int32)).toUInt32.toUInt16.toUInt32.toInt32), rv b1_0, rv b2, rv b7, iv (2 : Int32), rv b21, .unset, .unset] [(.ref b1_0), (.ref b21)]))
    obtain ⟨cq23, kq23, q23a, q23b, q23c⟩ := isOf hZ rfl P22_0
    obtain ⟨_, _, ⟨T23, L23, k23, n23⟩, -, X23, ⟨Lc23, hQ23, l23, y23, z23⟩, st23⟩ := X22.interfaceBack hx (xi := (⟨"java/util/List", "add", "(Ljava/lang/Object;)Z"⟩ : MethodName)) (y := (⟨"java/util/ArrayList", "add", "(Ljava/lang/Object;)Z"⟩ : MethodName)) hown (mvT hZ (hw _ (List.mem_of_getElem? (i := 68) rfl))) (mvT hZ (hw _ (List.mem_of_getElem? (i := 69) rfl))) (mvT hZ (hw _ (List.mem_of_getElem? (i := 70) rfl))) (mvT hZ (hw _ (List.mem_of_getElem? (i := 71) rfl))) (mvT hZ (hw _ (List.mem_of_getElem? (i := 72) rfl))) (mvT hZ (hw _ (List.mem_of_getElem? (i := 73) rfl))) (mvT hZ (hw _ (List.mem_of_getElem? (i := 74) rfl))) (mvT hZ (hw _ (List.mem_of_getElem? (i := 75) rfl))) (by decide) (backOf (W := 0) (rm_add1_0 l Z a0 hw [] b21 b1_0 (0 : Int32) wE kE T22.heap n0 (Nat.le_trans (Nat.le_trans (Nat.le_trans (Nat.le_trans (Nat.le_trans (Nat.le_trans (Nat.le_trans (Nat.le_trans (Nat.le_trans (Nat.le_trans (Nat.le_trans (Nat.le_trans (Nat.le_trans (Nat.le_trans Z0 K1.1) E2.1) E3.1) (Keep.of_wr W4).1) (Keep.of_wr W5).1) K6.1) E7.1) E8.1) (Keep.of_wr W9).1) (Keep.of_wr W10).1) (Keep.of_wr W11).1) K12.1) E21.1) K22.1) P22_0 P22_1 P22_2 P22_3 g_b21 ((((((((((((((hold.keep K1 all0).ext E2).ext E3).wr W4 g_b3).wr W5 g_b3).keep K6 (allS g_b2 all0)).ext E7).ext E8).wr W9 g_b8).wr W10 g_b8).wr W11 g_b8).keep K12 (allS g_b7 all0)).ext E21).keep K22 (allS g_b21 all0)) S_DEFAULTCAPACITY_EMPTY_ELEMENTDATA V_wE (((((((((((((P1_0.ext E2).ext E3).wr W4).wr W5).keep K6).ext E7).ext E8).wr W9).wr W10).wr W11).keep K12).ext E21).keep K22)) hZ (hw _ (List.mem_of_getElem? (i := 76) rfl)) (hw _ (List.mem_of_getElem? (i := 46) rfl)) (by decide) (by decide)) q23a q23b q23c (g := (mkF m 108 #[iv p1, iv p2, iv p3, iv p4, iv p5, iv ((p2 &&& (255 : Int32)).toUInt32.toUInt16.toUInt32.toInt32), iv ((p3 &&& (255 : Int32)).toUInt32.toUInt16.toUInt32.toInt32), iv ((p4 &&& (255 : Int32)).toUInt32.toUInt16.toUInt32.toInt32), rv b1_0, rv b2, rv b7, iv (2 : Int32), rv b21, .unset, .unset] [(.ref b1_0), (.ref b21)])) rfl (by rw [hml]; rfl) (Steps.refl _) (argsL := [(.ref b1_0)]) (rest := []) (lenOf pd__Ljava_lang_Object__Z rfl) rfl (by show 2 * 0 + _ ≤ _; exact Nat.le_of_eq rfl) (hb hby at_108) (fun _ _ => ⟨rfl, rfl, (by decide : 9 + 1 ≤ _), (by decide : 26 + 10 ≤ _)⟩)
    dsimp only [Pt.U, Pt.locs, Pt.cells, Pt.slots] at X23 l23 y23 z23 st23 hQ23
    subst l23 y23 z23
    obtain ⟨b23_0, kb23_1, rfl, N23q, K23, yb23_0, P23_0, P23_1, P23_2, P23_3, P23_4, P23_5, P23_6⟩ := hQ23
    have g_b23_0 : n0 ≤ b23_0 := Nat.le_trans (Nat.le_trans (Nat.le_trans (Nat.le_trans (Nat.le_trans (Nat.le_trans (Nat.le_trans (Nat.le_trans (Nat.le_trans (Nat.le_trans (Nat.le_trans (Nat.le_trans (Nat.le_trans (Nat.le_trans (Nat.le_trans Z0 K1.1) E2.1) E3.1) (Keep.of_wr W4).1) (Keep.of_wr W5).1) K6.1) E7.1) E8.1) (Keep.of_wr W9).1) (Keep.of_wr W10).1) (Keep.of_wr W11).1) K12.1) E21.1) K22.1) yb23_0
    have N23 := Fr.app N22 N23q
    refine own_go ?_ (fun target hr => st23.trans (XS.pop X23.here hx rfl (hb hby at_113) rfl rfl (XS.iload X23.here hx rfl (hb hby at_114) rfl (XS.iconst X23.here hx rfl (hb hby at_116) (XS.icmpNo X23.here hx rfl (hb hby at_117) rfl (flt (by decide : ¬ ((2 : Int32) < (2 : Int32)))).1 (XS.aload X23.here hx rfl (hb hby at_120) rfl rfl (XS.aload X23.here hx rfl (hb hby at_122) rfl rfl hr)))))))
    show own_G _ p e below s _ _ _ (T23.setTop (mkF m 124 #[iv p1, iv p2, iv p3, iv p4, iv p5, iv ((p2 &&& (255 : Int32)).toUInt32.toUInt16.toUInt32.toInt32), iv ((p3 &&& (255 : Int32)).toUInt32.toUInt16.toUInt32.toInt32), iv ((p4 &&& (255 : Int32)).toUInt32.toUInt16.toUInt32.toInt32), rv b1_0, rv b2, rv b7, iv (2 : Int32), rv b21, .unset, .unset] [(.ref b2), (.ref b21)]))
    obtain ⟨cq24, kq24, q24a, q24b, q24c⟩ := isOf hZ rfl P23_0
    obtain ⟨_, _, ⟨T24, L24, k24, n24⟩, -, X24, ⟨Lc24, hQ24, l24, y24, z24⟩, st24⟩ := X23.interfaceBack hx (xi := (⟨"java/util/List", "add", "(Ljava/lang/Object;)Z"⟩ : MethodName)) (y := (⟨"java/util/ArrayList", "add", "(Ljava/lang/Object;)Z"⟩ : MethodName)) hown (mvT hZ (hw _ (List.mem_of_getElem? (i := 68) rfl))) (mvT hZ (hw _ (List.mem_of_getElem? (i := 69) rfl))) (mvT hZ (hw _ (List.mem_of_getElem? (i := 70) rfl))) (mvT hZ (hw _ (List.mem_of_getElem? (i := 71) rfl))) (mvT hZ (hw _ (List.mem_of_getElem? (i := 72) rfl))) (mvT hZ (hw _ (List.mem_of_getElem? (i := 73) rfl))) (mvT hZ (hw _ (List.mem_of_getElem? (i := 74) rfl))) (mvT hZ (hw _ (List.mem_of_getElem? (i := 75) rfl))) (by decide) (backOf (W := 0) (rm_add1_1 l Z a0 hw [] b21 b2 ((0 : Int32) + (1 : Int32)) b23_0 kb23_1 b1_0 T23.heap n0 (Nat.le_trans (Nat.le_trans (Nat.le_trans (Nat.le_trans (Nat.le_trans (Nat.le_trans (Nat.le_trans (Nat.le_trans (Nat.le_trans (Nat.le_trans (Nat.le_trans (Nat.le_trans (Nat.le_trans (Nat.le_trans (Nat.le_trans Z0 K1.1) E2.1) E3.1) (Keep.of_wr W4).1) (Keep.of_wr W5).1) K6.1) E7.1) E8.1) (Keep.of_wr W9).1) (Keep.of_wr W10).1) (Keep.of_wr W11).1) K12.1) E21.1) K22.1) K23.1) P23_0 P23_1 P23_2 P23_3 P23_4 P23_6 (((((((((P6_0.ext E7).ext E8).wr W9).wr W10).wr W11).keep K12).ext E21).keep K22).keep K23) g_b21 g_b23_0 (Nat.ne_of_lt (Nat.lt_of_lt_of_le A21.lt (Nat.le_trans K22.1 yb23_0)))) hZ (hw _ (List.mem_of_getElem? (i := 76) rfl)) (hw _ (List.mem_of_getElem? (i := 46) rfl)) (by decide) (by decide)) q24a q24b q24c (g := (mkF m 124 #[iv p1, iv p2, iv p3, iv p4, iv p5, iv ((p2 &&& (255 : Int32)).toUInt32.toUInt16.toUInt32.toInt32), iv ((p3 &&& (255 : Int32)).toUInt32.toUInt16.toUInt32.toInt32), iv ((p4 &&& (255 : Int32)).toUInt32.toUInt16.toUInt32.toInt32), rv b1_0, rv b2, rv b7, iv (2 : Int32), rv b21, .unset, .unset] [(.ref b2), (.ref b21)])) rfl (by rw [hml]; rfl) (Steps.refl _) (argsL := [(.ref b2)]) (rest := []) (lenOf pd__Ljava_lang_Object__Z rfl) rfl (by show 2 * 0 + _ ≤ _; exact Nat.le_of_eq rfl) (hb hby at_124) (fun _ _ => ⟨rfl, rfl, (by decide : 10 + 0 ≤ _), (by decide : 36 + 0 ≤ _)⟩)
    dsimp only [Pt.U, Pt.locs, Pt.cells, Pt.slots] at X24 l24 y24 z24 st24 hQ24
    subst l24 y24 z24
    obtain ⟨rfl, N24q, K24, P24_0, P24_1, P24_2, P24_3, P24_4⟩ := hQ24
    have N24 := Fr.app N23 N24q
    refine own_go ?_ (fun target hr => st24.trans (XS.pop X24.here hx rfl (hb hby at_129) rfl rfl (XS.iload X24.here hx rfl (hb hby at_130) rfl (XS.iconst X24.here hx rfl (hb hby at_132) (XS.icmpYes X24.here hx rfl (pc0 := 133) (pc' := 146) rfl (hb hby at_133) rfl (tlt (by decide : (2 : Int32) < (3 : Int32))).1 (by decide) (by decide) hr)))))
    show own_G _ p e below s _ _ _ (T24.setTop (mkF m 146 #[iv p1, iv p2, iv p3, iv p4, iv p5, iv ((p2 &&& (255 : Int32)).toUInt32.toUInt16.toUInt32.toInt32), iv ((p3 &&& (255 : Int32)).toUInt32.toUInt16.toUInt32.toInt32), iv ((p4 &&& (255 : Int32)).toUInt32.toUInt16.toUInt32.toInt32), rv b1_0, rv b2, rv b7, iv (2 : Int32), rv b21, .unset, .unset] []))
    obtain ⟨T25, h25, X25, e25, E25, A25, D25, -, st25⟩ := newO X24 hx hZ hown (hw _ (List.mem_of_getElem? (i := 103) rfl)) (hw _ (List.mem_of_getElem? (i := 104) rfl)) (hw _ (List.mem_of_getElem? (i := 105) rfl)) rfl (g := (mkF m 146 #[iv p1, iv p2, iv p3, iv p4, iv p5, iv ((p2 &&& (255 : Int32)).toUInt32.toUInt16.toUInt32.toInt32), iv ((p3 &&& (255 : Int32)).toUInt32.toUInt16.toUInt32.toInt32), iv ((p4 &&& (255 : Int32)).toUInt32.toUInt16.toUInt32.toInt32), rv b1_0, rv b2, rv b7, iv (2 : Int32), rv b21, .unset, .unset] [])) rfl (hb hby at_146) (by decide) (by decide)
    obtain ⟨b25, g25⟩ : ∃ z, z = T24.heap.size := ⟨_, rfl⟩
    rw [← g25] at A25 D25 st25
    have g_b25 : n0 ≤ b25 := Nat.le_trans (Nat.le_trans (Nat.le_trans (Nat.le_trans (Nat.le_trans (Nat.le_trans (Nat.le_trans (Nat.le_trans (Nat.le_trans (Nat.le_trans (Nat.le_trans (Nat.le_trans (Nat.le_trans (Nat.le_trans (Nat.le_trans (Nat.le_trans (Nat.le_trans Z0 K1.1) E2.1) E3.1) (Keep.of_wr W4).1) (Keep.of_wr W5).1) K6.1) E7.1) E8.1) (Keep.of_wr W9).1) (Keep.of_wr W10).1) (Keep.of_wr W11).1) K12.1) E21.1) K22.1) K23.1) K24.1) (Nat.le_of_eq g25.symm)
    have F25_116 : Fld Z h25 b25 "com/example/tableau_abduction/tableauabduction/cli/TabSeparatedFile$Row" "line" "I" (.int (0 : Int32)) := D25 (Or.inr (hw _ (List.mem_of_getElem? (i := 116) rfl))) (ty := .int) (by decide)
    have F25_118 : Fld Z h25 b25 "com/example/tableau_abduction/tableauabduction/cli/TabSeparatedFile$Row" "fields" "Ljava/util/List;" .null := D25 (Or.inr (hw _ (List.mem_of_getElem? (i := 118) rfl))) (ty := (.object "java/util/List")) (by decide)
    refine own_go ?_ (fun target hr => st25 _ (XS.dup X25.here hx rfl (hb hby at_149) rfl rfl (XS.iloadN X25.here hx rfl (hb hby at_150) rfl (XS.aload X25.here hx rfl (hb hby at_151) rfl rfl hr))))
    show own_G _ p e below s _ _ _ (T25.setTop (mkF m 153 #[iv p1, iv p2, iv p3, iv p4, iv p5, iv ((p2 &&& (255 : Int32)).toUInt32.toUInt16.toUInt32.toInt32), iv ((p3 &&& (255 : Int32)).toUInt32.toUInt16.toUInt32.toInt32), iv ((p4 &&& (255 : Int32)).toUInt32.toUInt16.toUInt32.toInt32), rv b1_0, rv b2, rv b7, iv (2 : Int32), rv b21, .unset, .unset] [(.ref b21), (.int p1), (.ref b25), (.ref b25)]))
    obtain ⟨_, _, ⟨T26, L26, k26, n26⟩, -, X26, ⟨Lc26, hQ26, l26, y26, z26⟩, st26⟩ := X25.specialBack hx (y := (⟨"com/example/tableau_abduction/tableauabduction/cli/TabSeparatedFile$Row", "<init>", "(ILjava/util/List;)V"⟩ : MethodName)) rfl hown (mvT hZ (hw _ (List.mem_of_getElem? (i := 106) rfl))) (mvT hZ (hw _ (List.mem_of_getElem? (i := 107) rfl))) (mvT hZ (hw _ (List.mem_of_getElem? (i := 108) rfl))) (by decide) (backOf (W := 1) (rm19 l Z a0 hw [] b25 p1 b21 (.int (0 : Int32)) (.null) h25 n0 (Nat.le_trans (Nat.le_trans (Nat.le_trans (Nat.le_trans (Nat.le_trans (Nat.le_trans (Nat.le_trans (Nat.le_trans (Nat.le_trans (Nat.le_trans (Nat.le_trans (Nat.le_trans (Nat.le_trans (Nat.le_trans (Nat.le_trans (Nat.le_trans (Nat.le_trans Z0 K1.1) E2.1) E3.1) (Keep.of_wr W4).1) (Keep.of_wr W5).1) K6.1) E7.1) E8.1) (Keep.of_wr W9).1) (Keep.of_wr W10).1) (Keep.of_wr W11).1) K12.1) E21.1) K22.1) K23.1) K24.1) E25.1) A25 F25_116 F25_118 g_b25) hZ (hw _ (List.mem_of_getElem? (i := 108) rfl)) (hw _ (List.mem_of_getElem? (i := 105) rfl)) (by decide) (by decide)) (g := (mkF m 153 #[iv p1, iv p2, iv p3, iv p4, iv p5, iv ((p2 &&& (255 : Int32)).toUInt32.toUInt16.toUInt32.toInt32), iv ((p3 &&& (255 : Int32)).toUInt32.toUInt16.toUInt32.toInt32), iv ((p4 &&& (255 : Int32)).toUInt32.toUInt16.toUInt32.toInt32), rv b1_0, rv b2, rv b7, iv (2 : Int32), rv b21, .unset, .unset] [(.ref b21), (.int p1), (.ref b25), (.ref b25)])) rfl (by rw [hml]; rfl) (Steps.refl _) (a := b25) (argsL := [(.int p1), (.ref b21)]) (rest := [(.ref b25)]) (lenOf pd__ILjava_util_List__V rfl) rfl (by show 2 * 0 + _ ≤ _; exact Nat.le_of_eq rfl) (hb hby at_153) (fun _ _ => ⟨rfl, e25, (by decide : 11 + 0 ≤ _), (by decide : 38 + 0 ≤ _)⟩)
    dsimp only [Pt.U, Pt.locs, Pt.cells, Pt.slots] at X26 l26 y26 z26 st26 hQ26
    subst l26 y26 z26
    obtain ⟨rfl, N26q, K26, P26_0, P26_1, P26_2⟩ := hQ26
    have N26 := Fr.app N24 N26q
    refine own_go ?_ (fun target hr => st26.trans (XS.astore X26.here hx rfl (hb hby at_156) rfl rfl (l' := #[iv p1, iv p2, iv p3, iv p4, iv p5, iv ((p2 &&& (255 : Int32)).toUInt32.toUInt16.toUInt32.toInt32), iv ((p3 &&& (255 : Int32)).toUInt32.toUInt16.toUInt32.toInt32), iv ((p4 &&& (255 : Int32)).toUInt32.toUInt16.toUInt32.toInt32), rv b1_0, rv b2, rv b7, iv (2 : Int32), rv b21, rv b25, .unset]) rfl (XS.aload X26.here hx rfl (hb hby at_158) rfl rfl (XS.aload X26.here hx rfl (hb hby at_160) rfl rfl (XS.iconst X26.here hx rfl (hb hby at_162) hr)))))
    show own_G _ p e below s _ _ _ (T26.setTop (mkF m 163 #[iv p1, iv p2, iv p3, iv p4, iv p5, iv ((p2 &&& (255 : Int32)).toUInt32.toUInt16.toUInt32.toInt32), iv ((p3 &&& (255 : Int32)).toUInt32.toUInt16.toUInt32.toInt32), iv ((p4 &&& (255 : Int32)).toUInt32.toUInt16.toUInt32.toInt32), rv b1_0, rv b2, rv b7, iv (2 : Int32), rv b21, rv b25, .unset] [(.int (0 : Int32)), (.ref b25), (.ref b1_0)]))
    have ne_b21_b25 : b21 ≠ b25 := Nat.ne_of_lt (Nat.lt_of_lt_of_le A21.lt (Nat.le_trans K22.1 (Nat.le_trans K23.1 (Nat.le_trans K24.1 (Nat.le_of_eq g25.symm)))))
    obtain ⟨cq27, kq27, q27a, q27b, q27c⟩ := isOf hZ rfl P26_0
    obtain ⟨_, _, ⟨T27, L27, k27, n27⟩, -, X27, ⟨Lc27, hQ27, l27, y27, z27⟩, st27⟩ := X26.virtualBack hx (y := (⟨"com/example/tableau_abduction/tableauabduction/cli/TabSeparatedFile$Row", "field", "(I)Ljava/lang/String;"⟩ : MethodName)) (z := (⟨"com/example/tableau_abduction/tableauabduction/cli/TabSeparatedFile$Row", "field", "(I)Ljava/lang/String;"⟩ : MethodName)) hown (mvT hZ (hw _ (List.mem_of_getElem? (i := 119) rfl))) (mvT hZ (hw _ (List.mem_of_getElem? (i := 120) rfl))) (notFace_of_selects (args := #[]) (mvT hZ (hw _ (List.mem_of_getElem? (i := 122) rfl)))) (mvT hZ (hw _ (List.mem_of_getElem? (i := 122) rfl))) (mvT hZ (hw _ (List.mem_of_getElem? (i := 121) rfl))) (by decide) (backOf (W := 1) (rm_field_2_0 l Z a0 hw [] b25 b21 b23_0 kb23_1 b1_0 b2 T26.heap n0 (Nat.le_trans (Nat.le_trans (Nat.le_trans (Nat.le_trans (Nat.le_trans (Nat.le_trans (Nat.le_trans (Nat.le_trans (Nat.le_trans (Nat.le_trans (Nat.le_trans (Nat.le_trans (Nat.le_trans (Nat.le_trans (Nat.le_trans (Nat.le_trans (Nat.le_trans (Nat.le_trans Z0 K1.1) E2.1) E3.1) (Keep.of_wr W4).1) (Keep.of_wr W5).1) K6.1) E7.1) E8.1) (Keep.of_wr W9).1) (Keep.of_wr W10).1) (Keep.of_wr W11).1) K12.1) E21.1) K22.1) K23.1) K24.1) E25.1) K26.1) P26_2 ((P24_0.ext E25).keep K26) ((P24_2.ext E25).keep K26 (ninS ne_b21_b25 nin0)) ((P24_3.ext E25).keep K26 (ninS ne_b21_b25 nin0)) ((P24_4.ext E25).keep K26 (ninS (Nat.ne_of_lt (Nat.lt_of_lt_of_le P23_4.lt (Nat.le_trans K24.1 (Nat.le_of_eq g25.symm)))) nin0)) (((((((((((((((((P1_0.ext E2).ext E3).wr W4).wr W5).keep K6).ext E7).ext E8).wr W9).wr W10).wr W11).keep K12).ext E21).keep K22).keep K23).keep K24).ext E25).keep K26)) hZ (hw _ (List.mem_of_getElem? (i := 123) rfl)) (hw _ (List.mem_of_getElem? (i := 105) rfl)) (by decide) (by decide)) q27a q27c (g := (mkF m 163 #[iv p1, iv p2, iv p3, iv p4, iv p5, iv ((p2 &&& (255 : Int32)).toUInt32.toUInt16.toUInt32.toInt32), iv ((p3 &&& (255 : Int32)).toUInt32.toUInt16.toUInt32.toInt32), iv ((p4 &&& (255 : Int32)).toUInt32.toUInt16.toUInt32.toInt32), rv b1_0, rv b2, rv b7, iv (2 : Int32), rv b21, rv b25, .unset] [(.int (0 : Int32)), (.ref b25), (.ref b1_0)])) rfl (by rw [hml]; rfl) (Steps.refl _) (argsL := [(.int (0 : Int32))]) (rest := [(.ref b1_0)]) (lenOf pd__I_Ljava_lang_String_ rfl) rfl (by show 2 * 0 + _ ≤ _; exact Nat.le_of_eq rfl) (hb hby at_163) (fun _ _ => ⟨rfl, rfl, (by decide : 11 + 0 ≤ _), (by decide : 38 + 0 ≤ _)⟩)
    dsimp only [Pt.U, Pt.locs, Pt.cells, Pt.slots] at X27 l27 y27 z27 st27 hQ27
    subst l27 y27 z27
    obtain ⟨rfl, N27q, e27⟩ := hQ27
    have N27 := Fr.app N26 N27q
    refine own_go ?_ (fun target hr => st27.trans hr)
    show own_G _ p e below s _ _ _ (T27.setTop (mkF m 166 #[iv p1, iv p2, iv p3, iv p4, iv p5, iv ((p2 &&& (255 : Int32)).toUInt32.toUInt16.toUInt32.toInt32), iv ((p3 &&& (255 : Int32)).toUInt32.toUInt16.toUInt32.toInt32), iv ((p4 &&& (255 : Int32)).toUInt32.toUInt16.toUInt32.toInt32), rv b1_0, rv b2, rv b7, iv (2 : Int32), rv b21, rv b25, .unset] [(.ref b1_0), (.ref b1_0)]))
    obtain ⟨cq28, kq28, q28a, q28b, q28c⟩ := isOf hZ e27 (((((((((((((((((P1_0.ext E2).ext E3).wr W4).wr W5).keep K6).ext E7).ext E8).wr W9).wr W10).wr W11).keep K12).ext E21).keep K22).keep K23).keep K24).ext E25).keep K26)
    obtain ⟨_, _, ⟨T28, L28, k28, n28⟩, -, X28, ⟨Lc28, hQ28, l28, y28, z28⟩, st28⟩ := X27.virtualBack hx (y := (⟨"java/lang/String", "equals", "(Ljava/lang/Object;)Z"⟩ : MethodName)) (z := (⟨"java/lang/String", "equals", "(Ljava/lang/Object;)Z"⟩ : MethodName)) hown (mvT hZ (hw _ (List.mem_of_getElem? (i := 146) rfl))) (mvT hZ (hw _ (List.mem_of_getElem? (i := 147) rfl))) (notFace_of_selects (args := #[]) (mvT hZ (hw _ (List.mem_of_getElem? (i := 149) rfl)))) (mvT hZ (hw _ (List.mem_of_getElem? (i := 149) rfl))) (mvT hZ (hw _ (List.mem_of_getElem? (i := 148) rfl))) (by decide) (backOf (W := 0) (rm_eq l Z a0 hw [] b1_0 T26.heap n0 (Nat.le_trans (Nat.le_trans (Nat.le_trans (Nat.le_trans (Nat.le_trans (Nat.le_trans (Nat.le_trans (Nat.le_trans (Nat.le_trans (Nat.le_trans (Nat.le_trans (Nat.le_trans (Nat.le_trans (Nat.le_trans (Nat.le_trans (Nat.le_trans (Nat.le_trans (Nat.le_trans Z0 K1.1) E2.1) E3.1) (Keep.of_wr W4).1) (Keep.of_wr W5).1) K6.1) E7.1) E8.1) (Keep.of_wr W9).1) (Keep.of_wr W10).1) (Keep.of_wr W11).1) K12.1) E21.1) K22.1) K23.1) K24.1) E25.1) K26.1) ) hZ (hw _ (List.mem_of_getElem? (i := 150) rfl)) (hw _ (List.mem_of_getElem? (i := 2) rfl)) (by decide) (by decide)) q28a q28c (g := (mkF m 166 #[iv p1, iv p2, iv p3, iv p4, iv p5, iv ((p2 &&& (255 : Int32)).toUInt32.toUInt16.toUInt32.toInt32), iv ((p3 &&& (255 : Int32)).toUInt32.toUInt16.toUInt32.toInt32), iv ((p4 &&& (255 : Int32)).toUInt32.toUInt16.toUInt32.toInt32), rv b1_0, rv b2, rv b7, iv (2 : Int32), rv b21, rv b25, .unset] [(.ref b1_0), (.ref b1_0)])) rfl (by rw [hml]; rfl) (Steps.refl _) (argsL := [(.ref b1_0)]) (rest := []) (lenOf pd__Ljava_lang_Object__Z rfl) rfl (by show 2 * 0 + _ ≤ _; exact Nat.le_of_eq rfl) (hb hby at_166) (fun _ _ => ⟨rfl, e27, (by decide : 11 + 0 ≤ _), (by decide : 38 + 0 ≤ _)⟩)
    dsimp only [Pt.U, Pt.locs, Pt.cells, Pt.slots] at X28 l28 y28 z28 st28 hQ28
    subst l28 y28 z28
    obtain ⟨rfl, N28q, e28⟩ := hQ28
    have N28 := Fr.app N27 N28q
    refine own_go ?_ (fun target hr => st28.trans (XS.istore X28.here hx rfl (hb hby at_169) rfl (l' := #[iv p1, iv p2, iv p3, iv p4, iv p5, iv ((p2 &&& (255 : Int32)).toUInt32.toUInt16.toUInt32.toInt32), iv ((p3 &&& (255 : Int32)).toUInt32.toUInt16.toUInt32.toInt32), iv ((p4 &&& (255 : Int32)).toUInt32.toUInt16.toUInt32.toInt32), rv b1_0, rv b2, rv b7, iv (2 : Int32), rv b21, rv b25, iv (1 : Int32)]) rfl (XS.iload X28.here hx rfl (hb hby at_171) rfl (XS.iconst X28.here hx rfl (hb hby at_173) (XS.icmpNo X28.here hx rfl (hb hby at_174) rfl (flt (by decide : ¬ ((2 : Int32) < (2 : Int32)))).1 (XS.iload X28.here hx rfl (hb hby at_177) rfl (XS.ifNo X28.here hx rfl (hb hby at_179) rfl ((if0 _ _).trans (feq (by decide : ¬ ((1 : Int32) = (0 : Int32)))).1) (XS.aload X28.here hx rfl (hb hby at_182) rfl rfl hr))))))))
    show own_G _ p e below s _ _ _ (T28.setTop (mkF m 184 #[iv p1, iv p2, iv p3, iv p4, iv p5, iv ((p2 &&& (255 : Int32)).toUInt32.toUInt16.toUInt32.toInt32), iv ((p3 &&& (255 : Int32)).toUInt32.toUInt16.toUInt32.toInt32), iv ((p4 &&& (255 : Int32)).toUInt32.toUInt16.toUInt32.toInt32), rv b1_0, rv b2, rv b7, iv (2 : Int32), rv b21, rv b25, iv (1 : Int32)] [(.ref b2)]))
    refine own_go ?_ (fun target hr => XS.aload X28.here hx rfl (hb hby at_184) rfl rfl (XS.iconst X28.here hx rfl (hb hby at_186) hr))
    show own_G _ p e below s _ _ _ (T28.setTop (mkF m 187 #[iv p1, iv p2, iv p3, iv p4, iv p5, iv ((p2 &&& (255 : Int32)).toUInt32.toUInt16.toUInt32.toInt32), iv ((p3 &&& (255 : Int32)).toUInt32.toUInt16.toUInt32.toInt32), iv ((p4 &&& (255 : Int32)).toUInt32.toUInt16.toUInt32.toInt32), rv b1_0, rv b2, rv b7, iv (2 : Int32), rv b21, rv b25, iv (1 : Int32)] [(.int (1 : Int32)), (.ref b25), (.ref b2)]))
    obtain ⟨cq29, kq29, q29a, q29b, q29c⟩ := isOf hZ e28 P26_0
    obtain ⟨_, _, ⟨T29, L29, k29, n29⟩, -, X29, ⟨Lc29, hQ29, l29, y29, z29⟩, st29⟩ := X28.virtualBack hx (y := (⟨"com/example/tableau_abduction/tableauabduction/cli/TabSeparatedFile$Row", "field", "(I)Ljava/lang/String;"⟩ : MethodName)) (z := (⟨"com/example/tableau_abduction/tableauabduction/cli/TabSeparatedFile$Row", "field", "(I)Ljava/lang/String;"⟩ : MethodName)) hown (mvT hZ (hw _ (List.mem_of_getElem? (i := 119) rfl))) (mvT hZ (hw _ (List.mem_of_getElem? (i := 120) rfl))) (notFace_of_selects (args := #[]) (mvT hZ (hw _ (List.mem_of_getElem? (i := 122) rfl)))) (mvT hZ (hw _ (List.mem_of_getElem? (i := 122) rfl))) (mvT hZ (hw _ (List.mem_of_getElem? (i := 121) rfl))) (by decide) (backOf (W := 1) (rm_field_2_1 l Z a0 hw [] b25 b21 b23_0 kb23_1 b1_0 b2 T26.heap n0 (Nat.le_trans (Nat.le_trans (Nat.le_trans (Nat.le_trans (Nat.le_trans (Nat.le_trans (Nat.le_trans (Nat.le_trans (Nat.le_trans (Nat.le_trans (Nat.le_trans (Nat.le_trans (Nat.le_trans (Nat.le_trans (Nat.le_trans (Nat.le_trans (Nat.le_trans (Nat.le_trans Z0 K1.1) E2.1) E3.1) (Keep.of_wr W4).1) (Keep.of_wr W5).1) K6.1) E7.1) E8.1) (Keep.of_wr W9).1) (Keep.of_wr W10).1) (Keep.of_wr W11).1) K12.1) E21.1) K22.1) K23.1) K24.1) E25.1) K26.1) P26_2 ((P24_0.ext E25).keep K26) ((P24_2.ext E25).keep K26 (ninS ne_b21_b25 nin0)) ((P24_3.ext E25).keep K26 (ninS ne_b21_b25 nin0)) ((P24_4.ext E25).keep K26 (ninS (Nat.ne_of_lt (Nat.lt_of_lt_of_le P23_4.lt (Nat.le_trans K24.1 (Nat.le_of_eq g25.symm)))) nin0)) ((((((((((((P6_0.ext E7).ext E8).wr W9).wr W10).wr W11).keep K12).ext E21).keep K22).keep K23).keep K24).ext E25).keep K26)) hZ (hw _ (List.mem_of_getElem? (i := 123) rfl)) (hw _ (List.mem_of_getElem? (i := 105) rfl)) (by decide) (by decide)) q29a q29c (g := (mkF m 187 #[iv p1, iv p2, iv p3, iv p4, iv p5, iv ((p2 &&& (255 : Int32)).toUInt32.toUInt16.toUInt32.toInt32), iv ((p3 &&& (255 : Int32)).toUInt32.toUInt16.toUInt32.toInt32), iv ((p4 &&& (255 : Int32)).toUInt32.toUInt16.toUInt32.toInt32), rv b1_0, rv b2, rv b7, iv (2 : Int32), rv b21, rv b25, iv (1 : Int32)] [(.int (1 : Int32)), (.ref b25), (.ref b2)])) rfl (by rw [hml]; rfl) (Steps.refl _) (argsL := [(.int (1 : Int32))]) (rest := [(.ref b2)]) (lenOf pd__I_Ljava_lang_String_ rfl) rfl (by show 2 * 0 + _ ≤ _; exact Nat.le_of_eq rfl) (hb hby at_187) (fun _ _ => ⟨rfl, e28, (by decide : 11 + 0 ≤ _), (by decide : 38 + 0 ≤ _)⟩)
    dsimp only [Pt.U, Pt.locs, Pt.cells, Pt.slots] at X29 l29 y29 z29 st29 hQ29
    subst l29 y29 z29
    obtain ⟨rfl, N29q, e29⟩ := hQ29
    have N29 := Fr.app N28 N29q
    refine own_go ?_ (fun target hr => st29.trans hr)
    show own_G _ p e below s _ _ _ (T29.setTop (mkF m 190 #[iv p1, iv p2, iv p3, iv p4, iv p5, iv ((p2 &&& (255 : Int32)).toUInt32.toUInt16.toUInt32.toInt32), iv ((p3 &&& (255 : Int32)).toUInt32.toUInt16.toUInt32.toInt32), iv ((p4 &&& (255 : Int32)).toUInt32.toUInt16.toUInt32.toInt32), rv b1_0, rv b2, rv b7, iv (2 : Int32), rv b21, rv b25, iv (1 : Int32)] [(.ref b2), (.ref b2)]))
    obtain ⟨cq30, kq30, q30a, q30b, q30c⟩ := isOf hZ e29 ((((((((((((P6_0.ext E7).ext E8).wr W9).wr W10).wr W11).keep K12).ext E21).keep K22).keep K23).keep K24).ext E25).keep K26)
    obtain ⟨_, _, ⟨T30, L30, k30, n30⟩, -, X30, ⟨Lc30, hQ30, l30, y30, z30⟩, st30⟩ := X29.virtualBack hx (y := (⟨"java/lang/String", "equals", "(Ljava/lang/Object;)Z"⟩ : MethodName)) (z := (⟨"java/lang/String", "equals", "(Ljava/lang/Object;)Z"⟩ : MethodName)) hown (mvT hZ (hw _ (List.mem_of_getElem? (i := 146) rfl))) (mvT hZ (hw _ (List.mem_of_getElem? (i := 147) rfl))) (notFace_of_selects (args := #[]) (mvT hZ (hw _ (List.mem_of_getElem? (i := 149) rfl)))) (mvT hZ (hw _ (List.mem_of_getElem? (i := 149) rfl))) (mvT hZ (hw _ (List.mem_of_getElem? (i := 148) rfl))) (by decide) (backOf (W := 0) (rm_eq l Z a0 hw [] b2 T26.heap n0 (Nat.le_trans (Nat.le_trans (Nat.le_trans (Nat.le_trans (Nat.le_trans (Nat.le_trans (Nat.le_trans (Nat.le_trans (Nat.le_trans (Nat.le_trans (Nat.le_trans (Nat.le_trans (Nat.le_trans (Nat.le_trans (Nat.le_trans (Nat.le_trans (Nat.le_trans (Nat.le_trans Z0 K1.1) E2.1) E3.1) (Keep.of_wr W4).1) (Keep.of_wr W5).1) K6.1) E7.1) E8.1) (Keep.of_wr W9).1) (Keep.of_wr W10).1) (Keep.of_wr W11).1) K12.1) E21.1) K22.1) K23.1) K24.1) E25.1) K26.1) ) hZ (hw _ (List.mem_of_getElem? (i := 150) rfl)) (hw _ (List.mem_of_getElem? (i := 2) rfl)) (by decide) (by decide)) q30a q30c (g := (mkF m 190 #[iv p1, iv p2, iv p3, iv p4, iv p5, iv ((p2 &&& (255 : Int32)).toUInt32.toUInt16.toUInt32.toInt32), iv ((p3 &&& (255 : Int32)).toUInt32.toUInt16.toUInt32.toInt32), iv ((p4 &&& (255 : Int32)).toUInt32.toUInt16.toUInt32.toInt32), rv b1_0, rv b2, rv b7, iv (2 : Int32), rv b21, rv b25, iv (1 : Int32)] [(.ref b2), (.ref b2)])) rfl (by rw [hml]; rfl) (Steps.refl _) (argsL := [(.ref b2)]) (rest := []) (lenOf pd__Ljava_lang_Object__Z rfl) rfl (by show 2 * 0 + _ ≤ _; exact Nat.le_of_eq rfl) (hb hby at_190) (fun _ _ => ⟨rfl, e29, (by decide : 11 + 0 ≤ _), (by decide : 38 + 0 ≤ _)⟩)
    dsimp only [Pt.U, Pt.locs, Pt.cells, Pt.slots] at X30 l30 y30 z30 st30 hQ30
    subst l30 y30 z30
    obtain ⟨rfl, N30q, e30⟩ := hQ30
    have N30 := Fr.app N29 N30q
    refine own_go ?_ (fun target hr => st30.trans (XS.ifNo X30.here hx rfl (hb hby at_193) rfl ((if0 _ _).trans (feq (by decide : ¬ ((1 : Int32) = (0 : Int32)))).1) (XS.iconst X30.here hx rfl (hb hby at_196) (XS.goto X30.here hx rfl (pc0 := 197) (pc' := 201) rfl (hb hby at_197) (by decide) (by decide) (XS.istore X30.here hx rfl (hb hby at_201) rfl (l' := #[iv p1, iv p2, iv p3, iv p4, iv p5, iv ((p2 &&& (255 : Int32)).toUInt32.toUInt16.toUInt32.toInt32), iv ((p3 &&& (255 : Int32)).toUInt32.toUInt16.toUInt32.toInt32), iv ((p4 &&& (255 : Int32)).toUInt32.toUInt16.toUInt32.toInt32), rv b1_0, rv b2, rv b7, iv (2 : Int32), rv b21, rv b25, iv (1 : Int32)]) rfl (XS.iload X30.here hx rfl (hb hby at_203) rfl (XS.iconst X30.here hx rfl (hb hby at_205) (XS.icmpYes X30.here hx rfl (pc0 := 206) (pc' := 235) rfl (hb hby at_206) rfl (tlt (by decide : (2 : Int32) < (3 : Int32))).1 (by decide) (by decide) hr))))))))
    show own_G _ p e below s _ _ _ (T30.setTop (mkF m 235 #[iv p1, iv p2, iv p3, iv p4, iv p5, iv ((p2 &&& (255 : Int32)).toUInt32.toUInt16.toUInt32.toInt32), iv ((p3 &&& (255 : Int32)).toUInt32.toUInt16.toUInt32.toInt32), iv ((p4 &&& (255 : Int32)).toUInt32.toUInt16.toUInt32.toInt32), rv b1_0, rv b2, rv b7, iv (2 : Int32), rv b21, rv b25, iv (1 : Int32)] []))
    refine own_go ?_ (fun target hr => XS.iload X30.here hx rfl (hb hby at_235) rfl (XS.ifNo X30.here hx rfl (hb hby at_237) rfl ((if0 _ _).trans (feq (by decide : ¬ ((1 : Int32) = (0 : Int32)))).1) (XS.aload X30.here hx rfl (hb hby at_240) rfl rfl hr)))
    show own_G _ p e below s _ _ _ (T30.setTop (mkF m 242 #[iv p1, iv p2, iv p3, iv p4, iv p5, iv ((p2 &&& (255 : Int32)).toUInt32.toUInt16.toUInt32.toInt32), iv ((p3 &&& (255 : Int32)).toUInt32.toUInt16.toUInt32.toInt32), iv ((p4 &&& (255 : Int32)).toUInt32.toUInt16.toUInt32.toInt32), rv b1_0, rv b2, rv b7, iv (2 : Int32), rv b21, rv b25, iv (1 : Int32)] [(.ref b25)]))
    obtain ⟨cq31, kq31, q31a, q31b, q31c⟩ := isOf hZ e30 P26_0
    obtain ⟨_, _, ⟨T31, L31, k31, n31⟩, -, X31, ⟨Lc31, hQ31, l31, y31, z31⟩, st31⟩ := X30.virtualBack hx (y := (⟨"com/example/tableau_abduction/tableauabduction/cli/TabSeparatedFile$Row", "line", "()I"⟩ : MethodName)) (z := (⟨"com/example/tableau_abduction/tableauabduction/cli/TabSeparatedFile$Row", "line", "()I"⟩ : MethodName)) hown (mvT hZ (hw _ (List.mem_of_getElem? (i := 151) rfl))) (mvT hZ (hw _ (List.mem_of_getElem? (i := 152) rfl))) (notFace_of_selects (args := #[]) (mvT hZ (hw _ (List.mem_of_getElem? (i := 154) rfl)))) (mvT hZ (hw _ (List.mem_of_getElem? (i := 154) rfl))) (mvT hZ (hw _ (List.mem_of_getElem? (i := 153) rfl))) (by decide) (backOf (W := 0) (rm27 l Z a0 hw [] b25 p1 T26.heap n0 (Nat.le_trans (Nat.le_trans (Nat.le_trans (Nat.le_trans (Nat.le_trans (Nat.le_trans (Nat.le_trans (Nat.le_trans (Nat.le_trans (Nat.le_trans (Nat.le_trans (Nat.le_trans (Nat.le_trans (Nat.le_trans (Nat.le_trans (Nat.le_trans (Nat.le_trans (Nat.le_trans Z0 K1.1) E2.1) E3.1) (Keep.of_wr W4).1) (Keep.of_wr W5).1) K6.1) E7.1) E8.1) (Keep.of_wr W9).1) (Keep.of_wr W10).1) (Keep.of_wr W11).1) K12.1) E21.1) K22.1) K23.1) K24.1) E25.1) K26.1) P26_1) hZ (hw _ (List.mem_of_getElem? (i := 155) rfl)) (hw _ (List.mem_of_getElem? (i := 105) rfl)) (by decide) (by decide)) q31a q31c (g := (mkF m 242 #[iv p1, iv p2, iv p3, iv p4, iv p5, iv ((p2 &&& (255 : Int32)).toUInt32.toUInt16.toUInt32.toInt32), iv ((p3 &&& (255 : Int32)).toUInt32.toUInt16.toUInt32.toInt32), iv ((p4 &&& (255 : Int32)).toUInt32.toUInt16.toUInt32.toInt32), rv b1_0, rv b2, rv b7, iv (2 : Int32), rv b21, rv b25, iv (1 : Int32)] [(.ref b25)])) rfl (by rw [hml]; rfl) (Steps.refl _) (argsL := []) (rest := []) (lenOf pd___I rfl) rfl (by show 2 * 0 + _ ≤ _; exact Nat.le_of_eq rfl) (hb hby at_242) (fun _ _ => ⟨rfl, e30, (by decide : 11 + 0 ≤ _), (by decide : 38 + 0 ≤ _)⟩)
    dsimp only [Pt.U, Pt.locs, Pt.cells, Pt.slots] at X31 l31 y31 z31 st31 hQ31
    subst l31 y31 z31
    obtain ⟨rfl, N31q, e31⟩ := hQ31
    have N31 := Fr.app N30 N31q
    refine own_go ?_ (fun target hr => st31.trans (XS.iloadN X31.here hx rfl (hb hby at_245) rfl (XS.icmpNo X31.here hx rfl (hb hby at_246) rfl (teq (rfl : p1 = p1)).2 (XS.iconst X31.here hx rfl (hb hby at_249) (XS.goto X31.here hx rfl (pc0 := 250) (pc' := 254) rfl (hb hby at_250) (by decide) (by decide) hr)))))
    show own_G _ p e below s _ _ _ (T31.setTop (mkF m 254 #[iv p1, iv p2, iv p3, iv p4, iv p5, iv ((p2 &&& (255 : Int32)).toUInt32.toUInt16.toUInt32.toInt32), iv ((p3 &&& (255 : Int32)).toUInt32.toUInt16.toUInt32.toInt32), iv ((p4 &&& (255 : Int32)).toUInt32.toUInt16.toUInt32.toInt32), rv b1_0, rv b2, rv b7, iv (2 : Int32), rv b21, rv b25, iv (1 : Int32)] [(.int (1 : Int32))]))
    obtain ⟨fs, hr, hrun, hended, hW, hsame⟩ := X31.leave (v := some (.int (1 : Int32))) (fun h => by rw [Bd.returns] at h; cases h)
    exact ⟨_, _, retN X31 hx (t := .boolean) Bd.returns (by simp) (hb hby at_254) hr, hrun, hended, _, _, rfl, ⟨rfl, N31, trivial⟩, ⟨_, rfl⟩, hW, hsame.mono (by decide) (by decide)⟩
  ·
    rw [hs93_2]
    show own_G _ p e below s _ _ _ (T12.setTop (mkF m 93 #[iv p1, iv p2, iv p3, iv p4, iv p5, iv ((p2 &&& (255 : Int32)).toUInt32.toUInt16.toUInt32.toInt32), iv ((p3 &&& (255 : Int32)).toUInt32.toUInt16.toUInt32.toInt32), iv ((p4 &&& (255 : Int32)).toUInt32.toUInt16.toUInt32.toInt32), rv b1_0, rv b2, rv b7, .unset, .unset, .unset, .unset] [(.int (3 : Int32))]))
    refine own_go ?_ (fun target hr => XS.istore X12.here hx rfl (hb hby at_93) rfl (l' := #[iv p1, iv p2, iv p3, iv p4, iv p5, iv ((p2 &&& (255 : Int32)).toUInt32.toUInt16.toUInt32.toInt32), iv ((p3 &&& (255 : Int32)).toUInt32.toUInt16.toUInt32.toInt32), iv ((p4 &&& (255 : Int32)).toUInt32.toUInt16.toUInt32.toInt32), rv b1_0, rv b2, rv b7, iv (3 : Int32), .unset, .unset, .unset]) rfl hr)
    show own_G _ p e below s _ _ _ (T12.setTop (mkF m 95 #[iv p1, iv p2, iv p3, iv p4, iv p5, iv ((p2 &&& (255 : Int32)).toUInt32.toUInt16.toUInt32.toInt32), iv ((p3 &&& (255 : Int32)).toUInt32.toUInt16.toUInt32.toInt32), iv ((p4 &&& (255 : Int32)).toUInt32.toUInt16.toUInt32.toInt32), rv b1_0, rv b2, rv b7, iv (3 : Int32), .unset, .unset, .unset] []))
    obtain ⟨T32, h32, X32, e32, E32, A32, D32, -, st32⟩ := newO X12 hx hZ hown (hw _ (List.mem_of_getElem? (i := 44) rfl)) (hw _ (List.mem_of_getElem? (i := 45) rfl)) (hw _ (List.mem_of_getElem? (i := 46) rfl)) rfl (g := (mkF m 95 #[iv p1, iv p2, iv p3, iv p4, iv p5, iv ((p2 &&& (255 : Int32)).toUInt32.toUInt16.toUInt32.toInt32), iv ((p3 &&& (255 : Int32)).toUInt32.toUInt16.toUInt32.toInt32), iv ((p4 &&& (255 : Int32)).toUInt32.toUInt16.toUInt32.toInt32), rv b1_0, rv b2, rv b7, iv (3 : Int32), .unset, .unset, .unset] [])) rfl (hb hby at_95) (by decide) (by decide)
    obtain ⟨b32, g32⟩ : ∃ z, z = T12.heap.size := ⟨_, rfl⟩
    rw [← g32] at A32 D32 st32
    have g_b32 : n0 ≤ b32 := Nat.le_trans (Nat.le_trans (Nat.le_trans (Nat.le_trans (Nat.le_trans (Nat.le_trans (Nat.le_trans (Nat.le_trans (Nat.le_trans (Nat.le_trans (Nat.le_trans (Nat.le_trans (Nat.le_trans Z0 K1.1) E2.1) E3.1) (Keep.of_wr W4).1) (Keep.of_wr W5).1) K6.1) E7.1) E8.1) (Keep.of_wr W9).1) (Keep.of_wr W10).1) (Keep.of_wr W11).1) K12.1) (Nat.le_of_eq g32.symm)
    have F32_64 : Fld Z h32 b32 "java/util/AbstractList" "modCount" "I" (.int (0 : Int32)) := D32 (Or.inl (hw _ (List.mem_of_getElem? (i := 64) rfl))) (ty := .int) (by decide)
    have F32_67 : Fld Z h32 b32 "java/util/ArrayList" "elementData" "[Ljava/lang/Object;" .null := D32 (Or.inl (hw _ (List.mem_of_getElem? (i := 67) rfl))) (ty := (.array (.object "java/lang/Object"))) (by decide)
    have F32_80 : Fld Z h32 b32 "java/util/ArrayList" "size" "I" (.int (0 : Int32)) := D32 (Or.inl (hw _ (List.mem_of_getElem? (i := 80) rfl))) (ty := .int) (by decide)
    refine own_go ?_ (fun target hr => st32 _ (XS.dup X32.here hx rfl (hb hby at_98) rfl rfl hr))
    show own_G _ p e below s _ _ _ (T32.setTop (mkF m 99 #[iv p1, iv p2, iv p3, iv p4, iv p5, iv ((p2 &&& (255 : Int32)).toUInt32.toUInt16.toUInt32.toInt32), iv ((p3 &&& (255 : Int32)).toUInt32.toUInt16.toUInt32.toInt32), iv ((p4 &&& (255 : Int32)).toUInt32.toUInt16.toUInt32.toInt32), rv b1_0, rv b2, rv b7, iv (3 : Int32), .unset, .unset, .unset] [(.ref b32), (.ref b32)]))
    obtain ⟨_, _, ⟨T33, L33, k33, n33⟩, -, X33, ⟨Lc33, hQ33, l33, y33, z33⟩, st33⟩ := X32.specialBack hx (y := (⟨"java/util/ArrayList", "<init>", "()V"⟩ : MethodName)) rfl hown (mvT hZ (hw _ (List.mem_of_getElem? (i := 47) rfl))) (mvT hZ (hw _ (List.mem_of_getElem? (i := 48) rfl))) (mvT hZ (hw _ (List.mem_of_getElem? (i := 49) rfl))) (by decide) (backOf (W := 1) (rm11 l Z a0 hw [] b32 (.int (0 : Int32)) (.null) (.int (0 : Int32)) wE h32 n0 (Nat.le_trans (Nat.le_trans (Nat.le_trans (Nat.le_trans (Nat.le_trans (Nat.le_trans (Nat.le_trans (Nat.le_trans (Nat.le_trans (Nat.le_trans (Nat.le_trans (Nat.le_trans (Nat.le_trans Z0 K1.1) E2.1) E3.1) (Keep.of_wr W4).1) (Keep.of_wr W5).1) K6.1) E7.1) E8.1) (Keep.of_wr W9).1) (Keep.of_wr W10).1) (Keep.of_wr W11).1) K12.1) E32.1) A32 F32_64 F32_67 F32_80 g_b32 (((((((((((((hold.keep K1 all0).ext E2).ext E3).wr W4 g_b3).wr W5 g_b3).keep K6 (allS g_b2 all0)).ext E7).ext E8).wr W9 g_b8).wr W10 g_b8).wr W11 g_b8).keep K12 (allS g_b7 all0)).ext E32) S_DEFAULTCAPACITY_EMPTY_ELEMENTDATA) hZ (hw _ (List.mem_of_getElem? (i := 49) rfl)) (hw _ (List.mem_of_getElem? (i := 46) rfl)) (by decide) (by decide)) (g := (mkF m 99 #[iv p1, iv p2, iv p3, iv p4, iv p5, iv ((p2 &&& (255 : Int32)).toUInt32.toUInt16.toUInt32.toInt32), iv ((p3 &&& (255 : Int32)).toUInt32.toUInt16.toUInt32.toInt32), iv ((p4 &&& (255 : Int32)).toUInt32.toUInt16.toUInt32.toInt32), rv b1_0, rv b2, rv b7, iv (3 : Int32), .unset, .unset, .unset] [(.ref b32), (.ref b32)])) rfl (by rw [hml]; rfl) (Steps.refl _) (a := b32) (argsL := []) (rest := [(.ref b32)]) (lenOf pd___V rfl) rfl (by show 2 * 0 + _ ≤ _; exact Nat.le_of_eq rfl) (hb hby at_99) (fun _ _ => ⟨rfl, e32, (by decide : 9 + 0 ≤ _), (by decide : 26 + 0 ≤ _)⟩)
    dsimp only [Pt.U, Pt.locs, Pt.cells, Pt.slots] at X33 l33 y33 z33 st33 hQ33
    subst l33 y33 z33
    obtain ⟨rfl, N33q, K33, P33_0, P33_1, P33_2, P33_3⟩ := hQ33
    have N33 := Fr.app N12 N33q
    refine own_go ?_ (fun target hr => st33.trans (XS.astore X33.here hx rfl (hb hby at_102) rfl rfl (l' := #[iv p1, iv p2, iv p3, iv p4, iv p5, iv ((p2 &&& (255 : Int32)).toUInt32.toUInt16.toUInt32.toInt32), iv ((p3 &&& (255 : Int32)).toUInt32.toUInt16.toUInt32.toInt32), iv ((p4 &&& (255 : Int32)).toUInt32.toUInt16.toUInt32.toInt32), rv b1_0, rv b2, rv b7, iv (3 : Int32), rv b32, .unset, .unset]) rfl (XS.aload X33.here hx rfl (hb hby at_104) rfl rfl (XS.aload X33.here hx rfl (hb hby at_106) rfl rfl hr))))
    show own_G _ p e below s _ _ _ (T33.setTop (mkF m 108 #[iv p1, iv p2, iv p3, iv p4, iv p5, iv ((p2 &&& (255 : Int32)).toUInt32.toUInt16.toUInt32.toInt32), iv ((p3 &&& (255 : Int32)).toUInt32.toUInt16.toUInt32.toInt32), iv ((p4 &&& (255 : Int32)).toUInt32.toUInt16.toUInt32.toInt32), rv b1_0, rv b2, rv b7, iv (3 : Int32), rv b32, .unset, .unset] [(.ref b1_0), (.ref b32)]))
    obtain ⟨cq34, kq34, q34a, q34b, q34c⟩ := isOf hZ rfl P33_0
    obtain ⟨_, _, ⟨T34, L34, k34, n34⟩, -, X34, ⟨Lc34, hQ34, l34, y34, z34⟩, st34⟩ := X33.interfaceBack hx (xi := (⟨"java/util/List", "add", "(Ljava/lang/Object;)Z"⟩ : MethodName)) (y := (⟨"java/util/ArrayList", "add", "(Ljava/lang/Object;)Z"⟩ : MethodName)) hown (mvT hZ (hw _ (List.mem_of_getElem? (i := 68) rfl))) (mvT hZ (hw _ (List.mem_of_getElem? (i := 69) rfl))) (mvT hZ (hw _ (List.mem_of_getElem? (i := 70) rfl))) (mvT hZ (hw _ (List.mem_of_getElem? (i := 71) rfl))) (mvT hZ (hw _ (List.mem_of_getElem? (i := 72) rfl))) (mvT hZ (hw _ (List.mem_of_getElem? (i := 73) rfl))) (mvT hZ (hw _ (List.mem_of_getElem? (i := 74) rfl))) (mvT hZ (hw _ (List.mem_of_getElem? (i := 75) rfl))) (by decide) (backOf (W := 0) (rm_add1_0 l Z a0 hw [] b32 b1_0 (0 : Int32) wE kE T33.heap n0 (Nat.le_trans (Nat.le_trans (Nat.le_trans (Nat.le_trans (Nat.le_trans (Nat.le_trans (Nat.le_trans (Nat.le_trans (Nat.le_trans (Nat.le_trans (Nat.le_trans (Nat.le_trans (Nat.le_trans (Nat.le_trans Z0 K1.1) E2.1) E3.1) (Keep.of_wr W4).1) (Keep.of_wr W5).1) K6.1) E7.1) E8.1) (Keep.of_wr W9).1) (Keep.of_wr W10).1) (Keep.of_wr W11).1) K12.1) E32.1) K33.1) P33_0 P33_1 P33_2 P33_3 g_b32 ((((((((((((((hold.keep K1 all0).ext E2).ext E3).wr W4 g_b3).wr W5 g_b3).keep K6 (allS g_b2 all0)).ext E7).ext E8).wr W9 g_b8).wr W10 g_b8).wr W11 g_b8).keep K12 (allS g_b7 all0)).ext E32).keep K33 (allS g_b32 all0)) S_DEFAULTCAPACITY_EMPTY_ELEMENTDATA V_wE (((((((((((((P1_0.ext E2).ext E3).wr W4).wr W5).keep K6).ext E7).ext E8).wr W9).wr W10).wr W11).keep K12).ext E32).keep K33)) hZ (hw _ (List.mem_of_getElem? (i := 76) rfl)) (hw _ (List.mem_of_getElem? (i := 46) rfl)) (by decide) (by decide)) q34a q34b q34c (g := (mkF m 108 #[iv p1, iv p2, iv p3, iv p4, iv p5, iv ((p2 &&& (255 : Int32)).toUInt32.toUInt16.toUInt32.toInt32), iv ((p3 &&& (255 : Int32)).toUInt32.toUInt16.toUInt32.toInt32), iv ((p4 &&& (255 : Int32)).toUInt32.toUInt16.toUInt32.toInt32), rv b1_0, rv b2, rv b7, iv (3 : Int32), rv b32, .unset, .unset] [(.ref b1_0), (.ref b32)])) rfl (by rw [hml]; rfl) (Steps.refl _) (argsL := [(.ref b1_0)]) (rest := []) (lenOf pd__Ljava_lang_Object__Z rfl) rfl (by show 2 * 0 + _ ≤ _; exact Nat.le_of_eq rfl) (hb hby at_108) (fun _ _ => ⟨rfl, rfl, (by decide : 9 + 1 ≤ _), (by decide : 26 + 10 ≤ _)⟩)
    dsimp only [Pt.U, Pt.locs, Pt.cells, Pt.slots] at X34 l34 y34 z34 st34 hQ34
    subst l34 y34 z34
    obtain ⟨b34_0, kb34_1, rfl, N34q, K34, yb34_0, P34_0, P34_1, P34_2, P34_3, P34_4, P34_5, P34_6⟩ := hQ34
    have g_b34_0 : n0 ≤ b34_0 := Nat.le_trans (Nat.le_trans (Nat.le_trans (Nat.le_trans (Nat.le_trans (Nat.le_trans (Nat.le_trans (Nat.le_trans (Nat.le_trans (Nat.le_trans (Nat.le_trans (Nat.le_trans (Nat.le_trans (Nat.le_trans (Nat.le_trans Z0 K1.1) E2.1) E3.1) (Keep.of_wr W4).1) (Keep.of_wr W5).1) K6.1) E7.1) E8.1) (Keep.of_wr W9).1) (Keep.of_wr W10).1) (Keep.of_wr W11).1) K12.1) E32.1) K33.1) yb34_0
    have N34 := Fr.app N33 N34q
    refine own_go ?_ (fun target hr => st34.trans (XS.pop X34.here hx rfl (hb hby at_113) rfl rfl (XS.iload X34.here hx rfl (hb hby at_114) rfl (XS.iconst X34.here hx rfl (hb hby at_116) (XS.icmpNo X34.here hx rfl (hb hby at_117) rfl (flt (by decide : ¬ ((3 : Int32) < (2 : Int32)))).1 (XS.aload X34.here hx rfl (hb hby at_120) rfl rfl (XS.aload X34.here hx rfl (hb hby at_122) rfl rfl hr)))))))
    show own_G _ p e below s _ _ _ (T34.setTop (mkF m 124 #[iv p1, iv p2, iv p3, iv p4, iv p5, iv ((p2 &&& (255 : Int32)).toUInt32.toUInt16.toUInt32.toInt32), iv ((p3 &&& (255 : Int32)).toUInt32.toUInt16.toUInt32.toInt32), iv ((p4 &&& (255 : Int32)).toUInt32.toUInt16.toUInt32.toInt32), rv b1_0, rv b2, rv b7, iv (3 : Int32), rv b32, .unset, .unset] [(.ref b2), (.ref b32)]))
    obtain ⟨cq35, kq35, q35a, q35b, q35c⟩ := isOf hZ rfl P34_0
    obtain ⟨_, _, ⟨T35, L35, k35, n35⟩, -, X35, ⟨Lc35, hQ35, l35, y35, z35⟩, st35⟩ := X34.interfaceBack hx (xi := (⟨"java/util/List", "add", "(Ljava/lang/Object;)Z"⟩ : MethodName)) (y := (⟨"java/util/ArrayList", "add", "(Ljava/lang/Object;)Z"⟩ : MethodName)) hown (mvT hZ (hw _ (List.mem_of_getElem? (i := 68) rfl))) (mvT hZ (hw _ (List.mem_of_getElem? (i := 69) rfl))) (mvT hZ (hw _ (List.mem_of_getElem? (i := 70) rfl))) (mvT hZ (hw _ (List.mem_of_getElem? (i := 71) rfl))) (mvT hZ (hw _ (List.mem_of_getElem? (i := 72) rfl))) (mvT hZ (hw _ (List.mem_of_getElem? (i := 73) rfl))) (mvT hZ (hw _ (List.mem_of_getElem? (i := 74) rfl))) (mvT hZ (hw _ (List.mem_of_getElem? (i := 75) rfl))) (by decide) (backOf (W := 0) (rm_add1_1 l Z a0 hw [] b32 b2 ((0 : Int32) + (1 : Int32)) b34_0 kb34_1 b1_0 T34.heap n0 (Nat.le_trans (Nat.le_trans (Nat.le_trans (Nat.le_trans (Nat.le_trans (Nat.le_trans (Nat.le_trans (Nat.le_trans (Nat.le_trans (Nat.le_trans (Nat.le_trans (Nat.le_trans (Nat.le_trans (Nat.le_trans (Nat.le_trans Z0 K1.1) E2.1) E3.1) (Keep.of_wr W4).1) (Keep.of_wr W5).1) K6.1) E7.1) E8.1) (Keep.of_wr W9).1) (Keep.of_wr W10).1) (Keep.of_wr W11).1) K12.1) E32.1) K33.1) K34.1) P34_0 P34_1 P34_2 P34_3 P34_4 P34_6 (((((((((P6_0.ext E7).ext E8).wr W9).wr W10).wr W11).keep K12).ext E32).keep K33).keep K34) g_b32 g_b34_0 (Nat.ne_of_lt (Nat.lt_of_lt_of_le A32.lt (Nat.le_trans K33.1 yb34_0)))) hZ (hw _ (List.mem_of_getElem? (i := 76) rfl)) (hw _ (List.mem_of_getElem? (i := 46) rfl)) (by decide) (by decide)) q35a q35b q35c (g := (mkF m 124 #[iv p1, iv p2, iv p3, iv p4, iv p5, iv ((p2 &&& (255 : Int32)).toUInt32.toUInt16.toUInt32.toInt32), iv ((p3 &&& (255 : Int32)).toUInt32.toUInt16.toUInt32.toInt32), iv ((p4 &&& (255 : Int32)).toUInt32.toUInt16.toUInt32.toInt32), rv b1_0, rv b2, rv b7, iv (3 : Int32), rv b32, .unset, .unset] [(.ref b2), (.ref b32)])) rfl (by rw [hml]; rfl) (Steps.refl _) (argsL := [(.ref b2)]) (rest := []) (lenOf pd__Ljava_lang_Object__Z rfl) rfl (by show 2 * 0 + _ ≤ _; exact Nat.le_of_eq rfl) (hb hby at_124) (fun _ _ => ⟨rfl, rfl, (by decide : 10 + 0 ≤ _), (by decide : 36 + 0 ≤ _)⟩)
    dsimp only [Pt.U, Pt.locs, Pt.cells, Pt.slots] at X35 l35 y35 z35 st35 hQ35
    subst l35 y35 z35
    obtain ⟨rfl, N35q, K35, P35_0, P35_1, P35_2, P35_3, P35_4⟩ := hQ35
    have N35 := Fr.app N34 N35q
    refine own_go ?_ (fun target hr => st35.trans (XS.pop X35.here hx rfl (hb hby at_129) rfl rfl (XS.iload X35.here hx rfl (hb hby at_130) rfl (XS.iconst X35.here hx rfl (hb hby at_132) (XS.icmpNo X35.here hx rfl (hb hby at_133) rfl (flt (by decide : ¬ ((3 : Int32) < (3 : Int32)))).1 (XS.aload X35.here hx rfl (hb hby at_136) rfl rfl (XS.aload X35.here hx rfl (hb hby at_138) rfl rfl hr)))))))
    show own_G _ p e below s _ _ _ (T35.setTop (mkF m 140 #[iv p1, iv p2, iv p3, iv p4, iv p5, iv ((p2 &&& (255 : Int32)).toUInt32.toUInt16.toUInt32.toInt32), iv ((p3 &&& (255 : Int32)).toUInt32.toUInt16.toUInt32.toInt32), iv ((p4 &&& (255 : Int32)).toUInt32.toUInt16.toUInt32.toInt32), rv b1_0, rv b2, rv b7, iv (3 : Int32), rv b32, .unset, .unset] [(.ref b7), (.ref b32)]))
    obtain ⟨cq36, kq36, q36a, q36b, q36c⟩ := isOf hZ rfl P35_0
    obtain ⟨_, _, ⟨T36, L36, k36, n36⟩, -, X36, ⟨Lc36, hQ36, l36, y36, z36⟩, st36⟩ := X35.interfaceBack hx (xi := (⟨"java/util/List", "add", "(Ljava/lang/Object;)Z"⟩ : MethodName)) (y := (⟨"java/util/ArrayList", "add", "(Ljava/lang/Object;)Z"⟩ : MethodName)) hown (mvT hZ (hw _ (List.mem_of_getElem? (i := 68) rfl))) (mvT hZ (hw _ (List.mem_of_getElem? (i := 69) rfl))) (mvT hZ (hw _ (List.mem_of_getElem? (i := 70) rfl))) (mvT hZ (hw _ (List.mem_of_getElem? (i := 71) rfl))) (mvT hZ (hw _ (List.mem_of_getElem? (i := 72) rfl))) (mvT hZ (hw _ (List.mem_of_getElem? (i := 73) rfl))) (mvT hZ (hw _ (List.mem_of_getElem? (i := 74) rfl))) (mvT hZ (hw _ (List.mem_of_getElem? (i := 75) rfl))) (by decide) (backOf (W := 0) (rm_add1_2 l Z a0 hw [] b32 b7 (((0 : Int32) + (1 : Int32)) + (1 : Int32)) b34_0 kb34_1 b1_0 b2 T35.heap n0 (Nat.le_trans (Nat.le_trans (Nat.le_trans (Nat.le_trans (Nat.le_trans (Nat.le_trans (Nat.le_trans (Nat.le_trans (Nat.le_trans (Nat.le_trans (Nat.le_trans (Nat.le_trans (Nat.le_trans (Nat.le_trans (Nat.le_trans (Nat.le_trans Z0 K1.1) E2.1) E3.1) (Keep.of_wr W4).1) (Keep.of_wr W5).1) K6.1) E7.1) E8.1) (Keep.of_wr W9).1) (Keep.of_wr W10).1) (Keep.of_wr W11).1) K12.1) E32.1) K33.1) K34.1) K35.1) P35_0 P35_1 P35_2 P35_3 P35_4 P34_6 ((((P12_0.ext E32).keep K33).keep K34).keep K35) g_b32 g_b34_0 (Nat.ne_of_lt (Nat.lt_of_lt_of_le A32.lt (Nat.le_trans K33.1 yb34_0)))) hZ (hw _ (List.mem_of_getElem? (i := 76) rfl)) (hw _ (List.mem_of_getElem? (i := 46) rfl)) (by decide) (by decide)) q36a q36b q36c (g := (mkF m 140 #[iv p1, iv p2, iv p3, iv p4, iv p5, iv ((p2 &&& (255 : Int32)).toUInt32.toUInt16.toUInt32.toInt32), iv ((p3 &&& (255 : Int32)).toUInt32.toUInt16.toUInt32.toInt32), iv ((p4 &&& (255 : Int32)).toUInt32.toUInt16.toUInt32.toInt32), rv b1_0, rv b2, rv b7, iv (3 : Int32), rv b32, .unset, .unset] [(.ref b7), (.ref b32)])) rfl (by rw [hml]; rfl) (Steps.refl _) (argsL := [(.ref b7)]) (rest := []) (lenOf pd__Ljava_lang_Object__Z rfl) rfl (by show 2 * 0 + _ ≤ _; exact Nat.le_of_eq rfl) (hb hby at_140) (fun _ _ => ⟨rfl, rfl, (by decide : 10 + 0 ≤ _), (by decide : 36 + 0 ≤ _)⟩)
    dsimp only [Pt.U, Pt.locs, Pt.cells, Pt.slots] at X36 l36 y36 z36 st36 hQ36
    subst l36 y36 z36
    obtain ⟨rfl, N36q, K36, P36_0, P36_1, P36_2, P36_3, P36_4⟩ := hQ36
    have N36 := Fr.app N35 N36q
    refine own_go ?_ (fun target hr => st36.trans (XS.pop X36.here hx rfl (hb hby at_145) rfl rfl hr))
    show own_G _ p e below s _ _ _ (T36.setTop (mkF m 146 #[iv p1, iv p2, iv p3, iv p4, iv p5, iv ((p2 &&& (255 : Int32)).toUInt32.toUInt16.toUInt32.toInt32), iv ((p3 &&& (255 : Int32)).toUInt32.toUInt16.toUInt32.toInt32), iv ((p4 &&& (255 : Int32)).toUInt32.toUInt16.toUInt32.toInt32), rv b1_0, rv b2, rv b7, iv (3 : Int32), rv b32, .unset, .unset] []))
    obtain ⟨T37, h37, X37, e37, E37, A37, D37, -, st37⟩ := newO X36 hx hZ hown (hw _ (List.mem_of_getElem? (i := 103) rfl)) (hw _ (List.mem_of_getElem? (i := 104) rfl)) (hw _ (List.mem_of_getElem? (i := 105) rfl)) rfl (g := (mkF m 146 #[iv p1, iv p2, iv p3, iv p4, iv p5, iv ((p2 &&& (255 : Int32)).toUInt32.toUInt16.toUInt32.toInt32), iv ((p3 &&& (255 : Int32)).toUInt32.toUInt16.toUInt32.toInt32), iv ((p4 &&& (255 : Int32)).toUInt32.toUInt16.toUInt32.toInt32), rv b1_0, rv b2, rv b7, iv (3 : Int32), rv b32, .unset, .unset] [])) rfl (hb hby at_146) (by decide) (by decide)
    obtain ⟨b37, g37⟩ : ∃ z, z = T36.heap.size := ⟨_, rfl⟩
    rw [← g37] at A37 D37 st37
    have g_b37 : n0 ≤ b37 := Nat.le_trans (Nat.le_trans (Nat.le_trans (Nat.le_trans (Nat.le_trans (Nat.le_trans (Nat.le_trans (Nat.le_trans (Nat.le_trans (Nat.le_trans (Nat.le_trans (Nat.le_trans (Nat.le_trans (Nat.le_trans (Nat.le_trans (Nat.le_trans (Nat.le_trans (Nat.le_trans Z0 K1.1) E2.1) E3.1) (Keep.of_wr W4).1) (Keep.of_wr W5).1) K6.1) E7.1) E8.1) (Keep.of_wr W9).1) (Keep.of_wr W10).1) (Keep.of_wr W11).1) K12.1) E32.1) K33.1) K34.1) K35.1) K36.1) (Nat.le_of_eq g37.symm)
    have F37_116 : Fld Z h37 b37 "com/example/tableau_abduction/tableauabduction/cli/TabSeparatedFile$Row" "line" "I" (.int (0 : Int32)) := D37 (Or.inr (hw _ (List.mem_of_getElem? (i := 116) rfl))) (ty := .int) (by decide)
    have F37_118 : Fld Z h37 b37 "com/example/tableau_abduction/tableauabduction/cli/TabSeparatedFile$Row" "fields" "Ljava/util/List;" .null := D37 (Or.inr (hw _ (List.mem_of_getElem? (i := 118) rfl))) (ty := (.object "java/util/List")) (by decide)
    refine own_go ?_ (fun target hr => st37 _ (XS.dup X37.here hx rfl (hb hby at_149) rfl rfl (XS.iloadN X37.here hx rfl (hb hby at_150) rfl (XS.aload X37.here hx rfl (hb hby at_151) rfl rfl hr))))
    show own_G _ p e below s _ _ _ (T37.setTop (mkF m 153 #[iv p1, iv p2, iv p3, iv p4, iv p5, iv ((p2 &&& (255 : Int32)).toUInt32.toUInt16.toUInt32.toInt32), iv ((p3 &&& (255 : Int32)).toUInt32.toUInt16.toUInt32.toInt32), iv ((p4 &&& (255 : Int32)).toUInt32.toUInt16.toUInt32.toInt32), rv b1_0, rv b2, rv b7, iv (3 : Int32), rv b32, .unset, .unset] [(.ref b32), (.int p1), (.ref b37), (.ref b37)]))
    obtain ⟨_, _, ⟨T38, L38, k38, n38⟩, -, X38, ⟨Lc38, hQ38, l38, y38, z38⟩, st38⟩ := X37.specialBack hx (y := (⟨"com/example/tableau_abduction/tableauabduction/cli/TabSeparatedFile$Row", "<init>", "(ILjava/util/List;)V"⟩ : MethodName)) rfl hown (mvT hZ (hw _ (List.mem_of_getElem? (i := 106) rfl))) (mvT hZ (hw _ (List.mem_of_getElem? (i := 107) rfl))) (mvT hZ (hw _ (List.mem_of_getElem? (i := 108) rfl))) (by decide) (backOf (W := 1) (rm19 l Z a0 hw [] b37 p1 b32 (.int (0 : Int32)) (.null) h37 n0 (Nat.le_trans (Nat.le_trans (Nat.le_trans (Nat.le_trans (Nat.le_trans (Nat.le_trans (Nat.le_trans (Nat.le_trans (Nat.le_trans (Nat.le_trans (Nat.le_trans (Nat.le_trans (Nat.le_trans (Nat.le_trans (Nat.le_trans (Nat.le_trans (Nat.le_trans (Nat.le_trans Z0 K1.1) E2.1) E3.1) (Keep.of_wr W4).1) (Keep.of_wr W5).1) K6.1) E7.1) E8.1) (Keep.of_wr W9).1) (Keep.of_wr W10).1) (Keep.of_wr W11).1) K12.1) E32.1) K33.1) K34.1) K35.1) K36.1) E37.1) A37 F37_116 F37_118 g_b37) hZ (hw _ (List.mem_of_getElem? (i := 108) rfl)) (hw _ (List.mem_of_getElem? (i := 105) rfl)) (by decide) (by decide)) (g := (mkF m 153 #[iv p1, iv p2, iv p3, iv p4, iv p5, iv ((p2 &&& (255 : Int32)).toUInt32.toUInt16.toUInt32.toInt32), iv ((p3 &&& (255 : Int32)).toUInt32.toUInt16.toUInt32.toInt32), iv ((p4 &&& (255 : Int32)).toUInt32.toUInt16.toUInt32.toInt32), rv b1_0, rv b2, rv b7, iv (3 : Int32), rv b32, .unset, .unset] [(.ref b32), (.int p1), (.ref b37), (.ref b37)])) rfl (by rw [hml]; rfl) (Steps.refl _) (a := b37) (argsL := [(.int p1), (.ref b32)]) (rest := [(.ref b37)]) (lenOf pd__ILjava_util_List__V rfl) rfl (by show 2 * 0 + _ ≤ _; exact Nat.le_of_eq rfl) (hb hby at_153) (fun _ _ => ⟨rfl, e37, (by decide : 11 + 0 ≤ _), (by decide : 38 + 0 ≤ _)⟩)
    dsimp only [Pt.U, Pt.locs, Pt.cells, Pt.slots] at X38 l38 y38 z38 st38 hQ38
    subst l38 y38 z38
    obtain ⟨rfl, N38q, K38, P38_0, P38_1, P38_2⟩ := hQ38
    have N38 := Fr.app N36 N38q
    refine own_go ?_ (fun target hr => st38.trans (XS.astore X38.here hx rfl (hb hby at_156) rfl rfl (l' := #[iv p1, iv p2, iv p3, iv p4, iv p5, iv ((p2 &&& (255 : Int32)).toUInt32.toUInt16.toUInt32.toInt32), iv ((p3 &&& (255 : Int32)).toUInt32.toUInt16.toUInt32.toInt32), iv ((p4 &&& (255 : Int32)).toUInt32.toUInt16.toUInt32.toInt32), rv b1_0, rv b2, rv b7, iv (3 : Int32), rv b32, rv b37, .unset]) rfl (XS.aload X38.here hx rfl (hb hby at_158) rfl rfl (XS.aload X38.here hx rfl (hb hby at_160) rfl rfl (XS.iconst X38.here hx rfl (hb hby at_162) hr)))))
    show own_G _ p e below s _ _ _ (T38.setTop (mkF m 163 #[iv p1, iv p2, iv p3, iv p4, iv p5, iv ((p2 &&& (255 : Int32)).toUInt32.toUInt16.toUInt32.toInt32), iv ((p3 &&& (255 : Int32)).toUInt32.toUInt16.toUInt32.toInt32), iv ((p4 &&& (255 : Int32)).toUInt32.toUInt16.toUInt32.toInt32), rv b1_0, rv b2, rv b7, iv (3 : Int32), rv b32, rv b37, .unset] [(.int (0 : Int32)), (.ref b37), (.ref b1_0)]))
    have ne_b32_b37 : b32 ≠ b37 := Nat.ne_of_lt (Nat.lt_of_lt_of_le A32.lt (Nat.le_trans K33.1 (Nat.le_trans K34.1 (Nat.le_trans K35.1 (Nat.le_trans K36.1 (Nat.le_of_eq g37.symm))))))
    have ne_b34_0_b37 : b34_0 ≠ b37 := Nat.ne_of_lt (Nat.lt_of_lt_of_le P34_4.lt (Nat.le_trans K35.1 (Nat.le_trans K36.1 (Nat.le_of_eq g37.symm))))
    obtain ⟨cq39, kq39, q39a, q39b, q39c⟩ := isOf hZ rfl P38_0
    obtain ⟨_, _, ⟨T39, L39, k39, n39⟩, -, X39, ⟨Lc39, hQ39, l39, y39, z39⟩, st39⟩ := X38.virtualBack hx (y := (⟨"com/example/tableau_abduction/tableauabduction/cli/TabSeparatedFile$Row", "field", "(I)Ljava/lang/String;"⟩ : MethodName)) (z := (⟨"com/example/tableau_abduction/tableauabduction/cli/TabSeparatedFile$Row", "field", "(I)Ljava/lang/String;"⟩ : MethodName)) hown (mvT hZ (hw _ (List.mem_of_getElem? (i := 119) rfl))) (mvT hZ (hw _ (List.mem_of_getElem? (i := 120) rfl))) (notFace_of_selects (args := #[]) (mvT hZ (hw _ (List.mem_of_getElem? (i := 122) rfl)))) (mvT hZ (hw _ (List.mem_of_getElem? (i := 122) rfl))) (mvT hZ (hw _ (List.mem_of_getElem? (i := 121) rfl))) (by decide) (backOf (W := 1) (rm_field_3_0 l Z a0 hw [] b37 b32 b34_0 kb34_1 b1_0 b2 b7 T38.heap n0 (Nat.le_trans (Nat.le_trans (Nat.le_trans (Nat.le_trans (Nat.le_trans (Nat.le_trans (Nat.le_trans (Nat.le_trans (Nat.le_trans (Nat.le_trans (Nat.le_trans (Nat.le_trans (Nat.le_trans (Nat.le_trans (Nat.le_trans (Nat.le_trans (Nat.le_trans (Nat.le_trans (Nat.le_trans Z0 K1.1) E2.1) E3.1) (Keep.of_wr W4).1) (Keep.of_wr W5).1) K6.1) E7.1) E8.1) (Keep.of_wr W9).1) (Keep.of_wr W10).1) (Keep.of_wr W11).1) K12.1) E32.1) K33.1) K34.1) K35.1) K36.1) E37.1) K38.1) P38_2 ((P36_0.ext E37).keep K38) ((P36_2.ext E37).keep K38 (ninS ne_b32_b37 nin0)) ((P36_3.ext E37).keep K38 (ninS ne_b32_b37 nin0)) ((P36_4.ext E37).keep K38 (ninS ne_b34_0_b37 nin0)) ((((((((((((((((((P1_0.ext E2).ext E3).wr W4).wr W5).keep K6).ext E7).ext E8).wr W9).wr W10).wr W11).keep K12).ext E32).keep K33).keep K34).keep K35).keep K36).ext E37).keep K38)) hZ (hw _ (List.mem_of_getElem? (i := 123) rfl)) (hw _ (List.mem_of_getElem? (i := 105) rfl)) (by decide) (by decide)) q39a q39c (g := (mkF m 163 #[iv p1, iv p2, iv p3, iv p4, iv p5, iv ((p2 &&& (255 : Int32)).toUInt32.toUInt16.toUInt32.toInt32), iv ((p3 &&& (255 : Int32)).toUInt32.toUInt16.toUInt32.toInt32), iv ((p4 &&& (255 : Int32)).toUInt32.toUInt16.toUInt32.toInt32), rv b1_0, rv b2, rv b7, iv (3 : Int32), rv b32, rv b37, .unset] [(.int (0 : Int32)), (.ref b37), (.ref b1_0)])) rfl (by rw [hml]; rfl) (Steps.refl _) (argsL := [(.int (0 : Int32))]) (rest := [(.ref b1_0)]) (lenOf pd__I_Ljava_lang_String_ rfl) rfl (by show 2 * 0 + _ ≤ _; exact Nat.le_of_eq rfl) (hb hby at_163) (fun _ _ => ⟨rfl, rfl, (by decide : 11 + 0 ≤ _), (by decide : 38 + 0 ≤ _)⟩)
    dsimp only [Pt.U, Pt.locs, Pt.cells, Pt.slots] at X39 l39 y39 z39 st39 hQ39
    subst l39 y39 z39
    obtain ⟨rfl, N39q, e39⟩ := hQ39
    have N39 := Fr.app N38 N39q
    refine own_go ?_ (fun target hr => st39.trans hr)
    show own_G _ p e below s _ _ _ (T39.setTop (mkF m 166 #[iv p1, iv p2, iv p3, iv p4, iv p5, iv ((p2 &&& (255 : Int32)).toUInt32.toUInt16.toUInt32.toInt32), iv ((p3 &&& (255 : Int32)).toUInt32.toUInt16.toUInt32.toInt32), iv ((p4 &&& (255 : Int32)).toUInt32.toUInt16.toUInt32.toInt32), rv b1_0, rv b2, rv b7, iv (3 : Int32), rv b32, rv b37, .unset] [(.ref b1_0), (.ref b1_0)]))
    obtain ⟨cq40, kq40, q40a, q40b, q40c⟩ := isOf hZ e39 ((((((((((((((((((P1_0.ext E2).ext E3).wr W4).wr W5).keep K6).ext E7).ext E8).wr W9).wr W10).wr W11).keep K12).ext E32).keep K33).keep K34).keep K35).keep K36).ext E37).keep K38)
    obtain ⟨_, _, ⟨T40, L40, k40, n40⟩, -, X40, ⟨Lc40, hQ40, l40, y40, z40⟩, st40⟩ := X39.virtualBack hx (y := (⟨"java/lang/String", "equals", "(Ljava/lang/Object;)Z"⟩ : MethodName)) (z := (⟨"java/lang/String", "equals", "(Ljava/lang/Object;)Z"⟩ : MethodName)) hown (mvT hZ (hw _ (List.mem_of_getElem? (i := 146) rfl))) (mvT hZ (hw _ (List.mem_of_getElem? (i := 147) rfl))) (notFace_of_selects (args := #[]) (mvT hZ (hw _ (List.mem_of_getElem? (i := 149) rfl)))) (mvT hZ (hw _ (List.mem_of_getElem? (i := 149) rfl))) (mvT hZ (hw _ (List.mem_of_getElem? (i := 148) rfl))) (by decide) (backOf (W := 0) (rm_eq l Z a0 hw [] b1_0 T38.heap n0 (Nat.le_trans (Nat.le_trans (Nat.le_trans (Nat.le_trans (Nat.le_trans (Nat.le_trans (Nat.le_trans (Nat.le_trans (Nat.le_trans (Nat.le_trans (Nat.le_trans (Nat.le_trans (Nat.le_trans (Nat.le_trans (Nat.le_trans (Nat.le_trans (Nat.le_trans (Nat.le_trans (Nat.le_trans Z0 K1.1) E2.1) E3.1) (Keep.of_wr W4).1) (Keep.of_wr W5).1) K6.1) E7.1) E8.1) (Keep.of_wr W9).1) (Keep.of_wr W10).1) (Keep.of_wr W11).1) K12.1) E32.1) K33.1) K34.1) K35.1) K36.1) E37.1) K38.1) ) hZ (hw _ (List.mem_of_getElem? (i := 150) rfl)) (hw _ (List.mem_of_getElem? (i := 2) rfl)) (by decide) (by decide)) q40a q40c (g := (mkF m 166 #[iv p1, iv p2, iv p3, iv p4, iv p5, iv ((p2 &&& (255 : Int32)).toUInt32.toUInt16.toUInt32.toInt32), iv ((p3 &&& (255 : Int32)).toUInt32.toUInt16.toUInt32.toInt32), iv ((p4 &&& (255 : Int32)).toUInt32.toUInt16.toUInt32.toInt32), rv b1_0, rv b2, rv b7, iv (3 : Int32), rv b32, rv b37, .unset] [(.ref b1_0), (.ref b1_0)])) rfl (by rw [hml]; rfl) (Steps.refl _) (argsL := [(.ref b1_0)]) (rest := []) (lenOf pd__Ljava_lang_Object__Z rfl) rfl (by show 2 * 0 + _ ≤ _; exact Nat.le_of_eq rfl) (hb hby at_166) (fun _ _ => ⟨rfl, e39, (by decide : 11 + 0 ≤ _), (by decide : 38 + 0 ≤ _)⟩)
    dsimp only [Pt.U, Pt.locs, Pt.cells, Pt.slots] at X40 l40 y40 z40 st40 hQ40
    subst l40 y40 z40
    obtain ⟨rfl, N40q, e40⟩ := hQ40
    have N40 := Fr.app N39 N40q
    refine own_go ?_ (fun target hr => st40.trans (XS.istore X40.here hx rfl (hb hby at_169) rfl (l' := #[iv p1, iv p2, iv p3, iv p4, iv p5, iv ((p2 &&& (255 : Int32)).toUInt32.toUInt16.toUInt32.toInt32), iv ((p3 &&& (255 : Int32)).toUInt32.toUInt16.toUInt32.toInt32), iv ((p4 &&& (255 : Int32)).toUInt32.toUInt16.toUInt32.toInt32), rv b1_0, rv b2, rv b7, iv (3 : Int32), rv b32, rv b37, iv (1 : Int32)]) rfl (XS.iload X40.here hx rfl (hb hby at_171) rfl (XS.iconst X40.here hx rfl (hb hby at_173) (XS.icmpNo X40.here hx rfl (hb hby at_174) rfl (flt (by decide : ¬ ((3 : Int32) < (2 : Int32)))).1 (XS.iload X40.here hx rfl (hb hby at_177) rfl (XS.ifNo X40.here hx rfl (hb hby at_179) rfl ((if0 _ _).trans (feq (by decide : ¬ ((1 : Int32) = (0 : Int32)))).1) (XS.aload X40.here hx rfl (hb hby at_182) rfl rfl hr))))))))
    show own_G _ p e below s _ _ _ (T40.setTop (mkF m 184 #[iv p1, iv p2, iv p3, iv p4, iv p5, iv ((p2 &&& (255 : Int32)).toUInt32.toUInt16.toUInt32.toInt32), iv ((p3 &&& (255 : Int32)).toUInt32.toUInt16.toUInt32.toInt32), iv ((p4 &&& (255 : Int32)).toUInt32.toUInt16.toUInt32.toInt32), rv b1_0, rv b2, rv b7, iv (3 : Int32), rv b32, rv b37, iv (1 : Int32)] [(.ref b2)]))
    refine own_go ?_ (fun target hr => XS.aload X40.here hx rfl (hb hby at_184) rfl rfl (XS.iconst X40.here hx rfl (hb hby at_186) hr))
    show own_G _ p e below s _ _ _ (T40.setTop (mkF m 187 #[iv p1, iv p2, iv p3, iv p4, iv p5, iv ((p2 &&& (255 : Int32)).toUInt32.toUInt16.toUInt32.toInt32), iv ((p3 &&& (255 : Int32)).toUInt32.toUInt16.toUInt32.toInt32), iv ((p4 &&& (255 : Int32)).toUInt32.toUInt16.toUInt32.toInt32), rv b1_0, rv b2, rv b7, iv (3 : Int32), rv b32, rv b37, iv (1 : Int32)] [(.int (1 : Int32)), (.ref b37), (.ref b2)]))
    obtain ⟨cq41, kq41, q41a, q41b, q41c⟩ := isOf hZ e40 P38_0
    obtain ⟨_, _, ⟨T41, L41, k41, n41⟩, -, X41, ⟨Lc41, hQ41, l41, y41, z41⟩, st41⟩ := X40.virtualBack hx (y := (⟨"com/example/tableau_abduction/tableauabduction/cli/TabSeparatedFile$Row", "field", "(I)Ljava/lang/String;"⟩ : MethodName)) (z := (⟨"com/example/tableau_abduction/tableauabduction/cli/TabSeparatedFile$Row", "field", "(I)Ljava/lang/String;"⟩ : MethodName)) hown (mvT hZ (hw _ (List.mem_of_getElem? (i := 119) rfl))) (mvT hZ (hw _ (List.mem_of_getElem? (i := 120) rfl))) (notFace_of_selects (args := #[]) (mvT hZ (hw _ (List.mem_of_getElem? (i := 122) rfl)))) (mvT hZ (hw _ (List.mem_of_getElem? (i := 122) rfl))) (mvT hZ (hw _ (List.mem_of_getElem? (i := 121) rfl))) (by decide) (backOf (W := 1) (rm_field_3_1 l Z a0 hw [] b37 b32 b34_0 kb34_1 b1_0 b2 b7 T38.heap n0 (Nat.le_trans (Nat.le_trans (Nat.le_trans (Nat.le_trans (Nat.le_trans (Nat.le_trans (Nat.le_trans (Nat.le_trans (Nat.le_trans (Nat.le_trans (Nat.le_trans (Nat.le_trans (Nat.le_trans (Nat.le_trans (Nat.le_trans (Nat.le_trans (Nat.le_trans (Nat.le_trans (Nat.le_trans Z0 K1.1) E2.1) E3.1) (Keep.of_wr W4).1) (Keep.of_wr W5).1) K6.1) E7.1) E8.1) (Keep.of_wr W9).1) (Keep.of_wr W10).1) (Keep.of_wr W11).1) K12.1) E32.1) K33.1) K34.1) K35.1) K36.1) E37.1) K38.1) P38_2 ((P36_0.ext E37).keep K38) ((P36_2.ext E37).keep K38 (ninS ne_b32_b37 nin0)) ((P36_3.ext E37).keep K38 (ninS ne_b32_b37 nin0)) ((P36_4.ext E37).keep K38 (ninS ne_b34_0_b37 nin0)) (((((((((((((P6_0.ext E7).ext E8).wr W9).wr W10).wr W11).keep K12).ext E32).keep K33).keep K34).keep K35).keep K36).ext E37).keep K38)) hZ (hw _ (List.mem_of_getElem? (i := 123) rfl)) (hw _ (List.mem_of_getElem? (i := 105) rfl)) (by decide) (by decide)) q41a q41c (g := (mkF m 187 #[iv p1, iv p2, iv p3, iv p4, iv p5, iv ((p2 &&& (255 : Int32)).toUInt32.toUInt16.toUInt32.toInt32), iv ((p3 &&& (255 : Int32)).toUInt32.toUInt16.toUInt32.toInt32), iv ((p4 &&& (255 : Int32)).toUInt32.toUInt16.toUInt32.toInt32), rv b1_0, rv b2, rv b7, iv (3 : Int32), rv b32, rv b37, iv (1 : Int32)] [(.int (1 : Int32)), (.ref b37), (.ref b2)])) rfl (by rw [hml]; rfl) (Steps.refl _) (argsL := [(.int (1 : Int32))]) (rest := [(.ref b2)]) (lenOf pd__I_Ljava_lang_String_ rfl) rfl (by show 2 * 0 + _ ≤ _; exact Nat.le_of_eq rfl) (hb hby at_187) (fun _ _ => ⟨rfl, e40, (by decide : 11 + 0 ≤ _), (by decide : 38 + 0 ≤ _)⟩)
    dsimp only [Pt.U, Pt.locs, Pt.cells, Pt.slots] at X41 l41 y41 z41 st41 hQ41
    subst l41 y41 z41
    obtain ⟨rfl, N41q, e41⟩ := hQ41
    have N41 := Fr.app N40 N41q
    refine own_go ?_ (fun target hr => st41.trans hr)
    show own_G _ p e below s _ _ _ (T41.setTop (mkF m 190 #[iv p1, iv p2, iv p3, iv p4, iv p5, iv ((p2 &&& (255 : Int32)).toUInt32.toUInt16.toUInt32.toInt32), iv ((p3 &&& (255 : Int32)).toUInt32.toUInt16.toUInt32.toInt32), iv ((p4 &&& (255 : Int32)).toUInt32.toUInt16.toUInt32.toInt32), rv b1_0, rv b2, rv b7, iv (3 : Int32), rv b32, rv b37, iv (1 : Int32)] [(.ref b2), (.ref b2)]))
    obtain ⟨cq42, kq42, q42a, q42b, q42c⟩ := isOf hZ e41 (((((((((((((P6_0.ext E7).ext E8).wr W9).wr W10).wr W11).keep K12).ext E32).keep K33).keep K34).keep K35).keep K36).ext E37).keep K38)
    obtain ⟨_, _, ⟨T42, L42, k42, n42⟩, -, X42, ⟨Lc42, hQ42, l42, y42, z42⟩, st42⟩ := X41.virtualBack hx (y := (⟨"java/lang/String", "equals", "(Ljava/lang/Object;)Z"⟩ : MethodName)) (z := (⟨"java/lang/String", "equals", "(Ljava/lang/Object;)Z"⟩ : MethodName)) hown (mvT hZ (hw _ (List.mem_of_getElem? (i := 146) rfl))) (mvT hZ (hw _ (List.mem_of_getElem? (i := 147) rfl))) (notFace_of_selects (args := #[]) (mvT hZ (hw _ (List.mem_of_getElem? (i := 149) rfl)))) (mvT hZ (hw _ (List.mem_of_getElem? (i := 149) rfl))) (mvT hZ (hw _ (List.mem_of_getElem? (i := 148) rfl))) (by decide) (backOf (W := 0) (rm_eq l Z a0 hw [] b2 T38.heap n0 (Nat.le_trans (Nat.le_trans (Nat.le_trans (Nat.le_trans (Nat.le_trans (Nat.le_trans (Nat.le_trans (Nat.le_trans (Nat.le_trans (Nat.le_trans (Nat.le_trans (Nat.le_trans (Nat.le_trans (Nat.le_trans (Nat.le_trans (Nat.le_trans (Nat.le_trans (Nat.le_trans (Nat.le_trans Z0 K1.1) E2.1) E3.1) (Keep.of_wr W4).1) (Keep.of_wr W5).1) K6.1) E7.1) E8.1) (Keep.of_wr W9).1) (Keep.of_wr W10).1) (Keep.of_wr W11).1) K12.1) E32.1) K33.1) K34.1) K35.1) K36.1) E37.1) K38.1) ) hZ (hw _ (List.mem_of_getElem? (i := 150) rfl)) (hw _ (List.mem_of_getElem? (i := 2) rfl)) (by decide) (by decide)) q42a q42c (g := (mkF m 190 #[iv p1, iv p2, iv p3, iv p4, iv p5, iv ((p2 &&& (255 : Int32)).toUInt32.toUInt16.toUInt32.toInt32), iv ((p3 &&& (255 : Int32)).toUInt32.toUInt16.toUInt32.toInt32), iv ((p4 &&& (255 : Int32)).toUInt32.toUInt16.toUInt32.toInt32), rv b1_0, rv b2, rv b7, iv (3 : Int32), rv b32, rv b37, iv (1 : Int32)] [(.ref b2), (.ref b2)])) rfl (by rw [hml]; rfl) (Steps.refl _) (argsL := [(.ref b2)]) (rest := []) (lenOf pd__Ljava_lang_Object__Z rfl) rfl (by show 2 * 0 + _ ≤ _; exact Nat.le_of_eq rfl) (hb hby at_190) (fun _ _ => ⟨rfl, e41, (by decide : 11 + 0 ≤ _), (by decide : 38 + 0 ≤ _)⟩)
    dsimp only [Pt.U, Pt.locs, Pt.cells, Pt.slots] at X42 l42 y42 z42 st42 hQ42
    subst l42 y42 z42
    obtain ⟨rfl, N42q, e42⟩ := hQ42
    have N42 := Fr.app N41 N42q
    refine own_go ?_ (fun target hr => st42.trans (XS.ifNo X42.here hx rfl (hb hby at_193) rfl ((if0 _ _).trans (feq (by decide : ¬ ((1 : Int32) = (0 : Int32)))).1) (XS.iconst X42.here hx rfl (hb hby at_196) (XS.goto X42.here hx rfl (pc0 := 197) (pc' := 201) rfl (hb hby at_197) (by decide) (by decide) (XS.istore X42.here hx rfl (hb hby at_201) rfl (l' := #[iv p1, iv p2, iv p3, iv p4, iv p5, iv ((p2 &&& (255 : Int32)).toUInt32.toUInt16.toUInt32.toInt32), iv ((p3 &&& (255 : Int32)).toUInt32.toUInt16.toUInt32.toInt32), iv ((p4 &&& (255 : Int32)).toUInt32.toUInt16.toUInt32.toInt32), rv b1_0, rv b2, rv b7, iv (3 : Int32), rv b32, rv b37, iv (1 : Int32)]) rfl (XS.iload X42.here hx rfl (hb hby at_203) rfl (XS.iconst X42.here hx rfl (hb hby at_205) (XS.icmpNo X42.here hx rfl (hb hby at_206) rfl (flt (by decide : ¬ ((3 : Int32) < (3 : Int32)))).1 hr))))))))
    show own_G _ p e below s _ _ _ (T42.setTop (mkF m 209 #[iv p1, iv p2, iv p3, iv p4, iv p5, iv ((p2 &&& (255 : Int32)).toUInt32.toUInt16.toUInt32.toInt32), iv ((p3 &&& (255 : Int32)).toUInt32.toUInt16.toUInt32.toInt32), iv ((p4 &&& (255 : Int32)).toUInt32.toUInt16.toUInt32.toInt32), rv b1_0, rv b2, rv b7, iv (3 : Int32), rv b32, rv b37, iv (1 : Int32)] []))
    refine own_go ?_ (fun target hr => XS.iload X42.here hx rfl (hb hby at_209) rfl (XS.ifNo X42.here hx rfl (hb hby at_211) rfl ((if0 _ _).trans (feq (by decide : ¬ ((1 : Int32) = (0 : Int32)))).1) (XS.aload X42.here hx rfl (hb hby at_214) rfl rfl (XS.aload X42.here hx rfl (hb hby at_216) rfl rfl (XS.iconst X42.here hx rfl (hb hby at_218) hr)))))
    show own_G _ p e below s _ _ _ (T42.setTop (mkF m 219 #[iv p1, iv p2, iv p3, iv p4, iv p5, iv ((p2 &&& (255 : Int32)).toUInt32.toUInt16.toUInt32.toInt32), iv ((p3 &&& (255 : Int32)).toUInt32.toUInt16.toUInt32.toInt32), iv ((p4 &&& (255 : Int32)).toUInt32.toUInt16.toUInt32.toInt32), rv b1_0, rv b2, rv b7, iv (3 : Int32), rv b32, rv b37, iv (1 : Int32)] [(.int (2 : Int32)), (.ref b37), (.ref b7)]))
    obtain ⟨cq43, kq43, q43a, q43b, q43c⟩ := isOf hZ e42 P38_0
    obtain ⟨_, _, ⟨T43, L43, k43, n43⟩, -, X43, ⟨Lc43, hQ43, l43, y43, z43⟩, st43⟩ := X42.virtualBack hx (y := (⟨"com/example/tableau_abduction/tableauabduction/cli/TabSeparatedFile$Row", "field", "(I)Ljava/lang/String;"⟩ : MethodName)) (z := (⟨"com/example/tableau_abduction/tableauabduction/cli/TabSeparatedFile$Row", "field", "(I)Ljava/lang/String;"⟩ : MethodName)) hown (mvT hZ (hw _ (List.mem_of_getElem? (i := 119) rfl))) (mvT hZ (hw _ (List.mem_of_getElem? (i := 120) rfl))) (notFace_of_selects (args := #[]) (mvT hZ (hw _ (List.mem_of_getElem? (i := 122) rfl)))) (mvT hZ (hw _ (List.mem_of_getElem? (i := 122) rfl))) (mvT hZ (hw _ (List.mem_of_getElem? (i := 121) rfl))) (by decide) (backOf (W := 1) (rm_field_3_2 l Z a0 hw [] b37 b32 b34_0 kb34_1 b1_0 b2 b7 T38.heap n0 (Nat.le_trans (Nat.le_trans (Nat.le_trans (Nat.le_trans (Nat.le_trans (Nat.le_trans (Nat.le_trans (Nat.le_trans (Nat.le_trans (Nat.le_trans (Nat.le_trans (Nat.le_trans (Nat.le_trans (Nat.le_trans (Nat.le_trans (Nat.le_trans (Nat.le_trans (Nat.le_trans (Nat.le_trans Z0 K1.1) E2.1) E3.1) (Keep.of_wr W4).1) (Keep.of_wr W5).1) K6.1) E7.1) E8.1) (Keep.of_wr W9).1) (Keep.of_wr W10).1) (Keep.of_wr W11).1) K12.1) E32.1) K33.1) K34.1) K35.1) K36.1) E37.1) K38.1) P38_2 ((P36_0.ext E37).keep K38) ((P36_2.ext E37).keep K38 (ninS ne_b32_b37 nin0)) ((P36_3.ext E37).keep K38 (ninS ne_b32_b37 nin0)) ((P36_4.ext E37).keep K38 (ninS ne_b34_0_b37 nin0)) (((((((P12_0.ext E32).keep K33).keep K34).keep K35).keep K36).ext E37).keep K38)) hZ (hw _ (List.mem_of_getElem? (i := 123) rfl)) (hw _ (List.mem_of_getElem? (i := 105) rfl)) (by decide) (by decide)) q43a q43c (g := (mkF m 219 #[iv p1, iv p2, iv p3, iv p4, iv p5, iv ((p2 &&& (255 : Int32)).toUInt32.toUInt16.toUInt32.toInt32), iv ((p3 &&& (255 : Int32)).toUInt32.toUInt16.toUInt32.toInt32), iv ((p4 &&& (255 : Int32)).toUInt32.toUInt16.toUInt32.toInt32), rv b1_0, rv b2, rv b7, iv (3 : Int32), rv b32, rv b37, iv (1 : Int32)] [(.int (2 : Int32)), (.ref b37), (.ref b7)])) rfl (by rw [hml]; rfl) (Steps.refl _) (argsL := [(.int (2 : Int32))]) (rest := [(.ref b7)]) (lenOf pd__I_Ljava_lang_String_ rfl) rfl (by show 2 * 0 + _ ≤ _; exact Nat.le_of_eq rfl) (hb hby at_219) (fun _ _ => ⟨rfl, e42, (by decide : 11 + 0 ≤ _), (by decide : 38 + 0 ≤ _)⟩)
    dsimp only [Pt.U, Pt.locs, Pt.cells, Pt.slots] at X43 l43 y43 z43 st43 hQ43
    subst l43 y43 z43
    obtain ⟨rfl, N43q, e43⟩ := hQ43
    have N43 := Fr.app N42 N43q
    refine own_go ?_ (fun target hr => st43.trans hr)
    show own_G _ p e below s _ _ _ (T43.setTop (mkF m 222 #[iv p1, iv p2, iv p3, iv p4, iv p5, iv ((p2 &&& (255 : Int32)).toUInt32.toUInt16.toUInt32.toInt32), iv ((p3 &&& (255 : Int32)).toUInt32.toUInt16.toUInt32.toInt32), iv ((p4 &&& (255 : Int32)).toUInt32.toUInt16.toUInt32.toInt32), rv b1_0, rv b2, rv b7, iv (3 : Int32), rv b32, rv b37, iv (1 : Int32)] [(.ref b7), (.ref b7)]))
    obtain ⟨cq44, kq44, q44a, q44b, q44c⟩ := isOf hZ e43 (((((((P12_0.ext E32).keep K33).keep K34).keep K35).keep K36).ext E37).keep K38)
    obtain ⟨_, _, ⟨T44, L44, k44, n44⟩, -, X44, ⟨Lc44, hQ44, l44, y44, z44⟩, st44⟩ := X43.virtualBack hx (y := (⟨"java/lang/String", "equals", "(Ljava/lang/Object;)Z"⟩ : MethodName)) (z := (⟨"java/lang/String", "equals", "(Ljava/lang/Object;)Z"⟩ : MethodName)) hown (mvT hZ (hw _ (List.mem_of_getElem? (i := 146) rfl))) (mvT hZ (hw _ (List.mem_of_getElem? (i := 147) rfl))) (notFace_of_selects (args := #[]) (mvT hZ (hw _ (List.mem_of_getElem? (i := 149) rfl)))) (mvT hZ (hw _ (List.mem_of_getElem? (i := 149) rfl))) (mvT hZ (hw _ (List.mem_of_getElem? (i := 148) rfl))) (by decide) (backOf (W := 0) (rm_eq l Z a0 hw [] b7 T38.heap n0 (Nat.le_trans (Nat.le_trans (Nat.le_trans (Nat.le_trans (Nat.le_trans (Nat.le_trans (Nat.le_trans (Nat.le_trans (Nat.le_trans (Nat.le_trans (Nat.le_trans (Nat.le_trans (Nat.le_trans (Nat.le_trans (Nat.le_trans (Nat.le_trans (Nat.le_trans (Nat.le_trans (Nat.le_trans Z0 K1.1) E2.1) E3.1) (Keep.of_wr W4).1) (Keep.of_wr W5).1) K6.1) E7.1) E8.1) (Keep.of_wr W9).1) (Keep.of_wr W10).1) (Keep.of_wr W11).1) K12.1) E32.1) K33.1) K34.1) K35.1) K36.1) E37.1) K38.1) ) hZ (hw _ (List.mem_of_getElem? (i := 150) rfl)) (hw _ (List.mem_of_getElem? (i := 2) rfl)) (by decide) (by decide)) q44a q44c (g := (mkF m 222 #[iv p1, iv p2, iv p3, iv p4, iv p5, iv ((p2 &&& (255 : Int32)).toUInt32.toUInt16.toUInt32.toInt32), iv ((p3 &&& (255 : Int32)).toUInt32.toUInt16.toUInt32.toInt32), iv ((p4 &&& (255 : Int32)).toUInt32.toUInt16.toUInt32.toInt32), rv b1_0, rv b2, rv b7, iv (3 : Int32), rv b32, rv b37, iv (1 : Int32)] [(.ref b7), (.ref b7)])) rfl (by rw [hml]; rfl) (Steps.refl _) (argsL := [(.ref b7)]) (rest := []) (lenOf pd__Ljava_lang_Object__Z rfl) rfl (by show 2 * 0 + _ ≤ _; exact Nat.le_of_eq rfl) (hb hby at_222) (fun _ _ => ⟨rfl, e43, (by decide : 11 + 0 ≤ _), (by decide : 38 + 0 ≤ _)⟩)
    dsimp only [Pt.U, Pt.locs, Pt.cells, Pt.slots] at X44 l44 y44 z44 st44 hQ44
    subst l44 y44 z44
    obtain ⟨rfl, N44q, e44⟩ := hQ44
    have N44 := Fr.app N43 N44q
    refine own_go ?_ (fun target hr => st44.trans (XS.ifNo X44.here hx rfl (hb hby at_225) rfl ((if0 _ _).trans (feq (by decide : ¬ ((1 : Int32) = (0 : Int32)))).1) (XS.iconst X44.here hx rfl (hb hby at_228) (XS.goto X44.here hx rfl (pc0 := 229) (pc' := 233) rfl (hb hby at_229) (by decide) (by decide) (XS.istore X44.here hx rfl (hb hby at_233) rfl (l' := #[iv p1, iv p2, iv p3, iv p4, iv p5, iv ((p2 &&& (255 : Int32)).toUInt32.toUInt16.toUInt32.toInt32), iv ((p3 &&& (255 : Int32)).toUInt32.toUInt16.toUInt32.toInt32), iv ((p4 &&& (255 : Int32)).toUInt32.toUInt16.toUInt32.toInt32), rv b1_0, rv b2, rv b7, iv (3 : Int32), rv b32, rv b37, iv (1 : Int32)]) rfl (XS.iload X44.here hx rfl (hb hby at_235) rfl (XS.ifNo X44.here hx rfl (hb hby at_237) rfl ((if0 _ _).trans (feq (by decide : ¬ ((1 : Int32) = (0 : Int32)))).1) (XS.aload X44.here hx rfl (hb hby at_240) rfl rfl hr))))))))
    show own_G _ p e below s _ _ _ (T44.setTop (mkF m 242 #[iv p1, iv p2, iv p3, iv p4, iv p5, iv ((p2 &&& (255 : Int32)).toUInt32.toUInt16.toUInt32.toInt32), iv ((p3 &&& (255 : Int32)).toUInt32.toUInt16.toUInt32.toInt32), iv ((p4 &&& (255 : Int32)).toUInt32.toUInt16.toUInt32.toInt32), rv b1_0, rv b2, rv b7, iv (3 : Int32), rv b32, rv b37, iv (1 : Int32)] [(.ref b37)]))
    obtain ⟨cq45, kq45, q45a, q45b, q45c⟩ := isOf hZ e44 P38_0
    obtain ⟨_, _, ⟨T45, L45, k45, n45⟩, -, X45, ⟨Lc45, hQ45, l45, y45, z45⟩, st45⟩ := X44.virtualBack hx (y := (⟨"com/example/tableau_abduction/tableauabduction/cli/TabSeparatedFile$Row", "line", "()I"⟩ : MethodName)) (z := (⟨"com/example/tableau_abduction/tableauabduction/cli/TabSeparatedFile$Row", "line", "()I"⟩ : MethodName)) hown (mvT hZ (hw _ (List.mem_of_getElem? (i := 151) rfl))) (mvT hZ (hw _ (List.mem_of_getElem? (i := 152) rfl))) (notFace_of_selects (args := #[]) (mvT hZ (hw _ (List.mem_of_getElem? (i := 154) rfl)))) (mvT hZ (hw _ (List.mem_of_getElem? (i := 154) rfl))) (mvT hZ (hw _ (List.mem_of_getElem? (i := 153) rfl))) (by decide) (backOf (W := 0) (rm27 l Z a0 hw [] b37 p1 T38.heap n0 (Nat.le_trans (Nat.le_trans (Nat.le_trans (Nat.le_trans (Nat.le_trans (Nat.le_trans (Nat.le_trans (Nat.le_trans (Nat.le_trans (Nat.le_trans (Nat.le_trans (Nat.le_trans (Nat.le_trans (Nat.le_trans (Nat.le_trans (Nat.le_trans (Nat.le_trans (Nat.le_trans (Nat.le_trans Z0 K1.1) E2.1) E3.1) (Keep.of_wr W4).1) (Keep.of_wr W5).1) K6.1) E7.1) E8.1) (Keep.of_wr W9).1) (Keep.of_wr W10).1) (Keep.of_wr W11).1) K12.1) E32.1) K33.1) K34.1) K35.1) K36.1) E37.1) K38.1) P38_1) hZ (hw _ (List.mem_of_getElem? (i := 155) rfl)) (hw _ (List.mem_of_getElem? (i := 105) rfl)) (by decide) (by decide)) q45a q45c (g := (mkF m 242 #[iv p1, iv p2, iv p3, iv p4, iv p5, iv ((p2 &&& (255 : Int32)).toUInt32.toUInt16.toUInt32.toInt32), iv ((p3 &&& (255 : Int32)).toUInt32.toUInt16.toUInt32.toInt32), iv ((p4 &&& (255 : Int32)).toUInt32.toUInt16.toUInt32.toInt32), rv b1_0, rv b2, rv b7, iv (3 : Int32), rv b32, rv b37, iv (1 : Int32)] [(.ref b37)])) rfl (by rw [hml]; rfl) (Steps.refl _) (argsL := []) (rest := []) (lenOf pd___I rfl) rfl (by show 2 * 0 + _ ≤ _; exact Nat.le_of_eq rfl) (hb hby at_242) (fun _ _ => ⟨rfl, e44, (by decide : 11 + 0 ≤ _), (by decide : 38 + 0 ≤ _)⟩)
    dsimp only [Pt.U, Pt.locs, Pt.cells, Pt.slots] at X45 l45 y45 z45 st45 hQ45
    subst l45 y45 z45
    obtain ⟨rfl, N45q, e45⟩ := hQ45
    have N45 := Fr.app N44 N45q
    refine own_go ?_ (fun target hr => st45.trans (XS.iloadN X45.here hx rfl (hb hby at_245) rfl (XS.icmpNo X45.here hx rfl (hb hby at_246) rfl (teq (rfl : p1 = p1)).2 (XS.iconst X45.here hx rfl (hb hby at_249) (XS.goto X45.here hx rfl (pc0 := 250) (pc' := 254) rfl (hb hby at_250) (by decide) (by decide) hr)))))
    show own_G _ p e below s _ _ _ (T45.setTop (mkF m 254 #[iv p1, iv p2, iv p3, iv p4, iv p5, iv ((p2 &&& (255 : Int32)).toUInt32.toUInt16.toUInt32.toInt32), iv ((p3 &&& (255 : Int32)).toUInt32.toUInt16.toUInt32.toInt32), iv ((p4 &&& (255 : Int32)).toUInt32.toUInt16.toUInt32.toInt32), rv b1_0, rv b2, rv b7, iv (3 : Int32), rv b32, rv b37, iv (1 : Int32)] [(.int (1 : Int32))]))
    obtain ⟨fs, hr, hrun, hended, hW, hsame⟩ := X45.leave (v := some (.int (1 : Int32))) (fun h => by rw [Bd.returns] at h; cases h)
    exact ⟨_, _, retN X45 hx (t := .boolean) Bd.returns (by simp) (hb hby at_254) hr, hrun, hended, _, _, rfl, ⟨rfl, N45, trivial⟩, ⟨_, rfl⟩, hW, hsame.mono (by decide) (by decide)⟩
set_option maxRecDepth 65536 in
set_option maxHeartbeats 40000000 in
theorem comes_1 {Post : Tables → Env → Array Value → State → Outcome → State → Prop} (hpost : ∀ tb e args s v u, (limb_1_1.after args s (.returned v) u = true ∧ limb_1_2.after args s (.returned v) u = true ∧ True) → FrameEnd s (.returned v) u (Jvm.fieldLocs frame_1_writes args s ++ Jvm.arrayLocs frame_1_arrays args s ++ Jvm.staticLocs frame_1_statics s) 32 192 → Post tb e args s (.returned v) u) :
    ArmFor flags0 classFile x code maxLocals ret World_1 tables_1 room_1 Calls_1 rest_1 Pre_1 Post := by
  intro l hfl _ _ p e ha hc hk s m args below hf hA hF happ hP
  obtain ⟨hcalls, hrest, hpre⟩ := hP
  obtain ⟨-, -, -, hnamed, -, -, -, hat⟩ := (Spec.applies_iff hf).mp happ
  obtain ⟨hg, hn⟩ := and_e (Cond.before_iff.mp (show (Jvm.Cond.and given_1 narrow_1).before args s = true from hpre))
  obtain ⟨h1, g0⟩ := and_e hg
  obtain ⟨b0, g1⟩ := and_e g0
  obtain ⟨b1, g2⟩ := and_e g1
  obtain ⟨b2, g3⟩ := and_e g2
  obtain ⟨b3, g4⟩ := and_e g3
  obtain ⟨w0, w1, w2, w3, w4, rfl⟩ : ∃ w0 w1 w2 w3 w4 : Value, args = #[w0, w1, w2, w3, w4] := by
    have hs : args.size = 5 := by simpa [Cond.value, given_1] using h1
    obtain ⟨L⟩ := args
    match L, hs with
    | [w0, w1, w2, w3, w4], _ => exact ⟨w0, w1, w2, w3, w4, rfl⟩
  have hw := fun d (hd : d ∈ tables_1) => atoms_spec (ws := Jvm.Cond.code x code maxLocals ret :: tables_1) hat d (List.mem_cons_of_mem _ hd)
  have hfit : Fit s := fun {y c} hc i hi => by
    obtain ⟨ha, rfl⟩ := Array.getElem?_eq_some_iff.mp hc
    have q := List.all_eq_true.mp ((Array.all_eq_true_iff_forall_mem.mp hF) _ (Array.getElem_mem ha)) i (List.mem_range.mpr hi)
    simpa [Array.getElem?_eq_getElem hi] using q
  obtain ⟨i0, ev0⟩ := is_v b0
  obtain rfl : w0 = (.int i0) := Option.some.inj ev0
  obtain ⟨i1, ev1⟩ := is_v b1
  obtain rfl : w1 = (.int i1) := Option.some.inj ev1
  obtain ⟨i2, ev2⟩ := is_v b2
  obtain rfl : w2 = (.int i2) := Option.some.inj ev2
  obtain ⟨i3, ev3⟩ := is_v b3
  obtain rfl : w3 = (.int i3) := Option.some.inj ev3
  obtain ⟨i4, ev4⟩ := is_v g4
  obtain rfl : w4 = (.int i4) := Option.some.inj ev4
  obtain ⟨hsets, hown0⟩ := atoms_of _ (rest_1_c_eq ▸ (show rest_1_c.before _ s = true from hrest))
  have n5 := not_v (Cond.before_iff.mp (hsets _ (List.mem_of_getElem? (i := 2) rfl)))
  obtain ⟨zc, ez⟩ := is_v (Cond.before_iff.mp (hsets _ (List.mem_of_getElem? (i := 1) rfl)))
  have SZ : Sta s s.heap "java/lang/String" "COMPACT_STRINGS" "Z" (.int zc) := Sta.start ez (Or.inl (hsets _ (List.mem_of_getElem? (i := 0) rfl)))
  have hz : ¬ (zc = (0 : Int32)) := gotF (Cond.eq_ints ez (Term.int_eval (0))) n5
  obtain ⟨wE, eE⟩ := arr_v (Cond.before_iff.mp (hsets _ (List.mem_of_getElem? (i := 15) rfl)))
  have SE : Sta s s.heap "java/util/ArrayList" "DEFAULTCAPACITY_EMPTY_ELEMENTDATA" "[Ljava/lang/Object;" (.ref wE) := Sta.start eE (Or.inr ⟨(hw _ (List.mem_of_getElem? (i := 46) rfl)), (hsets _ (List.mem_of_getElem? (i := 11) rfl))⟩)
  obtain ⟨clE, AE⟩ := Arr.start eE (Cond.before_iff.mp (hsets _ (List.mem_of_getElem? (i := 15) rfl)))
  have VE := own_empty hfit eE AE (Cond.before_iff.mp (hsets _ (List.mem_of_getElem? (i := 17) rfl)))
  obtain ⟨kE, hkE⟩ : ∃ k, k = clE.cls := ⟨_, rfl⟩
  rw [← hkE] at VE
  obtain ⟨n, o, h1, h2, h3, _, L, rfl, ⟨rfl, N, _⟩, hq⟩ := rm0 l s _ hw tables_1 i0 i1 i2 i3 i4 zc wE kE s.heap s.heap.size (Nat.le_refl _) (Old.start s) SZ SE VE hz p e ha hc hk s m _ below hf ((Spec.applies_iff_loose hf).mp happ).1 ⟨rfl, State.Warmed39.refl s, rfl⟩ trivial
  refine ⟨n, _, h1, h2, h3, hpost _ _ _ _ _ _ ⟨Cond.after_iff.mpr rfl, Cond.after_iff.mpr (eq_i res_at (Term.int_eval (1)) rfl), trivial⟩ ⟨hq.1, hq.2.1, (hq.2.2.sift fun y hy => Or.inr (N y hy)).mono (by decide) (by decide)⟩⟩
theorem main_1_1 : Claimed_1_1 := comes_1 fun _ _ _ _ _ _ h hF => ⟨h.1, hF⟩
theorem main_1_2 : Claimed_1_2 := comes_1 fun _ _ _ _ _ _ h hF => ⟨h.2.1, hF⟩
end Jvm.Pilot.@@N@@
namespace Jvm.Pilot.@@N@@
open Jvm Jvm.ClassFile Sem Op Lib Jvm.Free Jvm.Stand Jvm.Pilot.@@N@@.Jvm.D
/-! MADE BY PROGRAM (witnessworld.py) out of the Statement's table words and the real class files: 30 classes; the members and pool entries that the words name. The judged class is class 1, her method 1. -/
namespace start1
open Jvm.ClassFile
def u (s : String) : CpInfo := .utf8 (stringToUtf16 s)
/-- a pool by its gaps: so many unusable entries, then the entry; so many at the end -/
def gap : Nat → List CpInfo → List CpInfo
  | 0, r => r
  | n + 1, r => .unusable :: gap n r
def poolList (es : List (Nat × CpInfo)) (last : Nat) : List CpInfo := es.foldr (fun e r => gap e.1 (e.2 :: r)) (gap last [])
def pool (es : List (Nat × CpInfo)) (last : Nat) : Array CpInfo := ⟨poolList es last⟩
def fileOf (pool : Array CpInfo) (this : Nat) (attrs : Array Attribute := #[]) (ms : Array MethodInfo := #[]) (fl : Nat := 33) (sup : Nat := 0) (ifs : Array Nat := #[]) (fds : Array FieldInfo := #[]) : ClassFile where
  minorVersion := 0
  majorVersion := 65
  constantPool := pool
  accessFlags := fl
  thisClass := this
  superClass := sup
  interfaces := ifs
  fields := fds
  methods := ms
  attributes := attrs
def plain (name : String) (sup : Option ClassId) : Class where
  name := name
  kind := .ordinary
  loader := none
  accessFlags := 33
  super := sup
  interfaces := #[]
  cf := none
  fields := #[]
  methods := #[]
  instanceTypes := #[]
  staticTypes := #[]
  resolved := #[]
  callSites := []
  init := .initialized
  statics := none
  mirror := none

def pool0 : Array CpInfo := pool [(5, u "<init>"), (0, u "()V"), (1, .class_ 10), (1, u "java/lang/Object")] 113

def k0c0 : Code := { maxStack := 0, maxLocals := 1, code := object_method_1_code, exceptionTable := #[], attributes := #[] }
def k0m0 : Method := { name := "<init>", desc := "()V", sig := { parameters := [], returnType := none }, accessFlags := 1, code := some k0c0 }
/-- java/lang/Object -/
def k0 : Class := { plain "java/lang/Object" none with
  accessFlags := 33
  interfaces := #[]
  cf := some (fileOf pool0 8 #[] #[{ accessFlags := 1, nameIndex := 5, descriptorIndex := 6, attributes := #[] }] 33 0 #[] #[])
  fields := #[]
  methods := #[k0m0]
  instanceTypes := #[]
  staticTypes := #[]
  resolved := Array.replicate 124 none
  statics := none }

def pool1 : Array CpInfo := pool [(2, .class_ 4), (0, .nameAndType 5 6), (0, u "java/lang/Object"), (0, u "<init>"), (0, u "()V"), (0, .methodref 8 9), (0, .class_ 10), (0, .nameAndType 11 12), (0, u "java/lang/String"), (0, u "valueOf"), (0, u "(C)Ljava/lang/String;"), (0, .methodref 8 14), (0, .nameAndType 5 15), (0, u "([C)V"), (0, .class_ 17), (0, u "java/util/ArrayList"), (0, .methodref 16 3), (0, .interfaceMethodref 20 21), (0, .class_ 22), (0, .nameAndType 23 24), (0, u "java/util/List"), (0, u "add"), (0, u "(Ljava/lang/Object;)Z"), (0, .class_ 26), (0, u "com/example/tableau_abduction/tableauabduction/cli/TabSeparatedFile$Row"), (0, .methodref 25 28), (0, .nameAndType 5 29), (0, u "(ILjava/util/List;)V"), (0, .methodref 25 31), (0, .nameAndType 32 33), (0, u "field"), (0, u "(I)Ljava/lang/String;"), (0, .methodref 8 35), (0, .nameAndType 36 24), (0, u "equals"), (0, .methodref 25 38), (0, .nameAndType 39 40), (0, u "line"), (0, u "()I"), (0, .class_ 42), (0, u "com/example/tableau_abduction/tableauabduction/cli/RowFieldPinLaw"), (2, u "law"), (0, u "(IIIII)Z")] 7

def k1m0 : Method := { name := "<init>", desc := "()V", sig := { parameters := [], returnType := none }, accessFlags := 1, code := none }
def k1c1 : Code := { maxStack := 6, maxLocals := 15, code := code, exceptionTable := #[], attributes := #[] }
def k1m1 : Method := { name := "law", desc := "(IIIII)Z", sig := { parameters := [.int, .int, .int, .int, .int], returnType := some .boolean }, accessFlags := 9, code := some k1c1 }
/-- com/example/tableau_abduction/tableauabduction/cli/RowFieldPinLaw -/
def k1 : Class := { plain "com/example/tableau_abduction/tableauabduction/cli/RowFieldPinLaw" (some 0) with
  accessFlags := 49
  interfaces := #[]
  cf := some (fileOf pool1 41 #[] #[{ accessFlags := 1, nameIndex := 5, descriptorIndex := 6, attributes := #[] }, { accessFlags := 9, nameIndex := 45, descriptorIndex := 46, attributes := #[] }] 49 2 #[] #[])
  fields := #[]
  methods := #[k1m0, k1m1]
  instanceTypes := #[]
  staticTypes := #[]
  resolved := Array.replicate 54 none
  statics := none }

def pool2 : Array CpInfo := pool [(1, .class_ 2), (0, u "java/io/Serializable"), (0, .class_ 4), (0, u "java/lang/Object")] 2

/-- java/io/Serializable -/
def k2 : Class := { plain "java/io/Serializable" (some 0) with
  accessFlags := 1537
  interfaces := #[]
  cf := some (fileOf pool2 1 #[] #[] 1537 3 #[] #[])
  fields := #[]
  methods := #[]
  instanceTypes := #[]
  staticTypes := #[]
  resolved := Array.replicate 7 none
  statics := none }

def pool3 : Array CpInfo := pool [(1, .class_ 2), (0, u "java/lang/Comparable"), (0, .class_ 4), (0, u "java/lang/Object")] 7

/-- java/lang/Comparable -/
def k3 : Class := { plain "java/lang/Comparable" (some 0) with
  accessFlags := 1537
  interfaces := #[]
  cf := some (fileOf pool3 1 #[] #[] 1537 3 #[] #[])
  fields := #[]
  methods := #[]
  instanceTypes := #[]
  staticTypes := #[]
  resolved := Array.replicate 12 none
  statics := none }

def pool4 : Array CpInfo := pool [(2, .class_ 4), (1, u "java/lang/CharSequence"), (42, .class_ 48), (0, u "java/lang/CharSequence$1CodePointIterator"), (10, .class_ 60), (0, u "java/lang/CharSequence$1CharIterator"), (5, .class_ 67), (0, u "java/lang/Object")] 63

/-- java/lang/CharSequence -/
def k4 : Class := { plain "java/lang/CharSequence" (some 0) with
  accessFlags := 1537
  interfaces := #[]
  cf := some (fileOf pool4 2 #[.nestMembers #[47, 59]] #[] 1537 66 #[] #[])
  fields := #[]
  methods := #[]
  instanceTypes := #[]
  staticTypes := #[]
  resolved := Array.replicate 131 none
  statics := none }

def pool5 : Array CpInfo := pool [(1, .class_ 2), (0, u "java/lang/constant/Constable"), (0, .class_ 4), (0, u "java/lang/Object")] 6

/-- java/lang/constant/Constable -/
def k5 : Class := { plain "java/lang/constant/Constable" (some 0) with
  accessFlags := 1537
  interfaces := #[]
  cf := some (fileOf pool5 1 #[] #[] 1537 3 #[] #[])
  fields := #[]
  methods := #[]
  instanceTypes := #[]
  staticTypes := #[]
  resolved := Array.replicate 11 none
  statics := none }

def pool6 : Array CpInfo := pool [(1, .class_ 2), (0, u "java/lang/constant/ConstantDesc"), (0, .class_ 4), (0, u "java/lang/Object")] 32

/-- java/lang/constant/ConstantDesc -/
def k6 : Class := { plain "java/lang/constant/ConstantDesc" (some 0) with
  accessFlags := 1537
  interfaces := #[]
  cf := some (fileOf pool6 1 #[] #[] 1537 3 #[] #[])
  fields := #[]
  methods := #[]
  instanceTypes := #[]
  staticTypes := #[]
  resolved := Array.replicate 37 none
  statics := none }

def pool7 : Array CpInfo := pool [(1, .methodref 2 3), (0, .class_ 4), (0, .nameAndType 5 6), (0, u "java/lang/Object"), (0, u "<init>"), (0, u "()V"), (2, .fieldref 10 11), (0, .class_ 12), (0, .nameAndType 13 14), (0, u "java/lang/String"), (0, u "value"), (0, u "[B"), (0, .fieldref 10 16), (0, .nameAndType 17 18), (0, u "coder"), (0, u "B"), (2, u "hash"), (0, u "I"), (2, u "hashIsZero"), (0, u "Z"), (0, .methodref 10 28), (0, .nameAndType 5 29), (0, u "([CIILjava/lang/Void;)V"), (8, .fieldref 10 39), (0, .nameAndType 40 26), (0, u "COMPACT_STRINGS"), (1, .class_ 44), (1, u "java/lang/StringUTF16"), (0, u "compress"), (1, .methodref 42 48), (0, .nameAndType 49 50), (0, u "coderFromArrayLen"), (0, u "([BI)B"), (2, u "toBytes"), (53, .class_ 109), (1, u "java/lang/StringLatin1"), (67, .methodref 42 178), (0, .nameAndType 45 179), (0, u "([CII)[B"), (29, .methodref 10 210), (0, .nameAndType 5 211), (0, u "([BB)V"), (157, u "(C)Z"), (173, u "equals"), (29, u "(Ljava/lang/Object;)Z"), (1, .class_ 576), (0, u "java/lang/CharSequence"), (22, u "CASE_INSENSITIVE_ORDER"), (0, u "Ljava/util/Comparator;"), (181, u "valueOf"), (0, u "(C)Ljava/lang/String;"), (226, u "([C)V"), (4, .methodref 107 1016), (0, .nameAndType 1017 369), (0, u "canEncode"), (0, .methodref 107 1019), (0, .nameAndType 53 1020), (0, u "(C)[B"), (80, u "serialPersistentFields"), (0, u "[Ljava/io/ObjectStreamField;"), (0, .class_ 1104), (0, u "java/lang/String$CaseInsensitiveComparator"), (1, .class_ 1107), (0, u "java/io/Serializable"), (0, .class_ 1109), (0, u "java/lang/Comparable"), (0, .class_ 1111), (0, u "java/lang/constant/Constable"), (0, .class_ 1113), (0, u "java/lang/constant/ConstantDesc"), (2, u "serialVersionUID"), (0, u "J"), (3, u "REPL"), (0, u "C"), (2, u "LATIN1"), (1, u "UTF16")] 323

def k7m0 : Method := { name := "<init>", desc := "()V", sig := { parameters := [], returnType := none }, accessFlags := 1, code := none }
def k7c1 : Code := { maxStack := 5, maxLocals := 2, code := jdk_42_method_3_code, exceptionTable := #[], attributes := #[] }
def k7m1 : Method := { name := "<init>", desc := "([C)V", sig := { parameters := [(.array .char)], returnType := none }, accessFlags := 1, code := some k7c1 }
def k7c2 : Code := { maxStack := 2, maxLocals := 3, code := jdk_42_method_66_code, exceptionTable := #[], attributes := #[] }
def k7m2 : Method := { name := "equals", desc := "(Ljava/lang/Object;)Z", sig := { parameters := [(.object "java/lang/Object")], returnType := some .boolean }, accessFlags := 1, code := some k7c2 }
def k7c3 : Code := { maxStack := 4, maxLocals := 1, code := jdk_42_method_139_code, exceptionTable := #[], attributes := #[] }
def k7m3 : Method := { name := "valueOf", desc := "(C)Ljava/lang/String;", sig := { parameters := [.char], returnType := some (.object "java/lang/String") }, accessFlags := 9, code := some k7c3 }
def k7c4 : Code := { maxStack := 4, maxLocals := 6, code := jdk_42_method_149_code, exceptionTable := #[], attributes := #[] }
def k7m4 : Method := { name := "<init>", desc := "([CIILjava/lang/Void;)V", sig := { parameters := [(.array .char), .int, .int, (.object "java/lang/Void")], returnType := none }, accessFlags := 2, code := some k7c4 }
def k7c5 : Code := { maxStack := 2, maxLocals := 3, code := jdk_42_method_151_code, exceptionTable := #[], attributes := #[] }
def k7m5 : Method := { name := "<init>", desc := "([BB)V", sig := { parameters := [(.array .byte), .byte], returnType := none }, accessFlags := 0, code := some k7c5 }
/-- java/lang/String -/
def k7 : Class := { plain "java/lang/String" (some 0) with
  accessFlags := 49
  interfaces := #[2, 3, 4, 5, 6]
  cf := some (fileOf pool7 10 #[.nestMembers #[1103]] #[{ accessFlags := 1, nameIndex := 5, descriptorIndex := 6, attributes := #[] }, { accessFlags := 1, nameIndex := 5, descriptorIndex := 1010, attributes := #[] }, { accessFlags := 1, nameIndex := 543, descriptorIndex := 573, attributes := #[] }, { accessFlags := 9, nameIndex := 782, descriptorIndex := 783, attributes := #[] }, { accessFlags := 2, nameIndex := 5, descriptorIndex := 29, attributes := #[] }, { accessFlags := 0, nameIndex := 5, descriptorIndex := 211, attributes := #[] }] 49 2 #[1106, 1108, 575, 1110, 1112] #[{ accessFlags := 18, nameIndex := 13, descriptorIndex := 14, attributes := #[] }, { accessFlags := 18, nameIndex := 17, descriptorIndex := 18, attributes := #[] }, { accessFlags := 2, nameIndex := 21, descriptorIndex := 22, attributes := #[] }, { accessFlags := 2, nameIndex := 25, descriptorIndex := 26, attributes := #[] }, { accessFlags := 26, nameIndex := 1116, descriptorIndex := 1117, attributes := #[] }, { accessFlags := 24, nameIndex := 40, descriptorIndex := 26, attributes := #[] }, { accessFlags := 26, nameIndex := 1101, descriptorIndex := 1102, attributes := #[] }, { accessFlags := 26, nameIndex := 1121, descriptorIndex := 1122, attributes := #[] }, { accessFlags := 25, nameIndex := 599, descriptorIndex := 600, attributes := #[] }, { accessFlags := 24, nameIndex := 1125, descriptorIndex := 18, attributes := #[] }, { accessFlags := 24, nameIndex := 1127, descriptorIndex := 18, attributes := #[] }])
  fields := #[{ name := "value", type := (.array .byte), accessFlags := 18, slot := 0, constantValue := 0 }, { name := "coder", type := .byte, accessFlags := 18, slot := 1, constantValue := 0 }, { name := "hash", type := .int, accessFlags := 2, slot := 2, constantValue := 0 }, { name := "hashIsZero", type := .boolean, accessFlags := 2, slot := 3, constantValue := 0 }, { name := "serialVersionUID", type := .long, accessFlags := 26, slot := 0, constantValue := 0 }, { name := "COMPACT_STRINGS", type := .boolean, accessFlags := 24, slot := 1, constantValue := 0 }, { name := "serialPersistentFields", type := (.array (.object "java/io/ObjectStreamField")), accessFlags := 26, slot := 2, constantValue := 0 }, { name := "REPL", type := .char, accessFlags := 26, slot := 3, constantValue := 0 }, { name := "CASE_INSENSITIVE_ORDER", type := (.object "java/util/Comparator"), accessFlags := 25, slot := 4, constantValue := 0 }, { name := "LATIN1", type := .byte, accessFlags := 24, slot := 5, constantValue := 0 }, { name := "UTF16", type := .byte, accessFlags := 24, slot := 6, constantValue := 0 }]
  methods := #[k7m0, k7m1, k7m2, k7m3, k7m4, k7m5]
  instanceTypes := #[(.array .byte), .byte, .int, .boolean]
  staticTypes := #[.long, .boolean, (.array (.object "java/io/ObjectStreamField")), .char, (.object "java/util/Comparator"), .byte, .byte]
  resolved := Array.replicate 1451 none
  statics := some 0 }

def pool8 : Array CpInfo := pool [(4, .class_ 6), (1, u "java/lang/Object"), (0, u "<init>"), (0, u "()V"), (5, .class_ 16), (1, u "java/lang/StringLatin1"), (73, u "canEncode"), (14, u "(C)Z"), (15, u "$assertionsDisabled"), (0, u "Z"), (98, .class_ 223), (1, u "java/lang/StringLatin1$LinesSpliterator"), (156, u "toBytes"), (1, u "(C)[B"), (7, .class_ 391), (0, u "java/lang/StringLatin1$CharsSpliterator")] 3

def k8m0 : Method := { name := "<init>", desc := "()V", sig := { parameters := [], returnType := none }, accessFlags := 0, code := none }
def k8c1 : Code := { maxStack := 2, maxLocals := 1, code := jdk_43_method_3_code, exceptionTable := #[], attributes := #[] }
def k8m1 : Method := { name := "canEncode", desc := "(C)Z", sig := { parameters := [.char], returnType := some .boolean }, accessFlags := 9, code := some k8c1 }
def k8c2 : Code := { maxStack := 4, maxLocals := 1, code := jdk_43_method_46_code, exceptionTable := #[], attributes := #[] }
def k8m2 : Method := { name := "toBytes", desc := "(C)[B", sig := { parameters := [.char], returnType := some (.array .byte) }, accessFlags := 9, code := some k8c2 }
/-- java/lang/StringLatin1 -/
def k8 : Class := { plain "java/lang/StringLatin1" (some 0) with
  accessFlags := 48
  interfaces := #[]
  cf := some (fileOf pool8 14 #[.nestMembers #[390, 221]] #[{ accessFlags := 0, nameIndex := 7, descriptorIndex := 8, attributes := #[] }, { accessFlags := 9, nameIndex := 90, descriptorIndex := 105, attributes := #[] }, { accessFlags := 9, nameIndex := 380, descriptorIndex := 382, attributes := #[] }] 48 4 #[] #[{ accessFlags := 4120, nameIndex := 121, descriptorIndex := 122, attributes := #[] }])
  fields := #[{ name := "$assertionsDisabled", type := .boolean, accessFlags := 4120, slot := 0, constantValue := 0 }]
  methods := #[k8m0, k8m1, k8m2]
  instanceTypes := #[]
  staticTypes := #[.boolean]
  resolved := Array.replicate 395 none
  statics := none }

def pool9 : Array CpInfo := pool [(6, .class_ 8), (1, u "java/lang/Object"), (0, u "<init>"), (0, u "()V"), (1, .class_ 14), (1, u "java/lang/StringUTF16"), (31, u "$assertionsDisabled"), (0, u "Z"), (13, u "HI_BYTE_SHIFT"), (0, u "I"), (2, u "LO_BYTE_SHIFT"), (49, .methodref 12 116), (0, .nameAndType 117 118), (0, u "compress"), (0, u "([CI[BII)I"), (3, u "([CII)[B"), (138, u "coderFromArrayLen"), (0, u "([BI)B"), (106, .class_ 371), (1, u "java/lang/StringUTF16$LinesSpliterator"), (58, u "MAX_LENGTH"), (196, .class_ 628), (0, u "java/lang/StringUTF16$CodePointsSpliterator"), (0, .class_ 630), (0, u "java/lang/StringUTF16$CharsSpliterator")] 4

def k9m0 : Method := { name := "<init>", desc := "()V", sig := { parameters := [], returnType := none }, accessFlags := 0, code := none }
def k9c1 : Code := { maxStack := 2, maxLocals := 2, code := jdk_52_method_15_code, exceptionTable := #[], attributes := #[] }
def k9m1 : Method := { name := "coderFromArrayLen", desc := "([BI)B", sig := { parameters := [(.array .byte), .int], returnType := some .byte }, accessFlags := 8, code := some k9c1 }
def k9c2 : Code := { maxStack := 5, maxLocals := 6, code := jdk_52_method_16_code, exceptionTable := #[], attributes := #[] }
def k9m2 : Method := { name := "compress", desc := "([CII)[B", sig := { parameters := [(.array .char), .int, .int], returnType := some (.array .byte) }, accessFlags := 9, code := some k9c2 }
def k9c3 : Code := { maxStack := 3, maxLocals := 7, code := jdk_52_method_21_code, exceptionTable := #[], attributes := #[] }
def k9m3 : Method := { name := "compress", desc := "([CI[BII)I", sig := { parameters := [(.array .char), .int, (.array .byte), .int, .int], returnType := some .int }, accessFlags := 9, code := some k9c3 }
/-- java/lang/StringUTF16 -/
def k9 : Class := { plain "java/lang/StringUTF16" (some 0) with
  accessFlags := 48
  interfaces := #[]
  cf := some (fileOf pool9 12 #[.nestMembers #[627, 629, 369]] #[{ accessFlags := 0, nameIndex := 9, descriptorIndex := 10, attributes := #[] }, { accessFlags := 8, nameIndex := 261, descriptorIndex := 262, attributes := #[] }, { accessFlags := 9, nameIndex := 117, descriptorIndex := 122, attributes := #[] }, { accessFlags := 9, nameIndex := 117, descriptorIndex := 118, attributes := #[] }] 48 6 #[] #[{ accessFlags := 26, nameIndex := 61, descriptorIndex := 62, attributes := #[] }, { accessFlags := 26, nameIndex := 65, descriptorIndex := 62, attributes := #[] }, { accessFlags := 24, nameIndex := 430, descriptorIndex := 62, attributes := #[] }, { accessFlags := 4120, nameIndex := 46, descriptorIndex := 47, attributes := #[] }])
  fields := #[{ name := "HI_BYTE_SHIFT", type := .int, accessFlags := 26, slot := 0, constantValue := 0 }, { name := "LO_BYTE_SHIFT", type := .int, accessFlags := 26, slot := 1, constantValue := 0 }, { name := "MAX_LENGTH", type := .int, accessFlags := 24, slot := 2, constantValue := 0 }, { name := "$assertionsDisabled", type := .boolean, accessFlags := 4120, slot := 3, constantValue := 0 }]
  methods := #[k9m0, k9m1, k9m2, k9m3]
  instanceTypes := #[]
  staticTypes := #[.int, .int, .int, .boolean]
  resolved := Array.replicate 635 none
  statics := none }

def pool10 : Array CpInfo := pool [(8, .class_ 10), (1, u "java/lang/Iterable"), (24, .class_ 36), (0, u "java/lang/Object")] 25

/-- java/lang/Iterable -/
def k10 : Class := { plain "java/lang/Iterable" (some 0) with
  accessFlags := 1537
  interfaces := #[]
  cf := some (fileOf pool10 8 #[] #[] 1537 35 #[] #[])
  fields := #[]
  methods := #[]
  instanceTypes := #[]
  staticTypes := #[]
  resolved := Array.replicate 62 none
  statics := none }

def pool11 : Array CpInfo := pool [(10, .class_ 12), (1, u "java/util/Collection"), (47, .class_ 61), (0, u "java/lang/Object"), (0, .class_ 63), (0, u "java/lang/Iterable")] 51

/-- java/util/Collection -/
def k11 : Class := { plain "java/util/Collection" (some 0) with
  accessFlags := 1537
  interfaces := #[10]
  cf := some (fileOf pool11 10 #[] #[] 1537 60 #[62] #[])
  fields := #[]
  methods := #[]
  instanceTypes := #[]
  staticTypes := #[]
  resolved := Array.replicate 115 none
  statics := none }

def pool12 : Array CpInfo := pool [(1, .methodref 2 3), (0, .class_ 4), (0, .nameAndType 5 6), (0, u "java/lang/Object"), (0, u "<init>"), (0, u "()V"), (1, .class_ 10), (1, u "java/util/AbstractCollection"), (66, .class_ 78), (0, u "java/util/Collection")] 81

def k12c0 : Code := { maxStack := 1, maxLocals := 1, code := jdk_22_method_1_code, exceptionTable := #[], attributes := #[] }
def k12m0 : Method := { name := "<init>", desc := "()V", sig := { parameters := [], returnType := none }, accessFlags := 4, code := some k12c0 }
/-- java/util/AbstractCollection -/
def k12 : Class := { plain "java/util/AbstractCollection" (some 0) with
  accessFlags := 1057
  interfaces := #[11]
  cf := some (fileOf pool12 8 #[] #[{ accessFlags := 4, nameIndex := 5, descriptorIndex := 6, attributes := #[] }] 1057 2 #[77] #[])
  fields := #[]
  methods := #[k12m0]
  instanceTypes := #[]
  staticTypes := #[]
  resolved := Array.replicate 160 none
  statics := none }

def pool13 : Array CpInfo := pool [(8, .class_ 10), (1, u "java/util/SequencedCollection"), (15, .class_ 27), (0, u "java/lang/Object"), (0, .class_ 29), (0, u "java/util/Collection")] 27

/-- java/util/SequencedCollection -/
def k13 : Class := { plain "java/util/SequencedCollection" (some 0) with
  accessFlags := 1537
  interfaces := #[11]
  cf := some (fileOf pool13 8 #[] #[] 1537 26 #[28] #[])
  fields := #[]
  methods := #[]
  instanceTypes := #[]
  staticTypes := #[]
  resolved := Array.replicate 57 none
  statics := none }

def pool14 : Array CpInfo := pool [(8, .class_ 10), (1, u "java/util/List"), (49, u "add"), (3, u "(Ljava/lang/Object;)Z"), (10, u "get"), (0, u "(I)Ljava/lang/Object;"), (26, .class_ 104), (0, u "java/lang/Object"), (15, .class_ 121), (0, u "java/util/SequencedCollection")] 129

def k14m0 : Method := { name := "add", desc := "(Ljava/lang/Object;)Z", sig := { parameters := [(.object "java/lang/Object")], returnType := some .boolean }, accessFlags := 1025, code := none }
def k14m1 : Method := { name := "get", desc := "(I)Ljava/lang/Object;", sig := { parameters := [.int], returnType := some (.object "java/lang/Object") }, accessFlags := 1025, code := none }
/-- java/util/List -/
def k14 : Class := { plain "java/util/List" (some 0) with
  accessFlags := 1537
  interfaces := #[13]
  cf := some (fileOf pool14 8 #[] #[{ accessFlags := 1025, nameIndex := 60, descriptorIndex := 64, attributes := #[] }, { accessFlags := 1025, nameIndex := 75, descriptorIndex := 76, attributes := #[] }] 1537 103 #[120] #[])
  fields := #[]
  methods := #[k14m0, k14m1]
  instanceTypes := #[]
  staticTypes := #[]
  resolved := Array.replicate 251 none
  statics := none }

def pool15 : Array CpInfo := pool [(1, .methodref 2 3), (0, .class_ 4), (0, .nameAndType 5 6), (0, u "java/util/AbstractCollection"), (0, u "<init>"), (0, u "()V"), (0, .fieldref 8 9), (0, .class_ 10), (0, .nameAndType 11 12), (0, u "java/util/AbstractList"), (0, u "modCount"), (0, u "I"), (64, .class_ 78), (0, u "java/util/AbstractList$Itr"), (3, .class_ 83), (0, u "java/util/AbstractList$ListItr"), (9, .class_ 94), (0, u "java/util/AbstractList$RandomAccessSubList"), (3, .class_ 99), (0, u "java/util/AbstractList$SubList"), (33, .class_ 134), (0, u "java/util/List"), (73, .class_ 209), (0, u "java/util/AbstractList$SubList$1"), (0, .class_ 211), (0, u "java/util/AbstractList$RandomAccessSpliterator")] 6

def k15c0 : Code := { maxStack := 2, maxLocals := 1, code := jdk_39_method_1_code, exceptionTable := #[], attributes := #[] }
def k15m0 : Method := { name := "<init>", desc := "()V", sig := { parameters := [], returnType := none }, accessFlags := 4, code := some k15c0 }
/-- java/util/AbstractList -/
def k15 : Class := { plain "java/util/AbstractList" (some 12) with
  accessFlags := 1057
  interfaces := #[14]
  cf := some (fileOf pool15 8 #[.nestMembers #[93, 98, 208, 210, 82, 77]] #[{ accessFlags := 4, nameIndex := 5, descriptorIndex := 6, attributes := #[] }] 1057 2 #[133] #[{ accessFlags := 132, nameIndex := 11, descriptorIndex := 12, attributes := #[] }])
  fields := #[{ name := "modCount", type := .int, accessFlags := 132, slot := 0, constantValue := 0 }]
  methods := #[k15m0]
  instanceTypes := #[.int]
  staticTypes := #[]
  resolved := Array.replicate 218 none
  statics := none }

def pool16 : Array CpInfo := pool [(1, .class_ 2), (0, u "java/util/RandomAccess"), (0, .class_ 4), (0, u "java/lang/Object")] 2

/-- java/util/RandomAccess -/
def k16 : Class := { plain "java/util/RandomAccess" (some 0) with
  accessFlags := 1537
  interfaces := #[]
  cf := some (fileOf pool16 1 #[] #[] 1537 3 #[] #[])
  fields := #[]
  methods := #[]
  instanceTypes := #[]
  staticTypes := #[]
  resolved := Array.replicate 7 none
  statics := none }

def pool17 : Array CpInfo := pool [(1, .class_ 2), (0, u "java/lang/Cloneable"), (0, .class_ 4), (0, u "java/lang/Object")] 2

/-- java/lang/Cloneable -/
def k17 : Class := { plain "java/lang/Cloneable" (some 0) with
  accessFlags := 1537
  interfaces := #[]
  cf := some (fileOf pool17 1 #[] #[] 1537 3 #[] #[])
  fields := #[]
  methods := #[]
  instanceTypes := #[]
  staticTypes := #[]
  resolved := Array.replicate 7 none
  statics := none }

def pool18 : Array CpInfo := pool [(1, .methodref 2 3), (0, .class_ 4), (0, .nameAndType 5 6), (0, u "java/util/AbstractList"), (0, u "<init>"), (0, u "()V"), (0, .class_ 8), (0, u "java/lang/Object"), (0, .fieldref 10 11), (0, .class_ 12), (0, .nameAndType 13 14), (0, u "java/util/ArrayList"), (0, u "elementData"), (0, u "[Ljava/lang/Object;"), (2, u "EMPTY_ELEMENTDATA"), (21, .fieldref 10 40), (0, .nameAndType 41 14), (0, u "DEFAULTCAPACITY_EMPTY_ELEMENTDATA"), (5, u "()[Ljava/lang/Object;"), (0, .fieldref 10 49), (0, .nameAndType 50 51), (0, u "size"), (0, u "I"), (11, .fieldref 10 64), (0, .nameAndType 65 51), (0, u "modCount"), (3, .methodref 10 70), (0, .nameAndType 71 72), (0, u "grow"), (0, u "(I)[Ljava/lang/Object;"), (6, .methodref 80 81), (0, .class_ 82), (0, .nameAndType 83 84), (0, u "java/lang/Math"), (0, u "max"), (0, u "(II)I"), (11, u "(Ljava/lang/Object;)Z"), (21, .methodref 119 120), (0, .class_ 121), (0, .nameAndType 122 84), (0, u "java/util/Objects"), (0, u "checkIndex"), (0, .methodref 10 124), (0, .nameAndType 13 125), (0, u "(I)Ljava/lang/Object;"), (3, .methodref 10 130), (0, .nameAndType 71 47), (0, .methodref 10 132), (0, .nameAndType 133 134), (0, u "add"), (0, u "(Ljava/lang/Object;[Ljava/lang/Object;I)V"), (13, .class_ 149), (0, u "java/util/List"), (112, .class_ 263), (0, u "java/util/ArrayList$ListItr"), (3, .class_ 268), (0, u "java/util/ArrayList$Itr"), (7, .class_ 277), (0, u "java/util/ArrayList$SubList"), (12, .class_ 291), (0, u "java/util/ArrayList$ArrayListSpliterator"), (37, .class_ 330), (0, u "java/util/RandomAccess"), (0, .class_ 332), (0, u "java/lang/Cloneable"), (0, .class_ 334), (0, u "java/io/Serializable"), (0, u "serialVersionUID"), (0, u "J"), (3, u "DEFAULT_CAPACITY"), (40, u "get"), (118, .class_ 501), (0, u "java/util/ArrayList$SubList$2"), (0, .class_ 503), (0, u "java/util/ArrayList$SubList$1")] 5

def k18c0 : Code := { maxStack := 2, maxLocals := 1, code := jdk_38_method_2_code, exceptionTable := #[], attributes := #[] }
def k18m0 : Method := { name := "<init>", desc := "()V", sig := { parameters := [], returnType := none }, accessFlags := 1, code := some k18c0 }
def k18c1 : Code := { maxStack := 4, maxLocals := 4, code := jdk_38_method_6_code, exceptionTable := #[], attributes := #[] }
def k18m1 : Method := { name := "grow", desc := "(I)[Ljava/lang/Object;", sig := { parameters := [.int], returnType := some (.array (.object "java/lang/Object")) }, accessFlags := 2, code := some k18c1 }
def k18c2 : Code := { maxStack := 3, maxLocals := 1, code := jdk_38_method_7_code, exceptionTable := #[], attributes := #[] }
def k18m2 : Method := { name := "grow", desc := "()[Ljava/lang/Object;", sig := { parameters := [], returnType := some (.array (.object "java/lang/Object")) }, accessFlags := 2, code := some k18c2 }
def k18c3 : Code := { maxStack := 2, maxLocals := 2, code := jdk_38_method_18_code, exceptionTable := #[], attributes := #[] }
def k18m3 : Method := { name := "elementData", desc := "(I)Ljava/lang/Object;", sig := { parameters := [.int], returnType := some (.object "java/lang/Object") }, accessFlags := 0, code := some k18c3 }
def k18c4 : Code := { maxStack := 2, maxLocals := 2, code := jdk_38_method_20_code, exceptionTable := #[], attributes := #[] }
def k18m4 : Method := { name := "get", desc := "(I)Ljava/lang/Object;", sig := { parameters := [.int], returnType := some (.object "java/lang/Object") }, accessFlags := 1, code := some k18c4 }
def k18c5 : Code := { maxStack := 3, maxLocals := 4, code := jdk_38_method_24_code, exceptionTable := #[], attributes := #[] }
def k18m5 : Method := { name := "add", desc := "(Ljava/lang/Object;[Ljava/lang/Object;I)V", sig := { parameters := [(.object "java/lang/Object"), (.array (.object "java/lang/Object")), .int], returnType := none }, accessFlags := 2, code := some k18c5 }
def k18c6 : Code := { maxStack := 4, maxLocals := 2, code := jdk_38_method_25_code, exceptionTable := #[], attributes := #[] }
def k18m6 : Method := { name := "add", desc := "(Ljava/lang/Object;)Z", sig := { parameters := [(.object "java/lang/Object")], returnType := some .boolean }, accessFlags := 1, code := some k18c6 }
/-- java/util/ArrayList -/
def k18 : Class := { plain "java/util/ArrayList" (some 15) with
  accessFlags := 33
  interfaces := #[14, 16, 17, 2]
  cf := some (fileOf pool18 10 #[.nestMembers #[290, 276, 500, 502, 262, 267]] #[{ accessFlags := 1, nameIndex := 5, descriptorIndex := 6, attributes := #[] }, { accessFlags := 2, nameIndex := 71, descriptorIndex := 72, attributes := #[] }, { accessFlags := 2, nameIndex := 71, descriptorIndex := 47, attributes := #[] }, { accessFlags := 0, nameIndex := 13, descriptorIndex := 125, attributes := #[] }, { accessFlags := 1, nameIndex := 381, descriptorIndex := 125, attributes := #[] }, { accessFlags := 2, nameIndex := 133, descriptorIndex := 134, attributes := #[] }, { accessFlags := 1, nameIndex := 133, descriptorIndex := 96, attributes := #[] }] 33 2 #[148, 329, 331, 333] #[{ accessFlags := 26, nameIndex := 335, descriptorIndex := 336, attributes := #[] }, { accessFlags := 26, nameIndex := 340, descriptorIndex := 51, attributes := #[] }, { accessFlags := 26, nameIndex := 17, descriptorIndex := 14, attributes := #[] }, { accessFlags := 26, nameIndex := 41, descriptorIndex := 14, attributes := #[] }, { accessFlags := 128, nameIndex := 13, descriptorIndex := 14, attributes := #[] }, { accessFlags := 2, nameIndex := 50, descriptorIndex := 51, attributes := #[] }])
  fields := #[{ name := "serialVersionUID", type := .long, accessFlags := 26, slot := 0, constantValue := 0 }, { name := "DEFAULT_CAPACITY", type := .int, accessFlags := 26, slot := 1, constantValue := 0 }, { name := "EMPTY_ELEMENTDATA", type := (.array (.object "java/lang/Object")), accessFlags := 26, slot := 2, constantValue := 0 }, { name := "DEFAULTCAPACITY_EMPTY_ELEMENTDATA", type := (.array (.object "java/lang/Object")), accessFlags := 26, slot := 3, constantValue := 0 }, { name := "elementData", type := (.array (.object "java/lang/Object")), accessFlags := 128, slot := 1, constantValue := 0 }, { name := "size", type := .int, accessFlags := 2, slot := 2, constantValue := 0 }]
  methods := #[k18m0, k18m1, k18m2, k18m3, k18m4, k18m5, k18m6]
  instanceTypes := #[.int, (.array (.object "java/lang/Object")), .int]
  staticTypes := #[.long, .int, (.array (.object "java/lang/Object")), (.array (.object "java/lang/Object"))]
  resolved := Array.replicate 509 none
  statics := some 1 }

def pool19 : Array CpInfo := pool [(1, .class_ 2), (0, u "java/lang/Math"), (1, .class_ 6), (1, u "java/lang/Object"), (0, u "<init>"), (0, u "()V"), (89, .class_ 100), (1, u "java/lang/Math$RandomNumberGeneratorHolder"), (71, u "negativeZeroFloatBits"), (0, u "J"), (2, u "negativeZeroDoubleBits"), (21, u "max"), (46, u "$assertionsDisabled"), (0, u "Z"), (88, u "(II)I"), (2, u "twoToTheDoubleScaleDown"), (0, u "D"), (4, u "twoToTheDoubleScaleUp"), (9, u "E"), (3, u "PI"), (2, u "TAU"), (2, u "DEGREES_TO_RADIANS"), (0, u "RADIANS_TO_DEGREES")] 94

def k19m0 : Method := { name := "<init>", desc := "()V", sig := { parameters := [], returnType := none }, accessFlags := 2, code := none }
def k19c1 : Code := { maxStack := 2, maxLocals := 2, code := jdk_29_method_65_code, exceptionTable := #[], attributes := #[] }
def k19m1 : Method := { name := "max", desc := "(II)I", sig := { parameters := [.int, .int], returnType := some .int }, accessFlags := 9, code := some k19c1 }
/-- java/lang/Math -/
def k19 : Class := { plain "java/lang/Math" (some 0) with
  accessFlags := 49
  interfaces := #[]
  cf := some (fileOf pool19 1 #[.nestMembers #[98]] #[{ accessFlags := 2, nameIndex := 7, descriptorIndex := 8, attributes := #[] }, { accessFlags := 9, nameIndex := 198, descriptorIndex := 335, attributes := #[] }] 49 4 #[] #[{ accessFlags := 25, nameIndex := 354, descriptorIndex := 339, attributes := #[] }, { accessFlags := 25, nameIndex := 358, descriptorIndex := 339, attributes := #[] }, { accessFlags := 25, nameIndex := 361, descriptorIndex := 339, attributes := #[] }, { accessFlags := 26, nameIndex := 364, descriptorIndex := 339, attributes := #[] }, { accessFlags := 26, nameIndex := 365, descriptorIndex := 339, attributes := #[] }, { accessFlags := 26, nameIndex := 172, descriptorIndex := 173, attributes := #[] }, { accessFlags := 26, nameIndex := 176, descriptorIndex := 173, attributes := #[] }, { accessFlags := 8, nameIndex := 344, descriptorIndex := 339, attributes := #[] }, { accessFlags := 8, nameIndex := 338, descriptorIndex := 339, attributes := #[] }, { accessFlags := 4120, nameIndex := 245, descriptorIndex := 246, attributes := #[] }])
  fields := #[{ name := "E", type := .double, accessFlags := 25, slot := 0, constantValue := 0 }, { name := "PI", type := .double, accessFlags := 25, slot := 1, constantValue := 0 }, { name := "TAU", type := .double, accessFlags := 25, slot := 2, constantValue := 0 }, { name := "DEGREES_TO_RADIANS", type := .double, accessFlags := 26, slot := 3, constantValue := 0 }, { name := "RADIANS_TO_DEGREES", type := .double, accessFlags := 26, slot := 4, constantValue := 0 }, { name := "negativeZeroFloatBits", type := .long, accessFlags := 26, slot := 5, constantValue := 0 }, { name := "negativeZeroDoubleBits", type := .long, accessFlags := 26, slot := 6, constantValue := 0 }, { name := "twoToTheDoubleScaleUp", type := .double, accessFlags := 8, slot := 7, constantValue := 0 }, { name := "twoToTheDoubleScaleDown", type := .double, accessFlags := 8, slot := 8, constantValue := 0 }, { name := "$assertionsDisabled", type := .boolean, accessFlags := 4120, slot := 9, constantValue := 0 }]
  methods := #[k19m0, k19m1]
  instanceTypes := #[]
  staticTypes := #[.double, .double, .double, .double, .double, .long, .long, .double, .double, .boolean]
  resolved := Array.replicate 460 none
  statics := none }

def pool20 : Array CpInfo := pool [(1, .methodref 2 3), (0, .class_ 4), (0, .nameAndType 5 6), (0, u "java/lang/Object"), (0, u "<init>"), (0, u "()V"), (0, .class_ 8), (0, u "java/lang/Record")] 13

def k20c0 : Code := { maxStack := 1, maxLocals := 1, code := jdk_30_method_1_code, exceptionTable := #[], attributes := #[] }
def k20m0 : Method := { name := "<init>", desc := "()V", sig := { parameters := [], returnType := none }, accessFlags := 4, code := some k20c0 }
/-- java/lang/Record -/
def k20 : Class := { plain "java/lang/Record" (some 0) with
  accessFlags := 1057
  interfaces := #[]
  cf := some (fileOf pool20 7 #[] #[{ accessFlags := 4, nameIndex := 5, descriptorIndex := 6, attributes := #[] }] 1057 2 #[] #[])
  fields := #[]
  methods := #[k20m0]
  instanceTypes := #[]
  staticTypes := #[]
  resolved := Array.replicate 22 none
  statics := none }

def pool21 : Array CpInfo := pool [(1, .methodref 2 3), (0, .class_ 4), (0, .nameAndType 5 6), (0, u "java/lang/Record"), (0, u "<init>"), (0, u "()V"), (0, .fieldref 8 9), (0, .class_ 10), (0, .nameAndType 11 12), (0, u "com/example/tableau_abduction/tableauabduction/cli/TabSeparatedFile$Row"), (0, u "line"), (0, u "I"), (0, .fieldref 8 14), (0, .nameAndType 15 16), (0, u "fields"), (0, u "Ljava/util/List;"), (0, .interfaceMethodref 18 19), (0, .class_ 20), (0, .nameAndType 21 22), (0, u "java/util/List"), (0, u "get"), (0, u "(I)Ljava/lang/Object;"), (0, .class_ 24), (0, u "java/lang/String"), (14, u "(ILjava/util/List;)V"), (4, u "field"), (0, u "(I)Ljava/lang/String;"), (1, u "()I"), (6, .class_ 55), (0, u "com/example/tableau_abduction/tableauabduction/cli/TabSeparatedFile")] 20

def k21c0 : Code := { maxStack := 2, maxLocals := 3, code := prog_20_method_1_code, exceptionTable := #[], attributes := #[] }
def k21m0 : Method := { name := "<init>", desc := "(ILjava/util/List;)V", sig := { parameters := [.int, (.object "java/util/List")], returnType := none }, accessFlags := 0, code := some k21c0 }
def k21c1 : Code := { maxStack := 2, maxLocals := 2, code := prog_20_method_2_code, exceptionTable := #[], attributes := #[] }
def k21m1 : Method := { name := "field", desc := "(I)Ljava/lang/String;", sig := { parameters := [.int], returnType := some (.object "java/lang/String") }, accessFlags := 0, code := some k21c1 }
def k21c2 : Code := { maxStack := 1, maxLocals := 1, code := prog_20_method_6_code, exceptionTable := #[], attributes := #[] }
def k21m2 : Method := { name := "line", desc := "()I", sig := { parameters := [], returnType := some .int }, accessFlags := 1, code := some k21c2 }
/-- com/example/tableau_abduction/tableauabduction/cli/TabSeparatedFile$Row -/
def k21 : Class := { plain "com/example/tableau_abduction/tableauabduction/cli/TabSeparatedFile$Row" (some 20) with
  accessFlags := 48
  interfaces := #[]
  cf := some (fileOf pool21 8 #[.nestHost 54] #[{ accessFlags := 0, nameIndex := 5, descriptorIndex := 39, attributes := #[] }, { accessFlags := 0, nameIndex := 44, descriptorIndex := 45, attributes := #[] }, { accessFlags := 1, nameIndex := 11, descriptorIndex := 47, attributes := #[] }] 48 2 #[] #[{ accessFlags := 18, nameIndex := 11, descriptorIndex := 12, attributes := #[] }, { accessFlags := 18, nameIndex := 15, descriptorIndex := 16, attributes := #[] }])
  fields := #[{ name := "line", type := .int, accessFlags := 18, slot := 0, constantValue := 0 }, { name := "fields", type := (.object "java/util/List"), accessFlags := 18, slot := 1, constantValue := 0 }]
  methods := #[k21m0, k21m1, k21m2]
  instanceTypes := #[.int, (.object "java/util/List")]
  staticTypes := #[]
  resolved := Array.replicate 76 none
  statics := none }

def pool22 : Array CpInfo := pool [(2, .class_ 4), (1, u "java/lang/Object"), (0, u "<init>"), (0, u "()V"), (35, .class_ 44), (1, u "java/util/Objects"), (60, .methodref 106 107), (0, .class_ 108), (0, .nameAndType 109 110), (0, u "jdk/internal/util/Preconditions"), (0, u "checkIndex"), (0, u "(IILjava/util/function/BiFunction;)I"), (60, u "(II)I")] 12

def k22m0 : Method := { name := "<init>", desc := "()V", sig := { parameters := [], returnType := none }, accessFlags := 2, code := none }
def k22c1 : Code := { maxStack := 3, maxLocals := 2, code := jdk_31_method_17_code, exceptionTable := #[], attributes := #[] }
def k22m1 : Method := { name := "checkIndex", desc := "(II)I", sig := { parameters := [.int, .int], returnType := some .int }, accessFlags := 9, code := some k22c1 }
/-- java/util/Objects -/
def k22 : Class := { plain "java/util/Objects" (some 0) with
  accessFlags := 49
  interfaces := #[]
  cf := some (fileOf pool22 42 #[] #[{ accessFlags := 2, nameIndex := 5, descriptorIndex := 6, attributes := #[] }, { accessFlags := 9, nameIndex := 109, descriptorIndex := 171, attributes := #[] }] 49 2 #[] #[])
  fields := #[]
  methods := #[k22m0, k22m1]
  instanceTypes := #[]
  staticTypes := #[]
  resolved := Array.replicate 184 none
  statics := none }

def pool23 : Array CpInfo := pool [(2, .class_ 4), (1, u "java/lang/Object"), (0, u "<init>"), (0, u "()V"), (17, .class_ 26), (1, u "jdk/internal/util/Preconditions"), (6, u "checkIndex"), (21, .class_ 56), (0, u "jdk/internal/util/Preconditions$4"), (57, .class_ 115), (0, u "jdk/internal/util/Preconditions$1"), (7, u "SIOOBE_FORMATTER"), (0, u "Ljava/util/function/BiFunction;"), (0, .class_ 126), (0, u "jdk/internal/util/Preconditions$2"), (3, u "AIOOBE_FORMATTER"), (0, .class_ 132), (0, u "jdk/internal/util/Preconditions$3"), (3, u "IOOBE_FORMATTER"), (41, u "(IILjava/util/function/BiFunction;)I")] 15

def k23m0 : Method := { name := "<init>", desc := "()V", sig := { parameters := [], returnType := none }, accessFlags := 1, code := none }
def k23c1 : Code := { maxStack := 3, maxLocals := 3, code := jdk_41_method_11_code, exceptionTable := #[], attributes := #[] }
def k23m1 : Method := { name := "checkIndex", desc := "(IILjava/util/function/BiFunction;)I", sig := { parameters := [.int, .int, (.object "java/util/function/BiFunction")], returnType := some .int }, accessFlags := 9, code := some k23c1 }
/-- jdk/internal/util/Preconditions -/
def k23 : Class := { plain "jdk/internal/util/Preconditions" (some 0) with
  accessFlags := 33
  interfaces := #[]
  cf := some (fileOf pool23 24 #[.nestMembers #[55, 131, 125, 114]] #[{ accessFlags := 1, nameIndex := 5, descriptorIndex := 6, attributes := #[] }, { accessFlags := 9, nameIndex := 33, descriptorIndex := 178, attributes := #[] }] 33 2 #[] #[{ accessFlags := 25, nameIndex := 123, descriptorIndex := 124, attributes := #[] }, { accessFlags := 25, nameIndex := 130, descriptorIndex := 124, attributes := #[] }, { accessFlags := 25, nameIndex := 136, descriptorIndex := 124, attributes := #[] }])
  fields := #[{ name := "SIOOBE_FORMATTER", type := (.object "java/util/function/BiFunction"), accessFlags := 25, slot := 0, constantValue := 0 }, { name := "AIOOBE_FORMATTER", type := (.object "java/util/function/BiFunction"), accessFlags := 25, slot := 1, constantValue := 0 }, { name := "IOOBE_FORMATTER", type := (.object "java/util/function/BiFunction"), accessFlags := 25, slot := 2, constantValue := 0 }]
  methods := #[k23m0, k23m1]
  instanceTypes := #[]
  staticTypes := #[(.object "java/util/function/BiFunction"), (.object "java/util/function/BiFunction"), (.object "java/util/function/BiFunction")]
  resolved := Array.replicate 194 none
  statics := some 2 }

def pool24 : Array CpInfo := pool [(9, u "<init>"), (6, .class_ 18), (1, u "java/lang/Object"), (0, u "()V"), (1, .class_ 23), (1, u "jdk/internal/util/ArraysSupport"), (0, u "LOG2_ARRAY_LONG_INDEX_SCALE"), (0, u "I"), (2, u "U"), (0, u "Ljdk/internal/misc/Unsafe;"), (8, u "BIG_ENDIAN"), (0, u "Z"), (8, u "LOG2_BYTE_BIT_SIZE"), (4, u "LOG2_ARRAY_INT_INDEX_SCALE"), (54, u "JLA"), (0, u "Ljdk/internal/access/JavaLangAccess;"), (11, u "LOG2_ARRAY_BOOLEAN_INDEX_SCALE"), (9, u "LOG2_ARRAY_BYTE_INDEX_SCALE"), (5, u "LOG2_ARRAY_CHAR_INDEX_SCALE"), (5, u "LOG2_ARRAY_SHORT_INDEX_SCALE"), (18, u "LOG2_ARRAY_FLOAT_INDEX_SCALE"), (24, u "LOG2_ARRAY_DOUBLE_INDEX_SCALE"), (89, u "T_BOOLEAN"), (2, u "T_CHAR"), (1, u "T_FLOAT"), (1, u "T_DOUBLE"), (1, u "T_BYTE"), (1, u "T_SHORT"), (1, u "T_INT"), (1, u "T_LONG"), (1, u "SOFT_MAX_ARRAY_LENGTH")] 83

def k24m0 : Method := { name := "<init>", desc := "()V", sig := { parameters := [], returnType := none }, accessFlags := 2, code := none }
/-- jdk/internal/util/ArraysSupport -/
def k24 : Class := { plain "jdk/internal/util/ArraysSupport" (some 0) with
  accessFlags := 33
  interfaces := #[]
  cf := some (fileOf pool24 21 #[] #[{ accessFlags := 2, nameIndex := 9, descriptorIndex := 19, attributes := #[] }] 33 16 #[] #[{ accessFlags := 24, nameIndex := 28, descriptorIndex := 29, attributes := #[] }, { accessFlags := 26, nameIndex := 38, descriptorIndex := 39, attributes := #[] }, { accessFlags := 25, nameIndex := 121, descriptorIndex := 25, attributes := #[] }, { accessFlags := 25, nameIndex := 131, descriptorIndex := 25, attributes := #[] }, { accessFlags := 25, nameIndex := 137, descriptorIndex := 25, attributes := #[] }, { accessFlags := 25, nameIndex := 143, descriptorIndex := 25, attributes := #[] }, { accessFlags := 25, nameIndex := 53, descriptorIndex := 25, attributes := #[] }, { accessFlags := 25, nameIndex := 24, descriptorIndex := 25, attributes := #[] }, { accessFlags := 25, nameIndex := 162, descriptorIndex := 25, attributes := #[] }, { accessFlags := 25, nameIndex := 187, descriptorIndex := 25, attributes := #[] }, { accessFlags := 26, nameIndex := 48, descriptorIndex := 25, attributes := #[] }, { accessFlags := 25, nameIndex := 277, descriptorIndex := 25, attributes := #[] }, { accessFlags := 25, nameIndex := 280, descriptorIndex := 25, attributes := #[] }, { accessFlags := 25, nameIndex := 282, descriptorIndex := 25, attributes := #[] }, { accessFlags := 25, nameIndex := 284, descriptorIndex := 25, attributes := #[] }, { accessFlags := 25, nameIndex := 286, descriptorIndex := 25, attributes := #[] }, { accessFlags := 25, nameIndex := 288, descriptorIndex := 25, attributes := #[] }, { accessFlags := 25, nameIndex := 290, descriptorIndex := 25, attributes := #[] }, { accessFlags := 25, nameIndex := 292, descriptorIndex := 25, attributes := #[] }, { accessFlags := 26, nameIndex := 108, descriptorIndex := 109, attributes := #[] }, { accessFlags := 25, nameIndex := 294, descriptorIndex := 25, attributes := #[] }])
  fields := #[{ name := "U", type := (.object "jdk/internal/misc/Unsafe"), accessFlags := 24, slot := 0, constantValue := 0 }, { name := "BIG_ENDIAN", type := .boolean, accessFlags := 26, slot := 1, constantValue := 0 }, { name := "LOG2_ARRAY_BOOLEAN_INDEX_SCALE", type := .int, accessFlags := 25, slot := 2, constantValue := 0 }, { name := "LOG2_ARRAY_BYTE_INDEX_SCALE", type := .int, accessFlags := 25, slot := 3, constantValue := 0 }, { name := "LOG2_ARRAY_CHAR_INDEX_SCALE", type := .int, accessFlags := 25, slot := 4, constantValue := 0 }, { name := "LOG2_ARRAY_SHORT_INDEX_SCALE", type := .int, accessFlags := 25, slot := 5, constantValue := 0 }, { name := "LOG2_ARRAY_INT_INDEX_SCALE", type := .int, accessFlags := 25, slot := 6, constantValue := 0 }, { name := "LOG2_ARRAY_LONG_INDEX_SCALE", type := .int, accessFlags := 25, slot := 7, constantValue := 0 }, { name := "LOG2_ARRAY_FLOAT_INDEX_SCALE", type := .int, accessFlags := 25, slot := 8, constantValue := 0 }, { name := "LOG2_ARRAY_DOUBLE_INDEX_SCALE", type := .int, accessFlags := 25, slot := 9, constantValue := 0 }, { name := "LOG2_BYTE_BIT_SIZE", type := .int, accessFlags := 26, slot := 10, constantValue := 0 }, { name := "T_BOOLEAN", type := .int, accessFlags := 25, slot := 11, constantValue := 0 }, { name := "T_CHAR", type := .int, accessFlags := 25, slot := 12, constantValue := 0 }, { name := "T_FLOAT", type := .int, accessFlags := 25, slot := 13, constantValue := 0 }, { name := "T_DOUBLE", type := .int, accessFlags := 25, slot := 14, constantValue := 0 }, { name := "T_BYTE", type := .int, accessFlags := 25, slot := 15, constantValue := 0 }, { name := "T_SHORT", type := .int, accessFlags := 25, slot := 16, constantValue := 0 }, { name := "T_INT", type := .int, accessFlags := 25, slot := 17, constantValue := 0 }, { name := "T_LONG", type := .int, accessFlags := 25, slot := 18, constantValue := 0 }, { name := "JLA", type := (.object "jdk/internal/access/JavaLangAccess"), accessFlags := 26, slot := 19, constantValue := 0 }, { name := "SOFT_MAX_ARRAY_LENGTH", type := .int, accessFlags := 25, slot := 20, constantValue := 0 }]
  methods := #[k24m0]
  instanceTypes := #[]
  staticTypes := #[(.object "jdk/internal/misc/Unsafe"), .boolean, .int, .int, .int, .int, .int, .int, .int, .int, .int, .int, .int, .int, .int, .int, .int, .int, .int, (.object "jdk/internal/access/JavaLangAccess"), .int]
  resolved := Array.replicate 378 none
  statics := none }

/-- the primitive byte -/
def k25 : Class := { plain "byte" none with kind := .primitive 'B', accessFlags := 0x411 }
/-- [B -/
def k26 : Class := { plain "[B" (some 0) with kind := .array 25 .byte, interfaces := #[17, 2], accessFlags := 1041 }

/-- the primitive char -/
def k27 : Class := { plain "char" none with kind := .primitive 'C', accessFlags := 0x411 }
/-- [C -/
def k28 : Class := { plain "[C" (some 0) with kind := .array 27 .char, interfaces := #[17, 2], accessFlags := 1041 }

/-- [Ljava/lang/Object; -/
def k29 : Class := { plain "[Ljava/lang/Object;" (some 0) with kind := .array 0 (.object "java/lang/Object"), interfaces := #[17, 2], accessFlags := 1041 }

def heap : Heap := #[{ cls := 7, slots := #[.long 0, .int 1, .null, .int 0, .null, .int 0, .int 0], vm := .statics 7 },
  { cls := 18, slots := #[.long 0, .int 0, .ref 3, .ref 4], vm := .statics 18 },
  { cls := 23, slots := #[.null, .null, .null], vm := .statics 23 },
  { cls := 29, slots := #[], vm := .none },
  { cls := 29, slots := #[], vm := .none }]
def classes : Array Class := #[k0, k1, k2, k3, k4, k5, k6, k7, k8, k9, k10, k11, k12, k13, k14, k15, k16, k17, k18, k19, k20, k21, k22, k23, k24, k25, k26, k27, k28, k29]
def interned : List (Array UInt16 × Addr) := []
def slotsUsed : Nat := 14
def theMethod : MethodId := ⟨1, 1⟩
def args0 : Array Value := #[.int 1, .int 2, .int 3, .int 4, .int 5]
def aboutOver (below : List Frame) : State where
  vm := { classes := classes, interned := interned.toArray }
  heap := heap
  slotsUsed := slotsUsed
  threads := #[{ frames := .invoking theMethod args0 :: below }]
def below0 : List Frame := [.native { method := ⟨0, 0⟩, args := #[] }]
def about1 : State := aboutOver below0
def p0 : Program := .bare "" "" ""
def e0 : Env := launch0.env 0 0 0
theorem w_frames : about1.frames = Frame.invoking theMethod args0 :: below0 := rfl
set_option maxRecDepth 65536 in
theorem w_args : argsFit about1.vm theMethod args0 = true := by decide +kernel
set_option maxRecDepth 65536 in
theorem w_heap : heapFits about1 = true := by decide +kernel
set_option maxRecDepth 65536 in
theorem w_runnable : about1.curStatus? = some .runnable := by decide +kernel
set_option maxRecDepth 65536 in
theorem w_alone : about1.alone = true := by decide +kernel
set_option maxRecDepth 65536 in
theorem w_named : about1.methodNamed? x = some theMethod := by decide +kernel
set_option maxRecDepth 65536 in
theorem w_hears : about1.hears theMethod below0 = true := by decide +kernel
set_option maxRecDepth 65536 in
theorem w_ripe : about1.ripe theMethod args0 below0 = true := by decide +kernel
theorem w_running : about1.status = .running := rfl
set_option maxRecDepth 65536 in
theorem w_room : about1.hasRoom e0.platform room_1 = true :=
  launch0.hasRoom_least _ room_1 (by decide +kernel) (by decide +kernel) (by decide +kernel) (by decide +kernel) (by decide +kernel) (by decide +kernel)
theorem allAtoms_all (ts : List Jvm.Cond) (a : Array Jvm.Value) (st : Jvm.State) : (allAtoms ts).before a st = ts.all (fun c => c.before a st) := by
  induction ts with
  | nil => rfl
  | cons c t ih =>
    show (Jvm.Cond.and c (allAtoms t)).before a st = _
    rw [Jvm.Cond.before_and, ih, List.all_cons]
def words1 : List Jvm.Cond := Jvm.Cond.code x code maxLocals ret :: tables_1
/-- a 'code' word, met by the world's own term for the bytes: nothing is compared byte by byte -/
theorem code_word {y : MethodName} {bytes : ByteArray} {mx : Nat} {rt : Option FieldType} {a : Array Value} {s : State} {m : MethodId} {meth : Method} {c : Code} (h1 : s.methodNamed? y = some m) (h2 : s.vm.method? m = some meth) (h3 : meth.code = some c) (h4 : c.code = bytes)
    (h5 : (c.maxLocals == mx && c.exceptionTable.isEmpty && decide (c.maxStack ≤ mostOperands) && decide (meth.sig.returnType = rt) && !meth.locks && decide (parseMethodDescriptor y.desc = some meth.sig)) = true) : (Jvm.Cond.code y bytes mx rt).before a s = true := by
  simp only [Bool.and_eq_true, beq_iff_eq, Bool.not_eq_true', decide_eq_true_eq] at h5
  obtain ⟨⟨⟨⟨⟨g1, g2⟩, g3⟩, g4⟩, g5⟩, g6⟩ := h5
  simp [Cond.before, Cond.holds, Cond.value, h1, h2, h3, h4, g1, g2, g3, g4, g5, g6]
def isCode : Jvm.Cond → Bool
  | .code _ _ _ _ => true
  | _ => false
theorem all_split {L : List Jvm.Cond} {P : Jvm.Cond → Bool} (h1 : L.all (fun c => isCode c || P c) = true) (h2 : ∀ c ∈ L.filter isCode, P c = true) : L.all P = true := by
  refine List.all_eq_true.mpr fun c hc => ?_
  have h := List.all_eq_true.mp h1 c hc
  rcases Bool.eq_false_or_eq_true (isCode c) with hi | hi
  · exact h2 c (List.mem_filter.mpr ⟨hc, hi⟩)
  · simpa [hi] using h
set_option maxRecDepth 65536 in
theorem w_c0 : (Jvm.Cond.code x code maxLocals ret).before args0 about1 = true := code_word (m := ⟨1, 1⟩) (meth := k1m1) (c := k1c1) (by decide +kernel) rfl rfl rfl (by decide +kernel)
set_option maxRecDepth 65536 in
theorem w_c1 : (Jvm.Cond.code ({ cls := "java/lang/String", name := "valueOf", desc := "(C)Ljava/lang/String;" } : Jvm.MethodName) jdk_42_method_139_code (1 : Nat) (Option.some (Jvm.ClassFile.FieldType.object "java/lang/String"))).before args0 about1 = true := code_word (m := ⟨7, 3⟩) (meth := k7m3) (c := k7c3) (by decide +kernel) rfl rfl rfl (by decide +kernel)
set_option maxRecDepth 65536 in
theorem w_c2 : (Jvm.Cond.code ({ cls := "java/lang/StringLatin1", name := "canEncode", desc := "(C)Z" } : Jvm.MethodName) jdk_43_method_3_code (1 : Nat) (Option.some Jvm.ClassFile.FieldType.boolean)).before args0 about1 = true := code_word (m := ⟨8, 1⟩) (meth := k8m1) (c := k8c1) (by decide +kernel) rfl rfl rfl (by decide +kernel)
set_option maxRecDepth 65536 in
theorem w_c3 : (Jvm.Cond.code ({ cls := "java/lang/StringLatin1", name := "toBytes", desc := "(C)[B" } : Jvm.MethodName) jdk_43_method_46_code (1 : Nat) (Option.some (Jvm.ClassFile.FieldType.array Jvm.ClassFile.FieldType.byte))).before args0 about1 = true := code_word (m := ⟨8, 2⟩) (meth := k8m2) (c := k8c2) (by decide +kernel) rfl rfl rfl (by decide +kernel)
set_option maxRecDepth 65536 in
theorem w_c4 : (Jvm.Cond.code ({ cls := "java/lang/String", name := "<init>", desc := "([BB)V" } : Jvm.MethodName) jdk_42_method_151_code (3 : Nat) (Option.none : Option Jvm.ClassFile.FieldType)).before args0 about1 = true := code_word (m := ⟨7, 5⟩) (meth := k7m5) (c := k7c5) (by decide +kernel) rfl rfl rfl (by decide +kernel)
set_option maxRecDepth 65536 in
theorem w_c5 : (Jvm.Cond.code ({ cls := "java/lang/Object", name := "<init>", desc := "()V" } : Jvm.MethodName) object_method_1_code (1 : Nat) (Option.none : Option Jvm.ClassFile.FieldType)).before args0 about1 = true := code_word (m := ⟨0, 0⟩) (meth := k0m0) (c := k0c0) (by decide +kernel) rfl rfl rfl (by decide +kernel)
set_option maxRecDepth 65536 in
theorem w_c6 : (Jvm.Cond.code ({ cls := "java/lang/String", name := "<init>", desc := "([C)V" } : Jvm.MethodName) jdk_42_method_3_code (2 : Nat) (Option.none : Option Jvm.ClassFile.FieldType)).before args0 about1 = true := code_word (m := ⟨7, 1⟩) (meth := k7m1) (c := k7c1) (by decide +kernel) rfl rfl rfl (by decide +kernel)
set_option maxRecDepth 65536 in
theorem w_c7 : (Jvm.Cond.code ({ cls := "java/lang/String", name := "<init>", desc := "([CIILjava/lang/Void;)V" } : Jvm.MethodName) jdk_42_method_149_code (6 : Nat) (Option.none : Option Jvm.ClassFile.FieldType)).before args0 about1 = true := code_word (m := ⟨7, 4⟩) (meth := k7m4) (c := k7c4) (by decide +kernel) rfl rfl rfl (by decide +kernel)
set_option maxRecDepth 65536 in
theorem w_c8 : (Jvm.Cond.code ({ cls := "java/lang/StringUTF16", name := "compress", desc := "([CII)[B" } : Jvm.MethodName) jdk_52_method_16_code (6 : Nat) (Option.some (Jvm.ClassFile.FieldType.array Jvm.ClassFile.FieldType.byte))).before args0 about1 = true := code_word (m := ⟨9, 2⟩) (meth := k9m2) (c := k9c2) (by decide +kernel) rfl rfl rfl (by decide +kernel)
set_option maxRecDepth 65536 in
theorem w_c9 : (Jvm.Cond.code ({ cls := "java/lang/StringUTF16", name := "compress", desc := "([CI[BII)I" } : Jvm.MethodName) jdk_52_method_21_code (7 : Nat) (Option.some Jvm.ClassFile.FieldType.int)).before args0 about1 = true := code_word (m := ⟨9, 3⟩) (meth := k9m3) (c := k9c3) (by decide +kernel) rfl rfl rfl (by decide +kernel)
set_option maxRecDepth 65536 in
theorem w_c10 : (Jvm.Cond.code ({ cls := "java/lang/StringUTF16", name := "coderFromArrayLen", desc := "([BI)B" } : Jvm.MethodName) jdk_52_method_15_code (2 : Nat) (Option.some Jvm.ClassFile.FieldType.byte)).before args0 about1 = true := code_word (m := ⟨9, 1⟩) (meth := k9m1) (c := k9c1) (by decide +kernel) rfl rfl rfl (by decide +kernel)
set_option maxRecDepth 65536 in
theorem w_c11 : (Jvm.Cond.code ({ cls := "java/util/ArrayList", name := "<init>", desc := "()V" } : Jvm.MethodName) jdk_38_method_2_code (1 : Nat) (Option.none : Option Jvm.ClassFile.FieldType)).before args0 about1 = true := code_word (m := ⟨18, 0⟩) (meth := k18m0) (c := k18c0) (by decide +kernel) rfl rfl rfl (by decide +kernel)
set_option maxRecDepth 65536 in
theorem w_c12 : (Jvm.Cond.code ({ cls := "java/util/AbstractList", name := "<init>", desc := "()V" } : Jvm.MethodName) jdk_39_method_1_code (1 : Nat) (Option.none : Option Jvm.ClassFile.FieldType)).before args0 about1 = true := code_word (m := ⟨15, 0⟩) (meth := k15m0) (c := k15c0) (by decide +kernel) rfl rfl rfl (by decide +kernel)
set_option maxRecDepth 65536 in
theorem w_c13 : (Jvm.Cond.code ({ cls := "java/util/AbstractCollection", name := "<init>", desc := "()V" } : Jvm.MethodName) jdk_22_method_1_code (1 : Nat) (Option.none : Option Jvm.ClassFile.FieldType)).before args0 about1 = true := code_word (m := ⟨12, 0⟩) (meth := k12m0) (c := k12c0) (by decide +kernel) rfl rfl rfl (by decide +kernel)
set_option maxRecDepth 65536 in
theorem w_c14 : (Jvm.Cond.code ({ cls := "java/util/ArrayList", name := "add", desc := "(Ljava/lang/Object;)Z" } : Jvm.MethodName) jdk_38_method_25_code (2 : Nat) (Option.some Jvm.ClassFile.FieldType.boolean)).before args0 about1 = true := code_word (m := ⟨18, 6⟩) (meth := k18m6) (c := k18c6) (by decide +kernel) rfl rfl rfl (by decide +kernel)
set_option maxRecDepth 65536 in
theorem w_c15 : (Jvm.Cond.code ({ cls := "java/util/ArrayList", name := "add", desc := "(Ljava/lang/Object;[Ljava/lang/Object;I)V" } : Jvm.MethodName) jdk_38_method_24_code (4 : Nat) (Option.none : Option Jvm.ClassFile.FieldType)).before args0 about1 = true := code_word (m := ⟨18, 5⟩) (meth := k18m5) (c := k18c5) (by decide +kernel) rfl rfl rfl (by decide +kernel)
set_option maxRecDepth 65536 in
theorem w_c16 : (Jvm.Cond.code ({ cls := "java/util/ArrayList", name := "grow", desc := "()[Ljava/lang/Object;" } : Jvm.MethodName) jdk_38_method_7_code (1 : Nat) (Option.some (Jvm.ClassFile.FieldType.array (Jvm.ClassFile.FieldType.object "java/lang/Object")))).before args0 about1 = true := code_word (m := ⟨18, 2⟩) (meth := k18m2) (c := k18c2) (by decide +kernel) rfl rfl rfl (by decide +kernel)
set_option maxRecDepth 65536 in
theorem w_c17 : (Jvm.Cond.code ({ cls := "java/util/ArrayList", name := "grow", desc := "(I)[Ljava/lang/Object;" } : Jvm.MethodName) jdk_38_method_6_code (4 : Nat) (Option.some (Jvm.ClassFile.FieldType.array (Jvm.ClassFile.FieldType.object "java/lang/Object")))).before args0 about1 = true := code_word (m := ⟨18, 1⟩) (meth := k18m1) (c := k18c1) (by decide +kernel) rfl rfl rfl (by decide +kernel)
set_option maxRecDepth 65536 in
theorem w_c18 : (Jvm.Cond.code ({ cls := "java/lang/Math", name := "max", desc := "(II)I" } : Jvm.MethodName) jdk_29_method_65_code (2 : Nat) (Option.some Jvm.ClassFile.FieldType.int)).before args0 about1 = true := code_word (m := ⟨19, 1⟩) (meth := k19m1) (c := k19c1) (by decide +kernel) rfl rfl rfl (by decide +kernel)
set_option maxRecDepth 65536 in
theorem w_c19 : (Jvm.Cond.code ({ cls := "com/example/tableau_abduction/tableauabduction/cli/TabSeparatedFile$Row", name := "<init>", desc := "(ILjava/util/List;)V" } : Jvm.MethodName) prog_20_method_1_code (3 : Nat) (Option.none : Option Jvm.ClassFile.FieldType)).before args0 about1 = true := code_word (m := ⟨21, 0⟩) (meth := k21m0) (c := k21c0) (by decide +kernel) rfl rfl rfl (by decide +kernel)
set_option maxRecDepth 65536 in
theorem w_c20 : (Jvm.Cond.code ({ cls := "java/lang/Record", name := "<init>", desc := "()V" } : Jvm.MethodName) jdk_30_method_1_code (1 : Nat) (Option.none : Option Jvm.ClassFile.FieldType)).before args0 about1 = true := code_word (m := ⟨20, 0⟩) (meth := k20m0) (c := k20c0) (by decide +kernel) rfl rfl rfl (by decide +kernel)
set_option maxRecDepth 65536 in
theorem w_c21 : (Jvm.Cond.code ({ cls := "com/example/tableau_abduction/tableauabduction/cli/TabSeparatedFile$Row", name := "field", desc := "(I)Ljava/lang/String;" } : Jvm.MethodName) prog_20_method_2_code (2 : Nat) (Option.some (Jvm.ClassFile.FieldType.object "java/lang/String"))).before args0 about1 = true := code_word (m := ⟨21, 1⟩) (meth := k21m1) (c := k21c1) (by decide +kernel) rfl rfl rfl (by decide +kernel)
set_option maxRecDepth 65536 in
theorem w_c22 : (Jvm.Cond.code ({ cls := "java/util/ArrayList", name := "get", desc := "(I)Ljava/lang/Object;" } : Jvm.MethodName) jdk_38_method_20_code (2 : Nat) (Option.some (Jvm.ClassFile.FieldType.object "java/lang/Object"))).before args0 about1 = true := code_word (m := ⟨18, 4⟩) (meth := k18m4) (c := k18c4) (by decide +kernel) rfl rfl rfl (by decide +kernel)
set_option maxRecDepth 65536 in
theorem w_c23 : (Jvm.Cond.code ({ cls := "java/util/Objects", name := "checkIndex", desc := "(II)I" } : Jvm.MethodName) jdk_31_method_17_code (2 : Nat) (Option.some Jvm.ClassFile.FieldType.int)).before args0 about1 = true := code_word (m := ⟨22, 1⟩) (meth := k22m1) (c := k22c1) (by decide +kernel) rfl rfl rfl (by decide +kernel)
set_option maxRecDepth 65536 in
theorem w_c24 : (Jvm.Cond.code ({ cls := "jdk/internal/util/Preconditions", name := "checkIndex", desc := "(IILjava/util/function/BiFunction;)I" } : Jvm.MethodName) jdk_41_method_11_code (3 : Nat) (Option.some Jvm.ClassFile.FieldType.int)).before args0 about1 = true := code_word (m := ⟨23, 1⟩) (meth := k23m1) (c := k23c1) (by decide +kernel) rfl rfl rfl (by decide +kernel)
set_option maxRecDepth 65536 in
theorem w_c25 : (Jvm.Cond.code ({ cls := "java/util/ArrayList", name := "elementData", desc := "(I)Ljava/lang/Object;" } : Jvm.MethodName) jdk_38_method_18_code (2 : Nat) (Option.some (Jvm.ClassFile.FieldType.object "java/lang/Object"))).before args0 about1 = true := code_word (m := ⟨18, 3⟩) (meth := k18m3) (c := k18c3) (by decide +kernel) rfl rfl rfl (by decide +kernel)
set_option maxRecDepth 65536 in
theorem w_c26 : (Jvm.Cond.code ({ cls := "java/lang/String", name := "equals", desc := "(Ljava/lang/Object;)Z" } : Jvm.MethodName) jdk_42_method_66_code (3 : Nat) (Option.some Jvm.ClassFile.FieldType.boolean)).before args0 about1 = true := code_word (m := ⟨7, 2⟩) (meth := k7m2) (c := k7c2) (by decide +kernel) rfl rfl rfl (by decide +kernel)
set_option maxRecDepth 65536 in
theorem w_c27 : (Jvm.Cond.code ({ cls := "com/example/tableau_abduction/tableauabduction/cli/TabSeparatedFile$Row", name := "line", desc := "()I" } : Jvm.MethodName) prog_20_method_6_code (1 : Nat) (Option.some Jvm.ClassFile.FieldType.int)).before args0 about1 = true := code_word (m := ⟨21, 2⟩) (meth := k21m2) (c := k21c2) (by decide +kernel) rfl rfl rfl (by decide +kernel)
def codes1 : List Jvm.Cond := [Jvm.Cond.code x code maxLocals ret, Jvm.Cond.code ({ cls := "java/lang/String", name := "valueOf", desc := "(C)Ljava/lang/String;" } : Jvm.MethodName) jdk_42_method_139_code (1 : Nat) (Option.some (Jvm.ClassFile.FieldType.object "java/lang/String")), Jvm.Cond.code ({ cls := "java/lang/StringLatin1", name := "canEncode", desc := "(C)Z" } : Jvm.MethodName) jdk_43_method_3_code (1 : Nat) (Option.some Jvm.ClassFile.FieldType.boolean), Jvm.Cond.code ({ cls := "java/lang/StringLatin1", name := "toBytes", desc := "(C)[B" } : Jvm.MethodName) jdk_43_method_46_code (1 : Nat) (Option.some (Jvm.ClassFile.FieldType.array Jvm.ClassFile.FieldType.byte)), Jvm.Cond.code ({ cls := "java/lang/String", name := "<init>", desc := "([BB)V" } : Jvm.MethodName) jdk_42_method_151_code (3 : Nat) (Option.none : Option Jvm.ClassFile.FieldType), Jvm.Cond.code ({ cls := "java/lang/Object", name := "<init>", desc := "()V" } : Jvm.MethodName) object_method_1_code (1 : Nat) (Option.none : Option Jvm.ClassFile.FieldType), Jvm.Cond.code ({ cls := "java/lang/String", name := "<init>", desc := "([C)V" } : Jvm.MethodName) jdk_42_method_3_code (2 : Nat) (Option.none : Option Jvm.ClassFile.FieldType), Jvm.Cond.code ({ cls := "java/lang/String", name := "<init>", desc := "([CIILjava/lang/Void;)V" } : Jvm.MethodName) jdk_42_method_149_code (6 : Nat) (Option.none : Option Jvm.ClassFile.FieldType), Jvm.Cond.code ({ cls := "java/lang/StringUTF16", name := "compress", desc := "([CII)[B" } : Jvm.MethodName) jdk_52_method_16_code (6 : Nat) (Option.some (Jvm.ClassFile.FieldType.array Jvm.ClassFile.FieldType.byte)), Jvm.Cond.code ({ cls := "java/lang/StringUTF16", name := "compress", desc := "([CI[BII)I" } : Jvm.MethodName) jdk_52_method_21_code (7 : Nat) (Option.some Jvm.ClassFile.FieldType.int), Jvm.Cond.code ({ cls := "java/lang/StringUTF16", name := "coderFromArrayLen", desc := "([BI)B" } : Jvm.MethodName) jdk_52_method_15_code (2 : Nat) (Option.some Jvm.ClassFile.FieldType.byte), Jvm.Cond.code ({ cls := "java/util/ArrayList", name := "<init>", desc := "()V" } : Jvm.MethodName) jdk_38_method_2_code (1 : Nat) (Option.none : Option Jvm.ClassFile.FieldType), Jvm.Cond.code ({ cls := "java/util/AbstractList", name := "<init>", desc := "()V" } : Jvm.MethodName) jdk_39_method_1_code (1 : Nat) (Option.none : Option Jvm.ClassFile.FieldType), Jvm.Cond.code ({ cls := "java/util/AbstractCollection", name := "<init>", desc := "()V" } : Jvm.MethodName) jdk_22_method_1_code (1 : Nat) (Option.none : Option Jvm.ClassFile.FieldType), Jvm.Cond.code ({ cls := "java/util/ArrayList", name := "add", desc := "(Ljava/lang/Object;)Z" } : Jvm.MethodName) jdk_38_method_25_code (2 : Nat) (Option.some Jvm.ClassFile.FieldType.boolean), Jvm.Cond.code ({ cls := "java/util/ArrayList", name := "add", desc := "(Ljava/lang/Object;[Ljava/lang/Object;I)V" } : Jvm.MethodName) jdk_38_method_24_code (4 : Nat) (Option.none : Option Jvm.ClassFile.FieldType), Jvm.Cond.code ({ cls := "java/util/ArrayList", name := "grow", desc := "()[Ljava/lang/Object;" } : Jvm.MethodName) jdk_38_method_7_code (1 : Nat) (Option.some (Jvm.ClassFile.FieldType.array (Jvm.ClassFile.FieldType.object "java/lang/Object"))), Jvm.Cond.code ({ cls := "java/util/ArrayList", name := "grow", desc := "(I)[Ljava/lang/Object;" } : Jvm.MethodName) jdk_38_method_6_code (4 : Nat) (Option.some (Jvm.ClassFile.FieldType.array (Jvm.ClassFile.FieldType.object "java/lang/Object"))), Jvm.Cond.code ({ cls := "java/lang/Math", name := "max", desc := "(II)I" } : Jvm.MethodName) jdk_29_method_65_code (2 : Nat) (Option.some Jvm.ClassFile.FieldType.int), Jvm.Cond.code ({ cls := "com/example/tableau_abduction/tableauabduction/cli/TabSeparatedFile$Row", name := "<init>", desc := "(ILjava/util/List;)V" } : Jvm.MethodName) prog_20_method_1_code (3 : Nat) (Option.none : Option Jvm.ClassFile.FieldType), Jvm.Cond.code ({ cls := "java/lang/Record", name := "<init>", desc := "()V" } : Jvm.MethodName) jdk_30_method_1_code (1 : Nat) (Option.none : Option Jvm.ClassFile.FieldType), Jvm.Cond.code ({ cls := "com/example/tableau_abduction/tableauabduction/cli/TabSeparatedFile$Row", name := "field", desc := "(I)Ljava/lang/String;" } : Jvm.MethodName) prog_20_method_2_code (2 : Nat) (Option.some (Jvm.ClassFile.FieldType.object "java/lang/String")), Jvm.Cond.code ({ cls := "java/util/ArrayList", name := "get", desc := "(I)Ljava/lang/Object;" } : Jvm.MethodName) jdk_38_method_20_code (2 : Nat) (Option.some (Jvm.ClassFile.FieldType.object "java/lang/Object")), Jvm.Cond.code ({ cls := "java/util/Objects", name := "checkIndex", desc := "(II)I" } : Jvm.MethodName) jdk_31_method_17_code (2 : Nat) (Option.some Jvm.ClassFile.FieldType.int), Jvm.Cond.code ({ cls := "jdk/internal/util/Preconditions", name := "checkIndex", desc := "(IILjava/util/function/BiFunction;)I" } : Jvm.MethodName) jdk_41_method_11_code (3 : Nat) (Option.some Jvm.ClassFile.FieldType.int), Jvm.Cond.code ({ cls := "java/util/ArrayList", name := "elementData", desc := "(I)Ljava/lang/Object;" } : Jvm.MethodName) jdk_38_method_18_code (2 : Nat) (Option.some (Jvm.ClassFile.FieldType.object "java/lang/Object")), Jvm.Cond.code ({ cls := "java/lang/String", name := "equals", desc := "(Ljava/lang/Object;)Z" } : Jvm.MethodName) jdk_42_method_66_code (3 : Nat) (Option.some Jvm.ClassFile.FieldType.boolean), Jvm.Cond.code ({ cls := "com/example/tableau_abduction/tableauabduction/cli/TabSeparatedFile$Row", name := "line", desc := "()I" } : Jvm.MethodName) prog_20_method_6_code (1 : Nat) (Option.some Jvm.ClassFile.FieldType.int)]
set_option maxRecDepth 65536 in
theorem codes_eq : words1.filter isCode = codes1 := rfl
theorem w_codes : ∀ c ∈ words1.filter isCode, c.before args0 about1 = true := by
  rw [codes_eq]
  intro c hc
  simp only [codes1, List.mem_cons, List.not_mem_nil, or_false] at hc
  rcases hc with rfl | rfl | rfl | rfl | rfl | rfl | rfl | rfl | rfl | rfl | rfl | rfl | rfl | rfl | rfl | rfl | rfl | rfl | rfl | rfl | rfl | rfl | rfl | rfl | rfl | rfl | rfl | rfl
  · exact w_c0
  · exact w_c1
  · exact w_c2
  · exact w_c3
  · exact w_c4
  · exact w_c5
  · exact w_c6
  · exact w_c7
  · exact w_c8
  · exact w_c9
  · exact w_c10
  · exact w_c11
  · exact w_c12
  · exact w_c13
  · exact w_c14
  · exact w_c15
  · exact w_c16
  · exact w_c17
  · exact w_c18
  · exact w_c19
  · exact w_c20
  · exact w_c21
  · exact w_c22
  · exact w_c23
  · exact w_c24
  · exact w_c25
  · exact w_c26
  · exact w_c27
set_option maxRecDepth 65536 in
theorem w_t1 : (words1.take 24).all (fun c => isCode c || c.before args0 about1) = true := by decide +kernel
set_option maxRecDepth 65536 in
theorem w_t2 : ((words1.drop 24).take 24).all (fun c => isCode c || c.before args0 about1) = true := by decide +kernel
set_option maxRecDepth 65536 in
theorem w_t3 : (((words1.drop 24).drop 24).take 24).all (fun c => isCode c || c.before args0 about1) = true := by decide +kernel
set_option maxRecDepth 65536 in
theorem w_t4 : ((((words1.drop 24).drop 24).drop 24).take 24).all (fun c => isCode c || c.before args0 about1) = true := by decide +kernel
set_option maxRecDepth 65536 in
theorem w_t5 : (((((words1.drop 24).drop 24).drop 24).drop 24).take 24).all (fun c => isCode c || c.before args0 about1) = true := by decide +kernel
set_option maxRecDepth 65536 in
theorem w_t6 : ((((((words1.drop 24).drop 24).drop 24).drop 24).drop 24).take 24).all (fun c => isCode c || c.before args0 about1) = true := by decide +kernel
set_option maxRecDepth 65536 in
theorem w_t7 : ((((((words1.drop 24).drop 24).drop 24).drop 24).drop 24).drop 24).all (fun c => isCode c || c.before args0 about1) = true := by decide +kernel
theorem w_tables : (allAtoms (Jvm.Cond.code x code maxLocals ret :: tables_1)).before args0 about1 = true := by
  rw [allAtoms_all]
  show words1.all (fun c => c.before args0 about1) = true
  refine all_split ?_ w_codes
  rw [← List.take_append_drop 24 words1, List.all_append, w_t1, ← List.take_append_drop 24 (words1.drop 24), List.all_append, w_t2, ← List.take_append_drop 24 ((words1.drop 24).drop 24), List.all_append, w_t3, ← List.take_append_drop 24 (((words1.drop 24).drop 24).drop 24), List.all_append, w_t4, ← List.take_append_drop 24 ((((words1.drop 24).drop 24).drop 24).drop 24), List.all_append, w_t5, ← List.take_append_drop 24 (((((words1.drop 24).drop 24).drop 24).drop 24).drop 24), List.all_append, w_t6, w_t7]
  rfl
set_option maxRecDepth 65536 in
theorem w_rest : rest_1_c.before args0 about1 = true := by decide +kernel
set_option maxRecDepth 65536 in
theorem w_case : (Jvm.Cond.and given_1 narrow_1).before args0 about1 = true := by decide +kernel
theorem w_applies : (headSpec (Jvm.Cond.code x code maxLocals ret :: tables_1) room_1).applies x e0.platform about1 = true :=
  (Spec.applies_iff w_frames).mpr ⟨w_running, w_runnable, w_alone, w_named, w_hears, w_ripe, w_room, w_tables⟩
theorem atStart : AtStart classFile x code maxLocals ret World_1 tables_1 room_1 Calls_1 rest_1 Pre_1 launch0 p0 e0 about1 theMethod args0 below0 :=
  ⟨lists_1, trivial, launch0.admits_env _ _ _, launch0.least_env, fairChoices_fair.cas, fairChoices_fair.clock, w_frames, w_args, w_heap, w_applies, trivial, w_rest, w_case⟩
end start1
theorem witness_1 : WitnessClaimed_1 := ⟨start1.p0, start1.e0, start1.about1, start1.theMethod, start1.args0, start1.below0, start1.atStart⟩
end Jvm.Pilot.@@N@@
