import JvmDerived
import JvmDerived.Pilot.@@N@@Statement
import JvmDerived.Pilot.@@N@@Code
@@BLOCK:TracedD.lean.txt@@
set_option linter.unusedVariables false
set_option linter.unusedSimpArgs false
/- laws to paste: Road.backV, Road.codOf (cut by pick.py; bodies as the Statement names them) -/
namespace Jvm.Pilot.@@N@@
namespace StrChars
open Jvm Sem ClassFile Op Lib Jvm.Stand Jvm.Free.XT Jvm.Free.ALB Jvm.Free.JM Jvm.Free
open Jvm.Lib.Cold (StaticIs)
/-- a char array whose places are chars -/
def Ch (a : Addr) (A : Cell) (U : State) : Prop := Arr .char a A U ∧ Typed .char A
theorem Ch.mv {a : Addr} {A : Cell} {U U' : State} (h : Ch a A U) (hal : U.vm.Alike U'.vm) (hh : U'.heap = U.heap) : Ch a A U' := ⟨h.1.mv hal hh, h.2⟩
theorem Ch.keep {a : Addr} {A : Cell} {U U' : State} (h : Ch a A U) (hal : U.vm.Alike U'.vm) (hk : U'.heap[a]? = some A) : Ch a A U' := ⟨h.1.keep hal hk, h.2⟩
/-- what place i of a char[]'s cell holds -/
def cv (A : Cell) (i : Nat) : Int32 := match A.slots[i]? with | some (.int x) => x | _ => 0
theorem Ch.get {a : Addr} {A : Cell} {U : State} (h : Ch a A U) {i : Nat} (hi : i < A.slots.size) : A.slots[i]? = some (.int (cv A i)) := by
  have e := Array.getElem?_eq_getElem hi
  have f := h.2 i _ e
  unfold cv; rw [e]
  generalize A.slots[i] = v at f
  cases v <;> simp [fits] at f ⊢
/-- the byte that i2b leaves of a char -/
def lo8 (x : Int32) : Int32 := x.toInt8.toInt32
theorem fits_lo8 (y : Int32) : fits .byte (.int (lo8 y)) = true := by
  have h1 := y.toInt8.le_toInt
  have h2 := y.toInt8.toInt_lt
  simp only [lo8, fits, Bool.and_eq_true, decide_eq_true_eq, Int32.le_iff_toInt_le, Int8.toInt_toInt32, show (-128 : Int32).toInt = -128 from by decide, show (127 : Int32).toInt = 127 from by decide]
  omega
/-- A' is A but that each place j of lo .. hi - 1 holds f j -/
def Laid (A A' : Cell) (lo hi : Nat) (f : Nat → Value) : Prop := A'.cls = A.cls ∧ A'.vm = A.vm ∧ A'.slots.size = A.slots.size ∧ ∀ i, A'.slots[i]? = if lo ≤ i ∧ i < hi then some (f i) else A.slots[i]?
theorem Laid.zero (A : Cell) (lo : Nat) (f : Nat → Value) : Laid A A lo (lo + 0) f := ⟨rfl, rfl, rfl, fun i => by rw [if_neg (by omega)]⟩
theorem Laid.step {A Ak : Cell} {lo k : Nat} {f : Nat → Value} {v : Value} (h : Laid A Ak lo k f) (hlo : lo ≤ k) (hk : k < Ak.slots.size) (hv : v = f k) : Laid A (Ak.setSlot k v) lo (k + 1) f := by
  refine ⟨h.1, h.2.1, by simpa [Cell.setSlot] using h.2.2.1, fun i => ?_⟩
  by_cases e : k = i
  · subst e; rw [Cell.slots_setSlot_self v hk, if_pos (by omega), hv]
  · rw [Cell.slots_setSlot_ne v e, h.2.2.2 i]
    by_cases q : lo ≤ i ∧ i < k
    · rw [if_pos q, if_pos (by omega)]
    · rw [if_neg q, if_neg (by omega)]
def U16 : String := "java/lang/StringUTF16"
namespace Cmp5
def yN : MethodName := ⟨"java/lang/StringUTF16", "compress", "([CI[BII)I"⟩
abbrev yB : ByteArray := jdk_52_method_21_code
theorem d0 : decode yB 0 = .ok (.iconst 0, 1) := by decide +kernel
theorem d1 : decode yB 1 = .ok (.istore 5, 2) := by decide +kernel
theorem d3 : decode yB 3 = .ok (.iload 5, 2) := by decide +kernel
theorem d5 : decode yB 5 = .ok (.iload 4, 2) := by decide +kernel
theorem d7 : decode yB 7 = .ok (.if_icmp (.ge) 37, 3) := by decide +kernel
theorem d10 : decode yB 10 = .ok (.aload_n 0, 1) := by decide +kernel
theorem d11 : decode yB 11 = .ok (.iload_n 1, 1) := by decide +kernel
theorem d12 : decode yB 12 = .ok (.caload, 1) := by decide +kernel
theorem d13 : decode yB 13 = .ok (.istore 6, 2) := by decide +kernel
theorem d15 : decode yB 15 = .ok (.iload 6, 2) := by decide +kernel
theorem d17 : decode yB 17 = .ok (.sipush 255, 3) := by decide +kernel
theorem d20 : decode yB 20 = .ok (.if_icmp (.le) 6, 3) := by decide +kernel
theorem d26 : decode yB 26 = .ok (.aload_n 2, 1) := by decide +kernel
theorem d27 : decode yB 27 = .ok (.iload_n 3, 1) := by decide +kernel
theorem d28 : decode yB 28 = .ok (.iload 6, 2) := by decide +kernel
theorem d30 : decode yB 30 = .ok (.i2b, 1) := by decide +kernel
theorem d31 : decode yB 31 = .ok (.bastore, 1) := by decide +kernel
theorem d32 : decode yB 32 = .ok (.iinc 1 1, 3) := by decide +kernel
theorem d35 : decode yB 35 = .ok (.iinc 3 1, 3) := by decide +kernel
theorem d38 : decode yB 38 = .ok (.iinc 5 1, 3) := by decide +kernel
theorem d41 : decode yB 41 = .ok (.goto (-38), 3) := by decide +kernel
theorem d44 : decode yB 44 = .ok (.iload 4, 2) := by decide +kernel
theorem d46 : decode yB 46 = .ok (.ireturn, 1) := by decide +kernel
def site : List Cond := []
def tab : Cond := tabOf yN yB 7 (some .int) site
def P (b : Addr) (A : Cell) (d : Addr) (B : Cell) (o q len : Nat) (args : Array Value) (s : State) : Prop := args = #[.ref b, .int (Int32.ofNat o), .ref d, .int (Int32.ofNat q), .int (Int32.ofNat len)] ∧ Ch b A s ∧ Arr .byte d B s ∧ b ≠ d ∧ o + len ≤ A.slots.size ∧ q + len ≤ B.slots.size ∧ ∀ i, i < len → ¬ 255 < cv A (o + i)
def E (b : Addr) (A : Cell) (d : Addr) (B : Cell) (o q len : Nat) (r : Option Value) (s u : State) : Prop := r = some (.int (Int32.ofNat len)) ∧ ∃ B', Put d B' s u ∧ Laid B B' q (q + len) (fun j => Value.int (lo8 (cv A (o + (j - q)))))
/-- no char of the range above 255: len; the places written hold each char's low byte -/
theorem law (l : Launch) (b : Addr) (A : Cell) (d : Addr) (B : Cell) (o q len : Nat) : Law l yN 5 5 0 0 yB 7 (some .int) site (P b A d B o q len) (E b A d B o q len) (copyLocs d q len) 0 0 := by
  refine Law.of_walk (plainFor_of_name (by decide +kernel)) (by decide +kernel) (by decide +kernel) (by decide) (fun _ _ h => by rw [h.1]; rfl) (fun _ U U' hal hh h => ⟨h.1, h.2.1.mv hal hh, h.2.2.1.mv hal hh, h.2.2.2⟩) (fun r U U' V V' h1 hal h2 h => ⟨h.1, h.2.elim fun B' q => ⟨B', q.1.mv h1 h2, q.2⟩⟩) ?_
  intro p e s m args below meth c s₁ X0 hexec hbytes hml hret hlk hnm hown hh0 W hP
  obtain ⟨rfl, hA, hB, hne, l1, l2, hp⟩ := hP
  have c1 : Steps p.tables e below (s₁.setTop (entryFrame m #[.ref b, .int (Int32.ofNat o), .ref d, .int (Int32.ofNat q), .int (Int32.ofNat len)] 7)) (s₁.setTop (mkF m 0 #[.val (.ref b), .val (.int (Int32.ofNat o)), .val (.ref d), .val (.int (Int32.ofNat q)), .val (.int (Int32.ofNat len)), .unset, .unset] [])) := entry rfl
  have hA0 := hA.1.mv X0.warmed.alike hh0
  have hB0 := hB.mv X0.warmed.alike hh0
  have a31 := hA.1.2.2.2
  have c2 : Steps p.tables e below (s₁.setTop (entryFrame m #[.ref b, .int (Int32.ofNat o), .ref d, .int (Int32.ofNat q), .int (Int32.ofNat len)] 7)) (s₁.setTop (mkF m 3 #[.val (.ref b), .val (.int (Int32.ofNat o)), .val (.ref d), .val (.int (Int32.ofNat q)), .val (.int (Int32.ofNat len)), .val (.int 0), .unset] [])) := c1.trans (by
    refine iconstV X0.here hexec rfl 0 (hb hbytes d0) (by decide) ?_
    refine XS.istore X0.here hexec rfl (hb hbytes d1) rfl rfl ?_
    exact Steps.refl _)
  have loop : ∀ (r i : Nat), i + r = len → ∀ (z : Slot), (z = .unset ∨ ∃ w, z = .val w ∧ w.category = 1) → ∀ (Tl : State) (Bk : Cell), Stand p l e { frames := 0, locals := 0, cells := 0, slots := 0 } s m #[.ref b, .int (Int32.ofNat o), .ref d, .int (Int32.ofNat q), .int (Int32.ofNat len)] below meth c Tl ([] ++ copyLocs d q i) 0 0 → Put d Bk s₁ Tl → Laid B Bk q (q + i) (fun j => Value.int (lo8 (cv A (o + (j - q))))) →
      Steps p.tables e below (s₁.setTop (entryFrame m #[.ref b, .int (Int32.ofNat o), .ref d, .int (Int32.ofNat q), .int (Int32.ofNat len)] 7)) (Tl.setTop (mkF m 3 #[.val (.ref b), .val (.int (Int32.ofNat (o + i))), .val (.ref d), .val (.int (Int32.ofNat (q + i))), .val (.int (Int32.ofNat len)), .val (.int (Int32.ofNat i)), z] [])) → ∃ (T' : State) (B' : Cell) (z' : Slot), Stand p l e { frames := 0, locals := 0, cells := 0, slots := 0 } s m #[.ref b, .int (Int32.ofNat o), .ref d, .int (Int32.ofNat q), .int (Int32.ofNat len)] below meth c T' ([] ++ copyLocs d q len) 0 0 ∧ Put d B' s₁ T' ∧ Laid B B' q (q + len) (fun j => Value.int (lo8 (cv A (o + (j - q))))) ∧
      Steps p.tables e below (s₁.setTop (entryFrame m #[.ref b, .int (Int32.ofNat o), .ref d, .int (Int32.ofNat q), .int (Int32.ofNat len)] 7)) (T'.setTop (mkF m 3 #[.val (.ref b), .val (.int (Int32.ofNat (o + len))), .val (.ref d), .val (.int (Int32.ofNat (q + len))), .val (.int (Int32.ofNat len)), .val (.int (Int32.ofNat len)), z'] [])) := by
    intro r
    induction r with
    | zero =>
      intro i hi z hz Tl Bk Xl pl fl cl
      have hil : i = len := by omega
      rw [hil] at Xl fl cl
      exact ⟨Tl, Bk, z, Xl, pl, fl, cl⟩
    | succ r ih =>
      intro i hi z hz Tl Bk Xl pl fl cl
      have all := X0.warmed.alike.symm.trans Xl.warmed.alike
      have hAl := hA0.keep all (pl.other hne hA0.1)
      have hBk := hB0.like all pl.1 fl.1 fl.2.1 fl.2.2.1
      have hlt : q + i < Bk.slots.size := by rw [fl.2.2.1]; omega
      have c3 : Steps p.tables e below (s₁.setTop (entryFrame m #[.ref b, .int (Int32.ofNat o), .ref d, .int (Int32.ofNat q), .int (Int32.ofNat len)] 7)) (Tl.setTop (mkF m 12 #[.val (.ref b), .val (.int (Int32.ofNat (o + i))), .val (.ref d), .val (.int (Int32.ofNat (q + i))), .val (.int (Int32.ofNat len)), .val (.int (Int32.ofNat i)), z] [.int (Int32.ofNat (o + i)), .ref b])) := cl.trans (by
        refine XS.iload Xl.here hexec rfl (hb hbytes d3) rfl ?_
        refine XS.iload Xl.here hexec rfl (hb hbytes d5) rfl ?_
        refine XS.icmpNo Xl.here hexec rfl (hb hbytes d7) rfl (ii_ge_f (lt32 (by omega) (by omega))) ?_
        refine XS.aloadN Xl.here hexec rfl (hb hbytes d10) rfl rfl ?_
        refine XS.iloadN Xl.here hexec rfl (hb hbytes d11) rfl ?_
        exact Steps.refl _)
      have c4 : Steps p.tables e below (s₁.setTop (entryFrame m #[.ref b, .int (Int32.ofNat o), .ref d, .int (Int32.ofNat q), .int (Int32.ofNat len)] 7)) (Tl.setTop (mkF m 13 #[.val (.ref b), .val (.int (Int32.ofNat (o + i))), .val (.ref d), .val (.int (Int32.ofNat (q + i))), .val (.int (Int32.ofNat len)), .val (.int (Int32.ofNat i)), z] [.int (cv A (o + i))])) := c3.trans (by
        refine Xl.aget hexec hAl rfl (hA.get (i := o + i) (by omega)) rfl rfl (hb hbytes d12) ?_
        exact Steps.refl _)
      have c5 : Steps p.tables e below (s₁.setTop (entryFrame m #[.ref b, .int (Int32.ofNat o), .ref d, .int (Int32.ofNat q), .int (Int32.ofNat len)] 7)) (Tl.setTop (mkF m 15 #[.val (.ref b), .val (.int (Int32.ofNat (o + i))), .val (.ref d), .val (.int (Int32.ofNat (q + i))), .val (.int (Int32.ofNat len)), .val (.int (Int32.ofNat i)), .val (.int (cv A (o + i)))] [])) := c4.trans (by
        refine XS.istoreS Xl.here hexec rfl (hb hbytes d13) rfl rfl hz ?_
        exact Steps.refl _)
      have c6 : Steps p.tables e below (s₁.setTop (entryFrame m #[.ref b, .int (Int32.ofNat o), .ref d, .int (Int32.ofNat q), .int (Int32.ofNat len)] 7)) (Tl.setTop (mkF m 31 #[.val (.ref b), .val (.int (Int32.ofNat (o + i))), .val (.ref d), .val (.int (Int32.ofNat (q + i))), .val (.int (Int32.ofNat len)), .val (.int (Int32.ofNat i)), .val (.int (cv A (o + i)))] [.int (lo8 (cv A (o + i))), .int (Int32.ofNat (q + i)), .ref d])) := c5.trans (by
        refine XS.iload Xl.here hexec rfl (hb hbytes d15) rfl ?_
        refine sipushV Xl.here hexec rfl 255 (hb hbytes d17) (by decide) ?_
        refine XS.icmpYes Xl.here hexec rfl (pc0 := 20) rfl (hb hbytes d20) rfl (ii_le_t (hp i (by omega))) (by decide) rfl ?_
        refine XS.aloadN Xl.here hexec rfl (hb hbytes d26) rfl rfl ?_
        refine XS.iloadN Xl.here hexec rfl (hb hbytes d27) rfl ?_
        refine XS.iload Xl.here hexec rfl (hb hbytes d28) rfl ?_
        refine i2b Xl.here hexec rfl (hb hbytes d30) rfl ?_
        exact Steps.refl _)
      obtain ⟨T7, X7, p7, st7⟩ := Xl.aput hexec hBk rfl hlt rfl (fits_lo8 (cv A (o + i))) (g := (mkF m 31 #[.val (.ref b), .val (.int (Int32.ofNat (o + i))), .val (.ref d), .val (.int (Int32.ofNat (q + i))), .val (.int (Int32.ofNat len)), .val (.int (Int32.ofNat i)), .val (.int (cv A (o + i)))] [.int (lo8 (cv A (o + i))), .int (Int32.ofNat (q + i)), .ref d])) rfl (rest := []) rfl (hb hbytes d31)
      have c8 : Steps p.tables e below (s₁.setTop (entryFrame m #[.ref b, .int (Int32.ofNat o), .ref d, .int (Int32.ofNat q), .int (Int32.ofNat len)] 7)) (T7.setTop (mkF m 32 #[.val (.ref b), .val (.int (Int32.ofNat (o + i))), .val (.ref d), .val (.int (Int32.ofNat (q + i))), .val (.int (Int32.ofNat len)), .val (.int (Int32.ofNat i)), .val (.int (cv A (o + i)))] [])) := c6.trans (st7 _ (Steps.refl _))
      have c9 : Steps p.tables e below (s₁.setTop (entryFrame m #[.ref b, .int (Int32.ofNat o), .ref d, .int (Int32.ofNat q), .int (Int32.ofNat len)] 7)) (T7.setTop (mkF m 3 #[.val (.ref b), .val (.int (Int32.ofNat (o + i) + 1)), .val (.ref d), .val (.int (Int32.ofNat (q + i) + 1)), .val (.int (Int32.ofNat len)), .val (.int (Int32.ofNat i + 1)), .val (.int (cv A (o + i)))] [])) := c8.trans (by
        refine iincV X7.here hexec rfl 1 (hb hbytes d32) (by decide) rfl rfl ?_
        refine iincV X7.here hexec rfl 1 (hb hbytes d35) (by decide) rfl rfl ?_
        refine iincV X7.here hexec rfl 1 (hb hbytes d38) (by decide) rfl rfl ?_
        refine XS.goto X7.here hexec rfl (pc0 := 41) rfl (hb hbytes d41) (by decide) rfl ?_
        exact Steps.refl _)
      have c10 : Steps p.tables e below (s₁.setTop (entryFrame m #[.ref b, .int (Int32.ofNat o), .ref d, .int (Int32.ofNat q), .int (Int32.ofNat len)] 7)) (T7.setTop (mkF m 3 #[.val (.ref b), .val (.int (Int32.ofNat (o + (i + 1)))), .val (.ref d), .val (.int (Int32.ofNat (q + (i + 1)))), .val (.int (Int32.ofNat len)), .val (.int (Int32.ofNat (i + 1))), .val (.int (cv A (o + i)))] [])) := by
        have := c9
        rw [succ32, succ32, succ32] at this
        exact this
      exact ih (i + 1) (by omega) _ (Or.inr ⟨_, rfl, rfl⟩) T7 _ (by rw [copyLocs_step, ← List.append_assoc]; exact X7) (pl.trans p7) (fl.step (by omega) hlt (by simp)) c10
  obtain ⟨T9, B9, z9, X9, p9, f9, g9⟩ := loop len 0 (by omega) .unset (Or.inl rfl) s₁ B (by simpa [copyLocs] using X0) ⟨hB0.1, fun _ _ => rfl, rfl⟩ (Laid.zero _ _ _) c2
  have c11 : Steps p.tables e below (s₁.setTop (entryFrame m #[.ref b, .int (Int32.ofNat o), .ref d, .int (Int32.ofNat q), .int (Int32.ofNat len)] 7)) (T9.setTop (mkF m 46 #[.val (.ref b), .val (.int (Int32.ofNat (o + len))), .val (.ref d), .val (.int (Int32.ofNat (q + len))), .val (.int (Int32.ofNat len)), .val (.int (Int32.ofNat len)), z9] [.int (Int32.ofNat len)])) := g9.trans (by
    refine XS.iload X9.here hexec rfl (hb hbytes d3) rfl ?_
    refine XS.iload X9.here hexec rfl (hb hbytes d5) rfl ?_
    refine XS.icmpYes X9.here hexec rfl (pc0 := 7) rfl (hb hbytes d7) rfl (ii_ge_t (nlt32 (by omega) (Nat.le_refl _))) (by decide) rfl ?_
    refine XS.iload X9.here hexec rfl (hb hbytes d44) rfl ?_
    exact Steps.refl _)
  exact ⟨T9, some (.int (Int32.ofNat len)), _, _, _, X9, by simp, rfl, rfl, (fun h => by cases h), ⟨rfl, B9, p9.from hh0, f9⟩, fun fs hl => c11.trans (X9.ireturnOut hexec hret rfl (Or.inl rfl) (hb hbytes d46) hl)⟩
end Cmp5
namespace Cmp3
def yN : MethodName := ⟨"java/lang/StringUTF16", "compress", "([CII)[B"⟩
abbrev yB : ByteArray := jdk_52_method_16_code
theorem d0 : decode yB 0 = .ok (.iload_n 2, 1) := by decide +kernel
theorem d1 : decode yB 1 = .ok (.newarray .byte, 2) := by decide +kernel
theorem d3 : decode yB 3 = .ok (.astore_n 3, 1) := by decide +kernel
theorem d4 : decode yB 4 = .ok (.aload_n 0, 1) := by decide +kernel
theorem d5 : decode yB 5 = .ok (.iload_n 1, 1) := by decide +kernel
theorem d6 : decode yB 6 = .ok (.aload_n 3, 1) := by decide +kernel
theorem d7 : decode yB 7 = .ok (.iconst 0, 1) := by decide +kernel
theorem d8 : decode yB 8 = .ok (.iload_n 2, 1) := by decide +kernel
theorem d9 : decode yB 9 = .ok (.invokestatic 115, 3) := by decide +kernel
theorem d12 : decode yB 12 = .ok (.istore 4, 2) := by decide +kernel
theorem d14 : decode yB 14 = .ok (.iload 4, 2) := by decide +kernel
theorem d16 : decode yB 16 = .ok (.iload_n 2, 1) := by decide +kernel
theorem d17 : decode yB 17 = .ok (.if_icmp (.eq) 40, 3) := by decide +kernel
theorem d57 : decode yB 57 = .ok (.aload_n 3, 1) := by decide +kernel
theorem d58 : decode yB 58 = .ok (.areturn, 1) := by decide +kernel
def site : List Cond := [.arrayClass .byte, Cmp5.tab] ++ staticW U16 115 Cmp5.yN
def tab : Cond := tabOf yN yB 6 (some (.array .byte)) site
def P (b : Addr) (A : Cell) (o len : Nat) (args : Array Value) (s : State) : Prop := args = #[.ref b, .int (Int32.ofNat o), .int (Int32.ofNat len)] ∧ Ch b A s ∧ o + len ≤ A.slots.size ∧ len ≤ 536870912 ∧ ∀ i, i < len → ¬ 255 < cv A (o + i)
def E (b : Addr) (A : Cell) (o len : Nat) (r : Option Value) (s u : State) : Prop := NewArr .byte "[B" len (fun j => .int (lo8 (cv A (o + j)))) r s u ∧ u.heap.size = s.heap.size + 1
/-- no char of the range above 255: a new byte[] of their low bytes -/
theorem law (l : Launch) (b : Addr) (A : Cell) (o len : Nat) : Law l yN 3 3 1 18 yB 6 (some (.array .byte)) site (P b A o len) (E b A o len) [] 1 len := by
  refine Law.of_walk (plainFor_of_name (by decide +kernel)) (by decide +kernel) (by decide +kernel) (by decide) (fun _ _ h => by rw [h.1]; rfl) (fun _ U U' hal hh h => ⟨h.1, h.2.1.mv hal hh, h.2.2⟩) (fun r U U' V V' h1 hal h2 h => ⟨NewArr.mv r U U' V V' h1 hal h2 h.1, by rw [h1, h2]; exact h.2⟩) ?_
  intro p e s m args below meth c s₁ X0 hexec hbytes hml hret hlk hnm hown hh0 W hP
  obtain ⟨rfl, hA, l1, l2, hp⟩ := hP
  have a31 := hA.1.2.2.2
  have c1 : Steps p.tables e below (s₁.setTop (entryFrame m #[.ref b, .int (Int32.ofNat o), .int (Int32.ofNat len)] 6)) (s₁.setTop (mkF m 0 #[.val (.ref b), .val (.int (Int32.ofNat o)), .val (.int (Int32.ofNat len)), .unset, .unset, .unset] [])) := entry rfl
  have c2 : Steps p.tables e below (s₁.setTop (entryFrame m #[.ref b, .int (Int32.ofNat o), .int (Int32.ofNat len)] 6)) (s₁.setTop (mkF m 1 #[.val (.ref b), .val (.int (Int32.ofNat o)), .val (.int (Int32.ofNat len)), .unset, .unset, .unset] [.int (Int32.ofNat len)])) := c1.trans (by
    refine XS.iloadN X0.here hexec rfl (hb hbytes d0) rfl ?_
    exact Steps.refl _)
  obtain ⟨T3, B3, X3, ba3, bs3, bv3, bh3, bf3, st3⟩ := X0.anew hexec (atype := .byte) (wk W (.arrayClass .byte)) rfl (by show len * 1 ≤ _; omega) (by omega) (g := (mkF m 1 #[.val (.ref b), .val (.int (Int32.ofNat o)), .val (.int (Int32.ofNat len)), .unset, .unset, .unset] [.int (Int32.ofNat len)])) rfl (hb hbytes d1) (rest := []) rfl (Nat.le_refl _) (by show 0 + len ≤ len; omega)
  rw [hh0] at ba3 st3
  have kp3 : XT.Kept s T3 := (XT.Kept.of_eq hh0).push bh3
  have hA3 := hA.keep X3.warmed.alike (kp3 _ _ hA.1.1)
  have hne : b ≠ s.heap.size := hA.1.ne
  have c4 : Steps p.tables e below (s₁.setTop (entryFrame m #[.ref b, .int (Int32.ofNat o), .int (Int32.ofNat len)] 6)) (T3.setTop (mkF m 3 #[.val (.ref b), .val (.int (Int32.ofNat o)), .val (.int (Int32.ofNat len)), .unset, .unset, .unset] [.ref s.heap.size])) := c2.trans (st3 _ (Steps.refl _))
  have c5 : Steps p.tables e below (s₁.setTop (entryFrame m #[.ref b, .int (Int32.ofNat o), .int (Int32.ofNat len)] 6)) (T3.setTop (mkF m 9 #[.val (.ref b), .val (.int (Int32.ofNat o)), .val (.int (Int32.ofNat len)), .val (.ref s.heap.size), .unset, .unset] [.int (Int32.ofNat len), .int 0, .ref s.heap.size, .int (Int32.ofNat o), .ref b])) := c4.trans (by
    refine XS.astoreN X3.here hexec rfl (hb hbytes d3) rfl rfl rfl ?_
    refine XS.aloadN X3.here hexec rfl (hb hbytes d4) rfl rfl ?_
    refine XS.iloadN X3.here hexec rfl (hb hbytes d5) rfl ?_
    refine XS.aloadN X3.here hexec rfl (hb hbytes d6) rfl rfl ?_
    refine iconstV X3.here hexec rfl 0 (hb hbytes d7) (by decide) ?_
    refine XS.iloadN X3.here hexec rfl (hb hbytes d8) rfl ?_
    exact Steps.refl _)
  obtain ⟨v6, T6, X6, E6, g6⟩ := X3.callS hexec (Cmp5.law l b A s.heap.size B3 o 0 len) hown (wks W (staticW U16 115 Cmp5.yN)) (wk W Cmp5.tab) (W := 0) (Nat.le_of_ble_eq_true rfl) (Nat.le_of_ble_eq_true rfl) (Nat.le_refl _) (by show 0 + len + 0 ≤ len; omega) (g := (mkF m 9 #[.val (.ref b), .val (.int (Int32.ofNat o)), .val (.int (Int32.ofNat len)), .val (.ref s.heap.size), .unset, .unset] [.int (Int32.ofNat len), .int (Int32.ofNat 0), .ref s.heap.size, .int (Int32.ofNat o), .ref b])) rfl (by rw [hml]; rfl) c5 (argsL := [.ref b, .int (Int32.ofNat o), .ref s.heap.size, .int (Int32.ofNat 0), .int (Int32.ofNat len)]) (rest := []) rfl rfl (by show 2 * 0 + 0 ≤ _; decide) (hb hbytes d9) (⟨rfl, hA3, ba3, hne, l1, by rw [bs3]; simp, hp⟩)
  obtain ⟨rfl, B6, p6, f6⟩ := E6
  have c7 : Steps p.tables e below (s₁.setTop (entryFrame m #[.ref b, .int (Int32.ofNat o), .int (Int32.ofNat len)] 6)) (T6.setTop (mkF m 12 #[.val (.ref b), .val (.int (Int32.ofNat o)), .val (.int (Int32.ofNat len)), .val (.ref s.heap.size), .unset, .unset] [.int (Int32.ofNat len)])) := g6
  have c8 : Steps p.tables e below (s₁.setTop (entryFrame m #[.ref b, .int (Int32.ofNat o), .int (Int32.ofNat len)] 6)) (T6.setTop (mkF m 58 #[.val (.ref b), .val (.int (Int32.ofNat o)), .val (.int (Int32.ofNat len)), .val (.ref s.heap.size), .val (.int (Int32.ofNat len)), .unset] [.ref s.heap.size])) := c7.trans (by
    refine XS.istore X6.here hexec rfl (hb hbytes d12) rfl rfl ?_
    refine XS.iload X6.here hexec rfl (hb hbytes d14) rfl ?_
    refine XS.iloadN X6.here hexec rfl (hb hbytes d16) rfl ?_
    refine XS.icmpYes X6.here hexec rfl (pc0 := 17) rfl (hb hbytes d17) rfl (ii_eq_t rfl) (by decide) rfl ?_
    refine XS.aloadN X6.here hexec rfl (hb hbytes d57) rfl rfl ?_
    exact Steps.refl _)
  have X8 := X6.wide (L' := []) (cells' := 1) (slots' := len) (fun x hx hlt => by
    simp only [List.nil_append, copyLocs, List.mem_map, List.mem_range] at hx
    obtain ⟨i, -, rfl⟩ := hx
    exact absurd hlt (Nat.lt_irrefl _)) (Nat.le_refl _) (by omega)
  exact ⟨T6, some (.ref s.heap.size), _, _, _, X8, rfl, rfl, rfl, (fun h => by cases h), ⟨⟨rfl, B6, ba3.like (X3.warmed.alike.symm.trans X6.warmed.alike) p6.1 f6.1 f6.2.1 f6.2.2.1, f6.2.1.trans bv3, by rw [X6.warmed.alike.findClass, f6.1]; exact bf3, by rw [f6.2.2.1, bs3]; simp, fun j hj => by rw [f6.2.2.2 j, if_pos (by omega)]; rfl, kp3.put p6 (Nat.le_refl _)⟩, by rw [p6.2.2, bh3, hh0]; simp⟩, fun fs hl => c8.trans (X8.areturnOut hexec rfl hret rfl (hb hbytes d58) hl)⟩
end Cmp3
namespace CodL
def yN : MethodName := ⟨"java/lang/StringUTF16", "coderFromArrayLen", "([BI)B"⟩
abbrev yB : ByteArray := jdk_52_method_15_code
theorem d0 : decode yB 0 = .ok (.iload_n 1, 1) := by decide +kernel
theorem d1 : decode yB 1 = .ok (.aload_n 0, 1) := by decide +kernel
theorem d2 : decode yB 2 = .ok (.arraylength, 1) := by decide +kernel
theorem d3 : decode yB 3 = .ok (.isub, 1) := by decide +kernel
theorem d4 : decode yB 4 = .ok (.bipush 31, 2) := by decide +kernel
theorem d6 : decode yB 6 = .ok (.iushr, 1) := by decide +kernel
theorem d7 : decode yB 7 = .ok (.i2b, 1) := by decide +kernel
theorem d8 : decode yB 8 = .ok (.ireturn, 1) := by decide +kernel
def site : List Cond := []
def tab : Cond := tabOf yN yB 2 (some .byte) site
def P (d : Addr) (B : Cell) (args : Array Value) (s : State) : Prop := args = #[.ref d, .int (Int32.ofNat B.slots.size)] ∧ Arr .byte d B s
def E (r : Option Value) (s u : State) : Prop := XT.PureE (some (.int 0)) r s u
/-- an array as long as the number of chars: LATIN1 -/
theorem law (l : Launch) (d : Addr) (B : Cell) : Law l yN 2 2 0 0 yB 2 (some .byte) site (P d B) E [] 0 0 := by
  refine Law.of_walk (plainFor_of_name (by decide +kernel)) (by decide +kernel) (by decide +kernel) (by decide) (fun _ _ h => by rw [h.1]; rfl) (fun _ U U' hal hh h => ⟨h.1, h.2.mv hal hh⟩) (fun r U U' V V' h1 hal h2 h => XT.PureE.mv r U U' V V' h1 hal h2 h) ?_
  intro p e s m args below meth c s₁ X0 hexec hbytes hml hret hlk hnm hown hh0 W hP
  obtain ⟨rfl, hB⟩ := hP
  have hB0 := hB.mv X0.warmed.alike hh0
  have c1 : Steps p.tables e below (s₁.setTop (entryFrame m #[.ref d, .int (Int32.ofNat B.slots.size)] 2)) (s₁.setTop (mkF m 0 #[.val (.ref d), .val (.int (Int32.ofNat B.slots.size))] [])) := entry rfl
  have c2 : Steps p.tables e below (s₁.setTop (entryFrame m #[.ref d, .int (Int32.ofNat B.slots.size)] 2)) (s₁.setTop (mkF m 2 #[.val (.ref d), .val (.int (Int32.ofNat B.slots.size))] [.ref d, .int (Int32.ofNat B.slots.size)])) := c1.trans (by
    refine XS.iloadN X0.here hexec rfl (hb hbytes d0) rfl ?_
    refine XS.aloadN X0.here hexec rfl (hb hbytes d1) rfl rfl ?_
    exact Steps.refl _)
  have c3 : Steps p.tables e below (s₁.setTop (entryFrame m #[.ref d, .int (Int32.ofNat B.slots.size)] 2)) (s₁.setTop (mkF m 8 #[.val (.ref d), .val (.int (Int32.ofNat B.slots.size))] [.int (lo8 (ushr (Int32.ofNat B.slots.size - Int32.ofNat B.slots.size) 31))])) := c2.trans (by
    refine X0.alen hexec hB0 rfl rfl (hb hbytes d2) ?_
    refine XS.isub X0.here hexec rfl (hb hbytes d3) rfl ?_
    refine bipushV X0.here hexec rfl 31 (hb hbytes d4) (by decide) ?_
    refine iushr X0.here hexec rfl (hb hbytes d6) rfl ?_
    refine i2b X0.here hexec rfl (hb hbytes d7) rfl ?_
    exact Steps.refl _)
  have e0 : lo8 (ushr (Int32.ofNat B.slots.size - Int32.ofNat B.slots.size) 31) = 0 := by rw [Int32.sub_self]; decide
  rw [e0] at c3
  exact ⟨s₁, some (.int 0), _, _, _, X0, rfl, rfl, rfl, (fun h => by cases h), ⟨rfl, hh0⟩, fun fs hl => c3.trans (X0.ireturnOut hexec hret rfl (Or.inr (Or.inr (Or.inl rfl))) (hb hbytes d8) hl)⟩
end CodL
/-- the String at a is Latin-1 over a new byte[] (the heap's one new cell): the low bytes of the len chars of A from o on; every cell but a is kept -/
def Got (a : Addr) (D : Cell) (fV fC : Field) (A : Cell) (o len : Nat) (r : Option Value) (s u : State) : Prop := r = none ∧ ∃ D' V : Cell, Blank "java/lang/String" a D' u ∧ Same D D' [fV.slot, fC.slot] ∧ D'.slots[fV.slot]? = some (.ref s.heap.size) ∧ D'.slots[fC.slot]? = some (.int 0) ∧ Arr .byte s.heap.size V u ∧ V.vm = .none ∧ u.vm.findClass "[B" = some V.cls ∧ V.slots.size = len ∧ (∀ j, j < len → V.slots[j]? = some (.int (lo8 (cv A (o + j))))) ∧ (∀ (y : Addr) (c : Cell), y ≠ a → s.heap[y]? = some c → u.heap[y]? = some c) ∧ u.heap.size = s.heap.size + 1
theorem Got.mv {a : Addr} {D A : Cell} {fV fC : Field} {o len : Nat} : ∀ r (U U' V V' : State), U'.heap = U.heap → V.vm.Alike V'.vm → V'.heap = V.heap → Got a D fV fC A o len r U V → Got a D fV fC A o len r U' V' :=
  fun r U U' V V' h1 hal h2 ⟨e0, D', X, a1, a2, a3, a4, a5, a6, a7, a8, a9, a10, a11⟩ => ⟨e0, D', X, a1.mv hal h2, a2, by rw [h1]; exact a3, a4, by rw [h1]; exact a5.mv hal h2, a6, by rw [hal.findClass]; exact a7, a8, a9, by rw [h1, h2]; exact a10, by rw [h1, h2]; exact a11⟩
namespace New4
def yN : MethodName := ⟨"java/lang/String", "<init>", "([CIILjava/lang/Void;)V"⟩
abbrev yB : ByteArray := jdk_42_method_149_code
theorem d0 : decode yB 0 = .ok (.aload_n 0, 1) := by decide +kernel
theorem d1 : decode yB 1 = .ok (.invokespecial 1, 3) := by decide +kernel
theorem d4 : decode yB 4 = .ok (.iload_n 3, 1) := by decide +kernel
theorem d5 : decode yB 5 = .ok (.ifCond (.ne) 22, 3) := by decide +kernel
theorem d27 : decode yB 27 = .ok (.getstatic 38, 3) := by decide +kernel
theorem d30 : decode yB 30 = .ok (.ifCond (.eq) 28, 3) := by decide +kernel
theorem d33 : decode yB 33 = .ok (.aload_n 1, 1) := by decide +kernel
theorem d34 : decode yB 34 = .ok (.iload_n 2, 1) := by decide +kernel
theorem d35 : decode yB 35 = .ok (.iload_n 3, 1) := by decide +kernel
theorem d36 : decode yB 36 = .ok (.invokestatic 177, 3) := by decide +kernel
theorem d39 : decode yB 39 = .ok (.astore 5, 2) := by decide +kernel
theorem d41 : decode yB 41 = .ok (.aload_n 0, 1) := by decide +kernel
theorem d42 : decode yB 42 = .ok (.aload 5, 2) := by decide +kernel
theorem d44 : decode yB 44 = .ok (.iload_n 3, 1) := by decide +kernel
theorem d45 : decode yB 45 = .ok (.invokestatic 47, 3) := by decide +kernel
theorem d48 : decode yB 48 = .ok (.putfield 15, 3) := by decide +kernel
theorem d51 : decode yB 51 = .ok (.aload_n 0, 1) := by decide +kernel
theorem d52 : decode yB 52 = .ok (.aload 5, 2) := by decide +kernel
theorem d54 : decode yB 54 = .ok (.putfield 9, 3) := by decide +kernel
theorem d57 : decode yB 57 = .ok (.return_, 1) := by decide +kernel
def site : List Cond := [.fieldLink "java/lang/String" 38 "java/lang/String" "COMPACT_STRINGS" "Z", Cmp3.tab, CodL.tab, .laysFinal "java/lang/String" "java/lang/String" "value" "[B", .fieldLink "java/lang/String" 9 "java/lang/String" "value" "[B", .laysFinal "java/lang/String" "java/lang/String" "coder" "B", .fieldLink "java/lang/String" 15 "java/lang/String" "coder" "B"] ++ objW "java/lang/String" 1 ++ staticW "java/lang/String" 177 Cmp3.yN ++ staticW "java/lang/String" 47 CodL.yN
def tab : Cond := tabOf yN yB 6 none site
def P (a : Addr) (D : Cell) (fV fC : Field) (b : Addr) (A : Cell) (z : Int32) (o len : Nat) (args : Array Value) (s : State) : Prop := args = #[.ref a, .ref b, .int (Int32.ofNat o), .int (Int32.ofNat len), .null] ∧ Blank "java/lang/String" a D s ∧ Found "java/lang/String" "value" "[B" fV s ∧ Found "java/lang/String" "coder" "B" fC s ∧ Ch b A s ∧ StaticIs s "java/lang/String" "COMPACT_STRINGS" "Z" (.int z) ∧ ¬ z = 0 ∧ 0 < len ∧ o + len ≤ A.slots.size ∧ len ≤ 536870912 ∧ ∀ i, i < len → ¬ 255 < cv A (o + i)
def E (a : Addr) (D : Cell) (fV fC : Field) (A : Cell) (o len : Nat) (r : Option Value) (s u : State) : Prop := Got a D fV fC A o len r s u
/-- len > 0, no char of the range above 255: a Latin-1 String of their low bytes -/
theorem law (l : Launch) (a : Addr) (D : Cell) (fV fC : Field) (b : Addr) (A : Cell) (z : Int32) (o len : Nat) : Law l yN 5 4 2 35 yB 6 none site (P a D fV fC b A z o len) (E a D fV fC A o len) [⟨a, fC.slot⟩, ⟨a, fV.slot⟩] 1 len := by
  refine Law.of_walk (plainFor_of_name (by decide +kernel)) (by decide +kernel) (by decide +kernel) (by decide) (fun _ _ h => by rw [h.1]; rfl) (fun _ U U' hal hh h => ⟨h.1, h.2.1.mv hal hh, h.2.2.1.al hal, h.2.2.2.1.al hal, h.2.2.2.2.1.mv hal hh, h.2.2.2.2.2.1.there hal hh, h.2.2.2.2.2.2⟩) (fun r U U' V V' h1 hal h2 h => Got.mv r U U' V V' h1 hal h2 h) ?_
  intro p e s m args below meth c s₁ X0 hexec hbytes hml hret hlk hnm hown hh0 W hP
  obtain ⟨rfl, hB, f1, f2, hA, s1, hz, l0, l1, l2, hp⟩ := hP
  have a31 := hA.1.2.2.2
  have c1 : Steps p.tables e below (s₁.setTop (entryFrame m #[.ref a, .ref b, .int (Int32.ofNat o), .int (Int32.ofNat len), .null] 6)) (s₁.setTop (mkF m 0 #[.val (.ref a), .val (.ref b), .val (.int (Int32.ofNat o)), .val (.int (Int32.ofNat len)), .val .null, .unset] [])) := entry rfl
  have c2 : Steps p.tables e below (s₁.setTop (entryFrame m #[.ref a, .ref b, .int (Int32.ofNat o), .int (Int32.ofNat len), .null] 6)) (s₁.setTop (mkF m 1 #[.val (.ref a), .val (.ref b), .val (.int (Int32.ofNat o)), .val (.int (Int32.ofNat len)), .val .null, .unset] [.ref a])) := c1.trans (by
    refine XS.aloadN X0.here hexec rfl (hb hbytes d0) rfl rfl ?_
    exact Steps.refl _)
  obtain ⟨T3, X3, q3, st3⟩ := X0.oinit hexec hown (wks W (objW "java/lang/String" 1)) (g := (mkF m 1 #[.val (.ref a), .val (.ref b), .val (.int (Int32.ofNat o)), .val (.int (Int32.ofNat len)), .val .null, .unset] [.ref a])) rfl (by rw [hml]; rfl) (rest := []) rfl (hb hbytes d1) (W := 0) (by show 2 * 0 + 0 ≤ _; decide) (Nat.le_of_ble_eq_true rfl) (Nat.le_of_ble_eq_true rfl)
  have hh3 := q3.trans hh0
  have c4 : Steps p.tables e below (s₁.setTop (entryFrame m #[.ref a, .ref b, .int (Int32.ofNat o), .int (Int32.ofNat len), .null] 6)) (T3.setTop (mkF m 27 #[.val (.ref a), .val (.ref b), .val (.int (Int32.ofNat o)), .val (.int (Int32.ofNat len)), .val .null, .unset] [])) := (c2.trans (st3 _ (Steps.refl _))).trans (by
    refine XS.iloadN X3.here hexec rfl (hb hbytes d4) rfl ?_
    refine XS.ifYes X3.here hexec rfl (pc0 := 5) rfl (hb hbytes d5) rfl (i0_ne_t (nz32 (by omega) l0)) (by decide) rfl ?_
    exact Steps.refl _)
  obtain ⟨T5, X5, q5, st5⟩ := X3.sget hexec hown (wk W (.fieldLink "java/lang/String" 38 "java/lang/String" "COMPACT_STRINGS" "Z")) s1 (fun _ _ h => by rw [hh3]; exact h) (g := (mkF m 27 #[.val (.ref a), .val (.ref b), .val (.int (Int32.ofNat o)), .val (.int (Int32.ofNat len)), .val .null, .unset] [])) rfl (hb hbytes d27)
  have hh5 := q5.trans hh3
  have c6 : Steps p.tables e below (s₁.setTop (entryFrame m #[.ref a, .ref b, .int (Int32.ofNat o), .int (Int32.ofNat len), .null] 6)) (T5.setTop (mkF m 30 #[.val (.ref a), .val (.ref b), .val (.int (Int32.ofNat o)), .val (.int (Int32.ofNat len)), .val .null, .unset] [.int z])) := c4.trans (st5 _ (Steps.refl _))
  have c7 : Steps p.tables e below (s₁.setTop (entryFrame m #[.ref a, .ref b, .int (Int32.ofNat o), .int (Int32.ofNat len), .null] 6)) (T5.setTop (mkF m 36 #[.val (.ref a), .val (.ref b), .val (.int (Int32.ofNat o)), .val (.int (Int32.ofNat len)), .val .null, .unset] [.int (Int32.ofNat len), .int (Int32.ofNat o), .ref b])) := c6.trans (by
    refine XS.ifNo X5.here hexec rfl (hb hbytes d30) rfl (i0_eq_f hz) ?_
    refine XS.aloadN X5.here hexec rfl (hb hbytes d33) rfl rfl ?_
    refine XS.iloadN X5.here hexec rfl (hb hbytes d34) rfl ?_
    refine XS.iloadN X5.here hexec rfl (hb hbytes d35) rfl ?_
    exact Steps.refl _)
  obtain ⟨v8, T8, X8, E8, g8⟩ := X5.callS hexec (Cmp3.law l b A o len) hown (wks W (staticW "java/lang/String" 177 Cmp3.yN)) (wk W Cmp3.tab) (W := 0) (Nat.le_of_ble_eq_true rfl) (Nat.le_of_ble_eq_true rfl) (Nat.le_refl _) (by show 0 + len ≤ len; omega) (g := (mkF m 36 #[.val (.ref a), .val (.ref b), .val (.int (Int32.ofNat o)), .val (.int (Int32.ofNat len)), .val .null, .unset] [.int (Int32.ofNat len), .int (Int32.ofNat o), .ref b])) rfl (by rw [hml]; rfl) c7 (argsL := [.ref b, .int (Int32.ofNat o), .int (Int32.ofNat len)]) (rest := []) rfl rfl (by show 2 * 0 + 0 ≤ _; decide) (hb hbytes d36) (⟨rfl, hA.mv X5.warmed.alike hh5, l1, l2, hp⟩)
  obtain ⟨e8, z8⟩ := E8
  obtain ⟨rfl, N, n1, n2, n3, n4, n5, n6⟩ := NewArr.mv _ T5 s _ _ hh5.symm (Vm.Alike.refl _) rfl e8
  rw [hh5] at z8
  have hB1 := hB.keep X8.warmed.alike (n6 _ _ hB.1)
  have hne : s.heap.size ≠ a := (Nat.ne_of_lt (Array.getElem?_eq_some_iff.mp hB.1).1).symm
  have c9 : Steps p.tables e below (s₁.setTop (entryFrame m #[.ref a, .ref b, .int (Int32.ofNat o), .int (Int32.ofNat len), .null] 6)) (T8.setTop (mkF m 39 #[.val (.ref a), .val (.ref b), .val (.int (Int32.ofNat o)), .val (.int (Int32.ofNat len)), .val .null, .unset] [.ref s.heap.size])) := g8
  have c10 : Steps p.tables e below (s₁.setTop (entryFrame m #[.ref a, .ref b, .int (Int32.ofNat o), .int (Int32.ofNat len), .null] 6)) (T8.setTop (mkF m 45 #[.val (.ref a), .val (.ref b), .val (.int (Int32.ofNat o)), .val (.int (Int32.ofNat len)), .val .null, .val (.ref s.heap.size)] [.int (Int32.ofNat N.slots.size), .ref s.heap.size, .ref a])) := by
    have hc : Steps p.tables e below (s₁.setTop (entryFrame m #[.ref a, .ref b, .int (Int32.ofNat o), .int (Int32.ofNat len), .null] 6)) (T8.setTop (mkF m 45 #[.val (.ref a), .val (.ref b), .val (.int (Int32.ofNat o)), .val (.int (Int32.ofNat len)), .val .null, .val (.ref s.heap.size)] [.int (Int32.ofNat len), .ref s.heap.size, .ref a])) := c9.trans (by
      refine XS.astore X8.here hexec rfl (hb hbytes d39) rfl rfl rfl ?_
      refine XS.aloadN X8.here hexec rfl (hb hbytes d41) rfl rfl ?_
      refine XS.aload X8.here hexec rfl (hb hbytes d42) rfl rfl ?_
      refine XS.iloadN X8.here hexec rfl (hb hbytes d44) rfl ?_
      exact Steps.refl _)
    rw [n4]; exact hc
  obtain ⟨v11, T11, X11, E11, g11⟩ := X8.callS hexec (CodL.law l s.heap.size N) hown (wks W (staticW "java/lang/String" 47 CodL.yN)) (wk W CodL.tab) (W := 1) (Nat.le_of_ble_eq_true rfl) (Nat.le_of_ble_eq_true rfl) (Nat.le_refl _) (by show 0 + len + 0 ≤ len; omega) (g := (mkF m 45 #[.val (.ref a), .val (.ref b), .val (.int (Int32.ofNat o)), .val (.int (Int32.ofNat len)), .val .null, .val (.ref s.heap.size)] [.int (Int32.ofNat N.slots.size), .ref s.heap.size, .ref a])) rfl (by rw [hml]; rfl) c10 (argsL := [.ref s.heap.size, .int (Int32.ofNat N.slots.size)]) (rest := [.ref a]) rfl rfl (by show 2 * 0 + (1 + 0) ≤ _; decide) (hb hbytes d45) (⟨rfl, n1⟩)
  obtain ⟨rfl, q11⟩ := E11
  have hB11 := hB1.mv (X8.warmed.alike.symm.trans X11.warmed.alike) q11
  have c12 : Steps p.tables e below (s₁.setTop (entryFrame m #[.ref a, .ref b, .int (Int32.ofNat o), .int (Int32.ofNat len), .null] 6)) (T11.setTop (mkF m 48 #[.val (.ref a), .val (.ref b), .val (.int (Int32.ofNat o)), .val (.int (Int32.ofNat len)), .val .null, .val (.ref s.heap.size)] [.int 0, .ref a])) := g11
  obtain ⟨T13, X13, p13, bl13, sl13, st13⟩ := X11.finit hexec hown (wk W (.fieldLink "java/lang/String" 15 "java/lang/String" "coder" "B")) (Or.inr ⟨_, (wk W (.laysFinal "java/lang/String" "java/lang/String" "coder" "B"))⟩) (Or.inl ⟨rfl, hnm⟩) f2 (Or.inl rfl) hB11 (t := .byte) (by decide +kernel) rfl (g := (mkF m 48 #[.val (.ref a), .val (.ref b), .val (.int (Int32.ofNat o)), .val (.int (Int32.ofNat len)), .val .null, .val (.ref s.heap.size)] [.int 0, .ref a])) rfl (rest := []) rfl (hb hbytes d48)
  have c14 : Steps p.tables e below (s₁.setTop (entryFrame m #[.ref a, .ref b, .int (Int32.ofNat o), .int (Int32.ofNat len), .null] 6)) (T13.setTop (mkF m 54 #[.val (.ref a), .val (.ref b), .val (.int (Int32.ofNat o)), .val (.int (Int32.ofNat len)), .val .null, .val (.ref s.heap.size)] [.ref s.heap.size, .ref a])) := (c12.trans (st13 _ (Steps.refl _))).trans (by
    refine XS.aloadN X13.here hexec rfl (hb hbytes d51) rfl rfl ?_
    refine XS.aload X13.here hexec rfl (hb hbytes d52) rfl rfl ?_
    exact Steps.refl _)
  obtain ⟨T15, X15, p15, bl15, sl15, st15⟩ := X13.finit hexec hown (wk W (.fieldLink "java/lang/String" 9 "java/lang/String" "value" "[B")) (Or.inr ⟨_, (wk W (.laysFinal "java/lang/String" "java/lang/String" "value" "[B"))⟩) (Or.inl ⟨rfl, hnm⟩) f1 (Or.inl rfl) bl13 (t := (.array .byte)) (by decide +kernel) rfl (g := (mkF m 54 #[.val (.ref a), .val (.ref b), .val (.int (Int32.ofNat o)), .val (.int (Int32.ofNat len)), .val .null, .val (.ref s.heap.size)] [.ref s.heap.size, .ref a])) rfl (rest := []) rfl (hb hbytes d54)
  have c16 : Steps p.tables e below (s₁.setTop (entryFrame m #[.ref a, .ref b, .int (Int32.ofNat o), .int (Int32.ofNat len), .null] 6)) (T15.setTop (mkF m 57 #[.val (.ref a), .val (.ref b), .val (.int (Int32.ofNat o)), .val (.int (Int32.ofNat len)), .val .null, .val (.ref s.heap.size)] [])) := c14.trans (st15 _ (Steps.refl _))
  have ap := apart (Or.inr ⟨_, (wk W (.laysFinal "java/lang/String" "java/lang/String" "value" "[B"))⟩) (Or.inr ⟨_, (wk W (.laysFinal "java/lang/String" "java/lang/String" "coder" "B"))⟩) f1 f2 (t₁ := .array .byte) (t₂ := .byte) (by decide +kernel) (by decide +kernel) (by decide)
  have al := X8.warmed.alike.symm.trans X15.warmed.alike
  have n7 : T11.heap[s.heap.size]? = some N := by rw [q11]; exact n1.1
  exact ⟨T15, none, _, _, _, X15, by simp, rfl, by omega, (fun _ => rfl), ⟨rfl, _, N, bl15, ((Same.refl D _).set _ (by simp)).set _ (by simp), sl15, (Cell.slots_setSlot_ne _ ap).trans sl13, n1.keep al (p15.other hne (p13.other hne n7)), n2, by rw [al.findClass]; exact n3, n4, n5, fun y c h1 h2 => p15.other h1 (p13.other h1 (by rw [q11]; exact n6 y c h2)), by rw [p15.2.2, p13.2.2, q11]; exact z8⟩, fun fs hl => c16.trans (X15.returnOut hexec hret (hb hbytes d57) hl)⟩
end New4
namespace New1
def yN : MethodName := ⟨"java/lang/String", "<init>", "([C)V"⟩
abbrev yB : ByteArray := jdk_42_method_3_code
theorem d0 : decode yB 0 = .ok (.aload_n 0, 1) := by decide +kernel
theorem d1 : decode yB 1 = .ok (.aload_n 1, 1) := by decide +kernel
theorem d2 : decode yB 2 = .ok (.iconst 0, 1) := by decide +kernel
theorem d3 : decode yB 3 = .ok (.aload_n 1, 1) := by decide +kernel
theorem d4 : decode yB 4 = .ok (.arraylength, 1) := by decide +kernel
theorem d5 : decode yB 5 = .ok (.aconst_null, 1) := by decide +kernel
theorem d6 : decode yB 6 = .ok (.invokespecial 27, 3) := by decide +kernel
theorem d9 : decode yB 9 = .ok (.return_, 1) := by decide +kernel
def site : List Cond := [New4.tab] ++ initW "java/lang/String" 27 New4.yN
def tab : Cond := tabOf yN yB 2 none site
def P (a : Addr) (D : Cell) (fV fC : Field) (b : Addr) (A : Cell) (z : Int32) (args : Array Value) (s : State) : Prop := args = #[.ref a, .ref b] ∧ Blank "java/lang/String" a D s ∧ Found "java/lang/String" "value" "[B" fV s ∧ Found "java/lang/String" "coder" "B" fC s ∧ Ch b A s ∧ StaticIs s "java/lang/String" "COMPACT_STRINGS" "Z" (.int z) ∧ ¬ z = 0 ∧ 0 < A.slots.size ∧ A.slots.size ≤ 536870912 ∧ ∀ i, i < A.slots.size → ¬ 255 < cv A i
def E (a : Addr) (D : Cell) (fV fC : Field) (A : Cell) (r : Option Value) (s u : State) : Prop := Got a D fV fC A 0 A.slots.size r s u
/-- new String(chars), not empty, no char above 255: a Latin-1 String of their low bytes -/
theorem law (l : Launch) (a : Addr) (D : Cell) (fV fC : Field) (b : Addr) (A : Cell) (z : Int32) : Law l yN 2 1 3 52 yB 2 none site (P a D fV fC b A z) (E a D fV fC A) [⟨a, fC.slot⟩, ⟨a, fV.slot⟩] 1 A.slots.size := by
  refine Law.of_walk (plainFor_of_name (by decide +kernel)) (by decide +kernel) (by decide +kernel) (by decide) (fun _ _ h => by rw [h.1]; rfl) (fun _ U U' hal hh h => ⟨h.1, h.2.1.mv hal hh, h.2.2.1.al hal, h.2.2.2.1.al hal, h.2.2.2.2.1.mv hal hh, h.2.2.2.2.2.1.there hal hh, h.2.2.2.2.2.2⟩) (fun r U U' V V' h1 hal h2 h => Got.mv r U U' V V' h1 hal h2 h) ?_
  intro p e s m args below meth c s₁ X0 hexec hbytes hml hret hlk hnm hown hh0 W hP
  obtain ⟨rfl, hB, f1, f2, hA, s1, hz, l0, l2, hp⟩ := hP
  have c1 : Steps p.tables e below (s₁.setTop (entryFrame m #[.ref a, .ref b] 2)) (s₁.setTop (mkF m 0 #[.val (.ref a), .val (.ref b)] [])) := entry rfl
  have c2 : Steps p.tables e below (s₁.setTop (entryFrame m #[.ref a, .ref b] 2)) (s₁.setTop (mkF m 6 #[.val (.ref a), .val (.ref b)] [.null, .int (Int32.ofNat A.slots.size), .int 0, .ref b, .ref a])) := c1.trans (by
    refine XS.aloadN X0.here hexec rfl (hb hbytes d0) rfl rfl ?_
    refine XS.aloadN X0.here hexec rfl (hb hbytes d1) rfl rfl ?_
    refine iconstV X0.here hexec rfl 0 (hb hbytes d2) (by decide) ?_
    refine XS.aloadN X0.here hexec rfl (hb hbytes d3) rfl rfl ?_
    refine X0.alen hexec (hA.1.mv X0.warmed.alike hh0) rfl rfl (hb hbytes d4) ?_
    refine XS.aconstNull X0.here hexec rfl (hb hbytes d5) ?_
    exact Steps.refl _)
  obtain ⟨v3, T3, X3, E3, g3⟩ := X0.callN hexec (New4.law l a D fV fC b A z 0 A.slots.size) rfl hown (wks W (initW "java/lang/String" 27 New4.yN)) (W New4.tab (by simp only [site, List.mem_cons, List.mem_append, true_or, or_true])) (W := 0) (Nat.le_of_ble_eq_true rfl) (Nat.le_of_ble_eq_true rfl) (Nat.le_refl _) (by show 0 + A.slots.size ≤ A.slots.size; omega) (g := (mkF m 6 #[.val (.ref a), .val (.ref b)] [.null, .int (Int32.ofNat A.slots.size), .int (Int32.ofNat 0), .ref b, .ref a])) rfl (by rw [hml]; rfl) c2 (argsL := [.ref b, .int (Int32.ofNat 0), .int (Int32.ofNat A.slots.size), .null]) (rest := []) rfl rfl (by show 2 * 0 + 0 ≤ _; decide) (hb hbytes d6) (⟨rfl, hB.mv X0.warmed.alike hh0, f1.al X0.warmed.alike, f2.al X0.warmed.alike, hA.mv X0.warmed.alike hh0, s1.there X0.warmed.alike hh0, hz, l0, by omega, l2, fun i hi => by rw [Nat.zero_add]; exact hp i hi⟩)
  have e0 := Got.mv _ s₁ s _ _ hh0.symm (Vm.Alike.refl _) rfl E3
  obtain rfl := e0.1
  have c4 : Steps p.tables e below (s₁.setTop (entryFrame m #[.ref a, .ref b] 2)) (T3.setTop (mkF m 9 #[.val (.ref a), .val (.ref b)] [])) := g3
  exact ⟨T3, none, _, _, _, X3, by simp, rfl, by omega, (fun _ => rfl), e0, fun fs hl => c4.trans (X3.returnOut hexec hret (hb hbytes d9) hl)⟩
theorem pays {l : Launch} {R : Room} {p : Program} {e : Env} {below : List Frame} {s : State} {sargs : Array Value} {len W : Nat} (a : Addr) (D : Cell) (fV fC : Field) (b : Addr) (A : Cell) (z : Int32) (htab : tab.before sargs s = true) (hfr : 4 ≤ R.frames) (hlo : W + 65 ≤ R.locals) :
    Back l R p e below s sargs yN len W (fun A₁ a₁ => A₁.cells + 1 ≤ R.cells ∧ A₁.slots + A.slots.size ≤ R.slots ∧ P a D fV fC b A z a₁ A₁.U) (fun A₁ _ v₁ B₁ => E a D fV fC A v₁ A₁.U B₁.U ∧ B₁.locs = A₁.locs ++ [⟨a, fC.slot⟩, ⟨a, fV.slot⟩] ∧ B₁.cells = A₁.cells + 1 ∧ B₁.slots = A₁.slots + A.slots.size) :=
  (law l a D fV fC b A z).pays htab hfr (by omega)
end New1
end StrChars
namespace StrChars.Road
open Jvm Sem ClassFile Op Lib Jvm.Stand Jvm.Free Jvm.Free.XT
open Jvm.Lib.Cold (StaticIs)
abbrev ST : String := "java/lang/String"
/-- every table word that New1's law asks, flat -/
abbrev words : List Jvm.Cond := [.code New1.yN New1.yB 2 none, .initialized ST, .methodLink ST 27 New4.yN, .instanceMethod New4.yN,
  .code New4.yN New4.yB 6 none, .fieldLink ST 38 ST "COMPACT_STRINGS" "Z", .laysFinal ST ST "value" "[B", .fieldLink ST 9 ST "value" "[B", .laysFinal ST ST "coder" "B", .fieldLink ST 15 ST "coder" "B",
  .methodLink ST 1 Lib.objectInit, .instanceMethod Lib.objectInit, .code Lib.objectInit ⟨#[0xb1]⟩ 1 none, .methodLink ST 177 Cmp3.yN, .static Cmp3.yN, .methodLink ST 47 CodL.yN, .static CodL.yN,
  .code Cmp3.yN Cmp3.yB 6 (some (.array .byte)), .initialized U16, .arrayClass .byte, .methodLink U16 115 Cmp5.yN, .static Cmp5.yN, .code Cmp5.yN Cmp5.yB 7 (some .int), .code CodL.yN CodL.yB 2 (some .byte)]
theorem tab_of {a : Array Value} {s : State} (h : ∀ w ∈ words, w.before a s = true) : New1.tab.before a s = true := by
  have h5 : Cmp5.tab.before a s = true := unparts (wk h (.code Cmp5.yN Cmp5.yB 7 (some .int))) (wks h (.initialized Cmp5.yN.cls :: Cmp5.site))
  have hc : CodL.tab.before a s = true := unparts (wk h (.code CodL.yN CodL.yB 2 (some .byte))) (wks h (.initialized CodL.yN.cls :: CodL.site))
  have q5 : ∀ w ∈ Cmp5.tab :: words, w.before a s = true := fun w hw => (List.mem_cons.mp hw).elim (fun e => e ▸ h5) (h w)
  have h3 : Cmp3.tab.before a s = true := unparts (wk q5 (.code Cmp3.yN Cmp3.yB 6 (some (.array .byte)))) (wks q5 (.initialized Cmp3.yN.cls :: Cmp3.site))
  have q3 : ∀ w ∈ Cmp3.tab :: CodL.tab :: words, w.before a s = true := fun w hw => (List.mem_cons.mp hw).elim (fun e => e ▸ h3) fun hw => (List.mem_cons.mp hw).elim (fun e => e ▸ hc) (h w)
  have h4 : New4.tab.before a s = true := unparts (wk q3 (.code New4.yN New4.yB 6 none)) (wks q3 (.initialized New4.yN.cls :: New4.site))
  have q4 : ∀ w ∈ New4.tab :: words, w.before a s = true := fun w hw => (List.mem_cons.mp hw).elim (fun e => e ▸ h4) (h w)
  exact unparts (wk q4 (.code New1.yN New1.yB 2 none)) (wks q4 (.initialized New1.yN.cls :: New1.site))
/-- the words ride from the start Z to the walk's own state -/
theorem moved {Z s : State} {a0 args : Array Value} (hZ : Z.Warmed39 s.vm) (hw : ∀ d ∈ words, d.before a0 Z = true) : ∀ d ∈ words, d.before args s = true := fun d hd => by
  have q := hw d hd
  have t : ∀ d ∈ words, d = .arrayClass .byte ∨ (d.onTables && d.keepsFace) = true := by decide +kernel
  rcases t d hd with rfl | t
  · exact RoadKit.mvA hZ q
  · exact RoadKit.mv hZ q t
/-- WHAT COMES BACK, over the tables of the start Z: h the heap at the call, h' behind it -/
def Q (Z : State) (x : Addr) (A : Cell) (h : Heap) (v : Option Value) (h' : Heap) (L : List Loc) : Prop := v = none ∧ (∀ y ∈ L, y.base = x) ∧ RoadKit.Keep h h' [x] ∧ h'.size = h.size + 1 ∧ RoadKit.Exa Z h' x ST ∧ RoadKit.Fld Z h' x ST "value" "[B" (.ref h.size) ∧ RoadKit.Fld Z h' x ST "coder" "B" (.int 0) ∧
  (∃ V : Cell, RoadKit.Arr Z h' h.size V .byte ∧ V.vm = .none ∧ Z.vm.findClass "[B" = some V.cls ∧ V.slots.size = A.slots.size ∧ ∀ j, j < A.slots.size → V.slots[j]? = some (.int (lo8 (cv A j)))) ∧
  ∀ (O n d : String) (w : Value), RoadKit.Fld Z h x O n d w → RoadKit.slotOf Z O n d ≠ RoadKit.slotOf Z ST "value" "[B" → RoadKit.slotOf Z O n d ≠ RoadKit.slotOf Z ST "coder" "B" → RoadKit.Fld Z h' x O n d w
/-- **new String(chars) AT A CALL, IN THE ROAD'S FORM**: for specialBack behind newO: x the fresh String, b the char[] with the cell A -/
theorem back {p : Program} {l : Launch} {e : Env} {R : Room} {s : State} {args : Array Value} {below : List Frame} {len W : Nat} {Z : State} {a0 : Array Value} {h : Heap} (hZ : Z.Warmed39 s.vm) (hw : ∀ d ∈ words, d.before a0 Z = true) {kI : Nat} (wi : (Jvm.Cond.instantiable ST kI).before a0 Z = true)
    {x b : Addr} {A : Cell} {z : Int32} {v0 c0 : Value} (E : RoadKit.Exa Z h x ST) (V : RoadKit.Fld Z h x ST "value" "[B" v0) (C : RoadKit.Fld Z h x ST "coder" "B" c0) (K : RoadKit.Arr Z h b A .char) (hty : Typed .char A) (S : RoadKit.Sta Z h ST "COMPACT_STRINGS" "Z" (.int z)) (hz : ¬ z = 0)
    (l0 : 0 < A.slots.size) (l2 : A.slots.size ≤ 536870912) (hp : ∀ i, i < A.slots.size → ¬ 255 < cv A i) (hfr : 4 ≤ R.frames) (hlo : W + 65 ≤ R.locals) :
    Back l R p e below s args New1.yN len W (fun P a => a = #[.ref x, .ref b] ∧ P.U.heap = h ∧ P.cells + 1 ≤ R.cells ∧ P.slots + A.slots.size ≤ R.slots)
      (fun P _ v B => ∃ L, Q Z x A h v B.U.heap L ∧ B.locs = P.locs ++ L ∧ B.cells = P.cells + 1 ∧ B.slots = P.slots + A.slots.size) := by
  intro m meth c P g ig mk a X hg hsize hdg hW hn hp'
  obtain ⟨rfl, rfl, r1, r2⟩ := hp'
  have al : Z.vm.Alike P.U.vm := hZ.alike.trans X.warmed.alike
  obtain ⟨D, cfV, kV, iV, fV, hD, gV, stV, knV, obV, asV, slV⟩ := id V
  obtain ⟨D', cfC, kC, iC, fC, hD', gC, stC, -, -, asC, slC⟩ := id C
  cases hD.symm.trans hD'
  obtain ⟨D2, kD, e1, e2, e3, e4, e5⟩ := id E
  cases hD.symm.trans e1
  obtain ⟨c2, k2, i1, i2, i3, -⟩ := Cond.instantiable_spec wi
  cases e2.symm.trans i1
  cases e3.symm.trans i2
  obtain ⟨kU, u1, u2⟩ := al.2.2 _ _ e3
  have hB : Blank ST x D P.U := ⟨hD, ⟨knV, fun q hq => by rw [hq] at obV; cases obV⟩, by rw [al.findClass]; exact e2, kU, u1, by rw [u2]; exact i3, by rw [u2]; exact e5 i3⟩
  have F1 : Found ST "value" "[B" fV P.U := ⟨SBG.found_only al ⟨cfV, kV, iV, gV⟩, stV⟩
  have F2 : Found ST "coder" "B" fC P.U := ⟨SBG.found_only al ⟨cfC, kC, iC, gC⟩, stC⟩
  have hA : Ch b A P.U := ⟨⟨K.1, State.isArrayOf_alike al K.2.1, K.2.2, by omega⟩, hty⟩
  have hS : StaticIs P.U ST "COMPACT_STRINGS" "Z" (.int z) := by
    obtain ⟨cfS, iS, kS, fS, st, cS, t1, t2, t3, t4, t5, t6, t7⟩ := S
    exact StaticIs.there (s := { Z with heap := P.U.heap }) ⟨cfS, iS, kS, fS, st, cS, t1, t2, t3, t4, t5, (fun q => by rw [q] at t6; cases t6), t7⟩ al rfl
  obtain ⟨v, B, X', ⟨⟨hv, E', V', q1, q2, q3, q4, q5, q6, q7, q8, q9, q10, q11⟩, hl, hc, hs⟩, st⟩ := New1.pays x D fV fC b A z (tab_of (moved hZ hw)) hfr hlo m meth c P g ig mk _ X hg hsize hdg hW hn ⟨r1, r2, rfl, hB, F1, F2, hA, hS, hz, l0, l2, hp⟩
  have al' : Z.vm.Alike B.U.vm := hZ.alike.trans X'.warmed.alike
  have hsz : E'.slots.size = D.slots.size := by
    obtain ⟨-, -, -, kB, w1, w2, w3⟩ := q1
    obtain ⟨kB', y1, y2⟩ := al'.2.2 _ _ e3
    rw [q2.2.1] at w1
    cases w1.symm.trans y1
    rw [w3, e5 i3, y2]
  refine ⟨v, B, X', ⟨_, ⟨hv, ?_, ⟨by omega, fun y cy hy hn' => q10 y cy (by simpa using hn') hy, fun y cy hy => ?_⟩, q11, ⟨E', _, q1.1, by rw [q2.2.1]; exact e2, by rw [q2.2.1]; exact e3, by rw [q2.1]; exact obV, fun _ => by rw [hsz]; exact e5 i3⟩,
    ⟨E', cfV, kV, iV, fV, q1.1, gV, stV, by rw [q2.1]; exact knV, by rw [q2.1]; exact obV, by rw [q2.2.1]; exact asV, q3⟩, ⟨E', cfC, kC, iC, fC, q1.1, gC, stC, by rw [q2.1]; exact knV, by rw [q2.1]; exact obV, by rw [q2.2.1]; exact asC, q4⟩,
    ⟨V', ⟨q5.1, State.isArrayOf_alike al'.symm q5.2.1, q5.2.2.1⟩, q6, by rw [← al'.findClass]; exact q7, q8, fun j hj => by have := q9 j hj; rwa [Nat.zero_add] at this⟩, fun O n d w F n1 n2 => ?_⟩, hl, hc, hs⟩, st⟩
  · intro y hy
    simp only [List.mem_cons, List.not_mem_nil, or_false] at hy
    rcases hy with rfl | rfl <;> rfl
  · by_cases q : y = x
    · subst q
      cases hD.symm.trans hy
      exact ⟨E', q1.1, q2.2.1, q2.1, hsz⟩
    · exact ⟨cy, q10 y cy q hy, rfl, rfl, rfl⟩
  · obtain ⟨D3, cf, k, i, f, g1, g2, g3, g4, g5, g6, g7⟩ := F
    cases hD.symm.trans g1
    simp only [RoadKit.slotOf, g2, gV, gC, Option.map_some, Option.getD_some] at n1 n2
    exact ⟨E', cf, k, i, f, q1.1, g2, g3, by rw [q2.1]; exact g4, by rw [q2.1]; exact g5, by rw [q2.2.1]; exact g6, by rw [q2.2.2 f.slot (by simp [n1, n2])]; exact g7⟩
end StrChars.Road
namespace StrChars.Road
open Jvm Sem ClassFile Op Lib Jvm.Stand Jvm.Free Jvm.Free.XT
/-- WHAT COMES BACK, the byte[] as a list of values -/
def QA (Z : State) (x : Addr) (zn : Int32) (cs : List Int32) (h : Heap) (v : Option Value) (h' : Heap) (L : List Loc) : Prop := v = none ∧ (∀ y ∈ L, y.base = x) ∧ RoadKit.Keep h h' [x] ∧ h'.size = h.size + 1 ∧ RoadKit.Exa Z h' x ST ∧ RoadKit.Fld Z h' x ST "value" "[B" (.ref h.size) ∧ RoadKit.Fld Z h' x ST "coder" "B" (.int 0) ∧
  (∃ kb, Z.vm.findClass "[B" = some kb ∧ RoadKit.Arv Z h' h.size kb .byte zn (cs.map fun c => .int (lo8 c)) (.int 0)) ∧
  ∀ (O n d : String) (w : Value), RoadKit.Fld Z h x O n d w → RoadKit.slotOf Z O n d ≠ RoadKit.slotOf Z ST "value" "[B" → RoadKit.slotOf Z O n d ≠ RoadKit.slotOf Z ST "coder" "B" → RoadKit.Fld Z h' x O n d w
/-- **new String(chars) AT A CALL, THE ARRAYS AS LISTS**: the char[] at b holds cs, not empty, no char above 255 -/
theorem backArv {p : Program} {l : Launch} {e : Env} {R : Room} {s : State} {args : Array Value} {below : List Frame} {len W : Nat} {Z : State} {a0 : Array Value} {h : Heap} (hZ : Z.Warmed39 s.vm) (hw : ∀ d ∈ words, d.before a0 Z = true) {kI : Nat} (wi : (Jvm.Cond.instantiable ST kI).before a0 Z = true)
    {x b : Addr} {k : ClassId} {zn z : Int32} {cs : List Int32} {dv v0 c0 : Value} (E : RoadKit.Exa Z h x ST) (V : RoadKit.Fld Z h x ST "value" "[B" v0) (C : RoadKit.Fld Z h x ST "coder" "B" c0) (K : RoadKit.Arv Z h b k .char zn (cs.map Value.int) dv) (S : RoadKit.Sta Z h ST "COMPACT_STRINGS" "Z" (.int z)) (hz : ¬ z = 0)
    (hlen : zn.toNatClampNeg = cs.length) (h0 : 0 < cs.length) (hbig : cs.length ≤ 536870912) (hall : ∀ c ∈ cs, ¬ 255 < c) (hfr : 4 ≤ R.frames) (hlo : W + 65 ≤ R.locals) :
    Back l R p e below s args New1.yN len W (fun P a => a = #[.ref x, .ref b] ∧ P.U.heap = h ∧ P.cells + 1 ≤ R.cells ∧ P.slots + cs.length ≤ R.slots)
      (fun P _ v B => ∃ L, QA Z x zn cs h v B.U.heap L ∧ B.locs = P.locs ++ L ∧ B.cells = P.cells + 1 ∧ B.slots = P.slots + cs.length) := by
  obtain ⟨A, K1, K2, K3, K4, K5, K6⟩ := K
  have e : A.slots.size = cs.length := K3.trans hlen
  have hat : ∀ (i : Nat) (hi : i < cs.length), A.slots[i]? = some (.int cs[i]) := fun i hi => by rw [K5 i (by omega)]; simp [List.getD_eq_getElem?_getD, hi]
  have hcv : ∀ (i : Nat) (hi : i < cs.length), cv A i = cs[i] := fun i hi => by unfold cv; rw [hat i hi]
  have hty : Typed .char A := fun i v hv => by
    have hi : i < A.slots.size := (Array.getElem?_eq_some_iff.mp hv).1
    have q := K5 i hi
    rw [hv] at q
    rw [Option.some.inj q]
    exact K6 i hi
  refine Back.mono (back hZ hw wi E V C K1 hty S hz (by omega) (by omega) (fun i hi => by rw [hcv i (by omega)]; exact hall _ (List.getElem_mem _)) hfr hlo) (fun P a hp => ⟨hp.1, hp.2.1, hp.2.2.1, by rw [e]; exact hp.2.2.2⟩) (fun P a v B hp hq => ?_)
  obtain ⟨L, ⟨q1, q2, q3, q4, q5, q6, q7, ⟨V', v1, v2, v3, v4, v5⟩, q9⟩, hl, hc, hs⟩ := hq
  refine ⟨L, ⟨q1, q2, q3, q4, q5, q6, q7, ⟨V'.cls, v3, V', v1, rfl, by rw [v4, e, hlen], K4, fun i hi => ?_, fun i hi => ?_⟩, q9⟩, hl, hc, by rw [hs, e]⟩
  · have hi' : i < cs.length := by omega
    rw [v5 i (by omega), hcv i hi']; simp [List.getD_eq_getElem?_getD, hi']
  · have hi' : i < cs.length := by omega
    simp only [List.getD_eq_getElem?_getD, List.getElem?_map, List.getElem?_eq_getElem hi', Option.map_some, Option.getD_some]
    exact fits_lo8 _
end StrChars.Road
namespace StrChars.Road
open Jvm Sem ClassFile Op Lib Jvm.Stand Jvm.Free Jvm.Free.XT
/-- WHAT COMES BACK, in the writer's own shape -/
def QV (Z : State) (x : Addr) (N : Int32) (bs : List Int32) (h : Heap) (n0 : Nat) (v : Option Value) (h' : Heap) (L : List Loc) : Prop := v = none ∧ RoadKit.Fr n0 L ∧ RoadKit.Keep h h' [x] ∧ RoadKit.Exa Z h' x ST ∧ RoadKit.Fld Z h' x ST "coder" "B" (.int 0) ∧
  ∃ (t : Addr) (kb : ClassId), n0 ≤ t ∧ h.size ≤ t ∧ ¬ t = x ∧ RoadKit.Fld Z h' x ST "value" "[B" (.ref t) ∧ RoadKit.Arv Z h' t kb .byte N (bs.map Value.int) (.int 0)
/-- **new String(chars) AT A CALL, FOR THE WRITER**: a char[] of n known ints, each 0 to 255 -/
theorem backV {p : Program} {l : Launch} {e : Env} {R : Room} {s : State} {args : Array Value} {below : List Frame} {len W : Nat} {Z : State} {a0 : Array Value} {h : Heap} (hZ : Z.Warmed39 s.vm) (hw : ∀ d ∈ words, d.before a0 Z = true) {kI : Nat} (wi : (Jvm.Cond.instantiable ST kI).before a0 Z = true)
    {x b : Addr} {kC : ClassId} {cs bs : List Int32} {d v0 c0 : Value} {z N : Int32} {n n0 : Nat} (hx0 : n0 ≤ x) (hh0 : n0 ≤ h.size) (E : RoadKit.Exa Z h x ST) (V : RoadKit.Fld Z h x ST "value" "[B" v0) (C : RoadKit.Fld Z h x ST "coder" "B" c0) (K : RoadKit.Arv Z h b kC .char N (cs.map Value.int) d) (S : RoadKit.Sta Z h ST "COMPACT_STRINGS" "Z" (.int z)) (hz : ¬ z = 0)
    (hn : cs.length = n) (hN : N = Int32.ofNat n) (l0 : 0 < n) (l2 : n ≤ 4000) (hp : ∀ c ∈ cs, ¬ c < 0 ∧ ¬ (255 : Int32) < c) (hb : bs = cs.map (fun c => c.toInt8.toInt32)) (hfr : 4 ≤ R.frames) (hlo : W + 65 ≤ R.locals) :
    Back l R p e below s args (⟨"java/lang/String", "<init>", "([C)V"⟩ : MethodName) len W (fun P a => a = #[.ref x, .ref b] ∧ P.U.heap = h ∧ P.cells + 1 ≤ R.cells ∧ P.slots + n ≤ R.slots)
      (fun P _ v B => ∃ L, QV Z x N bs h n0 v B.U.heap L ∧ B.locs = P.locs ++ L ∧ B.cells = P.cells + 1 ∧ B.slots = P.slots + n) := by
  subst hn hN hb
  refine Back.mono (backArv hZ hw wi E V C K S hz (n32 (by omega)) l0 (by omega) (fun c hc => (hp c hc).2) hfr hlo) (fun P a hp => hp) (fun P a v B hp hq => ?_)
  obtain ⟨L, ⟨q1, q2, q3, q4, q5, q6, q7, ⟨kb, v1, v2⟩, q9⟩, hl, hc, hs⟩ := hq
  exact ⟨L, ⟨q1, fun y hy => by rw [q2 y hy]; exact hx0, q3, q5, q7, h.size, kb, hh0, Nat.le_refl _, Nat.ne_of_gt E.lt, q6, by rw [List.map_map]; exact v2⟩, hl, hc, hs⟩
end StrChars.Road
namespace StrChars
open Jvm Sem ClassFile Op Lib Jvm.Stand Jvm.Free.XT Jvm.Free.ALB Jvm.Free.JM Jvm.Free
open Jvm.Lib.Cold (StaticIs)
def hi8 (x : Int32) : Int32 := lo8 (x >>> ((8 : Int32) &&& 31))
end StrChars
namespace StrChars.Road
open Jvm Sem ClassFile Op Lib Jvm.Stand Jvm.Free Jvm.Free.XT
open Jvm.Lib.Cold (StaticIs)
/-- the bytes of the chars cs, low before high -/
def wideBytes : List Int32 → List Value
  | [] => []
  | c :: cs => .int (lo8 c) :: .int (hi8 c) :: wideBytes cs
/-- an array of N2 bytes vs codes the chars cs by the coder cd -/
def CodA (cs : List Int32) (cd N2 : Int32) (vs : List Value) : Prop := (cd = 0 ∧ N2 = Int32.ofNat cs.length ∧ vs = (cs.map fun c => Value.int (lo8 c)) ∧ ∀ c ∈ cs, ¬ 255 < c) ∨ (cd = 1 ∧ N2 = Int32.ofNat (2 * cs.length) ∧ vs = wideBytes cs ∧ ∃ c ∈ cs, 255 < c)
end StrChars.Road
namespace StrChars.Road
open Jvm Sem ClassFile Op Lib Jvm.Stand Jvm.Free Jvm.Free.XT
open Jvm.Lib.Cold (StaticIs)
/-- what backV says of its String, as the contracts of this text ask it: cs's low bytes, coder 0 -/
theorem codOf {cs : List Int32} {n : Nat} (hn : cs.length = n) (hb : ∀ c ∈ cs, ¬ 255 < c) : CodA cs 0 (Int32.ofNat n) ((cs.map lo8).map Value.int) := Or.inl ⟨rfl, by rw [hn], by simp [List.map_map, Function.comp_def], hb⟩
end StrChars.Road
end Jvm.Pilot.@@N@@
namespace Jvm.Pilot.@@N@@
open Jvm Jvm.ClassFile Sem Op Lib Jvm.Free Jvm.Stand Jvm.LawKit Jvm.RoadKit Bundle Jvm.Pilot.@@N@@.Jvm.D
section OwnKit
variable {p : Program} {l : Launch} {e : Env} {R : Room} {s : State} {m : MethodId} {args : Array Value} {below : List Frame} {meth : Method} {c : Code} {T T' : State} {cells slots : Nat} {Z : State} {a0 : Array Value} {EL : List (String × Nat)} {vm0 : Vm} {h h' : Heap} {own : String} {n0 : Nat} {Q : Outcome → State → Prop} {g g' : JFrame}
/-- from this frame the run comes to an end of which Q holds -/
def Go (p : Program) (e : Env) (below : List Frame) (Q : Outcome → State → Prop) (T : State) (g : JFrame) : Prop :=
  ∃ s₂ o, Steps p.tables e below (T.setTop g) s₂ ∧ s₂.status = .running ∧ Ended s₂ below o ∧ Q o s₂
theorem Go.st (st : ∀ t, Steps p.tables e below (T'.setTop g') t → Steps p.tables e below (T.setTop g) t) (k : Go p e below Q T' g') : Go p e below Q T g := by
  obtain ⟨s₂, o, h1, h2⟩ := k
  exact ⟨s₂, o, st _ h1, h2⟩
theorem Go.tr (st : Steps p.tables e below (T.setTop g) (T'.setTop g')) (k : Go p e below Q T' g') : Go p e below Q T g := by
  obtain ⟨s₂, o, h1, h2⟩ := k
  exact ⟨s₂, o, st.trans h1, h2⟩
theorem own_ne {x y : Nat} (h : ¬ @Eq Nat x y) : @Ne Addr x y := h
theorem own_nn {x y : Addr} (h : x ≠ y) : ¬ @Eq Nat x y := h
theorem own_cat {v : Value} (h : v.isRef = true) : v.category = 1 := by cases v <;> simp [Value.isRef] at h <;> rfl
theorem own_catI (x : Int32) : (Value.int x).category = 1 := rfl
theorem own_catJ (x : Int64) : (Value.long x).category = 2 := rfl
theorem own_catD (x : UInt64) : (Value.double x).category = 2 := rfl
theorem own_catA (x : Addr) : (Value.ref x).category = 1 := rfl
theorem own_catN : Value.null.category = 1 := rfl
theorem own_safe0 {vm : Vm} {x : Addr} (hE : EL = []) : Safe Z EL vm h x := fun B => by
  obtain ⟨q, hq, -⟩ := B
  rw [hE] at hq; cases hq
/-- where the walk stands -/
def Wk (p : Program) (l : Launch) (e : Env) (R : Room) (s : State) (m : MethodId) (args : Array Value) (below : List Frame) (meth : Method) (c : Code) (Z : State) (EL : List (String × Nat)) (own : String) (n0 : Nat) (vm0 : Vm) (T : State) (h : Heap) (cells slots : Nat) : Prop :=
  ∃ (locs : List Loc) (k0 : Nat), Stand p l e R (s.setVm vm0) m args below meth c T locs cells slots ∧ T.heap = h ∧ s.Since vm0 k0 ∧ k0 ≤ h.size ∧ Z.Warmed39 vm0 ∧ vm0.findClass own = some m.cls ∧ CHr Z EL s.vm s.heap vm0 h ∧ Fr n0 locs ∧ Old Z n0 h ∧ (vm0.MethodsKnown ∧ vm0.FramesKnown below)
theorem Wk.here (W : Wk p l e R s m args below meth c Z EL own n0 vm0 T h cells slots) : At T m c below := by
  obtain ⟨locs, k0, X, eT, hS, hk, hZ, hown, hC, N, O, hKK⟩ := W
  exact X.here
theorem Wk.warm (W : Wk p l e R s m args below meth c Z EL own n0 vm0 T h cells slots) : Z.Warmed39 vm0 := by
  obtain ⟨locs, k0, X, eT, hS, hk, hZ, hown, hC, N, O, hKK⟩ := W
  exact hZ
theorem Wk.warmS (W : Wk p l e R s m args below meth c Z EL own n0 vm0 T h cells slots) : Z.Warmed39 (s.setVm vm0).vm := by
  obtain ⟨locs, k0, X, eT, hS, hk, hZ, hown, hC, N, O, hKK⟩ := W
  exact hZ
theorem Wk.old (W : Wk p l e R s m args below meth c Z EL own n0 vm0 T h cells slots) : Old Z n0 h := by
  obtain ⟨locs, k0, X, eT, hS, hk, hZ, hown, hC, N, O, hKK⟩ := W
  exact O
theorem Wk.ge (W : Wk p l e R s m args below meth c Z EL own n0 vm0 T h cells slots) : n0 ≤ h.size := by have q := W.old; exact q.1 ▸ q.2.1
theorem Wk.stand (W : Wk p l e R s m args below meth c Z EL own n0 vm0 T h cells slots) : ∃ locs, Stand p l e R (s.setVm vm0) m args below meth c T locs cells slots := by
  obtain ⟨locs, k0, X, eT, hS, hk, hZ, hown, hC, N, O, hKK⟩ := W
  exact ⟨_, X⟩
theorem Wk.heap (W : Wk p l e R s m args below meth c Z EL own n0 vm0 T h cells slots) : T.heap = h := by
  obtain ⟨locs, k0, X, eT, hS, hk, hZ, hown, hC, N, O, hKK⟩ := W
  exact eT
theorem Wk.owns (W : Wk p l e R s m args below meth c Z EL own n0 vm0 T h cells slots) : (s.setVm vm0).vm.findClass own = some m.cls := by
  obtain ⟨locs, k0, X, eT, hS, hk, hZ, hown, hC, N, O, hKK⟩ := W
  exact hown
theorem Wk.chv (W : Wk p l e R s m args below meth c Z EL own n0 vm0 T h cells slots) : CHv Z EL vm0 h := by
  obtain ⟨locs, k0, X, eT, hS, hk, hZ, hown, hC, N, O, hKK⟩ := W
  exact hC.1
theorem Wk.known (W : Wk p l e R s m args below meth c Z EL own n0 vm0 T h cells slots) : vm0.MethodsKnown ∧ vm0.FramesKnown below := by
  obtain ⟨locs, k0, X, eT, hS, hk, hZ, hown, hC, N, O, hKK⟩ := W
  exact hKK
theorem Wk.sta {C n d : String} {v : Value} (W : Wk p l e R s m args below meth c Z EL own n0 vm0 T h cells slots) (S : Sta Z Z.heap C n d v) : Sta Z h C n d v := S.ext W.old.2
theorem Wk.safeArv {x : Addr} {k : ClassId} {ty : FieldType} {z : Int32} {vs : List Value} {d : Value} (W : Wk p l e R s m args below meth c Z EL own n0 vm0 T h cells slots) (A : Arv Z h x k ty z vs d) (ht : ty ≠ .byte) : Safe Z EL vm0 h x := Safe.arv W.warm.alike A ht
theorem Wk.safeExa {x : Addr} {C : String} (W : Wk p l e R s m args below meth c Z EL own n0 vm0 T h cells slots) (E : Exa Z h x C) (h1 : C ≠ "java/lang/String") (h2 : C ≠ "[B") : Safe Z EL vm0 h x := Safe.exa W.warm.alike E h1 h2
theorem Wk.more {cells' slots' : Nat} (W : Wk p l e R s m args below meth c Z EL own n0 vm0 T h cells slots) (h1 : cells ≤ cells') (h2 : slots ≤ slots') : Wk p l e R s m args below meth c Z EL own n0 vm0 T h cells' slots' := by
  obtain ⟨locs, r⟩ := W
  obtain ⟨k0, X, r⟩ := r
  exact ⟨locs, k0, X.more h1 h2, r⟩
theorem Wk.newO (W : Wk p l e R s m args below meth c Z EL own n0 vm0 T h cells slots) (hx : p.tables.exec = Jvm.exec) {C : String} {index n : Nat} (w : (Cond.classLink own index C).before a0 Z = true) (wi : (Cond.instantiable C n).before a0 Z = true) (wz : (Cond.initialized C).before a0 Z = true)
    (hg : g.method = m) (hd : decode c.code g.pc = .ok (.new index, 3)) (hc : cells + 1 ≤ R.cells) (hl : slots + n ≤ R.slots) :
    ∃ T' h' a, a = h.size ∧ Wk p l e R s m args below meth c Z EL own n0 vm0 T' h' (cells + 1) (slots + n) ∧ Ext h h' ∧ h.size < h'.size ∧ Exa Z h' a C ∧ (∀ {O nm d : String} {ty : FieldType}, Laid Z a0 C O nm d → parseFieldDescriptor d = some ty → Fld Z h' a O nm d (defaultValue ty)) ∧ Safe Z EL vm0 h' a ∧ (∀ x, x < h.size → Safe Z EL vm0 h x → Safe Z EL vm0 h' x) ∧ (∃ cell : Cell, h'[a]? = some cell ∧ cell.vm = .none ∧ cell.monitor = {}) ∧
      ∀ target, Steps p.tables e below (T'.setTop { g with pc := g.pc + 3, stack := .ref a :: g.stack }) target → Steps p.tables e below (T.setTop g) target := by
  obtain ⟨locs, k0, X, eT, hS, hk, hZ, hown, hC, N, O, hKK⟩ := W
  obtain ⟨T', h', X', e', E, A, D, U, st⟩ := RoadKit.newO X hx hZ hown w wi wz eT hg hd hc hl
  exact ⟨T', h', h.size, rfl, ⟨_, k0, X', e', hS, Nat.le_trans hk E.1, hZ, hown, hC.trans (CHr.ext E hC.1), N, O.ext E, hKK⟩, E, A.lt, A, D, Safe.ext E hC.1 (Safe.new (Nat.le_refl _)), fun x _ q => Safe.ext E hC.1 q, U, st⟩
theorem Wk.newP (W : Wk p l e R s m args below meth c Z EL own n0 vm0 T h cells slots) (hx : p.tables.exec = Jvm.exec) {aty : ArrayType} {ty : FieldType} (hty : newarray.typeOf aty = ty) (w : (Cond.arrayClass ty).before a0 Z = true)
    (hg : g.method = m) (hd : decode c.code g.pc = .ok (.newarray aty, 2)) {n : Int32} {rest : List Value} (hs : g.stack = .int n :: rest) (hn : ¬ n < 0) {cap : Nat} (hcap : n.toNatClampNeg ≤ cap) (hb : cap * 8 ≤ 536870912) (hc : cells + 1 ≤ R.cells) (hl : slots + cap ≤ R.slots) (NN : Nat) :
    ∃ T' h' a k, a = h.size ∧ Wk p l e R s m args below meth c Z EL own n0 vm0 T' h' (cells + 1) (slots + cap) ∧ Ext h h' ∧ h.size < h'.size ∧ Arv Z h' a k ty n (List.replicate NN (defaultValue ty)) (defaultValue ty) ∧ Safe Z EL vm0 h' a ∧ (∀ x, x < h.size → Safe Z EL vm0 h x → Safe Z EL vm0 h' x) ∧
      ∀ target, Steps p.tables e below (T'.setTop { g with pc := g.pc + 2, stack := .ref a :: rest }) target → Steps p.tables e below (T.setTop g) target := by
  subst hty
  obtain ⟨locs, k0, X, eT, hS, hk, hZ, hown, hC, N, O, hKK⟩ := W
  obtain ⟨T', h', cA, X', e', E, A, st⟩ := RoadKit.newP X hx hZ w eT hg hd hs hn hcap hb hc hl
  exact ⟨T', h', h.size, cA, rfl, ⟨_, k0, X', e', hS, Nat.le_trans hk E.1, hZ, hown, hC.trans (CHr.ext E hC.1), N, O.ext E, hKK⟩, E, A.lt, (Arv.new A hn).pad (pad_rep [] _ NN), Safe.ext E hC.1 (Safe.new (Nat.le_refl _)), fun x _ q => Safe.ext E hC.1 q, st⟩
theorem Wk.stC (W : Wk p l e R s m args below meth c Z EL own n0 vm0 T h cells slots) (hx : p.tables.exec = Jvm.exec) {a : Addr} {k : ClassId} {z j : Int32} {x : Int32} {vs : List Value} {d : Value} (A : Arv Z h a k .char z vs d) (hj : ¬ j < 0 ∧ j < z) (i : Nat) (hi : j.toNatClampNeg = i) (hlen : i < vs.length) (ha : n0 ≤ a)
    (hg : g.method = m) {rest : List Value} (hs : g.stack = .int x :: .int j :: .ref a :: rest) (hd : decode c.code g.pc = .ok (.castore, 1)) :
    ∃ T' h', Wk p l e R s m args below meth c Z EL own n0 vm0 T' h' cells slots ∧ Wr h h' a i (.int (nar .char x)) ∧ h'.size = h.size ∧ Arv Z h' a k .char z (vs.set i (.int (nar .char x))) d ∧ (∀ x, x < h.size → Safe Z EL vm0 h x → Safe Z EL vm0 h' x) ∧
      ∀ target, Steps p.tables e below (T'.setTop { g with pc := g.pc + 1, stack := rest }) target → Steps p.tables e below (T.setTop g) target := by
  have S := W.safeArv A (by decide)
  obtain ⟨locs, k0, X, eT, hS, hk, hZ, hown, hC, N, O, hKK⟩ := W
  obtain ⟨cl, A1, q1, q2, q3, q4, q5⟩ := A
  obtain ⟨T', h', X', e', Wr', st⟩ := RoadKit.stC X hx hZ eT A1 (inb_of q2 hj) hg hs hd
  have Wr2 := Wr'
  rw [hi] at Wr2
  exact ⟨T', h', ⟨_, k0, X', e', hS, (by rw [Wr'.size]; exact hk), hZ, hown, hC.trans (CHr.wr Wr' S hC.1), Fr.snoc X' N ha, O.wr Wr' ha, hKK⟩, Wr2, Wr'.size, Arv.set A1 q1 q2 q3 q4 q5 (fits_nar_char _) Wr' i hi hlen, fun x _ q => Safe.wr Wr' S hC.1 q, st⟩
theorem Wk.stB (W : Wk p l e R s m args below meth c Z EL own n0 vm0 T h cells slots) (hx : p.tables.exec = Jvm.exec) {a : Addr} {k : ClassId} {z j : Int32} {x : Int32} {vs : List Value} {d : Value} (A : Arv Z h a k .byte z vs d) (S : Safe Z EL vm0 h a) (hj : ¬ j < 0 ∧ j < z) (i : Nat) (hi : j.toNatClampNeg = i) (hlen : i < vs.length) (ha : n0 ≤ a)
    (hg : g.method = m) {rest : List Value} (hs : g.stack = .int x :: .int j :: .ref a :: rest) (hd : decode c.code g.pc = .ok (.bastore, 1)) :
    ∃ T' h', Wk p l e R s m args below meth c Z EL own n0 vm0 T' h' cells slots ∧ Wr h h' a i (.int (nar .byte x)) ∧ h'.size = h.size ∧ Arv Z h' a k .byte z (vs.set i (.int (nar .byte x))) d ∧ (∀ x, x < h.size → Safe Z EL vm0 h x → Safe Z EL vm0 h' x) ∧
      ∀ target, Steps p.tables e below (T'.setTop { g with pc := g.pc + 1, stack := rest }) target → Steps p.tables e below (T.setTop g) target := by
  obtain ⟨locs, k0, X, eT, hS, hk, hZ, hown, hC, N, O, hKK⟩ := W
  obtain ⟨cl, A1, q1, q2, q3, q4, q5⟩ := A
  obtain ⟨T', h', X', e', Wr', st⟩ := RoadKit.stB X hx hZ eT A1 (inb_of q2 hj) hg hs hd
  have Wr2 := Wr'
  rw [hi] at Wr2
  exact ⟨T', h', ⟨_, k0, X', e', hS, (by rw [Wr'.size]; exact hk), hZ, hown, hC.trans (CHr.wr Wr' S hC.1), Fr.snoc X' N ha, O.wr Wr' ha, hKK⟩, Wr2, Wr'.size, Arv.set A1 q1 q2 q3 q4 q5 (fits_nar_byte _) Wr' i hi hlen, fun x _ q => Safe.wr Wr' S hC.1 q, st⟩
theorem Wk.stI (W : Wk p l e R s m args below meth c Z EL own n0 vm0 T h cells slots) (hx : p.tables.exec = Jvm.exec) {a : Addr} {k : ClassId} {z j : Int32} {x : Int32} {vs : List Value} {d : Value} (A : Arv Z h a k .int z vs d) (hj : ¬ j < 0 ∧ j < z) (i : Nat) (hi : j.toNatClampNeg = i) (hlen : i < vs.length) (ha : n0 ≤ a)
    (hg : g.method = m) {rest : List Value} (hs : g.stack = .int x :: .int j :: .ref a :: rest) (hd : decode c.code g.pc = .ok (.iastore, 1)) :
    ∃ T' h', Wk p l e R s m args below meth c Z EL own n0 vm0 T' h' cells slots ∧ Wr h h' a i (.int x) ∧ h'.size = h.size ∧ Arv Z h' a k .int z (vs.set i (.int x)) d ∧ (∀ x, x < h.size → Safe Z EL vm0 h x → Safe Z EL vm0 h' x) ∧
      ∀ target, Steps p.tables e below (T'.setTop { g with pc := g.pc + 1, stack := rest }) target → Steps p.tables e below (T.setTop g) target := by
  have S := W.safeArv A (by decide)
  obtain ⟨locs, k0, X, eT, hS, hk, hZ, hown, hC, N, O, hKK⟩ := W
  obtain ⟨cl, A1, q1, q2, q3, q4, q5⟩ := A
  obtain ⟨T', h', X', e', Wr', st⟩ := RoadKit.stI X hx hZ eT A1 (inb_of q2 hj) hg hs hd
  have Wr2 := Wr'
  rw [hi] at Wr2
  exact ⟨T', h', ⟨_, k0, X', e', hS, (by rw [Wr'.size]; exact hk), hZ, hown, hC.trans (CHr.wr Wr' S hC.1), Fr.snoc X' N ha, O.wr Wr' ha, hKK⟩, Wr2, Wr'.size, Arv.set A1 q1 q2 q3 q4 q5 rfl Wr' i hi hlen, fun x _ q => Safe.wr Wr' S hC.1 q, st⟩
theorem Wk.stJ (W : Wk p l e R s m args below meth c Z EL own n0 vm0 T h cells slots) (hx : p.tables.exec = Jvm.exec) {a : Addr} {k : ClassId} {z j : Int32} {x : Int64} {vs : List Value} {d : Value} (A : Arv Z h a k .long z vs d) (hj : ¬ j < 0 ∧ j < z) (i : Nat) (hi : j.toNatClampNeg = i) (hlen : i < vs.length) (ha : n0 ≤ a)
    (hg : g.method = m) {rest : List Value} (hs : g.stack = .long x :: .int j :: .ref a :: rest) (hd : decode c.code g.pc = .ok (.lastore, 1)) :
    ∃ T' h', Wk p l e R s m args below meth c Z EL own n0 vm0 T' h' cells slots ∧ Wr h h' a i (.long x) ∧ h'.size = h.size ∧ Arv Z h' a k .long z (vs.set i (.long x)) d ∧ (∀ x, x < h.size → Safe Z EL vm0 h x → Safe Z EL vm0 h' x) ∧
      ∀ target, Steps p.tables e below (T'.setTop { g with pc := g.pc + 1, stack := rest }) target → Steps p.tables e below (T.setTop g) target := by
  have S := W.safeArv A (by decide)
  obtain ⟨locs, k0, X, eT, hS, hk, hZ, hown, hC, N, O, hKK⟩ := W
  obtain ⟨cl, A1, q1, q2, q3, q4, q5⟩ := A
  obtain ⟨T', h', X', e', Wr', st⟩ := RoadKit.stJ X hx hZ eT A1 (inb_of q2 hj) hg hs hd
  have Wr2 := Wr'
  rw [hi] at Wr2
  exact ⟨T', h', ⟨_, k0, X', e', hS, (by rw [Wr'.size]; exact hk), hZ, hown, hC.trans (CHr.wr Wr' S hC.1), Fr.snoc X' N ha, O.wr Wr' ha, hKK⟩, Wr2, Wr'.size, Arv.set A1 q1 q2 q3 q4 q5 rfl Wr' i hi hlen, fun x _ q => Safe.wr Wr' S hC.1 q, st⟩
theorem Wk.putF (W : Wk p l e R s m args below meth c Z EL own n0 vm0 T h cells slots) (hx : p.tables.exec = Jvm.exec) {R0 O n d C : String} {index kk : Nat} {ty : FieldType} (w : (Cond.fieldLink own index R0 n d).before a0 Z = true) (via : Via Z R0 O n d)
    {a : Addr} {v old : Value} (F : Fld Z h a O n d old) (E : Exa Z h a C) (L : (Cond.lays C O n d).before a0 Z = true ∨ ((Cond.laysFinal C O n d).before a0 Z = true ∧ own = O ∧ meth.name = "<init>")) (wi : (Cond.instantiable C kk).before a0 Z = true)
    (hty : parseFieldDescriptor d = some ty) (hn : narrow ty v = v) (hf : fits ty v = true) (S : Safe Z EL vm0 h a) (ha : n0 ≤ a) (hg : g.method = m) {rest : List Value} (hs : g.stack = v :: .ref a :: rest) (hd : decode c.code g.pc = .ok (.putfield index, 3)) :
    ∃ T' h', Wk p l e R s m args below meth c Z EL own n0 vm0 T' h' cells slots ∧ Wr h h' a (RoadKit.slotOf Z O n d) v ∧ h'.size = h.size ∧ Fld Z h' a O n d v ∧ (∀ x, x < h.size → Safe Z EL vm0 h x → Safe Z EL vm0 h' x) ∧
      ∀ target, Steps p.tables e below (T'.setTop { g with pc := g.pc + 3, stack := rest }) target → Steps p.tables e below (T.setTop g) target := by
  obtain ⟨locs, k0, X, eT, hS, hk, hZ, hown, hC, N, O', hKK⟩ := W
  obtain ⟨T', h', X', e', Wr', st⟩ := RoadKit.putF X hx hZ hown (host := "") (Or.inl w) via eT F E L wi hty hn hf hg hs hd
  exact ⟨T', h', ⟨_, k0, X', e', hS, (by rw [Wr'.size]; exact hk), hZ, hown, hC.trans (CHr.wr Wr' S hC.1), Fr.snoc X' N ha, O'.wr Wr' ha, hKK⟩, Wr', Wr'.size, F.same Wr', fun x _ q => Safe.wr Wr' S hC.1 q, st⟩
theorem Wk.getF (W : Wk p l e R s m args below meth c Z EL own n0 vm0 T h cells slots) (hx : p.tables.exec = Jvm.exec) {R0 O n d : String} {index : Nat} (w : (Cond.fieldLink own index R0 n d).before a0 Z = true) (via : Via Z R0 O n d) {a : Addr} {v : Value} (F : Fld Z h a O n d v) (hg : g.method = m) {rest : List Value} (hs : g.stack = .ref a :: rest) (hd : decode c.code g.pc = .ok (.getfield index, 3)) :
    ∃ T', Wk p l e R s m args below meth c Z EL own n0 vm0 T' h cells slots ∧ ∀ target, Steps p.tables e below (T'.setTop { g with pc := g.pc + 3, stack := v :: rest }) target → Steps p.tables e below (T.setTop g) target := by
  obtain ⟨locs, k0, X, eT, hS, hk, hZ, hown, hC, N, O', hKK⟩ := W
  obtain ⟨T', X', e', st⟩ := RoadKit.getF X hx hZ hown (host := "") (Or.inl w) via eT F hg hs hd
  exact ⟨T', ⟨_, k0, X', e', hS, hk, hZ, hown, hC.trans (CHr.refl hC.1), N, O', hKK⟩, st⟩
theorem Wk.getS (W : Wk p l e R s m args below meth c Z EL own n0 vm0 T h cells slots) (hx : p.tables.exec = Jvm.exec) {R0 O n d : String} {index : Nat} (w : (Cond.fieldLink own index R0 n d).before a0 Z = true) (via : Via Z R0 O n d) {v : Value} (F : Sta Z h O n d v) (hg : g.method = m) (hd : decode c.code g.pc = .ok (.getstatic index, 3)) :
    ∃ T', Wk p l e R s m args below meth c Z EL own n0 vm0 T' h cells slots ∧ ∀ target, Steps p.tables e below (T'.setTop { g with pc := g.pc + 3, stack := v :: g.stack }) target → Steps p.tables e below (T.setTop g) target := by
  obtain ⟨locs, k0, X, eT, hS, hk, hZ, hown, hC, N, O', hKK⟩ := W
  obtain ⟨T', X', e', st⟩ := RoadKit.getS (host := "") X hx hZ hown w via eT F hg hd
  exact ⟨T', ⟨_, k0, X', e', hS, hk, hZ, hown, hC.trans (CHr.refl hC.1), N, O', hKK⟩, st⟩
theorem Wk.initO (W : Wk p l e R s m args below meth c Z EL own n0 vm0 T h cells slots) (hx : p.tables.exec = Jvm.exec) {idx : Nat} (w1 : (Cond.methodLink own idx Lib.objectInit).before a0 Z = true) (w2 : (Cond.instanceMethod Lib.objectInit).before a0 Z = true) (w3 : (Cond.code Lib.objectInit ⟨#[0xb1]⟩ 1 none).before a0 Z = true) (hg : g.method = m) (hsize : g.locals.size = c.maxLocals) {a : Addr} {rest : List Value} (hs : g.stack = .ref a :: rest) (hd : decode c.code g.pc = .ok (.invokespecial idx, 3)) (hf : 1 ≤ R.frames) {Wd : Nat} (hW : 2 * g.monitorRoom + (rest.map fun v => v.category).sum ≤ Wd) (hl : Wd + 12 ≤ R.locals) :
    ∃ T', Wk p l e R s m args below meth c Z EL own n0 vm0 T' h cells slots ∧ ∀ target, Steps p.tables e below (T'.setTop { g with pc := g.pc + 3, stack := rest }) target → Steps p.tables e below (T.setTop g) target := by
  obtain ⟨locs, k0, X, eT, hS, hk, hZ, hown, hC, N, O', hKK⟩ := W
  obtain ⟨T', X', e', st⟩ := RoadKit.initO X hx hZ hown w1 w2 w3 eT hg hsize hs hd hf hW hl
  exact ⟨T', ⟨_, k0, X', e', hS, hk, hZ, hown, hC.trans (CHr.refl hC.1), N, O', hKK⟩, st⟩
theorem Wk.cast (W : Wk p l e R s m args below meth c Z EL own n0 vm0 T h cells slots) (hx : p.tables.exec = Jvm.exec) {K : String} {index : Nat} (w : (Cond.classLink own index K).before a0 Z = true) {a : Addr} (F : Ins Z h a K true) (hg : g.method = m) {rest : List Value} (hs : g.stack = .ref a :: rest) (hd : decode c.code g.pc = .ok (.checkcast index, 3)) :
    ∃ T', Wk p l e R s m args below meth c Z EL own n0 vm0 T' h cells slots ∧ ∀ target, Steps p.tables e below (T'.setTop { g with pc := g.pc + 3 }) target → Steps p.tables e below (T.setTop g) target := by
  obtain ⟨locs, k0, X, eT, hS, hk, hZ, hown, hC, N, O', hKK⟩ := W
  obtain ⟨T', X', e', st⟩ := RoadKit.castY X hx hZ hown w eT F hg hs hd
  exact ⟨T', ⟨_, k0, X', e', hS, hk, hZ, hown, hC.trans (CHr.refl hC.1), N, O', hKK⟩, st⟩
theorem Wk.instY (W : Wk p l e R s m args below meth c Z EL own n0 vm0 T h cells slots) (hx : p.tables.exec = Jvm.exec) {K : String} {index : Nat} (w : (Cond.classLink own index K).before a0 Z = true) {a : Addr} (F : Ins Z h a K true) (hg : g.method = m) {rest : List Value} (hs : g.stack = .ref a :: rest) (hd : decode c.code g.pc = .ok (.instanceof index, 3)) :
    ∃ T', Wk p l e R s m args below meth c Z EL own n0 vm0 T' h cells slots ∧ ∀ target, Steps p.tables e below (T'.setTop { g with pc := g.pc + 3, stack := .int 1 :: rest }) target → Steps p.tables e below (T.setTop g) target := by
  obtain ⟨locs, k0, X, eT, hS, hk, hZ, hown, hC, N, O', hKK⟩ := W
  obtain ⟨T', X', e', st⟩ := RoadKit.instY X hx hZ hown w eT F hg hs hd
  exact ⟨T', ⟨_, k0, X', e', hS, hk, hZ, hown, hC.trans (CHr.refl hC.1), N, O', hKK⟩, st⟩
theorem own_known {vm1 : Vm} (h0 : Z.Warmed39 vm0) (h1 : Z.Warmed39 vm1) (q : vm0.MethodsKnown ∧ vm0.FramesKnown below) : vm1.MethodsKnown ∧ vm1.FramesKnown below := ⟨Vm.MethodsKnown.alikeC (h0.alike.symm.trans h1.alike) q.1, Vm.FramesKnown.alikeC (h0.alike.symm.trans h1.alike) q.2⟩
/-- ldc of a String constant of EL, read -/
theorem Wk.ldc (W : Wk p l e R s m args below meth c Z EL own n0 vm0 T h cells slots) (hx : p.tables.exec = Jvm.exec) {index : Nat} {text : String} (w : (Cond.stringLink own index text).before a0 Z = true) (wS : ∀ a ∈ Bundle.stringAtoms, a.before a0 Z = true) (hEL : EW Z a0 EL) (hmem : (own, index) ∈ EL)
    {vs : List Value} {z : Int32} (ht : (∀ c ∈ text.toList, c.toNat < 256) ∧ text.toList.map (fun c => Value.int (Jvm.Lit.byteI c.toNat.toUInt16)) = vs) (hz : ¬ z < 0) (hl : z.toNatClampNeg = vs.length)
    (hg : g.method = m) (hd : decode c.code g.pc = .ok (.ldc index, 2)) {n : Nat} (hn : 4 * text.toList.length ≤ n) (hbig : n ≤ 536870912) (hc : cells + 2 ≤ R.cells) (hl' : slots + (n + 4) ≤ R.slots) :
    ∃ (a : Addr) (vm1 : Vm) (T' : State) (h' : Heap) (b : Addr) (k : ClassId), Wk p l e R s m args below meth c Z EL own n0 vm1 T' h' (cells + 2) (slots + (n + 4)) ∧ Ext h h' ∧
      Exa Z h' a "java/lang/String" ∧ Fld Z h' a "java/lang/String" "coder" "B" (.int 0) ∧ Fld Z h' a "java/lang/String" "value" "[B" (.ref b) ∧ Arv Z h' b k .byte z vs (.int 0) ∧ (∀ x, x < h.size → Safe Z EL vm0 h x → Safe Z EL vm1 h' x) ∧ (∀ x, Safe Z EL vm1 h' x → x ≠ a ∧ x ≠ b) ∧
      ∀ target, Steps p.tables e below (T'.setTop { g with pc := g.pc + 2, stack := .ref a :: g.stack }) target → Steps p.tables e below (T.setTop g) target := by
  obtain ⟨locs, k0, X, eT, hS, hk, hZ, hown, hC, N, O, hKK⟩ := W
  obtain ⟨a, T', h', k1, b, k, X', e', E, hS', hk', hZ', hown', E1, F1, F2, A1, -, -, hR, -, hne, st⟩ := RoadKit.ldcCH X hx hZ hown w wS eT hS hk hEL hmem hC.1 ht hz hl hg hd hn hbig hc hl'
  exact ⟨a, T'.vm, T', h', b, k, ⟨locs, k1, X', e', hS', hk', hZ', hown', hC.trans hR, N, O.ext E, own_known hZ hZ' hKK⟩, E, E1, F1, F2, A1, fun x q r => hR.safe q r, hne, st⟩
/-- ldc of a String constant, not read -/
theorem Wk.ldcO (W : Wk p l e R s m args below meth c Z EL own n0 vm0 T h cells slots) (hx : p.tables.exec = Jvm.exec) {index : Nat} {text : String} (w : (Cond.stringLink own index text).before a0 Z = true) (wS : ∀ a ∈ Bundle.stringAtoms, a.before a0 Z = true) (hEL : EW Z a0 EL)
    (hg : g.method = m) (hd : decode c.code g.pc = .ok (.ldc index, 2)) {n : Nat} (hn : 4 * text.toList.length ≤ n) (hbig : n ≤ 536870912) (hc : cells + 2 ≤ R.cells) (hl' : slots + (n + 4) ≤ R.slots) :
    ∃ (a : Addr) (vm1 : Vm) (T' : State) (h' : Heap), Wk p l e R s m args below meth c Z EL own n0 vm1 T' h' (cells + 2) (slots + (n + 4)) ∧ Ext h h' ∧ (∀ x, x < h.size → Safe Z EL vm0 h x → Safe Z EL vm1 h' x) ∧
      ∀ target, Steps p.tables e below (T'.setTop { g with pc := g.pc + 2, stack := .ref a :: g.stack }) target → Steps p.tables e below (T.setTop g) target := by
  obtain ⟨locs, k0, X, eT, hS, hk, hZ, hown, hC, N, O, hKK⟩ := W
  obtain ⟨a, T', h', k1, X', e', E, hS', hk', hZ', hown', hR, -, st⟩ := RoadKit.ldcOH X hx hZ hown w wS eT hS hk hEL hC.1 hg hd hn hbig hc hl'
  exact ⟨a, T'.vm, T', h', ⟨locs, k1, X', e', hS', hk', hZ', hown', hC.trans hR, N, O.ext E, own_known hZ hZ' hKK⟩, E, fun x q r => hR.safe q r, st⟩
/-- the contract of a callee -/
def Met (l : Launch) (y : MethodName) (bytes : ByteArray) (maxL : Nat) (ret : Option FieldType) (rm : Room) (Z : State) (EL : List (String × Nat)) (n0 : Nat) (ws : List Jvm.Cond) (as' : Array Value) (h : Heap) (Q : Option Value → Heap → Prop) : Prop :=
  MetFree l y (head1 (Jvm.Cond.code y bytes maxL ret :: ws) rm) (fun a U => a = as' ∧ Z.Warmed39 U.vm ∧ U.heap = h ∧ CHv Z EL U.vm h) (fun _ _ bl s _ => s.vm.MethodsKnown ∧ s.vm.FramesKnown bl) (fun _ U o U' => ∃ v L, o = .returned v ∧ (Q v U'.heap ∧ Fr n0 L ∧ Old Z n0 U'.heap) ∧ CHr Z EL U.vm U.heap U'.vm U'.heap ∧ ReturnedEndW U o U' L rm.cells rm.slots)
/-- the end that a contract asks, as the walk's goal has it -/
def Fin (s : State) (rm : Room) (Z : State) (EL : List (String × Nat)) (n0 : Nat) (Q : Option Value → Heap → Prop) (o : Outcome) (u : State) : Prop := ∃ v L, o = .returned v ∧ (Q v u.heap ∧ Fr n0 L ∧ Old Z n0 u.heap) ∧ CHr Z EL s.vm s.heap u.vm u.heap ∧ ReturnedEndW s o u L rm.cells rm.slots
theorem Met.of {y : MethodName} {bytes : ByteArray} {maxL : Nat} {ret : Option FieldType} {rm : Room} {ws : List Jvm.Cond} {as' : Array Value} {Qb : Option Value → Heap → Prop} (hpl : plainFor y = true) (O : Old Z n0 h)
    (body : ∀ (p : Program) (e : Env) (s : State) (m : MethodId) (below : List Frame) (meth : Method) (c : Code) (T : State), p.tables.exec = Jvm.exec → c.code = bytes → c.maxLocals = maxL → meth.sig.returnType = ret → meth.locks = false → meth.name = y.name → s.heap = h →
      Wk p l e rm s m as' below meth c Z EL y.cls n0 s.vm T h 0 0 → Go p e below (Fin s rm Z EL n0 Qb) T (entryFrame m as' maxL)) :
    Met l y bytes maxL ret rm Z EL n0 ws as' h Qb := by
  refine MetFree.of_bodySF hpl hisR ?_
  intro p e s m args below meth c s₁ Bd hml hP hK
  obtain ⟨rfl, hZ, hh, hC⟩ := hP
  have hown : s.vm.findClass y.cls = some m.cls := findClass_of_methodNamed Bd.named
  have X0 : Stand p l e rm s m args below meth c s₁ [] 0 0 := Stand.of_body Bd
  have e0 : s₁.heap = h := by rw [← hh, Bd.state]; rfl
  refine body p e s m below meth c s₁ Bd.exec Bd.bytes hml Bd.returns Bd.notSynchronized (name_of_methodNamed Bd.named Bd.method).1 hh ?_
  refine ⟨[], 0, X0, e0, (State.WarmedH.refl s).since 0, Nat.zero_le _, hZ, hown, ?_, Fr.nil _, O, hK⟩
  rw [hh]; exact CHr.refl hC
/-- the end of a walk -/
theorem Wk.fin {rm : Room} {Qb : Option Value → Heap → Prop} (W : Wk p l e R s m args below meth c Z EL own n0 vm0 T h cells slots) (hEL : EW Z a0 EL) (hlk : meth.locks = false) {v : Option Value} (hv : meth.sig.returnType = none → v = none) (hc : cells ≤ rm.cells) (hs : slots ≤ rm.slots) (hq : Qb v h)
    (st : ∀ fs, (∀ (f : JFrame) (acts : List Action), f.method = m → f.locked = none → f.entered = [] → (doReturn e (T.setTop f) acts v).1 = T.setFrames fs) → Steps p.tables e below (T.setTop g) (T.setFrames fs)) : Go p e below (Fin s rm Z EL n0 Qb) T g := by
  obtain ⟨locs, k0, X, eT, hS, hk, hZ, hown, hC, N, O, hKK⟩ := W
  subst eT
  obtain ⟨fs, hr, hrun, hended, hend⟩ := Stand.leaveW X hS hk (v := v) hv hlk
  have hA := CHv.at X hZ hEL hC.1
  refine ⟨T.setFrames fs, .returned v, st fs hr, hrun, hended, v, locs, rfl, ⟨hq, N, O⟩, hC.trans hA, ?_⟩
  obtain ⟨q1, q2, q3, q4⟩ := hend
  exact ⟨q1, q2, q3, q4.mono hc hs⟩
theorem Wk.retN {rm : Room} {Qb : Option Value → Heap → Prop} (W : Wk p l e R s m args below meth c Z EL own n0 vm0 T h cells slots) (hx : p.tables.exec = Jvm.exec) (hEL : EW Z a0 EL) (hlk : meth.locks = false) {pc : Nat} {Ls : Array Slot} {z : Int32} {t : FieldType} {rest : List Value} (hret : meth.sig.returnType = some t) (ht : t = .boolean ∨ t = .byte ∨ t = .char ∨ t = .short)
    (hd : decode c.code pc = .ok (.ireturn, 1)) (hc : cells ≤ rm.cells) (hs : slots ≤ rm.slots) (hq : Qb (some (.int (nar t z))) h) : Go p e below (Fin s rm Z EL n0 Qb) T (mkF m pc Ls (.int z :: rest)) := by
  obtain ⟨locs, X⟩ := W.stand
  exact W.fin hEL hlk (v := some (.int (nar t z))) (fun q => by first | rfl | (rw [hret] at q; cases q)) hc hs hq fun fs hr => RoadKit.retN X hx hret ht hd hr
theorem Wk.retI {rm : Room} {Qb : Option Value → Heap → Prop} (W : Wk p l e R s m args below meth c Z EL own n0 vm0 T h cells slots) (hx : p.tables.exec = Jvm.exec) (hEL : EW Z a0 EL) (hlk : meth.locks = false) {pc : Nat} {Ls : Array Slot} {z : Int32} {rest : List Value} (hret : meth.sig.returnType = some .int)
    (hd : decode c.code pc = .ok (.ireturn, 1)) (hc : cells ≤ rm.cells) (hs : slots ≤ rm.slots) (hq : Qb (some (.int z)) h) : Go p e below (Fin s rm Z EL n0 Qb) T (mkF m pc Ls (.int z :: rest)) := by
  obtain ⟨locs, X⟩ := W.stand
  exact W.fin hEL hlk (v := some (.int z)) (fun q => by first | rfl | (rw [hret] at q; cases q)) hc hs hq fun fs hr => RoadKit.retOut X hx hret rfl (Or.inl ⟨rfl, Or.inl rfl, _, rfl⟩) hd hr
theorem Wk.retJ {rm : Room} {Qb : Option Value → Heap → Prop} (W : Wk p l e R s m args below meth c Z EL own n0 vm0 T h cells slots) (hx : p.tables.exec = Jvm.exec) (hEL : EW Z a0 EL) (hlk : meth.locks = false) {pc : Nat} {Ls : Array Slot} {z : Int64} {rest : List Value} (hret : meth.sig.returnType = some .long)
    (hd : decode c.code pc = .ok (.lreturn, 1)) (hc : cells ≤ rm.cells) (hs : slots ≤ rm.slots) (hq : Qb (some (.long z)) h) : Go p e below (Fin s rm Z EL n0 Qb) T (mkF m pc Ls (.long z :: rest)) := by
  obtain ⟨locs, X⟩ := W.stand
  exact W.fin hEL hlk (v := some (.long z)) (fun q => by first | rfl | (rw [hret] at q; cases q)) hc hs hq fun fs hr => RoadKit.retOut X hx hret rfl (Or.inr (Or.inl ⟨rfl, rfl, _, rfl⟩)) hd hr
theorem Wk.retD {rm : Room} {Qb : Option Value → Heap → Prop} (W : Wk p l e R s m args below meth c Z EL own n0 vm0 T h cells slots) (hx : p.tables.exec = Jvm.exec) (hEL : EW Z a0 EL) (hlk : meth.locks = false) {pc : Nat} {Ls : Array Slot} {z : UInt64} {rest : List Value} (hret : meth.sig.returnType = some .double)
    (hd : decode c.code pc = .ok (.dreturn, 1)) (hc : cells ≤ rm.cells) (hs : slots ≤ rm.slots) (hq : Qb (some (.double z)) h) : Go p e below (Fin s rm Z EL n0 Qb) T (mkF m pc Ls (.double z :: rest)) := by
  obtain ⟨locs, X⟩ := W.stand
  exact W.fin hEL hlk (v := some (.double z)) (fun q => by first | rfl | (rw [hret] at q; cases q)) hc hs hq fun fs hr => RoadKit.retOut X hx hret rfl (Or.inr (Or.inr (Or.inl ⟨rfl, rfl, _, rfl⟩))) hd hr
theorem Wk.retA {rm : Room} {Qb : Option Value → Heap → Prop} (W : Wk p l e R s m args below meth c Z EL own n0 vm0 T h cells slots) (hx : p.tables.exec = Jvm.exec) (hEL : EW Z a0 EL) (hlk : meth.locks = false) {pc : Nat} {Ls : Array Slot} {v : Value} {t : FieldType} {rest : List Value} (hret : meth.sig.returnType = some t) (ht : t.isReference = true) (hn : narrow t v = v) (hv : v.isRef = true)
    (hd : decode c.code pc = .ok (.areturn, 1)) (hc : cells ≤ rm.cells) (hs : slots ≤ rm.slots) (hq : Qb (some v) h) : Go p e below (Fin s rm Z EL n0 Qb) T (mkF m pc Ls (v :: rest)) := by
  obtain ⟨locs, X⟩ := W.stand
  exact W.fin hEL hlk (v := some v) (fun q => by first | rfl | (rw [hret] at q; cases q)) hc hs hq fun fs hr => RoadKit.retOut X hx hret hn (Or.inr (Or.inr (Or.inr (Or.inr ⟨rfl, ht, hv⟩)))) hd hr
theorem Wk.retV {rm : Room} {Qb : Option Value → Heap → Prop} (W : Wk p l e R s m args below meth c Z EL own n0 vm0 T h cells slots) (hx : p.tables.exec = Jvm.exec) (hEL : EW Z a0 EL) (hlk : meth.locks = false) {pc : Nat} {Ls : Array Slot} (hret : meth.sig.returnType = none)
    (hd : decode c.code pc = .ok (.return_, 1)) (hc : cells ≤ rm.cells) (hs : slots ≤ rm.slots) (hq : Qb (none) h) : Go p e below (Fin s rm Z EL n0 Qb) T (mkF m pc Ls []) := by
  obtain ⟨locs, X⟩ := W.stand
  exact W.fin hEL hlk (v := none) (fun q => by first | rfl | (rw [hret] at q; cases q)) hc hs hq fun fs hr => X.returnOut hx hret hd hr
theorem Wk.back {y : MethodName} {rm : Room} {as' : Array Value} {Qb : Option Value → Heap → Prop} {bytes : ByteArray} {maxL : Nat} {ret : Option FieldType} {len Wd : Nat} (W : Wk p l e R s m args below meth c Z EL own n0 vm0 T h cells slots) (hEL : EW Z a0 EL) (hM : Met l y bytes maxL ret rm Z EL n0 [] as' h Qb)
    (wc : (Cond.code y bytes maxL ret).before a0 Z = true) (wz : (Cond.initialized y.cls).before a0 Z = true) (hf : rm.frames + 1 ≤ R.frames) (hl : Wd + (maxL + 11) + rm.locals ≤ R.locals) :
    BackS l R p e below (s.setVm vm0) args y len Wd (fun A a => a = as' ∧ A.U.heap = h ∧ A.cells + rm.cells ≤ R.cells ∧ A.slots + rm.slots ≤ R.slots)
      (fun A _ v B => ∃ L, (Qb v B.U.heap ∧ Fr n0 L ∧ Old Z n0 B.U.heap) ∧ B.locs = A.locs ++ L ∧ B.cells = A.cells + rm.cells ∧ B.slots = A.slots + rm.slots ∧ CHr Z EL vm0 h B.U.vm B.U.heap) :=
  backOfSKH (Q := fun v h' L => Qb v h' ∧ Fr n0 L ∧ Old Z n0 h') hM W.warm wc wz hf hl hEL W.chv W.known.1 W.known.2
theorem Wk.behind {B : Pt} {rm : Room} {Qb : Option Value → Heap → Prop} {v : Option Value} {locs L : List Loc} {k0 : Nat} (hS : s.Since vm0 k0) (hk : k0 ≤ h.size) (hZ : Z.Warmed39 vm0) (hown : vm0.findClass own = some m.cls) (hC : CHr Z EL s.vm s.heap vm0 h) (N : Fr n0 locs) (eT : T.heap = h) (hKK : (vm0.MethodsKnown ∧ vm0.FramesKnown below))
    (X : Stand p l e R ((s.setVm vm0).setVm B.U.vm) m args below meth c B.U B.locs B.cells B.slots) (h2 : (s.setVm vm0).Since B.U.vm B.U.heap.size) (hg : T.heap.size ≤ B.U.heap.size)
    (hq : Qb v B.U.heap ∧ Fr n0 L ∧ Old Z n0 B.U.heap) (hl : B.locs = locs ++ L) (hc : B.cells = cells + rm.cells) (hs : B.slots = slots + rm.slots) (hR : CHr Z EL vm0 h B.U.vm B.U.heap) :
    Wk p l e R s m args below meth c Z EL own n0 B.U.vm B.U B.U.heap (cells + rm.cells) (slots + rm.slots) := by
  subst eT
  obtain ⟨X', hS', hZ', hown'⟩ := rebS hS hk X h2 hg hZ hown
  exact ⟨B.locs, _, hc ▸ hs ▸ X', rfl, hS', Nat.le_refl _, hZ', hown', hC.trans hR, hl ▸ N.app hq.2.1, hq.2.2, own_known hZ hZ' hKK⟩
theorem Wk.callS {y : MethodName} {rm : Room} {as' : Array Value} {Qb : Option Value → Heap → Prop} {bytes : ByteArray} {maxL index : Nat} {ret : Option FieldType} (W : Wk p l e R s m args below meth c Z EL own n0 vm0 T h cells slots) (hx : p.tables.exec = Jvm.exec) (hEL : EW Z a0 EL) (hM : Met l y bytes maxL ret rm Z EL n0 [] as' h Qb)
    (w1 : (Cond.methodLink own index y).before a0 Z = true) (w2 : (Cond.static y).before a0 Z = true) (wz : (Cond.initialized y.cls).before a0 Z = true) (wc : (Cond.code y bytes maxL ret).before a0 Z = true) (hy : y.cls ≠ "java/lang/invoke/MethodHandle" ∧ y.cls ≠ "java/lang/invoke/VarHandle")
    {Wd : Nat} (hf : rm.frames + 1 ≤ R.frames) (hl : Wd + (maxL + 11) + rm.locals ≤ R.locals) (hc : cells + rm.cells ≤ R.cells) (hs : slots + rm.slots ≤ R.slots)
    (hg : g.method = m) (hsize : g.locals.size = c.maxLocals) {argsL rest : List Value} (has : argsL.toArray = as') (hlen : ∀ sig, parseMethodDescriptor y.desc = some sig → argsL.length = sig.parameters.length) (hstack : g.stack = argsL.reverse ++ rest) (hW : 2 * g.monitorRoom + (rest.map fun v => v.category).sum ≤ Wd) (hdg : decode c.code g.pc = .ok (.invokestatic index, 3)) :
    ∃ (v : Option Value) (vm1 : Vm) (T' : State) (h' : Heap), Wk p l e R s m args below meth c Z EL own n0 vm1 T' h' (cells + rm.cells) (slots + rm.slots) ∧ Qb v h' ∧ h.size ≤ h'.size ∧ (∀ x, x < h.size → Safe Z EL vm0 h x → Safe Z EL vm1 h' x) ∧
      Steps p.tables e below (T.setTop g) (T'.setTop { g with pc := g.pc + 3, stack := v.toList ++ rest }) := by
  have hB := W.back (len := 3) (Wd := Wd) hEL hM wc wz hf hl
  obtain ⟨locs, k0, X, eT, hS, hk, hZ, hown, hC, N, O, hKK⟩ := W
  have hZ' : Z.Warmed39 (s.setVm vm0).vm := hZ
  obtain ⟨v, vm1, B, -, X', h2, hgr, ⟨L, hq, q1, q2, q3, q4⟩, st⟩ := RoadKit.callSS X hx hown (mvT hZ' w1) (mvT hZ' w2) (mvT hZ' wz) (mvT hZ' wc) hy hB hg hsize hlen hstack hW hdg (fun _ _ => ⟨has, eT, hc, hs⟩)
  exact ⟨v, B.U.vm, B.U, B.U.heap, Wk.behind hS hk hZ hown hC N eT hKK X' h2 hgr hq q1 q2 q3 q4, hq.1, q4.2.1, fun x q r => q4.safe q r, st⟩
theorem Wk.callI {y : MethodName} {rm : Room} {as' : Array Value} {Qb : Option Value → Heap → Prop} {bytes : ByteArray} {maxL index : Nat} (W : Wk p l e R s m args below meth c Z EL own n0 vm0 T h cells slots) (hx : p.tables.exec = Jvm.exec) (hEL : EW Z a0 EL) (hM : Met l y bytes maxL none rm Z EL n0 [] as' h Qb) (hy1 : y.name = "<init>")
    (w1 : (Cond.methodLink own index y).before a0 Z = true) (w2 : (Cond.instanceMethod y).before a0 Z = true) (wz : (Cond.initialized y.cls).before a0 Z = true) (wc : (Cond.code y bytes maxL none).before a0 Z = true) (hy : y.cls ≠ "java/lang/invoke/MethodHandle" ∧ y.cls ≠ "java/lang/invoke/VarHandle")
    {Wd : Nat} (hf : rm.frames + 1 ≤ R.frames) (hl : Wd + (maxL + 11) + rm.locals ≤ R.locals) (hc : cells + rm.cells ≤ R.cells) (hs : slots + rm.slots ≤ R.slots)
    (hg : g.method = m) (hsize : g.locals.size = c.maxLocals) {a : Addr} {argsL rest : List Value} (has : (.ref a :: argsL).toArray = as') (hlen : ∀ sig, parseMethodDescriptor y.desc = some sig → argsL.length = sig.parameters.length) (hstack : g.stack = argsL.reverse ++ .ref a :: rest) (hW : 2 * g.monitorRoom + (rest.map fun v => v.category).sum ≤ Wd) (hdg : decode c.code g.pc = .ok (.invokespecial index, 3)) :
    ∃ (v : Option Value) (vm1 : Vm) (T' : State) (h' : Heap), Wk p l e R s m args below meth c Z EL own n0 vm1 T' h' (cells + rm.cells) (slots + rm.slots) ∧ Qb v h' ∧ h.size ≤ h'.size ∧ (∀ x, x < h.size → Safe Z EL vm0 h x → Safe Z EL vm1 h' x) ∧
      Steps p.tables e below (T.setTop g) (T'.setTop { g with pc := g.pc + 3, stack := v.toList ++ rest }) := by
  have hB := W.back (len := 3) (Wd := Wd) hEL hM wc wz hf hl
  obtain ⟨locs, k0, X, eT, hS, hk, hZ, hown, hC, N, O, hKK⟩ := W
  have hZ' : Z.Warmed39 (s.setVm vm0).vm := hZ
  obtain ⟨v, vm1, B, -, X', h2, hgr, ⟨L, hq, q1, q2, q3, q4⟩, st⟩ := Stand.specialBackS X hx hy1 hown (mvT hZ' w1) (mvT hZ' w2) (mvT hZ' wc) hy hB hg hsize (Steps.refl _) hlen hstack hW hdg (fun _ _ => ⟨has, eT, hc, hs⟩)
  exact ⟨v, B.U.vm, B.U, B.U.heap, Wk.behind hS hk hZ hown hC N eT hKK X' h2 hgr hq q1 q2 q3 q4, hq.1, q4.2.1, fun x q r => q4.safe q r, st⟩
theorem Wk.callV {y : MethodName} {C : String} {rm : Room} {as' : Array Value} {Qb : Option Value → Heap → Prop} {bytes : ByteArray} {maxL index : Nat} {ret : Option FieldType} (W : Wk p l e R s m args below meth c Z EL own n0 vm0 T h cells slots) (hx : p.tables.exec = Jvm.exec) (hEL : EW Z a0 EL) (hM : Met l y bytes maxL ret rm Z EL n0 [] as' h Qb)
    (w1 : (Cond.methodLink own index y).before a0 Z = true) (w2 : (Cond.declares y).before a0 Z = true) (w3 : (Cond.selects C y y).before a0 Z = true) (w4 : (Cond.instanceMethod y).before a0 Z = true) (wz : (Cond.initialized y.cls).before a0 Z = true) (wc : (Cond.code y bytes maxL ret).before a0 Z = true) (hy : y.cls ≠ "java/lang/invoke/MethodHandle" ∧ y.cls ≠ "java/lang/invoke/VarHandle")
    {Wd : Nat} (hf : rm.frames + 1 ≤ R.frames) (hl : Wd + (maxL + 11) + rm.locals ≤ R.locals) (hc : cells + rm.cells ≤ R.cells) (hs : slots + rm.slots ≤ R.slots)
    (hg : g.method = m) (hsize : g.locals.size = c.maxLocals) {a : Addr} (E : Exa Z h a C) {argsL rest : List Value} (has : (.ref a :: argsL).toArray = as') (hlen : ∀ sig, parseMethodDescriptor y.desc = some sig → argsL.length = sig.parameters.length) (hstack : g.stack = argsL.reverse ++ .ref a :: rest) (hW : 2 * g.monitorRoom + (rest.map fun v => v.category).sum ≤ Wd) (hdg : decode c.code g.pc = .ok (.invokevirtual index, 3)) :
    ∃ (v : Option Value) (vm1 : Vm) (T' : State) (h' : Heap), Wk p l e R s m args below meth c Z EL own n0 vm1 T' h' (cells + rm.cells) (slots + rm.slots) ∧ Qb v h' ∧ h.size ≤ h'.size ∧ (∀ x, x < h.size → Safe Z EL vm0 h x → Safe Z EL vm1 h' x) ∧
      Steps p.tables e below (T.setTop g) (T'.setTop { g with pc := g.pc + 3, stack := v.toList ++ rest }) := by
  have hB := W.back (len := 3) (Wd := Wd) hEL hM wc wz hf hl
  obtain ⟨locs, k0, X, eT, hS, hk, hZ, hown, hC, N, O, hKK⟩ := W
  have hZ' : Z.Warmed39 (s.setVm vm0).vm := hZ
  obtain ⟨cB, kB, i1, i2, i3⟩ := isOf (s := (s.setVm vm0)) hZ' eT E
  obtain ⟨v, vm1, B, -, X', h2, hgr, ⟨L, hq, q1, q2, q3, q4⟩, st⟩ := Stand.virtualBackS X hx hown (mvT hZ' w1) (mvT hZ' w2) (notFace_of_selects (args := #[]) (mvT hZ' w3)) (mvT hZ' w3) (mvT hZ' w4) hy hB i1 i3 hg hsize (Steps.refl _) hlen hstack hW hdg (fun _ _ => ⟨has, eT, hc, hs⟩)
  exact ⟨v, B.U.vm, B.U, B.U.heap, Wk.behind hS hk hZ hown hC N eT hKK X' h2 hgr hq q1 q2 q3 q4, hq.1, q4.2.1, fun x q r => q4.safe q r, st⟩
theorem Wk.callU {y : MethodName} {z : MethodName} {C owner : String} {rm : Room} {as' : Array Value} {Qb : Option Value → Heap → Prop} {bytes : ByteArray} {maxL index : Nat} {ret : Option FieldType} (W : Wk p l e R s m args below meth c Z EL own n0 vm0 T h cells slots) (hx : p.tables.exec = Jvm.exec) (hEL : EW Z a0 EL) (hM : Met l z bytes maxL ret rm Z EL n0 [] as' h Qb)
    (w1 : (Cond.methodLink own index y).before a0 Z = true) (wsm : (Cond.sameMethod y.cls owner y.name y.desc).before a0 Z = true) (w2 : (Cond.declares ⟨owner, y.name, y.desc⟩).before a0 Z = true) (ho : owner ≠ "java/lang/invoke/MethodHandle" ∧ owner ≠ "java/lang/invoke/VarHandle") (w3 : (Cond.selects C y z).before a0 Z = true) (w4 : (Cond.instanceMethod z).before a0 Z = true) (wz : (Cond.initialized z.cls).before a0 Z = true) (wc : (Cond.code z bytes maxL ret).before a0 Z = true)
    {Wd : Nat} (hf : rm.frames + 1 ≤ R.frames) (hl : Wd + (maxL + 11) + rm.locals ≤ R.locals) (hc : cells + rm.cells ≤ R.cells) (hs : slots + rm.slots ≤ R.slots)
    (hg : g.method = m) (hsize : g.locals.size = c.maxLocals) {a : Addr} (E : Exa Z h a C) {argsL rest : List Value} (has : (.ref a :: argsL).toArray = as') (hlen : ∀ sig, parseMethodDescriptor y.desc = some sig → argsL.length = sig.parameters.length) (hstack : g.stack = argsL.reverse ++ .ref a :: rest) (hW : 2 * g.monitorRoom + (rest.map fun v => v.category).sum ≤ Wd) (hdg : decode c.code g.pc = .ok (.invokevirtual index, 3)) :
    ∃ (v : Option Value) (vm1 : Vm) (T' : State) (h' : Heap), Wk p l e R s m args below meth c Z EL own n0 vm1 T' h' (cells + rm.cells) (slots + rm.slots) ∧ Qb v h' ∧ h.size ≤ h'.size ∧ (∀ x, x < h.size → Safe Z EL vm0 h x → Safe Z EL vm1 h' x) ∧
      Steps p.tables e below (T.setTop g) (T'.setTop { g with pc := g.pc + 3, stack := v.toList ++ rest }) := by
  have hB := W.back (len := 3) (Wd := Wd) hEL hM wc wz hf hl
  obtain ⟨locs, k0, X, eT, hS, hk, hZ, hown, hC, N, O, hKK⟩ := W
  have hZ' : Z.Warmed39 (s.setVm vm0).vm := hZ
  obtain ⟨cB, kB, i1, i2, i3⟩ := isOf (s := (s.setVm vm0)) hZ' eT E
  obtain ⟨v, vm1, B, -, X', h2, hgr, ⟨L, hq, q1, q2, q3, q4⟩, st⟩ := X.virtualBackUpS hx hown (mvT hZ' w1) (mvT hZ' wsm) (mvT hZ' w2) ho (mvT hZ' w3) (mvT hZ' w4) hB i1 i3 hg hsize (Steps.refl _) hlen hstack hW hdg (fun _ _ => ⟨has, eT, hc, hs⟩)
  exact ⟨v, B.U.vm, B.U, B.U.heap, Wk.behind hS hk hZ hown hC N eT hKK X' h2 hgr hq q1 q2 q3 q4, hq.1, q4.2.1, fun x q r => q4.safe q r, st⟩
theorem Wk.behindN {B : Pt} {k n : Nat} {ws : List Addr} {locs L : List Loc} {k0 : Nat} (hS : s.Since vm0 k0) (hk : k0 ≤ h.size) (hZ : Z.Warmed39 vm0) (hown : vm0.findClass own = some m.cls) (hC : CHr Z EL s.vm s.heap vm0 h) (N : Fr n0 locs) (O : Old Z n0 h) (hKK : (vm0.MethodsKnown ∧ vm0.FramesKnown below))
    (X : Stand p l e R (s.setVm vm0) m args below meth c B.U B.locs B.cells B.slots) (K : Keep h B.U.heap ws) (NL : Fr n0 L) (sf : ∀ x ∈ ws, Safe Z EL vm0 h x) (sn : ∀ x ∈ ws, n0 ≤ x) (hl : B.locs = locs ++ L) (hc : B.cells = cells + k) (hs : B.slots = slots + n) :
    Wk p l e R s m args below meth c Z EL own n0 vm0 B.U B.U.heap (cells + k) (slots + n) ∧ ∀ x, x < h.size → Safe Z EL vm0 h x → Safe Z EL vm0 B.U.heap x :=
  ⟨⟨B.locs, k0, hc ▸ hs ▸ X, rfl, hS, Nat.le_trans hk K.1, hZ, hown, hC.trans (CHr.keep K sf hC.1), hl ▸ N.app NL, O.keep K sn, hKK⟩, fun x _ q => Safe.keep K sf hC.1 q⟩
theorem Wk.paySt {y : MethodName} {as' : Array Value} {Qb : Option Value → Heap → List Loc → Prop} {bytes : ByteArray} {maxL : Nat} {ret : Option FieldType} {k n index : Nat} {ws : List Addr} (W : Wk p l e R s m args below meth c Z EL own n0 vm0 T h cells slots) (hx : p.tables.exec = Jvm.exec)
    (w1 : (Cond.methodLink own index y).before a0 Z = true) (w2 : (Cond.static y).before a0 Z = true) (wz : (Cond.initialized y.cls).before a0 Z = true) (wc : (Cond.code y bytes maxL ret).before a0 Z = true) (hy : y.cls ≠ "java/lang/invoke/MethodHandle" ∧ y.cls ≠ "java/lang/invoke/VarHandle")
    {Wd : Nat} (hB : Back l R p e below (s.setVm vm0) args y 3 Wd (fun A a => a = as' ∧ A.U.heap = h ∧ A.cells + k ≤ R.cells ∧ A.slots + n ≤ R.slots) (fun A _ v B => ∃ L, Qb v B.U.heap L ∧ B.locs = A.locs ++ L ∧ B.cells = A.cells + k ∧ B.slots = A.slots + n))
    (hQ : ∀ v h' L, Qb v h' L → Keep h h' ws ∧ Fr n0 L) (sf : ∀ x ∈ ws, Safe Z EL vm0 h x) (sn : ∀ x ∈ ws, n0 ≤ x) (hc : cells + k ≤ R.cells) (hs : slots + n ≤ R.slots)
    (hg : g.method = m) (hsize : g.locals.size = c.maxLocals) {argsL rest : List Value} (has : argsL.toArray = as') (hlen : ∀ sig, parseMethodDescriptor y.desc = some sig → argsL.length = sig.parameters.length) (hstack : g.stack = argsL.reverse ++ rest) (hW : 2 * g.monitorRoom + (rest.map fun v => v.category).sum ≤ Wd) (hdg : decode c.code g.pc = .ok (.invokestatic index, 3)) :
    ∃ (v : Option Value) (T' : State) (h' : Heap) (L : List Loc), Wk p l e R s m args below meth c Z EL own n0 vm0 T' h' (cells + k) (slots + n) ∧ Qb v h' L ∧ h.size ≤ h'.size ∧ (∀ x, x < h.size → Safe Z EL vm0 h x → Safe Z EL vm0 h' x) ∧
      Steps p.tables e below (T.setTop g) (T'.setTop { g with pc := g.pc + 3, stack := v.toList ++ rest }) := by
  obtain ⟨locs, k0, X, eT, hS, hk, hZ, hown, hC, N, O, hKK⟩ := W
  have hZ' : Z.Warmed39 (s.setVm vm0).vm := hZ
  obtain ⟨v, vm1, B, -, X', ⟨L, hq, q1, q2, q3⟩, st⟩ := Jvm.LawKit.callS X hx hown (mvT hZ' w1) (mvT hZ' w2) (mvT hZ' wz) (mvT hZ' wc) hy hB hg hsize hlen hstack hW hdg (fun _ _ => ⟨has, eT, hc, hs⟩)
  obtain ⟨K, NL⟩ := hQ _ _ _ hq
  obtain ⟨W', sf'⟩ := Wk.behindN hS hk hZ hown hC N O hKK X' K NL sf sn q1 q2 q3
  exact ⟨v, B.U, B.U.heap, L, W', hq, K.1, sf', st _ (Steps.refl _)⟩
theorem Wk.paySp {y : MethodName} {as' : Array Value} {Qb : Option Value → Heap → List Loc → Prop} {bytes : ByteArray} {maxL : Nat} {k n index : Nat} {ws : List Addr} (W : Wk p l e R s m args below meth c Z EL own n0 vm0 T h cells slots) (hx : p.tables.exec = Jvm.exec) (hy1 : y.name = "<init>")
    (w1 : (Cond.methodLink own index y).before a0 Z = true) (w2 : (Cond.instanceMethod y).before a0 Z = true) (wc : (Cond.code y bytes maxL none).before a0 Z = true) (hy : y.cls ≠ "java/lang/invoke/MethodHandle" ∧ y.cls ≠ "java/lang/invoke/VarHandle")
    {Wd : Nat} (hB : Back l R p e below (s.setVm vm0) args y 3 Wd (fun A a => a = as' ∧ A.U.heap = h ∧ A.cells + k ≤ R.cells ∧ A.slots + n ≤ R.slots) (fun A _ v B => ∃ L, Qb v B.U.heap L ∧ B.locs = A.locs ++ L ∧ B.cells = A.cells + k ∧ B.slots = A.slots + n))
    (hQ : ∀ v h' L, Qb v h' L → Keep h h' ws ∧ Fr n0 L) (sf : ∀ x ∈ ws, Safe Z EL vm0 h x) (sn : ∀ x ∈ ws, n0 ≤ x) (hc : cells + k ≤ R.cells) (hs : slots + n ≤ R.slots)
    (hg : g.method = m) (hsize : g.locals.size = c.maxLocals) {a : Addr} {argsL rest : List Value} (has : (.ref a :: argsL).toArray = as') (hlen : ∀ sig, parseMethodDescriptor y.desc = some sig → argsL.length = sig.parameters.length) (hstack : g.stack = argsL.reverse ++ .ref a :: rest) (hW : 2 * g.monitorRoom + (rest.map fun v => v.category).sum ≤ Wd) (hdg : decode c.code g.pc = .ok (.invokespecial index, 3)) :
    ∃ (v : Option Value) (T' : State) (h' : Heap) (L : List Loc), Wk p l e R s m args below meth c Z EL own n0 vm0 T' h' (cells + k) (slots + n) ∧ Qb v h' L ∧ h.size ≤ h'.size ∧ (∀ x, x < h.size → Safe Z EL vm0 h x → Safe Z EL vm0 h' x) ∧
      Steps p.tables e below (T.setTop g) (T'.setTop { g with pc := g.pc + 3, stack := v.toList ++ rest }) := by
  obtain ⟨locs, k0, X, eT, hS, hk, hZ, hown, hC, N, O, hKK⟩ := W
  have hZ' : Z.Warmed39 (s.setVm vm0).vm := hZ
  obtain ⟨v, vm1, B, -, X', ⟨L, hq, q1, q2, q3⟩, st⟩ := Stand.specialBack X hx hy1 hown (mvT hZ' w1) (mvT hZ' w2) (mvT hZ' wc) hy hB hg hsize (Steps.refl _) hlen hstack hW hdg (fun _ _ => ⟨has, eT, hc, hs⟩)
  obtain ⟨K, NL⟩ := hQ _ _ _ hq
  obtain ⟨W', sf'⟩ := Wk.behindN hS hk hZ hown hC N O hKK X' K NL sf sn q1 q2 q3
  exact ⟨v, B.U, B.U.heap, L, W', hq, K.1, sf', st⟩
theorem Wk.payVi {y : MethodName} {C : String} {as' : Array Value} {Qb : Option Value → Heap → List Loc → Prop} {k n index : Nat} {ws : List Addr} (W : Wk p l e R s m args below meth c Z EL own n0 vm0 T h cells slots) (hx : p.tables.exec = Jvm.exec)
    (w1 : (Cond.methodLink own index y).before a0 Z = true) (w2 : (Cond.declares y).before a0 Z = true) (w3 : (Cond.selects C y y).before a0 Z = true) (w4 : (Cond.instanceMethod y).before a0 Z = true) (hy : y.cls ≠ "java/lang/invoke/MethodHandle" ∧ y.cls ≠ "java/lang/invoke/VarHandle")
    {Wd : Nat} (hB : Back l R p e below (s.setVm vm0) args y 3 Wd (fun A a => a = as' ∧ A.U.heap = h ∧ A.cells + k ≤ R.cells ∧ A.slots + n ≤ R.slots) (fun A _ v B => ∃ L, Qb v B.U.heap L ∧ B.locs = A.locs ++ L ∧ B.cells = A.cells + k ∧ B.slots = A.slots + n))
    (hQ : ∀ v h' L, Qb v h' L → Keep h h' ws ∧ Fr n0 L) (sf : ∀ x ∈ ws, Safe Z EL vm0 h x) (sn : ∀ x ∈ ws, n0 ≤ x) (hc : cells + k ≤ R.cells) (hs : slots + n ≤ R.slots)
    (hg : g.method = m) (hsize : g.locals.size = c.maxLocals) {a : Addr} (E : Exa Z h a C) {argsL rest : List Value} (has : (.ref a :: argsL).toArray = as') (hlen : ∀ sig, parseMethodDescriptor y.desc = some sig → argsL.length = sig.parameters.length) (hstack : g.stack = argsL.reverse ++ .ref a :: rest) (hW : 2 * g.monitorRoom + (rest.map fun v => v.category).sum ≤ Wd) (hdg : decode c.code g.pc = .ok (.invokevirtual index, 3)) :
    ∃ (v : Option Value) (T' : State) (h' : Heap) (L : List Loc), Wk p l e R s m args below meth c Z EL own n0 vm0 T' h' (cells + k) (slots + n) ∧ Qb v h' L ∧ h.size ≤ h'.size ∧ (∀ x, x < h.size → Safe Z EL vm0 h x → Safe Z EL vm0 h' x) ∧
      Steps p.tables e below (T.setTop g) (T'.setTop { g with pc := g.pc + 3, stack := v.toList ++ rest }) := by
  obtain ⟨locs, k0, X, eT, hS, hk, hZ, hown, hC, N, O, hKK⟩ := W
  have hZ' : Z.Warmed39 (s.setVm vm0).vm := hZ
  obtain ⟨cB, kB, i1, i2, i3⟩ := isOf (s := (s.setVm vm0)) hZ' eT E
  obtain ⟨v, vm1, B, -, X', ⟨L, hq, q1, q2, q3⟩, st⟩ := Stand.virtualBack X hx hown (mvT hZ' w1) (mvT hZ' w2) (notFace_of_selects (args := #[]) (mvT hZ' w3)) (mvT hZ' w3) (mvT hZ' w4) hy hB i1 i3 hg hsize (Steps.refl _) hlen hstack hW hdg (fun _ _ => ⟨has, eT, hc, hs⟩)
  obtain ⟨K, NL⟩ := hQ _ _ _ hq
  obtain ⟨W', sf'⟩ := Wk.behindN hS hk hZ hown hC N O hKK X' K NL sf sn q1 q2 q3
  exact ⟨v, B.U, B.U.heap, L, W', hq, K.1, sf', st⟩
theorem Wk.payUp {y z : MethodName} {C owner : String} {as' : Array Value} {Qb : Option Value → Heap → List Loc → Prop} {k n index : Nat} {ws : List Addr} (W : Wk p l e R s m args below meth c Z EL own n0 vm0 T h cells slots) (hx : p.tables.exec = Jvm.exec)
    (w1 : (Cond.methodLink own index y).before a0 Z = true) (wsm : (Cond.sameMethod y.cls owner y.name y.desc).before a0 Z = true) (w2 : (Cond.declares ⟨owner, y.name, y.desc⟩).before a0 Z = true) (ho : owner ≠ "java/lang/invoke/MethodHandle" ∧ owner ≠ "java/lang/invoke/VarHandle") (w3 : (Cond.selects C y z).before a0 Z = true) (w4 : (Cond.instanceMethod z).before a0 Z = true) (hy : y.cls ≠ "java/lang/invoke/MethodHandle" ∧ y.cls ≠ "java/lang/invoke/VarHandle")
    {Wd : Nat} (hB : Back l R p e below (s.setVm vm0) args z 3 Wd (fun A a => a = as' ∧ A.U.heap = h ∧ A.cells + k ≤ R.cells ∧ A.slots + n ≤ R.slots) (fun A _ v B => ∃ L, Qb v B.U.heap L ∧ B.locs = A.locs ++ L ∧ B.cells = A.cells + k ∧ B.slots = A.slots + n))
    (hQ : ∀ v h' L, Qb v h' L → Keep h h' ws ∧ Fr n0 L) (sf : ∀ x ∈ ws, Safe Z EL vm0 h x) (sn : ∀ x ∈ ws, n0 ≤ x) (hc : cells + k ≤ R.cells) (hs : slots + n ≤ R.slots)
    (hg : g.method = m) (hsize : g.locals.size = c.maxLocals) {a : Addr} (E : Exa Z h a C) {argsL rest : List Value} (has : (.ref a :: argsL).toArray = as') (hlen : ∀ sig, parseMethodDescriptor y.desc = some sig → argsL.length = sig.parameters.length) (hstack : g.stack = argsL.reverse ++ .ref a :: rest) (hW : 2 * g.monitorRoom + (rest.map fun v => v.category).sum ≤ Wd) (hdg : decode c.code g.pc = .ok (.invokevirtual index, 3)) :
    ∃ (v : Option Value) (T' : State) (h' : Heap) (L : List Loc), Wk p l e R s m args below meth c Z EL own n0 vm0 T' h' (cells + k) (slots + n) ∧ Qb v h' L ∧ h.size ≤ h'.size ∧ (∀ x, x < h.size → Safe Z EL vm0 h x → Safe Z EL vm0 h' x) ∧
      Steps p.tables e below (T.setTop g) (T'.setTop { g with pc := g.pc + 3, stack := v.toList ++ rest }) := by
  obtain ⟨locs, k0, X, eT, hS, hk, hZ, hown, hC, N, O, hKK⟩ := W
  have hZ' : Z.Warmed39 (s.setVm vm0).vm := hZ
  obtain ⟨cB, kB, i1, i2, i3⟩ := isOf (s := (s.setVm vm0)) hZ' eT E
  obtain ⟨v, vm1, B, -, X', ⟨L, hq, q1, q2, q3⟩, st⟩ := X.virtualBackUp hx hown (mvT hZ' w1) (mvT hZ' wsm) (mvT hZ' w2) ho (mvT hZ' w3) (mvT hZ' w4) hB i1 i3 hg hsize (Steps.refl _) hlen hstack hW hdg (fun _ _ => ⟨has, eT, hc, hs⟩)
  obtain ⟨K, NL⟩ := hQ _ _ _ hq
  obtain ⟨W', sf'⟩ := Wk.behindN hS hk hZ hown hC N O hKK X' K NL sf sn q1 q2 q3
  exact ⟨v, B.U, B.U.heap, L, W', hq, K.1, sf', st⟩
open Jvm.Free.Exc in
theorem own_ths (O : Old Z n0 h) : ThS Z h := fun st _ _ cell _ _ _ h4 _ => O.2.2 st cell h4
open Jvm.Free.Exc LibCode.Throwable in
/-- Throwable's bundle out of the words at hand: 'suppressedExceptions' is laid in the receiver's class (rc), not in Throwable's own list -/
theorem own_thr {x : Array Value} {b : State} {pl : Platform} {rc : String} (howns : pl.frameOwnsMonitors = true) (hfin : pl.finalization = false) (hpl : pl.magicAccessors = ({} : Platform).magicAccessors)
    (hrc : Cond.lays rc tN "suppressedExceptions" listD ≠ .lays tN tN "suppressedExceptions" listD) (W : ∀ d ∈ excAtoms rc, d ≠ .lays tN tN "suppressedExceptions" listD → d.before x b = true) :
    ∃ T : ThrowableC, T.Links pl b ∧ b.vm.findClass tN = some T.cT ∧ b.methodNamed? tFill = some T.fill ∧ b.methodNamed? tFill0 = some T.fill0 ∧ b.fieldFound? tN "stackTrace" steD = some (T.cT, T.kT, T.i17, T.fStack) ∧
      b.fieldFound? tN "UNASSIGNED_STACK" steD = some (T.cT, T.kT, T.i13, T.fUnassigned) ∧ T.fStack.name = "stackTrace" ∧ T.fStack.type = .array (.object "java/lang/StackTraceElement") ∧ ∃ cell, b.heap[T.aS]? = some cell ∧ cell.vm.isStatics = true := by
  have a : ∀ d, d ∈ excAtoms rc → d ≠ .lays tN tN "suppressedExceptions" listD → d.holds x b none b [] = true := fun d hd hn => W d hd hn
  obtain ⟨⟨c, i0⟩, m0, n0, p0, nat0, cd0, lk0, sg0⟩ := Cond.native_spec (a (.native tFill0) (by simp [excAtoms, throwableAtoms]) (by decide))
  have hc : b.vm.findClass tN = some c := findClass_of_methodNamed n0
  obtain ⟨k, hk, hname⟩ := Vm.findClass_spec hc
  obtain ⟨_, k1, _, _, hk1, _, _, -, _, hni⟩ := Cond.superclass_spec hc (a (.superclass tN "java/lang/Object") (by simp [excAtoms, throwableAtoms]) (by decide))
  cases Option.some.inj (hk.symm.trans hk1)
  obtain ⟨iF, mF, nF, qF, atF, stF, abF, -, -⟩ := Cond.ownMethod (x := tFill) hc hk (a (.instanceMethod tFill) (by simp [excAtoms, throwableAtoms]) (by decide))
  obtain ⟨mF', cF, qF', cdF, bF, lF, rF, lkF, -, sgF⟩ := Cond.codeSync_spec nF (a (.codeSync tFill Fill.code 1 (some (.object tN))) (by simp [excAtoms, throwableAtoms]) (by decide))
  cases Option.some.inj (qF.symm.trans qF')
  obtain ⟨j0, m0', n0', q0, at0, st0, ab0, nm0, ds0⟩ := Cond.ownMethod (x := tFill0) hc hk (a (.instanceMethod tFill0) (by simp [excAtoms, throwableAtoms]) (by decide))
  cases Option.some.inj (n0.symm.trans n0')
  cases Option.some.inj (p0.symm.trans q0)
  obtain ⟨mO, meO, nO, qO, stO, abO⟩ := Cond.instanceMethod_spec (a (.instanceMethod oInit) (by simp [excAtoms, throwableAtoms]) (by decide))
  obtain ⟨meO', cO, qO', cdO, bO, lO, -, lkO, -, sgO⟩ := Cond.code_spec nO (a (.code oInit ⟨#[0xb1]⟩ 1 none) (by simp [excAtoms, throwableAtoms]) (by decide))
  cases Option.some.inj (qO.symm.trans qO')
  obtain ⟨kO, hkO, hnO⟩ := Vm.findClass_spec (findClass_of_methodNamed nO)
  obtain ⟨nmO, dsO⟩ := name_of_methodNamed nO qO
  obtain ⟨ci1, n1, cf, l1, r1, f1, p1⟩ := Cond.linkedMethod hc hk nO (a (.methodLink tN 1 oInit) (by simp [excAtoms, throwableAtoms]) (by decide)) pl hpl
  obtain ⟨ci27, n27, cf2, l27, r27, f27, p27⟩ := Cond.linkedMethod hc hk nF (a (.methodLink tN 27 tFill) (by simp [excAtoms, throwableAtoms]) (by decide)) pl hpl
  cases Option.some.inj (f1.symm.trans f27)
  obtain ⟨ci202, n202, cf3, l202, r202, f202, p202⟩ := Cond.linkedMethod hc hk n0 (a (.methodLink tN 202 tFill0) (by simp [excAtoms, throwableAtoms]) (by decide)) pl hpl
  cases Option.some.inj (f1.symm.trans f202)
  obtain ⟨ci7, i7, g7, k7, r7, a7, s7, z7, -, -, -⟩ := Cond.ownField (t := .object tN) hc hk (by decide +kernel) (a (.fieldLink tN 7 tN "cause" thD) (by simp [excAtoms, throwableAtoms]) (by decide)) (a (.lays rc tN "cause" thD) (by simp [excAtoms]) (by simp)) pl hpl
  obtain ⟨ci17, i17, g17, k17, r17, a17, s17, z17, nn17, tt17, ff17⟩ := Cond.ownField (t := .array (.object "java/lang/StackTraceElement")) hc hk (by decide +kernel) (a (.fieldLink tN 17 tN "stackTrace" steD) (by simp [excAtoms, throwableAtoms]) (by decide)) (a (.lays rc tN "stackTrace" steD) (by simp [excAtoms]) (by simp)) pl hpl
  obtain ⟨ci24, i24, g24, k24, r24, a24, s24, z24, nn24, -, ff24⟩ := Cond.ownField (t := .object "java/util/List") hc hk (by decide +kernel) (a (.fieldLink tN 24 tN "suppressedExceptions" listD) (by simp [excAtoms, throwableAtoms]) (by decide)) (a (.lays rc tN "suppressedExceptions" listD) (by simp [excAtoms]) hrc) pl hpl
  obtain ⟨ci13, i13, g13, aS, cellS, k13, r13, a13, s13, -, -, sta, hcS, hiS, -, -, ff13⟩ := Cond.ownStatic (t := .array (.object "java/lang/StackTraceElement")) hc hk (by decide +kernel) (a (.fieldLink tN 13 tN "UNASSIGNED_STACK" steD) (by simp [excAtoms, throwableAtoms]) (by decide)) (a (.laysStatic tN "UNASSIGNED_STACK" steD) (by simp [excAtoms, throwableAtoms]) (by decide)) pl hpl
  obtain ⟨ci20, i20, g20, _, _, k20, r20, a20, s20, -⟩ := Cond.ownStatic (t := .object "java/util/List") hc hk (by decide +kernel) (a (.fieldLink tN 20 tN "SUPPRESSED_SENTINEL" listD) (by simp [excAtoms, throwableAtoms]) (by decide)) (a (.laysStatic tN "SUPPRESSED_SENTINEL" listD) (by simp [excAtoms, throwableAtoms]) (by decide)) pl hpl
  obtain ⟨cR, kR, cM, kM, iM, fM, hcR, hkR, ffM, sM, zM, _⟩ := Cond.lays_spec (a (.lays rc tN "detailMessage" msgD) (by simp [excAtoms]) (by simp))
  obtain ⟨-, d17, e17, en17⟩ := Cond.laysAt hcR hkR ff17 (a (.lays rc tN "stackTrace" steD) (by simp [excAtoms]) (by simp))
  obtain ⟨-, d24, e24, en24⟩ := Cond.laysAt hcR hkR ff24 (a (.lays rc tN "suppressedExceptions" listD) (by simp [excAtoms]) hrc)
  have pF : mF.sig.parameters = [] := by
    have q : (parseMethodDescriptor tFill.desc).map (·.parameters) = some [] := by decide +kernel
    rw [sgF] at q; simpa using q
  have p0' : m0.sig.parameters = [.int] := by
    have q : (parseMethodDescriptor tFill0.desc).map (·.parameters) = some [.int] := by decide +kernel
    rw [sg0] at q; simpa using q
  have pO : meO.sig.parameters.length = 0 := by
    have q : (parseMethodDescriptor oInit.desc).map (·.parameters.length) = some 0 := by decide +kernel
    rw [sgO] at q; simpa using q
  refine ⟨{ cT := c, kT := k, cO := c, aS := aS, fillIdx := iF, fill0Idx := i0, initSIdx := iF, obj := mO, kObj := kO, methFill := mF, methFill0 := m0, methInitS := mF, methObj := meO, codeFill := cF, codeInitS := cF, codeObj := cO, fBack := g7, fDepth := g7, fStack := g17, fCause := g7, fSupp := g24, fMsg := fM, fUnassigned := g13, fSentinel := g20, cfT := cf, ci1 := ci1, n1 := n1, ci27 := ci27, n27 := n27, ci202 := ci202, n202 := n202, ci7 := ci7, i7 := i7, ci13 := ci13, i13 := i13, ci17 := ci17, i17 := i17, ci20 := ci20, i20 := i20, ci24 := ci24, i24 := i24 }, ?_, hc, nF, n0, ff17, ff13, nn17, tt17, cellS, hcS, hiS⟩
  constructor
  case owns => exact howns
  case noFinalization => exact hfin
  case boot => exact Vm.findClass_boot hc hk
  case initialized => exact Cond.initialized_spec hc hk (a (.initialized tN) (by simp [excAtoms, throwableAtoms]) (by decide))
  case objFound => rw [dsO]; exact lookupSpecial_of_named nO qO stO
  case stackApartSupp => exact Cond.laysApart e17 e24 en17 en24 (by rw [nn17, nn24]; decide)
  all_goals assumption
open Jvm.Free.Exc in
theorem Wk.fill (W : Wk p l e R s m args below meth c Z EL own n0 vm0 T h cells slots) (hx : p.tables.exec = Jvm.exec) (hl : l.stackTraces = true) {rc : String} {n : Nat} (hrc : Cond.lays rc tN "suppressedExceptions" listD ≠ .lays tN tN "suppressedExceptions" listD) (hwx : ∀ d ∈ excAtoms rc, d ≠ .lays tN tN "suppressedExceptions" listD → d.before a0 Z = true) (wi : (Cond.instantiable rc n).before a0 Z = true)
    (hT : own = tN) (O0 : Old Z n0 s.heap) {a us : Addr} (E : Exa Z h a rc) (Nn : Unt h a) (Bk : Fld Z h a tN "backtrace" obD .null) (FS : Fld Z h a tN "stackTrace" steD (.ref us)) (HU : Sta Z Z.heap tN "UNASSIGNED_STACK" steD (.ref us)) (S : Safe Z EL vm0 h a) (ha : n0 ≤ a)
    (hg : g.method = m) (hsize : g.locals.size = c.maxLocals) {rest : List Value} (hs : g.stack = .ref a :: rest) (hd : decode c.code g.pc = .ok (.invokevirtual 27, 3)) {Wd : Nat} (hW : 2 * g.monitorRoom + (rest.map fun v => v.category).sum ≤ Wd)
    (hf : 3 ≤ R.frames) (hlo : Wd + 42 ≤ R.locals) (hc : cells + 1 ≤ R.cells) (hsl : slots + 2752 ≤ R.slots) :
    ∃ T' h', Wk p l e R s m args below meth c Z EL own n0 vm0 T' h' (cells + 1) (slots + 2752) ∧ Kp Z h h' a ∧ Keep h h' [a] ∧ Exa Z h' a rc ∧ Unt h' a ∧ (∀ x, x < h.size → Safe Z EL vm0 h x → Safe Z EL vm0 h' x) ∧
      ∀ target, Steps p.tables e below (T'.setTop { g with pc := g.pc + 3, stack := .ref a :: rest }) target → Steps p.tables e below (T.setTop g) target := by
  obtain ⟨locs, k0, X, eT, hS, hk, hZ, hown, hC, N, O, hKK⟩ := W
  subst hT
  have hal : Z.vm.Alike (s.setVm vm0).vm := hZ.alike
  have hZ' : Z.Warmed39 (s.setVm vm0).vm := hZ
  have hTh : ThS Z (s.setVm vm0).heap := own_ths O0
  have q : ∀ d ∈ excAtoms rc, d ≠ .lays tN tN "suppressedExceptions" listD → d.before args (s.setVm vm0) = true := fun d hd hne => mvX hTh hZ' (List.all_eq_true.mp exc_ok d hd) (hwx d hd hne)
  have htr : e.platform.stackTraces = true := by rw [X.admits.platform]; exact hl
  have howns : e.platform.frameOwnsMonitors = true := by rw [X.admits.platform]
  have hfin : e.platform.finalization = false := by rw [X.admits.platform]
  have hpl : e.platform.magicAccessors = ({} : Platform).magicAccessors := by rw [X.admits.platform]
  obtain ⟨Th, L, fT, nF, nf0, ffS, ffU, nmS, tyS, -⟩ := own_thr howns hfin hpl hrc q
  obtain ⟨cell, kX, e1, e2, e3, e4, e5⟩ := id E
  obtain ⟨cell2, u1, u2, u3⟩ := id Nn
  cases e1.symm.trans u1
  have hfound : (s.setVm vm0).vm.findClass rc = some cell.cls := by rw [hal.findClass]; exact e2
  obtain ⟨ci, ki, i1, i2, i3, -⟩ := Cond.instantiable_spec wi
  cases e2.symm.trans i1
  cases e3.symm.trans i2
  obtain ⟨kX', hkx, hek⟩ := hal.2.2 _ _ e3
  have hord : kX'.kind = .ordinary := by rw [hek]; exact i3
  have hsz : cell.slots.size = kX'.instanceTypes.size := by rw [hek]; exact e5 i3
  have hsel0 : selectMethod e.platform (s.setVm vm0).vm cell.cls Th.fill0 = .method Th.fill0 := by
    obtain ⟨c2, r2, m2, q1, q2, q3, q4, -⟩ := Cond.selects_spec (q (.selects rc tFill0 tFill0) (by simp [excAtoms, throwableAtoms]) (by simp [tN]))
    cases Option.some.inj (q1.symm.trans hfound)
    cases Option.some.inj (q2.symm.trans (State.methodFound?_of_named nf0 (by decide)))
    cases Option.some.inj (q3.symm.trans nf0)
    rw [Launch.admits_selectMethod X.admits]; exact q4
  obtain ⟨cf, iu, ku, fu, st0, cellS, v1, v2, v3, v4, v5, v6, v7⟩ := (HU.ext O.2 : Sta Z h tN "UNASSIGNED_STACK" steD (.ref us))
  obtain ⟨ku', w1, w2⟩ := State.fieldFound?_setVm (s := Z) hal v1
  cases (show (s.setVm vm0).fieldFound? tN "UNASSIGNED_STACK" steD = _ from w1).symm.trans ffU
  have hst : Th.kT.statics = some st0 := by rw [w2]; exact v4
  cases Option.some.inj (hst.symm.trans L.statics)
  have hneS : Th.aS ≠ a := fun z => by
    rw [z, e1] at v5; cases v5; rw [e4] at v6; cases v6
  obtain ⟨ci198, i198, fB, hk198, hg198, ha198, hsB, -, hnB, htB, hffB⟩ := Cond.ownField (t := .object "java/lang/Object") fT L.cls (by decide +kernel) (q (.fieldLink tN 198 tN "backtrace" obD) (by simp [excAtoms, throwableAtoms]) (by simp [tN])) (q (.lays rc tN "backtrace" obD) (by simp [excAtoms, throwableAtoms]) (by simp [tN])) e.platform hpl
  obtain ⟨cD1, kD1, cD, kD, iD, fD, -, -, hffD, hstD, -⟩ := Cond.lays_spec (q (.lays rc tN "depth" "I") (by simp [excAtoms, throwableAtoms]) (by simp [tN]))
  cases Option.some.inj ((Cond.lays_declared (q (.lays rc tN "depth" "I") (by simp [excAtoms, throwableAtoms]) (by simp [tN])) hffD).symm.trans fT)
  obtain ⟨hkD, hatD⟩ := State.fieldFound?_spec hffD
  cases Option.some.inj (hkD.symm.trans L.cls)
  obtain ⟨hnD, htD⟩ := State.fieldFound?_type hffD (t := .int) (by decide +kernel)
  have hfb := Cond.soleField_find fT L.cls (q (.soleField tN "backtrace") (by simp [excAtoms, throwableAtoms]) (by simp [tN])) ha198 hnB hsB
  have hfd := Cond.soleField_find fT L.cls (q (.soleField tN "depth") (by simp [excAtoms, throwableAtoms]) (by simp [tN])) hatD hnD hstD
  obtain ⟨comp, cO, kO, -, -, hkO, hkindO, hO⟩ := Cond.arrayOver_spec (q (.arrayOver (.object "java/lang/Object")) (by simp [excAtoms, throwableAtoms]) (by simp [tN]))
  obtain ⟨tS, -⟩ := Cond.laysAt hfound hkx ffS (q (.lays rc tN "stackTrace" steD) (by simp [excAtoms, throwableAtoms]) (by simp [tN]))
  obtain ⟨tB, -⟩ := Cond.laysAt hfound hkx hffB (q (.lays rc tN "backtrace" obD) (by simp [excAtoms, throwableAtoms]) (by simp [tN]))
  obtain ⟨tD, -⟩ := Cond.laysAt hfound hkx hffD (q (.lays rc tN "depth" "I") (by simp [excAtoms, throwableAtoms]) (by simp [tN]))
  have tk : ∀ {f : Field} {v : Value}, kX'.instanceTypes[f.slot]? = some f.type → fits f.type v = true → Jvm.Takes (s.setVm vm0) cell f v := fun {f v} h1 h2 => by
    obtain ⟨q1, q2⟩ := Takes.of_laid (v := v) hkx hord h1 h2
    exact ⟨by rw [hsz]; simpa using q1, by rw [u2]; exact q2⟩
  obtain ⟨c3, cf3, k3, j3, f3, b1, b2, -, -, -, -, b7⟩ := Bk
  cases e1.symm.trans b1
  obtain ⟨k3', y1, -⟩ := State.fieldFound?_setVm (s := Z) hal b2
  cases (show (s.setVm vm0).fieldFound? tN "backtrace" obD = _ from y1).symm.trans hffB
  obtain ⟨c4, cf4, k4, j4, f4, d1, d2, -, -, -, -, d7⟩ := FS
  cases e1.symm.trans d1
  obtain ⟨k4', y2, -⟩ := State.fieldFound?_setVm (s := Z) hal d2
  cases (show (s.setVm vm0).fieldFound? tN "stackTrace" steD = _ from y2).symm.trans ffS
  obtain ⟨c5, k5, i5, d5⟩ := Jvm.Free.BdW.found_ride (U := (s.setVm vm0)) (U' := Z) hal.symm ⟨_, _, _, hffD⟩
  have hSE := q (.selects rc tFill tFill) (by simp [excAtoms, throwableAtoms]) (by simp [tN])
  obtain ⟨v, vm1, Bp, -, X', ⟨hv, vm', lines, hlines, -, hU, hL, hcc, hss⟩, st⟩ := X.virtualBack hx (own := tN) (C := rc) (index := 27) (y := tFill) (z := tFill) hown (q (.methodLink tN 27 tFill) (by simp [excAtoms, throwableAtoms]) (by simp [tN])) (q (.declares tFill) (by simp [excAtoms, throwableAtoms]) (by simp [tN])) (notFace_of_selects hSE) hSE (q (.instanceMethod tFill) (by simp [excAtoms, throwableAtoms]) (by simp [tN])) (by decide)
    (Jvm.Free.Str.fillPays (l := l) (W := Wd) hx htr Th L nF (u0 := ⟨.ref us, rfl⟩) (by simp) (self := a) (cell := cell) (cellS := cellS) (fun _ => by rw [u2]; simp) (by rw [u2]; simp) (by rw [u3]) (by rw [u3]) d7 hsel0 hneS (fun z => by rw [z] at v6; cases v6) v7 (tk tS (by rw [tyS]; rfl))
      ⟨{ ci198 := ci198, i198 := i198, fBack := fB }, ⟨hk198, hg198, ha198, hsB⟩, b7⟩ hKK.1 hKK.2 fT hO hkO hkindO hfb hfd (fun x => tk tB (by rw [htB]; rfl)) (fun x => tk tD (by rw [htD]; rfl)) (by omega) (by omega))
    (b := a) (cB := cell.cls) hfound ⟨cell, by rw [eT]; exact e1, rfl, e4⟩ hg hsize (Steps.refl _) (argsL := []) (rest := rest)
    (fun sig h => by rw [show parseMethodDescriptor tFill.desc = some ⟨[], some (.object tN)⟩ from by decide +kernel] at h; rw [← Option.some.inj h]; rfl) hs hW hd
    (fun vmx _ => ⟨rfl, hc, hsl, by show T.heap[a]? = _; rw [eT]; exact e1, by show T.heap[_]? = _; rw [eT]; exact v5⟩)
  subst hv
  have eh : Bp.U.heap = (h.push (traceHolder cO lines)).setIfInBounds a (((cell.setSlot fB.slot (.ref h.size)).setSlot fD.slot (.int lines.length.toInt32)).setSlot Th.fStack.slot (.ref us)) := by rw [hU, ← eT]; rfl
  have hlt : a < h.size := (Array.getElem?_eq_some_iff.mp e1).1
  have K : Kp Z h Bp.U.heap a := by
    rw [eh]
    refine ⟨by simp, fun y cy hy => ?_⟩
    have hy' : y < h.size := (Array.getElem?_eq_some_iff.mp hy).1
    by_cases z : y = a
    · subst z
      cases e1.symm.trans hy
      refine ⟨_, Array.getElem?_setIfInBounds_self_of_lt (by rw [Array.size_push]; exact Nat.lt_succ_of_lt hy'), rfl, by simp [Cell.setSlot], fun w => absurd rfl w, fun i hi => ?_⟩
      have n1 : fB.slot ≠ i := by have z := hi ("backtrace", obD) (by simp [sixNames]); simpa [RoadKit.slotOf, b2] using z
      have n2 : fD.slot ≠ i := by have z := hi ("depth", "I") (by simp [sixNames]); simpa [RoadKit.slotOf, d5] using z
      have n3 : Th.fStack.slot ≠ i := by have z := hi ("stackTrace", steD) (by simp [sixNames]); simpa [RoadKit.slotOf, d2] using z
      simp [Cell.setSlot, Array.getElem?_setIfInBounds, n1, n2, n3]
    · exact ⟨cy, by rw [Array.getElem?_setIfInBounds_ne (Ne.symm z), Array.getElem?_push_lt hy']; exact (Array.getElem?_eq_getElem hy').symm.trans hy, rfl, rfl, fun _ => rfl, fun _ _ => rfl⟩
  have KK := keep_of_kp K
  have X2 : Stand p l e R (s.setVm vm0) m args below meth c Bp.U (locs ++ [⟨a, fB.slot⟩, ⟨a, fD.slot⟩, ⟨a, Th.fStack.slot⟩]) (cells + 1) (slots + 2752) := by
    have X3 := X'
    rw [hL, hcc, hss] at X3
    exact X3.more (Nat.le_refl _) (Nat.add_le_add_left (traceHolder_size_le cO hlines) _)
  have NN : Fr n0 (locs ++ [⟨a, fB.slot⟩, ⟨a, fD.slot⟩, ⟨a, Th.fStack.slot⟩]) := N.app fun y hy => by
    simp only [List.mem_cons, List.not_mem_nil, or_false] at hy
    rcases hy with rfl | rfl | rfl <;> exact ha
  exact ⟨Bp.U, Bp.U.heap, ⟨_, k0, X2, rfl, hS, Nat.le_trans hk KK.1, hZ, hown, hC.trans (CHr.keep KK (allS S all0) hC.1), NN, O.keep KK (allS ha all0), hKK⟩, K, KK, E.kp K, Nn.kp K, fun x _ q => Safe.keep KK (allS S all0) hC.1 q, fun target k => st.trans k⟩
/-- own fields of an exception's class lie beside Throwable's six -/
theorem own_six {rc O n d : String} {ty : FieldType} (hw : ∀ nd ∈ Jvm.Free.Exc.sixNames, (Cond.lays rc tN nd.1 nd.2).before a0 Z = true) (Lf : Laid Z a0 rc O n d) (ht : parseFieldDescriptor d = some ty) (hn : ∀ nd ∈ Jvm.Free.Exc.sixNames, nd.1 ≠ n) : ∀ nd ∈ Jvm.Free.Exc.sixNames, RoadKit.slotOf Z tN nd.1 nd.2 ≠ RoadKit.slotOf Z O n d := fun nd hm => by
  have q := hn nd hm
  have w := hw nd hm
  simp only [Jvm.Free.Exc.sixNames, List.mem_cons, List.not_mem_nil, or_false] at hm
  rcases hm with rfl | rfl | rfl | rfl | rfl | rfl
  · exact slot_ne (Or.inl w) Lf q (t := .object tN) (by decide) ht
  · exact slot_ne (Or.inl w) Lf q (t := .array (.object "java/lang/StackTraceElement")) (by decide) ht
  · exact slot_ne (Or.inl w) Lf q (t := .object "java/util/List") (by decide) ht
  · exact slot_ne (Or.inl w) Lf q (t := .object "java/lang/Object") (by decide) ht
  · exact slot_ne (Or.inl w) Lf q (t := .int) (by decide) ht
  · exact slot_ne (Or.inl w) Lf q (t := .object "java/lang/String") (by decide) ht
theorem Wk.len (W : Wk p l e R s m args below meth c Z EL own n0 vm0 T h cells slots) (hx : p.tables.exec = Jvm.exec) {a : Addr} {k : ClassId} {ty : FieldType} {z : Int32} {vs : List Value} {d : Value} (A : Arv Z h a k ty z vs d)
    (hg : g.method = m) {rest : List Value} (hs : g.stack = .ref a :: rest) (hd : decode c.code g.pc = .ok (.arraylength, 1)) :
    ∀ target, Steps p.tables e below (T.setTop { g with pc := g.pc + 1, stack := .int z :: rest }) target → Steps p.tables e below (T.setTop g) target := fun target k => by
  obtain ⟨locs, X⟩ := W.stand
  obtain ⟨cl, A1, q1, q2, q3, -⟩ := A
  refine X.arraylength hx (by rw [W.heap]; exact A1.1) (State.isArrayOf_alike W.warmS.alike A1.2.1) (g := g) hg hs hd _ ?_
  rw [len_of q2 q3]; exact k
theorem Wk.ldC (W : Wk p l e R s m args below meth c Z EL own n0 vm0 T h cells slots) (hx : p.tables.exec = Jvm.exec) {a : Addr} {k : ClassId} {z j : Int32} {vs : List Value} {d : Value} (A : Arv Z h a k .char z vs d) (hj : ¬ j < 0 ∧ j < z) {v : Value} (hv : vs.getD j.toNatClampNeg d = v)
    (hg : g.method = m) {rest : List Value} (hs : g.stack = .int j :: .ref a :: rest) (hd : decode c.code g.pc = .ok (.caload, 1)) :
    ∀ target, Steps p.tables e below (T.setTop { g with pc := g.pc + 1, stack := v :: rest }) target → Steps p.tables e below (T.setTop g) target := fun target k => by
  obtain ⟨locs, X⟩ := W.stand
  obtain ⟨cl, A1, q1, q2, q3, q4, -⟩ := A
  exact X.caload hx (by rw [W.heap]; exact A1.1) (State.isArrayOf_alike W.warmS.alike A1.2.1) A1.2.2 (inb_of q2 hj) (q4.at (inb_of q2 hj) hv) hg hs hd _ k
theorem Wk.ldB (W : Wk p l e R s m args below meth c Z EL own n0 vm0 T h cells slots) (hx : p.tables.exec = Jvm.exec) {a : Addr} {k : ClassId} {z j : Int32} {vs : List Value} {d : Value} (A : Arv Z h a k .byte z vs d) (hj : ¬ j < 0 ∧ j < z) {v : Value} (hv : vs.getD j.toNatClampNeg d = v)
    (hg : g.method = m) {rest : List Value} (hs : g.stack = .int j :: .ref a :: rest) (hd : decode c.code g.pc = .ok (.baload, 1)) :
    ∀ target, Steps p.tables e below (T.setTop { g with pc := g.pc + 1, stack := v :: rest }) target → Steps p.tables e below (T.setTop g) target := fun target k => by
  obtain ⟨locs, X⟩ := W.stand
  obtain ⟨cl, A1, q1, q2, q3, q4, -⟩ := A
  exact X.baloadBytes hx (by rw [W.heap]; exact A1.1) (State.isArrayOf_alike W.warmS.alike A1.2.1) A1.2.2 (inb_of q2 hj) (q4.at (inb_of q2 hj) hv) hg hs hd _ k
theorem Wk.ldI (W : Wk p l e R s m args below meth c Z EL own n0 vm0 T h cells slots) (hx : p.tables.exec = Jvm.exec) {a : Addr} {k : ClassId} {z j : Int32} {vs : List Value} {d : Value} (A : Arv Z h a k .int z vs d) (hj : ¬ j < 0 ∧ j < z) {v : Value} (hv : vs.getD j.toNatClampNeg d = v)
    (hg : g.method = m) {rest : List Value} (hs : g.stack = .int j :: .ref a :: rest) (hd : decode c.code g.pc = .ok (.iaload, 1)) :
    ∀ target, Steps p.tables e below (T.setTop { g with pc := g.pc + 1, stack := v :: rest }) target → Steps p.tables e below (T.setTop g) target := fun target k => by
  obtain ⟨locs, X⟩ := W.stand
  obtain ⟨cl, A1, q1, q2, q3, q4, -⟩ := A
  exact X.iaload hx (by rw [W.heap]; exact A1.1) (State.isArrayOf_alike W.warmS.alike A1.2.1) A1.2.2 (inb_of q2 hj) (q4.at (inb_of q2 hj) hv) hg hs hd _ k
theorem Wk.ldcJ (W : Wk p l e R s m args below meth c Z EL own n0 vm0 T h cells slots) (hx : p.tables.exec = Jvm.exec) {index : Nat} {v : Int64} (w : (Cond.constantLong own index v).before a0 Z = true) (hg : g.method = m) (hd : decode c.code g.pc = .ok (.ldc2_w index, 3)) :
    ∀ target, Steps p.tables e below (T.setTop { g with pc := g.pc + 3, stack := .long v :: g.stack }) target → Steps p.tables e below (T.setTop g) target := by
  obtain ⟨locs, X⟩ := W.stand
  exact X.ldc2Long hx W.owns (mvT W.warmS w) hg hd
theorem Wk.ldcD (W : Wk p l e R s m args below meth c Z EL own n0 vm0 T h cells slots) (hx : p.tables.exec = Jvm.exec) {index : Nat} {v : UInt64} (w : (Cond.constantDouble own index v).before a0 Z = true) (hg : g.method = m) (hd : decode c.code g.pc = .ok (.ldc2_w index, 3)) :
    ∀ target, Steps p.tables e below (T.setTop { g with pc := g.pc + 3, stack := .double v :: g.stack }) target → Steps p.tables e below (T.setTop g) target := by
  obtain ⟨locs, X⟩ := W.stand
  exact X.ldc2DoubleC hx W.owns (mvT W.warmS w) hg hd
theorem Go.join {α : Type} {f : α → JFrame} (hb : (∀ y, Go p e below Q T (f y)) → Go p e below Q T g) (k : ∀ y, Go p e below Q T (f y)) : Go p e below Q T g := hb k
theorem Wk.ldcI (W : Wk p l e R s m args below meth c Z EL own n0 vm0 T h cells slots) (hx : p.tables.exec = Jvm.exec) {index : Nat} {v : Int32} (w : (Cond.constant own index v).before a0 Z = true) (hg : g.method = m) (hd : decode c.code g.pc = .ok (.ldc index, 2)) :
    ∀ target, Steps p.tables e below (T.setTop { g with pc := g.pc + 2, stack := .int v :: g.stack }) target → Steps p.tables e below (T.setTop g) target := by
  obtain ⟨locs, X⟩ := W.stand
  exact X.ldcInt hx W.owns (mvT W.warmS w) hg hd
theorem Wk.acmp {target : State} (W : Wk p l e R s m args below meth c Z EL own n0 vm0 T h cells slots) (hx : p.tables.exec = Jvm.exec) (hg : g.method = m) {cd : ACond} {x y : Value} (h1 : x.isRef = true) (h2 : y.isRef = true) {rest : List Value} {o : Int} {pc0 pc' : Nat} {same : Bool} (hpc : g.pc = pc0)
    (hd : decode c.code g.pc = .ok (.if_acmp cd o, 3)) (hs : g.stack = y :: x :: rest) (hq : decide (x = y) = same) (ho : 0 ≤ (pc0 : Int) + o) (hp : pc' = if acV cd same = true then ((pc0 : Int) + o).toNat else pc0 + 3)
    (hr : Steps p.tables e below (T.setTop { g with pc := pc', stack := rest }) target) : Steps p.tables e below (T.setTop g) target := by
  obtain ⟨locs, X⟩ := W.stand
  exact RoadKit.acmp X hx hg h1 h2 hpc hd hs hq ho hp hr
theorem Wk.irem {target : State} (W : Wk p l e R s m args below meth c Z EL own n0 vm0 T h cells slots) (hx : p.tables.exec = Jvm.exec) (hg : g.method = m) {x y : Int32} {rest : List Value} (hd : decode c.code g.pc = .ok (.irem, 1)) (hs : g.stack = .int y :: .int x :: rest) (hy : y ≠ 0)
    (hr : Steps p.tables e below (T.setTop { g with pc := g.pc + 1, stack := .int (x % y) :: rest }) target) : Steps p.tables e below (T.setTop g) target := by
  obtain ⟨locs, X⟩ := W.stand
  exact RoadKit.iremM X hx hg hd hs hy hr
end OwnKit
end Jvm.Pilot.@@N@@
namespace Jvm.Pilot.@@N@@
open Jvm Jvm.ClassFile Sem Op Lib Jvm.Free Jvm.Stand Jvm.LawKit Jvm.RoadKit Bundle Jvm.Pilot.@@N@@.Jvm.D
section OwnKit2
variable {p : Program} {l : Launch} {e : Env} {R : Room} {s : State} {m : MethodId} {args : Array Value} {below : List Frame} {meth : Method} {c : Code} {T T' : State} {cells slots : Nat} {Z : State} {a0 : Array Value} {EL : List (String × Nat)} {vm0 : Vm} {h h' : Heap} {own : String} {n0 : Nat} {Q : Outcome → State → Prop} {g g' : JFrame}
theorem own_fitsR {v : Value} {C : String} (h : v.isRef = true) : fits (.object C) v = true := by cases v <;> simp [Value.isRef, fits] at h ⊢
theorem own_fitsA {v : Value} {t : FieldType} (h : v.isRef = true) : fits (.array t) v = true := by cases v <;> simp [Value.isRef, fits] at h ⊢
/-- a String whose value is null yet is no booked constant -/
theorem own_safe_blank {x : Addr} {vm : Vm} (hal : Z.vm.Alike vm) (E : Exa Z h x "java/lang/String") (F : Fld Z h x "java/lang/String" "value" "[B" .null) : Safe Z EL vm h x := fun B => by
  obtain ⟨pe, -, u, a, -, q, -, F', rfl | rfl⟩ := B
  · obtain ⟨cell, cf, k, i, f, f1, f2, f3, f4, f5, f6, f7⟩ := F
    obtain ⟨cS, ⟨⟨s1, s2, s3, ⟨c1, k1, i1, g1, -⟩, -, s6, s7, v1, -⟩, -⟩, -⟩ := F'
    obtain ⟨k3, e3, -⟩ := State.fieldFound?_setVm (s := Z) hal f2
    have e4 := (show (Wst Z vm h).fieldFound? _ _ _ = _ from e3).symm.trans g1
    simp only [Option.some.injEq, Prod.mk.injEq] at e4
    cases (show h[q.sa]? = some q.sC from s1).symm.trans f1
    rw [← e4.2.2.2, f7] at v1
    cases v1
  · obtain ⟨cell, k, e1, e2, e3, -, -⟩ := E
    have hd := F'.hd
    obtain ⟨cS, -, -, f, -⟩ := F'
    cases (show h[q.sd]? = some q.SA from hd).symm.trans e1
    have f' : vm.findClass "[B" = some q.SA.cls := f
    rw [hal.findClass] at f'
    obtain ⟨k1, q1, q2⟩ := Vm.findClass_spec f'
    obtain ⟨k2, q3, q4⟩ := Vm.findClass_spec e2
    cases q1.symm.trans q3
    have := q2.symm.trans q4
    exact absurd this (by decide)
/-- a String of these chars; t is its byte[] -/
def Str (Z : State) (h : Heap) (x t : Addr) (cs : List Int32) : Prop := Exa Z h x "java/lang/String" ∧ Fld Z h x "java/lang/String" "value" "[B" (.ref t) ∧ ∃ (kb : ClassId) (cd N2 : Int32) (vs : List Value), Fld Z h x "java/lang/String" "coder" "B" (.int cd) ∧ Arv Z h t kb .byte N2 vs (.int 0) ∧ StrChars.Road.CodA cs cd N2 vs ∧ (∀ c ∈ cs, ¬ c < 0 ∧ ¬ (65535 : Int32) < c) ∧ cs.length ≤ 4000
theorem Str.lt {x t : Addr} {cs : List Int32} (F : Str Z h x t cs) : x < h.size ∧ t < h.size := by obtain ⟨E, -, _, _, _, _, -, A, -⟩ := F; exact ⟨E.lt, A.lt⟩
theorem Str.ext {x t : Addr} {cs : List Int32} (F : Str Z h x t cs) (E : Ext h h') : Str Z h' x t cs := by obtain ⟨E1, F1, kb, cd, N2, vs, F2, A, r⟩ := F; exact ⟨E1.ext E, F1.ext E, kb, cd, N2, vs, F2.ext E, A.ext E, r⟩
theorem Str.other {x t a : Addr} {sl : Nat} {v : Value} {cs : List Int32} (F : Str Z h x t cs) (W : Wr h h' a sl v) (n1 : x ≠ a) (n2 : t ≠ a) : Str Z h' x t cs := by obtain ⟨E1, F1, kb, cd, N2, vs, F2, A, r⟩ := F; exact ⟨E1.wr W, F1.other W (Or.inl n1), kb, cd, N2, vs, F2.other W (Or.inl n1), A.other W n2, r⟩
theorem Str.keep {x t : Addr} {ws : List Addr} {cs : List Int32} (F : Str Z h x t cs) (K : Keep h h' ws) (n1 : x ∉ ws) (n2 : t ∉ ws) : Str Z h' x t cs := by obtain ⟨E1, F1, kb, cd, N2, vs, F2, A, r⟩ := F; exact ⟨E1.keep K, F1.keep K n1, kb, cd, N2, vs, F2.keep K n1, A.keep K n2, r⟩
/-- Latin-1: out of the pieces -/
theorem Str.lat {x t : Addr} {kb : ClassId} {N2 : Int32} {vs : List Value} {cs : List Int32} (E : Exa Z h x "java/lang/String") (F : Fld Z h x "java/lang/String" "value" "[B" (.ref t)) (C : Fld Z h x "java/lang/String" "coder" "B" (.int 0)) (A : Arv Z h t kb .byte N2 vs (.int 0)) (hN : N2 = Int32.ofNat cs.length) (hv : vs = cs.map fun c => Value.int (StrChars.lo8 c)) (hc : ∀ c ∈ cs, ¬ c < 0 ∧ ¬ (255 : Int32) < c) (hl : cs.length ≤ 4000) : Str Z h x t cs :=
  ⟨E, F, kb, 0, N2, vs, C, A, Or.inl ⟨rfl, hN, hv, fun c q => (hc c q).2⟩, fun c q => ⟨(hc c q).1, fun z => (hc c q).2 (by
    have h1 := (Int32.lt_iff_toInt_lt).mp z
    rw [Int32.lt_iff_toInt_lt]
    simp at h1 ⊢; omega)⟩, hl⟩
end OwnKit2
end Jvm.Pilot.@@N@@
namespace Jvm.Pilot.@@N@@
open Jvm Jvm.ClassFile Sem Op Lib Jvm.Free Jvm.Stand Jvm.LawKit Jvm.RoadKit Bundle Jvm.Pilot.@@N@@.Jvm.D
/-- what every walk of this claim rests on -/
def Ctx (Z : State) (a0 : Array Value) (l : Launch) : Prop := (∀ d ∈ tables_1, d.before a0 Z = true) ∧ (∃ zc : Int32, Sta Z Z.heap "java/lang/String" "COMPACT_STRINGS" "Z" (.int zc) ∧ ¬ zc = 0) ∧ (∃ zd : Addr, Sta Z Z.heap "java/time/Duration" "ZERO" "Ljava/time/Duration;" (.ref zd) ∧ Exa Z Z.heap zd "java/time/Duration" ∧ Fld Z Z.heap zd "java/time/Duration" "seconds" "J" (.long (0 : Int64)) ∧ Fld Z Z.heap zd "java/time/Duration" "nanos" "I" (.int (0 : Int32))) ∧ (∃ us : Addr, Sta Z Z.heap "java/lang/Throwable" "UNASSIGNED_STACK" "[Ljava/lang/StackTraceElement;" (.ref us)) ∧ (∃ sen : Value, Sta Z Z.heap "java/lang/Throwable" "SUPPRESSED_SENTINEL" "Ljava/util/List;" sen ∧ sen.isRef = true) ∧ l.stackTraces = true
theorem own_EW {Z : State} {a0 : Array Value} (hw : ∀ d ∈ tables_1, d.before a0 Z = true) : EW Z a0 consts_1 := (EW.cons (hw _ (List.mem_of_getElem? (i := 133) rfl)) (by decide) EW.nil)
theorem own_stringAtoms {Z : State} {a0 : Array Value} (hw : ∀ d ∈ tables_1, d.before a0 Z = true) : ∀ d ∈ Bundle.stringAtoms, d.before a0 Z = true := fun d hd => hw d ((by decide +kernel : ∀ d ∈ Bundle.stringAtoms, d ∈ tables_1) d hd)
theorem own_eqI {args : Array Value} {s : State} {t : Term} {n : Int32} (h : (Jvm.Cond.eq t (Jvm.Term.int n)).value args s none s [] = some true) : t.eval args s none [] s = some (.int n) := by
  obtain ⟨x, y, e1, e2, k1, k2⟩ := cmp_v (Or.inl h)
  rw [Term.int_eval] at e2
  cases e2
  obtain ⟨z, rfl⟩ := k2
  have q := gotT (Cond.eq_ints e1 (Term.int_eval n)) h
  rw [e1, q]
theorem own_eqJ {args : Array Value} {s : State} {t : Term} {n : Int64} (h : (Jvm.Cond.eq t (Jvm.Term.long n)).value args s none s [] = some true) : t.eval args s none [] s = some (.long n) := by
  obtain ⟨x, y, e1, e2, k1, k2⟩ := cmp_v (Or.inl h)
  have e3 : (Jvm.Term.long n).eval args s none [] s = some (.long n) := rfl
  rw [e3] at e2
  cases e2
  obtain ⟨z, rfl⟩ := k2
  have q := gotT (eq_L e1 e3) h
  rw [e1, q]
theorem own_exa {args : Array Value} {s : State} {t : Term} {C : String} (h : (Jvm.Cond.exactly t C).value args s none s [] = some true) : ∃ x, t.eval args s none [] s = some (.ref x) := exa_v h
theorem own_all0 {α : Type} {P : α → Prop} : ∀ x ∈ ([] : List α), P x := fun _ q => nomatch q
theorem own_allS {α : Type} {P : α → Prop} {y : α} {L : List α} (q : P y) (r : ∀ x ∈ L, P x) : ∀ x ∈ y :: L, P x := fun x z => (List.mem_cons.mp z).elim (fun u => u ▸ q) (r x)
theorem own_and255 (x : Int32) : ¬ (x &&& (255 : Int32)) < 0 ∧ ¬ (255 : Int32) < (x &&& (255 : Int32)) := by
  have q := c_and x 255 (by decide)
  have e : (255 : Int32).toInt = 255 := rfl
  simp only [Int32.lt_iff_toInt_lt, Int32.reduceToInt, e] at q ⊢
  omega
theorem own_narB (x : Int32) : nar .byte (x.toInt8.toInt32) = x.toInt8.toInt32 := by simp [nar]
theorem own_nochar (x : Int32) : nar .char (x &&& (255 : Int32)) = x &&& (255 : Int32) := i2c_mask x
def own_drawL (a b c l : Int32) : List Int32 := if (l &&& (3 : Int32)) = (0 : Int32) then [] else if (l &&& (3 : Int32)) = (1 : Int32) then [(a &&& (255 : Int32))] else if (l &&& (3 : Int32)) = (2 : Int32) then [(a &&& (255 : Int32)), (b &&& (255 : Int32))] else [(a &&& (255 : Int32)), (b &&& (255 : Int32)), (c &&& (255 : Int32))]
open Jvm.Free.Exc in
theorem own_gc {p : Program} {l : Launch} {e : Env} {R : Room} {s : State} {args : Array Value} {below : List Frame} {Z : State} {a0 : Array Value} {h : Heap} {len W : Nat} {a : Addr} {c0 : Value} (hZ : Z.Warmed39 s.vm) (wc : (Jvm.Cond.codeSync RoadKit.gcN RoadKit.gcB 1 (some (.object tN))).before a0 Z = true) (wi : (Jvm.Cond.instanceMethod RoadKit.gcN).before a0 Z = true) (wz : (Jvm.Cond.initialized tN).before a0 Z = true) (wf : (Jvm.Cond.fieldLink tN 7 tN "cause" thD).before a0 Z = true)
    (N : Unt h a) (F : Fld Z h a tN "cause" thD c0) (hc0 : c0.isRef = true) (hf : 1 ≤ R.frames) (hl : W + 12 ≤ R.locals) :
    Back l R p e below s args RoadKit.gcN len W (fun A as => as = #[.ref a] ∧ A.U.heap = h ∧ A.cells + 0 ≤ R.cells ∧ A.slots + 0 ≤ R.slots)
      (fun A _ v B => ∃ L, (v = some (RoadKit.gcV a c0) ∧ L = [] ∧ B.U.heap = h) ∧ B.locs = A.locs ++ L ∧ B.cells = A.cells + 0 ∧ B.slots = A.slots + 0) :=
  Back.mono (RoadKit.gcBackPure (rm := { frames := 0, cells := 0, slots := 0, locals := 0 }) hZ wc wi wz wf N F hc0 hf hl) (fun _ _ q => q) (fun A as v B _ q => ⟨[], ⟨q.1, rfl, q.2.1⟩, by rw [q.2.2.1, List.append_nil], q.2.2.2.1, q.2.2.2.2⟩)
theorem dd_jdk_2316_method_21_code_0 : decode jdk_2316_method_21_code 0 = .ok (.aload_n 0, 1) := by decide +kernel
theorem dd_jdk_2316_method_21_code_1 : decode jdk_2316_method_21_code 1 = .ok (.getfield 221, 3) := by decide +kernel
theorem dd_jdk_2316_method_21_code_4 : decode jdk_2316_method_21_code 4 = .ok (.aload_n 0, 1) := by decide +kernel
theorem dd_jdk_2316_method_21_code_5 : decode jdk_2316_method_21_code 5 = .ok (.getfield 224, 3) := by decide +kernel
theorem dd_jdk_2316_method_21_code_8 : decode jdk_2316_method_21_code 8 = .ok (.i2l, 1) := by decide +kernel
theorem dd_jdk_2316_method_21_code_9 : decode jdk_2316_method_21_code 9 = .ok (.lor, 1) := by decide +kernel
theorem dd_jdk_2316_method_21_code_10 : decode jdk_2316_method_21_code 10 = .ok (.lconst 0, 1) := by decide +kernel
theorem dd_jdk_2316_method_21_code_11 : decode jdk_2316_method_21_code 11 = .ok (.lcmp, 1) := by decide +kernel
theorem dd_jdk_2316_method_21_code_12 : decode jdk_2316_method_21_code 12 = .ok (.ifCond .ne 7, 3) := by decide +kernel
theorem dd_jdk_2316_method_21_code_15 : decode jdk_2316_method_21_code 15 = .ok (.iconst 1, 1) := by decide +kernel
theorem dd_jdk_2316_method_21_code_16 : decode jdk_2316_method_21_code 16 = .ok (.goto 4, 3) := by decide +kernel
theorem dd_jdk_2316_method_21_code_20 : decode jdk_2316_method_21_code 20 = .ok (.ireturn, 1) := by decide +kernel
theorem dd_jdk_42_method_149_code_0 : decode jdk_42_method_149_code 0 = .ok (.aload_n 0, 1) := by decide +kernel
theorem dd_jdk_42_method_149_code_1 : decode jdk_42_method_149_code 1 = .ok (.invokespecial 1, 3) := by decide +kernel
theorem dd_jdk_42_method_149_code_4 : decode jdk_42_method_149_code 4 = .ok (.iload_n 3, 1) := by decide +kernel
theorem dd_jdk_42_method_149_code_5 : decode jdk_42_method_149_code 5 = .ok (.ifCond .ne 22, 3) := by decide +kernel
theorem dd_jdk_42_method_149_code_8 : decode jdk_42_method_149_code 8 = .ok (.aload_n 0, 1) := by decide +kernel
theorem dd_jdk_42_method_149_code_9 : decode jdk_42_method_149_code 9 = .ok (.ldc 7, 2) := by decide +kernel
theorem dd_jdk_42_method_149_code_11 : decode jdk_42_method_149_code 11 = .ok (.getfield 9, 3) := by decide +kernel
theorem dd_jdk_42_method_149_code_14 : decode jdk_42_method_149_code 14 = .ok (.putfield 9, 3) := by decide +kernel
theorem dd_jdk_42_method_149_code_17 : decode jdk_42_method_149_code 17 = .ok (.aload_n 0, 1) := by decide +kernel
theorem dd_jdk_42_method_149_code_18 : decode jdk_42_method_149_code 18 = .ok (.ldc 7, 2) := by decide +kernel
theorem dd_jdk_42_method_149_code_20 : decode jdk_42_method_149_code 20 = .ok (.getfield 15, 3) := by decide +kernel
theorem dd_jdk_42_method_149_code_23 : decode jdk_42_method_149_code 23 = .ok (.putfield 15, 3) := by decide +kernel
theorem dd_jdk_42_method_149_code_26 : decode jdk_42_method_149_code 26 = .ok (.return_, 1) := by decide +kernel
theorem dd_jdk_42_method_3_code_0 : decode jdk_42_method_3_code 0 = .ok (.aload_n 0, 1) := by decide +kernel
theorem dd_jdk_42_method_3_code_1 : decode jdk_42_method_3_code 1 = .ok (.aload_n 1, 1) := by decide +kernel
theorem dd_jdk_42_method_3_code_2 : decode jdk_42_method_3_code 2 = .ok (.iconst 0, 1) := by decide +kernel
theorem dd_jdk_42_method_3_code_3 : decode jdk_42_method_3_code 3 = .ok (.aload_n 1, 1) := by decide +kernel
theorem dd_jdk_42_method_3_code_4 : decode jdk_42_method_3_code 4 = .ok (.arraylength, 1) := by decide +kernel
theorem dd_jdk_42_method_3_code_5 : decode jdk_42_method_3_code 5 = .ok (.aconst_null, 1) := by decide +kernel
theorem dd_jdk_42_method_3_code_6 : decode jdk_42_method_3_code 6 = .ok (.invokespecial 27, 3) := by decide +kernel
theorem dd_jdk_42_method_3_code_9 : decode jdk_42_method_3_code 9 = .ok (.return_, 1) := by decide +kernel
theorem dd_jdk_42_method_66_code_0 : decode jdk_42_method_66_code 0 = .ok (.aload_n 0, 1) := by decide +kernel
theorem dd_jdk_42_method_66_code_1 : decode jdk_42_method_66_code 1 = .ok (.aload_n 1, 1) := by decide +kernel
theorem dd_jdk_42_method_66_code_2 : decode jdk_42_method_66_code 2 = .ok (.if_acmp .ne 5, 3) := by decide +kernel
theorem dd_jdk_42_method_66_code_5 : decode jdk_42_method_66_code 5 = .ok (.iconst 1, 1) := by decide +kernel
theorem dd_jdk_42_method_66_code_6 : decode jdk_42_method_66_code 6 = .ok (.ireturn, 1) := by decide +kernel
theorem dd_jdk_59_method_3_code_0 : decode jdk_59_method_3_code 0 = .ok (.aload_n 0, 1) := by decide +kernel
theorem dd_jdk_59_method_3_code_1 : decode jdk_59_method_3_code 1 = .ok (.aload_n 1, 1) := by decide +kernel
theorem dd_jdk_59_method_3_code_2 : decode jdk_59_method_3_code 2 = .ok (.aload_n 2, 1) := by decide +kernel
theorem dd_jdk_59_method_3_code_3 : decode jdk_59_method_3_code 3 = .ok (.invokespecial 10, 3) := by decide +kernel
theorem dd_jdk_59_method_3_code_6 : decode jdk_59_method_3_code 6 = .ok (.return_, 1) := by decide +kernel
theorem dd_jdk_78_method_3_code_0 : decode jdk_78_method_3_code 0 = .ok (.aload_n 0, 1) := by decide +kernel
theorem dd_jdk_78_method_3_code_1 : decode jdk_78_method_3_code 1 = .ok (.invokespecial 1, 3) := by decide +kernel
theorem dd_jdk_78_method_3_code_4 : decode jdk_78_method_3_code 4 = .ok (.aload_n 0, 1) := by decide +kernel
theorem dd_jdk_78_method_3_code_5 : decode jdk_78_method_3_code 5 = .ok (.aload_n 0, 1) := by decide +kernel
theorem dd_jdk_78_method_3_code_6 : decode jdk_78_method_3_code 6 = .ok (.putfield 7, 3) := by decide +kernel
theorem dd_jdk_78_method_3_code_9 : decode jdk_78_method_3_code 9 = .ok (.aload_n 0, 1) := by decide +kernel
theorem dd_jdk_78_method_3_code_10 : decode jdk_78_method_3_code 10 = .ok (.getstatic 13, 3) := by decide +kernel
theorem dd_jdk_78_method_3_code_13 : decode jdk_78_method_3_code 13 = .ok (.putfield 17, 3) := by decide +kernel
theorem dd_jdk_78_method_3_code_16 : decode jdk_78_method_3_code 16 = .ok (.aload_n 0, 1) := by decide +kernel
theorem dd_jdk_78_method_3_code_17 : decode jdk_78_method_3_code 17 = .ok (.getstatic 20, 3) := by decide +kernel
theorem dd_jdk_78_method_3_code_20 : decode jdk_78_method_3_code 20 = .ok (.putfield 24, 3) := by decide +kernel
theorem dd_jdk_78_method_3_code_23 : decode jdk_78_method_3_code 23 = .ok (.aload_n 0, 1) := by decide +kernel
theorem dd_jdk_78_method_3_code_24 : decode jdk_78_method_3_code 24 = .ok (.invokevirtual 27, 3) := by decide +kernel
theorem dd_jdk_78_method_3_code_27 : decode jdk_78_method_3_code 27 = .ok (.pop, 1) := by decide +kernel
theorem dd_jdk_78_method_3_code_28 : decode jdk_78_method_3_code 28 = .ok (.aload_n 0, 1) := by decide +kernel
theorem dd_jdk_78_method_3_code_29 : decode jdk_78_method_3_code 29 = .ok (.aload_n 1, 1) := by decide +kernel
theorem dd_jdk_78_method_3_code_30 : decode jdk_78_method_3_code 30 = .ok (.putfield 31, 3) := by decide +kernel
theorem dd_jdk_78_method_3_code_33 : decode jdk_78_method_3_code 33 = .ok (.aload_n 0, 1) := by decide +kernel
theorem dd_jdk_78_method_3_code_34 : decode jdk_78_method_3_code 34 = .ok (.aload_n 2, 1) := by decide +kernel
theorem dd_jdk_78_method_3_code_35 : decode jdk_78_method_3_code 35 = .ok (.putfield 7, 3) := by decide +kernel
theorem dd_jdk_78_method_3_code_38 : decode jdk_78_method_3_code 38 = .ok (.return_, 1) := by decide +kernel
theorem dd_jdk_78_method_6_code_0 : decode jdk_78_method_6_code 0 = .ok (.aload_n 0, 1) := by decide +kernel
theorem dd_jdk_78_method_6_code_1 : decode jdk_78_method_6_code 1 = .ok (.getfield 31, 3) := by decide +kernel
theorem dd_jdk_78_method_6_code_4 : decode jdk_78_method_6_code 4 = .ok (.areturn, 1) := by decide +kernel
theorem dd_method_2_code_0 : decode method_2_code 0 = .ok (.iload_n 3, 1) := by decide +kernel
theorem dd_method_2_code_1 : decode method_2_code 1 = .ok (.iconst 3, 1) := by decide +kernel
theorem dd_method_2_code_2 : decode method_2_code 2 = .ok (.iand, 1) := by decide +kernel
theorem dd_method_2_code_3 : decode method_2_code 3 = .ok (.istore 4, 2) := by decide +kernel
theorem dd_method_2_code_5 : decode method_2_code 5 = .ok (.iload_n 0, 1) := by decide +kernel
theorem dd_method_2_code_6 : decode method_2_code 6 = .ok (.sipush 255, 3) := by decide +kernel
theorem dd_method_2_code_9 : decode method_2_code 9 = .ok (.iand, 1) := by decide +kernel
theorem dd_method_2_code_10 : decode method_2_code 10 = .ok (.i2c, 1) := by decide +kernel
theorem dd_method_2_code_11 : decode method_2_code 11 = .ok (.istore 5, 2) := by decide +kernel
theorem dd_method_2_code_13 : decode method_2_code 13 = .ok (.iload_n 1, 1) := by decide +kernel
theorem dd_method_2_code_14 : decode method_2_code 14 = .ok (.sipush 255, 3) := by decide +kernel
theorem dd_method_2_code_17 : decode method_2_code 17 = .ok (.iand, 1) := by decide +kernel
theorem dd_method_2_code_18 : decode method_2_code 18 = .ok (.i2c, 1) := by decide +kernel
theorem dd_method_2_code_19 : decode method_2_code 19 = .ok (.istore 6, 2) := by decide +kernel
theorem dd_method_2_code_21 : decode method_2_code 21 = .ok (.iload_n 2, 1) := by decide +kernel
theorem dd_method_2_code_22 : decode method_2_code 22 = .ok (.sipush 255, 3) := by decide +kernel
theorem dd_method_2_code_25 : decode method_2_code 25 = .ok (.iand, 1) := by decide +kernel
theorem dd_method_2_code_26 : decode method_2_code 26 = .ok (.i2c, 1) := by decide +kernel
theorem dd_method_2_code_27 : decode method_2_code 27 = .ok (.istore 7, 2) := by decide +kernel
theorem dd_method_2_code_29 : decode method_2_code 29 = .ok (.iload 4, 2) := by decide +kernel
theorem dd_method_2_code_31 : decode method_2_code 31 = .ok (.ifCond .ne 14, 3) := by decide +kernel
theorem dd_method_2_code_34 : decode method_2_code 34 = .ok (.new 7, 3) := by decide +kernel
theorem dd_method_2_code_37 : decode method_2_code 37 = .ok (.dup, 1) := by decide +kernel
theorem dd_method_2_code_38 : decode method_2_code 38 = .ok (.iconst 0, 1) := by decide +kernel
theorem dd_method_2_code_39 : decode method_2_code 39 = .ok (.newarray .char, 2) := by decide +kernel
theorem dd_method_2_code_41 : decode method_2_code 41 = .ok (.invokespecial 9, 3) := by decide +kernel
theorem dd_method_2_code_44 : decode method_2_code 44 = .ok (.areturn, 1) := by decide +kernel
theorem dd_method_2_code_45 : decode method_2_code 45 = .ok (.iload 4, 2) := by decide +kernel
theorem dd_method_2_code_47 : decode method_2_code 47 = .ok (.iconst 1, 1) := by decide +kernel
theorem dd_method_2_code_48 : decode method_2_code 48 = .ok (.if_icmp .ne 24, 3) := by decide +kernel
theorem dd_method_2_code_51 : decode method_2_code 51 = .ok (.iconst 1, 1) := by decide +kernel
theorem dd_method_2_code_52 : decode method_2_code 52 = .ok (.newarray .char, 2) := by decide +kernel
theorem dd_method_2_code_54 : decode method_2_code 54 = .ok (.astore 8, 2) := by decide +kernel
theorem dd_method_2_code_56 : decode method_2_code 56 = .ok (.aload 8, 2) := by decide +kernel
theorem dd_method_2_code_58 : decode method_2_code 58 = .ok (.iconst 0, 1) := by decide +kernel
theorem dd_method_2_code_59 : decode method_2_code 59 = .ok (.iload 5, 2) := by decide +kernel
theorem dd_method_2_code_61 : decode method_2_code 61 = .ok (.castore, 1) := by decide +kernel
theorem dd_method_2_code_62 : decode method_2_code 62 = .ok (.new 7, 3) := by decide +kernel
theorem dd_method_2_code_65 : decode method_2_code 65 = .ok (.dup, 1) := by decide +kernel
theorem dd_method_2_code_66 : decode method_2_code 66 = .ok (.aload 8, 2) := by decide +kernel
theorem dd_method_2_code_68 : decode method_2_code 68 = .ok (.invokespecial 9, 3) := by decide +kernel
theorem dd_method_2_code_71 : decode method_2_code 71 = .ok (.areturn, 1) := by decide +kernel
theorem dd_method_2_code_72 : decode method_2_code 72 = .ok (.iload 4, 2) := by decide +kernel
theorem dd_method_2_code_74 : decode method_2_code 74 = .ok (.iconst 2, 1) := by decide +kernel
theorem dd_method_2_code_75 : decode method_2_code 75 = .ok (.if_icmp .ne 30, 3) := by decide +kernel
theorem dd_method_2_code_78 : decode method_2_code 78 = .ok (.iconst 2, 1) := by decide +kernel
theorem dd_method_2_code_79 : decode method_2_code 79 = .ok (.newarray .char, 2) := by decide +kernel
theorem dd_method_2_code_81 : decode method_2_code 81 = .ok (.astore 8, 2) := by decide +kernel
theorem dd_method_2_code_83 : decode method_2_code 83 = .ok (.aload 8, 2) := by decide +kernel
theorem dd_method_2_code_85 : decode method_2_code 85 = .ok (.iconst 0, 1) := by decide +kernel
theorem dd_method_2_code_86 : decode method_2_code 86 = .ok (.iload 5, 2) := by decide +kernel
theorem dd_method_2_code_88 : decode method_2_code 88 = .ok (.castore, 1) := by decide +kernel
theorem dd_method_2_code_89 : decode method_2_code 89 = .ok (.aload 8, 2) := by decide +kernel
theorem dd_method_2_code_91 : decode method_2_code 91 = .ok (.iconst 1, 1) := by decide +kernel
theorem dd_method_2_code_92 : decode method_2_code 92 = .ok (.iload 6, 2) := by decide +kernel
theorem dd_method_2_code_94 : decode method_2_code 94 = .ok (.castore, 1) := by decide +kernel
theorem dd_method_2_code_95 : decode method_2_code 95 = .ok (.new 7, 3) := by decide +kernel
theorem dd_method_2_code_98 : decode method_2_code 98 = .ok (.dup, 1) := by decide +kernel
theorem dd_method_2_code_99 : decode method_2_code 99 = .ok (.aload 8, 2) := by decide +kernel
theorem dd_method_2_code_101 : decode method_2_code 101 = .ok (.invokespecial 9, 3) := by decide +kernel
theorem dd_method_2_code_104 : decode method_2_code 104 = .ok (.areturn, 1) := by decide +kernel
theorem dd_method_2_code_105 : decode method_2_code 105 = .ok (.iconst 3, 1) := by decide +kernel
theorem dd_method_2_code_106 : decode method_2_code 106 = .ok (.newarray .char, 2) := by decide +kernel
theorem dd_method_2_code_108 : decode method_2_code 108 = .ok (.astore 8, 2) := by decide +kernel
theorem dd_method_2_code_110 : decode method_2_code 110 = .ok (.aload 8, 2) := by decide +kernel
theorem dd_method_2_code_112 : decode method_2_code 112 = .ok (.iconst 0, 1) := by decide +kernel
theorem dd_method_2_code_113 : decode method_2_code 113 = .ok (.iload 5, 2) := by decide +kernel
theorem dd_method_2_code_115 : decode method_2_code 115 = .ok (.castore, 1) := by decide +kernel
theorem dd_method_2_code_116 : decode method_2_code 116 = .ok (.aload 8, 2) := by decide +kernel
theorem dd_method_2_code_118 : decode method_2_code 118 = .ok (.iconst 1, 1) := by decide +kernel
theorem dd_method_2_code_119 : decode method_2_code 119 = .ok (.iload 6, 2) := by decide +kernel
theorem dd_method_2_code_121 : decode method_2_code 121 = .ok (.castore, 1) := by decide +kernel
theorem dd_method_2_code_122 : decode method_2_code 122 = .ok (.aload 8, 2) := by decide +kernel
theorem dd_method_2_code_124 : decode method_2_code 124 = .ok (.iconst 2, 1) := by decide +kernel
theorem dd_method_2_code_125 : decode method_2_code 125 = .ok (.iload 7, 2) := by decide +kernel
theorem dd_method_2_code_127 : decode method_2_code 127 = .ok (.castore, 1) := by decide +kernel
theorem dd_method_2_code_128 : decode method_2_code 128 = .ok (.new 7, 3) := by decide +kernel
theorem dd_method_2_code_131 : decode method_2_code 131 = .ok (.dup, 1) := by decide +kernel
theorem dd_method_2_code_132 : decode method_2_code 132 = .ok (.aload 8, 2) := by decide +kernel
theorem dd_method_2_code_134 : decode method_2_code 134 = .ok (.invokespecial 9, 3) := by decide +kernel
theorem dd_method_2_code_137 : decode method_2_code 137 = .ok (.areturn, 1) := by decide +kernel
theorem dd_prog_7_method_1_code_0 : decode prog_7_method_1_code 0 = .ok (.aload_n 0, 1) := by decide +kernel
theorem dd_prog_7_method_1_code_1 : decode prog_7_method_1_code 1 = .ok (.aload_n 1, 1) := by decide +kernel
theorem dd_prog_7_method_1_code_2 : decode prog_7_method_1_code 2 = .ok (.aload 4, 2) := by decide +kernel
theorem dd_prog_7_method_1_code_4 : decode prog_7_method_1_code 4 = .ok (.invokespecial 1, 3) := by decide +kernel
theorem dd_prog_7_method_1_code_7 : decode prog_7_method_1_code 7 = .ok (.aload_n 0, 1) := by decide +kernel
theorem dd_prog_7_method_1_code_8 : decode prog_7_method_1_code 8 = .ok (.iload_n 2, 1) := by decide +kernel
theorem dd_prog_7_method_1_code_9 : decode prog_7_method_1_code 9 = .ok (.putfield 7, 3) := by decide +kernel
theorem dd_prog_7_method_1_code_12 : decode prog_7_method_1_code 12 = .ok (.aload_n 0, 1) := by decide +kernel
theorem dd_prog_7_method_1_code_13 : decode prog_7_method_1_code 13 = .ok (.aload_n 3, 1) := by decide +kernel
theorem dd_prog_7_method_1_code_14 : decode prog_7_method_1_code 14 = .ok (.putfield 13, 3) := by decide +kernel
theorem dd_prog_7_method_1_code_17 : decode prog_7_method_1_code 17 = .ok (.return_, 1) := by decide +kernel
theorem dd_prog_7_method_3_code_0 : decode prog_7_method_3_code 0 = .ok (.new 8, 3) := by decide +kernel
theorem dd_prog_7_method_3_code_3 : decode prog_7_method_3_code 3 = .ok (.dup, 1) := by decide +kernel
theorem dd_prog_7_method_3_code_4 : decode prog_7_method_3_code 4 = .ok (.aload_n 0, 1) := by decide +kernel
theorem dd_prog_7_method_3_code_5 : decode prog_7_method_3_code 5 = .ok (.iconst 0, 1) := by decide +kernel
theorem dd_prog_7_method_3_code_6 : decode prog_7_method_3_code 6 = .ok (.getstatic 20, 3) := by decide +kernel
theorem dd_prog_7_method_3_code_9 : decode prog_7_method_3_code 9 = .ok (.aconst_null, 1) := by decide +kernel
theorem dd_prog_7_method_3_code_10 : decode prog_7_method_3_code 10 = .ok (.invokespecial 17, 3) := by decide +kernel
theorem dd_prog_7_method_3_code_13 : decode prog_7_method_3_code 13 = .ok (.areturn, 1) := by decide +kernel
theorem dd_prog_7_method_4_code_0 : decode prog_7_method_4_code 0 = .ok (.aload_n 0, 1) := by decide +kernel
theorem dd_prog_7_method_4_code_1 : decode prog_7_method_4_code 1 = .ok (.getfield 7, 3) := by decide +kernel
theorem dd_prog_7_method_4_code_4 : decode prog_7_method_4_code 4 = .ok (.ireturn, 1) := by decide +kernel
theorem dd_prog_7_method_5_code_0 : decode prog_7_method_5_code 0 = .ok (.aload_n 0, 1) := by decide +kernel
theorem dd_prog_7_method_5_code_1 : decode prog_7_method_5_code 1 = .ok (.getfield 13, 3) := by decide +kernel
theorem dd_prog_7_method_5_code_4 : decode prog_7_method_5_code 4 = .ok (.areturn, 1) := by decide +kernel
theorem pd___CIILjava_lang_Void__V : parseMethodDescriptor "([CIILjava/lang/Void;)V" = some ⟨[(.array .char), .int, .int, (.object "java/lang/Void")], none⟩ := by decide +kernel
theorem pd___C_V : parseMethodDescriptor "([C)V" = some ⟨[(.array .char)], none⟩ := by decide +kernel
theorem pd__Ljava_lang_String_Ljava_lang_Throwable__V : parseMethodDescriptor "(Ljava/lang/String;Ljava/lang/Throwable;)V" = some ⟨[(.object "java/lang/String"), (.object "java/lang/Throwable")], none⟩ := by decide +kernel
theorem pd__Ljava_lang_String_ZLjava_time_Duration_Ljava_lang_Throwable__V : parseMethodDescriptor "(Ljava/lang/String;ZLjava/time/Duration;Ljava/lang/Throwable;)V" = some ⟨[(.object "java/lang/String"), .boolean, (.object "java/time/Duration"), (.object "java/lang/Throwable")], none⟩ := by decide +kernel
theorem pd__IIII_Ljava_lang_String_ : parseMethodDescriptor "(IIII)Ljava/lang/String;" = some ⟨[.int, .int, .int, .int], some (.object "java/lang/String")⟩ := by decide +kernel
theorem pd__Ljava_lang_String__Lcom_example_fanoutd_fanoutd_delivery_DeliveryException_ : parseMethodDescriptor "(Ljava/lang/String;)Lcom/example/fanoutd/fanoutd/delivery/DeliveryException;" = some ⟨[(.object "java/lang/String")], some (.object "com/example/fanoutd/fanoutd/delivery/DeliveryException")⟩ := by decide +kernel
theorem pd___Ljava_lang_String_ : parseMethodDescriptor "()Ljava/lang/String;" = some ⟨[], some (.object "java/lang/String")⟩ := by decide +kernel
theorem pd__Ljava_lang_Object__Z : parseMethodDescriptor "(Ljava/lang/Object;)Z" = some ⟨[(.object "java/lang/Object")], some .boolean⟩ := by decide +kernel
theorem pd___Z : parseMethodDescriptor "()Z" = some ⟨[], some .boolean⟩ := by decide +kernel
theorem pd___Ljava_time_Duration_ : parseMethodDescriptor "()Ljava/time/Duration;" = some ⟨[], some (.object "java/time/Duration")⟩ := by decide +kernel
theorem pd___Ljava_lang_Throwable_ : parseMethodDescriptor "()Ljava/lang/Throwable;" = some ⟨[], some (.object "java/lang/Throwable")⟩ := by decide +kernel
set_option maxRecDepth 65536 in
set_option maxHeartbeats 4000000 in
theorem own_init4E (l : Launch) {Z : State} {a0 : Array Value} (hE : Ctx Z a0 l) {n0 : Nat} {h0 : Heap} (O : Old Z n0 h0) {x0 : Addr} {b0 : Addr} (hx0 : n0 ≤ x0) (P0 : Exa Z h0 x0 "java/lang/String") (P1 : Fld Z h0 x0 "java/lang/String" "value" "[B" .null) (P2 : Fld Z h0 x0 "java/lang/String" "coder" "B" (.int (0 : Int32))) :
    Met l (⟨"java/lang/String", "<init>", "([CIILjava/lang/Void;)V"⟩ : MethodName) jdk_42_method_149_code 6 (Option.none : Option Jvm.ClassFile.FieldType) ({ frames := 1, cells := 4, slots := 8, locals := 12 } : Room) Z consts_1 n0 [] #[(.ref x0), (.ref b0), (.int (0 : Int32)), (.int (0 : Int32)), .null] h0 (fun v h => ∃ (t : Addr), v = none ∧ Str Z h x0 t [] ∧ Keep h0 h [x0]) := by
  have hw := hE.1
  have hEL := own_EW hw
  have own_wS := own_stringAtoms hw
  refine Met.of (by first | (refine plainFor_of_name ?_; simp [plainName, overriddenIn]; done) | decide +kernel) O ?_
  intro p e s m below meth c T0 hx hby hml hret hlk hnm hh0 W0
  have z0 := W0.ge
  have yP0 : h0.size > x0 := P0.lt
  refine Go.st (g' := (mkF m 0 #[.val (.ref x0), .val (.ref b0), .val (.int (0 : Int32)), .val (.int (0 : Int32)), .val .null, .unset] [])) (fun _ k => castTop (by first | rfl | (simp [entryFrame, mkF, argsToLocals, maxLocals, own_catI, own_catJ, own_catD, own_catA, own_catN]; done)) k) ?_
  refine Go.st (g' := (mkF m 1 #[.val (.ref x0), .val (.ref b0), .val (.int (0 : Int32)), .val (.int (0 : Int32)), .val .null, .unset] [(.ref x0)])) (fun _ k => XS.aloadN W0.here hx rfl (hb hby dd_jdk_42_method_149_code_0) rfl rfl  k) ?_
  obtain ⟨T1, W1, st1⟩ := W0.initO hx (hw _ (List.mem_of_getElem? (i := 15) rfl)) (hw _ (List.mem_of_getElem? (i := 16) rfl)) (hw _ (List.mem_of_getElem? (i := 17) rfl)) (g := (mkF m 1 #[.val (.ref x0), .val (.ref b0), .val (.int (0 : Int32)), .val (.int (0 : Int32)), .val .null, .unset] [(.ref x0)])) rfl (by rw [hml]; rfl) rfl (hb hby dd_jdk_42_method_149_code_1) (by decide) (Wd := 0) (by show 2 * 0 + _ ≤ _; exact Nat.le_of_eq rfl) (by decide)
  refine Go.st (g' := (mkF m 4 #[.val (.ref x0), .val (.ref b0), .val (.int (0 : Int32)), .val (.int (0 : Int32)), .val .null, .unset] [])) st1 ?_
  refine Go.st (g' := (mkF m 5 #[.val (.ref x0), .val (.ref b0), .val (.int (0 : Int32)), .val (.int (0 : Int32)), .val .null, .unset] [(.int (0 : Int32))])) (fun _ k => XS.iloadN W1.here hx rfl (hb hby dd_jdk_42_method_149_code_4) rfl  k) ?_
  refine Go.st (g' := (mkF m 8 #[.val (.ref x0), .val (.ref b0), .val (.int (0 : Int32)), .val (.int (0 : Int32)), .val .null, .unset] [])) (fun _ k => XS.ifNo W1.here hx rfl (hb hby dd_jdk_42_method_149_code_5) rfl ((if0 _ _).trans (teq (by decide)).2) k) ?_
  refine Go.st (g' := (mkF m 9 #[.val (.ref x0), .val (.ref b0), .val (.int (0 : Int32)), .val (.int (0 : Int32)), .val .null, .unset] [(.ref x0)])) (fun _ k => XS.aloadN W1.here hx rfl (hb hby dd_jdk_42_method_149_code_8) rfl rfl  k) ?_
  have S2 : Safe Z consts_1 s.vm h0 x0 := own_safe_blank W1.warm.alike P0 P1
  obtain ⟨a3, vm3, T3, h3, b3, k3, W3, E3, X3, Fc3, Fv3, A3, SF3, ne3, st3⟩ := W1.ldc hx (hw _ (List.mem_of_getElem? (i := 133) rfl)) own_wS hEL (by decide) (vs := []) (z := (0 : Int32)) (by decide) (by decide) (by decide) (g := (mkF m 9 #[.val (.ref x0), .val (.ref b0), .val (.int (0 : Int32)), .val (.int (0 : Int32)), .val .null, .unset] [(.ref x0)])) rfl (hb hby dd_jdk_42_method_149_code_9) (n := 0) (by decide) (by decide) (by decide) (by decide)
  have z3 := E3.1
  have zl3 : h3.size > a3 := X3.lt
  have zm3 : h3.size > b3 := A3.lt
  have F4 : Safe Z consts_1 vm3 h3 x0 := (SF3 _ (by omega) S2)
  have nn3_x0 := own_nn (ne3 _ F4).1
  have nm3_x0 := own_nn (ne3 _ F4).2
  refine Go.st (g' := (mkF m 11 #[.val (.ref x0), .val (.ref b0), .val (.int (0 : Int32)), .val (.int (0 : Int32)), .val .null, .unset] [(.ref a3), (.ref x0)])) st3 ?_
  obtain ⟨T5, W5, st5⟩ := W3.getF hx (hw _ (List.mem_of_getElem? (i := 32) rfl)) Via.refl Fv3 (g := (mkF m 11 #[.val (.ref x0), .val (.ref b0), .val (.int (0 : Int32)), .val (.int (0 : Int32)), .val .null, .unset] [(.ref a3), (.ref x0)])) rfl rfl (hb hby dd_jdk_42_method_149_code_11)
  refine Go.st (g' := (mkF m 14 #[.val (.ref x0), .val (.ref b0), .val (.int (0 : Int32)), .val (.int (0 : Int32)), .val .null, .unset] [(.ref b3), (.ref x0)])) st5 ?_
  have F7 : Fld Z h3 x0 "java/lang/String" "value" "[B" .null := (P1.ext E3)
  have F8 : Exa Z h3 x0 "java/lang/String" := (P0.ext E3)
  obtain ⟨T6, h6, W6, R6, z6, X6, SF6, st6⟩ := W5.putF hx (hw _ (List.mem_of_getElem? (i := 32) rfl)) Via.refl F7 F8 (Or.inr ⟨(hw _ (List.mem_of_getElem? (i := 33) rfl)), rfl, hnm⟩) (hw _ (List.mem_of_getElem? (i := 6) rfl)) (ty := (.array .byte)) (by decide) rfl rfl F4 (by omega) (g := (mkF m 14 #[.val (.ref x0), .val (.ref b0), .val (.int (0 : Int32)), .val (.int (0 : Int32)), .val .null, .unset] [(.ref b3), (.ref x0)])) rfl rfl (hb hby dd_jdk_42_method_149_code_14)
  refine Go.st (g' := (mkF m 17 #[.val (.ref x0), .val (.ref b0), .val (.int (0 : Int32)), .val (.int (0 : Int32)), .val .null, .unset] [])) st6 ?_
  refine Go.st (g' := (mkF m 18 #[.val (.ref x0), .val (.ref b0), .val (.int (0 : Int32)), .val (.int (0 : Int32)), .val .null, .unset] [(.ref x0)])) (fun _ k => XS.aloadN W6.here hx rfl (hb hby dd_jdk_42_method_149_code_17) rfl rfl  k) ?_
  obtain ⟨a9, vm9, T9, h9, b9, k9, W9, E9, X9, Fc9, Fv9, A9, SF9, ne9, st9⟩ := W6.ldc hx (hw _ (List.mem_of_getElem? (i := 133) rfl)) own_wS hEL (by decide) (vs := []) (z := (0 : Int32)) (by decide) (by decide) (by decide) (g := (mkF m 18 #[.val (.ref x0), .val (.ref b0), .val (.int (0 : Int32)), .val (.int (0 : Int32)), .val .null, .unset] [(.ref x0)])) rfl (hb hby dd_jdk_42_method_149_code_18) (n := 0) (by decide) (by decide) (by decide) (by decide)
  have z9 := E9.1
  have zl9 : h9.size > a9 := X9.lt
  have zm9 : h9.size > b9 := A9.lt
  have F10 : Safe Z consts_1 vm9 h9 x0 := (SF9 _ (by omega) (SF6 _ (by omega) F4))
  have nn9_x0 := own_nn (ne9 _ F10).1
  have nm9_x0 := own_nn (ne9 _ F10).2
  refine Go.st (g' := (mkF m 20 #[.val (.ref x0), .val (.ref b0), .val (.int (0 : Int32)), .val (.int (0 : Int32)), .val .null, .unset] [(.ref a9), (.ref x0)])) st9 ?_
  obtain ⟨T11, W11, st11⟩ := W9.getF hx (hw _ (List.mem_of_getElem? (i := 30) rfl)) Via.refl Fc9 (g := (mkF m 20 #[.val (.ref x0), .val (.ref b0), .val (.int (0 : Int32)), .val (.int (0 : Int32)), .val .null, .unset] [(.ref a9), (.ref x0)])) rfl rfl (hb hby dd_jdk_42_method_149_code_20)
  refine Go.st (g' := (mkF m 23 #[.val (.ref x0), .val (.ref b0), .val (.int (0 : Int32)), .val (.int (0 : Int32)), .val .null, .unset] [(.int (0 : Int32)), (.ref x0)])) st11 ?_
  have F13 : Fld Z h9 x0 "java/lang/String" "coder" "B" (.int (0 : Int32)) := (((P2.ext E3).other R6 (Or.inr (slot_ne (Or.inr (hw _ (List.mem_of_getElem? (i := 31) rfl))) (Or.inr (hw _ (List.mem_of_getElem? (i := 33) rfl))) (by decide) (t := .byte) (t' := (.array .byte)) (by decide) (by decide)))).ext E9)
  have F14 : Exa Z h9 x0 "java/lang/String" := ((F8.wr R6).ext E9)
  obtain ⟨T12, h12, W12, R12, z12, X12, SF12, st12⟩ := W11.putF hx (hw _ (List.mem_of_getElem? (i := 30) rfl)) Via.refl F13 F14 (Or.inr ⟨(hw _ (List.mem_of_getElem? (i := 31) rfl)), rfl, hnm⟩) (hw _ (List.mem_of_getElem? (i := 6) rfl)) (ty := .byte) (by decide) rfl rfl F10 (by omega) (g := (mkF m 23 #[.val (.ref x0), .val (.ref b0), .val (.int (0 : Int32)), .val (.int (0 : Int32)), .val .null, .unset] [(.int (0 : Int32)), (.ref x0)])) rfl rfl (hb hby dd_jdk_42_method_149_code_23)
  refine Go.st (g' := (mkF m 26 #[.val (.ref x0), .val (.ref b0), .val (.int (0 : Int32)), .val (.int (0 : Int32)), .val .null, .unset] [])) st12 ?_
  have F15 : Exa Z h12 x0 "java/lang/String" := (F14.wr R12)
  have F16 : Fld Z h12 x0 "java/lang/String" "value" "[B" (.ref b3) := ((X6.ext E9).other R12 (Or.inr (slot_ne (Or.inr (hw _ (List.mem_of_getElem? (i := 33) rfl))) (Or.inr (hw _ (List.mem_of_getElem? (i := 31) rfl))) (by decide) (t := (.array .byte)) (t' := .byte) (by decide) (by decide))))
  have F17 : Arv Z h12 b3 k3 .byte (0 : Int32) [] (.int (0 : Int32)) := (((A3.other R6 (own_ne (by omega))).ext E9).other R12 (own_ne (by omega)))
  have F18 : Str Z h12 x0 b3 [] := Str.lat F15 F16 X12 F17 rfl rfl own_all0 (Nat.le_of_ble_eq_true rfl)
  exact W12.retV hx hEL hlk hret (hb hby dd_jdk_42_method_149_code_26) (by decide) (by decide) ⟨b3, rfl, F18, (((((Keep.refl h0 [x0]).ext E3).wr R6 (Or.inl (List.mem_of_getElem? (i := 0) rfl))).ext E9).wr R12 (Or.inl (List.mem_of_getElem? (i := 0) rfl)))⟩
set_option maxRecDepth 65536 in
set_option maxHeartbeats 4000000 in
theorem own_init1E (l : Launch) {Z : State} {a0 : Array Value} (hE : Ctx Z a0 l) {n0 : Nat} {h0 : Heap} (O : Old Z n0 h0) {x0 : Addr} {b0 : Addr} {kb : ClassId} {vs0 : List Value} {d0 : Value} (hx0 : n0 ≤ x0) (P0 : Exa Z h0 x0 "java/lang/String") (P1 : Fld Z h0 x0 "java/lang/String" "value" "[B" .null) (P2 : Fld Z h0 x0 "java/lang/String" "coder" "B" (.int (0 : Int32))) (P3 : Arv Z h0 b0 kb .char (0 : Int32) vs0 d0) :
    Met l (⟨"java/lang/String", "<init>", "([C)V"⟩ : MethodName) jdk_42_method_3_code 2 (Option.none : Option Jvm.ClassFile.FieldType) ({ frames := 2, cells := 4, slots := 8, locals := 29 } : Room) Z consts_1 n0 [] #[(.ref x0), (.ref b0)] h0 (fun v h => ∃ (t : Addr), v = none ∧ Str Z h x0 t [] ∧ Keep h0 h [x0]) := by
  have hw := hE.1
  have hEL := own_EW hw
  have own_wS := own_stringAtoms hw
  refine Met.of (by first | (refine plainFor_of_name ?_; simp [plainName, overriddenIn]; done) | decide +kernel) O ?_
  intro p e s m below meth c T0 hx hby hml hret hlk hnm hh0 W0
  have z0 := W0.ge
  have yP0 : h0.size > x0 := P0.lt
  have yP3 : h0.size > b0 := P3.lt
  refine Go.st (g' := (mkF m 0 #[.val (.ref x0), .val (.ref b0)] [])) (fun _ k => castTop (by first | rfl | (simp [entryFrame, mkF, argsToLocals, maxLocals, own_catI, own_catJ, own_catD, own_catA, own_catN]; done)) k) ?_
  refine Go.st (g' := (mkF m 1 #[.val (.ref x0), .val (.ref b0)] [(.ref x0)])) (fun _ k => XS.aloadN W0.here hx rfl (hb hby dd_jdk_42_method_3_code_0) rfl rfl  k) ?_
  refine Go.st (g' := (mkF m 2 #[.val (.ref x0), .val (.ref b0)] [(.ref b0), (.ref x0)])) (fun _ k => XS.aloadN W0.here hx rfl (hb hby dd_jdk_42_method_3_code_1) rfl rfl  k) ?_
  refine Go.st (g' := (mkF m 3 #[.val (.ref x0), .val (.ref b0)] [(.int (0 : Int32)), (.ref b0), (.ref x0)])) (fun _ k => XS.iconst W0.here hx rfl (hb hby dd_jdk_42_method_3_code_2) k) ?_
  refine Go.st (g' := (mkF m 4 #[.val (.ref x0), .val (.ref b0)] [(.ref b0), (.int (0 : Int32)), (.ref b0), (.ref x0)])) (fun _ k => XS.aloadN W0.here hx rfl (hb hby dd_jdk_42_method_3_code_3) rfl rfl  k) ?_
  refine Go.st (g' := (mkF m 5 #[.val (.ref x0), .val (.ref b0)] [(.int (0 : Int32)), (.int (0 : Int32)), (.ref b0), (.ref x0)])) (W0.len hx P3 (g := (mkF m 4 #[.val (.ref x0), .val (.ref b0)] [(.ref b0), (.int (0 : Int32)), (.ref b0), (.ref x0)])) rfl rfl (hb hby dd_jdk_42_method_3_code_4)) ?_
  refine Go.st (g' := (mkF m 6 #[.val (.ref x0), .val (.ref b0)] [.null, (.int (0 : Int32)), (.int (0 : Int32)), (.ref b0), (.ref x0)])) (fun _ k => XS.aconstNull W0.here hx rfl (hb hby dd_jdk_42_method_3_code_5) k) ?_
  obtain ⟨_, vm1, T1, h1, W1, Q1, z1, SF1, st1⟩ := W0.callI hx hEL (own_init4E l hE W0.old (x0 := x0) (b0 := b0) (by omega) P0 P1 P2) rfl (hw _ (List.mem_of_getElem? (i := 11) rfl)) (hw _ (List.mem_of_getElem? (i := 12) rfl)) (hw _ (List.mem_of_getElem? (i := 7) rfl)) (hw _ (List.mem_of_getElem? (i := 14) rfl)) (by decide) (Wd := 0) (by decide) (by decide) (by decide) (by decide) (g := (mkF m 6 #[.val (.ref x0), .val (.ref b0)] [.null, (.int (0 : Int32)), (.int (0 : Int32)), (.ref b0), (.ref x0)])) rfl (by rw [hml]; rfl) (a := x0) (argsL := [(.ref b0), (.int (0 : Int32)), (.int (0 : Int32)), .null]) (rest := []) rfl (lenOf pd___CIILjava_lang_Void__V rfl) rfl (by show 2 * 0 + _ ≤ _; exact Nat.le_of_eq rfl) (hb hby dd_jdk_42_method_3_code_6)
  obtain ⟨t_1, rfl, f1_0, K1⟩ := Q1
  have yf1_0 : h1.size > x0 ∧ h1.size > t_1 := f1_0.lt
  refine Go.tr (g' := (mkF m 9 #[.val (.ref x0), .val (.ref b0)] [])) st1 ?_
  exact W1.retV hx hEL hlk hret (hb hby dd_jdk_42_method_3_code_9) (by decide) (by decide) ⟨t_1, rfl, f1_0, ((Keep.refl h0 [x0]).trans K1 (allS (Or.inl (List.mem_of_getElem? (i := 0) rfl)) all0))⟩
set_option maxRecDepth 65536 in
set_option maxHeartbeats 4000000 in
theorem own_eqId (l : Launch) {Z : State} {a0 : Array Value} (hE : Ctx Z a0 l) {n0 : Nat} {h0 : Heap} (O : Old Z n0 h0) {x0 : Addr}   :
    Met l (⟨"java/lang/String", "equals", "(Ljava/lang/Object;)Z"⟩ : MethodName) jdk_42_method_66_code 3 (Option.some Jvm.ClassFile.FieldType.boolean) ({ frames := 0, cells := 0, slots := 0, locals := 0 } : Room) Z consts_1 n0 [] #[(.ref x0), (.ref x0)] h0 (fun v h => v = some (.int (1 : Int32)) ∧ h0 = h) := by
  have hw := hE.1
  have hEL := own_EW hw
  have own_wS := own_stringAtoms hw
  refine Met.of (by first | (refine plainFor_of_name ?_; simp [plainName, overriddenIn]; done) | decide +kernel) O ?_
  intro p e s m below meth c T0 hx hby hml hret hlk hnm hh0 W0
  have z0 := W0.ge
  refine Go.st (g' := (mkF m 0 #[.val (.ref x0), .val (.ref x0), .unset] [])) (fun _ k => castTop (by first | rfl | (simp [entryFrame, mkF, argsToLocals, maxLocals, own_catI, own_catJ, own_catD, own_catA, own_catN]; done)) k) ?_
  refine Go.st (g' := (mkF m 1 #[.val (.ref x0), .val (.ref x0), .unset] [(.ref x0)])) (fun _ k => XS.aloadN W0.here hx rfl (hb hby dd_jdk_42_method_66_code_0) rfl rfl  k) ?_
  refine Go.st (g' := (mkF m 2 #[.val (.ref x0), .val (.ref x0), .unset] [(.ref x0), (.ref x0)])) (fun _ k => XS.aloadN W0.here hx rfl (hb hby dd_jdk_42_method_66_code_1) rfl rfl  k) ?_
  refine Go.st (g' := (mkF m 5 #[.val (.ref x0), .val (.ref x0), .unset] [])) (fun _ k => W0.acmp (g := (mkF m 2 #[.val (.ref x0), .val (.ref x0), .unset] [(.ref x0), (.ref x0)])) hx rfl rfl rfl (pc0 := 2) (pc' := 5) (same := true) rfl (hb hby dd_jdk_42_method_66_code_2) rfl (decide_eq_true rfl) (by decide) (by decide) k) ?_
  refine Go.st (g' := (mkF m 6 #[.val (.ref x0), .val (.ref x0), .unset] [(.int (1 : Int32))])) (fun _ k => XS.iconst W0.here hx rfl (hb hby dd_jdk_42_method_66_code_5) k) ?_
  exact W0.retN hx hEL hlk (t := .boolean) hret (by decide) (hb hby dd_jdk_42_method_66_code_6) (by decide) (by decide) ⟨rfl, rfl⟩
set_option maxRecDepth 65536 in
set_option maxHeartbeats 4000000 in
theorem own_draw (l : Launch) {Z : State} {a0 : Array Value} (hE : Ctx Z a0 l) {n0 : Nat} {h0 : Heap} (O : Old Z n0 h0) {a1 : Int32} {b1 : Int32} {c1 : Int32} {l1 : Int32}   :
    Met l (⟨"com/example/fanoutd/fanoutd/delivery/DeliveryExceptionRefusedPinLaw", "draw", "(IIII)Ljava/lang/String;"⟩ : MethodName) method_2_code 9 (Option.some (Jvm.ClassFile.FieldType.object "java/lang/String")) ({ frames := 4, cells := 6, slots := 12, locals := 66 } : Room) Z consts_1 n0 [] #[(.int a1), (.int b1), (.int c1), (.int l1)] h0 (fun v h => ∃ (x : Addr), ∃ (t : Addr), v = some (.ref x) ∧ h0.size ≤ x ∧ Str Z h x t (own_drawL a1 b1 c1 l1) ∧ Keep h0 h []) := by
  have hw := hE.1
  have hEL := own_EW hw
  have own_wS := own_stringAtoms hw
  obtain ⟨zc, hzc, hzc0⟩ := hE.2.1
  have hws : ∀ d ∈ StrChars.Road.words, d.before a0 Z = true := fun d hd => hw d ((by decide +kernel : ∀ d ∈ StrChars.Road.words, d ∈ tables_1) d hd)
  refine Met.of (by first | (refine plainFor_of_name ?_; simp [plainName, overriddenIn]; done) | decide +kernel) O ?_
  intro p e s m below meth c T0 hx hby hml hret hlk hnm hh0 W0
  have z0 := W0.ge
  refine Go.st (g' := (mkF m 0 #[.val (.int a1), .val (.int b1), .val (.int c1), .val (.int l1), .unset, .unset, .unset, .unset, .unset] [])) (fun _ k => castTop (by first | rfl | (simp [entryFrame, mkF, argsToLocals, maxLocals, own_catI, own_catJ, own_catD, own_catA, own_catN]; done)) k) ?_
  refine Go.st (g' := (mkF m 1 #[.val (.int a1), .val (.int b1), .val (.int c1), .val (.int l1), .unset, .unset, .unset, .unset, .unset] [(.int l1)])) (fun _ k => XS.iloadN W0.here hx rfl (hb hby dd_method_2_code_0) rfl  k) ?_
  refine Go.st (g' := (mkF m 2 #[.val (.int a1), .val (.int b1), .val (.int c1), .val (.int l1), .unset, .unset, .unset, .unset, .unset] [(.int (3 : Int32)), (.int l1)])) (fun _ k => XS.iconst W0.here hx rfl (hb hby dd_method_2_code_1) k) ?_
  refine Go.st (g' := (mkF m 3 #[.val (.int a1), .val (.int b1), .val (.int c1), .val (.int l1), .unset, .unset, .unset, .unset, .unset] [(.int (l1 &&& (3 : Int32)))])) (fun _ k => XS.iand W0.here hx rfl (hb hby dd_method_2_code_2) rfl k) ?_
  refine Go.st (g' := (mkF m 5 #[.val (.int a1), .val (.int b1), .val (.int c1), .val (.int l1), .val (.int (l1 &&& (3 : Int32))), .unset, .unset, .unset, .unset] [])) (fun _ k => XS.istore W0.here hx rfl (hb hby dd_method_2_code_3) rfl (l' := #[.val (.int a1), .val (.int b1), .val (.int c1), .val (.int l1), .val (.int (l1 &&& (3 : Int32))), .unset, .unset, .unset, .unset]) rfl k) ?_
  refine Go.st (g' := (mkF m 6 #[.val (.int a1), .val (.int b1), .val (.int c1), .val (.int l1), .val (.int (l1 &&& (3 : Int32))), .unset, .unset, .unset, .unset] [(.int a1)])) (fun _ k => XS.iloadN W0.here hx rfl (hb hby dd_method_2_code_5) rfl  k) ?_
  refine Go.st (g' := (mkF m 9 #[.val (.int a1), .val (.int b1), .val (.int c1), .val (.int l1), .val (.int (l1 &&& (3 : Int32))), .unset, .unset, .unset, .unset] [(.int (255 : Int32)), (.int a1)])) (fun _ k => XS.sipush W0.here hx rfl (hb hby dd_method_2_code_6) k) ?_
  refine Go.st (g' := (mkF m 10 #[.val (.int a1), .val (.int b1), .val (.int c1), .val (.int l1), .val (.int (l1 &&& (3 : Int32))), .unset, .unset, .unset, .unset] [(.int (a1 &&& (255 : Int32)))])) (fun _ k => XS.iand W0.here hx rfl (hb hby dd_method_2_code_9) rfl k) ?_
  refine Go.st (g' := (mkF m 11 #[.val (.int a1), .val (.int b1), .val (.int c1), .val (.int l1), .val (.int (l1 &&& (3 : Int32))), .unset, .unset, .unset, .unset] [(.int ((a1 &&& (255 : Int32)).toUInt32.toUInt16.toUInt32.toInt32))])) (fun _ k => XS.i2c W0.here hx rfl (hb hby dd_method_2_code_10) rfl k) ?_
  rw [i2c_mask]
  refine Go.st (g' := (mkF m 13 #[.val (.int a1), .val (.int b1), .val (.int c1), .val (.int l1), .val (.int (l1 &&& (3 : Int32))), .val (.int (a1 &&& (255 : Int32))), .unset, .unset, .unset] [])) (fun _ k => XS.istore W0.here hx rfl (hb hby dd_method_2_code_11) rfl (l' := #[.val (.int a1), .val (.int b1), .val (.int c1), .val (.int l1), .val (.int (l1 &&& (3 : Int32))), .val (.int (a1 &&& (255 : Int32))), .unset, .unset, .unset]) rfl k) ?_
  refine Go.st (g' := (mkF m 14 #[.val (.int a1), .val (.int b1), .val (.int c1), .val (.int l1), .val (.int (l1 &&& (3 : Int32))), .val (.int (a1 &&& (255 : Int32))), .unset, .unset, .unset] [(.int b1)])) (fun _ k => XS.iloadN W0.here hx rfl (hb hby dd_method_2_code_13) rfl  k) ?_
  refine Go.st (g' := (mkF m 17 #[.val (.int a1), .val (.int b1), .val (.int c1), .val (.int l1), .val (.int (l1 &&& (3 : Int32))), .val (.int (a1 &&& (255 : Int32))), .unset, .unset, .unset] [(.int (255 : Int32)), (.int b1)])) (fun _ k => XS.sipush W0.here hx rfl (hb hby dd_method_2_code_14) k) ?_
  refine Go.st (g' := (mkF m 18 #[.val (.int a1), .val (.int b1), .val (.int c1), .val (.int l1), .val (.int (l1 &&& (3 : Int32))), .val (.int (a1 &&& (255 : Int32))), .unset, .unset, .unset] [(.int (b1 &&& (255 : Int32)))])) (fun _ k => XS.iand W0.here hx rfl (hb hby dd_method_2_code_17) rfl k) ?_
  refine Go.st (g' := (mkF m 19 #[.val (.int a1), .val (.int b1), .val (.int c1), .val (.int l1), .val (.int (l1 &&& (3 : Int32))), .val (.int (a1 &&& (255 : Int32))), .unset, .unset, .unset] [(.int ((b1 &&& (255 : Int32)).toUInt32.toUInt16.toUInt32.toInt32))])) (fun _ k => XS.i2c W0.here hx rfl (hb hby dd_method_2_code_18) rfl k) ?_
  rw [i2c_mask]
  refine Go.st (g' := (mkF m 21 #[.val (.int a1), .val (.int b1), .val (.int c1), .val (.int l1), .val (.int (l1 &&& (3 : Int32))), .val (.int (a1 &&& (255 : Int32))), .val (.int (b1 &&& (255 : Int32))), .unset, .unset] [])) (fun _ k => XS.istore W0.here hx rfl (hb hby dd_method_2_code_19) rfl (l' := #[.val (.int a1), .val (.int b1), .val (.int c1), .val (.int l1), .val (.int (l1 &&& (3 : Int32))), .val (.int (a1 &&& (255 : Int32))), .val (.int (b1 &&& (255 : Int32))), .unset, .unset]) rfl k) ?_
  refine Go.st (g' := (mkF m 22 #[.val (.int a1), .val (.int b1), .val (.int c1), .val (.int l1), .val (.int (l1 &&& (3 : Int32))), .val (.int (a1 &&& (255 : Int32))), .val (.int (b1 &&& (255 : Int32))), .unset, .unset] [(.int c1)])) (fun _ k => XS.iloadN W0.here hx rfl (hb hby dd_method_2_code_21) rfl  k) ?_
  refine Go.st (g' := (mkF m 25 #[.val (.int a1), .val (.int b1), .val (.int c1), .val (.int l1), .val (.int (l1 &&& (3 : Int32))), .val (.int (a1 &&& (255 : Int32))), .val (.int (b1 &&& (255 : Int32))), .unset, .unset] [(.int (255 : Int32)), (.int c1)])) (fun _ k => XS.sipush W0.here hx rfl (hb hby dd_method_2_code_22) k) ?_
  refine Go.st (g' := (mkF m 26 #[.val (.int a1), .val (.int b1), .val (.int c1), .val (.int l1), .val (.int (l1 &&& (3 : Int32))), .val (.int (a1 &&& (255 : Int32))), .val (.int (b1 &&& (255 : Int32))), .unset, .unset] [(.int (c1 &&& (255 : Int32)))])) (fun _ k => XS.iand W0.here hx rfl (hb hby dd_method_2_code_25) rfl k) ?_
  refine Go.st (g' := (mkF m 27 #[.val (.int a1), .val (.int b1), .val (.int c1), .val (.int l1), .val (.int (l1 &&& (3 : Int32))), .val (.int (a1 &&& (255 : Int32))), .val (.int (b1 &&& (255 : Int32))), .unset, .unset] [(.int ((c1 &&& (255 : Int32)).toUInt32.toUInt16.toUInt32.toInt32))])) (fun _ k => XS.i2c W0.here hx rfl (hb hby dd_method_2_code_26) rfl k) ?_
  rw [i2c_mask]
  refine Go.st (g' := (mkF m 29 #[.val (.int a1), .val (.int b1), .val (.int c1), .val (.int l1), .val (.int (l1 &&& (3 : Int32))), .val (.int (a1 &&& (255 : Int32))), .val (.int (b1 &&& (255 : Int32))), .val (.int (c1 &&& (255 : Int32))), .unset] [])) (fun _ k => XS.istore W0.here hx rfl (hb hby dd_method_2_code_27) rfl (l' := #[.val (.int a1), .val (.int b1), .val (.int c1), .val (.int l1), .val (.int (l1 &&& (3 : Int32))), .val (.int (a1 &&& (255 : Int32))), .val (.int (b1 &&& (255 : Int32))), .val (.int (c1 &&& (255 : Int32))), .unset]) rfl k) ?_
  refine Go.st (g' := (mkF m 31 #[.val (.int a1), .val (.int b1), .val (.int c1), .val (.int l1), .val (.int (l1 &&& (3 : Int32))), .val (.int (a1 &&& (255 : Int32))), .val (.int (b1 &&& (255 : Int32))), .val (.int (c1 &&& (255 : Int32))), .unset] [(.int (l1 &&& (3 : Int32)))])) (fun _ k => XS.iload W0.here hx rfl (hb hby dd_method_2_code_29) rfl  k) ?_
  by_cases hc1 : (l1 &&& (3 : Int32)) = (0 : Int32)
  · refine Go.st (g' := (mkF m 34 #[.val (.int a1), .val (.int b1), .val (.int c1), .val (.int l1), .val (.int (l1 &&& (3 : Int32))), .val (.int (a1 &&& (255 : Int32))), .val (.int (b1 &&& (255 : Int32))), .val (.int (c1 &&& (255 : Int32))), .unset] [])) (fun _ k => XS.ifNo W0.here hx rfl (hb hby dd_method_2_code_31) rfl ((if0 _ _).trans (teq hc1).2) k) ?_
    obtain ⟨T2, h2, a2, g2, W2, E2, z2, X2, D2, S2, SF2, U2, st2⟩ := W0.newO hx (hw _ (List.mem_of_getElem? (i := 5) rfl)) (hw _ (List.mem_of_getElem? (i := 6) rfl)) (hw _ (List.mem_of_getElem? (i := 7) rfl)) (g := (mkF m 34 #[.val (.int a1), .val (.int b1), .val (.int c1), .val (.int l1), .val (.int (l1 &&& (3 : Int32))), .val (.int (a1 &&& (255 : Int32))), .val (.int (b1 &&& (255 : Int32))), .val (.int (c1 &&& (255 : Int32))), .unset] [])) rfl (hb hby dd_method_2_code_34) (by decide) (by decide)
    have F3 : Fld Z h2 a2 "java/lang/String" "coder" "B" (.int (0 : Int32)) := D2 (Or.inr (hw _ (List.mem_of_getElem? (i := 31) rfl))) (ty := .byte) (by decide)
    have F4 : Fld Z h2 a2 "java/lang/String" "value" "[B" .null := D2 (Or.inr (hw _ (List.mem_of_getElem? (i := 33) rfl))) (ty := (.array .byte)) (by decide)
    refine Go.st (g' := (mkF m 37 #[.val (.int a1), .val (.int b1), .val (.int c1), .val (.int l1), .val (.int (l1 &&& (3 : Int32))), .val (.int (a1 &&& (255 : Int32))), .val (.int (b1 &&& (255 : Int32))), .val (.int (c1 &&& (255 : Int32))), .unset] [(.ref a2)])) st2 ?_
    refine Go.st (g' := (mkF m 38 #[.val (.int a1), .val (.int b1), .val (.int c1), .val (.int l1), .val (.int (l1 &&& (3 : Int32))), .val (.int (a1 &&& (255 : Int32))), .val (.int (b1 &&& (255 : Int32))), .val (.int (c1 &&& (255 : Int32))), .unset] [(.ref a2), (.ref a2)])) (fun _ k => XS.dup W2.here hx rfl (hb hby dd_method_2_code_37) rfl rfl k) ?_
    refine Go.st (g' := (mkF m 39 #[.val (.int a1), .val (.int b1), .val (.int c1), .val (.int l1), .val (.int (l1 &&& (3 : Int32))), .val (.int (a1 &&& (255 : Int32))), .val (.int (b1 &&& (255 : Int32))), .val (.int (c1 &&& (255 : Int32))), .unset] [(.int (0 : Int32)), (.ref a2), (.ref a2)])) (fun _ k => XS.iconst W2.here hx rfl (hb hby dd_method_2_code_38) k) ?_
    obtain ⟨T5, h5, a5, k5, g5, W5, E5, z5, X5, S5, SF5, st5⟩ := W2.newP hx (ty := .char) rfl (hw _ (List.mem_of_getElem? (i := 4) rfl)) (g := (mkF m 39 #[.val (.int a1), .val (.int b1), .val (.int c1), .val (.int l1), .val (.int (l1 &&& (3 : Int32))), .val (.int (a1 &&& (255 : Int32))), .val (.int (b1 &&& (255 : Int32))), .val (.int (c1 &&& (255 : Int32))), .unset] [(.int (0 : Int32)), (.ref a2), (.ref a2)])) rfl (hb hby dd_method_2_code_39) rfl (by decide) (cap := 0) (by decide) (by decide) (by decide) (by decide) 0
    have F6 : Arv Z h5 a5 k5 .char (0 : Int32) [] (.int (0 : Int32)) := X5
    refine Go.st (g' := (mkF m 41 #[.val (.int a1), .val (.int b1), .val (.int c1), .val (.int l1), .val (.int (l1 &&& (3 : Int32))), .val (.int (a1 &&& (255 : Int32))), .val (.int (b1 &&& (255 : Int32))), .val (.int (c1 &&& (255 : Int32))), .unset] [(.ref a5), (.ref a2), (.ref a2)])) st5 ?_
    have F8 : Exa Z h5 a2 "java/lang/String" := (X2.ext E5)
    have F9 : Fld Z h5 a2 "java/lang/String" "value" "[B" .null := (F4.ext E5)
    have F10 : Fld Z h5 a2 "java/lang/String" "coder" "B" (.int (0 : Int32)) := (F3.ext E5)
    obtain ⟨_, vm7, T7, h7, W7, Q7, z7, SF7, st7⟩ := W5.callI hx hEL (own_init1E l hE W5.old (x0 := a2) (b0 := a5) (kb := k5) (vs0 := []) (d0 := (.int (0 : Int32))) (by omega) F8 F9 F10 F6) rfl (hw _ (List.mem_of_getElem? (i := 8) rfl)) (hw _ (List.mem_of_getElem? (i := 9) rfl)) (hw _ (List.mem_of_getElem? (i := 7) rfl)) (hw _ (List.mem_of_getElem? (i := 10) rfl)) (by decide) (Wd := 1) (by decide) (by decide) (by decide) (by decide) (g := (mkF m 41 #[.val (.int a1), .val (.int b1), .val (.int c1), .val (.int l1), .val (.int (l1 &&& (3 : Int32))), .val (.int (a1 &&& (255 : Int32))), .val (.int (b1 &&& (255 : Int32))), .val (.int (c1 &&& (255 : Int32))), .unset] [(.ref a5), (.ref a2), (.ref a2)])) rfl (by rw [hml]; rfl) (a := a2) (argsL := [(.ref a5)]) (rest := [(.ref a2)]) rfl (lenOf pd___C_V rfl) rfl (by show 2 * 0 + _ ≤ _; exact Nat.le_of_eq rfl) (hb hby dd_method_2_code_41)
    obtain ⟨t_7, rfl, f7_0, K7⟩ := Q7
    have yf7_0 : h7.size > a2 ∧ h7.size > t_7 := f7_0.lt
    refine Go.tr (g' := (mkF m 44 #[.val (.int a1), .val (.int b1), .val (.int c1), .val (.int l1), .val (.int (l1 &&& (3 : Int32))), .val (.int (a1 &&& (255 : Int32))), .val (.int (b1 &&& (255 : Int32))), .val (.int (c1 &&& (255 : Int32))), .unset] [(.ref a2)])) st7 ?_
    exact W7.retA hx hEL hlk hret rfl rfl rfl (hb hby dd_method_2_code_44) (by decide) (by decide) ⟨a2, t_7, rfl, (by omega), (by unfold own_drawL; rw [if_pos hc1]; exact f7_0), ((((Keep.refl h0 []).ext E2).ext E5).trans K7 (allS (Or.inr (by omega)) all0))⟩
  · refine Go.st (g' := (mkF m 45 #[.val (.int a1), .val (.int b1), .val (.int c1), .val (.int l1), .val (.int (l1 &&& (3 : Int32))), .val (.int (a1 &&& (255 : Int32))), .val (.int (b1 &&& (255 : Int32))), .val (.int (c1 &&& (255 : Int32))), .unset] [])) (fun _ k => XS.ifYes W0.here hx rfl (pc0 := 31) (pc' := 45) rfl (hb hby dd_method_2_code_31) rfl ((if0 _ _).trans (feq hc1).2) (by decide) (by decide) k) ?_
    refine Go.st (g' := (mkF m 47 #[.val (.int a1), .val (.int b1), .val (.int c1), .val (.int l1), .val (.int (l1 &&& (3 : Int32))), .val (.int (a1 &&& (255 : Int32))), .val (.int (b1 &&& (255 : Int32))), .val (.int (c1 &&& (255 : Int32))), .unset] [(.int (l1 &&& (3 : Int32)))])) (fun _ k => XS.iload W0.here hx rfl (hb hby dd_method_2_code_45) rfl  k) ?_
    refine Go.st (g' := (mkF m 48 #[.val (.int a1), .val (.int b1), .val (.int c1), .val (.int l1), .val (.int (l1 &&& (3 : Int32))), .val (.int (a1 &&& (255 : Int32))), .val (.int (b1 &&& (255 : Int32))), .val (.int (c1 &&& (255 : Int32))), .unset] [(.int (1 : Int32)), (.int (l1 &&& (3 : Int32)))])) (fun _ k => XS.iconst W0.here hx rfl (hb hby dd_method_2_code_47) k) ?_
    by_cases hc11 : (l1 &&& (3 : Int32)) = (1 : Int32)
    · refine Go.st (g' := (mkF m 51 #[.val (.int a1), .val (.int b1), .val (.int c1), .val (.int l1), .val (.int (l1 &&& (3 : Int32))), .val (.int (a1 &&& (255 : Int32))), .val (.int (b1 &&& (255 : Int32))), .val (.int (c1 &&& (255 : Int32))), .unset] [])) (fun _ k => XS.icmpNo W0.here hx rfl (hb hby dd_method_2_code_48) rfl (teq hc11).2 k) ?_
      refine Go.st (g' := (mkF m 52 #[.val (.int a1), .val (.int b1), .val (.int c1), .val (.int l1), .val (.int (l1 &&& (3 : Int32))), .val (.int (a1 &&& (255 : Int32))), .val (.int (b1 &&& (255 : Int32))), .val (.int (c1 &&& (255 : Int32))), .unset] [(.int (1 : Int32))])) (fun _ k => XS.iconst W0.here hx rfl (hb hby dd_method_2_code_51) k) ?_
      obtain ⟨T12, h12, a12, k12, g12, W12, E12, z12, X12, S12, SF12, st12⟩ := W0.newP hx (ty := .char) rfl (hw _ (List.mem_of_getElem? (i := 4) rfl)) (g := (mkF m 52 #[.val (.int a1), .val (.int b1), .val (.int c1), .val (.int l1), .val (.int (l1 &&& (3 : Int32))), .val (.int (a1 &&& (255 : Int32))), .val (.int (b1 &&& (255 : Int32))), .val (.int (c1 &&& (255 : Int32))), .unset] [(.int (1 : Int32))])) rfl (hb hby dd_method_2_code_52) rfl (by decide) (cap := 1) (by decide) (by decide) (by decide) (by decide) 1
      have F13 : Arv Z h12 a12 k12 .char (1 : Int32) [(.int (0 : Int32))] (.int (0 : Int32)) := X12
      refine Go.st (g' := (mkF m 54 #[.val (.int a1), .val (.int b1), .val (.int c1), .val (.int l1), .val (.int (l1 &&& (3 : Int32))), .val (.int (a1 &&& (255 : Int32))), .val (.int (b1 &&& (255 : Int32))), .val (.int (c1 &&& (255 : Int32))), .unset] [(.ref a12)])) st12 ?_
      refine Go.st (g' := (mkF m 56 #[.val (.int a1), .val (.int b1), .val (.int c1), .val (.int l1), .val (.int (l1 &&& (3 : Int32))), .val (.int (a1 &&& (255 : Int32))), .val (.int (b1 &&& (255 : Int32))), .val (.int (c1 &&& (255 : Int32))), .val (.ref a12)] [])) (fun _ k => XS.astore W12.here hx rfl (hb hby dd_method_2_code_54) rfl rfl (l' := #[.val (.int a1), .val (.int b1), .val (.int c1), .val (.int l1), .val (.int (l1 &&& (3 : Int32))), .val (.int (a1 &&& (255 : Int32))), .val (.int (b1 &&& (255 : Int32))), .val (.int (c1 &&& (255 : Int32))), .val (.ref a12)]) rfl k) ?_
      refine Go.st (g' := (mkF m 58 #[.val (.int a1), .val (.int b1), .val (.int c1), .val (.int l1), .val (.int (l1 &&& (3 : Int32))), .val (.int (a1 &&& (255 : Int32))), .val (.int (b1 &&& (255 : Int32))), .val (.int (c1 &&& (255 : Int32))), .val (.ref a12)] [(.ref a12)])) (fun _ k => XS.aload W12.here hx rfl (hb hby dd_method_2_code_56) rfl rfl  k) ?_
      refine Go.st (g' := (mkF m 59 #[.val (.int a1), .val (.int b1), .val (.int c1), .val (.int l1), .val (.int (l1 &&& (3 : Int32))), .val (.int (a1 &&& (255 : Int32))), .val (.int (b1 &&& (255 : Int32))), .val (.int (c1 &&& (255 : Int32))), .val (.ref a12)] [(.int (0 : Int32)), (.ref a12)])) (fun _ k => XS.iconst W12.here hx rfl (hb hby dd_method_2_code_58) k) ?_
      refine Go.st (g' := (mkF m 61 #[.val (.int a1), .val (.int b1), .val (.int c1), .val (.int l1), .val (.int (l1 &&& (3 : Int32))), .val (.int (a1 &&& (255 : Int32))), .val (.int (b1 &&& (255 : Int32))), .val (.int (c1 &&& (255 : Int32))), .val (.ref a12)] [(.int (a1 &&& (255 : Int32))), (.int (0 : Int32)), (.ref a12)])) (fun _ k => XS.iload W12.here hx rfl (hb hby dd_method_2_code_59) rfl  k) ?_
      obtain ⟨T14, h14, W14, R14, z14, X14, SF14, st14⟩ := W12.stC hx F13  ⟨by decide, by decide⟩ 0 rfl (Nat.le_of_ble_eq_true rfl) (by omega) (g := (mkF m 61 #[.val (.int a1), .val (.int b1), .val (.int c1), .val (.int l1), .val (.int (l1 &&& (3 : Int32))), .val (.int (a1 &&& (255 : Int32))), .val (.int (b1 &&& (255 : Int32))), .val (.int (c1 &&& (255 : Int32))), .val (.ref a12)] [(.int (a1 &&& (255 : Int32))), (.int (0 : Int32)), (.ref a12)])) rfl rfl (hb hby dd_method_2_code_61)
      have F15 : Arv Z h14 a12 k12 .char (1 : Int32) [(.int (a1 &&& (255 : Int32)))] (.int (0 : Int32)) := (by have q := X14; rw [show nar .char (a1 &&& (255 : Int32)) = (a1 &&& (255 : Int32)) from i2c_mask _] at q; exact q)
      refine Go.st (g' := (mkF m 62 #[.val (.int a1), .val (.int b1), .val (.int c1), .val (.int l1), .val (.int (l1 &&& (3 : Int32))), .val (.int (a1 &&& (255 : Int32))), .val (.int (b1 &&& (255 : Int32))), .val (.int (c1 &&& (255 : Int32))), .val (.ref a12)] [])) st14 ?_
      obtain ⟨T16, h16, a16, g16, W16, E16, z16, X16, D16, S16, SF16, U16, st16⟩ := W14.newO hx (hw _ (List.mem_of_getElem? (i := 5) rfl)) (hw _ (List.mem_of_getElem? (i := 6) rfl)) (hw _ (List.mem_of_getElem? (i := 7) rfl)) (g := (mkF m 62 #[.val (.int a1), .val (.int b1), .val (.int c1), .val (.int l1), .val (.int (l1 &&& (3 : Int32))), .val (.int (a1 &&& (255 : Int32))), .val (.int (b1 &&& (255 : Int32))), .val (.int (c1 &&& (255 : Int32))), .val (.ref a12)] [])) rfl (hb hby dd_method_2_code_62) (by decide) (by decide)
      have F17 : Fld Z h16 a16 "java/lang/String" "coder" "B" (.int (0 : Int32)) := D16 (Or.inr (hw _ (List.mem_of_getElem? (i := 31) rfl))) (ty := .byte) (by decide)
      have F18 : Fld Z h16 a16 "java/lang/String" "value" "[B" .null := D16 (Or.inr (hw _ (List.mem_of_getElem? (i := 33) rfl))) (ty := (.array .byte)) (by decide)
      refine Go.st (g' := (mkF m 65 #[.val (.int a1), .val (.int b1), .val (.int c1), .val (.int l1), .val (.int (l1 &&& (3 : Int32))), .val (.int (a1 &&& (255 : Int32))), .val (.int (b1 &&& (255 : Int32))), .val (.int (c1 &&& (255 : Int32))), .val (.ref a12)] [(.ref a16)])) st16 ?_
      refine Go.st (g' := (mkF m 66 #[.val (.int a1), .val (.int b1), .val (.int c1), .val (.int l1), .val (.int (l1 &&& (3 : Int32))), .val (.int (a1 &&& (255 : Int32))), .val (.int (b1 &&& (255 : Int32))), .val (.int (c1 &&& (255 : Int32))), .val (.ref a12)] [(.ref a16), (.ref a16)])) (fun _ k => XS.dup W16.here hx rfl (hb hby dd_method_2_code_65) rfl rfl k) ?_
      refine Go.st (g' := (mkF m 68 #[.val (.int a1), .val (.int b1), .val (.int c1), .val (.int l1), .val (.int (l1 &&& (3 : Int32))), .val (.int (a1 &&& (255 : Int32))), .val (.int (b1 &&& (255 : Int32))), .val (.int (c1 &&& (255 : Int32))), .val (.ref a12)] [(.ref a12), (.ref a16), (.ref a16)])) (fun _ k => XS.aload W16.here hx rfl (hb hby dd_method_2_code_66) rfl rfl  k) ?_
      have F19 : Arv Z h16 a12 k12 .char (1 : Int32) [(.int (a1 &&& (255 : Int32)))] (.int (0 : Int32)) := (F15.ext E16)
      have hp20 : ∀ c ∈ ([(a1 &&& (255 : Int32))] : List Int32), ¬ c < 0 ∧ ¬ (255 : Int32) < c := (own_allS (own_and255 _) own_all0)
      obtain ⟨_, T20, h20, L20, W20, Q20, z20, SF20, st20⟩ := W16.paySp hx rfl (hw _ (List.mem_of_getElem? (i := 8) rfl)) (hw _ (List.mem_of_getElem? (i := 9) rfl)) (hw _ (List.mem_of_getElem? (i := 10) rfl)) (by decide) (Wd := 1) (ws := [a16]) (StrChars.Road.backV (W := 1) W16.warmS hws (kI := 4) (hw _ (List.mem_of_getElem? (i := 6) rfl)) (cs := ([(a1 &&& (255 : Int32))] : List Int32)) (bs := ([(a1 &&& (255 : Int32))] : List Int32).map (fun c => c.toInt8.toInt32)) (n := 1) (n0 := n0) (by omega) W16.ge X16 F18 F17 F19 (W16.sta hzc) hzc0 rfl rfl (by decide) (by decide) hp20 rfl (by decide) (by decide)) (fun v h' L q => ⟨q.2.2.1, q.2.1⟩) (allS S16 all0) (allS (by omega) all0) (by decide) (by decide) (g := (mkF m 68 #[.val (.int a1), .val (.int b1), .val (.int c1), .val (.int l1), .val (.int (l1 &&& (3 : Int32))), .val (.int (a1 &&& (255 : Int32))), .val (.int (b1 &&& (255 : Int32))), .val (.int (c1 &&& (255 : Int32))), .val (.ref a12)] [(.ref a12), (.ref a16), (.ref a16)])) rfl (by rw [hml]; rfl) (a := a16) (argsL := [(.ref a12)]) (rest := [(.ref a16)]) rfl (lenOf pd___C_V rfl) rfl (by show 2 * 0 + _ ≤ _; exact Nat.le_of_eq rfl) (hb hby dd_method_2_code_68)
      obtain ⟨rfl, -, K20, X20, C20, t20, k20, -, y20, u20, V20, A20⟩ := Q20
      have ya20 : h20.size > t20 := A20.lt
      have F20 : Str Z h20 a16 t20 [(a1 &&& (255 : Int32))] := Str.lat X20 V20 C20 A20 rfl rfl hp20 (Nat.le_of_ble_eq_true rfl)
      refine Go.tr (g' := (mkF m 71 #[.val (.int a1), .val (.int b1), .val (.int c1), .val (.int l1), .val (.int (l1 &&& (3 : Int32))), .val (.int (a1 &&& (255 : Int32))), .val (.int (b1 &&& (255 : Int32))), .val (.int (c1 &&& (255 : Int32))), .val (.ref a12)] [(.ref a16)])) st20 ?_
      exact W20.retA hx hEL hlk hret rfl rfl rfl (hb hby dd_method_2_code_71) (by decide) (by decide) ⟨a16, t20, rfl, (by omega), (by unfold own_drawL; rw [if_neg hc1, if_pos hc11]; exact F20), (((((Keep.refl h0 []).ext E12).wr R14 (Or.inr (by omega))).ext E16).trans K20 (allS (Or.inr (by omega)) all0))⟩
    · refine Go.st (g' := (mkF m 72 #[.val (.int a1), .val (.int b1), .val (.int c1), .val (.int l1), .val (.int (l1 &&& (3 : Int32))), .val (.int (a1 &&& (255 : Int32))), .val (.int (b1 &&& (255 : Int32))), .val (.int (c1 &&& (255 : Int32))), .unset] [])) (fun _ k => XS.icmpYes W0.here hx rfl (pc0 := 48) (pc' := 72) rfl (hb hby dd_method_2_code_48) rfl (feq hc11).2 (by decide) (by decide) k) ?_
      refine Go.st (g' := (mkF m 74 #[.val (.int a1), .val (.int b1), .val (.int c1), .val (.int l1), .val (.int (l1 &&& (3 : Int32))), .val (.int (a1 &&& (255 : Int32))), .val (.int (b1 &&& (255 : Int32))), .val (.int (c1 &&& (255 : Int32))), .unset] [(.int (l1 &&& (3 : Int32)))])) (fun _ k => XS.iload W0.here hx rfl (hb hby dd_method_2_code_72) rfl  k) ?_
      refine Go.st (g' := (mkF m 75 #[.val (.int a1), .val (.int b1), .val (.int c1), .val (.int l1), .val (.int (l1 &&& (3 : Int32))), .val (.int (a1 &&& (255 : Int32))), .val (.int (b1 &&& (255 : Int32))), .val (.int (c1 &&& (255 : Int32))), .unset] [(.int (2 : Int32)), (.int (l1 &&& (3 : Int32)))])) (fun _ k => XS.iconst W0.here hx rfl (hb hby dd_method_2_code_74) k) ?_
      by_cases hc21 : (l1 &&& (3 : Int32)) = (2 : Int32)
      · refine Go.st (g' := (mkF m 78 #[.val (.int a1), .val (.int b1), .val (.int c1), .val (.int l1), .val (.int (l1 &&& (3 : Int32))), .val (.int (a1 &&& (255 : Int32))), .val (.int (b1 &&& (255 : Int32))), .val (.int (c1 &&& (255 : Int32))), .unset] [])) (fun _ k => XS.icmpNo W0.here hx rfl (hb hby dd_method_2_code_75) rfl (teq hc21).2 k) ?_
        refine Go.st (g' := (mkF m 79 #[.val (.int a1), .val (.int b1), .val (.int c1), .val (.int l1), .val (.int (l1 &&& (3 : Int32))), .val (.int (a1 &&& (255 : Int32))), .val (.int (b1 &&& (255 : Int32))), .val (.int (c1 &&& (255 : Int32))), .unset] [(.int (2 : Int32))])) (fun _ k => XS.iconst W0.here hx rfl (hb hby dd_method_2_code_78) k) ?_
        obtain ⟨T22, h22, a22, k22, g22, W22, E22, z22, X22, S22, SF22, st22⟩ := W0.newP hx (ty := .char) rfl (hw _ (List.mem_of_getElem? (i := 4) rfl)) (g := (mkF m 79 #[.val (.int a1), .val (.int b1), .val (.int c1), .val (.int l1), .val (.int (l1 &&& (3 : Int32))), .val (.int (a1 &&& (255 : Int32))), .val (.int (b1 &&& (255 : Int32))), .val (.int (c1 &&& (255 : Int32))), .unset] [(.int (2 : Int32))])) rfl (hb hby dd_method_2_code_79) rfl (by decide) (cap := 2) (by decide) (by decide) (by decide) (by decide) 2
        have F23 : Arv Z h22 a22 k22 .char (2 : Int32) [(.int (0 : Int32)), (.int (0 : Int32))] (.int (0 : Int32)) := X22
        refine Go.st (g' := (mkF m 81 #[.val (.int a1), .val (.int b1), .val (.int c1), .val (.int l1), .val (.int (l1 &&& (3 : Int32))), .val (.int (a1 &&& (255 : Int32))), .val (.int (b1 &&& (255 : Int32))), .val (.int (c1 &&& (255 : Int32))), .unset] [(.ref a22)])) st22 ?_
        refine Go.st (g' := (mkF m 83 #[.val (.int a1), .val (.int b1), .val (.int c1), .val (.int l1), .val (.int (l1 &&& (3 : Int32))), .val (.int (a1 &&& (255 : Int32))), .val (.int (b1 &&& (255 : Int32))), .val (.int (c1 &&& (255 : Int32))), .val (.ref a22)] [])) (fun _ k => XS.astore W22.here hx rfl (hb hby dd_method_2_code_81) rfl rfl (l' := #[.val (.int a1), .val (.int b1), .val (.int c1), .val (.int l1), .val (.int (l1 &&& (3 : Int32))), .val (.int (a1 &&& (255 : Int32))), .val (.int (b1 &&& (255 : Int32))), .val (.int (c1 &&& (255 : Int32))), .val (.ref a22)]) rfl k) ?_
        refine Go.st (g' := (mkF m 85 #[.val (.int a1), .val (.int b1), .val (.int c1), .val (.int l1), .val (.int (l1 &&& (3 : Int32))), .val (.int (a1 &&& (255 : Int32))), .val (.int (b1 &&& (255 : Int32))), .val (.int (c1 &&& (255 : Int32))), .val (.ref a22)] [(.ref a22)])) (fun _ k => XS.aload W22.here hx rfl (hb hby dd_method_2_code_83) rfl rfl  k) ?_
        refine Go.st (g' := (mkF m 86 #[.val (.int a1), .val (.int b1), .val (.int c1), .val (.int l1), .val (.int (l1 &&& (3 : Int32))), .val (.int (a1 &&& (255 : Int32))), .val (.int (b1 &&& (255 : Int32))), .val (.int (c1 &&& (255 : Int32))), .val (.ref a22)] [(.int (0 : Int32)), (.ref a22)])) (fun _ k => XS.iconst W22.here hx rfl (hb hby dd_method_2_code_85) k) ?_
        refine Go.st (g' := (mkF m 88 #[.val (.int a1), .val (.int b1), .val (.int c1), .val (.int l1), .val (.int (l1 &&& (3 : Int32))), .val (.int (a1 &&& (255 : Int32))), .val (.int (b1 &&& (255 : Int32))), .val (.int (c1 &&& (255 : Int32))), .val (.ref a22)] [(.int (a1 &&& (255 : Int32))), (.int (0 : Int32)), (.ref a22)])) (fun _ k => XS.iload W22.here hx rfl (hb hby dd_method_2_code_86) rfl  k) ?_
        obtain ⟨T24, h24, W24, R24, z24, X24, SF24, st24⟩ := W22.stC hx F23  ⟨by decide, by decide⟩ 0 rfl (Nat.le_of_ble_eq_true rfl) (by omega) (g := (mkF m 88 #[.val (.int a1), .val (.int b1), .val (.int c1), .val (.int l1), .val (.int (l1 &&& (3 : Int32))), .val (.int (a1 &&& (255 : Int32))), .val (.int (b1 &&& (255 : Int32))), .val (.int (c1 &&& (255 : Int32))), .val (.ref a22)] [(.int (a1 &&& (255 : Int32))), (.int (0 : Int32)), (.ref a22)])) rfl rfl (hb hby dd_method_2_code_88)
        have F25 : Arv Z h24 a22 k22 .char (2 : Int32) [(.int (a1 &&& (255 : Int32))), (.int (0 : Int32))] (.int (0 : Int32)) := (by have q := X24; rw [show nar .char (a1 &&& (255 : Int32)) = (a1 &&& (255 : Int32)) from i2c_mask _] at q; exact q)
        refine Go.st (g' := (mkF m 89 #[.val (.int a1), .val (.int b1), .val (.int c1), .val (.int l1), .val (.int (l1 &&& (3 : Int32))), .val (.int (a1 &&& (255 : Int32))), .val (.int (b1 &&& (255 : Int32))), .val (.int (c1 &&& (255 : Int32))), .val (.ref a22)] [])) st24 ?_
        refine Go.st (g' := (mkF m 91 #[.val (.int a1), .val (.int b1), .val (.int c1), .val (.int l1), .val (.int (l1 &&& (3 : Int32))), .val (.int (a1 &&& (255 : Int32))), .val (.int (b1 &&& (255 : Int32))), .val (.int (c1 &&& (255 : Int32))), .val (.ref a22)] [(.ref a22)])) (fun _ k => XS.aload W24.here hx rfl (hb hby dd_method_2_code_89) rfl rfl  k) ?_
        refine Go.st (g' := (mkF m 92 #[.val (.int a1), .val (.int b1), .val (.int c1), .val (.int l1), .val (.int (l1 &&& (3 : Int32))), .val (.int (a1 &&& (255 : Int32))), .val (.int (b1 &&& (255 : Int32))), .val (.int (c1 &&& (255 : Int32))), .val (.ref a22)] [(.int (1 : Int32)), (.ref a22)])) (fun _ k => XS.iconst W24.here hx rfl (hb hby dd_method_2_code_91) k) ?_
        refine Go.st (g' := (mkF m 94 #[.val (.int a1), .val (.int b1), .val (.int c1), .val (.int l1), .val (.int (l1 &&& (3 : Int32))), .val (.int (a1 &&& (255 : Int32))), .val (.int (b1 &&& (255 : Int32))), .val (.int (c1 &&& (255 : Int32))), .val (.ref a22)] [(.int (b1 &&& (255 : Int32))), (.int (1 : Int32)), (.ref a22)])) (fun _ k => XS.iload W24.here hx rfl (hb hby dd_method_2_code_92) rfl  k) ?_
        obtain ⟨T26, h26, W26, R26, z26, X26, SF26, st26⟩ := W24.stC hx F25  ⟨by decide, by decide⟩ 1 rfl (Nat.le_of_ble_eq_true rfl) (by omega) (g := (mkF m 94 #[.val (.int a1), .val (.int b1), .val (.int c1), .val (.int l1), .val (.int (l1 &&& (3 : Int32))), .val (.int (a1 &&& (255 : Int32))), .val (.int (b1 &&& (255 : Int32))), .val (.int (c1 &&& (255 : Int32))), .val (.ref a22)] [(.int (b1 &&& (255 : Int32))), (.int (1 : Int32)), (.ref a22)])) rfl rfl (hb hby dd_method_2_code_94)
        have F27 : Arv Z h26 a22 k22 .char (2 : Int32) [(.int (a1 &&& (255 : Int32))), (.int (b1 &&& (255 : Int32)))] (.int (0 : Int32)) := (by have q := X26; rw [show nar .char (b1 &&& (255 : Int32)) = (b1 &&& (255 : Int32)) from i2c_mask _] at q; exact q)
        refine Go.st (g' := (mkF m 95 #[.val (.int a1), .val (.int b1), .val (.int c1), .val (.int l1), .val (.int (l1 &&& (3 : Int32))), .val (.int (a1 &&& (255 : Int32))), .val (.int (b1 &&& (255 : Int32))), .val (.int (c1 &&& (255 : Int32))), .val (.ref a22)] [])) st26 ?_
        obtain ⟨T28, h28, a28, g28, W28, E28, z28, X28, D28, S28, SF28, U28, st28⟩ := W26.newO hx (hw _ (List.mem_of_getElem? (i := 5) rfl)) (hw _ (List.mem_of_getElem? (i := 6) rfl)) (hw _ (List.mem_of_getElem? (i := 7) rfl)) (g := (mkF m 95 #[.val (.int a1), .val (.int b1), .val (.int c1), .val (.int l1), .val (.int (l1 &&& (3 : Int32))), .val (.int (a1 &&& (255 : Int32))), .val (.int (b1 &&& (255 : Int32))), .val (.int (c1 &&& (255 : Int32))), .val (.ref a22)] [])) rfl (hb hby dd_method_2_code_95) (by decide) (by decide)
        have F29 : Fld Z h28 a28 "java/lang/String" "coder" "B" (.int (0 : Int32)) := D28 (Or.inr (hw _ (List.mem_of_getElem? (i := 31) rfl))) (ty := .byte) (by decide)
        have F30 : Fld Z h28 a28 "java/lang/String" "value" "[B" .null := D28 (Or.inr (hw _ (List.mem_of_getElem? (i := 33) rfl))) (ty := (.array .byte)) (by decide)
        refine Go.st (g' := (mkF m 98 #[.val (.int a1), .val (.int b1), .val (.int c1), .val (.int l1), .val (.int (l1 &&& (3 : Int32))), .val (.int (a1 &&& (255 : Int32))), .val (.int (b1 &&& (255 : Int32))), .val (.int (c1 &&& (255 : Int32))), .val (.ref a22)] [(.ref a28)])) st28 ?_
        refine Go.st (g' := (mkF m 99 #[.val (.int a1), .val (.int b1), .val (.int c1), .val (.int l1), .val (.int (l1 &&& (3 : Int32))), .val (.int (a1 &&& (255 : Int32))), .val (.int (b1 &&& (255 : Int32))), .val (.int (c1 &&& (255 : Int32))), .val (.ref a22)] [(.ref a28), (.ref a28)])) (fun _ k => XS.dup W28.here hx rfl (hb hby dd_method_2_code_98) rfl rfl k) ?_
        refine Go.st (g' := (mkF m 101 #[.val (.int a1), .val (.int b1), .val (.int c1), .val (.int l1), .val (.int (l1 &&& (3 : Int32))), .val (.int (a1 &&& (255 : Int32))), .val (.int (b1 &&& (255 : Int32))), .val (.int (c1 &&& (255 : Int32))), .val (.ref a22)] [(.ref a22), (.ref a28), (.ref a28)])) (fun _ k => XS.aload W28.here hx rfl (hb hby dd_method_2_code_99) rfl rfl  k) ?_
        have F31 : Arv Z h28 a22 k22 .char (2 : Int32) [(.int (a1 &&& (255 : Int32))), (.int (b1 &&& (255 : Int32)))] (.int (0 : Int32)) := (F27.ext E28)
        have hp32 : ∀ c ∈ ([(a1 &&& (255 : Int32)), (b1 &&& (255 : Int32))] : List Int32), ¬ c < 0 ∧ ¬ (255 : Int32) < c := (own_allS (own_and255 _) (own_allS (own_and255 _) own_all0))
        obtain ⟨_, T32, h32, L32, W32, Q32, z32, SF32, st32⟩ := W28.paySp hx rfl (hw _ (List.mem_of_getElem? (i := 8) rfl)) (hw _ (List.mem_of_getElem? (i := 9) rfl)) (hw _ (List.mem_of_getElem? (i := 10) rfl)) (by decide) (Wd := 1) (ws := [a28]) (StrChars.Road.backV (W := 1) W28.warmS hws (kI := 4) (hw _ (List.mem_of_getElem? (i := 6) rfl)) (cs := ([(a1 &&& (255 : Int32)), (b1 &&& (255 : Int32))] : List Int32)) (bs := ([(a1 &&& (255 : Int32)), (b1 &&& (255 : Int32))] : List Int32).map (fun c => c.toInt8.toInt32)) (n := 2) (n0 := n0) (by omega) W28.ge X28 F30 F29 F31 (W28.sta hzc) hzc0 rfl rfl (by decide) (by decide) hp32 rfl (by decide) (by decide)) (fun v h' L q => ⟨q.2.2.1, q.2.1⟩) (allS S28 all0) (allS (by omega) all0) (by decide) (by decide) (g := (mkF m 101 #[.val (.int a1), .val (.int b1), .val (.int c1), .val (.int l1), .val (.int (l1 &&& (3 : Int32))), .val (.int (a1 &&& (255 : Int32))), .val (.int (b1 &&& (255 : Int32))), .val (.int (c1 &&& (255 : Int32))), .val (.ref a22)] [(.ref a22), (.ref a28), (.ref a28)])) rfl (by rw [hml]; rfl) (a := a28) (argsL := [(.ref a22)]) (rest := [(.ref a28)]) rfl (lenOf pd___C_V rfl) rfl (by show 2 * 0 + _ ≤ _; exact Nat.le_of_eq rfl) (hb hby dd_method_2_code_101)
        obtain ⟨rfl, -, K32, X32, C32, t32, k32, -, y32, u32, V32, A32⟩ := Q32
        have ya32 : h32.size > t32 := A32.lt
        have F32 : Str Z h32 a28 t32 [(a1 &&& (255 : Int32)), (b1 &&& (255 : Int32))] := Str.lat X32 V32 C32 A32 rfl rfl hp32 (Nat.le_of_ble_eq_true rfl)
        refine Go.tr (g' := (mkF m 104 #[.val (.int a1), .val (.int b1), .val (.int c1), .val (.int l1), .val (.int (l1 &&& (3 : Int32))), .val (.int (a1 &&& (255 : Int32))), .val (.int (b1 &&& (255 : Int32))), .val (.int (c1 &&& (255 : Int32))), .val (.ref a22)] [(.ref a28)])) st32 ?_
        exact W32.retA hx hEL hlk hret rfl rfl rfl (hb hby dd_method_2_code_104) (by decide) (by decide) ⟨a28, t32, rfl, (by omega), (by unfold own_drawL; rw [if_neg hc1, if_neg hc11, if_pos hc21]; exact F32), ((((((Keep.refl h0 []).ext E22).wr R24 (Or.inr (by omega))).wr R26 (Or.inr (by omega))).ext E28).trans K32 (allS (Or.inr (by omega)) all0))⟩
      · refine Go.st (g' := (mkF m 105 #[.val (.int a1), .val (.int b1), .val (.int c1), .val (.int l1), .val (.int (l1 &&& (3 : Int32))), .val (.int (a1 &&& (255 : Int32))), .val (.int (b1 &&& (255 : Int32))), .val (.int (c1 &&& (255 : Int32))), .unset] [])) (fun _ k => XS.icmpYes W0.here hx rfl (pc0 := 75) (pc' := 105) rfl (hb hby dd_method_2_code_75) rfl (feq hc21).2 (by decide) (by decide) k) ?_
        refine Go.st (g' := (mkF m 106 #[.val (.int a1), .val (.int b1), .val (.int c1), .val (.int l1), .val (.int (l1 &&& (3 : Int32))), .val (.int (a1 &&& (255 : Int32))), .val (.int (b1 &&& (255 : Int32))), .val (.int (c1 &&& (255 : Int32))), .unset] [(.int (3 : Int32))])) (fun _ k => XS.iconst W0.here hx rfl (hb hby dd_method_2_code_105) k) ?_
        obtain ⟨T33, h33, a33, k33, g33, W33, E33, z33, X33, S33, SF33, st33⟩ := W0.newP hx (ty := .char) rfl (hw _ (List.mem_of_getElem? (i := 4) rfl)) (g := (mkF m 106 #[.val (.int a1), .val (.int b1), .val (.int c1), .val (.int l1), .val (.int (l1 &&& (3 : Int32))), .val (.int (a1 &&& (255 : Int32))), .val (.int (b1 &&& (255 : Int32))), .val (.int (c1 &&& (255 : Int32))), .unset] [(.int (3 : Int32))])) rfl (hb hby dd_method_2_code_106) rfl (by decide) (cap := 3) (by decide) (by decide) (by decide) (by decide) 3
        have F34 : Arv Z h33 a33 k33 .char (3 : Int32) [(.int (0 : Int32)), (.int (0 : Int32)), (.int (0 : Int32))] (.int (0 : Int32)) := X33
        refine Go.st (g' := (mkF m 108 #[.val (.int a1), .val (.int b1), .val (.int c1), .val (.int l1), .val (.int (l1 &&& (3 : Int32))), .val (.int (a1 &&& (255 : Int32))), .val (.int (b1 &&& (255 : Int32))), .val (.int (c1 &&& (255 : Int32))), .unset] [(.ref a33)])) st33 ?_
        refine Go.st (g' := (mkF m 110 #[.val (.int a1), .val (.int b1), .val (.int c1), .val (.int l1), .val (.int (l1 &&& (3 : Int32))), .val (.int (a1 &&& (255 : Int32))), .val (.int (b1 &&& (255 : Int32))), .val (.int (c1 &&& (255 : Int32))), .val (.ref a33)] [])) (fun _ k => XS.astore W33.here hx rfl (hb hby dd_method_2_code_108) rfl rfl (l' := #[.val (.int a1), .val (.int b1), .val (.int c1), .val (.int l1), .val (.int (l1 &&& (3 : Int32))), .val (.int (a1 &&& (255 : Int32))), .val (.int (b1 &&& (255 : Int32))), .val (.int (c1 &&& (255 : Int32))), .val (.ref a33)]) rfl k) ?_
        refine Go.st (g' := (mkF m 112 #[.val (.int a1), .val (.int b1), .val (.int c1), .val (.int l1), .val (.int (l1 &&& (3 : Int32))), .val (.int (a1 &&& (255 : Int32))), .val (.int (b1 &&& (255 : Int32))), .val (.int (c1 &&& (255 : Int32))), .val (.ref a33)] [(.ref a33)])) (fun _ k => XS.aload W33.here hx rfl (hb hby dd_method_2_code_110) rfl rfl  k) ?_
        refine Go.st (g' := (mkF m 113 #[.val (.int a1), .val (.int b1), .val (.int c1), .val (.int l1), .val (.int (l1 &&& (3 : Int32))), .val (.int (a1 &&& (255 : Int32))), .val (.int (b1 &&& (255 : Int32))), .val (.int (c1 &&& (255 : Int32))), .val (.ref a33)] [(.int (0 : Int32)), (.ref a33)])) (fun _ k => XS.iconst W33.here hx rfl (hb hby dd_method_2_code_112) k) ?_
        refine Go.st (g' := (mkF m 115 #[.val (.int a1), .val (.int b1), .val (.int c1), .val (.int l1), .val (.int (l1 &&& (3 : Int32))), .val (.int (a1 &&& (255 : Int32))), .val (.int (b1 &&& (255 : Int32))), .val (.int (c1 &&& (255 : Int32))), .val (.ref a33)] [(.int (a1 &&& (255 : Int32))), (.int (0 : Int32)), (.ref a33)])) (fun _ k => XS.iload W33.here hx rfl (hb hby dd_method_2_code_113) rfl  k) ?_
        obtain ⟨T35, h35, W35, R35, z35, X35, SF35, st35⟩ := W33.stC hx F34  ⟨by decide, by decide⟩ 0 rfl (Nat.le_of_ble_eq_true rfl) (by omega) (g := (mkF m 115 #[.val (.int a1), .val (.int b1), .val (.int c1), .val (.int l1), .val (.int (l1 &&& (3 : Int32))), .val (.int (a1 &&& (255 : Int32))), .val (.int (b1 &&& (255 : Int32))), .val (.int (c1 &&& (255 : Int32))), .val (.ref a33)] [(.int (a1 &&& (255 : Int32))), (.int (0 : Int32)), (.ref a33)])) rfl rfl (hb hby dd_method_2_code_115)
        have F36 : Arv Z h35 a33 k33 .char (3 : Int32) [(.int (a1 &&& (255 : Int32))), (.int (0 : Int32)), (.int (0 : Int32))] (.int (0 : Int32)) := (by have q := X35; rw [show nar .char (a1 &&& (255 : Int32)) = (a1 &&& (255 : Int32)) from i2c_mask _] at q; exact q)
        refine Go.st (g' := (mkF m 116 #[.val (.int a1), .val (.int b1), .val (.int c1), .val (.int l1), .val (.int (l1 &&& (3 : Int32))), .val (.int (a1 &&& (255 : Int32))), .val (.int (b1 &&& (255 : Int32))), .val (.int (c1 &&& (255 : Int32))), .val (.ref a33)] [])) st35 ?_
        refine Go.st (g' := (mkF m 118 #[.val (.int a1), .val (.int b1), .val (.int c1), .val (.int l1), .val (.int (l1 &&& (3 : Int32))), .val (.int (a1 &&& (255 : Int32))), .val (.int (b1 &&& (255 : Int32))), .val (.int (c1 &&& (255 : Int32))), .val (.ref a33)] [(.ref a33)])) (fun _ k => XS.aload W35.here hx rfl (hb hby dd_method_2_code_116) rfl rfl  k) ?_
        refine Go.st (g' := (mkF m 119 #[.val (.int a1), .val (.int b1), .val (.int c1), .val (.int l1), .val (.int (l1 &&& (3 : Int32))), .val (.int (a1 &&& (255 : Int32))), .val (.int (b1 &&& (255 : Int32))), .val (.int (c1 &&& (255 : Int32))), .val (.ref a33)] [(.int (1 : Int32)), (.ref a33)])) (fun _ k => XS.iconst W35.here hx rfl (hb hby dd_method_2_code_118) k) ?_
        refine Go.st (g' := (mkF m 121 #[.val (.int a1), .val (.int b1), .val (.int c1), .val (.int l1), .val (.int (l1 &&& (3 : Int32))), .val (.int (a1 &&& (255 : Int32))), .val (.int (b1 &&& (255 : Int32))), .val (.int (c1 &&& (255 : Int32))), .val (.ref a33)] [(.int (b1 &&& (255 : Int32))), (.int (1 : Int32)), (.ref a33)])) (fun _ k => XS.iload W35.here hx rfl (hb hby dd_method_2_code_119) rfl  k) ?_
        obtain ⟨T37, h37, W37, R37, z37, X37, SF37, st37⟩ := W35.stC hx F36  ⟨by decide, by decide⟩ 1 rfl (Nat.le_of_ble_eq_true rfl) (by omega) (g := (mkF m 121 #[.val (.int a1), .val (.int b1), .val (.int c1), .val (.int l1), .val (.int (l1 &&& (3 : Int32))), .val (.int (a1 &&& (255 : Int32))), .val (.int (b1 &&& (255 : Int32))), .val (.int (c1 &&& (255 : Int32))), .val (.ref a33)] [(.int (b1 &&& (255 : Int32))), (.int (1 : Int32)), (.ref a33)])) rfl rfl (hb hby dd_method_2_code_121)
        have F38 : Arv Z h37 a33 k33 .char (3 : Int32) [(.int (a1 &&& (255 : Int32))), (.int (b1 &&& (255 : Int32))), (.int (0 : Int32))] (.int (0 : Int32)) := (by have q := X37; rw [show nar .char (b1 &&& (255 : Int32)) = (b1 &&& (255 : Int32)) from i2c_mask _] at q; exact q)
        refine Go.st (g' := (mkF m 122 #[.val (.int a1), .val (.int b1), .val (.int c1), .val (.int l1), .val (.int (l1 &&& (3 : Int32))), .val (.int (a1 &&& (255 : Int32))), .val (.int (b1 &&& (255 : Int32))), .val (.int (c1 &&& (255 : Int32))), .val (.ref a33)] [])) st37 ?_
        refine Go.st (g' := (mkF m 124 #[.val (.int a1), .val (.int b1), .val (.int c1), .val (.int l1), .val (.int (l1 &&& (3 : Int32))), .val (.int (a1 &&& (255 : Int32))), .val (.int (b1 &&& (255 : Int32))), .val (.int (c1 &&& (255 : Int32))), .val (.ref a33)] [(.ref a33)])) (fun _ k => XS.aload W37.here hx rfl (hb hby dd_method_2_code_122) rfl rfl  k) ?_
        refine Go.st (g' := (mkF m 125 #[.val (.int a1), .val (.int b1), .val (.int c1), .val (.int l1), .val (.int (l1 &&& (3 : Int32))), .val (.int (a1 &&& (255 : Int32))), .val (.int (b1 &&& (255 : Int32))), .val (.int (c1 &&& (255 : Int32))), .val (.ref a33)] [(.int (2 : Int32)), (.ref a33)])) (fun _ k => XS.iconst W37.here hx rfl (hb hby dd_method_2_code_124) k) ?_
        refine Go.st (g' := (mkF m 127 #[.val (.int a1), .val (.int b1), .val (.int c1), .val (.int l1), .val (.int (l1 &&& (3 : Int32))), .val (.int (a1 &&& (255 : Int32))), .val (.int (b1 &&& (255 : Int32))), .val (.int (c1 &&& (255 : Int32))), .val (.ref a33)] [(.int (c1 &&& (255 : Int32))), (.int (2 : Int32)), (.ref a33)])) (fun _ k => XS.iload W37.here hx rfl (hb hby dd_method_2_code_125) rfl  k) ?_
        obtain ⟨T39, h39, W39, R39, z39, X39, SF39, st39⟩ := W37.stC hx F38  ⟨by decide, by decide⟩ 2 rfl (Nat.le_of_ble_eq_true rfl) (by omega) (g := (mkF m 127 #[.val (.int a1), .val (.int b1), .val (.int c1), .val (.int l1), .val (.int (l1 &&& (3 : Int32))), .val (.int (a1 &&& (255 : Int32))), .val (.int (b1 &&& (255 : Int32))), .val (.int (c1 &&& (255 : Int32))), .val (.ref a33)] [(.int (c1 &&& (255 : Int32))), (.int (2 : Int32)), (.ref a33)])) rfl rfl (hb hby dd_method_2_code_127)
        have F40 : Arv Z h39 a33 k33 .char (3 : Int32) [(.int (a1 &&& (255 : Int32))), (.int (b1 &&& (255 : Int32))), (.int (c1 &&& (255 : Int32)))] (.int (0 : Int32)) := (by have q := X39; rw [show nar .char (c1 &&& (255 : Int32)) = (c1 &&& (255 : Int32)) from i2c_mask _] at q; exact q)
        refine Go.st (g' := (mkF m 128 #[.val (.int a1), .val (.int b1), .val (.int c1), .val (.int l1), .val (.int (l1 &&& (3 : Int32))), .val (.int (a1 &&& (255 : Int32))), .val (.int (b1 &&& (255 : Int32))), .val (.int (c1 &&& (255 : Int32))), .val (.ref a33)] [])) st39 ?_
        obtain ⟨T41, h41, a41, g41, W41, E41, z41, X41, D41, S41, SF41, U41, st41⟩ := W39.newO hx (hw _ (List.mem_of_getElem? (i := 5) rfl)) (hw _ (List.mem_of_getElem? (i := 6) rfl)) (hw _ (List.mem_of_getElem? (i := 7) rfl)) (g := (mkF m 128 #[.val (.int a1), .val (.int b1), .val (.int c1), .val (.int l1), .val (.int (l1 &&& (3 : Int32))), .val (.int (a1 &&& (255 : Int32))), .val (.int (b1 &&& (255 : Int32))), .val (.int (c1 &&& (255 : Int32))), .val (.ref a33)] [])) rfl (hb hby dd_method_2_code_128) (by decide) (by decide)
        have F42 : Fld Z h41 a41 "java/lang/String" "coder" "B" (.int (0 : Int32)) := D41 (Or.inr (hw _ (List.mem_of_getElem? (i := 31) rfl))) (ty := .byte) (by decide)
        have F43 : Fld Z h41 a41 "java/lang/String" "value" "[B" .null := D41 (Or.inr (hw _ (List.mem_of_getElem? (i := 33) rfl))) (ty := (.array .byte)) (by decide)
        refine Go.st (g' := (mkF m 131 #[.val (.int a1), .val (.int b1), .val (.int c1), .val (.int l1), .val (.int (l1 &&& (3 : Int32))), .val (.int (a1 &&& (255 : Int32))), .val (.int (b1 &&& (255 : Int32))), .val (.int (c1 &&& (255 : Int32))), .val (.ref a33)] [(.ref a41)])) st41 ?_
        refine Go.st (g' := (mkF m 132 #[.val (.int a1), .val (.int b1), .val (.int c1), .val (.int l1), .val (.int (l1 &&& (3 : Int32))), .val (.int (a1 &&& (255 : Int32))), .val (.int (b1 &&& (255 : Int32))), .val (.int (c1 &&& (255 : Int32))), .val (.ref a33)] [(.ref a41), (.ref a41)])) (fun _ k => XS.dup W41.here hx rfl (hb hby dd_method_2_code_131) rfl rfl k) ?_
        refine Go.st (g' := (mkF m 134 #[.val (.int a1), .val (.int b1), .val (.int c1), .val (.int l1), .val (.int (l1 &&& (3 : Int32))), .val (.int (a1 &&& (255 : Int32))), .val (.int (b1 &&& (255 : Int32))), .val (.int (c1 &&& (255 : Int32))), .val (.ref a33)] [(.ref a33), (.ref a41), (.ref a41)])) (fun _ k => XS.aload W41.here hx rfl (hb hby dd_method_2_code_132) rfl rfl  k) ?_
        have F44 : Arv Z h41 a33 k33 .char (3 : Int32) [(.int (a1 &&& (255 : Int32))), (.int (b1 &&& (255 : Int32))), (.int (c1 &&& (255 : Int32)))] (.int (0 : Int32)) := (F40.ext E41)
        have hp45 : ∀ c ∈ ([(a1 &&& (255 : Int32)), (b1 &&& (255 : Int32)), (c1 &&& (255 : Int32))] : List Int32), ¬ c < 0 ∧ ¬ (255 : Int32) < c := (own_allS (own_and255 _) (own_allS (own_and255 _) (own_allS (own_and255 _) own_all0)))
        obtain ⟨_, T45, h45, L45, W45, Q45, z45, SF45, st45⟩ := W41.paySp hx rfl (hw _ (List.mem_of_getElem? (i := 8) rfl)) (hw _ (List.mem_of_getElem? (i := 9) rfl)) (hw _ (List.mem_of_getElem? (i := 10) rfl)) (by decide) (Wd := 1) (ws := [a41]) (StrChars.Road.backV (W := 1) W41.warmS hws (kI := 4) (hw _ (List.mem_of_getElem? (i := 6) rfl)) (cs := ([(a1 &&& (255 : Int32)), (b1 &&& (255 : Int32)), (c1 &&& (255 : Int32))] : List Int32)) (bs := ([(a1 &&& (255 : Int32)), (b1 &&& (255 : Int32)), (c1 &&& (255 : Int32))] : List Int32).map (fun c => c.toInt8.toInt32)) (n := 3) (n0 := n0) (by omega) W41.ge X41 F43 F42 F44 (W41.sta hzc) hzc0 rfl rfl (by decide) (by decide) hp45 rfl (by decide) (by decide)) (fun v h' L q => ⟨q.2.2.1, q.2.1⟩) (allS S41 all0) (allS (by omega) all0) (by decide) (by decide) (g := (mkF m 134 #[.val (.int a1), .val (.int b1), .val (.int c1), .val (.int l1), .val (.int (l1 &&& (3 : Int32))), .val (.int (a1 &&& (255 : Int32))), .val (.int (b1 &&& (255 : Int32))), .val (.int (c1 &&& (255 : Int32))), .val (.ref a33)] [(.ref a33), (.ref a41), (.ref a41)])) rfl (by rw [hml]; rfl) (a := a41) (argsL := [(.ref a33)]) (rest := [(.ref a41)]) rfl (lenOf pd___C_V rfl) rfl (by show 2 * 0 + _ ≤ _; exact Nat.le_of_eq rfl) (hb hby dd_method_2_code_134)
        obtain ⟨rfl, -, K45, X45, C45, t45, k45, -, y45, u45, V45, A45⟩ := Q45
        have ya45 : h45.size > t45 := A45.lt
        have F45 : Str Z h45 a41 t45 [(a1 &&& (255 : Int32)), (b1 &&& (255 : Int32)), (c1 &&& (255 : Int32))] := Str.lat X45 V45 C45 A45 rfl rfl hp45 (Nat.le_of_ble_eq_true rfl)
        refine Go.tr (g' := (mkF m 137 #[.val (.int a1), .val (.int b1), .val (.int c1), .val (.int l1), .val (.int (l1 &&& (3 : Int32))), .val (.int (a1 &&& (255 : Int32))), .val (.int (b1 &&& (255 : Int32))), .val (.int (c1 &&& (255 : Int32))), .val (.ref a33)] [(.ref a41)])) st45 ?_
        exact W45.retA hx hEL hlk hret rfl rfl rfl (hb hby dd_method_2_code_137) (by decide) (by decide) ⟨a41, t45, rfl, (by omega), (by unfold own_drawL; rw [if_neg hc1, if_neg hc11, if_neg hc21]; exact F45), (((((((Keep.refl h0 []).ext E33).wr R35 (Or.inr (by omega))).wr R37 (Or.inr (by omega))).wr R39 (Or.inr (by omega))).ext E41).trans K45 (allS (Or.inr (by omega)) all0))⟩
set_option maxRecDepth 65536 in
set_option maxHeartbeats 4000000 in
theorem own_thrInit (l : Launch) {Z : State} {a0 : Array Value} (hE : Ctx Z a0 l) {n0 : Nat} {h0 : Heap} (O : Old Z n0 h0) {x0 : Addr} {v1 : Value} {v2 : Value} (hx0 : n0 ≤ x0) (rv1 : v1.isRef = true) (rv2 : v2.isRef = true) (P0 : Exa Z h0 x0 "com/example/fanoutd/fanoutd/delivery/DeliveryException") (P1 : Unt h0 x0) (P2 : Fld Z h0 x0 "com/example/fanoutd/fanoutd/delivery/DeliveryException" "retryable" "Z" (.int (0 : Int32))) (P3 : Fld Z h0 x0 "com/example/fanoutd/fanoutd/delivery/DeliveryException" "retryAfter" "Ljava/time/Duration;" .null) (P4 : Fld Z h0 x0 "java/lang/Throwable" "cause" "Ljava/lang/Throwable;" .null) (P5 : Fld Z h0 x0 "java/lang/Throwable" "stackTrace" "[Ljava/lang/StackTraceElement;" .null) (P6 : Fld Z h0 x0 "java/lang/Throwable" "suppressedExceptions" "Ljava/util/List;" .null) (P7 : Fld Z h0 x0 "java/lang/Throwable" "backtrace" "Ljava/lang/Object;" .null) (P8 : Fld Z h0 x0 "java/lang/Throwable" "detailMessage" "Ljava/lang/String;" .null) :
    Met l (⟨"java/lang/Throwable", "<init>", "(Ljava/lang/String;Ljava/lang/Throwable;)V"⟩ : MethodName) jdk_78_method_3_code 3 (Option.none : Option Jvm.ClassFile.FieldType) ({ frames := 3, cells := 1, slots := 2752, locals := 42 } : Room) Z consts_1 n0 [] #[(.ref x0), v1, v2] h0 (fun v h => v = none ∧ Unt h x0 ∧ Fld Z h x0 "com/example/fanoutd/fanoutd/delivery/DeliveryException" "retryable" "Z" (.int (0 : Int32)) ∧ Fld Z h x0 "com/example/fanoutd/fanoutd/delivery/DeliveryException" "retryAfter" "Ljava/time/Duration;" .null ∧ Fld Z h x0 "java/lang/Throwable" "detailMessage" "Ljava/lang/String;" v1 ∧ Fld Z h x0 "java/lang/Throwable" "cause" "Ljava/lang/Throwable;" v2 ∧ Keep h0 h [x0]) := by
  have hw := hE.1
  have hEL := own_EW hw
  have own_wS := own_stringAtoms hw
  have hexc : ∀ d ∈ Jvm.Free.Exc.excAtoms "com/example/fanoutd/fanoutd/delivery/DeliveryException", d ≠ .lays tN tN "suppressedExceptions" listD → d.before a0 Z = true := fun d hd hne => hw d ((by decide +kernel : ∀ d ∈ Jvm.Free.Exc.excAtoms "com/example/fanoutd/fanoutd/delivery/DeliveryException", d ≠ .lays tN tN "suppressedExceptions" listD → d ∈ tables_1) d hd hne)
  have hsix : ∀ nd ∈ Jvm.Free.Exc.sixNames, (Jvm.Cond.lays "com/example/fanoutd/fanoutd/delivery/DeliveryException" tN nd.1 nd.2).before a0 Z = true := fun nd hd => hw _ ((by decide +kernel : ∀ nd ∈ Jvm.Free.Exc.sixNames, Jvm.Cond.lays "com/example/fanoutd/fanoutd/delivery/DeliveryException" tN nd.1 nd.2 ∈ tables_1) nd hd)
  obtain ⟨us, hus⟩ := hE.2.2.2.1
  obtain ⟨sen, hsen, rsen⟩ := hE.2.2.2.2.1
  have hlt := hE.2.2.2.2.2
  refine Met.of (by first | (refine plainFor_of_name ?_; simp [plainName, overriddenIn]; done) | decide +kernel) O ?_
  intro p e s m below meth c T0 hx hby hml hret hlk hnm hh0 W0
  have z0 := W0.ge
  have yP0 : h0.size > x0 := P0.lt
  refine Go.st (g' := (mkF m 0 #[.val (.ref x0), .val v1, .val v2] [])) (fun _ k => castTop (by first | rfl | (simp [entryFrame, mkF, argsToLocals, maxLocals, own_catI, own_catJ, own_catD, own_catA, own_catN, own_cat rv1, own_cat rv2]; done)) k) ?_
  refine Go.st (g' := (mkF m 1 #[.val (.ref x0), .val v1, .val v2] [(.ref x0)])) (fun _ k => XS.aloadN W0.here hx rfl (hb hby dd_jdk_78_method_3_code_0) rfl rfl  k) ?_
  obtain ⟨T1, W1, st1⟩ := W0.initO hx (hw _ (List.mem_of_getElem? (i := 56) rfl)) (hw _ (List.mem_of_getElem? (i := 16) rfl)) (hw _ (List.mem_of_getElem? (i := 17) rfl)) (g := (mkF m 1 #[.val (.ref x0), .val v1, .val v2] [(.ref x0)])) rfl (by rw [hml]; rfl) rfl (hb hby dd_jdk_78_method_3_code_1) (by decide) (Wd := 0) (by show 2 * 0 + _ ≤ _; exact Nat.le_of_eq rfl) (by decide)
  refine Go.st (g' := (mkF m 4 #[.val (.ref x0), .val v1, .val v2] [])) st1 ?_
  refine Go.st (g' := (mkF m 5 #[.val (.ref x0), .val v1, .val v2] [(.ref x0)])) (fun _ k => XS.aloadN W1.here hx rfl (hb hby dd_jdk_78_method_3_code_4) rfl rfl  k) ?_
  refine Go.st (g' := (mkF m 6 #[.val (.ref x0), .val v1, .val v2] [(.ref x0), (.ref x0)])) (fun _ k => XS.aloadN W1.here hx rfl (hb hby dd_jdk_78_method_3_code_5) rfl rfl  k) ?_
  obtain ⟨T2, h2, W2, R2, z2, X2, SF2, st2⟩ := W1.putF hx (hw _ (List.mem_of_getElem? (i := 57) rfl)) Via.refl P4 P0 (Or.inl (hw _ (List.mem_of_getElem? (i := 58) rfl))) (hw _ (List.mem_of_getElem? (i := 39) rfl)) (ty := (.object "java/lang/Throwable")) (by decide) rfl rfl (W1.safeExa P0 (by decide) (by decide)) (by omega) (g := (mkF m 6 #[.val (.ref x0), .val v1, .val v2] [(.ref x0), (.ref x0)])) rfl rfl (hb hby dd_jdk_78_method_3_code_6)
  refine Go.st (g' := (mkF m 9 #[.val (.ref x0), .val v1, .val v2] [])) st2 ?_
  refine Go.st (g' := (mkF m 10 #[.val (.ref x0), .val v1, .val v2] [(.ref x0)])) (fun _ k => XS.aloadN W2.here hx rfl (hb hby dd_jdk_78_method_3_code_9) rfl rfl  k) ?_
  obtain ⟨T3, W3, st3⟩ := W2.getS hx (hw _ (List.mem_of_getElem? (i := 59) rfl)) Via.refl (W2.sta hus) (g := (mkF m 10 #[.val (.ref x0), .val v1, .val v2] [(.ref x0)])) rfl (hb hby dd_jdk_78_method_3_code_10)
  refine Go.st (g' := (mkF m 13 #[.val (.ref x0), .val v1, .val v2] [(.ref us), (.ref x0)])) st3 ?_
  have F5 : Fld Z h2 x0 "java/lang/Throwable" "stackTrace" "[Ljava/lang/StackTraceElement;" .null := (P5.other R2 (Or.inr (slot_ne (Or.inl (hw _ (List.mem_of_getElem? (i := 61) rfl))) (Or.inl (hw _ (List.mem_of_getElem? (i := 58) rfl))) (by decide) (t := (.array (.object "java/lang/StackTraceElement"))) (t' := (.object "java/lang/Throwable")) (by decide) (by decide))))
  have F6 : Exa Z h2 x0 "com/example/fanoutd/fanoutd/delivery/DeliveryException" := (P0.wr R2)
  obtain ⟨T4, h4, W4, R4, z4, X4, SF4, st4⟩ := W3.putF hx (hw _ (List.mem_of_getElem? (i := 60) rfl)) Via.refl F5 F6 (Or.inl (hw _ (List.mem_of_getElem? (i := 61) rfl))) (hw _ (List.mem_of_getElem? (i := 39) rfl)) (ty := (.array (.object "java/lang/StackTraceElement"))) (by decide) rfl rfl (W3.safeExa F6 (by decide) (by decide)) (by omega) (g := (mkF m 13 #[.val (.ref x0), .val v1, .val v2] [(.ref us), (.ref x0)])) rfl rfl (hb hby dd_jdk_78_method_3_code_13)
  refine Go.st (g' := (mkF m 16 #[.val (.ref x0), .val v1, .val v2] [])) st4 ?_
  refine Go.st (g' := (mkF m 17 #[.val (.ref x0), .val v1, .val v2] [(.ref x0)])) (fun _ k => XS.aloadN W4.here hx rfl (hb hby dd_jdk_78_method_3_code_16) rfl rfl  k) ?_
  obtain ⟨T7, W7, st7⟩ := W4.getS hx (hw _ (List.mem_of_getElem? (i := 62) rfl)) Via.refl (W4.sta hsen) (g := (mkF m 17 #[.val (.ref x0), .val v1, .val v2] [(.ref x0)])) rfl (hb hby dd_jdk_78_method_3_code_17)
  refine Go.st (g' := (mkF m 20 #[.val (.ref x0), .val v1, .val v2] [sen, (.ref x0)])) st7 ?_
  have F9 : Fld Z h4 x0 "java/lang/Throwable" "suppressedExceptions" "Ljava/util/List;" .null := ((P6.other R2 (Or.inr (slot_ne (Or.inl (hw _ (List.mem_of_getElem? (i := 64) rfl))) (Or.inl (hw _ (List.mem_of_getElem? (i := 58) rfl))) (by decide) (t := (.object "java/util/List")) (t' := (.object "java/lang/Throwable")) (by decide) (by decide)))).other R4 (Or.inr (slot_ne (Or.inl (hw _ (List.mem_of_getElem? (i := 64) rfl))) (Or.inl (hw _ (List.mem_of_getElem? (i := 61) rfl))) (by decide) (t := (.object "java/util/List")) (t' := (.array (.object "java/lang/StackTraceElement"))) (by decide) (by decide))))
  have F10 : Exa Z h4 x0 "com/example/fanoutd/fanoutd/delivery/DeliveryException" := (F6.wr R4)
  obtain ⟨T8, h8, W8, R8, z8, X8, SF8, st8⟩ := W7.putF hx (hw _ (List.mem_of_getElem? (i := 63) rfl)) Via.refl F9 F10 (Or.inl (hw _ (List.mem_of_getElem? (i := 64) rfl))) (hw _ (List.mem_of_getElem? (i := 39) rfl)) (ty := (.object "java/util/List")) (by decide) rfl (own_fitsR rsen) (W7.safeExa F10 (by decide) (by decide)) (by omega) (g := (mkF m 20 #[.val (.ref x0), .val v1, .val v2] [sen, (.ref x0)])) rfl rfl (hb hby dd_jdk_78_method_3_code_20)
  refine Go.st (g' := (mkF m 23 #[.val (.ref x0), .val v1, .val v2] [])) st8 ?_
  refine Go.st (g' := (mkF m 24 #[.val (.ref x0), .val v1, .val v2] [(.ref x0)])) (fun _ k => XS.aloadN W8.here hx rfl (hb hby dd_jdk_78_method_3_code_23) rfl rfl  k) ?_
  have F11 : Exa Z h8 x0 "com/example/fanoutd/fanoutd/delivery/DeliveryException" := (F10.wr R8)
  have F12 : Unt h8 x0 := (((P1.wr R2).wr R4).wr R8)
  have F13 : Fld Z h8 x0 "java/lang/Throwable" "backtrace" "Ljava/lang/Object;" .null := (((P7.other R2 (Or.inr (slot_ne (Or.inl (hw _ (List.mem_of_getElem? (i := 89) rfl))) (Or.inl (hw _ (List.mem_of_getElem? (i := 58) rfl))) (by decide) (t := (.object "java/lang/Object")) (t' := (.object "java/lang/Throwable")) (by decide) (by decide)))).other R4 (Or.inr (slot_ne (Or.inl (hw _ (List.mem_of_getElem? (i := 89) rfl))) (Or.inl (hw _ (List.mem_of_getElem? (i := 61) rfl))) (by decide) (t := (.object "java/lang/Object")) (t' := (.array (.object "java/lang/StackTraceElement"))) (by decide) (by decide)))).other R8 (Or.inr (slot_ne (Or.inl (hw _ (List.mem_of_getElem? (i := 89) rfl))) (Or.inl (hw _ (List.mem_of_getElem? (i := 64) rfl))) (by decide) (t := (.object "java/lang/Object")) (t' := (.object "java/util/List")) (by decide) (by decide))))
  have F14 : Fld Z h8 x0 "java/lang/Throwable" "stackTrace" "[Ljava/lang/StackTraceElement;" (.ref us) := (X4.other R8 (Or.inr (slot_ne (Or.inl (hw _ (List.mem_of_getElem? (i := 61) rfl))) (Or.inl (hw _ (List.mem_of_getElem? (i := 64) rfl))) (by decide) (t := (.array (.object "java/lang/StackTraceElement"))) (t' := (.object "java/util/List")) (by decide) (by decide))))
  have F16 : Fld Z h8 x0 "com/example/fanoutd/fanoutd/delivery/DeliveryException" "retryable" "Z" (.int (0 : Int32)) := (((P2.other R2 (Or.inr (slot_ne (Or.inr (hw _ (List.mem_of_getElem? (i := 94) rfl))) (Or.inl (hw _ (List.mem_of_getElem? (i := 58) rfl))) (by decide) (t := .boolean) (t' := (.object "java/lang/Throwable")) (by decide) (by decide)))).other R4 (Or.inr (slot_ne (Or.inr (hw _ (List.mem_of_getElem? (i := 94) rfl))) (Or.inl (hw _ (List.mem_of_getElem? (i := 61) rfl))) (by decide) (t := .boolean) (t' := (.array (.object "java/lang/StackTraceElement"))) (by decide) (by decide)))).other R8 (Or.inr (slot_ne (Or.inr (hw _ (List.mem_of_getElem? (i := 94) rfl))) (Or.inl (hw _ (List.mem_of_getElem? (i := 64) rfl))) (by decide) (t := .boolean) (t' := (.object "java/util/List")) (by decide) (by decide))))
  have F17 : Fld Z h8 x0 "com/example/fanoutd/fanoutd/delivery/DeliveryException" "retryAfter" "Ljava/time/Duration;" .null := (((P3.other R2 (Or.inr (slot_ne (Or.inr (hw _ (List.mem_of_getElem? (i := 96) rfl))) (Or.inl (hw _ (List.mem_of_getElem? (i := 58) rfl))) (by decide) (t := (.object "java/time/Duration")) (t' := (.object "java/lang/Throwable")) (by decide) (by decide)))).other R4 (Or.inr (slot_ne (Or.inr (hw _ (List.mem_of_getElem? (i := 96) rfl))) (Or.inl (hw _ (List.mem_of_getElem? (i := 61) rfl))) (by decide) (t := (.object "java/time/Duration")) (t' := (.array (.object "java/lang/StackTraceElement"))) (by decide) (by decide)))).other R8 (Or.inr (slot_ne (Or.inr (hw _ (List.mem_of_getElem? (i := 96) rfl))) (Or.inl (hw _ (List.mem_of_getElem? (i := 64) rfl))) (by decide) (t := (.object "java/time/Duration")) (t' := (.object "java/util/List")) (by decide) (by decide))))
  obtain ⟨T15, h15, W15, Kp15, K15, X15, U15, SF15, st15⟩ := W8.fill hx hlt (rc := "com/example/fanoutd/fanoutd/delivery/DeliveryException") (by simp [tN]) hexc (hw _ (List.mem_of_getElem? (i := 39) rfl)) rfl (hh0 ▸ O) F11 F12 F13 F14 hus (W8.safeExa F11 (by decide) (by decide)) (by omega) (g := (mkF m 24 #[.val (.ref x0), .val v1, .val v2] [(.ref x0)])) rfl (by rw [hml]; rfl) (rest := []) rfl (hb hby dd_jdk_78_method_3_code_24) (Wd := 0) (by show 2 * 0 + _ ≤ _; exact Nat.le_of_eq rfl) (by decide) (by decide) (by decide) (by decide)
  have z15 := K15.1
  obtain ⟨v18, F18⟩ := fld_laid (O := "java/lang/Throwable") (n := "detailMessage") (d := "Ljava/lang/String;") X15 U15.known (hw _ (List.mem_of_getElem? (i := 39) rfl)) (Or.inl (hw _ (List.mem_of_getElem? (i := 88) rfl)))
  obtain ⟨v19, F19⟩ := fld_laid (O := "java/lang/Throwable") (n := "cause") (d := "Ljava/lang/Throwable;") X15 U15.known (hw _ (List.mem_of_getElem? (i := 39) rfl)) (Or.inl (hw _ (List.mem_of_getElem? (i := 58) rfl)))
  have F20 : Fld Z h15 x0 "com/example/fanoutd/fanoutd/delivery/DeliveryException" "retryable" "Z" (.int (0 : Int32)) := Fld.kp Kp15 F16 (Or.inr (own_six hsix (Or.inr (hw _ (List.mem_of_getElem? (i := 94) rfl))) (ty := .boolean) (by decide) (by decide)))
  have F21 : Fld Z h15 x0 "com/example/fanoutd/fanoutd/delivery/DeliveryException" "retryAfter" "Ljava/time/Duration;" .null := Fld.kp Kp15 F17 (Or.inr (own_six hsix (Or.inr (hw _ (List.mem_of_getElem? (i := 96) rfl))) (ty := (.object "java/time/Duration")) (by decide) (by decide)))
  refine Go.st (g' := (mkF m 27 #[.val (.ref x0), .val v1, .val v2] [(.ref x0)])) st15 ?_
  refine Go.st (g' := (mkF m 28 #[.val (.ref x0), .val v1, .val v2] [])) (fun _ k => XS.pop W15.here hx rfl (hb hby dd_jdk_78_method_3_code_27) rfl rfl k) ?_
  refine Go.st (g' := (mkF m 29 #[.val (.ref x0), .val v1, .val v2] [(.ref x0)])) (fun _ k => XS.aloadN W15.here hx rfl (hb hby dd_jdk_78_method_3_code_28) rfl rfl  k) ?_
  refine Go.st (g' := (mkF m 30 #[.val (.ref x0), .val v1, .val v2] [v1, (.ref x0)])) (fun _ k => XS.aloadN W15.here hx rfl (hb hby dd_jdk_78_method_3_code_29) rfl rv1  k) ?_
  obtain ⟨T22, h22, W22, R22, z22, X22, SF22, st22⟩ := W15.putF hx (hw _ (List.mem_of_getElem? (i := 92) rfl)) Via.refl F18 X15 (Or.inl (hw _ (List.mem_of_getElem? (i := 88) rfl))) (hw _ (List.mem_of_getElem? (i := 39) rfl)) (ty := (.object "java/lang/String")) (by decide) rfl (own_fitsR rv1) (W15.safeExa X15 (by decide) (by decide)) (by omega) (g := (mkF m 30 #[.val (.ref x0), .val v1, .val v2] [v1, (.ref x0)])) rfl rfl (hb hby dd_jdk_78_method_3_code_30)
  refine Go.st (g' := (mkF m 33 #[.val (.ref x0), .val v1, .val v2] [])) st22 ?_
  refine Go.st (g' := (mkF m 34 #[.val (.ref x0), .val v1, .val v2] [(.ref x0)])) (fun _ k => XS.aloadN W22.here hx rfl (hb hby dd_jdk_78_method_3_code_33) rfl rfl  k) ?_
  refine Go.st (g' := (mkF m 35 #[.val (.ref x0), .val v1, .val v2] [v2, (.ref x0)])) (fun _ k => XS.aloadN W22.here hx rfl (hb hby dd_jdk_78_method_3_code_34) rfl rv2  k) ?_
  have F24 : Fld Z h22 x0 "java/lang/Throwable" "cause" "Ljava/lang/Throwable;" v19 := (F19.other R22 (Or.inr (slot_ne (Or.inl (hw _ (List.mem_of_getElem? (i := 58) rfl))) (Or.inl (hw _ (List.mem_of_getElem? (i := 88) rfl))) (by decide) (t := (.object "java/lang/Throwable")) (t' := (.object "java/lang/String")) (by decide) (by decide))))
  have F25 : Exa Z h22 x0 "com/example/fanoutd/fanoutd/delivery/DeliveryException" := (X15.wr R22)
  obtain ⟨T23, h23, W23, R23, z23, X23, SF23, st23⟩ := W22.putF hx (hw _ (List.mem_of_getElem? (i := 57) rfl)) Via.refl F24 F25 (Or.inl (hw _ (List.mem_of_getElem? (i := 58) rfl))) (hw _ (List.mem_of_getElem? (i := 39) rfl)) (ty := (.object "java/lang/Throwable")) (by decide) rfl (own_fitsR rv2) (W22.safeExa F25 (by decide) (by decide)) (by omega) (g := (mkF m 35 #[.val (.ref x0), .val v1, .val v2] [v2, (.ref x0)])) rfl rfl (hb hby dd_jdk_78_method_3_code_35)
  refine Go.st (g' := (mkF m 38 #[.val (.ref x0), .val v1, .val v2] [])) st23 ?_
  have F26 : Unt h23 x0 := ((U15.wr R22).wr R23)
  have F27 : Fld Z h23 x0 "com/example/fanoutd/fanoutd/delivery/DeliveryException" "retryable" "Z" (.int (0 : Int32)) := ((F20.other R22 (Or.inr (slot_ne (Or.inr (hw _ (List.mem_of_getElem? (i := 94) rfl))) (Or.inl (hw _ (List.mem_of_getElem? (i := 88) rfl))) (by decide) (t := .boolean) (t' := (.object "java/lang/String")) (by decide) (by decide)))).other R23 (Or.inr (slot_ne (Or.inr (hw _ (List.mem_of_getElem? (i := 94) rfl))) (Or.inl (hw _ (List.mem_of_getElem? (i := 58) rfl))) (by decide) (t := .boolean) (t' := (.object "java/lang/Throwable")) (by decide) (by decide))))
  have F28 : Fld Z h23 x0 "com/example/fanoutd/fanoutd/delivery/DeliveryException" "retryAfter" "Ljava/time/Duration;" .null := ((F21.other R22 (Or.inr (slot_ne (Or.inr (hw _ (List.mem_of_getElem? (i := 96) rfl))) (Or.inl (hw _ (List.mem_of_getElem? (i := 88) rfl))) (by decide) (t := (.object "java/time/Duration")) (t' := (.object "java/lang/String")) (by decide) (by decide)))).other R23 (Or.inr (slot_ne (Or.inr (hw _ (List.mem_of_getElem? (i := 96) rfl))) (Or.inl (hw _ (List.mem_of_getElem? (i := 58) rfl))) (by decide) (t := (.object "java/time/Duration")) (t' := (.object "java/lang/Throwable")) (by decide) (by decide))))
  have F29 : Fld Z h23 x0 "java/lang/Throwable" "detailMessage" "Ljava/lang/String;" v1 := (X22.other R23 (Or.inr (slot_ne (Or.inl (hw _ (List.mem_of_getElem? (i := 88) rfl))) (Or.inl (hw _ (List.mem_of_getElem? (i := 58) rfl))) (by decide) (t := (.object "java/lang/String")) (t' := (.object "java/lang/Throwable")) (by decide) (by decide))))
  exact W23.retV hx hEL hlk hret (hb hby dd_jdk_78_method_3_code_38) (by decide) (by decide) ⟨rfl, F26, F27, F28, F29, X23, (((((((Keep.refl h0 [x0]).wr R2 (Or.inl (List.mem_of_getElem? (i := 0) rfl))).wr R4 (Or.inl (List.mem_of_getElem? (i := 0) rfl))).wr R8 (Or.inl (List.mem_of_getElem? (i := 0) rfl))).trans K15 (allS (Or.inl (List.mem_of_getElem? (i := 0) rfl)) all0)).wr R22 (Or.inl (List.mem_of_getElem? (i := 0) rfl))).wr R23 (Or.inl (List.mem_of_getElem? (i := 0) rfl)))⟩
set_option maxRecDepth 65536 in
set_option maxHeartbeats 4000000 in
theorem own_init_Exception (l : Launch) {Z : State} {a0 : Array Value} (hE : Ctx Z a0 l) {n0 : Nat} {h0 : Heap} (O : Old Z n0 h0) {x0 : Addr} {v1 : Value} {v2 : Value} (hx0 : n0 ≤ x0) (rv1 : v1.isRef = true) (rv2 : v2.isRef = true) (P0 : Exa Z h0 x0 "com/example/fanoutd/fanoutd/delivery/DeliveryException") (P1 : Unt h0 x0) (P2 : Fld Z h0 x0 "com/example/fanoutd/fanoutd/delivery/DeliveryException" "retryable" "Z" (.int (0 : Int32))) (P3 : Fld Z h0 x0 "com/example/fanoutd/fanoutd/delivery/DeliveryException" "retryAfter" "Ljava/time/Duration;" .null) (P4 : Fld Z h0 x0 "java/lang/Throwable" "cause" "Ljava/lang/Throwable;" .null) (P5 : Fld Z h0 x0 "java/lang/Throwable" "stackTrace" "[Ljava/lang/StackTraceElement;" .null) (P6 : Fld Z h0 x0 "java/lang/Throwable" "suppressedExceptions" "Ljava/util/List;" .null) (P7 : Fld Z h0 x0 "java/lang/Throwable" "backtrace" "Ljava/lang/Object;" .null) (P8 : Fld Z h0 x0 "java/lang/Throwable" "detailMessage" "Ljava/lang/String;" .null) :
    Met l (⟨"java/lang/Exception", "<init>", "(Ljava/lang/String;Ljava/lang/Throwable;)V"⟩ : MethodName) jdk_59_method_3_code 3 (Option.none : Option Jvm.ClassFile.FieldType) ({ frames := 4, cells := 1, slots := 2752, locals := 56 } : Room) Z consts_1 n0 [] #[(.ref x0), v1, v2] h0 (fun v h => v = none ∧ Unt h x0 ∧ Fld Z h x0 "com/example/fanoutd/fanoutd/delivery/DeliveryException" "retryable" "Z" (.int (0 : Int32)) ∧ Fld Z h x0 "com/example/fanoutd/fanoutd/delivery/DeliveryException" "retryAfter" "Ljava/time/Duration;" .null ∧ Fld Z h x0 "java/lang/Throwable" "detailMessage" "Ljava/lang/String;" v1 ∧ Fld Z h x0 "java/lang/Throwable" "cause" "Ljava/lang/Throwable;" v2 ∧ Keep h0 h [x0]) := by
  have hw := hE.1
  have hEL := own_EW hw
  have own_wS := own_stringAtoms hw
  refine Met.of (by first | (refine plainFor_of_name ?_; simp [plainName, overriddenIn]; done) | decide +kernel) O ?_
  intro p e s m below meth c T0 hx hby hml hret hlk hnm hh0 W0
  have z0 := W0.ge
  have yP0 : h0.size > x0 := P0.lt
  refine Go.st (g' := (mkF m 0 #[.val (.ref x0), .val v1, .val v2] [])) (fun _ k => castTop (by first | rfl | (simp [entryFrame, mkF, argsToLocals, maxLocals, own_catI, own_catJ, own_catD, own_catA, own_catN, own_cat rv1, own_cat rv2]; done)) k) ?_
  refine Go.st (g' := (mkF m 1 #[.val (.ref x0), .val v1, .val v2] [(.ref x0)])) (fun _ k => XS.aloadN W0.here hx rfl (hb hby dd_jdk_59_method_3_code_0) rfl rfl  k) ?_
  refine Go.st (g' := (mkF m 2 #[.val (.ref x0), .val v1, .val v2] [v1, (.ref x0)])) (fun _ k => XS.aloadN W0.here hx rfl (hb hby dd_jdk_59_method_3_code_1) rfl rv1  k) ?_
  refine Go.st (g' := (mkF m 3 #[.val (.ref x0), .val v1, .val v2] [v2, v1, (.ref x0)])) (fun _ k => XS.aloadN W0.here hx rfl (hb hby dd_jdk_59_method_3_code_2) rfl rv2  k) ?_
  obtain ⟨_, vm1, T1, h1, W1, Q1, z1, SF1, st1⟩ := W0.callI hx hEL (own_thrInit l hE W0.old (x0 := x0) (v1 := v1) (v2 := v2) (by omega) rv1 rv2 P0 P1 P2 P3 P4 P5 P6 P7 P8) rfl (hw _ (List.mem_of_getElem? (i := 50) rfl)) (hw _ (List.mem_of_getElem? (i := 51) rfl)) (hw _ (List.mem_of_getElem? (i := 54) rfl)) (hw _ (List.mem_of_getElem? (i := 55) rfl)) (by decide) (Wd := 0) (by decide) (by decide) (by decide) (by decide) (g := (mkF m 3 #[.val (.ref x0), .val v1, .val v2] [v2, v1, (.ref x0)])) rfl (by rw [hml]; rfl) (a := x0) (argsL := [v1, v2]) (rest := []) rfl (lenOf pd__Ljava_lang_String_Ljava_lang_Throwable__V rfl) rfl (by show 2 * 0 + _ ≤ _; exact Nat.le_of_eq rfl) (hb hby dd_jdk_59_method_3_code_3)
  obtain ⟨rfl, f1_0, f1_1, f1_2, f1_3, f1_4, K1⟩ := Q1
  refine Go.tr (g' := (mkF m 6 #[.val (.ref x0), .val v1, .val v2] [])) st1 ?_
  exact W1.retV hx hEL hlk hret (hb hby dd_jdk_59_method_3_code_6) (by decide) (by decide) ⟨rfl, f1_0, f1_1, f1_2, f1_3, f1_4, ((Keep.refl h0 [x0]).trans K1 (allS (Or.inl (List.mem_of_getElem? (i := 0) rfl)) all0))⟩
set_option maxRecDepth 65536 in
set_option maxHeartbeats 4000000 in
theorem own_initDE (l : Launch) {Z : State} {a0 : Array Value} (hE : Ctx Z a0 l) {n0 : Nat} {h0 : Heap} (O : Old Z n0 h0) {x0 : Addr} {m0 : Addr} {d0 : Addr} (hx0 : n0 ≤ x0) (P0 : Exa Z h0 x0 "com/example/fanoutd/fanoutd/delivery/DeliveryException") (P1 : Unt h0 x0) (P2 : Fld Z h0 x0 "com/example/fanoutd/fanoutd/delivery/DeliveryException" "retryable" "Z" (.int (0 : Int32))) (P3 : Fld Z h0 x0 "com/example/fanoutd/fanoutd/delivery/DeliveryException" "retryAfter" "Ljava/time/Duration;" .null) (P4 : Fld Z h0 x0 "java/lang/Throwable" "cause" "Ljava/lang/Throwable;" .null) (P5 : Fld Z h0 x0 "java/lang/Throwable" "stackTrace" "[Ljava/lang/StackTraceElement;" .null) (P6 : Fld Z h0 x0 "java/lang/Throwable" "suppressedExceptions" "Ljava/util/List;" .null) (P7 : Fld Z h0 x0 "java/lang/Throwable" "backtrace" "Ljava/lang/Object;" .null) (P8 : Fld Z h0 x0 "java/lang/Throwable" "detailMessage" "Ljava/lang/String;" .null) :
    Met l (⟨"com/example/fanoutd/fanoutd/delivery/DeliveryException", "<init>", "(Ljava/lang/String;ZLjava/time/Duration;Ljava/lang/Throwable;)V"⟩ : MethodName) prog_7_method_1_code 5 (Option.none : Option Jvm.ClassFile.FieldType) ({ frames := 5, cells := 1, slots := 2752, locals := 70 } : Room) Z consts_1 n0 [] #[(.ref x0), (.ref m0), (.int (0 : Int32)), (.ref d0), .null] h0 (fun v h => v = none ∧ Unt h x0 ∧ Fld Z h x0 "com/example/fanoutd/fanoutd/delivery/DeliveryException" "retryable" "Z" (.int (0 : Int32)) ∧ Fld Z h x0 "com/example/fanoutd/fanoutd/delivery/DeliveryException" "retryAfter" "Ljava/time/Duration;" (.ref d0) ∧ Fld Z h x0 "java/lang/Throwable" "detailMessage" "Ljava/lang/String;" (.ref m0) ∧ Fld Z h x0 "java/lang/Throwable" "cause" "Ljava/lang/Throwable;" .null ∧ Keep h0 h [x0]) := by
  have hw := hE.1
  have hEL := own_EW hw
  have own_wS := own_stringAtoms hw
  refine Met.of (by first | (refine plainFor_of_name ?_; simp [plainName, overriddenIn]; done) | decide +kernel) O ?_
  intro p e s m below meth c T0 hx hby hml hret hlk hnm hh0 W0
  have z0 := W0.ge
  have yP0 : h0.size > x0 := P0.lt
  refine Go.st (g' := (mkF m 0 #[.val (.ref x0), .val (.ref m0), .val (.int (0 : Int32)), .val (.ref d0), .val .null] [])) (fun _ k => castTop (by first | rfl | (simp [entryFrame, mkF, argsToLocals, maxLocals, own_catI, own_catJ, own_catD, own_catA, own_catN]; done)) k) ?_
  refine Go.st (g' := (mkF m 1 #[.val (.ref x0), .val (.ref m0), .val (.int (0 : Int32)), .val (.ref d0), .val .null] [(.ref x0)])) (fun _ k => XS.aloadN W0.here hx rfl (hb hby dd_prog_7_method_1_code_0) rfl rfl  k) ?_
  refine Go.st (g' := (mkF m 2 #[.val (.ref x0), .val (.ref m0), .val (.int (0 : Int32)), .val (.ref d0), .val .null] [(.ref m0), (.ref x0)])) (fun _ k => XS.aloadN W0.here hx rfl (hb hby dd_prog_7_method_1_code_1) rfl rfl  k) ?_
  refine Go.st (g' := (mkF m 4 #[.val (.ref x0), .val (.ref m0), .val (.int (0 : Int32)), .val (.ref d0), .val .null] [.null, (.ref m0), (.ref x0)])) (fun _ k => XS.aload W0.here hx rfl (hb hby dd_prog_7_method_1_code_2) rfl rfl  k) ?_
  obtain ⟨_, vm1, T1, h1, W1, Q1, z1, SF1, st1⟩ := W0.callI hx hEL (own_init_Exception l hE W0.old (x0 := x0) (v1 := (.ref m0)) (v2 := .null) (by omega) rfl rfl P0 P1 P2 P3 P4 P5 P6 P7 P8) rfl (hw _ (List.mem_of_getElem? (i := 45) rfl)) (hw _ (List.mem_of_getElem? (i := 46) rfl)) (hw _ (List.mem_of_getElem? (i := 48) rfl)) (hw _ (List.mem_of_getElem? (i := 49) rfl)) (by decide) (Wd := 0) (by decide) (by decide) (by decide) (by decide) (g := (mkF m 4 #[.val (.ref x0), .val (.ref m0), .val (.int (0 : Int32)), .val (.ref d0), .val .null] [.null, (.ref m0), (.ref x0)])) rfl (by rw [hml]; rfl) (a := x0) (argsL := [(.ref m0), .null]) (rest := []) rfl (lenOf pd__Ljava_lang_String_Ljava_lang_Throwable__V rfl) rfl (by show 2 * 0 + _ ≤ _; exact Nat.le_of_eq rfl) (hb hby dd_prog_7_method_1_code_4)
  obtain ⟨rfl, f1_0, f1_1, f1_2, f1_3, f1_4, K1⟩ := Q1
  refine Go.tr (g' := (mkF m 7 #[.val (.ref x0), .val (.ref m0), .val (.int (0 : Int32)), .val (.ref d0), .val .null] [])) st1 ?_
  refine Go.st (g' := (mkF m 8 #[.val (.ref x0), .val (.ref m0), .val (.int (0 : Int32)), .val (.ref d0), .val .null] [(.ref x0)])) (fun _ k => XS.aloadN W1.here hx rfl (hb hby dd_prog_7_method_1_code_7) rfl rfl  k) ?_
  refine Go.st (g' := (mkF m 9 #[.val (.ref x0), .val (.ref m0), .val (.int (0 : Int32)), .val (.ref d0), .val .null] [(.int (0 : Int32)), (.ref x0)])) (fun _ k => XS.iloadN W1.here hx rfl (hb hby dd_prog_7_method_1_code_8) rfl  k) ?_
  have F3 : Exa Z h1 x0 "com/example/fanoutd/fanoutd/delivery/DeliveryException" := (P0.keep K1)
  obtain ⟨T2, h2, W2, R2, z2, X2, SF2, st2⟩ := W1.putF hx (hw _ (List.mem_of_getElem? (i := 93) rfl)) Via.refl f1_1 F3 (Or.inr ⟨(hw _ (List.mem_of_getElem? (i := 94) rfl)), rfl, hnm⟩) (hw _ (List.mem_of_getElem? (i := 39) rfl)) (ty := .boolean) (by decide) rfl rfl (W1.safeExa F3 (by decide) (by decide)) (by omega) (g := (mkF m 9 #[.val (.ref x0), .val (.ref m0), .val (.int (0 : Int32)), .val (.ref d0), .val .null] [(.int (0 : Int32)), (.ref x0)])) rfl rfl (hb hby dd_prog_7_method_1_code_9)
  refine Go.st (g' := (mkF m 12 #[.val (.ref x0), .val (.ref m0), .val (.int (0 : Int32)), .val (.ref d0), .val .null] [])) st2 ?_
  refine Go.st (g' := (mkF m 13 #[.val (.ref x0), .val (.ref m0), .val (.int (0 : Int32)), .val (.ref d0), .val .null] [(.ref x0)])) (fun _ k => XS.aloadN W2.here hx rfl (hb hby dd_prog_7_method_1_code_12) rfl rfl  k) ?_
  refine Go.st (g' := (mkF m 14 #[.val (.ref x0), .val (.ref m0), .val (.int (0 : Int32)), .val (.ref d0), .val .null] [(.ref d0), (.ref x0)])) (fun _ k => XS.aloadN W2.here hx rfl (hb hby dd_prog_7_method_1_code_13) rfl rfl  k) ?_
  have F5 : Fld Z h2 x0 "com/example/fanoutd/fanoutd/delivery/DeliveryException" "retryAfter" "Ljava/time/Duration;" .null := (f1_2.other R2 (Or.inr (slot_ne (Or.inr (hw _ (List.mem_of_getElem? (i := 96) rfl))) (Or.inr (hw _ (List.mem_of_getElem? (i := 94) rfl))) (by decide) (t := (.object "java/time/Duration")) (t' := .boolean) (by decide) (by decide))))
  have F6 : Exa Z h2 x0 "com/example/fanoutd/fanoutd/delivery/DeliveryException" := (F3.wr R2)
  obtain ⟨T4, h4, W4, R4, z4, X4, SF4, st4⟩ := W2.putF hx (hw _ (List.mem_of_getElem? (i := 95) rfl)) Via.refl F5 F6 (Or.inr ⟨(hw _ (List.mem_of_getElem? (i := 96) rfl)), rfl, hnm⟩) (hw _ (List.mem_of_getElem? (i := 39) rfl)) (ty := (.object "java/time/Duration")) (by decide) rfl rfl (W2.safeExa F6 (by decide) (by decide)) (by omega) (g := (mkF m 14 #[.val (.ref x0), .val (.ref m0), .val (.int (0 : Int32)), .val (.ref d0), .val .null] [(.ref d0), (.ref x0)])) rfl rfl (hb hby dd_prog_7_method_1_code_14)
  refine Go.st (g' := (mkF m 17 #[.val (.ref x0), .val (.ref m0), .val (.int (0 : Int32)), .val (.ref d0), .val .null] [])) st4 ?_
  have F7 : Unt h4 x0 := ((f1_0.wr R2).wr R4)
  have F8 : Fld Z h4 x0 "com/example/fanoutd/fanoutd/delivery/DeliveryException" "retryable" "Z" (.int (0 : Int32)) := (X2.other R4 (Or.inr (slot_ne (Or.inr (hw _ (List.mem_of_getElem? (i := 94) rfl))) (Or.inr (hw _ (List.mem_of_getElem? (i := 96) rfl))) (by decide) (t := .boolean) (t' := (.object "java/time/Duration")) (by decide) (by decide))))
  have F9 : Fld Z h4 x0 "java/lang/Throwable" "detailMessage" "Ljava/lang/String;" (.ref m0) := ((f1_3.other R2 (Or.inr (slot_ne (Or.inl (hw _ (List.mem_of_getElem? (i := 88) rfl))) (Or.inr (hw _ (List.mem_of_getElem? (i := 94) rfl))) (by decide) (t := (.object "java/lang/String")) (t' := .boolean) (by decide) (by decide)))).other R4 (Or.inr (slot_ne (Or.inl (hw _ (List.mem_of_getElem? (i := 88) rfl))) (Or.inr (hw _ (List.mem_of_getElem? (i := 96) rfl))) (by decide) (t := (.object "java/lang/String")) (t' := (.object "java/time/Duration")) (by decide) (by decide))))
  have F10 : Fld Z h4 x0 "java/lang/Throwable" "cause" "Ljava/lang/Throwable;" .null := ((f1_4.other R2 (Or.inr (slot_ne (Or.inl (hw _ (List.mem_of_getElem? (i := 58) rfl))) (Or.inr (hw _ (List.mem_of_getElem? (i := 94) rfl))) (by decide) (t := (.object "java/lang/Throwable")) (t' := .boolean) (by decide) (by decide)))).other R4 (Or.inr (slot_ne (Or.inl (hw _ (List.mem_of_getElem? (i := 58) rfl))) (Or.inr (hw _ (List.mem_of_getElem? (i := 96) rfl))) (by decide) (t := (.object "java/lang/Throwable")) (t' := (.object "java/time/Duration")) (by decide) (by decide))))
  exact W4.retV hx hEL hlk hret (hb hby dd_prog_7_method_1_code_17) (by decide) (by decide) ⟨rfl, F7, F8, X4, F9, F10, ((((Keep.refl h0 [x0]).trans K1 (allS (Or.inl (List.mem_of_getElem? (i := 0) rfl)) all0)).wr R2 (Or.inl (List.mem_of_getElem? (i := 0) rfl))).wr R4 (Or.inl (List.mem_of_getElem? (i := 0) rfl)))⟩
set_option maxRecDepth 65536 in
set_option maxHeartbeats 4000000 in
theorem own_refused (l : Launch) {Z : State} {a0 : Array Value} (hE : Ctx Z a0 l) {n0 : Nat} {h0 : Heap} (O : Old Z n0 h0) {zd : Addr} {m0 : Addr} (hzd : Sta Z Z.heap "java/time/Duration" "ZERO" "Ljava/time/Duration;" (.ref zd))  :
    Met l (⟨"com/example/fanoutd/fanoutd/delivery/DeliveryException", "refused", "(Ljava/lang/String;)Lcom/example/fanoutd/fanoutd/delivery/DeliveryException;"⟩ : MethodName) prog_7_method_3_code 1 (Option.some (Jvm.ClassFile.FieldType.object "com/example/fanoutd/fanoutd/delivery/DeliveryException")) ({ frames := 6, cells := 2, slots := 2760, locals := 87 } : Room) Z consts_1 n0 [] #[(.ref m0)] h0 (fun v h => ∃ (x : Addr), v = some (.ref x) ∧ Exa Z h x "com/example/fanoutd/fanoutd/delivery/DeliveryException" ∧ Unt h x ∧ Fld Z h x "com/example/fanoutd/fanoutd/delivery/DeliveryException" "retryable" "Z" (.int (0 : Int32)) ∧ Fld Z h x "com/example/fanoutd/fanoutd/delivery/DeliveryException" "retryAfter" "Ljava/time/Duration;" (.ref zd) ∧ Fld Z h x "java/lang/Throwable" "detailMessage" "Ljava/lang/String;" (.ref m0) ∧ Fld Z h x "java/lang/Throwable" "cause" "Ljava/lang/Throwable;" .null ∧ Keep h0 h []) := by
  have hw := hE.1
  have hEL := own_EW hw
  have own_wS := own_stringAtoms hw
  refine Met.of (by first | (refine plainFor_of_name ?_; simp [plainName, overriddenIn]; done) | decide +kernel) O ?_
  intro p e s m below meth c T0 hx hby hml hret hlk hnm hh0 W0
  have z0 := W0.ge
  refine Go.st (g' := (mkF m 0 #[.val (.ref m0)] [])) (fun _ k => castTop (by first | rfl | (simp [entryFrame, mkF, argsToLocals, maxLocals, own_catI, own_catJ, own_catD, own_catA, own_catN]; done)) k) ?_
  obtain ⟨T1, h1, a1, g1, W1, E1, z1, X1, D1, S1, SF1, U1, st1⟩ := W0.newO hx (hw _ (List.mem_of_getElem? (i := 38) rfl)) (hw _ (List.mem_of_getElem? (i := 39) rfl)) (hw _ (List.mem_of_getElem? (i := 36) rfl)) (g := (mkF m 0 #[.val (.ref m0)] [])) rfl (hb hby dd_prog_7_method_3_code_0) (by decide) (by decide)
  have F2 : Fld Z h1 a1 "java/lang/Throwable" "cause" "Ljava/lang/Throwable;" .null := D1 (Or.inl (hw _ (List.mem_of_getElem? (i := 58) rfl))) (ty := (.object "java/lang/Throwable")) (by decide)
  have F3 : Fld Z h1 a1 "java/lang/Throwable" "stackTrace" "[Ljava/lang/StackTraceElement;" .null := D1 (Or.inl (hw _ (List.mem_of_getElem? (i := 61) rfl))) (ty := (.array (.object "java/lang/StackTraceElement"))) (by decide)
  have F4 : Fld Z h1 a1 "java/lang/Throwable" "suppressedExceptions" "Ljava/util/List;" .null := D1 (Or.inl (hw _ (List.mem_of_getElem? (i := 64) rfl))) (ty := (.object "java/util/List")) (by decide)
  have F5 : Fld Z h1 a1 "java/lang/Throwable" "detailMessage" "Ljava/lang/String;" .null := D1 (Or.inl (hw _ (List.mem_of_getElem? (i := 88) rfl))) (ty := (.object "java/lang/String")) (by decide)
  have F6 : Fld Z h1 a1 "java/lang/Throwable" "backtrace" "Ljava/lang/Object;" .null := D1 (Or.inl (hw _ (List.mem_of_getElem? (i := 89) rfl))) (ty := (.object "java/lang/Object")) (by decide)
  have F7 : Fld Z h1 a1 "java/lang/Throwable" "depth" "I" (.int (0 : Int32)) := D1 (Or.inl (hw _ (List.mem_of_getElem? (i := 90) rfl))) (ty := .int) (by decide)
  have F8 : Fld Z h1 a1 "com/example/fanoutd/fanoutd/delivery/DeliveryException" "retryable" "Z" (.int (0 : Int32)) := D1 (Or.inr (hw _ (List.mem_of_getElem? (i := 94) rfl))) (ty := .boolean) (by decide)
  have F9 : Fld Z h1 a1 "com/example/fanoutd/fanoutd/delivery/DeliveryException" "retryAfter" "Ljava/time/Duration;" .null := D1 (Or.inr (hw _ (List.mem_of_getElem? (i := 96) rfl))) (ty := (.object "java/time/Duration")) (by decide)
  refine Go.st (g' := (mkF m 3 #[.val (.ref m0)] [(.ref a1)])) st1 ?_
  refine Go.st (g' := (mkF m 4 #[.val (.ref m0)] [(.ref a1), (.ref a1)])) (fun _ k => XS.dup W1.here hx rfl (hb hby dd_prog_7_method_3_code_3) rfl rfl k) ?_
  refine Go.st (g' := (mkF m 5 #[.val (.ref m0)] [(.ref m0), (.ref a1), (.ref a1)])) (fun _ k => XS.aloadN W1.here hx rfl (hb hby dd_prog_7_method_3_code_4) rfl rfl  k) ?_
  refine Go.st (g' := (mkF m 6 #[.val (.ref m0)] [(.int (0 : Int32)), (.ref m0), (.ref a1), (.ref a1)])) (fun _ k => XS.iconst W1.here hx rfl (hb hby dd_prog_7_method_3_code_5) k) ?_
  obtain ⟨T10, W10, st10⟩ := W1.getS hx (hw _ (List.mem_of_getElem? (i := 40) rfl)) Via.refl (W1.sta hzd) (g := (mkF m 6 #[.val (.ref m0)] [(.int (0 : Int32)), (.ref m0), (.ref a1), (.ref a1)])) rfl (hb hby dd_prog_7_method_3_code_6)
  refine Go.st (g' := (mkF m 9 #[.val (.ref m0)] [(.ref zd), (.int (0 : Int32)), (.ref m0), (.ref a1), (.ref a1)])) st10 ?_
  refine Go.st (g' := (mkF m 10 #[.val (.ref m0)] [.null, (.ref zd), (.int (0 : Int32)), (.ref m0), (.ref a1), (.ref a1)])) (fun _ k => XS.aconstNull W10.here hx rfl (hb hby dd_prog_7_method_3_code_9) k) ?_
  obtain ⟨_, vm11, T11, h11, W11, Q11, z11, SF11, st11⟩ := W10.callI hx hEL (own_initDE l hE W10.old (x0 := a1) (m0 := m0) (d0 := zd) (by omega) X1 (U1 : Unt h1 a1) F8 F9 F2 F3 F4 F6 F5) rfl (hw _ (List.mem_of_getElem? (i := 42) rfl)) (hw _ (List.mem_of_getElem? (i := 43) rfl)) (hw _ (List.mem_of_getElem? (i := 36) rfl)) (hw _ (List.mem_of_getElem? (i := 44) rfl)) (by decide) (Wd := 1) (by decide) (by decide) (by decide) (by decide) (g := (mkF m 10 #[.val (.ref m0)] [.null, (.ref zd), (.int (0 : Int32)), (.ref m0), (.ref a1), (.ref a1)])) rfl (by rw [hml]; rfl) (a := a1) (argsL := [(.ref m0), (.int (0 : Int32)), (.ref zd), .null]) (rest := [(.ref a1)]) rfl (lenOf pd__Ljava_lang_String_ZLjava_time_Duration_Ljava_lang_Throwable__V rfl) rfl (by show 2 * 0 + _ ≤ _; exact Nat.le_of_eq rfl) (hb hby dd_prog_7_method_3_code_10)
  obtain ⟨rfl, f11_0, f11_1, f11_2, f11_3, f11_4, K11⟩ := Q11
  refine Go.tr (g' := (mkF m 13 #[.val (.ref m0)] [(.ref a1)])) st11 ?_
  have F12 : Exa Z h11 a1 "com/example/fanoutd/fanoutd/delivery/DeliveryException" := (X1.keep K11)
  exact W11.retA hx hEL hlk hret rfl rfl rfl (hb hby dd_prog_7_method_3_code_13) (by decide) (by decide) ⟨a1, rfl, F12, f11_0, f11_1, f11_2, f11_3, f11_4, (((Keep.refl h0 []).ext E1).trans K11 (allS (Or.inr (by omega)) all0))⟩
set_option maxRecDepth 65536 in
set_option maxHeartbeats 4000000 in
theorem own_isRetryable (l : Launch) {Z : State} {a0 : Array Value} (hE : Ctx Z a0 l) {n0 : Nat} {h0 : Heap} (O : Old Z n0 h0) {x0 : Addr}  (P0 : Fld Z h0 x0 "com/example/fanoutd/fanoutd/delivery/DeliveryException" "retryable" "Z" (.int (0 : Int32))) :
    Met l (⟨"com/example/fanoutd/fanoutd/delivery/DeliveryException", "isRetryable", "()Z"⟩ : MethodName) prog_7_method_4_code 1 (Option.some Jvm.ClassFile.FieldType.boolean) ({ frames := 0, cells := 0, slots := 0, locals := 0 } : Room) Z consts_1 n0 [] #[(.ref x0)] h0 (fun v h => v = some (.int (0 : Int32)) ∧ h0 = h) := by
  have hw := hE.1
  have hEL := own_EW hw
  have own_wS := own_stringAtoms hw
  refine Met.of (by first | (refine plainFor_of_name ?_; simp [plainName, overriddenIn]; done) | decide +kernel) O ?_
  intro p e s m below meth c T0 hx hby hml hret hlk hnm hh0 W0
  have z0 := W0.ge
  refine Go.st (g' := (mkF m 0 #[.val (.ref x0)] [])) (fun _ k => castTop (by first | rfl | (simp [entryFrame, mkF, argsToLocals, maxLocals, own_catI, own_catJ, own_catD, own_catA, own_catN]; done)) k) ?_
  refine Go.st (g' := (mkF m 1 #[.val (.ref x0)] [(.ref x0)])) (fun _ k => XS.aloadN W0.here hx rfl (hb hby dd_prog_7_method_4_code_0) rfl rfl  k) ?_
  obtain ⟨T1, W1, st1⟩ := W0.getF hx (hw _ (List.mem_of_getElem? (i := 93) rfl)) Via.refl P0 (g := (mkF m 1 #[.val (.ref x0)] [(.ref x0)])) rfl rfl (hb hby dd_prog_7_method_4_code_1)
  refine Go.st (g' := (mkF m 4 #[.val (.ref x0)] [(.int (0 : Int32))])) st1 ?_
  exact W1.retN hx hEL hlk (t := .boolean) hret (by decide) (hb hby dd_prog_7_method_4_code_4) (by decide) (by decide) ⟨rfl, rfl⟩
set_option maxRecDepth 65536 in
set_option maxHeartbeats 4000000 in
theorem own_get_retryAfter (l : Launch) {Z : State} {a0 : Array Value} (hE : Ctx Z a0 l) {n0 : Nat} {h0 : Heap} (O : Old Z n0 h0) {x0 : Addr} {v0 : Value} (r0 : v0.isRef = true) (P0 : Fld Z h0 x0 "com/example/fanoutd/fanoutd/delivery/DeliveryException" "retryAfter" "Ljava/time/Duration;" v0) :
    Met l (⟨"com/example/fanoutd/fanoutd/delivery/DeliveryException", "retryAfter", "()Ljava/time/Duration;"⟩ : MethodName) prog_7_method_5_code 1 (Option.some (Jvm.ClassFile.FieldType.object "java/time/Duration")) ({ frames := 0, cells := 0, slots := 0, locals := 0 } : Room) Z consts_1 n0 [] #[(.ref x0)] h0 (fun v h => v = some v0 ∧ h0 = h) := by
  have hw := hE.1
  have hEL := own_EW hw
  have own_wS := own_stringAtoms hw
  refine Met.of (by first | (refine plainFor_of_name ?_; simp [plainName, overriddenIn]; done) | decide +kernel) O ?_
  intro p e s m below meth c T0 hx hby hml hret hlk hnm hh0 W0
  have z0 := W0.ge
  refine Go.st (g' := (mkF m 0 #[.val (.ref x0)] [])) (fun _ k => castTop (by first | rfl | (simp [entryFrame, mkF, argsToLocals, maxLocals, own_catI, own_catJ, own_catD, own_catA, own_catN]; done)) k) ?_
  refine Go.st (g' := (mkF m 1 #[.val (.ref x0)] [(.ref x0)])) (fun _ k => XS.aloadN W0.here hx rfl (hb hby dd_prog_7_method_5_code_0) rfl rfl  k) ?_
  obtain ⟨T1, W1, st1⟩ := W0.getF hx (hw _ (List.mem_of_getElem? (i := 95) rfl)) Via.refl P0 (g := (mkF m 1 #[.val (.ref x0)] [(.ref x0)])) rfl rfl (hb hby dd_prog_7_method_5_code_1)
  refine Go.st (g' := (mkF m 4 #[.val (.ref x0)] [v0])) st1 ?_
  exact W1.retA hx hEL hlk hret rfl rfl r0 (hb hby dd_prog_7_method_5_code_4) (by decide) (by decide) ⟨rfl, rfl⟩
set_option maxRecDepth 65536 in
set_option maxHeartbeats 4000000 in
theorem own_get_getMessage (l : Launch) {Z : State} {a0 : Array Value} (hE : Ctx Z a0 l) {n0 : Nat} {h0 : Heap} (O : Old Z n0 h0) {x0 : Addr} {v0 : Value} (r0 : v0.isRef = true) (P0 : Fld Z h0 x0 "java/lang/Throwable" "detailMessage" "Ljava/lang/String;" v0) :
    Met l (⟨"java/lang/Throwable", "getMessage", "()Ljava/lang/String;"⟩ : MethodName) jdk_78_method_6_code 1 (Option.some (Jvm.ClassFile.FieldType.object "java/lang/String")) ({ frames := 0, cells := 0, slots := 0, locals := 0 } : Room) Z consts_1 n0 [] #[(.ref x0)] h0 (fun v h => v = some v0 ∧ h0 = h) := by
  have hw := hE.1
  have hEL := own_EW hw
  have own_wS := own_stringAtoms hw
  refine Met.of (by first | (refine plainFor_of_name ?_; simp [plainName, overriddenIn]; done) | decide +kernel) O ?_
  intro p e s m below meth c T0 hx hby hml hret hlk hnm hh0 W0
  have z0 := W0.ge
  refine Go.st (g' := (mkF m 0 #[.val (.ref x0)] [])) (fun _ k => castTop (by first | rfl | (simp [entryFrame, mkF, argsToLocals, maxLocals, own_catI, own_catJ, own_catD, own_catA, own_catN]; done)) k) ?_
  refine Go.st (g' := (mkF m 1 #[.val (.ref x0)] [(.ref x0)])) (fun _ k => XS.aloadN W0.here hx rfl (hb hby dd_jdk_78_method_6_code_0) rfl rfl  k) ?_
  obtain ⟨T1, W1, st1⟩ := W0.getF hx (hw _ (List.mem_of_getElem? (i := 92) rfl)) Via.refl P0 (g := (mkF m 1 #[.val (.ref x0)] [(.ref x0)])) rfl rfl (hb hby dd_jdk_78_method_6_code_1)
  refine Go.st (g' := (mkF m 4 #[.val (.ref x0)] [v0])) st1 ?_
  exact W1.retA hx hEL hlk hret rfl rfl r0 (hb hby dd_jdk_78_method_6_code_4) (by decide) (by decide) ⟨rfl, rfl⟩
set_option maxRecDepth 65536 in
set_option maxHeartbeats 4000000 in
theorem own_isZero (l : Launch) {Z : State} {a0 : Array Value} (hE : Ctx Z a0 l) {n0 : Nat} {h0 : Heap} (O : Old Z n0 h0) {x0 : Addr}  (P0 : Fld Z h0 x0 "java/time/Duration" "seconds" "J" (.long (0 : Int64))) (P1 : Fld Z h0 x0 "java/time/Duration" "nanos" "I" (.int (0 : Int32))) :
    Met l (⟨"java/time/Duration", "isZero", "()Z"⟩ : MethodName) jdk_2316_method_21_code 1 (Option.some Jvm.ClassFile.FieldType.boolean) ({ frames := 0, cells := 0, slots := 0, locals := 0 } : Room) Z consts_1 n0 [] #[(.ref x0)] h0 (fun v h => v = some (.int (1 : Int32)) ∧ h0 = h) := by
  have hw := hE.1
  have hEL := own_EW hw
  have own_wS := own_stringAtoms hw
  refine Met.of (by first | (refine plainFor_of_name ?_; simp [plainName, overriddenIn]; done) | decide +kernel) O ?_
  intro p e s m below meth c T0 hx hby hml hret hlk hnm hh0 W0
  have z0 := W0.ge
  refine Go.st (g' := (mkF m 0 #[.val (.ref x0)] [])) (fun _ k => castTop (by first | rfl | (simp [entryFrame, mkF, argsToLocals, maxLocals, own_catI, own_catJ, own_catD, own_catA, own_catN]; done)) k) ?_
  refine Go.st (g' := (mkF m 1 #[.val (.ref x0)] [(.ref x0)])) (fun _ k => XS.aloadN W0.here hx rfl (hb hby dd_jdk_2316_method_21_code_0) rfl rfl  k) ?_
  obtain ⟨T1, W1, st1⟩ := W0.getF hx (hw _ (List.mem_of_getElem? (i := 123) rfl)) Via.refl P0 (g := (mkF m 1 #[.val (.ref x0)] [(.ref x0)])) rfl rfl (hb hby dd_jdk_2316_method_21_code_1)
  refine Go.st (g' := (mkF m 4 #[.val (.ref x0)] [(.long (0 : Int64))])) st1 ?_
  refine Go.st (g' := (mkF m 5 #[.val (.ref x0)] [(.ref x0), (.long (0 : Int64))])) (fun _ k => XS.aloadN W1.here hx rfl (hb hby dd_jdk_2316_method_21_code_4) rfl rfl  k) ?_
  obtain ⟨T2, W2, st2⟩ := W1.getF hx (hw _ (List.mem_of_getElem? (i := 125) rfl)) Via.refl P1 (g := (mkF m 5 #[.val (.ref x0)] [(.ref x0), (.long (0 : Int64))])) rfl rfl (hb hby dd_jdk_2316_method_21_code_5)
  refine Go.st (g' := (mkF m 8 #[.val (.ref x0)] [(.int (0 : Int32)), (.long (0 : Int64))])) st2 ?_
  refine Go.st (g' := (mkF m 9 #[.val (.ref x0)] [(.long ((0 : Int32).toInt64)), (.long (0 : Int64))])) (fun _ k => XS.i2l W2.here hx rfl (hb hby dd_jdk_2316_method_21_code_8) rfl k) ?_
  refine Go.st (g' := (mkF m 10 #[.val (.ref x0)] [(.long ((0 : Int64) ||| ((0 : Int32).toInt64)))])) (fun _ k => XS.lor W2.here hx rfl (hb hby dd_jdk_2316_method_21_code_9) rfl k) ?_
  refine Go.st (g' := (mkF m 11 #[.val (.ref x0)] [(.long (0 : Int64)), (.long ((0 : Int64) ||| ((0 : Int32).toInt64)))])) (fun _ k => XS.lconst W2.here hx rfl (hb hby dd_jdk_2316_method_21_code_10) k) ?_
  refine Go.st (g' := (mkF m 12 #[.val (.ref x0)] [(.int (lcmpW ((0 : Int64) ||| ((0 : Int32).toInt64)) (0 : Int64)))])) (fun _ k => XS.lcmp W2.here hx rfl (hb hby dd_jdk_2316_method_21_code_11) rfl k) ?_
  refine Go.st (g' := (mkF m 15 #[.val (.ref x0)] [])) (fun _ k => XS.ifNo W2.here hx rfl (hb hby dd_jdk_2316_method_21_code_12) rfl ((if0 _ _).trans (teq (by decide)).2) k) ?_
  refine Go.st (g' := (mkF m 16 #[.val (.ref x0)] [(.int (1 : Int32))])) (fun _ k => XS.iconst W2.here hx rfl (hb hby dd_jdk_2316_method_21_code_15) k) ?_
  refine Go.st (g' := (mkF m 20 #[.val (.ref x0)] [(.int (1 : Int32))])) (fun _ k => XS.goto W2.here hx rfl (pc0 := 16) (pc' := 20) rfl (hb hby dd_jdk_2316_method_21_code_16) (by decide) (by decide) k) ?_
  exact W2.retN hx hEL hlk (t := .boolean) hret (by decide) (hb hby dd_jdk_2316_method_21_code_20) (by decide) (by decide) ⟨rfl, rfl⟩
set_option maxRecDepth 65536 in
set_option maxHeartbeats 4000000 in
theorem own_law (l : Launch) {Z : State} {a0 : Array Value} (hE : Ctx Z a0 l) {n0 : Nat} {h0 : Heap} (O : Old Z n0 h0) {p0 : Int32} {p1 : Int32} {p2 : Int32} {p3 : Int32}   :
    Met l x code 8 ret room_1 Z consts_1 n0 tables_1 #[(.int p0), (.int p1), (.int p2), (.int p3)] h0 (fun v h => v = some (.int (1 : Int32))) := by
  have hw := hE.1
  have hEL := own_EW hw
  have own_wS := own_stringAtoms hw
  obtain ⟨zd, hzd, ezd, fz1, fz2⟩ := hE.2.2.1
  refine Met.of (by first | (refine plainFor_of_name ?_; simp [plainName, overriddenIn]; done) | decide +kernel) O ?_
  intro p e s m below meth c T0 hx hby hml hret hlk hnm hh0 W0
  have z0 := W0.ge
  have Dz : Exa Z h0 zd "java/time/Duration" := ezd.ext O.2
  have Ds : Fld Z h0 zd "java/time/Duration" "seconds" "J" (.long (0 : Int64)) := fz1.ext O.2
  have Dn : Fld Z h0 zd "java/time/Duration" "nanos" "I" (.int (0 : Int32)) := fz2.ext O.2
  have yDz : h0.size > zd := Dz.lt
  refine Go.st (g' := (mkF m 0 #[.val (.int p0), .val (.int p1), .val (.int p2), .val (.int p3), .unset, .unset, .unset, .unset] [])) (fun _ k => castTop (by first | rfl | (simp [entryFrame, mkF, argsToLocals, maxLocals, own_catI, own_catJ, own_catD, own_catA, own_catN]; done)) k) ?_
  refine Go.st (g' := (mkF m 1 #[.val (.int p0), .val (.int p1), .val (.int p2), .val (.int p3), .unset, .unset, .unset, .unset] [(.int p0)])) (fun _ k => XS.iloadN W0.here hx rfl (hb hby at_0) rfl  k) ?_
  refine Go.st (g' := (mkF m 2 #[.val (.int p0), .val (.int p1), .val (.int p2), .val (.int p3), .unset, .unset, .unset, .unset] [(.int p1), (.int p0)])) (fun _ k => XS.iloadN W0.here hx rfl (hb hby at_1) rfl  k) ?_
  refine Go.st (g' := (mkF m 3 #[.val (.int p0), .val (.int p1), .val (.int p2), .val (.int p3), .unset, .unset, .unset, .unset] [(.int p2), (.int p1), (.int p0)])) (fun _ k => XS.iloadN W0.here hx rfl (hb hby at_2) rfl  k) ?_
  refine Go.st (g' := (mkF m 4 #[.val (.int p0), .val (.int p1), .val (.int p2), .val (.int p3), .unset, .unset, .unset, .unset] [(.int p3), (.int p2), (.int p1), (.int p0)])) (fun _ k => XS.iloadN W0.here hx rfl (hb hby at_3) rfl  k) ?_
  obtain ⟨_, vm1, T1, h1, W1, Q1, z1, SF1, st1⟩ := W0.callS hx hEL (own_draw l hE W0.old (a1 := p0) (b1 := p1) (c1 := p2) (l1 := p3)  ) (hw _ (List.mem_of_getElem? (i := 0) rfl)) (hw _ (List.mem_of_getElem? (i := 1) rfl)) (hw _ (List.mem_of_getElem? (i := 2) rfl)) (hw _ (List.mem_of_getElem? (i := 3) rfl)) (by decide) (Wd := 0) (by decide) (by decide) (by decide) (by decide) (g := (mkF m 4 #[.val (.int p0), .val (.int p1), .val (.int p2), .val (.int p3), .unset, .unset, .unset, .unset] [(.int p3), (.int p2), (.int p1), (.int p0)])) rfl (by rw [hml]; rfl) (argsL := [(.int p0), (.int p1), (.int p2), (.int p3)]) (rest := []) rfl (lenOf pd__IIII_Ljava_lang_String_ rfl) rfl (by show 2 * 0 + _ ≤ _; exact Nat.le_of_eq rfl) (hb hby at_4)
  obtain ⟨x_1, t_1, rfl, p1_0, f1_0, K1⟩ := Q1
  have yf1_0 : h1.size > x_1 ∧ h1.size > t_1 := f1_0.lt
  refine Go.tr (g' := (mkF m 7 #[.val (.int p0), .val (.int p1), .val (.int p2), .val (.int p3), .unset, .unset, .unset, .unset] [(.ref x_1)])) st1 ?_
  refine Go.st (g' := (mkF m 9 #[.val (.int p0), .val (.int p1), .val (.int p2), .val (.int p3), .val (.ref x_1), .unset, .unset, .unset] [])) (fun _ k => XS.astore W1.here hx rfl (hb hby at_7) rfl rfl (l' := #[.val (.int p0), .val (.int p1), .val (.int p2), .val (.int p3), .val (.ref x_1), .unset, .unset, .unset]) rfl k) ?_
  refine Go.st (g' := (mkF m 11 #[.val (.int p0), .val (.int p1), .val (.int p2), .val (.int p3), .val (.ref x_1), .unset, .unset, .unset] [(.ref x_1)])) (fun _ k => XS.aload W1.here hx rfl (hb hby at_9) rfl rfl  k) ?_
  obtain ⟨_, vm2, T2, h2, W2, Q2, z2, SF2, st2⟩ := W1.callS hx hEL (own_refused l hE W1.old (zd := zd) (m0 := x_1) hzd ) (hw _ (List.mem_of_getElem? (i := 34) rfl)) (hw _ (List.mem_of_getElem? (i := 35) rfl)) (hw _ (List.mem_of_getElem? (i := 36) rfl)) (hw _ (List.mem_of_getElem? (i := 37) rfl)) (by decide) (Wd := 0) (by decide) (by decide) (by decide) (by decide) (g := (mkF m 11 #[.val (.int p0), .val (.int p1), .val (.int p2), .val (.int p3), .val (.ref x_1), .unset, .unset, .unset] [(.ref x_1)])) rfl (by rw [hml]; rfl) (argsL := [(.ref x_1)]) (rest := []) rfl (lenOf pd__Ljava_lang_String__Lcom_example_fanoutd_fanoutd_delivery_DeliveryException_ rfl) rfl (by show 2 * 0 + _ ≤ _; exact Nat.le_of_eq rfl) (hb hby at_11)
  obtain ⟨x_2, rfl, f2_0, f2_1, f2_2, f2_3, f2_4, f2_5, K2⟩ := Q2
  have yf2_0 : h2.size > x_2 := f2_0.lt
  refine Go.tr (g' := (mkF m 14 #[.val (.int p0), .val (.int p1), .val (.int p2), .val (.int p3), .val (.ref x_1), .unset, .unset, .unset] [(.ref x_2)])) st2 ?_
  refine Go.st (g' := (mkF m 16 #[.val (.int p0), .val (.int p1), .val (.int p2), .val (.int p3), .val (.ref x_1), .val (.ref x_2), .unset, .unset] [])) (fun _ k => XS.astore W2.here hx rfl (hb hby at_14) rfl rfl (l' := #[.val (.int p0), .val (.int p1), .val (.int p2), .val (.int p3), .val (.ref x_1), .val (.ref x_2), .unset, .unset]) rfl k) ?_
  refine Go.st (g' := (mkF m 18 #[.val (.int p0), .val (.int p1), .val (.int p2), .val (.int p3), .val (.ref x_1), .val (.ref x_2), .unset, .unset] [(.ref x_2)])) (fun _ k => XS.aload W2.here hx rfl (hb hby at_16) rfl rfl  k) ?_
  obtain ⟨_, vm3, T3, h3, W3, Q3, z3, SF3, st3⟩ := W2.callU hx hEL (own_get_getMessage l hE W2.old (x0 := x_2) (v0 := (.ref x_1)) rfl f2_4) (hw _ (List.mem_of_getElem? (i := 97) rfl)) (hw _ (List.mem_of_getElem? (i := 98) rfl)) (hw _ (List.mem_of_getElem? (i := 99) rfl)) (by decide) (hw _ (List.mem_of_getElem? (i := 101) rfl)) (hw _ (List.mem_of_getElem? (i := 100) rfl)) (hw _ (List.mem_of_getElem? (i := 54) rfl)) (hw _ (List.mem_of_getElem? (i := 102) rfl)) (Wd := 0) (by decide) (by decide) (by decide) (by decide) (g := (mkF m 18 #[.val (.int p0), .val (.int p1), .val (.int p2), .val (.int p3), .val (.ref x_1), .val (.ref x_2), .unset, .unset] [(.ref x_2)])) rfl (by rw [hml]; rfl) (a := x_2) f2_0 (argsL := []) (rest := []) rfl (lenOf pd___Ljava_lang_String_ rfl) rfl (by show 2 * 0 + _ ≤ _; exact Nat.le_of_eq rfl) (hb hby at_18)
  obtain ⟨rfl, eh3⟩ := Q3
  subst eh3
  refine Go.tr (g' := (mkF m 21 #[.val (.int p0), .val (.int p1), .val (.int p2), .val (.int p3), .val (.ref x_1), .val (.ref x_2), .unset, .unset] [(.ref x_1)])) st3 ?_
  refine Go.st (g' := (mkF m 23 #[.val (.int p0), .val (.int p1), .val (.int p2), .val (.int p3), .val (.ref x_1), .val (.ref x_2), .val (.ref x_1), .unset] [])) (fun _ k => XS.astore W3.here hx rfl (hb hby at_21) rfl rfl (l' := #[.val (.int p0), .val (.int p1), .val (.int p2), .val (.int p3), .val (.ref x_1), .val (.ref x_2), .val (.ref x_1), .unset]) rfl k) ?_
  refine Go.st (g' := (mkF m 25 #[.val (.int p0), .val (.int p1), .val (.int p2), .val (.int p3), .val (.ref x_1), .val (.ref x_2), .val (.ref x_1), .unset] [(.ref x_1)])) (fun _ k => XS.aload W3.here hx rfl (hb hby at_23) rfl rfl  k) ?_
  refine Go.st (g' := (mkF m 28 #[.val (.int p0), .val (.int p1), .val (.int p2), .val (.int p3), .val (.ref x_1), .val (.ref x_2), .val (.ref x_1), .unset] [])) (fun _ k => XS.ifnullNo W3.here hx rfl (hb hby at_25) rfl k) ?_
  refine Go.st (g' := (mkF m 30 #[.val (.int p0), .val (.int p1), .val (.int p2), .val (.int p3), .val (.ref x_1), .val (.ref x_2), .val (.ref x_1), .unset] [(.ref x_1)])) (fun _ k => XS.aload W3.here hx rfl (hb hby at_28) rfl rfl  k) ?_
  refine Go.st (g' := (mkF m 32 #[.val (.int p0), .val (.int p1), .val (.int p2), .val (.int p3), .val (.ref x_1), .val (.ref x_2), .val (.ref x_1), .unset] [(.ref x_1), (.ref x_1)])) (fun _ k => XS.aload W3.here hx rfl (hb hby at_30) rfl rfl  k) ?_
  have F4 : Str Z h2 x_1 t_1 (own_drawL p0 p1 p2 p3) := (f1_0.keep K2 nin0 nin0)
  obtain ⟨_, vm5, T5, h5, W5, Q5, z5, SF5, st5⟩ := W3.callV hx hEL (own_eqId l hE W3.old (x0 := x_1)  ) (hw _ (List.mem_of_getElem? (i := 103) rfl)) (hw _ (List.mem_of_getElem? (i := 104) rfl)) (hw _ (List.mem_of_getElem? (i := 106) rfl)) (hw _ (List.mem_of_getElem? (i := 105) rfl)) (hw _ (List.mem_of_getElem? (i := 7) rfl)) (hw _ (List.mem_of_getElem? (i := 107) rfl)) (by decide) (Wd := 0) (by decide) (by decide) (by decide) (by decide) (g := (mkF m 32 #[.val (.int p0), .val (.int p1), .val (.int p2), .val (.int p3), .val (.ref x_1), .val (.ref x_2), .val (.ref x_1), .unset] [(.ref x_1), (.ref x_1)])) rfl (by rw [hml]; rfl) (a := x_1) F4.1 (argsL := [(.ref x_1)]) (rest := []) rfl (lenOf pd__Ljava_lang_Object__Z rfl) rfl (by show 2 * 0 + _ ≤ _; exact Nat.le_of_eq rfl) (hb hby at_32)
  obtain ⟨rfl, eh5⟩ := Q5
  subst eh5
  refine Go.tr (g' := (mkF m 35 #[.val (.int p0), .val (.int p1), .val (.int p2), .val (.int p3), .val (.ref x_1), .val (.ref x_2), .val (.ref x_1), .unset] [(.int (1 : Int32))])) st5 ?_
  refine Go.st (g' := (mkF m 40 #[.val (.int p0), .val (.int p1), .val (.int p2), .val (.int p3), .val (.ref x_1), .val (.ref x_2), .val (.ref x_1), .unset] [])) (fun _ k => XS.ifYes W5.here hx rfl (pc0 := 35) (pc' := 40) rfl (hb hby at_35) rfl ((if0 _ _).trans (feq (by decide)).2) (by decide) (by decide) k) ?_
  refine Go.st (g' := (mkF m 42 #[.val (.int p0), .val (.int p1), .val (.int p2), .val (.int p3), .val (.ref x_1), .val (.ref x_2), .val (.ref x_1), .unset] [(.ref x_2)])) (fun _ k => XS.aload W5.here hx rfl (hb hby at_40) rfl rfl  k) ?_
  obtain ⟨_, vm6, T6, h6, W6, Q6, z6, SF6, st6⟩ := W5.callV hx hEL (own_isRetryable l hE W5.old (x0 := x_2)  f2_2) (hw _ (List.mem_of_getElem? (i := 108) rfl)) (hw _ (List.mem_of_getElem? (i := 109) rfl)) (hw _ (List.mem_of_getElem? (i := 111) rfl)) (hw _ (List.mem_of_getElem? (i := 110) rfl)) (hw _ (List.mem_of_getElem? (i := 36) rfl)) (hw _ (List.mem_of_getElem? (i := 112) rfl)) (by decide) (Wd := 0) (by decide) (by decide) (by decide) (by decide) (g := (mkF m 42 #[.val (.int p0), .val (.int p1), .val (.int p2), .val (.int p3), .val (.ref x_1), .val (.ref x_2), .val (.ref x_1), .unset] [(.ref x_2)])) rfl (by rw [hml]; rfl) (a := x_2) f2_0 (argsL := []) (rest := []) rfl (lenOf pd___Z rfl) rfl (by show 2 * 0 + _ ≤ _; exact Nat.le_of_eq rfl) (hb hby at_42)
  obtain ⟨rfl, eh6⟩ := Q6
  subst eh6
  refine Go.tr (g' := (mkF m 45 #[.val (.int p0), .val (.int p1), .val (.int p2), .val (.int p3), .val (.ref x_1), .val (.ref x_2), .val (.ref x_1), .unset] [(.int (0 : Int32))])) st6 ?_
  refine Go.st (g' := (mkF m 50 #[.val (.int p0), .val (.int p1), .val (.int p2), .val (.int p3), .val (.ref x_1), .val (.ref x_2), .val (.ref x_1), .unset] [])) (fun _ k => XS.ifYes W6.here hx rfl (pc0 := 45) (pc' := 50) rfl (hb hby at_45) rfl ((if0 _ _).trans (teq (by decide)).1) (by decide) (by decide) k) ?_
  refine Go.st (g' := (mkF m 52 #[.val (.int p0), .val (.int p1), .val (.int p2), .val (.int p3), .val (.ref x_1), .val (.ref x_2), .val (.ref x_1), .unset] [(.ref x_2)])) (fun _ k => XS.aload W6.here hx rfl (hb hby at_50) rfl rfl  k) ?_
  obtain ⟨_, vm7, T7, h7, W7, Q7, z7, SF7, st7⟩ := W6.callV hx hEL (own_get_retryAfter l hE W6.old (x0 := x_2) (v0 := (.ref zd)) rfl f2_3) (hw _ (List.mem_of_getElem? (i := 113) rfl)) (hw _ (List.mem_of_getElem? (i := 114) rfl)) (hw _ (List.mem_of_getElem? (i := 116) rfl)) (hw _ (List.mem_of_getElem? (i := 115) rfl)) (hw _ (List.mem_of_getElem? (i := 36) rfl)) (hw _ (List.mem_of_getElem? (i := 117) rfl)) (by decide) (Wd := 0) (by decide) (by decide) (by decide) (by decide) (g := (mkF m 52 #[.val (.int p0), .val (.int p1), .val (.int p2), .val (.int p3), .val (.ref x_1), .val (.ref x_2), .val (.ref x_1), .unset] [(.ref x_2)])) rfl (by rw [hml]; rfl) (a := x_2) f2_0 (argsL := []) (rest := []) rfl (lenOf pd___Ljava_time_Duration_ rfl) rfl (by show 2 * 0 + _ ≤ _; exact Nat.le_of_eq rfl) (hb hby at_52)
  obtain ⟨rfl, eh7⟩ := Q7
  subst eh7
  refine Go.tr (g' := (mkF m 55 #[.val (.int p0), .val (.int p1), .val (.int p2), .val (.int p3), .val (.ref x_1), .val (.ref x_2), .val (.ref x_1), .unset] [(.ref zd)])) st7 ?_
  refine Go.st (g' := (mkF m 57 #[.val (.int p0), .val (.int p1), .val (.int p2), .val (.int p3), .val (.ref x_1), .val (.ref x_2), .val (.ref x_1), .val (.ref zd)] [])) (fun _ k => XS.astore W7.here hx rfl (hb hby at_55) rfl rfl (l' := #[.val (.int p0), .val (.int p1), .val (.int p2), .val (.int p3), .val (.ref x_1), .val (.ref x_2), .val (.ref x_1), .val (.ref zd)]) rfl k) ?_
  refine Go.st (g' := (mkF m 59 #[.val (.int p0), .val (.int p1), .val (.int p2), .val (.int p3), .val (.ref x_1), .val (.ref x_2), .val (.ref x_1), .val (.ref zd)] [(.ref zd)])) (fun _ k => XS.aload W7.here hx rfl (hb hby at_57) rfl rfl  k) ?_
  refine Go.st (g' := (mkF m 62 #[.val (.int p0), .val (.int p1), .val (.int p2), .val (.int p3), .val (.ref x_1), .val (.ref x_2), .val (.ref x_1), .val (.ref zd)] [])) (fun _ k => XS.ifnullNo W7.here hx rfl (hb hby at_59) rfl k) ?_
  refine Go.st (g' := (mkF m 64 #[.val (.int p0), .val (.int p1), .val (.int p2), .val (.int p3), .val (.ref x_1), .val (.ref x_2), .val (.ref x_1), .val (.ref zd)] [(.ref zd)])) (fun _ k => XS.aload W7.here hx rfl (hb hby at_62) rfl rfl  k) ?_
  have F8 : Exa Z h2 zd "java/time/Duration" := ((Dz.keep K1).keep K2)
  have F10 : Fld Z h2 zd "java/time/Duration" "seconds" "J" (.long (0 : Int64)) := ((Ds.keep K1 nin0).keep K2 nin0)
  have F11 : Fld Z h2 zd "java/time/Duration" "nanos" "I" (.int (0 : Int32)) := ((Dn.keep K1 nin0).keep K2 nin0)
  obtain ⟨_, vm9, T9, h9, W9, Q9, z9, SF9, st9⟩ := W7.callV hx hEL (own_isZero l hE W7.old (x0 := zd)  F10 F11) (hw _ (List.mem_of_getElem? (i := 118) rfl)) (hw _ (List.mem_of_getElem? (i := 119) rfl)) (hw _ (List.mem_of_getElem? (i := 121) rfl)) (hw _ (List.mem_of_getElem? (i := 120) rfl)) (hw _ (List.mem_of_getElem? (i := 41) rfl)) (hw _ (List.mem_of_getElem? (i := 122) rfl)) (by decide) (Wd := 0) (by decide) (by decide) (by decide) (by decide) (g := (mkF m 64 #[.val (.int p0), .val (.int p1), .val (.int p2), .val (.int p3), .val (.ref x_1), .val (.ref x_2), .val (.ref x_1), .val (.ref zd)] [(.ref zd)])) rfl (by rw [hml]; rfl) (a := zd) F8 (argsL := []) (rest := []) rfl (lenOf pd___Z rfl) rfl (by show 2 * 0 + _ ≤ _; exact Nat.le_of_eq rfl) (hb hby at_64)
  obtain ⟨rfl, eh9⟩ := Q9
  subst eh9
  refine Go.tr (g' := (mkF m 67 #[.val (.int p0), .val (.int p1), .val (.int p2), .val (.int p3), .val (.ref x_1), .val (.ref x_2), .val (.ref x_1), .val (.ref zd)] [(.int (1 : Int32))])) st9 ?_
  refine Go.st (g' := (mkF m 72 #[.val (.int p0), .val (.int p1), .val (.int p2), .val (.int p3), .val (.ref x_1), .val (.ref x_2), .val (.ref x_1), .val (.ref zd)] [])) (fun _ k => XS.ifYes W9.here hx rfl (pc0 := 67) (pc' := 72) rfl (hb hby at_67) rfl ((if0 _ _).trans (feq (by decide)).2) (by decide) (by decide) k) ?_
  refine Go.st (g' := (mkF m 74 #[.val (.int p0), .val (.int p1), .val (.int p2), .val (.int p3), .val (.ref x_1), .val (.ref x_2), .val (.ref x_1), .val (.ref zd)] [(.ref x_2)])) (fun _ k => XS.aload W9.here hx rfl (hb hby at_72) rfl rfl  k) ?_
  obtain ⟨_, T12, h12, L12, W12, Q12, z12, SF12, st12⟩ := W9.payUp hx (hw _ (List.mem_of_getElem? (i := 127) rfl)) (hw _ (List.mem_of_getElem? (i := 128) rfl)) (hw _ (List.mem_of_getElem? (i := 129) rfl)) (by decide) (hw _ (List.mem_of_getElem? (i := 131) rfl)) (hw _ (List.mem_of_getElem? (i := 130) rfl)) (by decide) (Wd := 0) (ws := []) (k := 0) (n := 0) (as' := #[.ref x_2]) (Qb := fun v h' L => v = some (RoadKit.gcV x_2 .null) ∧ L = [] ∧ h' = h2) (own_gc W9.warmS (hw _ (List.mem_of_getElem? (i := 132) rfl)) (hw _ (List.mem_of_getElem? (i := 130) rfl)) (hw _ (List.mem_of_getElem? (i := 54) rfl)) (hw _ (List.mem_of_getElem? (i := 57) rfl)) f2_1 f2_5 rfl (by decide) (by decide)) (fun v h' L q => ⟨q.2.2 ▸ Keep.refl _ _, q.2.1 ▸ Fr.nil _⟩) sf0 all0 (by decide) (by decide) (g := (mkF m 74 #[.val (.int p0), .val (.int p1), .val (.int p2), .val (.int p3), .val (.ref x_1), .val (.ref x_2), .val (.ref x_1), .val (.ref zd)] [(.ref x_2)])) rfl (by rw [hml]; rfl) (a := x_2) f2_0 (argsL := []) (rest := []) rfl (lenOf pd___Ljava_lang_Throwable_ rfl) rfl (by show 2 * 0 + _ ≤ _; exact Nat.le_of_eq rfl) (hb hby at_74)
  obtain ⟨rfl, rfl, rfl⟩ := Q12
  rw [gcv_null] at st12
  refine Go.tr (g' := (mkF m 77 #[.val (.int p0), .val (.int p1), .val (.int p2), .val (.int p3), .val (.ref x_1), .val (.ref x_2), .val (.ref x_1), .val (.ref zd)] [.null])) st12 ?_
  refine Go.st (g' := (mkF m 80 #[.val (.int p0), .val (.int p1), .val (.int p2), .val (.int p3), .val (.ref x_1), .val (.ref x_2), .val (.ref x_1), .val (.ref zd)] [])) (fun _ k => XS.ifnonnullNo W12.here hx rfl (hb hby at_77) rfl k) ?_
  refine Go.st (g' := (mkF m 81 #[.val (.int p0), .val (.int p1), .val (.int p2), .val (.int p3), .val (.ref x_1), .val (.ref x_2), .val (.ref x_1), .val (.ref zd)] [(.int (1 : Int32))])) (fun _ k => XS.iconst W12.here hx rfl (hb hby at_80) k) ?_
  refine Go.st (g' := (mkF m 85 #[.val (.int p0), .val (.int p1), .val (.int p2), .val (.int p3), .val (.ref x_1), .val (.ref x_2), .val (.ref x_1), .val (.ref zd)] [(.int (1 : Int32))])) (fun _ k => XS.goto W12.here hx rfl (pc0 := 81) (pc' := 85) rfl (hb hby at_81) (by decide) (by decide) k) ?_
  exact W12.retN hx hEL hlk (t := .boolean) hret (by decide) (hb hby at_85) (by decide) (by decide) rfl
theorem own_compact {s : State} {a : Array Value} (hsets : ∀ d ∈ jdkStatics_1, d.before a s = true) : ∃ zc : Int32, Sta s s.heap "java/lang/String" "COMPACT_STRINGS" "Z" (.int zc) ∧ ¬ zc = 0 := by
  have n3 := not_v (Cond.before_iff.mp (hsets _ (List.mem_of_getElem? (i := 2) rfl)))
  obtain ⟨i7, e6⟩ := is_v (Cond.before_iff.mp (hsets _ (List.mem_of_getElem? (i := 1) rfl)))
  exact ⟨i7, Sta.start e6 (Or.inl (hsets _ (List.mem_of_getElem? (i := 0) rfl))), gotF (Cond.eq_ints e6 (Term.int_eval (0))) n3⟩
theorem own_sioobe {s : State} {a : Array Value} (hsets : ∀ d ∈ jdkStatics_1, d.before a s = true) : ∃ fm : Value, Sta s s.heap "jdk/internal/util/Preconditions" "SIOOBE_FORMATTER" "Ljava/util/function/BiFunction;" fm ∧ fm.isRef = true := by
  obtain ⟨v9, e10, r11⟩ := isR_v (Cond.before_iff.mp (hsets _ (List.mem_of_getElem? (i := 8) rfl)))
  exact ⟨v9, Sta.start e10 (Or.inl (hsets _ (List.mem_of_getElem? (i := 7) rfl))), r11⟩
theorem own_knows {s : State} {m : MethodId} {args : Array Value} {below : List Frame} (hf : s.frames = .invoking m args :: below) (h1 : framesKnown s = true) (h2 : tablesKnown s = true) : s.vm.MethodsKnown ∧ s.vm.FramesKnown below := ⟨MethodsKnown_of_tablesKnown h2, FramesKnown_of_framesKnown h1 hf⟩
set_option maxRecDepth 65536 in
set_option maxHeartbeats 4000000 in
theorem comes_1 {Post : Tables → Env → Array Value → State → Outcome → State → Prop} (hpost : ∀ tb e args s v u, (limb_1_1.after args s (.returned v) u = true ∧ limb_1_2.after args s (.returned v) u = true ∧ True) → FramedW s (.returned v) u (Jvm.fieldLocs frame_1_writes args s ++ Jvm.arrayLocs frame_1_arrays args s ++ Jvm.staticLocs frame_1_statics s) 24 6656 → Post tb e args s (.returned v) u) :
    ArmFor flags0 classFile x code maxLocals ret World_1 tables_1 room_1 Calls_1 rest_1 Pre_1 Post := by
  intro l hfl _ _ p e ha hc hk s m args below hf hA hF happ hP
  obtain ⟨hcalls, hrest, hpre⟩ := hP
  obtain ⟨-, -, -, hnamed, -, -, -, hat⟩ := (Spec.applies_iff hf).mp happ
  obtain ⟨hg, hn⟩ := and_e (Cond.before_iff.mp (show (Jvm.Cond.and given_1 narrow_1).before args s = true from hpre))
  obtain ⟨h1, h2⟩ := and_e hg
  obtain ⟨w0, w1, w2, w3, rfl⟩ : ∃ w0 w1 w2 w3 : Value, args = #[w0, w1, w2, w3] := by
    have hs : args.size = 4 := by simpa [Cond.value, given_1] using h1
    obtain ⟨L⟩ := args
    match L, hs with
    | [w0, w1, w2, w3], _ => exact ⟨w0, w1, w2, w3, rfl⟩
  have hw := fun d (hd : d ∈ tables_1) => atoms_spec (ws := Jvm.Cond.code x code maxLocals ret :: tables_1) hat d (List.mem_cons_of_mem _ hd)
  obtain ⟨hsets, hown0⟩ := atoms_of _ (rest_1_c_eq ▸ (show rest_1_c.before _ s = true from hrest))
  obtain ⟨q0, h2⟩ := and_e h2
  obtain ⟨i0, e0⟩ := is_v q0
  obtain rfl : w0 = (.int i0) := Option.some.inj e0
  obtain ⟨q1, h2⟩ := and_e h2
  obtain ⟨i1, e1⟩ := is_v q1
  obtain rfl : w1 = (.int i1) := Option.some.inj e1
  obtain ⟨q2, h2⟩ := and_e h2
  obtain ⟨i2, e2⟩ := is_v q2
  obtain rfl : w2 = (.int i2) := Option.some.inj e2
  have q3 := h2
  obtain ⟨i3, e3⟩ := is_v q3
  obtain rfl : w3 = (.int i3) := Option.some.inj e3
  have hfit : Fit s := fun {y c} hc i hi => by
    obtain ⟨ha, rfl⟩ := Array.getElem?_eq_some_iff.mp hc
    have q := List.all_eq_true.mp ((Array.all_eq_true_iff_forall_mem.mp hF) _ (Array.getElem_mem ha)) i (List.mem_range.mpr hi)
    simpa [Array.getElem?_eq_getElem hi] using q
  obtain ⟨us, eus⟩ := arr_v (Cond.before_iff.mp (hsets _ (List.mem_of_getElem? (i := 22) rfl)))
  have hus : Sta s s.heap "java/lang/Throwable" "UNASSIGNED_STACK" "[Ljava/lang/StackTraceElement;" (.ref us) := Sta.start eus (Or.inl (hsets _ (List.mem_of_getElem? (i := 20) rfl)))
  obtain ⟨sen, esen, rsen⟩ := isR_v (Cond.before_iff.mp (hsets _ (List.mem_of_getElem? (i := 26) rfl)))
  have hsen : Sta s s.heap "java/lang/Throwable" "SUPPRESSED_SENTINEL" "Ljava/util/List;" sen := Sta.start esen (Or.inl (hsets _ (List.mem_of_getElem? (i := 25) rfl)))
  obtain ⟨zd, ezd⟩ := own_exa (Cond.before_iff.mp (hsets _ (List.mem_of_getElem? (i := 11) rfl)))
  have hzd : Sta s s.heap "java/time/Duration" "ZERO" "Ljava/time/Duration;" (.ref zd) := Sta.start ezd (Or.inl (hsets _ (List.mem_of_getElem? (i := 10) rfl)))
  have hKn : s.vm.MethodsKnown ∧ s.vm.FramesKnown below := own_knows hf hcalls.1 hcalls.2.1
  have hE : Ctx s #[(.int i0), (.int i1), (.int i2), (.int i3)] l := ⟨hw, own_compact hsets, ⟨zd, hzd, Exa.start ezd (Cond.before_iff.mp (hsets _ (List.mem_of_getElem? (i := 11) rfl))), Fld.start ((fld_at ezd).symm.trans (own_eqJ (Cond.before_iff.mp (hsets _ (List.mem_of_getElem? (i := 12) rfl))))), Fld.start ((fld_at ezd).symm.trans (own_eqI (Cond.before_iff.mp (hsets _ (List.mem_of_getElem? (i := 13) rfl)))))⟩, ⟨us, hus⟩, ⟨sen, hsen, rsen⟩, by rw [Launch.stackTraces, hfl]; decide⟩
  have hCH : CHv s consts_1 s.vm s.heap := CHv.start (own_EW hw) hcalls.2.2.1 (hsets _ (List.mem_of_getElem? (i := 2) rfl)) (hw _ (List.mem_of_getElem? (i := 23) rfl)) (hw _ (List.mem_of_getElem? (i := 6) rfl))
  obtain ⟨n, o, h1, h2, h3, _, L, rfl, ⟨rfl, N, -⟩, -, hq⟩ := own_law l hE (Old.start s)  p e ha hc hk s m _ below hf ((Spec.applies_iff_loose hf).mp happ).1 ⟨rfl, State.Warmed39.refl s, rfl, hCH⟩ hKn
  refine ⟨n, _, h1, h2, h3, hpost _ _ _ _ _ _ ⟨Cond.after_iff.mpr rfl, Cond.after_iff.mpr (eq_i res_at (Term.int_eval (1)) rfl), trivial⟩ ⟨hq.1, hq.2.1, hq.2.2.1, (hq.2.2.2.sift fun y hy => Or.inr (N y hy)).mono (by decide) (by decide)⟩⟩
theorem main_1_1 : Claimed_1_1 := comes_1 fun _ _ _ _ _ _ h hF => ⟨h.1, hF⟩
theorem main_1_2 : Claimed_1_2 := comes_1 fun _ _ _ _ _ _ h hF => ⟨h.2.1, hF⟩
end Jvm.Pilot.@@N@@
namespace Jvm.Pilot.@@N@@
open Jvm Jvm.ClassFile Sem Op Lib Jvm.Free Jvm.Stand Jvm.Pilot.@@N@@.Jvm.D
/-! MADE BY PROGRAM (witnessworld.py) out of the Statement's table words and the real class files: 37 classes; the members and pool entries that the words name. The judged class is class 1, her method 2. -/
namespace start1
open Jvm.ClassFile
def u (s : String) : CpInfo := .utf8 (stringToUtf16 s)
/-- a pool by its gaps: so many unusable entries, then the entry; so many at the end -/
def gap : Nat → List CpInfo → List CpInfo
  | 0, r => r
  | n + 1, r => .unusable :: gap n r
def poolList (es : List (Nat × CpInfo)) (last : Nat) : List CpInfo := es.foldr (fun e r => gap e.1 (e.2 :: r)) (gap last [])
def pool (es : List (Nat × CpInfo)) (last : Nat) : Array CpInfo := ⟨poolList es last⟩
def fileOf (pool : Array CpInfo) (this : Nat) (attrs : Array Attribute := #[]) (ms : Array MethodInfo := #[]) (fl : Nat := 33) (sup : Nat := 0) (ifs : Array Nat := #[]) (fds : Array FieldInfo := #[]) : ClassFile where
  minorVersion := 0
  majorVersion := 65
  constantPool := pool
  accessFlags := fl
  thisClass := this
  superClass := sup
  interfaces := ifs
  fields := fds
  methods := ms
  attributes := attrs
def plain (name : String) (sup : Option ClassId) : Class where
  name := name
  kind := .ordinary
  loader := none
  accessFlags := 33
  super := sup
  interfaces := #[]
  cf := none
  fields := #[]
  methods := #[]
  instanceTypes := #[]
  staticTypes := #[]
  resolved := #[]
  callSites := []
  init := .initialized
  statics := none
  mirror := none

def pool0 : Array CpInfo := pool [(5, u "<init>"), (0, u "()V"), (1, .class_ 10), (1, u "java/lang/Object")] 113

def k0c0 : Code := { maxStack := 0, maxLocals := 1, code := object_method_1_code, exceptionTable := #[], attributes := #[] }
def k0m0 : Method := { name := "<init>", desc := "()V", sig := { parameters := [], returnType := none }, accessFlags := 1, code := some k0c0 }
/-- java/lang/Object -/
def k0 : Class := { plain "java/lang/Object" none with
  accessFlags := 33
  interfaces := #[]
  cf := some (fileOf pool0 8 #[] #[{ accessFlags := 1, nameIndex := 5, descriptorIndex := 6, attributes := #[] }] 33 0 #[] #[])
  fields := #[]
  methods := #[k0m0]
  instanceTypes := #[]
  staticTypes := #[]
  resolved := Array.replicate 124 none
  statics := none }

def pool1 : Array CpInfo := pool [(2, .class_ 4), (1, u "java/lang/Object"), (0, u "<init>"), (0, u "()V"), (0, .class_ 8), (0, u "java/lang/String"), (0, .methodref 7 10), (0, .nameAndType 5 11), (0, u "([C)V"), (0, .methodref 13 14), (0, .class_ 15), (0, .nameAndType 16 17), (0, u "com/example/fanoutd/fanoutd/delivery/DeliveryExceptionRefusedPinLaw"), (0, u "draw"), (0, u "(IIII)Ljava/lang/String;"), (0, .methodref 19 20), (0, .class_ 21), (0, .nameAndType 22 23), (0, u "com/example/fanoutd/fanoutd/delivery/DeliveryException"), (0, u "refused"), (0, u "(Ljava/lang/String;)Lcom/example/fanoutd/fanoutd/delivery/DeliveryException;"), (0, .methodref 19 25), (0, .nameAndType 26 27), (0, u "getMessage"), (0, u "()Ljava/lang/String;"), (0, .methodref 7 29), (0, .nameAndType 30 31), (0, u "equals"), (0, u "(Ljava/lang/Object;)Z"), (0, .methodref 19 33), (0, .nameAndType 34 35), (0, u "isRetryable"), (0, u "()Z"), (0, .methodref 19 37), (0, .nameAndType 38 39), (0, u "retryAfter"), (0, u "()Ljava/time/Duration;"), (0, .methodref 41 42), (0, .class_ 43), (0, .nameAndType 44 35), (0, u "java/time/Duration"), (0, u "isZero"), (0, .methodref 19 46), (0, .nameAndType 47 48), (0, u "getCause"), (0, u "()Ljava/lang/Throwable;"), (3, u "law"), (0, u "(IIII)Z")] 2

def k1m0 : Method := { name := "<init>", desc := "()V", sig := { parameters := [], returnType := none }, accessFlags := 2, code := none }
def k1c1 : Code := { maxStack := 3, maxLocals := 9, code := method_2_code, exceptionTable := #[], attributes := #[] }
def k1m1 : Method := { name := "draw", desc := "(IIII)Ljava/lang/String;", sig := { parameters := [.int, .int, .int, .int], returnType := some (.object "java/lang/String") }, accessFlags := 10, code := some k1c1 }
def k1c2 : Code := { maxStack := 4, maxLocals := 8, code := code, exceptionTable := #[], attributes := #[] }
def k1m2 : Method := { name := "law", desc := "(IIII)Z", sig := { parameters := [.int, .int, .int, .int], returnType := some .boolean }, accessFlags := 9, code := some k1c2 }
/-- com/example/fanoutd/fanoutd/delivery/DeliveryExceptionRefusedPinLaw -/
def k1 : Class := { plain "com/example/fanoutd/fanoutd/delivery/DeliveryExceptionRefusedPinLaw" (some 0) with
  accessFlags := 49
  interfaces := #[]
  cf := some (fileOf pool1 13 #[] #[{ accessFlags := 2, nameIndex := 5, descriptorIndex := 6, attributes := #[] }, { accessFlags := 10, nameIndex := 16, descriptorIndex := 17, attributes := #[] }, { accessFlags := 9, nameIndex := 52, descriptorIndex := 53, attributes := #[] }] 49 2 #[] #[])
  fields := #[]
  methods := #[k1m0, k1m1, k1m2]
  instanceTypes := #[]
  staticTypes := #[]
  resolved := Array.replicate 56 none
  statics := none }

def pool2 : Array CpInfo := pool [(1, .class_ 2), (0, u "java/io/Serializable"), (0, .class_ 4), (0, u "java/lang/Object")] 2

/-- java/io/Serializable -/
def k2 : Class := { plain "java/io/Serializable" (some 0) with
  accessFlags := 1537
  interfaces := #[]
  cf := some (fileOf pool2 1 #[] #[] 1537 3 #[] #[])
  fields := #[]
  methods := #[]
  instanceTypes := #[]
  staticTypes := #[]
  resolved := Array.replicate 7 none
  statics := none }

def pool3 : Array CpInfo := pool [(1, .class_ 2), (0, u "java/lang/Comparable"), (0, .class_ 4), (0, u "java/lang/Object")] 7

/-- java/lang/Comparable -/
def k3 : Class := { plain "java/lang/Comparable" (some 0) with
  accessFlags := 1537
  interfaces := #[]
  cf := some (fileOf pool3 1 #[] #[] 1537 3 #[] #[])
  fields := #[]
  methods := #[]
  instanceTypes := #[]
  staticTypes := #[]
  resolved := Array.replicate 12 none
  statics := none }

def pool4 : Array CpInfo := pool [(2, .class_ 4), (1, u "java/lang/CharSequence"), (42, .class_ 48), (0, u "java/lang/CharSequence$1CodePointIterator"), (10, .class_ 60), (0, u "java/lang/CharSequence$1CharIterator"), (5, .class_ 67), (0, u "java/lang/Object")] 63

/-- java/lang/CharSequence -/
def k4 : Class := { plain "java/lang/CharSequence" (some 0) with
  accessFlags := 1537
  interfaces := #[]
  cf := some (fileOf pool4 2 #[.nestMembers #[47, 59]] #[] 1537 66 #[] #[])
  fields := #[]
  methods := #[]
  instanceTypes := #[]
  staticTypes := #[]
  resolved := Array.replicate 131 none
  statics := none }

def pool5 : Array CpInfo := pool [(1, .class_ 2), (0, u "java/lang/constant/Constable"), (0, .class_ 4), (0, u "java/lang/Object")] 6

/-- java/lang/constant/Constable -/
def k5 : Class := { plain "java/lang/constant/Constable" (some 0) with
  accessFlags := 1537
  interfaces := #[]
  cf := some (fileOf pool5 1 #[] #[] 1537 3 #[] #[])
  fields := #[]
  methods := #[]
  instanceTypes := #[]
  staticTypes := #[]
  resolved := Array.replicate 11 none
  statics := none }

def pool6 : Array CpInfo := pool [(1, .class_ 2), (0, u "java/lang/constant/ConstantDesc"), (0, .class_ 4), (0, u "java/lang/Object")] 32

/-- java/lang/constant/ConstantDesc -/
def k6 : Class := { plain "java/lang/constant/ConstantDesc" (some 0) with
  accessFlags := 1537
  interfaces := #[]
  cf := some (fileOf pool6 1 #[] #[] 1537 3 #[] #[])
  fields := #[]
  methods := #[]
  instanceTypes := #[]
  staticTypes := #[]
  resolved := Array.replicate 37 none
  statics := none }

def pool7 : Array CpInfo := pool [(1, .methodref 2 3), (0, .class_ 4), (0, .nameAndType 5 6), (0, u "java/lang/Object"), (0, u "<init>"), (0, u "()V"), (0, .string 8), (0, u ""), (0, .fieldref 10 11), (0, .class_ 12), (0, .nameAndType 13 14), (0, u "java/lang/String"), (0, u "value"), (0, u "[B"), (0, .fieldref 10 16), (0, .nameAndType 17 18), (0, u "coder"), (0, u "B"), (2, u "hash"), (0, u "I"), (2, u "hashIsZero"), (0, u "Z"), (0, .methodref 10 28), (0, .nameAndType 5 29), (0, u "([CIILjava/lang/Void;)V"), (8, .fieldref 10 39), (0, .nameAndType 40 26), (0, u "COMPACT_STRINGS"), (1, .class_ 44), (1, u "java/lang/StringUTF16"), (0, u "compress"), (1, .methodref 42 48), (0, .nameAndType 49 50), (0, u "coderFromArrayLen"), (0, u "([BI)B"), (126, .methodref 42 178), (0, .nameAndType 45 179), (0, u "([CII)[B"), (363, u "equals"), (29, u "(Ljava/lang/Object;)Z"), (1, .class_ 576), (0, u "java/lang/CharSequence"), (22, u "CASE_INSENSITIVE_ORDER"), (0, u "Ljava/util/Comparator;"), (409, u "([C)V"), (90, u "serialPersistentFields"), (0, u "[Ljava/io/ObjectStreamField;"), (0, .class_ 1104), (0, u "java/lang/String$CaseInsensitiveComparator"), (1, .class_ 1107), (0, u "java/io/Serializable"), (0, .class_ 1109), (0, u "java/lang/Comparable"), (0, .class_ 1111), (0, u "java/lang/constant/Constable"), (0, .class_ 1113), (0, u "java/lang/constant/ConstantDesc"), (2, u "serialVersionUID"), (0, u "J"), (3, u "REPL"), (0, u "C"), (2, u "LATIN1"), (1, u "UTF16")] 323

def k7m0 : Method := { name := "<init>", desc := "()V", sig := { parameters := [], returnType := none }, accessFlags := 1, code := none }
def k7c1 : Code := { maxStack := 5, maxLocals := 2, code := jdk_42_method_3_code, exceptionTable := #[], attributes := #[] }
def k7m1 : Method := { name := "<init>", desc := "([C)V", sig := { parameters := [(.array .char)], returnType := none }, accessFlags := 1, code := some k7c1 }
def k7c2 : Code := { maxStack := 2, maxLocals := 3, code := jdk_42_method_66_code, exceptionTable := #[], attributes := #[] }
def k7m2 : Method := { name := "equals", desc := "(Ljava/lang/Object;)Z", sig := { parameters := [(.object "java/lang/Object")], returnType := some .boolean }, accessFlags := 1, code := some k7c2 }
def k7c3 : Code := { maxStack := 4, maxLocals := 6, code := jdk_42_method_149_code, exceptionTable := #[], attributes := #[] }
def k7m3 : Method := { name := "<init>", desc := "([CIILjava/lang/Void;)V", sig := { parameters := [(.array .char), .int, .int, (.object "java/lang/Void")], returnType := none }, accessFlags := 2, code := some k7c3 }
/-- java/lang/String -/
def k7 : Class := { plain "java/lang/String" (some 0) with
  accessFlags := 49
  interfaces := #[2, 3, 4, 5, 6]
  cf := some (fileOf pool7 10 #[.nestMembers #[1103]] #[{ accessFlags := 1, nameIndex := 5, descriptorIndex := 6, attributes := #[] }, { accessFlags := 1, nameIndex := 5, descriptorIndex := 1010, attributes := #[] }, { accessFlags := 1, nameIndex := 543, descriptorIndex := 573, attributes := #[] }, { accessFlags := 2, nameIndex := 5, descriptorIndex := 29, attributes := #[] }] 49 2 #[1106, 1108, 575, 1110, 1112] #[{ accessFlags := 18, nameIndex := 13, descriptorIndex := 14, attributes := #[] }, { accessFlags := 18, nameIndex := 17, descriptorIndex := 18, attributes := #[] }, { accessFlags := 2, nameIndex := 21, descriptorIndex := 22, attributes := #[] }, { accessFlags := 2, nameIndex := 25, descriptorIndex := 26, attributes := #[] }, { accessFlags := 26, nameIndex := 1116, descriptorIndex := 1117, attributes := #[] }, { accessFlags := 24, nameIndex := 40, descriptorIndex := 26, attributes := #[] }, { accessFlags := 26, nameIndex := 1101, descriptorIndex := 1102, attributes := #[] }, { accessFlags := 26, nameIndex := 1121, descriptorIndex := 1122, attributes := #[] }, { accessFlags := 25, nameIndex := 599, descriptorIndex := 600, attributes := #[] }, { accessFlags := 24, nameIndex := 1125, descriptorIndex := 18, attributes := #[] }, { accessFlags := 24, nameIndex := 1127, descriptorIndex := 18, attributes := #[] }])
  fields := #[{ name := "value", type := (.array .byte), accessFlags := 18, slot := 0, constantValue := 0 }, { name := "coder", type := .byte, accessFlags := 18, slot := 1, constantValue := 0 }, { name := "hash", type := .int, accessFlags := 2, slot := 2, constantValue := 0 }, { name := "hashIsZero", type := .boolean, accessFlags := 2, slot := 3, constantValue := 0 }, { name := "serialVersionUID", type := .long, accessFlags := 26, slot := 0, constantValue := 0 }, { name := "COMPACT_STRINGS", type := .boolean, accessFlags := 24, slot := 1, constantValue := 0 }, { name := "serialPersistentFields", type := (.array (.object "java/io/ObjectStreamField")), accessFlags := 26, slot := 2, constantValue := 0 }, { name := "REPL", type := .char, accessFlags := 26, slot := 3, constantValue := 0 }, { name := "CASE_INSENSITIVE_ORDER", type := (.object "java/util/Comparator"), accessFlags := 25, slot := 4, constantValue := 0 }, { name := "LATIN1", type := .byte, accessFlags := 24, slot := 5, constantValue := 0 }, { name := "UTF16", type := .byte, accessFlags := 24, slot := 6, constantValue := 0 }]
  methods := #[k7m0, k7m1, k7m2, k7m3]
  instanceTypes := #[(.array .byte), .byte, .int, .boolean]
  staticTypes := #[.long, .boolean, (.array (.object "java/io/ObjectStreamField")), .char, (.object "java/util/Comparator"), .byte, .byte]
  resolved := Array.replicate 1451 none
  statics := some 0 }

def pool8 : Array CpInfo := pool [(6, .class_ 8), (1, u "java/lang/Object"), (0, u "<init>"), (0, u "()V"), (1, .class_ 14), (1, u "java/lang/StringUTF16"), (31, u "$assertionsDisabled"), (0, u "Z"), (13, u "HI_BYTE_SHIFT"), (0, u "I"), (2, u "LO_BYTE_SHIFT"), (49, .methodref 12 116), (0, .nameAndType 117 118), (0, u "compress"), (0, u "([CI[BII)I"), (3, u "([CII)[B"), (138, u "coderFromArrayLen"), (0, u "([BI)B"), (106, .class_ 371), (1, u "java/lang/StringUTF16$LinesSpliterator"), (58, u "MAX_LENGTH"), (196, .class_ 628), (0, u "java/lang/StringUTF16$CodePointsSpliterator"), (0, .class_ 630), (0, u "java/lang/StringUTF16$CharsSpliterator")] 4

def k8m0 : Method := { name := "<init>", desc := "()V", sig := { parameters := [], returnType := none }, accessFlags := 0, code := none }
def k8c1 : Code := { maxStack := 2, maxLocals := 2, code := jdk_52_method_15_code, exceptionTable := #[], attributes := #[] }
def k8m1 : Method := { name := "coderFromArrayLen", desc := "([BI)B", sig := { parameters := [(.array .byte), .int], returnType := some .byte }, accessFlags := 8, code := some k8c1 }
def k8c2 : Code := { maxStack := 5, maxLocals := 6, code := jdk_52_method_16_code, exceptionTable := #[], attributes := #[] }
def k8m2 : Method := { name := "compress", desc := "([CII)[B", sig := { parameters := [(.array .char), .int, .int], returnType := some (.array .byte) }, accessFlags := 9, code := some k8c2 }
def k8c3 : Code := { maxStack := 3, maxLocals := 7, code := jdk_52_method_21_code, exceptionTable := #[], attributes := #[] }
def k8m3 : Method := { name := "compress", desc := "([CI[BII)I", sig := { parameters := [(.array .char), .int, (.array .byte), .int, .int], returnType := some .int }, accessFlags := 9, code := some k8c3 }
/-- java/lang/StringUTF16 -/
def k8 : Class := { plain "java/lang/StringUTF16" (some 0) with
  accessFlags := 48
  interfaces := #[]
  cf := some (fileOf pool8 12 #[.nestMembers #[627, 629, 369]] #[{ accessFlags := 0, nameIndex := 9, descriptorIndex := 10, attributes := #[] }, { accessFlags := 8, nameIndex := 261, descriptorIndex := 262, attributes := #[] }, { accessFlags := 9, nameIndex := 117, descriptorIndex := 122, attributes := #[] }, { accessFlags := 9, nameIndex := 117, descriptorIndex := 118, attributes := #[] }] 48 6 #[] #[{ accessFlags := 26, nameIndex := 61, descriptorIndex := 62, attributes := #[] }, { accessFlags := 26, nameIndex := 65, descriptorIndex := 62, attributes := #[] }, { accessFlags := 24, nameIndex := 430, descriptorIndex := 62, attributes := #[] }, { accessFlags := 4120, nameIndex := 46, descriptorIndex := 47, attributes := #[] }])
  fields := #[{ name := "HI_BYTE_SHIFT", type := .int, accessFlags := 26, slot := 0, constantValue := 0 }, { name := "LO_BYTE_SHIFT", type := .int, accessFlags := 26, slot := 1, constantValue := 0 }, { name := "MAX_LENGTH", type := .int, accessFlags := 24, slot := 2, constantValue := 0 }, { name := "$assertionsDisabled", type := .boolean, accessFlags := 4120, slot := 3, constantValue := 0 }]
  methods := #[k8m0, k8m1, k8m2, k8m3]
  instanceTypes := #[]
  staticTypes := #[.int, .int, .int, .boolean]
  resolved := Array.replicate 635 none
  statics := none }

def pool9 : Array CpInfo := pool [(1, .methodref 2 3), (0, .class_ 4), (0, .nameAndType 5 6), (0, u "java/lang/Object"), (0, u "<init>"), (0, u "()V"), (0, .fieldref 8 9), (0, .class_ 10), (0, .nameAndType 11 12), (0, u "java/lang/Throwable"), (0, u "cause"), (0, u "Ljava/lang/Throwable;"), (0, .fieldref 8 14), (0, .nameAndType 15 16), (0, u "UNASSIGNED_STACK"), (0, u "[Ljava/lang/StackTraceElement;"), (0, .fieldref 8 18), (0, .nameAndType 19 16), (0, u "stackTrace"), (0, .fieldref 8 21), (0, .nameAndType 22 23), (0, u "SUPPRESSED_SENTINEL"), (0, u "Ljava/util/List;"), (0, .fieldref 8 25), (0, .nameAndType 26 23), (0, u "suppressedExceptions"), (0, .methodref 8 28), (0, .nameAndType 29 30), (0, u "fillInStackTrace"), (0, u "()Ljava/lang/Throwable;"), (0, .fieldref 8 32), (0, .nameAndType 33 34), (0, u "detailMessage"), (0, u "Ljava/lang/String;"), (3, u "()Ljava/lang/String;"), (2, u "getMessage"), (21, u "(Ljava/lang/String;Ljava/lang/Throwable;)V"), (29, .class_ 94), (0, u "java/lang/Throwable$WrappedPrintStream"), (6, .class_ 103), (1, u "java/lang/Throwable$PrintStreamOrWriter"), (54, u "getCause"), (6, u "$assertionsDisabled"), (0, u "Z"), (26, .class_ 194), (0, u "java/lang/Throwable$WrappedPrintWriter"), (3, .fieldref 8 199), (0, .nameAndType 200 201), (0, u "backtrace"), (0, u "Ljava/lang/Object;"), (0, .methodref 8 203), (0, .nameAndType 29 204), (0, u "(I)Ljava/lang/Throwable;"), (6, u "depth"), (0, u "I"), (56, .class_ 271), (1, u "java/lang/Throwable$SentinelHolder"), (32, u "EMPTY_THROWABLE_ARRAY"), (0, u "[Ljava/lang/Throwable;"), (12, .class_ 319), (0, u "java/io/Serializable"), (0, u "serialVersionUID"), (0, u "J"), (5, u "NULL_CAUSE_MESSAGE"), (0, u "SELF_SUPPRESSION_MESSAGE"), (0, u "CAUSE_CAPTION"), (0, u "SUPPRESSED_CAPTION")] 73

def k9c0 : Code := { maxStack := 2, maxLocals := 1, code := jdk_78_method_1_code, exceptionTable := #[], attributes := #[] }
def k9m0 : Method := { name := "<init>", desc := "()V", sig := { parameters := [], returnType := none }, accessFlags := 1, code := some k9c0 }
def k9c1 : Code := { maxStack := 2, maxLocals := 3, code := jdk_78_method_3_code, exceptionTable := #[], attributes := #[] }
def k9m1 : Method := { name := "<init>", desc := "(Ljava/lang/String;Ljava/lang/Throwable;)V", sig := { parameters := [(.object "java/lang/String"), (.object "java/lang/Throwable")], returnType := none }, accessFlags := 1, code := some k9c1 }
def k9c2 : Code := { maxStack := 1, maxLocals := 1, code := jdk_78_method_6_code, exceptionTable := #[], attributes := #[] }
def k9m2 : Method := { name := "getMessage", desc := "()Ljava/lang/String;", sig := { parameters := [], returnType := some (.object "java/lang/String") }, accessFlags := 1, code := some k9c2 }
def k9c3 : Code := { maxStack := 2, maxLocals := 1, code := ⟨#[0x2a, 0xb4, 0x00, 0x07, 0x2a, 0xa6, 0x00, 0x07, 0x01, 0xa7, 0x00, 0x07, 0x2a, 0xb4, 0x00, 0x07, 0xb0]⟩, exceptionTable := #[], attributes := #[] }
def k9m3 : Method := { name := "getCause", desc := "()Ljava/lang/Throwable;", sig := { parameters := [], returnType := some (.object "java/lang/Throwable") }, accessFlags := 33, code := some k9c3 }
def k9c4 : Code := { maxStack := 2, maxLocals := 1, code := ⟨#[0x2a, 0xb4, 0x00, 0x11, 0xc7, 0x00, 0x0a, 0x2a, 0xb4, 0x00, 0xc6, 0xc6, 0x00, 0x10, 0x2a, 0x03, 0xb6, 0x00, 0xca, 0x57, 0x2a, 0xb2, 0x00, 0x0d, 0xb5, 0x00, 0x11, 0x2a, 0xb0]⟩, exceptionTable := #[], attributes := #[] }
def k9m4 : Method := { name := "fillInStackTrace", desc := "()Ljava/lang/Throwable;", sig := { parameters := [], returnType := some (.object "java/lang/Throwable") }, accessFlags := 33, code := some k9c4 }
def k9m5 : Method := { name := "fillInStackTrace", desc := "(I)Ljava/lang/Throwable;", sig := { parameters := [.int], returnType := some (.object "java/lang/Throwable") }, accessFlags := 258, code := none }
/-- java/lang/Throwable -/
def k9 : Class := { plain "java/lang/Throwable" (some 0) with
  accessFlags := 33
  interfaces := #[2]
  cf := some (fileOf pool9 8 #[.nestMembers #[193, 93, 101, 269]] #[{ accessFlags := 1, nameIndex := 5, descriptorIndex := 6, attributes := #[] }, { accessFlags := 1, nameIndex := 5, descriptorIndex := 63, attributes := #[] }, { accessFlags := 1, nameIndex := 41, descriptorIndex := 38, attributes := #[] }, { accessFlags := 33, nameIndex := 158, descriptorIndex := 30, attributes := #[] }, { accessFlags := 33, nameIndex := 29, descriptorIndex := 30, attributes := #[] }, { accessFlags := 258, nameIndex := 29, descriptorIndex := 204, attributes := #[] }] 33 2 #[318] #[{ accessFlags := 26, nameIndex := 320, descriptorIndex := 321, attributes := #[] }, { accessFlags := 130, nameIndex := 200, descriptorIndex := 201, attributes := #[] }, { accessFlags := 2, nameIndex := 33, descriptorIndex := 34, attributes := #[] }, { accessFlags := 26, nameIndex := 15, descriptorIndex := 16, attributes := #[] }, { accessFlags := 2, nameIndex := 11, descriptorIndex := 12, attributes := #[] }, { accessFlags := 2, nameIndex := 19, descriptorIndex := 16, attributes := #[] }, { accessFlags := 130, nameIndex := 211, descriptorIndex := 212, attributes := #[] }, { accessFlags := 26, nameIndex := 22, descriptorIndex := 23, attributes := #[] }, { accessFlags := 2, nameIndex := 26, descriptorIndex := 23, attributes := #[] }, { accessFlags := 26, nameIndex := 327, descriptorIndex := 34, attributes := #[] }, { accessFlags := 26, nameIndex := 328, descriptorIndex := 34, attributes := #[] }, { accessFlags := 26, nameIndex := 329, descriptorIndex := 34, attributes := #[] }, { accessFlags := 26, nameIndex := 330, descriptorIndex := 34, attributes := #[] }, { accessFlags := 26, nameIndex := 304, descriptorIndex := 305, attributes := #[] }, { accessFlags := 4120, nameIndex := 165, descriptorIndex := 166, attributes := #[] }])
  fields := #[{ name := "serialVersionUID", type := .long, accessFlags := 26, slot := 0, constantValue := 0 }, { name := "backtrace", type := (.object "java/lang/Object"), accessFlags := 130, slot := 0, constantValue := 0 }, { name := "detailMessage", type := (.object "java/lang/String"), accessFlags := 2, slot := 1, constantValue := 0 }, { name := "UNASSIGNED_STACK", type := (.array (.object "java/lang/StackTraceElement")), accessFlags := 26, slot := 1, constantValue := 0 }, { name := "cause", type := (.object "java/lang/Throwable"), accessFlags := 2, slot := 2, constantValue := 0 }, { name := "stackTrace", type := (.array (.object "java/lang/StackTraceElement")), accessFlags := 2, slot := 3, constantValue := 0 }, { name := "depth", type := .int, accessFlags := 130, slot := 4, constantValue := 0 }, { name := "SUPPRESSED_SENTINEL", type := (.object "java/util/List"), accessFlags := 26, slot := 2, constantValue := 0 }, { name := "suppressedExceptions", type := (.object "java/util/List"), accessFlags := 2, slot := 5, constantValue := 0 }, { name := "NULL_CAUSE_MESSAGE", type := (.object "java/lang/String"), accessFlags := 26, slot := 3, constantValue := 0 }, { name := "SELF_SUPPRESSION_MESSAGE", type := (.object "java/lang/String"), accessFlags := 26, slot := 4, constantValue := 0 }, { name := "CAUSE_CAPTION", type := (.object "java/lang/String"), accessFlags := 26, slot := 5, constantValue := 0 }, { name := "SUPPRESSED_CAPTION", type := (.object "java/lang/String"), accessFlags := 26, slot := 6, constantValue := 0 }, { name := "EMPTY_THROWABLE_ARRAY", type := (.array (.object "java/lang/Throwable")), accessFlags := 26, slot := 7, constantValue := 0 }, { name := "$assertionsDisabled", type := .boolean, accessFlags := 4120, slot := 8, constantValue := 0 }]
  methods := #[k9m0, k9m1, k9m2, k9m3, k9m4, k9m5]
  instanceTypes := #[(.object "java/lang/Object"), (.object "java/lang/String"), (.object "java/lang/Throwable"), (.array (.object "java/lang/StackTraceElement")), .int, (.object "java/util/List")]
  staticTypes := #[.long, (.array (.object "java/lang/StackTraceElement")), (.object "java/util/List"), (.object "java/lang/String"), (.object "java/lang/String"), (.object "java/lang/String"), (.object "java/lang/String"), (.array (.object "java/lang/Throwable")), .boolean]
  resolved := Array.replicate 404 none
  statics := some 1 }

def pool10 : Array CpInfo := pool [(2, .class_ 4), (1, u "java/lang/Throwable"), (0, u "<init>"), (0, u "()V"), (3, .methodref 2 11), (0, .nameAndType 5 12), (0, u "(Ljava/lang/String;Ljava/lang/Throwable;)V"), (6, .class_ 20), (0, u "java/lang/Exception"), (0, u "serialVersionUID"), (0, u "J")] 17

def k10m0 : Method := { name := "<init>", desc := "()V", sig := { parameters := [], returnType := none }, accessFlags := 1, code := none }
def k10c1 : Code := { maxStack := 3, maxLocals := 3, code := jdk_59_method_3_code, exceptionTable := #[], attributes := #[] }
def k10m1 : Method := { name := "<init>", desc := "(Ljava/lang/String;Ljava/lang/Throwable;)V", sig := { parameters := [(.object "java/lang/String"), (.object "java/lang/Throwable")], returnType := none }, accessFlags := 1, code := some k10c1 }
/-- java/lang/Exception -/
def k10 : Class := { plain "java/lang/Exception" (some 9) with
  accessFlags := 33
  interfaces := #[]
  cf := some (fileOf pool10 19 #[] #[{ accessFlags := 1, nameIndex := 5, descriptorIndex := 6, attributes := #[] }, { accessFlags := 1, nameIndex := 5, descriptorIndex := 12, attributes := #[] }] 33 2 #[] #[{ accessFlags := 24, nameIndex := 21, descriptorIndex := 22, attributes := #[] }])
  fields := #[{ name := "serialVersionUID", type := .long, accessFlags := 24, slot := 0, constantValue := 0 }]
  methods := #[k10m0, k10m1]
  instanceTypes := #[(.object "java/lang/Object"), (.object "java/lang/String"), (.object "java/lang/Throwable"), (.array (.object "java/lang/StackTraceElement")), .int, (.object "java/util/List")]
  staticTypes := #[.long]
  resolved := Array.replicate 40 none
  statics := none }

def pool11 : Array CpInfo := pool [(1, .methodref 2 3), (0, .class_ 4), (0, .nameAndType 5 6), (0, u "java/lang/Exception"), (0, u "<init>"), (0, u "(Ljava/lang/String;Ljava/lang/Throwable;)V"), (0, .fieldref 8 9), (0, .class_ 10), (0, .nameAndType 11 12), (0, u "com/example/fanoutd/fanoutd/delivery/DeliveryException"), (0, u "retryable"), (0, u "Z"), (0, .fieldref 8 14), (0, .nameAndType 15 16), (0, u "retryAfter"), (0, u "Ljava/time/Duration;"), (0, .methodref 8 18), (0, .nameAndType 5 19), (0, u "(Ljava/lang/String;ZLjava/time/Duration;Ljava/lang/Throwable;)V"), (0, .fieldref 21 22), (0, .class_ 23), (0, .nameAndType 24 16), (0, u "java/time/Duration"), (0, u "ZERO"), (0, u "serialVersionUID"), (0, u "J"), (6, u "refused"), (0, u "(Ljava/lang/String;)Lcom/example/fanoutd/fanoutd/delivery/DeliveryException;"), (0, u "isRetryable"), (0, u "()Z"), (0, u "()Ljava/time/Duration;")] 2

def k11c0 : Code := { maxStack := 3, maxLocals := 5, code := prog_7_method_1_code, exceptionTable := #[], attributes := #[] }
def k11m0 : Method := { name := "<init>", desc := "(Ljava/lang/String;ZLjava/time/Duration;Ljava/lang/Throwable;)V", sig := { parameters := [(.object "java/lang/String"), .boolean, (.object "java/time/Duration"), (.object "java/lang/Throwable")], returnType := none }, accessFlags := 2, code := some k11c0 }
def k11c1 : Code := { maxStack := 6, maxLocals := 1, code := prog_7_method_3_code, exceptionTable := #[], attributes := #[] }
def k11m1 : Method := { name := "refused", desc := "(Ljava/lang/String;)Lcom/example/fanoutd/fanoutd/delivery/DeliveryException;", sig := { parameters := [(.object "java/lang/String")], returnType := some (.object "com/example/fanoutd/fanoutd/delivery/DeliveryException") }, accessFlags := 9, code := some k11c1 }
def k11c2 : Code := { maxStack := 1, maxLocals := 1, code := prog_7_method_4_code, exceptionTable := #[], attributes := #[] }
def k11m2 : Method := { name := "isRetryable", desc := "()Z", sig := { parameters := [], returnType := some .boolean }, accessFlags := 1, code := some k11c2 }
def k11c3 : Code := { maxStack := 1, maxLocals := 1, code := prog_7_method_5_code, exceptionTable := #[], attributes := #[] }
def k11m3 : Method := { name := "retryAfter", desc := "()Ljava/time/Duration;", sig := { parameters := [], returnType := some (.object "java/time/Duration") }, accessFlags := 1, code := some k11c3 }
/-- com/example/fanoutd/fanoutd/delivery/DeliveryException -/
def k11 : Class := { plain "com/example/fanoutd/fanoutd/delivery/DeliveryException" (some 10) with
  accessFlags := 49
  interfaces := #[]
  cf := some (fileOf pool11 8 #[] #[{ accessFlags := 2, nameIndex := 5, descriptorIndex := 19, attributes := #[] }, { accessFlags := 9, nameIndex := 33, descriptorIndex := 34, attributes := #[] }, { accessFlags := 1, nameIndex := 35, descriptorIndex := 36, attributes := #[] }, { accessFlags := 1, nameIndex := 15, descriptorIndex := 37, attributes := #[] }] 49 2 #[] #[{ accessFlags := 26, nameIndex := 25, descriptorIndex := 26, attributes := #[] }, { accessFlags := 18, nameIndex := 11, descriptorIndex := 12, attributes := #[] }, { accessFlags := 18, nameIndex := 15, descriptorIndex := 16, attributes := #[] }])
  fields := #[{ name := "serialVersionUID", type := .long, accessFlags := 26, slot := 0, constantValue := 0 }, { name := "retryable", type := .boolean, accessFlags := 18, slot := 6, constantValue := 0 }, { name := "retryAfter", type := (.object "java/time/Duration"), accessFlags := 18, slot := 7, constantValue := 0 }]
  methods := #[k11m0, k11m1, k11m2, k11m3]
  instanceTypes := #[(.object "java/lang/Object"), (.object "java/lang/String"), (.object "java/lang/Throwable"), (.array (.object "java/lang/StackTraceElement")), .int, (.object "java/util/List"), .boolean, (.object "java/time/Duration")]
  staticTypes := #[.long]
  resolved := Array.replicate 40 none
  statics := none }

def pool12 : Array CpInfo := pool [(1, .class_ 2), (0, u "java/time/temporal/TemporalAmount"), (0, .class_ 4), (0, u "java/lang/Object")] 11

/-- java/time/temporal/TemporalAmount -/
def k12 : Class := { plain "java/time/temporal/TemporalAmount" (some 0) with
  accessFlags := 1537
  interfaces := #[]
  cf := some (fileOf pool12 1 #[] #[] 1537 3 #[] #[])
  fields := #[]
  methods := #[]
  instanceTypes := #[]
  staticTypes := #[]
  resolved := Array.replicate 16 none
  statics := none }

def pool13 : Array CpInfo := pool [(11, .class_ 13), (1, u "java/time/Duration"), (20, u "ZERO"), (0, u "Ljava/time/Duration;"), (13, .class_ 51), (1, u "java/time/temporal/TemporalAmount"), (13, u "()Z"), (13, .class_ 81), (1, u "java/time/Duration$Lazy"), (35, u "seconds"), (101, .class_ 220), (0, u "java/lang/Object"), (0, .fieldref 11 222), (0, .nameAndType 117 223), (0, u "J"), (0, .fieldref 11 225), (0, .nameAndType 226 227), (0, u "nanos"), (0, u "I"), (11, .class_ 241), (1, u "java/time/Duration$DurationUnits"), (27, .class_ 271), (1, u "java/time/Duration$1"), (91, u "BI_NANOS_PER_SECOND"), (0, u "Ljava/math/BigInteger;"), (120, .class_ 486), (0, u "java/lang/Comparable"), (0, .class_ 488), (0, u "java/io/Serializable"), (0, u "serialVersionUID"), (66, u "isZero")] 99

def k13c0 : Code := { maxStack := 4, maxLocals := 1, code := jdk_2316_method_21_code, exceptionTable := #[], attributes := #[] }
def k13m0 : Method := { name := "isZero", desc := "()Z", sig := { parameters := [], returnType := some .boolean }, accessFlags := 1, code := some k13c0 }
/-- java/time/Duration -/
def k13 : Class := { plain "java/time/Duration" (some 0) with
  accessFlags := 49
  interfaces := #[12, 3, 2]
  cf := some (fileOf pool13 11 #[.nestMembers #[269, 239, 79]] #[{ accessFlags := 1, nameIndex := 556, descriptorIndex := 65, attributes := #[] }] 49 219 #[49, 485, 487] #[{ accessFlags := 25, nameIndex := 34, descriptorIndex := 35, attributes := #[] }, { accessFlags := 26, nameIndex := 489, descriptorIndex := 223, attributes := #[] }, { accessFlags := 26, nameIndex := 363, descriptorIndex := 364, attributes := #[] }, { accessFlags := 18, nameIndex := 117, descriptorIndex := 223, attributes := #[] }, { accessFlags := 18, nameIndex := 226, descriptorIndex := 227, attributes := #[] }])
  fields := #[{ name := "ZERO", type := (.object "java/time/Duration"), accessFlags := 25, slot := 0, constantValue := 0 }, { name := "serialVersionUID", type := .long, accessFlags := 26, slot := 1, constantValue := 0 }, { name := "BI_NANOS_PER_SECOND", type := (.object "java/math/BigInteger"), accessFlags := 26, slot := 2, constantValue := 0 }, { name := "seconds", type := .long, accessFlags := 18, slot := 0, constantValue := 0 }, { name := "nanos", type := .int, accessFlags := 18, slot := 1, constantValue := 0 }]
  methods := #[k13m0]
  instanceTypes := #[.long, .int]
  staticTypes := #[(.object "java/time/Duration"), .long, (.object "java/math/BigInteger")]
  resolved := Array.replicate 656 none
  statics := some 2 }

def pool14 : Array CpInfo := pool [(4, .class_ 6), (1, u "java/lang/Object"), (0, u "<init>"), (0, u "()V"), (5, .class_ 16), (1, u "java/lang/StringLatin1"), (104, u "$assertionsDisabled"), (0, u "Z"), (98, .class_ 223), (1, u "java/lang/StringLatin1$LinesSpliterator"), (166, .class_ 391), (0, u "java/lang/StringLatin1$CharsSpliterator")] 3

def k14m0 : Method := { name := "<init>", desc := "()V", sig := { parameters := [], returnType := none }, accessFlags := 0, code := none }
/-- java/lang/StringLatin1 -/
def k14 : Class := { plain "java/lang/StringLatin1" (some 0) with
  accessFlags := 48
  interfaces := #[]
  cf := some (fileOf pool14 14 #[.nestMembers #[390, 221]] #[{ accessFlags := 0, nameIndex := 7, descriptorIndex := 8, attributes := #[] }] 48 4 #[] #[{ accessFlags := 4120, nameIndex := 121, descriptorIndex := 122, attributes := #[] }])
  fields := #[{ name := "$assertionsDisabled", type := .boolean, accessFlags := 4120, slot := 0, constantValue := 0 }]
  methods := #[k14m0]
  instanceTypes := #[]
  staticTypes := #[.boolean]
  resolved := Array.replicate 395 none
  statics := none }

def pool15 : Array CpInfo := pool [(2, .class_ 4), (1, u "java/lang/Object"), (0, u "<init>"), (0, u "()V"), (17, .class_ 26), (1, u "jdk/internal/util/Preconditions"), (28, .class_ 56), (0, u "jdk/internal/util/Preconditions$4"), (57, .class_ 115), (0, u "jdk/internal/util/Preconditions$1"), (7, u "SIOOBE_FORMATTER"), (0, u "Ljava/util/function/BiFunction;"), (0, .class_ 126), (0, u "jdk/internal/util/Preconditions$2"), (3, u "AIOOBE_FORMATTER"), (0, .class_ 132), (0, u "jdk/internal/util/Preconditions$3"), (3, u "IOOBE_FORMATTER")] 57

def k15m0 : Method := { name := "<init>", desc := "()V", sig := { parameters := [], returnType := none }, accessFlags := 1, code := none }
/-- jdk/internal/util/Preconditions -/
def k15 : Class := { plain "jdk/internal/util/Preconditions" (some 0) with
  accessFlags := 33
  interfaces := #[]
  cf := some (fileOf pool15 24 #[.nestMembers #[55, 131, 125, 114]] #[{ accessFlags := 1, nameIndex := 5, descriptorIndex := 6, attributes := #[] }] 33 2 #[] #[{ accessFlags := 25, nameIndex := 123, descriptorIndex := 124, attributes := #[] }, { accessFlags := 25, nameIndex := 130, descriptorIndex := 124, attributes := #[] }, { accessFlags := 25, nameIndex := 136, descriptorIndex := 124, attributes := #[] }])
  fields := #[{ name := "SIOOBE_FORMATTER", type := (.object "java/util/function/BiFunction"), accessFlags := 25, slot := 0, constantValue := 0 }, { name := "AIOOBE_FORMATTER", type := (.object "java/util/function/BiFunction"), accessFlags := 25, slot := 1, constantValue := 0 }, { name := "IOOBE_FORMATTER", type := (.object "java/util/function/BiFunction"), accessFlags := 25, slot := 2, constantValue := 0 }]
  methods := #[k15m0]
  instanceTypes := #[]
  staticTypes := #[(.object "java/util/function/BiFunction"), (.object "java/util/function/BiFunction"), (.object "java/util/function/BiFunction")]
  resolved := Array.replicate 194 none
  statics := some 3 }

def pool16 : Array CpInfo := pool [(9, u "<init>"), (6, .class_ 18), (1, u "java/lang/Object"), (0, u "()V"), (1, .class_ 23), (1, u "jdk/internal/util/ArraysSupport"), (0, u "LOG2_ARRAY_LONG_INDEX_SCALE"), (0, u "I"), (2, u "U"), (0, u "Ljdk/internal/misc/Unsafe;"), (8, u "BIG_ENDIAN"), (0, u "Z"), (8, u "LOG2_BYTE_BIT_SIZE"), (4, u "LOG2_ARRAY_INT_INDEX_SCALE"), (54, u "JLA"), (0, u "Ljdk/internal/access/JavaLangAccess;"), (11, u "LOG2_ARRAY_BOOLEAN_INDEX_SCALE"), (9, u "LOG2_ARRAY_BYTE_INDEX_SCALE"), (5, u "LOG2_ARRAY_CHAR_INDEX_SCALE"), (5, u "LOG2_ARRAY_SHORT_INDEX_SCALE"), (18, u "LOG2_ARRAY_FLOAT_INDEX_SCALE"), (24, u "LOG2_ARRAY_DOUBLE_INDEX_SCALE"), (89, u "T_BOOLEAN"), (2, u "T_CHAR"), (1, u "T_FLOAT"), (1, u "T_DOUBLE"), (1, u "T_BYTE"), (1, u "T_SHORT"), (1, u "T_INT"), (1, u "T_LONG"), (1, u "SOFT_MAX_ARRAY_LENGTH")] 83

def k16m0 : Method := { name := "<init>", desc := "()V", sig := { parameters := [], returnType := none }, accessFlags := 2, code := none }
/-- jdk/internal/util/ArraysSupport -/
def k16 : Class := { plain "jdk/internal/util/ArraysSupport" (some 0) with
  accessFlags := 33
  interfaces := #[]
  cf := some (fileOf pool16 21 #[] #[{ accessFlags := 2, nameIndex := 9, descriptorIndex := 19, attributes := #[] }] 33 16 #[] #[{ accessFlags := 24, nameIndex := 28, descriptorIndex := 29, attributes := #[] }, { accessFlags := 26, nameIndex := 38, descriptorIndex := 39, attributes := #[] }, { accessFlags := 25, nameIndex := 121, descriptorIndex := 25, attributes := #[] }, { accessFlags := 25, nameIndex := 131, descriptorIndex := 25, attributes := #[] }, { accessFlags := 25, nameIndex := 137, descriptorIndex := 25, attributes := #[] }, { accessFlags := 25, nameIndex := 143, descriptorIndex := 25, attributes := #[] }, { accessFlags := 25, nameIndex := 53, descriptorIndex := 25, attributes := #[] }, { accessFlags := 25, nameIndex := 24, descriptorIndex := 25, attributes := #[] }, { accessFlags := 25, nameIndex := 162, descriptorIndex := 25, attributes := #[] }, { accessFlags := 25, nameIndex := 187, descriptorIndex := 25, attributes := #[] }, { accessFlags := 26, nameIndex := 48, descriptorIndex := 25, attributes := #[] }, { accessFlags := 25, nameIndex := 277, descriptorIndex := 25, attributes := #[] }, { accessFlags := 25, nameIndex := 280, descriptorIndex := 25, attributes := #[] }, { accessFlags := 25, nameIndex := 282, descriptorIndex := 25, attributes := #[] }, { accessFlags := 25, nameIndex := 284, descriptorIndex := 25, attributes := #[] }, { accessFlags := 25, nameIndex := 286, descriptorIndex := 25, attributes := #[] }, { accessFlags := 25, nameIndex := 288, descriptorIndex := 25, attributes := #[] }, { accessFlags := 25, nameIndex := 290, descriptorIndex := 25, attributes := #[] }, { accessFlags := 25, nameIndex := 292, descriptorIndex := 25, attributes := #[] }, { accessFlags := 26, nameIndex := 108, descriptorIndex := 109, attributes := #[] }, { accessFlags := 25, nameIndex := 294, descriptorIndex := 25, attributes := #[] }])
  fields := #[{ name := "U", type := (.object "jdk/internal/misc/Unsafe"), accessFlags := 24, slot := 0, constantValue := 0 }, { name := "BIG_ENDIAN", type := .boolean, accessFlags := 26, slot := 1, constantValue := 0 }, { name := "LOG2_ARRAY_BOOLEAN_INDEX_SCALE", type := .int, accessFlags := 25, slot := 2, constantValue := 0 }, { name := "LOG2_ARRAY_BYTE_INDEX_SCALE", type := .int, accessFlags := 25, slot := 3, constantValue := 0 }, { name := "LOG2_ARRAY_CHAR_INDEX_SCALE", type := .int, accessFlags := 25, slot := 4, constantValue := 0 }, { name := "LOG2_ARRAY_SHORT_INDEX_SCALE", type := .int, accessFlags := 25, slot := 5, constantValue := 0 }, { name := "LOG2_ARRAY_INT_INDEX_SCALE", type := .int, accessFlags := 25, slot := 6, constantValue := 0 }, { name := "LOG2_ARRAY_LONG_INDEX_SCALE", type := .int, accessFlags := 25, slot := 7, constantValue := 0 }, { name := "LOG2_ARRAY_FLOAT_INDEX_SCALE", type := .int, accessFlags := 25, slot := 8, constantValue := 0 }, { name := "LOG2_ARRAY_DOUBLE_INDEX_SCALE", type := .int, accessFlags := 25, slot := 9, constantValue := 0 }, { name := "LOG2_BYTE_BIT_SIZE", type := .int, accessFlags := 26, slot := 10, constantValue := 0 }, { name := "T_BOOLEAN", type := .int, accessFlags := 25, slot := 11, constantValue := 0 }, { name := "T_CHAR", type := .int, accessFlags := 25, slot := 12, constantValue := 0 }, { name := "T_FLOAT", type := .int, accessFlags := 25, slot := 13, constantValue := 0 }, { name := "T_DOUBLE", type := .int, accessFlags := 25, slot := 14, constantValue := 0 }, { name := "T_BYTE", type := .int, accessFlags := 25, slot := 15, constantValue := 0 }, { name := "T_SHORT", type := .int, accessFlags := 25, slot := 16, constantValue := 0 }, { name := "T_INT", type := .int, accessFlags := 25, slot := 17, constantValue := 0 }, { name := "T_LONG", type := .int, accessFlags := 25, slot := 18, constantValue := 0 }, { name := "JLA", type := (.object "jdk/internal/access/JavaLangAccess"), accessFlags := 26, slot := 19, constantValue := 0 }, { name := "SOFT_MAX_ARRAY_LENGTH", type := .int, accessFlags := 25, slot := 20, constantValue := 0 }]
  methods := #[k16m0]
  instanceTypes := #[]
  staticTypes := #[(.object "jdk/internal/misc/Unsafe"), .boolean, .int, .int, .int, .int, .int, .int, .int, .int, .int, .int, .int, .int, .int, .int, .int, .int, .int, (.object "jdk/internal/access/JavaLangAccess"), .int]
  resolved := Array.replicate 378 none
  statics := none }

def pool17 : Array CpInfo := pool [(2, .class_ 4), (1, u "java/lang/Object"), (0, u "<init>"), (0, u "()V"), (12, .class_ 20), (0, u "java/util/Collections"), (63, u "r"), (0, u "Ljava/util/Random;"), (80, .class_ 167), (0, u "java/util/Collections$UnmodifiableCollection"), (6, .class_ 175), (0, u "java/util/Collections$UnmodifiableSequencedCollection"), (6, .class_ 183), (0, u "java/util/Collections$UnmodifiableSet"), (6, .class_ 191), (0, u "java/util/Collections$UnmodifiableSequencedSet"), (6, .class_ 199), (0, u "java/util/Collections$UnmodifiableSortedSet"), (6, .class_ 207), (0, u "java/util/Collections$UnmodifiableNavigableSet"), (4, .class_ 213), (0, u "java/util/Collections$UnmodifiableList"), (1, .class_ 216), (0, u "java/util/Collections$UnmodifiableRandomAccessList"), (6, .class_ 224), (0, u "java/util/Collections$UnmodifiableMap"), (6, .class_ 232), (0, u "java/util/Collections$UnmodifiableSequencedMap"), (4, .class_ 238), (0, u "java/util/Collections$UnmodifiableSortedMap"), (6, .class_ 246), (0, u "java/util/Collections$UnmodifiableNavigableMap"), (3, .class_ 251), (0, u "java/util/Collections$SynchronizedCollection"), (4, .class_ 257), (0, u "java/util/Collections$SynchronizedSet"), (4, .class_ 263), (0, u "java/util/Collections$SynchronizedSortedSet"), (1, .class_ 266), (0, u "java/util/Collections$SynchronizedNavigableSet"), (1, .class_ 269), (0, u "java/util/Collections$SynchronizedRandomAccessList"), (1, .class_ 272), (0, u "java/util/Collections$SynchronizedList"), (5, .class_ 279), (0, u "java/util/Collections$SynchronizedMap"), (1, .class_ 282), (0, u "java/util/Collections$SynchronizedSortedMap"), (1, .class_ 285), (0, u "java/util/Collections$SynchronizedNavigableMap"), (1, .class_ 288), (0, u "java/util/Collections$CheckedCollection"), (11, .class_ 301), (0, u "java/util/Collections$CheckedQueue"), (3, .class_ 306), (0, u "java/util/Collections$CheckedSet"), (3, .class_ 311), (0, u "java/util/Collections$CheckedSortedSet"), (3, .class_ 316), (0, u "java/util/Collections$CheckedNavigableSet"), (3, .class_ 321), (0, u "java/util/Collections$CheckedRandomAccessList"), (3, .class_ 326), (0, u "java/util/Collections$CheckedList"), (1, .class_ 329), (0, u "java/util/Collections$CheckedMap"), (3, .class_ 334), (0, u "java/util/Collections$CheckedSortedMap"), (3, .class_ 339), (0, u "java/util/Collections$CheckedNavigableMap"), (4, .class_ 346), (1, u "java/util/Collections$EmptyIterator"), (3, .class_ 352), (1, u "java/util/Collections$EmptyListIterator"), (2, .class_ 357), (1, u "java/util/Collections$EmptyEnumeration"), (4, u "EMPTY_SET"), (0, u "Ljava/util/Set;"), (6, u "EMPTY_LIST"), (0, u "Ljava/util/List;"), (2, u "EMPTY_MAP"), (0, u "Ljava/util/Map;"), (4, .class_ 381), (0, u "java/util/Collections$SingletonSet"), (2, .class_ 385), (0, u "java/util/Collections$1"), (1, .class_ 388), (0, u "java/util/Collections$2"), (1, .class_ 391), (0, u "java/util/Collections$SingletonList"), (1, .class_ 394), (0, u "java/util/Collections$SingletonMap"), (22, .class_ 418), (0, u "java/util/Collections$CopiesList"), (4, .class_ 425), (1, u "java/util/Collections$ReverseComparator"), (8, .class_ 435), (0, u "java/util/Collections$ReverseComparator2"), (6, .class_ 443), (0, u "java/util/Collections$3"), (25, .class_ 470), (0, u "java/util/Collections$SetFromMap"), (2, .class_ 474), (0, u "java/util/Collections$SequencedSetFromMap"), (3, .class_ 479), (0, u "java/util/Collections$AsLIFOQueue"), (11, .class_ 492), (0, u "java/util/Collections$EmptySet"), (1, .class_ 495), (0, u "java/util/Collections$EmptyList"), (1, .class_ 498), (0, u "java/util/Collections$EmptyMap"), (1, u "BINARYSEARCH_THRESHOLD"), (0, u "I"), (2, u "REVERSE_THRESHOLD"), (1, u "SHUFFLE_THRESHOLD"), (1, u "FILL_THRESHOLD"), (1, u "ROTATE_THRESHOLD"), (1, u "COPY_THRESHOLD"), (1, u "REPLACEALL_THRESHOLD"), (1, u "INDEXOFSUBLIST_THRESHOLD"), (333, .class_ 851), (0, u "java/util/Collections$CheckedMap$CheckedEntrySet"), (0, .class_ 853), (0, u "java/util/Collections$CheckedMap$CheckedEntrySet$CheckedEntry"), (0, .class_ 855), (0, u "java/util/Collections$CheckedMap$CheckedEntrySet$1"), (0, .class_ 857), (0, u "java/util/Collections$CheckedList$1"), (0, .class_ 859), (0, u "java/util/Collections$CheckedCollection$1"), (0, .class_ 861), (0, u "java/util/Collections$UnmodifiableNavigableMap$EmptyNavigableMap"), (0, .class_ 863), (0, u "java/util/Collections$UnmodifiableMap$UnmodifiableEntrySet"), (0, .class_ 865), (0, u "java/util/Collections$UnmodifiableMap$UnmodifiableEntrySet$UnmodifiableEntry"), (0, .class_ 867), (0, u "java/util/Collections$UnmodifiableMap$UnmodifiableEntrySet$UnmodifiableEntrySetSpliterator"), (0, .class_ 869), (0, u "java/util/Collections$UnmodifiableMap$UnmodifiableEntrySet$1"), (0, .class_ 871), (0, u "java/util/Collections$UnmodifiableList$1"), (0, .class_ 873), (0, u "java/util/Collections$UnmodifiableNavigableSet$EmptyNavigableSet"), (0, .class_ 875), (0, u "java/util/Collections$UnmodifiableCollection$1")] 57

def k17m0 : Method := { name := "<init>", desc := "()V", sig := { parameters := [], returnType := none }, accessFlags := 2, code := none }
/-- java/util/Collections -/
def k17 : Class := { plain "java/util/Collections" (some 0) with
  accessFlags := 33
  interfaces := #[]
  cf := some (fileOf pool17 19 #[.nestMembers #[478, 473, 469, 434, 423, 417, 393, 390, 380, 497, 494, 491, 355, 350, 344, 338, 333, 328, 850, 852, 854, 320, 325, 856, 315, 310, 305, 300, 287, 858, 284, 281, 278, 268, 271, 265, 262, 256, 250, 245, 860, 237, 231, 223, 862, 864, 866, 868, 215, 212, 870, 206, 872, 198, 190, 182, 174, 166, 874, 442, 387, 384]] #[{ accessFlags := 2, nameIndex := 5, descriptorIndex := 6, attributes := #[] }] 33 2 #[] #[{ accessFlags := 26, nameIndex := 500, descriptorIndex := 501, attributes := #[] }, { accessFlags := 26, nameIndex := 504, descriptorIndex := 501, attributes := #[] }, { accessFlags := 26, nameIndex := 506, descriptorIndex := 501, attributes := #[] }, { accessFlags := 26, nameIndex := 508, descriptorIndex := 501, attributes := #[] }, { accessFlags := 26, nameIndex := 510, descriptorIndex := 501, attributes := #[] }, { accessFlags := 26, nameIndex := 512, descriptorIndex := 501, attributes := #[] }, { accessFlags := 26, nameIndex := 514, descriptorIndex := 501, attributes := #[] }, { accessFlags := 26, nameIndex := 516, descriptorIndex := 501, attributes := #[] }, { accessFlags := 10, nameIndex := 84, descriptorIndex := 85, attributes := #[] }, { accessFlags := 25, nameIndex := 362, descriptorIndex := 363, attributes := #[] }, { accessFlags := 25, nameIndex := 370, descriptorIndex := 371, attributes := #[] }, { accessFlags := 25, nameIndex := 374, descriptorIndex := 375, attributes := #[] }])
  fields := #[{ name := "BINARYSEARCH_THRESHOLD", type := .int, accessFlags := 26, slot := 0, constantValue := 0 }, { name := "REVERSE_THRESHOLD", type := .int, accessFlags := 26, slot := 1, constantValue := 0 }, { name := "SHUFFLE_THRESHOLD", type := .int, accessFlags := 26, slot := 2, constantValue := 0 }, { name := "FILL_THRESHOLD", type := .int, accessFlags := 26, slot := 3, constantValue := 0 }, { name := "ROTATE_THRESHOLD", type := .int, accessFlags := 26, slot := 4, constantValue := 0 }, { name := "COPY_THRESHOLD", type := .int, accessFlags := 26, slot := 5, constantValue := 0 }, { name := "REPLACEALL_THRESHOLD", type := .int, accessFlags := 26, slot := 6, constantValue := 0 }, { name := "INDEXOFSUBLIST_THRESHOLD", type := .int, accessFlags := 26, slot := 7, constantValue := 0 }, { name := "r", type := (.object "java/util/Random"), accessFlags := 10, slot := 8, constantValue := 0 }, { name := "EMPTY_SET", type := (.object "java/util/Set"), accessFlags := 25, slot := 9, constantValue := 0 }, { name := "EMPTY_LIST", type := (.object "java/util/List"), accessFlags := 25, slot := 10, constantValue := 0 }, { name := "EMPTY_MAP", type := (.object "java/util/Map"), accessFlags := 25, slot := 11, constantValue := 0 }]
  methods := #[k17m0]
  instanceTypes := #[]
  staticTypes := #[.int, .int, .int, .int, .int, .int, .int, .int, (.object "java/util/Random"), (.object "java/util/Set"), (.object "java/util/List"), (.object "java/util/Map")]
  resolved := Array.replicate 933 none
  statics := some 4 }

def pool18 : Array CpInfo := pool [(8, .class_ 10), (1, u "java/lang/Iterable"), (24, .class_ 36), (0, u "java/lang/Object")] 25

/-- java/lang/Iterable -/
def k18 : Class := { plain "java/lang/Iterable" (some 0) with
  accessFlags := 1537
  interfaces := #[]
  cf := some (fileOf pool18 8 #[] #[] 1537 35 #[] #[])
  fields := #[]
  methods := #[]
  instanceTypes := #[]
  staticTypes := #[]
  resolved := Array.replicate 62 none
  statics := none }

def pool19 : Array CpInfo := pool [(10, .class_ 12), (1, u "java/util/Collection"), (47, .class_ 61), (0, u "java/lang/Object"), (0, .class_ 63), (0, u "java/lang/Iterable")] 51

/-- java/util/Collection -/
def k19 : Class := { plain "java/util/Collection" (some 0) with
  accessFlags := 1537
  interfaces := #[18]
  cf := some (fileOf pool19 10 #[] #[] 1537 60 #[62] #[])
  fields := #[]
  methods := #[]
  instanceTypes := #[]
  staticTypes := #[]
  resolved := Array.replicate 115 none
  statics := none }

def pool20 : Array CpInfo := pool [(2, .class_ 4), (1, u "java/lang/Object"), (0, u "<init>"), (0, u "()V"), (1, .class_ 10), (1, u "java/util/AbstractCollection"), (66, .class_ 78), (0, u "java/util/Collection")] 81

def k20m0 : Method := { name := "<init>", desc := "()V", sig := { parameters := [], returnType := none }, accessFlags := 4, code := none }
/-- java/util/AbstractCollection -/
def k20 : Class := { plain "java/util/AbstractCollection" (some 0) with
  accessFlags := 1057
  interfaces := #[19]
  cf := some (fileOf pool20 8 #[] #[{ accessFlags := 4, nameIndex := 5, descriptorIndex := 6, attributes := #[] }] 1057 2 #[77] #[])
  fields := #[]
  methods := #[k20m0]
  instanceTypes := #[]
  staticTypes := #[]
  resolved := Array.replicate 160 none
  statics := none }

def pool21 : Array CpInfo := pool [(8, .class_ 10), (1, u "java/util/SequencedCollection"), (15, .class_ 27), (0, u "java/lang/Object"), (0, .class_ 29), (0, u "java/util/Collection")] 27

/-- java/util/SequencedCollection -/
def k21 : Class := { plain "java/util/SequencedCollection" (some 0) with
  accessFlags := 1537
  interfaces := #[19]
  cf := some (fileOf pool21 8 #[] #[] 1537 26 #[28] #[])
  fields := #[]
  methods := #[]
  instanceTypes := #[]
  staticTypes := #[]
  resolved := Array.replicate 57 none
  statics := none }

def pool22 : Array CpInfo := pool [(8, .class_ 10), (1, u "java/util/List"), (92, .class_ 104), (0, u "java/lang/Object"), (15, .class_ 121), (0, u "java/util/SequencedCollection")] 129

/-- java/util/List -/
def k22 : Class := { plain "java/util/List" (some 0) with
  accessFlags := 1537
  interfaces := #[21]
  cf := some (fileOf pool22 8 #[] #[] 1537 103 #[120] #[])
  fields := #[]
  methods := #[]
  instanceTypes := #[]
  staticTypes := #[]
  resolved := Array.replicate 251 none
  statics := none }

def pool23 : Array CpInfo := pool [(2, .class_ 4), (1, u "java/util/AbstractCollection"), (0, u "<init>"), (0, u "()V"), (1, .class_ 10), (1, u "java/util/AbstractList"), (0, u "modCount"), (0, u "I"), (64, .class_ 78), (0, u "java/util/AbstractList$Itr"), (3, .class_ 83), (0, u "java/util/AbstractList$ListItr"), (9, .class_ 94), (0, u "java/util/AbstractList$RandomAccessSubList"), (3, .class_ 99), (0, u "java/util/AbstractList$SubList"), (33, .class_ 134), (0, u "java/util/List"), (73, .class_ 209), (0, u "java/util/AbstractList$SubList$1"), (0, .class_ 211), (0, u "java/util/AbstractList$RandomAccessSpliterator")] 6

def k23m0 : Method := { name := "<init>", desc := "()V", sig := { parameters := [], returnType := none }, accessFlags := 4, code := none }
/-- java/util/AbstractList -/
def k23 : Class := { plain "java/util/AbstractList" (some 20) with
  accessFlags := 1057
  interfaces := #[22]
  cf := some (fileOf pool23 8 #[.nestMembers #[93, 98, 208, 210, 82, 77]] #[{ accessFlags := 4, nameIndex := 5, descriptorIndex := 6, attributes := #[] }] 1057 2 #[133] #[{ accessFlags := 132, nameIndex := 11, descriptorIndex := 12, attributes := #[] }])
  fields := #[{ name := "modCount", type := .int, accessFlags := 132, slot := 0, constantValue := 0 }]
  methods := #[k23m0]
  instanceTypes := #[.int]
  staticTypes := #[]
  resolved := Array.replicate 218 none
  statics := none }

def pool24 : Array CpInfo := pool [(1, .class_ 2), (0, u "java/util/RandomAccess"), (0, .class_ 4), (0, u "java/lang/Object")] 2

/-- java/util/RandomAccess -/
def k24 : Class := { plain "java/util/RandomAccess" (some 0) with
  accessFlags := 1537
  interfaces := #[]
  cf := some (fileOf pool24 1 #[] #[] 1537 3 #[] #[])
  fields := #[]
  methods := #[]
  instanceTypes := #[]
  staticTypes := #[]
  resolved := Array.replicate 7 none
  statics := none }

def pool25 : Array CpInfo := pool [(2, .class_ 4), (1, u "java/util/AbstractList"), (0, u "<init>"), (0, u "()V"), (1, .class_ 10), (1, u "java/util/Collections"), (54, .class_ 66), (0, u "java/util/Collections$EmptyList"), (0, .class_ 68), (0, u "java/util/RandomAccess"), (0, .class_ 70), (0, u "java/io/Serializable"), (0, u "serialVersionUID"), (0, u "J")] 77

def k25m0 : Method := { name := "<init>", desc := "()V", sig := { parameters := [], returnType := none }, accessFlags := 2, code := none }
/-- java/util/Collections$EmptyList -/
def k25 : Class := { plain "java/util/Collections$EmptyList" (some 23) with
  accessFlags := 32
  interfaces := #[24, 2]
  cf := some (fileOf pool25 65 #[.nestHost 8] #[{ accessFlags := 2, nameIndex := 5, descriptorIndex := 6, attributes := #[] }] 32 2 #[67, 69] #[{ accessFlags := 26, nameIndex := 71, descriptorIndex := 72, attributes := #[] }])
  fields := #[{ name := "serialVersionUID", type := .long, accessFlags := 26, slot := 0, constantValue := 0 }]
  methods := #[k25m0]
  instanceTypes := #[.int]
  staticTypes := #[.long]
  resolved := Array.replicate 150 none
  statics := none }

def pool26 : Array CpInfo := pool [(2, .class_ 4), (1, u "java/lang/StackTraceElement"), (0, u "<init>"), (2, .class_ 10), (1, u "java/lang/Object"), (0, u "()V"), (2, u "format"), (0, u "B"), (2, u "classLoaderName"), (0, u "Ljava/lang/String;"), (2, u "moduleName"), (2, u "moduleVersion"), (12, u "declaringClass"), (4, u "methodName"), (2, u "fileName"), (2, u "lineNumber"), (0, u "I"), (65, u "declaringClassObject"), (0, u "Ljava/lang/Class;"), (33, .class_ 153), (1, u "java/lang/StackTraceElement$HashedModules"), (17, .class_ 172), (0, u "java/io/Serializable"), (0, u "NATIVE_METHOD"), (1, u "UNKNOWN_SOURCE"), (2, u "BUILTIN_CLASS_LOADER"), (1, u "JDK_NON_UPGRADEABLE_MODULE"), (1, u "serialVersionUID"), (0, u "J")] 51

def k26m0 : Method := { name := "<init>", desc := "()V", sig := { parameters := [], returnType := none }, accessFlags := 2, code := none }
/-- java/lang/StackTraceElement -/
def k26 : Class := { plain "java/lang/StackTraceElement" (some 0) with
  accessFlags := 49
  interfaces := #[2]
  cf := some (fileOf pool26 2 #[.nestMembers #[151]] #[{ accessFlags := 2, nameIndex := 5, descriptorIndex := 11, attributes := #[] }] 49 8 #[171] #[{ accessFlags := 26, nameIndex := 173, descriptorIndex := 19, attributes := #[] }, { accessFlags := 26, nameIndex := 175, descriptorIndex := 19, attributes := #[] }, { accessFlags := 130, nameIndex := 116, descriptorIndex := 117, attributes := #[] }, { accessFlags := 2, nameIndex := 18, descriptorIndex := 19, attributes := #[] }, { accessFlags := 2, nameIndex := 22, descriptorIndex := 19, attributes := #[] }, { accessFlags := 2, nameIndex := 25, descriptorIndex := 19, attributes := #[] }, { accessFlags := 2, nameIndex := 38, descriptorIndex := 19, attributes := #[] }, { accessFlags := 2, nameIndex := 43, descriptorIndex := 19, attributes := #[] }, { accessFlags := 2, nameIndex := 46, descriptorIndex := 19, attributes := #[] }, { accessFlags := 2, nameIndex := 49, descriptorIndex := 50, attributes := #[] }, { accessFlags := 2, nameIndex := 14, descriptorIndex := 15, attributes := #[] }, { accessFlags := 26, nameIndex := 178, descriptorIndex := 15, attributes := #[] }, { accessFlags := 26, nameIndex := 180, descriptorIndex := 15, attributes := #[] }, { accessFlags := 26, nameIndex := 182, descriptorIndex := 183, attributes := #[] }])
  fields := #[{ name := "NATIVE_METHOD", type := (.object "java/lang/String"), accessFlags := 26, slot := 0, constantValue := 0 }, { name := "UNKNOWN_SOURCE", type := (.object "java/lang/String"), accessFlags := 26, slot := 1, constantValue := 0 }, { name := "declaringClassObject", type := (.object "java/lang/Class"), accessFlags := 130, slot := 0, constantValue := 0 }, { name := "classLoaderName", type := (.object "java/lang/String"), accessFlags := 2, slot := 1, constantValue := 0 }, { name := "moduleName", type := (.object "java/lang/String"), accessFlags := 2, slot := 2, constantValue := 0 }, { name := "moduleVersion", type := (.object "java/lang/String"), accessFlags := 2, slot := 3, constantValue := 0 }, { name := "declaringClass", type := (.object "java/lang/String"), accessFlags := 2, slot := 4, constantValue := 0 }, { name := "methodName", type := (.object "java/lang/String"), accessFlags := 2, slot := 5, constantValue := 0 }, { name := "fileName", type := (.object "java/lang/String"), accessFlags := 2, slot := 6, constantValue := 0 }, { name := "lineNumber", type := .int, accessFlags := 2, slot := 7, constantValue := 0 }, { name := "format", type := .byte, accessFlags := 2, slot := 8, constantValue := 0 }, { name := "BUILTIN_CLASS_LOADER", type := .byte, accessFlags := 26, slot := 2, constantValue := 0 }, { name := "JDK_NON_UPGRADEABLE_MODULE", type := .byte, accessFlags := 26, slot := 3, constantValue := 0 }, { name := "serialVersionUID", type := .long, accessFlags := 26, slot := 4, constantValue := 0 }]
  methods := #[k26m0]
  instanceTypes := #[(.object "java/lang/Class"), (.object "java/lang/String"), (.object "java/lang/String"), (.object "java/lang/String"), (.object "java/lang/String"), (.object "java/lang/String"), (.object "java/lang/String"), .int, .byte]
  staticTypes := #[(.object "java/lang/String"), (.object "java/lang/String"), .byte, .byte, .long]
  resolved := Array.replicate 235 none
  statics := none }

def pool27 : Array CpInfo := pool [(1, u "java/lang/Cloneable"), (0, .class_ 1), (0, u "java/lang/Object"), (0, .class_ 3)] 3

/-- java/lang/Cloneable -/
def k27 : Class := { plain "java/lang/Cloneable" (some 0) with
  accessFlags := 1537
  interfaces := #[]
  cf := some (fileOf pool27 2 #[] #[] 1537 4 #[] #[])
  fields := #[]
  methods := #[]
  instanceTypes := #[]
  staticTypes := #[]
  resolved := Array.replicate 8 none
  statics := none }

/-- the primitive byte -/
def k28 : Class := { plain "byte" none with kind := .primitive 'B', accessFlags := 0x411 }
/-- [B -/
def k29 : Class := { plain "[B" (some 0) with kind := .array 28 .byte, interfaces := #[27, 2], accessFlags := 1041 }

/-- the primitive char -/
def k30 : Class := { plain "char" none with kind := .primitive 'C', accessFlags := 0x411 }
/-- [C -/
def k31 : Class := { plain "[C" (some 0) with kind := .array 30 .char, interfaces := #[27, 2], accessFlags := 1041 }

/-- the primitive int -/
def k32 : Class := { plain "int" none with kind := .primitive 'I', accessFlags := 0x411 }
/-- [I -/
def k33 : Class := { plain "[I" (some 0) with kind := .array 32 .int, interfaces := #[27, 2], accessFlags := 1041 }

/-- [Ljava/lang/Object; -/
def k34 : Class := { plain "[Ljava/lang/Object;" (some 0) with kind := .array 0 (.object "java/lang/Object"), interfaces := #[27, 2], accessFlags := 1041 }

/-- [Ljava/lang/StackTraceElement; -/
def k35 : Class := { plain "[Ljava/lang/StackTraceElement;" (some 0) with kind := .array 26 (.object "java/lang/StackTraceElement"), interfaces := #[27, 2], accessFlags := 1041 }

/-- [Ljava/lang/Throwable; -/
def k36 : Class := { plain "[Ljava/lang/Throwable;" (some 0) with kind := .array 9 (.object "java/lang/Throwable"), interfaces := #[27, 2], accessFlags := 1041 }

def heap : Heap := #[{ cls := 7, slots := #[.long 0, .int 1, .null, .int 0, .null, .int 0, .int 0], vm := .statics 7 },
  { cls := 9, slots := #[.long 0, .ref 6, .ref 7, .null, .null, .null, .null, .ref 8, .int 1], vm := .statics 9 },
  { cls := 13, slots := #[.ref 5, .long 0, .null], vm := .statics 13 },
  { cls := 15, slots := #[.null, .null, .null], vm := .statics 15 },
  { cls := 17, slots := #[.int 0, .int 0, .int 0, .int 0, .int 0, .int 0, .int 0, .int 0, .null, .null, .ref 7, .null], vm := .statics 17 },
  { cls := 13, slots := #[.long 0, .int 0], vm := .none },
  { cls := 35, slots := #[], vm := .none },
  { cls := 25, slots := #[.int 0], vm := .none },
  { cls := 36, slots := #[], vm := .none }]
def classes : Array Class := #[k0, k1, k2, k3, k4, k5, k6, k7, k8, k9, k10, k11, k12, k13, k14, k15, k16, k17, k18, k19, k20, k21, k22, k23, k24, k25, k26, k27, k28, k29, k30, k31, k32, k33, k34, k35, k36]
def interned : List (Array UInt16 × Addr) := []
def slotsUsed : Nat := 37
def theMethod : MethodId := ⟨1, 2⟩
def args0 : Array Value := #[.int 5, .int 65, .int 6, .int 7]
def aboutOver (below : List Frame) : State where
  vm := { classes := classes, interned := interned.toArray }
  heap := heap
  slotsUsed := slotsUsed
  threads := #[{ frames := .invoking theMethod args0 :: below }]
def below0 : List Frame := [.native { method := ⟨0, 0⟩, args := #[] }]
def about1 : State := aboutOver below0
def p0 : Program := .bare "" "" ""
def e0 : Env := launch0.env 0 0 0
theorem w_frames : about1.frames = Frame.invoking theMethod args0 :: below0 := rfl
set_option maxRecDepth 65536 in
theorem w_args : argsFit about1.vm theMethod args0 = true := by decide +kernel
set_option maxRecDepth 65536 in
theorem w_heap : heapFits about1 = true := by decide +kernel
set_option maxRecDepth 65536 in
theorem w_runnable : about1.curStatus? = some .runnable := by decide +kernel
set_option maxRecDepth 65536 in
theorem w_alone : about1.alone = true := by decide +kernel
set_option maxRecDepth 65536 in
theorem w_named : about1.methodNamed? x = some theMethod := by decide +kernel
set_option maxRecDepth 65536 in
theorem w_hears : about1.hears theMethod below0 = true := by decide +kernel
set_option maxRecDepth 65536 in
theorem w_ripe : about1.ripe theMethod args0 below0 = true := by decide +kernel
theorem w_running : about1.status = .running := rfl
set_option maxRecDepth 65536 in
theorem w_room : about1.hasRoom e0.platform room_1 = true :=
  launch0.hasRoom_least _ room_1 (by decide +kernel) (by decide +kernel) (by decide +kernel) (by decide +kernel) (by decide +kernel) (by decide +kernel)
theorem allAtoms_all (ts : List Jvm.Cond) (a : Array Jvm.Value) (st : Jvm.State) : (allAtoms ts).before a st = ts.all (fun c => c.before a st) := by
  induction ts with
  | nil => rfl
  | cons c t ih =>
    show (Jvm.Cond.and c (allAtoms t)).before a st = _
    rw [Jvm.Cond.before_and, ih, List.all_cons]
def words1 : List Jvm.Cond := Jvm.Cond.code x code maxLocals ret :: tables_1
/-- a 'code' word, met by the world's own term for the bytes: nothing is compared byte by byte -/
theorem code_word {y : MethodName} {bytes : ByteArray} {mx : Nat} {rt : Option FieldType} {a : Array Value} {s : State} {m : MethodId} {meth : Method} {c : Code} (h1 : s.methodNamed? y = some m) (h2 : s.vm.method? m = some meth) (h3 : meth.code = some c) (h4 : c.code = bytes)
    (h5 : (c.maxLocals == mx && c.exceptionTable.isEmpty && decide (c.maxStack ≤ mostOperands) && decide (meth.sig.returnType = rt) && !meth.locks && decide (parseMethodDescriptor y.desc = some meth.sig)) = true) : (Jvm.Cond.code y bytes mx rt).before a s = true := by
  simp only [Bool.and_eq_true, beq_iff_eq, Bool.not_eq_true', decide_eq_true_eq] at h5
  obtain ⟨⟨⟨⟨⟨g1, g2⟩, g3⟩, g4⟩, g5⟩, g6⟩ := h5
  simp [Cond.before, Cond.holds, Cond.value, h1, h2, h3, h4, g1, g2, g3, g4, g5, g6]
def isCode : Jvm.Cond → Bool
  | .code _ _ _ _ => true
  | _ => false
theorem all_split {L : List Jvm.Cond} {P : Jvm.Cond → Bool} (h1 : L.all (fun c => isCode c || P c) = true) (h2 : ∀ c ∈ L.filter isCode, P c = true) : L.all P = true := by
  refine List.all_eq_true.mpr fun c hc => ?_
  have h := List.all_eq_true.mp h1 c hc
  rcases Bool.eq_false_or_eq_true (isCode c) with hi | hi
  · exact h2 c (List.mem_filter.mpr ⟨hc, hi⟩)
  · simpa [hi] using h
set_option maxRecDepth 65536 in
theorem w_c0 : (Jvm.Cond.code x code maxLocals ret).before args0 about1 = true := code_word (m := ⟨1, 2⟩) (meth := k1m2) (c := k1c2) (by decide +kernel) rfl rfl rfl (by decide +kernel)
set_option maxRecDepth 65536 in
theorem w_c1 : (Jvm.Cond.code ({ cls := "com/example/fanoutd/fanoutd/delivery/DeliveryExceptionRefusedPinLaw", name := "draw", desc := "(IIII)Ljava/lang/String;" } : Jvm.MethodName) method_2_code (9 : Nat) (Option.some (Jvm.ClassFile.FieldType.object "java/lang/String"))).before args0 about1 = true := code_word (m := ⟨1, 1⟩) (meth := k1m1) (c := k1c1) (by decide +kernel) rfl rfl rfl (by decide +kernel)
set_option maxRecDepth 65536 in
theorem w_c2 : (Jvm.Cond.code ({ cls := "java/lang/String", name := "<init>", desc := "([C)V" } : Jvm.MethodName) jdk_42_method_3_code (2 : Nat) (Option.none : Option Jvm.ClassFile.FieldType)).before args0 about1 = true := code_word (m := ⟨7, 1⟩) (meth := k7m1) (c := k7c1) (by decide +kernel) rfl rfl rfl (by decide +kernel)
set_option maxRecDepth 65536 in
theorem w_c3 : (Jvm.Cond.code ({ cls := "java/lang/String", name := "<init>", desc := "([CIILjava/lang/Void;)V" } : Jvm.MethodName) jdk_42_method_149_code (6 : Nat) (Option.none : Option Jvm.ClassFile.FieldType)).before args0 about1 = true := code_word (m := ⟨7, 3⟩) (meth := k7m3) (c := k7c3) (by decide +kernel) rfl rfl rfl (by decide +kernel)
set_option maxRecDepth 65536 in
theorem w_c4 : (Jvm.Cond.code ({ cls := "java/lang/Object", name := "<init>", desc := "()V" } : Jvm.MethodName) object_method_1_code (1 : Nat) (Option.none : Option Jvm.ClassFile.FieldType)).before args0 about1 = true := code_word (m := ⟨0, 0⟩) (meth := k0m0) (c := k0c0) (by decide +kernel) rfl rfl rfl (by decide +kernel)
set_option maxRecDepth 65536 in
theorem w_c5 : (Jvm.Cond.code ({ cls := "java/lang/StringUTF16", name := "compress", desc := "([CII)[B" } : Jvm.MethodName) jdk_52_method_16_code (6 : Nat) (Option.some (Jvm.ClassFile.FieldType.array Jvm.ClassFile.FieldType.byte))).before args0 about1 = true := code_word (m := ⟨8, 2⟩) (meth := k8m2) (c := k8c2) (by decide +kernel) rfl rfl rfl (by decide +kernel)
set_option maxRecDepth 65536 in
theorem w_c6 : (Jvm.Cond.code ({ cls := "java/lang/StringUTF16", name := "compress", desc := "([CI[BII)I" } : Jvm.MethodName) jdk_52_method_21_code (7 : Nat) (Option.some Jvm.ClassFile.FieldType.int)).before args0 about1 = true := code_word (m := ⟨8, 3⟩) (meth := k8m3) (c := k8c3) (by decide +kernel) rfl rfl rfl (by decide +kernel)
set_option maxRecDepth 65536 in
theorem w_c7 : (Jvm.Cond.code ({ cls := "java/lang/StringUTF16", name := "coderFromArrayLen", desc := "([BI)B" } : Jvm.MethodName) jdk_52_method_15_code (2 : Nat) (Option.some Jvm.ClassFile.FieldType.byte)).before args0 about1 = true := code_word (m := ⟨8, 1⟩) (meth := k8m1) (c := k8c1) (by decide +kernel) rfl rfl rfl (by decide +kernel)
set_option maxRecDepth 65536 in
theorem w_c8 : (Jvm.Cond.code ({ cls := "com/example/fanoutd/fanoutd/delivery/DeliveryException", name := "refused", desc := "(Ljava/lang/String;)Lcom/example/fanoutd/fanoutd/delivery/DeliveryException;" } : Jvm.MethodName) prog_7_method_3_code (1 : Nat) (Option.some (Jvm.ClassFile.FieldType.object "com/example/fanoutd/fanoutd/delivery/DeliveryException"))).before args0 about1 = true := code_word (m := ⟨11, 1⟩) (meth := k11m1) (c := k11c1) (by decide +kernel) rfl rfl rfl (by decide +kernel)
set_option maxRecDepth 65536 in
theorem w_c9 : (Jvm.Cond.code ({ cls := "com/example/fanoutd/fanoutd/delivery/DeliveryException", name := "<init>", desc := "(Ljava/lang/String;ZLjava/time/Duration;Ljava/lang/Throwable;)V" } : Jvm.MethodName) prog_7_method_1_code (5 : Nat) (Option.none : Option Jvm.ClassFile.FieldType)).before args0 about1 = true := code_word (m := ⟨11, 0⟩) (meth := k11m0) (c := k11c0) (by decide +kernel) rfl rfl rfl (by decide +kernel)
set_option maxRecDepth 65536 in
theorem w_c10 : (Jvm.Cond.code ({ cls := "java/lang/Exception", name := "<init>", desc := "(Ljava/lang/String;Ljava/lang/Throwable;)V" } : Jvm.MethodName) jdk_59_method_3_code (3 : Nat) (Option.none : Option Jvm.ClassFile.FieldType)).before args0 about1 = true := code_word (m := ⟨10, 1⟩) (meth := k10m1) (c := k10c1) (by decide +kernel) rfl rfl rfl (by decide +kernel)
set_option maxRecDepth 65536 in
theorem w_c11 : (Jvm.Cond.code ({ cls := "java/lang/Throwable", name := "<init>", desc := "(Ljava/lang/String;Ljava/lang/Throwable;)V" } : Jvm.MethodName) jdk_78_method_3_code (3 : Nat) (Option.none : Option Jvm.ClassFile.FieldType)).before args0 about1 = true := code_word (m := ⟨9, 1⟩) (meth := k9m1) (c := k9c1) (by decide +kernel) rfl rfl rfl (by decide +kernel)
set_option maxRecDepth 65536 in
theorem w_c12 : (Jvm.Cond.code ({ cls := "java/lang/Throwable", name := "<init>", desc := "()V" } : Jvm.MethodName) jdk_78_method_1_code (1 : Nat) (Option.none : Option Jvm.ClassFile.FieldType)).before args0 about1 = true := code_word (m := ⟨9, 0⟩) (meth := k9m0) (c := k9c0) (by decide +kernel) rfl rfl rfl (by decide +kernel)
set_option maxRecDepth 65536 in
theorem w_c13 : (Jvm.Cond.code ({ cls := "java/lang/Throwable", name := "getMessage", desc := "()Ljava/lang/String;" } : Jvm.MethodName) jdk_78_method_6_code (1 : Nat) (Option.some (Jvm.ClassFile.FieldType.object "java/lang/String"))).before args0 about1 = true := code_word (m := ⟨9, 2⟩) (meth := k9m2) (c := k9c2) (by decide +kernel) rfl rfl rfl (by decide +kernel)
set_option maxRecDepth 65536 in
theorem w_c14 : (Jvm.Cond.code ({ cls := "java/lang/String", name := "equals", desc := "(Ljava/lang/Object;)Z" } : Jvm.MethodName) jdk_42_method_66_code (3 : Nat) (Option.some Jvm.ClassFile.FieldType.boolean)).before args0 about1 = true := code_word (m := ⟨7, 2⟩) (meth := k7m2) (c := k7c2) (by decide +kernel) rfl rfl rfl (by decide +kernel)
set_option maxRecDepth 65536 in
theorem w_c15 : (Jvm.Cond.code ({ cls := "com/example/fanoutd/fanoutd/delivery/DeliveryException", name := "isRetryable", desc := "()Z" } : Jvm.MethodName) prog_7_method_4_code (1 : Nat) (Option.some Jvm.ClassFile.FieldType.boolean)).before args0 about1 = true := code_word (m := ⟨11, 2⟩) (meth := k11m2) (c := k11c2) (by decide +kernel) rfl rfl rfl (by decide +kernel)
set_option maxRecDepth 65536 in
theorem w_c16 : (Jvm.Cond.code ({ cls := "com/example/fanoutd/fanoutd/delivery/DeliveryException", name := "retryAfter", desc := "()Ljava/time/Duration;" } : Jvm.MethodName) prog_7_method_5_code (1 : Nat) (Option.some (Jvm.ClassFile.FieldType.object "java/time/Duration"))).before args0 about1 = true := code_word (m := ⟨11, 3⟩) (meth := k11m3) (c := k11c3) (by decide +kernel) rfl rfl rfl (by decide +kernel)
set_option maxRecDepth 65536 in
theorem w_c17 : (Jvm.Cond.code ({ cls := "java/time/Duration", name := "isZero", desc := "()Z" } : Jvm.MethodName) jdk_2316_method_21_code (1 : Nat) (Option.some Jvm.ClassFile.FieldType.boolean)).before args0 about1 = true := code_word (m := ⟨13, 0⟩) (meth := k13m0) (c := k13c0) (by decide +kernel) rfl rfl rfl (by decide +kernel)
def codes1 : List Jvm.Cond := [Jvm.Cond.code x code maxLocals ret, Jvm.Cond.code ({ cls := "com/example/fanoutd/fanoutd/delivery/DeliveryExceptionRefusedPinLaw", name := "draw", desc := "(IIII)Ljava/lang/String;" } : Jvm.MethodName) method_2_code (9 : Nat) (Option.some (Jvm.ClassFile.FieldType.object "java/lang/String")), Jvm.Cond.code ({ cls := "java/lang/String", name := "<init>", desc := "([C)V" } : Jvm.MethodName) jdk_42_method_3_code (2 : Nat) (Option.none : Option Jvm.ClassFile.FieldType), Jvm.Cond.code ({ cls := "java/lang/String", name := "<init>", desc := "([CIILjava/lang/Void;)V" } : Jvm.MethodName) jdk_42_method_149_code (6 : Nat) (Option.none : Option Jvm.ClassFile.FieldType), Jvm.Cond.code ({ cls := "java/lang/Object", name := "<init>", desc := "()V" } : Jvm.MethodName) object_method_1_code (1 : Nat) (Option.none : Option Jvm.ClassFile.FieldType), Jvm.Cond.code ({ cls := "java/lang/StringUTF16", name := "compress", desc := "([CII)[B" } : Jvm.MethodName) jdk_52_method_16_code (6 : Nat) (Option.some (Jvm.ClassFile.FieldType.array Jvm.ClassFile.FieldType.byte)), Jvm.Cond.code ({ cls := "java/lang/StringUTF16", name := "compress", desc := "([CI[BII)I" } : Jvm.MethodName) jdk_52_method_21_code (7 : Nat) (Option.some Jvm.ClassFile.FieldType.int), Jvm.Cond.code ({ cls := "java/lang/StringUTF16", name := "coderFromArrayLen", desc := "([BI)B" } : Jvm.MethodName) jdk_52_method_15_code (2 : Nat) (Option.some Jvm.ClassFile.FieldType.byte), Jvm.Cond.code ({ cls := "com/example/fanoutd/fanoutd/delivery/DeliveryException", name := "refused", desc := "(Ljava/lang/String;)Lcom/example/fanoutd/fanoutd/delivery/DeliveryException;" } : Jvm.MethodName) prog_7_method_3_code (1 : Nat) (Option.some (Jvm.ClassFile.FieldType.object "com/example/fanoutd/fanoutd/delivery/DeliveryException")), Jvm.Cond.code ({ cls := "com/example/fanoutd/fanoutd/delivery/DeliveryException", name := "<init>", desc := "(Ljava/lang/String;ZLjava/time/Duration;Ljava/lang/Throwable;)V" } : Jvm.MethodName) prog_7_method_1_code (5 : Nat) (Option.none : Option Jvm.ClassFile.FieldType), Jvm.Cond.code ({ cls := "java/lang/Exception", name := "<init>", desc := "(Ljava/lang/String;Ljava/lang/Throwable;)V" } : Jvm.MethodName) jdk_59_method_3_code (3 : Nat) (Option.none : Option Jvm.ClassFile.FieldType), Jvm.Cond.code ({ cls := "java/lang/Throwable", name := "<init>", desc := "(Ljava/lang/String;Ljava/lang/Throwable;)V" } : Jvm.MethodName) jdk_78_method_3_code (3 : Nat) (Option.none : Option Jvm.ClassFile.FieldType), Jvm.Cond.code ({ cls := "java/lang/Throwable", name := "<init>", desc := "()V" } : Jvm.MethodName) jdk_78_method_1_code (1 : Nat) (Option.none : Option Jvm.ClassFile.FieldType), Jvm.Cond.code ({ cls := "java/lang/Throwable", name := "getMessage", desc := "()Ljava/lang/String;" } : Jvm.MethodName) jdk_78_method_6_code (1 : Nat) (Option.some (Jvm.ClassFile.FieldType.object "java/lang/String")), Jvm.Cond.code ({ cls := "java/lang/String", name := "equals", desc := "(Ljava/lang/Object;)Z" } : Jvm.MethodName) jdk_42_method_66_code (3 : Nat) (Option.some Jvm.ClassFile.FieldType.boolean), Jvm.Cond.code ({ cls := "com/example/fanoutd/fanoutd/delivery/DeliveryException", name := "isRetryable", desc := "()Z" } : Jvm.MethodName) prog_7_method_4_code (1 : Nat) (Option.some Jvm.ClassFile.FieldType.boolean), Jvm.Cond.code ({ cls := "com/example/fanoutd/fanoutd/delivery/DeliveryException", name := "retryAfter", desc := "()Ljava/time/Duration;" } : Jvm.MethodName) prog_7_method_5_code (1 : Nat) (Option.some (Jvm.ClassFile.FieldType.object "java/time/Duration")), Jvm.Cond.code ({ cls := "java/time/Duration", name := "isZero", desc := "()Z" } : Jvm.MethodName) jdk_2316_method_21_code (1 : Nat) (Option.some Jvm.ClassFile.FieldType.boolean)]
set_option maxRecDepth 65536 in
theorem codes_eq : words1.filter isCode = codes1 := rfl
theorem w_codes : ∀ c ∈ words1.filter isCode, c.before args0 about1 = true := by
  rw [codes_eq]
  intro c hc
  simp only [codes1, List.mem_cons, List.not_mem_nil, or_false] at hc
  rcases hc with rfl | rfl | rfl | rfl | rfl | rfl | rfl | rfl | rfl | rfl | rfl | rfl | rfl | rfl | rfl | rfl | rfl | rfl
  · exact w_c0
  · exact w_c1
  · exact w_c2
  · exact w_c3
  · exact w_c4
  · exact w_c5
  · exact w_c6
  · exact w_c7
  · exact w_c8
  · exact w_c9
  · exact w_c10
  · exact w_c11
  · exact w_c12
  · exact w_c13
  · exact w_c14
  · exact w_c15
  · exact w_c16
  · exact w_c17
set_option maxRecDepth 65536 in
theorem w_t1 : (words1.take 24).all (fun c => isCode c || c.before args0 about1) = true := by decide +kernel
set_option maxRecDepth 65536 in
theorem w_t2 : ((words1.drop 24).take 24).all (fun c => isCode c || c.before args0 about1) = true := by decide +kernel
set_option maxRecDepth 65536 in
theorem w_t3 : (((words1.drop 24).drop 24).take 24).all (fun c => isCode c || c.before args0 about1) = true := by decide +kernel
set_option maxRecDepth 65536 in
theorem w_t4 : ((((words1.drop 24).drop 24).drop 24).take 24).all (fun c => isCode c || c.before args0 about1) = true := by decide +kernel
set_option maxRecDepth 65536 in
theorem w_t5 : (((((words1.drop 24).drop 24).drop 24).drop 24).take 24).all (fun c => isCode c || c.before args0 about1) = true := by decide +kernel
set_option maxRecDepth 65536 in
theorem w_t6 : (((((words1.drop 24).drop 24).drop 24).drop 24).drop 24).all (fun c => isCode c || c.before args0 about1) = true := by decide +kernel
theorem w_tables : (allAtoms (Jvm.Cond.code x code maxLocals ret :: tables_1)).before args0 about1 = true := by
  rw [allAtoms_all]
  show words1.all (fun c => c.before args0 about1) = true
  refine all_split ?_ w_codes
  rw [← List.take_append_drop 24 words1, List.all_append, w_t1, ← List.take_append_drop 24 (words1.drop 24), List.all_append, w_t2, ← List.take_append_drop 24 ((words1.drop 24).drop 24), List.all_append, w_t3, ← List.take_append_drop 24 (((words1.drop 24).drop 24).drop 24), List.all_append, w_t4, ← List.take_append_drop 24 ((((words1.drop 24).drop 24).drop 24).drop 24), List.all_append, w_t5, w_t6]
  rfl
set_option maxRecDepth 65536 in
theorem w_rest : rest_1_c.before args0 about1 = true := by decide +kernel
set_option maxRecDepth 65536 in
theorem w_case : (Jvm.Cond.and given_1 narrow_1).before args0 about1 = true := by decide +kernel
set_option maxRecDepth 65536 in
theorem w_consts : constsHeld consts_1 about1 := Jvm.Lit.constsHeldB_iff.mp (by decide +kernel)
theorem w_applies : (headSpec (Jvm.Cond.code x code maxLocals ret :: tables_1) room_1).applies x e0.platform about1 = true :=
  (Spec.applies_iff w_frames).mpr ⟨w_running, w_runnable, w_alone, w_named, w_hears, w_ripe, w_room, w_tables⟩
theorem atStart : AtStart classFile x code maxLocals ret World_1 tables_1 room_1 Calls_1 rest_1 Pre_1 launch0 p0 e0 about1 theMethod args0 below0 :=
  ⟨lists_1, trivial, launch0.admits_env _ _ _, launch0.least_env, fairChoices_fair.cas, fairChoices_fair.clock, w_frames, w_args, w_heap, w_applies, ⟨(by decide +kernel : framesKnown about1 = true), ⟨(by decide +kernel : tablesKnown about1 = true), ⟨w_consts, trivial⟩⟩⟩, w_rest, w_case⟩
end start1
theorem witness_1 : WitnessClaimed_1 := ⟨start1.p0, start1.e0, start1.about1, start1.theMethod, start1.args0, start1.below0, start1.atStart⟩
end Jvm.Pilot.@@N@@
