import JvmDerived
import JvmDerived.Pilot.@@N@@Statement
import JvmDerived.Pilot.@@N@@Code
set_option linter.unusedVariables false
set_option linter.unusedSimpArgs false
/- laws to paste: Road.backV, Road.codOf, Road.empW, Road.chN (cut by pick.py; bodies as the Statement names them) -/
namespace Jvm.Pilot.@@N@@
namespace StrChars
open Jvm Sem ClassFile Op Lib Jvm.Stand Jvm.Free.XT Jvm.Free.ALB Jvm.Free.JM Jvm.Free
open Jvm.Lib.Cold (StaticIs)
/-- a char array whose places are chars -/
def Ch (a : Addr) (A : Cell) (U : State) : Prop := Arr .char a A U ∧ Typed .char A
theorem Ch.mv {a : Addr} {A : Cell} {U U' : State} (h : Ch a A U) (hal : U.vm.Alike U'.vm) (hh : U'.heap = U.heap) : Ch a A U' := ⟨h.1.mv hal hh, h.2⟩
theorem Ch.keep {a : Addr} {A : Cell} {U U' : State} (h : Ch a A U) (hal : U.vm.Alike U'.vm) (hk : U'.heap[a]? = some A) : Ch a A U' := ⟨h.1.keep hal hk, h.2⟩
/-- what place i of a char[]'s cell holds -/
def cv (A : Cell) (i : Nat) : Int32 := match A.slots[i]? with | some (.int x) => x | _ => 0
theorem Ch.get {a : Addr} {A : Cell} {U : State} (h : Ch a A U) {i : Nat} (hi : i < A.slots.size) : A.slots[i]? = some (.int (cv A i)) := by
  have e := Array.getElem?_eq_getElem hi
  have f := h.2 i _ e
  unfold cv; rw [e]
  generalize A.slots[i] = v at f
  cases v <;> simp [fits] at f ⊢
/-- the byte that i2b leaves of a char -/
def lo8 (x : Int32) : Int32 := x.toInt8.toInt32
theorem fits_lo8 (y : Int32) : fits .byte (.int (lo8 y)) = true := by
  have h1 := y.toInt8.le_toInt
  have h2 := y.toInt8.toInt_lt
  simp only [lo8, fits, Bool.and_eq_true, decide_eq_true_eq, Int32.le_iff_toInt_le, Int8.toInt_toInt32, show (-128 : Int32).toInt = -128 from by decide, show (127 : Int32).toInt = 127 from by decide]
  omega
/-- A' is A but that each place j of lo .. hi - 1 holds f j -/
def Laid (A A' : Cell) (lo hi : Nat) (f : Nat → Value) : Prop := A'.cls = A.cls ∧ A'.vm = A.vm ∧ A'.slots.size = A.slots.size ∧ ∀ i, A'.slots[i]? = if lo ≤ i ∧ i < hi then some (f i) else A.slots[i]?
theorem Laid.zero (A : Cell) (lo : Nat) (f : Nat → Value) : Laid A A lo (lo + 0) f := ⟨rfl, rfl, rfl, fun i => by rw [if_neg (by omega)]⟩
theorem Laid.step {A Ak : Cell} {lo k : Nat} {f : Nat → Value} {v : Value} (h : Laid A Ak lo k f) (hlo : lo ≤ k) (hk : k < Ak.slots.size) (hv : v = f k) : Laid A (Ak.setSlot k v) lo (k + 1) f := by
  refine ⟨h.1, h.2.1, by simpa [Cell.setSlot] using h.2.2.1, fun i => ?_⟩
  by_cases e : k = i
  · subst e; rw [Cell.slots_setSlot_self v hk, if_pos (by omega), hv]
  · rw [Cell.slots_setSlot_ne v e, h.2.2.2 i]
    by_cases q : lo ≤ i ∧ i < k
    · rw [if_pos q, if_pos (by omega)]
    · rw [if_neg q, if_neg (by omega)]
def U16 : String := "java/lang/StringUTF16"
namespace Cmp5
def yN : MethodName := ⟨"java/lang/StringUTF16", "compress", "([CI[BII)I"⟩
abbrev yB : ByteArray := jdk_52_method_21_code
theorem d0 : decode yB 0 = .ok (.iconst 0, 1) := by decide +kernel
theorem d1 : decode yB 1 = .ok (.istore 5, 2) := by decide +kernel
theorem d3 : decode yB 3 = .ok (.iload 5, 2) := by decide +kernel
theorem d5 : decode yB 5 = .ok (.iload 4, 2) := by decide +kernel
theorem d7 : decode yB 7 = .ok (.if_icmp (.ge) 37, 3) := by decide +kernel
theorem d10 : decode yB 10 = .ok (.aload_n 0, 1) := by decide +kernel
theorem d11 : decode yB 11 = .ok (.iload_n 1, 1) := by decide +kernel
theorem d12 : decode yB 12 = .ok (.caload, 1) := by decide +kernel
theorem d13 : decode yB 13 = .ok (.istore 6, 2) := by decide +kernel
theorem d15 : decode yB 15 = .ok (.iload 6, 2) := by decide +kernel
theorem d17 : decode yB 17 = .ok (.sipush 255, 3) := by decide +kernel
theorem d20 : decode yB 20 = .ok (.if_icmp (.le) 6, 3) := by decide +kernel
theorem d26 : decode yB 26 = .ok (.aload_n 2, 1) := by decide +kernel
theorem d27 : decode yB 27 = .ok (.iload_n 3, 1) := by decide +kernel
theorem d28 : decode yB 28 = .ok (.iload 6, 2) := by decide +kernel
theorem d30 : decode yB 30 = .ok (.i2b, 1) := by decide +kernel
theorem d31 : decode yB 31 = .ok (.bastore, 1) := by decide +kernel
theorem d32 : decode yB 32 = .ok (.iinc 1 1, 3) := by decide +kernel
theorem d35 : decode yB 35 = .ok (.iinc 3 1, 3) := by decide +kernel
theorem d38 : decode yB 38 = .ok (.iinc 5 1, 3) := by decide +kernel
theorem d41 : decode yB 41 = .ok (.goto (-38), 3) := by decide +kernel
theorem d44 : decode yB 44 = .ok (.iload 4, 2) := by decide +kernel
theorem d46 : decode yB 46 = .ok (.ireturn, 1) := by decide +kernel
def site : List Cond := []
def tab : Cond := tabOf yN yB 7 (some .int) site
def P (b : Addr) (A : Cell) (d : Addr) (B : Cell) (o q len : Nat) (args : Array Value) (s : State) : Prop := args = #[.ref b, .int (Int32.ofNat o), .ref d, .int (Int32.ofNat q), .int (Int32.ofNat len)] ∧ Ch b A s ∧ Arr .byte d B s ∧ b ≠ d ∧ o + len ≤ A.slots.size ∧ q + len ≤ B.slots.size ∧ ∀ i, i < len → ¬ 255 < cv A (o + i)
def E (b : Addr) (A : Cell) (d : Addr) (B : Cell) (o q len : Nat) (r : Option Value) (s u : State) : Prop := r = some (.int (Int32.ofNat len)) ∧ ∃ B', Put d B' s u ∧ Laid B B' q (q + len) (fun j => Value.int (lo8 (cv A (o + (j - q)))))
/-- no char of the range above 255: len; the places written hold each char's low byte -/
theorem law (l : Launch) (b : Addr) (A : Cell) (d : Addr) (B : Cell) (o q len : Nat) : Law l yN 5 5 0 0 yB 7 (some .int) site (P b A d B o q len) (E b A d B o q len) (copyLocs d q len) 0 0 := by
  refine Law.of_walk (plainFor_of_name (by decide +kernel)) (by decide +kernel) (by decide +kernel) (by decide) (fun _ _ h => by rw [h.1]; rfl) (fun _ U U' hal hh h => ⟨h.1, h.2.1.mv hal hh, h.2.2.1.mv hal hh, h.2.2.2⟩) (fun r U U' V V' h1 hal h2 h => ⟨h.1, h.2.elim fun B' q => ⟨B', q.1.mv h1 h2, q.2⟩⟩) ?_
  intro p e s m args below meth c s₁ X0 hexec hbytes hml hret hlk hnm hown hh0 W hP
  obtain ⟨rfl, hA, hB, hne, l1, l2, hp⟩ := hP
  have c1 : Steps p.tables e below (s₁.setTop (entryFrame m #[.ref b, .int (Int32.ofNat o), .ref d, .int (Int32.ofNat q), .int (Int32.ofNat len)] 7)) (s₁.setTop (mkF m 0 #[.val (.ref b), .val (.int (Int32.ofNat o)), .val (.ref d), .val (.int (Int32.ofNat q)), .val (.int (Int32.ofNat len)), .unset, .unset] [])) := entry rfl
  have hA0 := hA.1.mv X0.warmed.alike hh0
  have hB0 := hB.mv X0.warmed.alike hh0
  have a31 := hA.1.2.2.2
  have c2 : Steps p.tables e below (s₁.setTop (entryFrame m #[.ref b, .int (Int32.ofNat o), .ref d, .int (Int32.ofNat q), .int (Int32.ofNat len)] 7)) (s₁.setTop (mkF m 3 #[.val (.ref b), .val (.int (Int32.ofNat o)), .val (.ref d), .val (.int (Int32.ofNat q)), .val (.int (Int32.ofNat len)), .val (.int 0), .unset] [])) := c1.trans (by
    refine iconstV X0.here hexec rfl 0 (hb hbytes d0) (by decide) ?_
    refine XS.istore X0.here hexec rfl (hb hbytes d1) rfl rfl ?_
    exact Steps.refl _)
  have loop : ∀ (r i : Nat), i + r = len → ∀ (z : Slot), (z = .unset ∨ ∃ w, z = .val w ∧ w.category = 1) → ∀ (Tl : State) (Bk : Cell), Stand p l e { frames := 0, locals := 0, cells := 0, slots := 0 } s m #[.ref b, .int (Int32.ofNat o), .ref d, .int (Int32.ofNat q), .int (Int32.ofNat len)] below meth c Tl ([] ++ copyLocs d q i) 0 0 → Put d Bk s₁ Tl → Laid B Bk q (q + i) (fun j => Value.int (lo8 (cv A (o + (j - q))))) →
      Steps p.tables e below (s₁.setTop (entryFrame m #[.ref b, .int (Int32.ofNat o), .ref d, .int (Int32.ofNat q), .int (Int32.ofNat len)] 7)) (Tl.setTop (mkF m 3 #[.val (.ref b), .val (.int (Int32.ofNat (o + i))), .val (.ref d), .val (.int (Int32.ofNat (q + i))), .val (.int (Int32.ofNat len)), .val (.int (Int32.ofNat i)), z] [])) → ∃ (T' : State) (B' : Cell) (z' : Slot), Stand p l e { frames := 0, locals := 0, cells := 0, slots := 0 } s m #[.ref b, .int (Int32.ofNat o), .ref d, .int (Int32.ofNat q), .int (Int32.ofNat len)] below meth c T' ([] ++ copyLocs d q len) 0 0 ∧ Put d B' s₁ T' ∧ Laid B B' q (q + len) (fun j => Value.int (lo8 (cv A (o + (j - q))))) ∧
      Steps p.tables e below (s₁.setTop (entryFrame m #[.ref b, .int (Int32.ofNat o), .ref d, .int (Int32.ofNat q), .int (Int32.ofNat len)] 7)) (T'.setTop (mkF m 3 #[.val (.ref b), .val (.int (Int32.ofNat (o + len))), .val (.ref d), .val (.int (Int32.ofNat (q + len))), .val (.int (Int32.ofNat len)), .val (.int (Int32.ofNat len)), z'] [])) := by
    intro r
    induction r with
    | zero =>
      intro i hi z hz Tl Bk Xl pl fl cl
      have hil : i = len := by omega
      rw [hil] at Xl fl cl
      exact ⟨Tl, Bk, z, Xl, pl, fl, cl⟩
    | succ r ih =>
      intro i hi z hz Tl Bk Xl pl fl cl
      have all := X0.warmed.alike.symm.trans Xl.warmed.alike
      have hAl := hA0.keep all (pl.other hne hA0.1)
      have hBk := hB0.like all pl.1 fl.1 fl.2.1 fl.2.2.1
      have hlt : q + i < Bk.slots.size := by rw [fl.2.2.1]; omega
      have c3 : Steps p.tables e below (s₁.setTop (entryFrame m #[.ref b, .int (Int32.ofNat o), .ref d, .int (Int32.ofNat q), .int (Int32.ofNat len)] 7)) (Tl.setTop (mkF m 12 #[.val (.ref b), .val (.int (Int32.ofNat (o + i))), .val (.ref d), .val (.int (Int32.ofNat (q + i))), .val (.int (Int32.ofNat len)), .val (.int (Int32.ofNat i)), z] [.int (Int32.ofNat (o + i)), .ref b])) := cl.trans (by
        refine XS.iload Xl.here hexec rfl (hb hbytes d3) rfl ?_
        refine XS.iload Xl.here hexec rfl (hb hbytes d5) rfl ?_
        refine XS.icmpNo Xl.here hexec rfl (hb hbytes d7) rfl (ii_ge_f (lt32 (by omega) (by omega))) ?_
        refine XS.aloadN Xl.here hexec rfl (hb hbytes d10) rfl rfl ?_
        refine XS.iloadN Xl.here hexec rfl (hb hbytes d11) rfl ?_
        exact Steps.refl _)
      have c4 : Steps p.tables e below (s₁.setTop (entryFrame m #[.ref b, .int (Int32.ofNat o), .ref d, .int (Int32.ofNat q), .int (Int32.ofNat len)] 7)) (Tl.setTop (mkF m 13 #[.val (.ref b), .val (.int (Int32.ofNat (o + i))), .val (.ref d), .val (.int (Int32.ofNat (q + i))), .val (.int (Int32.ofNat len)), .val (.int (Int32.ofNat i)), z] [.int (cv A (o + i))])) := c3.trans (by
        refine Xl.aget hexec hAl rfl (hA.get (i := o + i) (by omega)) rfl rfl (hb hbytes d12) ?_
        exact Steps.refl _)
      have c5 : Steps p.tables e below (s₁.setTop (entryFrame m #[.ref b, .int (Int32.ofNat o), .ref d, .int (Int32.ofNat q), .int (Int32.ofNat len)] 7)) (Tl.setTop (mkF m 15 #[.val (.ref b), .val (.int (Int32.ofNat (o + i))), .val (.ref d), .val (.int (Int32.ofNat (q + i))), .val (.int (Int32.ofNat len)), .val (.int (Int32.ofNat i)), .val (.int (cv A (o + i)))] [])) := c4.trans (by
        refine XS.istoreS Xl.here hexec rfl (hb hbytes d13) rfl rfl hz ?_
        exact Steps.refl _)
      have c6 : Steps p.tables e below (s₁.setTop (entryFrame m #[.ref b, .int (Int32.ofNat o), .ref d, .int (Int32.ofNat q), .int (Int32.ofNat len)] 7)) (Tl.setTop (mkF m 31 #[.val (.ref b), .val (.int (Int32.ofNat (o + i))), .val (.ref d), .val (.int (Int32.ofNat (q + i))), .val (.int (Int32.ofNat len)), .val (.int (Int32.ofNat i)), .val (.int (cv A (o + i)))] [.int (lo8 (cv A (o + i))), .int (Int32.ofNat (q + i)), .ref d])) := c5.trans (by
        refine XS.iload Xl.here hexec rfl (hb hbytes d15) rfl ?_
        refine sipushV Xl.here hexec rfl 255 (hb hbytes d17) (by decide) ?_
        refine XS.icmpYes Xl.here hexec rfl (pc0 := 20) rfl (hb hbytes d20) rfl (ii_le_t (hp i (by omega))) (by decide) rfl ?_
        refine XS.aloadN Xl.here hexec rfl (hb hbytes d26) rfl rfl ?_
        refine XS.iloadN Xl.here hexec rfl (hb hbytes d27) rfl ?_
        refine XS.iload Xl.here hexec rfl (hb hbytes d28) rfl ?_
        refine i2b Xl.here hexec rfl (hb hbytes d30) rfl ?_
        exact Steps.refl _)
      obtain ⟨T7, X7, p7, st7⟩ := Xl.aput hexec hBk rfl hlt rfl (fits_lo8 (cv A (o + i))) (g := (mkF m 31 #[.val (.ref b), .val (.int (Int32.ofNat (o + i))), .val (.ref d), .val (.int (Int32.ofNat (q + i))), .val (.int (Int32.ofNat len)), .val (.int (Int32.ofNat i)), .val (.int (cv A (o + i)))] [.int (lo8 (cv A (o + i))), .int (Int32.ofNat (q + i)), .ref d])) rfl (rest := []) rfl (hb hbytes d31)
      have c8 : Steps p.tables e below (s₁.setTop (entryFrame m #[.ref b, .int (Int32.ofNat o), .ref d, .int (Int32.ofNat q), .int (Int32.ofNat len)] 7)) (T7.setTop (mkF m 32 #[.val (.ref b), .val (.int (Int32.ofNat (o + i))), .val (.ref d), .val (.int (Int32.ofNat (q + i))), .val (.int (Int32.ofNat len)), .val (.int (Int32.ofNat i)), .val (.int (cv A (o + i)))] [])) := c6.trans (st7 _ (Steps.refl _))
      have c9 : Steps p.tables e below (s₁.setTop (entryFrame m #[.ref b, .int (Int32.ofNat o), .ref d, .int (Int32.ofNat q), .int (Int32.ofNat len)] 7)) (T7.setTop (mkF m 3 #[.val (.ref b), .val (.int (Int32.ofNat (o + i) + 1)), .val (.ref d), .val (.int (Int32.ofNat (q + i) + 1)), .val (.int (Int32.ofNat len)), .val (.int (Int32.ofNat i + 1)), .val (.int (cv A (o + i)))] [])) := c8.trans (by
        refine iincV X7.here hexec rfl 1 (hb hbytes d32) (by decide) rfl rfl ?_
        refine iincV X7.here hexec rfl 1 (hb hbytes d35) (by decide) rfl rfl ?_
        refine iincV X7.here hexec rfl 1 (hb hbytes d38) (by decide) rfl rfl ?_
        refine XS.goto X7.here hexec rfl (pc0 := 41) rfl (hb hbytes d41) (by decide) rfl ?_
        exact Steps.refl _)
      have c10 : Steps p.tables e below (s₁.setTop (entryFrame m #[.ref b, .int (Int32.ofNat o), .ref d, .int (Int32.ofNat q), .int (Int32.ofNat len)] 7)) (T7.setTop (mkF m 3 #[.val (.ref b), .val (.int (Int32.ofNat (o + (i + 1)))), .val (.ref d), .val (.int (Int32.ofNat (q + (i + 1)))), .val (.int (Int32.ofNat len)), .val (.int (Int32.ofNat (i + 1))), .val (.int (cv A (o + i)))] [])) := by
        have := c9
        rw [succ32, succ32, succ32] at this
        exact this
      exact ih (i + 1) (by omega) _ (Or.inr ⟨_, rfl, rfl⟩) T7 _ (by rw [copyLocs_step, ← List.append_assoc]; exact X7) (pl.trans p7) (fl.step (by omega) hlt (by simp)) c10
  obtain ⟨T9, B9, z9, X9, p9, f9, g9⟩ := loop len 0 (by omega) .unset (Or.inl rfl) s₁ B (by simpa [copyLocs] using X0) ⟨hB0.1, fun _ _ => rfl, rfl⟩ (Laid.zero _ _ _) c2
  have c11 : Steps p.tables e below (s₁.setTop (entryFrame m #[.ref b, .int (Int32.ofNat o), .ref d, .int (Int32.ofNat q), .int (Int32.ofNat len)] 7)) (T9.setTop (mkF m 46 #[.val (.ref b), .val (.int (Int32.ofNat (o + len))), .val (.ref d), .val (.int (Int32.ofNat (q + len))), .val (.int (Int32.ofNat len)), .val (.int (Int32.ofNat len)), z9] [.int (Int32.ofNat len)])) := g9.trans (by
    refine XS.iload X9.here hexec rfl (hb hbytes d3) rfl ?_
    refine XS.iload X9.here hexec rfl (hb hbytes d5) rfl ?_
    refine XS.icmpYes X9.here hexec rfl (pc0 := 7) rfl (hb hbytes d7) rfl (ii_ge_t (nlt32 (by omega) (Nat.le_refl _))) (by decide) rfl ?_
    refine XS.iload X9.here hexec rfl (hb hbytes d44) rfl ?_
    exact Steps.refl _)
  exact ⟨T9, some (.int (Int32.ofNat len)), _, _, _, X9, by simp, rfl, rfl, (fun h => by cases h), ⟨rfl, B9, p9.from hh0, f9⟩, fun fs hl => c11.trans (X9.ireturnOut hexec hret rfl (Or.inl rfl) (hb hbytes d46) hl)⟩
end Cmp5
namespace Cmp3
def yN : MethodName := ⟨"java/lang/StringUTF16", "compress", "([CII)[B"⟩
abbrev yB : ByteArray := jdk_52_method_16_code
theorem d0 : decode yB 0 = .ok (.iload_n 2, 1) := by decide +kernel
theorem d1 : decode yB 1 = .ok (.newarray .byte, 2) := by decide +kernel
theorem d3 : decode yB 3 = .ok (.astore_n 3, 1) := by decide +kernel
theorem d4 : decode yB 4 = .ok (.aload_n 0, 1) := by decide +kernel
theorem d5 : decode yB 5 = .ok (.iload_n 1, 1) := by decide +kernel
theorem d6 : decode yB 6 = .ok (.aload_n 3, 1) := by decide +kernel
theorem d7 : decode yB 7 = .ok (.iconst 0, 1) := by decide +kernel
theorem d8 : decode yB 8 = .ok (.iload_n 2, 1) := by decide +kernel
theorem d9 : decode yB 9 = .ok (.invokestatic 115, 3) := by decide +kernel
theorem d12 : decode yB 12 = .ok (.istore 4, 2) := by decide +kernel
theorem d14 : decode yB 14 = .ok (.iload 4, 2) := by decide +kernel
theorem d16 : decode yB 16 = .ok (.iload_n 2, 1) := by decide +kernel
theorem d17 : decode yB 17 = .ok (.if_icmp (.eq) 40, 3) := by decide +kernel
theorem d57 : decode yB 57 = .ok (.aload_n 3, 1) := by decide +kernel
theorem d58 : decode yB 58 = .ok (.areturn, 1) := by decide +kernel
def site : List Cond := [.arrayClass .byte, Cmp5.tab] ++ staticW U16 115 Cmp5.yN
def tab : Cond := tabOf yN yB 6 (some (.array .byte)) site
def P (b : Addr) (A : Cell) (o len : Nat) (args : Array Value) (s : State) : Prop := args = #[.ref b, .int (Int32.ofNat o), .int (Int32.ofNat len)] ∧ Ch b A s ∧ o + len ≤ A.slots.size ∧ len ≤ 536870912 ∧ ∀ i, i < len → ¬ 255 < cv A (o + i)
def E (b : Addr) (A : Cell) (o len : Nat) (r : Option Value) (s u : State) : Prop := NewArr .byte "[B" len (fun j => .int (lo8 (cv A (o + j)))) r s u ∧ u.heap.size = s.heap.size + 1
/-- no char of the range above 255: a new byte[] of their low bytes -/
theorem law (l : Launch) (b : Addr) (A : Cell) (o len : Nat) : Law l yN 3 3 1 18 yB 6 (some (.array .byte)) site (P b A o len) (E b A o len) [] 1 len := by
  refine Law.of_walk (plainFor_of_name (by decide +kernel)) (by decide +kernel) (by decide +kernel) (by decide) (fun _ _ h => by rw [h.1]; rfl) (fun _ U U' hal hh h => ⟨h.1, h.2.1.mv hal hh, h.2.2⟩) (fun r U U' V V' h1 hal h2 h => ⟨NewArr.mv r U U' V V' h1 hal h2 h.1, by rw [h1, h2]; exact h.2⟩) ?_
  intro p e s m args below meth c s₁ X0 hexec hbytes hml hret hlk hnm hown hh0 W hP
  obtain ⟨rfl, hA, l1, l2, hp⟩ := hP
  have a31 := hA.1.2.2.2
  have c1 : Steps p.tables e below (s₁.setTop (entryFrame m #[.ref b, .int (Int32.ofNat o), .int (Int32.ofNat len)] 6)) (s₁.setTop (mkF m 0 #[.val (.ref b), .val (.int (Int32.ofNat o)), .val (.int (Int32.ofNat len)), .unset, .unset, .unset] [])) := entry rfl
  have c2 : Steps p.tables e below (s₁.setTop (entryFrame m #[.ref b, .int (Int32.ofNat o), .int (Int32.ofNat len)] 6)) (s₁.setTop (mkF m 1 #[.val (.ref b), .val (.int (Int32.ofNat o)), .val (.int (Int32.ofNat len)), .unset, .unset, .unset] [.int (Int32.ofNat len)])) := c1.trans (by
    refine XS.iloadN X0.here hexec rfl (hb hbytes d0) rfl ?_
    exact Steps.refl _)
  obtain ⟨T3, B3, X3, ba3, bs3, bv3, bh3, bf3, st3⟩ := X0.anew hexec (atype := .byte) (wk W (.arrayClass .byte)) rfl (by show len * 1 ≤ _; omega) (by omega) (g := (mkF m 1 #[.val (.ref b), .val (.int (Int32.ofNat o)), .val (.int (Int32.ofNat len)), .unset, .unset, .unset] [.int (Int32.ofNat len)])) rfl (hb hbytes d1) (rest := []) rfl (Nat.le_refl _) (by show 0 + len ≤ len; omega)
  rw [hh0] at ba3 st3
  have kp3 : XT.Kept s T3 := (XT.Kept.of_eq hh0).push bh3
  have hA3 := hA.keep X3.warmed.alike (kp3 _ _ hA.1.1)
  have hne : b ≠ s.heap.size := hA.1.ne
  have c4 : Steps p.tables e below (s₁.setTop (entryFrame m #[.ref b, .int (Int32.ofNat o), .int (Int32.ofNat len)] 6)) (T3.setTop (mkF m 3 #[.val (.ref b), .val (.int (Int32.ofNat o)), .val (.int (Int32.ofNat len)), .unset, .unset, .unset] [.ref s.heap.size])) := c2.trans (st3 _ (Steps.refl _))
  have c5 : Steps p.tables e below (s₁.setTop (entryFrame m #[.ref b, .int (Int32.ofNat o), .int (Int32.ofNat len)] 6)) (T3.setTop (mkF m 9 #[.val (.ref b), .val (.int (Int32.ofNat o)), .val (.int (Int32.ofNat len)), .val (.ref s.heap.size), .unset, .unset] [.int (Int32.ofNat len), .int 0, .ref s.heap.size, .int (Int32.ofNat o), .ref b])) := c4.trans (by
    refine XS.astoreN X3.here hexec rfl (hb hbytes d3) rfl rfl rfl ?_
    refine XS.aloadN X3.here hexec rfl (hb hbytes d4) rfl rfl ?_
    refine XS.iloadN X3.here hexec rfl (hb hbytes d5) rfl ?_
    refine XS.aloadN X3.here hexec rfl (hb hbytes d6) rfl rfl ?_
    refine iconstV X3.here hexec rfl 0 (hb hbytes d7) (by decide) ?_
    refine XS.iloadN X3.here hexec rfl (hb hbytes d8) rfl ?_
    exact Steps.refl _)
  obtain ⟨v6, T6, X6, E6, g6⟩ := X3.callS hexec (Cmp5.law l b A s.heap.size B3 o 0 len) hown (wks W (staticW U16 115 Cmp5.yN)) (wk W Cmp5.tab) (W := 0) (Nat.le_of_ble_eq_true rfl) (Nat.le_of_ble_eq_true rfl) (Nat.le_refl _) (by show 0 + len + 0 ≤ len; omega) (g := (mkF m 9 #[.val (.ref b), .val (.int (Int32.ofNat o)), .val (.int (Int32.ofNat len)), .val (.ref s.heap.size), .unset, .unset] [.int (Int32.ofNat len), .int (Int32.ofNat 0), .ref s.heap.size, .int (Int32.ofNat o), .ref b])) rfl (by rw [hml]; rfl) c5 (argsL := [.ref b, .int (Int32.ofNat o), .ref s.heap.size, .int (Int32.ofNat 0), .int (Int32.ofNat len)]) (rest := []) rfl rfl (by show 2 * 0 + 0 ≤ _; decide) (hb hbytes d9) (⟨rfl, hA3, ba3, hne, l1, by rw [bs3]; simp, hp⟩)
  obtain ⟨rfl, B6, p6, f6⟩ := E6
  have c7 : Steps p.tables e below (s₁.setTop (entryFrame m #[.ref b, .int (Int32.ofNat o), .int (Int32.ofNat len)] 6)) (T6.setTop (mkF m 12 #[.val (.ref b), .val (.int (Int32.ofNat o)), .val (.int (Int32.ofNat len)), .val (.ref s.heap.size), .unset, .unset] [.int (Int32.ofNat len)])) := g6
  have c8 : Steps p.tables e below (s₁.setTop (entryFrame m #[.ref b, .int (Int32.ofNat o), .int (Int32.ofNat len)] 6)) (T6.setTop (mkF m 58 #[.val (.ref b), .val (.int (Int32.ofNat o)), .val (.int (Int32.ofNat len)), .val (.ref s.heap.size), .val (.int (Int32.ofNat len)), .unset] [.ref s.heap.size])) := c7.trans (by
    refine XS.istore X6.here hexec rfl (hb hbytes d12) rfl rfl ?_
    refine XS.iload X6.here hexec rfl (hb hbytes d14) rfl ?_
    refine XS.iloadN X6.here hexec rfl (hb hbytes d16) rfl ?_
    refine XS.icmpYes X6.here hexec rfl (pc0 := 17) rfl (hb hbytes d17) rfl (ii_eq_t rfl) (by decide) rfl ?_
    refine XS.aloadN X6.here hexec rfl (hb hbytes d57) rfl rfl ?_
    exact Steps.refl _)
  have X8 := X6.wide (L' := []) (cells' := 1) (slots' := len) (fun x hx hlt => by
    simp only [List.nil_append, copyLocs, List.mem_map, List.mem_range] at hx
    obtain ⟨i, -, rfl⟩ := hx
    exact absurd hlt (Nat.lt_irrefl _)) (Nat.le_refl _) (by omega)
  exact ⟨T6, some (.ref s.heap.size), _, _, _, X8, rfl, rfl, rfl, (fun h => by cases h), ⟨⟨rfl, B6, ba3.like (X3.warmed.alike.symm.trans X6.warmed.alike) p6.1 f6.1 f6.2.1 f6.2.2.1, f6.2.1.trans bv3, by rw [X6.warmed.alike.findClass, f6.1]; exact bf3, by rw [f6.2.2.1, bs3]; simp, fun j hj => by rw [f6.2.2.2 j, if_pos (by omega)]; rfl, kp3.put p6 (Nat.le_refl _)⟩, by rw [p6.2.2, bh3, hh0]; simp⟩, fun fs hl => c8.trans (X8.areturnOut hexec rfl hret rfl (hb hbytes d58) hl)⟩
end Cmp3
namespace CodL
def yN : MethodName := ⟨"java/lang/StringUTF16", "coderFromArrayLen", "([BI)B"⟩
abbrev yB : ByteArray := jdk_52_method_15_code
theorem d0 : decode yB 0 = .ok (.iload_n 1, 1) := by decide +kernel
theorem d1 : decode yB 1 = .ok (.aload_n 0, 1) := by decide +kernel
theorem d2 : decode yB 2 = .ok (.arraylength, 1) := by decide +kernel
theorem d3 : decode yB 3 = .ok (.isub, 1) := by decide +kernel
theorem d4 : decode yB 4 = .ok (.bipush 31, 2) := by decide +kernel
theorem d6 : decode yB 6 = .ok (.iushr, 1) := by decide +kernel
theorem d7 : decode yB 7 = .ok (.i2b, 1) := by decide +kernel
theorem d8 : decode yB 8 = .ok (.ireturn, 1) := by decide +kernel
def site : List Cond := []
def tab : Cond := tabOf yN yB 2 (some .byte) site
def P (d : Addr) (B : Cell) (args : Array Value) (s : State) : Prop := args = #[.ref d, .int (Int32.ofNat B.slots.size)] ∧ Arr .byte d B s
def E (r : Option Value) (s u : State) : Prop := XT.PureE (some (.int 0)) r s u
/-- an array as long as the number of chars: LATIN1 -/
theorem law (l : Launch) (d : Addr) (B : Cell) : Law l yN 2 2 0 0 yB 2 (some .byte) site (P d B) E [] 0 0 := by
  refine Law.of_walk (plainFor_of_name (by decide +kernel)) (by decide +kernel) (by decide +kernel) (by decide) (fun _ _ h => by rw [h.1]; rfl) (fun _ U U' hal hh h => ⟨h.1, h.2.mv hal hh⟩) (fun r U U' V V' h1 hal h2 h => XT.PureE.mv r U U' V V' h1 hal h2 h) ?_
  intro p e s m args below meth c s₁ X0 hexec hbytes hml hret hlk hnm hown hh0 W hP
  obtain ⟨rfl, hB⟩ := hP
  have hB0 := hB.mv X0.warmed.alike hh0
  have c1 : Steps p.tables e below (s₁.setTop (entryFrame m #[.ref d, .int (Int32.ofNat B.slots.size)] 2)) (s₁.setTop (mkF m 0 #[.val (.ref d), .val (.int (Int32.ofNat B.slots.size))] [])) := entry rfl
  have c2 : Steps p.tables e below (s₁.setTop (entryFrame m #[.ref d, .int (Int32.ofNat B.slots.size)] 2)) (s₁.setTop (mkF m 2 #[.val (.ref d), .val (.int (Int32.ofNat B.slots.size))] [.ref d, .int (Int32.ofNat B.slots.size)])) := c1.trans (by
    refine XS.iloadN X0.here hexec rfl (hb hbytes d0) rfl ?_
    refine XS.aloadN X0.here hexec rfl (hb hbytes d1) rfl rfl ?_
    exact Steps.refl _)
  have c3 : Steps p.tables e below (s₁.setTop (entryFrame m #[.ref d, .int (Int32.ofNat B.slots.size)] 2)) (s₁.setTop (mkF m 8 #[.val (.ref d), .val (.int (Int32.ofNat B.slots.size))] [.int (lo8 (ushr (Int32.ofNat B.slots.size - Int32.ofNat B.slots.size) 31))])) := c2.trans (by
    refine X0.alen hexec hB0 rfl rfl (hb hbytes d2) ?_
    refine XS.isub X0.here hexec rfl (hb hbytes d3) rfl ?_
    refine bipushV X0.here hexec rfl 31 (hb hbytes d4) (by decide) ?_
    refine iushr X0.here hexec rfl (hb hbytes d6) rfl ?_
    refine i2b X0.here hexec rfl (hb hbytes d7) rfl ?_
    exact Steps.refl _)
  have e0 : lo8 (ushr (Int32.ofNat B.slots.size - Int32.ofNat B.slots.size) 31) = 0 := by rw [Int32.sub_self]; decide
  rw [e0] at c3
  exact ⟨s₁, some (.int 0), _, _, _, X0, rfl, rfl, rfl, (fun h => by cases h), ⟨rfl, hh0⟩, fun fs hl => c3.trans (X0.ireturnOut hexec hret rfl (Or.inr (Or.inr (Or.inl rfl))) (hb hbytes d8) hl)⟩
end CodL
/-- the String at a is Latin-1 over a new byte[] (the heap's one new cell): the low bytes of the len chars of A from o on; every cell but a is kept -/
def Got (a : Addr) (D : Cell) (fV fC : Field) (A : Cell) (o len : Nat) (r : Option Value) (s u : State) : Prop := r = none ∧ ∃ D' V : Cell, Blank "java/lang/String" a D' u ∧ Same D D' [fV.slot, fC.slot] ∧ D'.slots[fV.slot]? = some (.ref s.heap.size) ∧ D'.slots[fC.slot]? = some (.int 0) ∧ Arr .byte s.heap.size V u ∧ V.vm = .none ∧ u.vm.findClass "[B" = some V.cls ∧ V.slots.size = len ∧ (∀ j, j < len → V.slots[j]? = some (.int (lo8 (cv A (o + j))))) ∧ (∀ (y : Addr) (c : Cell), y ≠ a → s.heap[y]? = some c → u.heap[y]? = some c) ∧ u.heap.size = s.heap.size + 1
theorem Got.mv {a : Addr} {D A : Cell} {fV fC : Field} {o len : Nat} : ∀ r (U U' V V' : State), U'.heap = U.heap → V.vm.Alike V'.vm → V'.heap = V.heap → Got a D fV fC A o len r U V → Got a D fV fC A o len r U' V' :=
  fun r U U' V V' h1 hal h2 ⟨e0, D', X, a1, a2, a3, a4, a5, a6, a7, a8, a9, a10, a11⟩ => ⟨e0, D', X, a1.mv hal h2, a2, by rw [h1]; exact a3, a4, by rw [h1]; exact a5.mv hal h2, a6, by rw [hal.findClass]; exact a7, a8, a9, by rw [h1, h2]; exact a10, by rw [h1, h2]; exact a11⟩
namespace New4
def yN : MethodName := ⟨"java/lang/String", "<init>", "([CIILjava/lang/Void;)V"⟩
abbrev yB : ByteArray := jdk_42_method_149_code
theorem d0 : decode yB 0 = .ok (.aload_n 0, 1) := by decide +kernel
theorem d1 : decode yB 1 = .ok (.invokespecial 1, 3) := by decide +kernel
theorem d4 : decode yB 4 = .ok (.iload_n 3, 1) := by decide +kernel
theorem d5 : decode yB 5 = .ok (.ifCond (.ne) 22, 3) := by decide +kernel
theorem d27 : decode yB 27 = .ok (.getstatic 38, 3) := by decide +kernel
theorem d30 : decode yB 30 = .ok (.ifCond (.eq) 28, 3) := by decide +kernel
theorem d33 : decode yB 33 = .ok (.aload_n 1, 1) := by decide +kernel
theorem d34 : decode yB 34 = .ok (.iload_n 2, 1) := by decide +kernel
theorem d35 : decode yB 35 = .ok (.iload_n 3, 1) := by decide +kernel
theorem d36 : decode yB 36 = .ok (.invokestatic 177, 3) := by decide +kernel
theorem d39 : decode yB 39 = .ok (.astore 5, 2) := by decide +kernel
theorem d41 : decode yB 41 = .ok (.aload_n 0, 1) := by decide +kernel
theorem d42 : decode yB 42 = .ok (.aload 5, 2) := by decide +kernel
theorem d44 : decode yB 44 = .ok (.iload_n 3, 1) := by decide +kernel
theorem d45 : decode yB 45 = .ok (.invokestatic 47, 3) := by decide +kernel
theorem d48 : decode yB 48 = .ok (.putfield 15, 3) := by decide +kernel
theorem d51 : decode yB 51 = .ok (.aload_n 0, 1) := by decide +kernel
theorem d52 : decode yB 52 = .ok (.aload 5, 2) := by decide +kernel
theorem d54 : decode yB 54 = .ok (.putfield 9, 3) := by decide +kernel
theorem d57 : decode yB 57 = .ok (.return_, 1) := by decide +kernel
def site : List Cond := [.fieldLink "java/lang/String" 38 "java/lang/String" "COMPACT_STRINGS" "Z", Cmp3.tab, CodL.tab, .laysFinal "java/lang/String" "java/lang/String" "value" "[B", .fieldLink "java/lang/String" 9 "java/lang/String" "value" "[B", .laysFinal "java/lang/String" "java/lang/String" "coder" "B", .fieldLink "java/lang/String" 15 "java/lang/String" "coder" "B"] ++ objW "java/lang/String" 1 ++ staticW "java/lang/String" 177 Cmp3.yN ++ staticW "java/lang/String" 47 CodL.yN
def tab : Cond := tabOf yN yB 6 none site
def P (a : Addr) (D : Cell) (fV fC : Field) (b : Addr) (A : Cell) (z : Int32) (o len : Nat) (args : Array Value) (s : State) : Prop := args = #[.ref a, .ref b, .int (Int32.ofNat o), .int (Int32.ofNat len), .null] ∧ Blank "java/lang/String" a D s ∧ Found "java/lang/String" "value" "[B" fV s ∧ Found "java/lang/String" "coder" "B" fC s ∧ Ch b A s ∧ StaticIs s "java/lang/String" "COMPACT_STRINGS" "Z" (.int z) ∧ ¬ z = 0 ∧ 0 < len ∧ o + len ≤ A.slots.size ∧ len ≤ 536870912 ∧ ∀ i, i < len → ¬ 255 < cv A (o + i)
def E (a : Addr) (D : Cell) (fV fC : Field) (A : Cell) (o len : Nat) (r : Option Value) (s u : State) : Prop := Got a D fV fC A o len r s u
/-- len > 0, no char of the range above 255: a Latin-1 String of their low bytes -/
theorem law (l : Launch) (a : Addr) (D : Cell) (fV fC : Field) (b : Addr) (A : Cell) (z : Int32) (o len : Nat) : Law l yN 5 4 2 35 yB 6 none site (P a D fV fC b A z o len) (E a D fV fC A o len) [⟨a, fC.slot⟩, ⟨a, fV.slot⟩] 1 len := by
  refine Law.of_walk (plainFor_of_name (by decide +kernel)) (by decide +kernel) (by decide +kernel) (by decide) (fun _ _ h => by rw [h.1]; rfl) (fun _ U U' hal hh h => ⟨h.1, h.2.1.mv hal hh, h.2.2.1.al hal, h.2.2.2.1.al hal, h.2.2.2.2.1.mv hal hh, h.2.2.2.2.2.1.there hal hh, h.2.2.2.2.2.2⟩) (fun r U U' V V' h1 hal h2 h => Got.mv r U U' V V' h1 hal h2 h) ?_
  intro p e s m args below meth c s₁ X0 hexec hbytes hml hret hlk hnm hown hh0 W hP
  obtain ⟨rfl, hB, f1, f2, hA, s1, hz, l0, l1, l2, hp⟩ := hP
  have a31 := hA.1.2.2.2
  have c1 : Steps p.tables e below (s₁.setTop (entryFrame m #[.ref a, .ref b, .int (Int32.ofNat o), .int (Int32.ofNat len), .null] 6)) (s₁.setTop (mkF m 0 #[.val (.ref a), .val (.ref b), .val (.int (Int32.ofNat o)), .val (.int (Int32.ofNat len)), .val .null, .unset] [])) := entry rfl
  have c2 : Steps p.tables e below (s₁.setTop (entryFrame m #[.ref a, .ref b, .int (Int32.ofNat o), .int (Int32.ofNat len), .null] 6)) (s₁.setTop (mkF m 1 #[.val (.ref a), .val (.ref b), .val (.int (Int32.ofNat o)), .val (.int (Int32.ofNat len)), .val .null, .unset] [.ref a])) := c1.trans (by
    refine XS.aloadN X0.here hexec rfl (hb hbytes d0) rfl rfl ?_
    exact Steps.refl _)
  obtain ⟨T3, X3, q3, st3⟩ := X0.oinit hexec hown (wks W (objW "java/lang/String" 1)) (g := (mkF m 1 #[.val (.ref a), .val (.ref b), .val (.int (Int32.ofNat o)), .val (.int (Int32.ofNat len)), .val .null, .unset] [.ref a])) rfl (by rw [hml]; rfl) (rest := []) rfl (hb hbytes d1) (W := 0) (by show 2 * 0 + 0 ≤ _; decide) (Nat.le_of_ble_eq_true rfl) (Nat.le_of_ble_eq_true rfl)
  have hh3 := q3.trans hh0
  have c4 : Steps p.tables e below (s₁.setTop (entryFrame m #[.ref a, .ref b, .int (Int32.ofNat o), .int (Int32.ofNat len), .null] 6)) (T3.setTop (mkF m 27 #[.val (.ref a), .val (.ref b), .val (.int (Int32.ofNat o)), .val (.int (Int32.ofNat len)), .val .null, .unset] [])) := (c2.trans (st3 _ (Steps.refl _))).trans (by
    refine XS.iloadN X3.here hexec rfl (hb hbytes d4) rfl ?_
    refine XS.ifYes X3.here hexec rfl (pc0 := 5) rfl (hb hbytes d5) rfl (i0_ne_t (nz32 (by omega) l0)) (by decide) rfl ?_
    exact Steps.refl _)
  obtain ⟨T5, X5, q5, st5⟩ := X3.sget hexec hown (wk W (.fieldLink "java/lang/String" 38 "java/lang/String" "COMPACT_STRINGS" "Z")) s1 (fun _ _ h => by rw [hh3]; exact h) (g := (mkF m 27 #[.val (.ref a), .val (.ref b), .val (.int (Int32.ofNat o)), .val (.int (Int32.ofNat len)), .val .null, .unset] [])) rfl (hb hbytes d27)
  have hh5 := q5.trans hh3
  have c6 : Steps p.tables e below (s₁.setTop (entryFrame m #[.ref a, .ref b, .int (Int32.ofNat o), .int (Int32.ofNat len), .null] 6)) (T5.setTop (mkF m 30 #[.val (.ref a), .val (.ref b), .val (.int (Int32.ofNat o)), .val (.int (Int32.ofNat len)), .val .null, .unset] [.int z])) := c4.trans (st5 _ (Steps.refl _))
  have c7 : Steps p.tables e below (s₁.setTop (entryFrame m #[.ref a, .ref b, .int (Int32.ofNat o), .int (Int32.ofNat len), .null] 6)) (T5.setTop (mkF m 36 #[.val (.ref a), .val (.ref b), .val (.int (Int32.ofNat o)), .val (.int (Int32.ofNat len)), .val .null, .unset] [.int (Int32.ofNat len), .int (Int32.ofNat o), .ref b])) := c6.trans (by
    refine XS.ifNo X5.here hexec rfl (hb hbytes d30) rfl (i0_eq_f hz) ?_
    refine XS.aloadN X5.here hexec rfl (hb hbytes d33) rfl rfl ?_
    refine XS.iloadN X5.here hexec rfl (hb hbytes d34) rfl ?_
    refine XS.iloadN X5.here hexec rfl (hb hbytes d35) rfl ?_
    exact Steps.refl _)
  obtain ⟨v8, T8, X8, E8, g8⟩ := X5.callS hexec (Cmp3.law l b A o len) hown (wks W (staticW "java/lang/String" 177 Cmp3.yN)) (wk W Cmp3.tab) (W := 0) (Nat.le_of_ble_eq_true rfl) (Nat.le_of_ble_eq_true rfl) (Nat.le_refl _) (by show 0 + len ≤ len; omega) (g := (mkF m 36 #[.val (.ref a), .val (.ref b), .val (.int (Int32.ofNat o)), .val (.int (Int32.ofNat len)), .val .null, .unset] [.int (Int32.ofNat len), .int (Int32.ofNat o), .ref b])) rfl (by rw [hml]; rfl) c7 (argsL := [.ref b, .int (Int32.ofNat o), .int (Int32.ofNat len)]) (rest := []) rfl rfl (by show 2 * 0 + 0 ≤ _; decide) (hb hbytes d36) (⟨rfl, hA.mv X5.warmed.alike hh5, l1, l2, hp⟩)
  obtain ⟨e8, z8⟩ := E8
  obtain ⟨rfl, N, n1, n2, n3, n4, n5, n6⟩ := NewArr.mv _ T5 s _ _ hh5.symm (Vm.Alike.refl _) rfl e8
  rw [hh5] at z8
  have hB1 := hB.keep X8.warmed.alike (n6 _ _ hB.1)
  have hne : s.heap.size ≠ a := (Nat.ne_of_lt (Array.getElem?_eq_some_iff.mp hB.1).1).symm
  have c9 : Steps p.tables e below (s₁.setTop (entryFrame m #[.ref a, .ref b, .int (Int32.ofNat o), .int (Int32.ofNat len), .null] 6)) (T8.setTop (mkF m 39 #[.val (.ref a), .val (.ref b), .val (.int (Int32.ofNat o)), .val (.int (Int32.ofNat len)), .val .null, .unset] [.ref s.heap.size])) := g8
  have c10 : Steps p.tables e below (s₁.setTop (entryFrame m #[.ref a, .ref b, .int (Int32.ofNat o), .int (Int32.ofNat len), .null] 6)) (T8.setTop (mkF m 45 #[.val (.ref a), .val (.ref b), .val (.int (Int32.ofNat o)), .val (.int (Int32.ofNat len)), .val .null, .val (.ref s.heap.size)] [.int (Int32.ofNat N.slots.size), .ref s.heap.size, .ref a])) := by
    have hc : Steps p.tables e below (s₁.setTop (entryFrame m #[.ref a, .ref b, .int (Int32.ofNat o), .int (Int32.ofNat len), .null] 6)) (T8.setTop (mkF m 45 #[.val (.ref a), .val (.ref b), .val (.int (Int32.ofNat o)), .val (.int (Int32.ofNat len)), .val .null, .val (.ref s.heap.size)] [.int (Int32.ofNat len), .ref s.heap.size, .ref a])) := c9.trans (by
      refine XS.astore X8.here hexec rfl (hb hbytes d39) rfl rfl rfl ?_
      refine XS.aloadN X8.here hexec rfl (hb hbytes d41) rfl rfl ?_
      refine XS.aload X8.here hexec rfl (hb hbytes d42) rfl rfl ?_
      refine XS.iloadN X8.here hexec rfl (hb hbytes d44) rfl ?_
      exact Steps.refl _)
    rw [n4]; exact hc
  obtain ⟨v11, T11, X11, E11, g11⟩ := X8.callS hexec (CodL.law l s.heap.size N) hown (wks W (staticW "java/lang/String" 47 CodL.yN)) (wk W CodL.tab) (W := 1) (Nat.le_of_ble_eq_true rfl) (Nat.le_of_ble_eq_true rfl) (Nat.le_refl _) (by show 0 + len + 0 ≤ len; omega) (g := (mkF m 45 #[.val (.ref a), .val (.ref b), .val (.int (Int32.ofNat o)), .val (.int (Int32.ofNat len)), .val .null, .val (.ref s.heap.size)] [.int (Int32.ofNat N.slots.size), .ref s.heap.size, .ref a])) rfl (by rw [hml]; rfl) c10 (argsL := [.ref s.heap.size, .int (Int32.ofNat N.slots.size)]) (rest := [.ref a]) rfl rfl (by show 2 * 0 + (1 + 0) ≤ _; decide) (hb hbytes d45) (⟨rfl, n1⟩)
  obtain ⟨rfl, q11⟩ := E11
  have hB11 := hB1.mv (X8.warmed.alike.symm.trans X11.warmed.alike) q11
  have c12 : Steps p.tables e below (s₁.setTop (entryFrame m #[.ref a, .ref b, .int (Int32.ofNat o), .int (Int32.ofNat len), .null] 6)) (T11.setTop (mkF m 48 #[.val (.ref a), .val (.ref b), .val (.int (Int32.ofNat o)), .val (.int (Int32.ofNat len)), .val .null, .val (.ref s.heap.size)] [.int 0, .ref a])) := g11
  obtain ⟨T13, X13, p13, bl13, sl13, st13⟩ := X11.finit hexec hown (wk W (.fieldLink "java/lang/String" 15 "java/lang/String" "coder" "B")) (Or.inr ⟨_, (wk W (.laysFinal "java/lang/String" "java/lang/String" "coder" "B"))⟩) (Or.inl ⟨rfl, hnm⟩) f2 (Or.inl rfl) hB11 (t := .byte) (by decide +kernel) rfl (g := (mkF m 48 #[.val (.ref a), .val (.ref b), .val (.int (Int32.ofNat o)), .val (.int (Int32.ofNat len)), .val .null, .val (.ref s.heap.size)] [.int 0, .ref a])) rfl (rest := []) rfl (hb hbytes d48)
  have c14 : Steps p.tables e below (s₁.setTop (entryFrame m #[.ref a, .ref b, .int (Int32.ofNat o), .int (Int32.ofNat len), .null] 6)) (T13.setTop (mkF m 54 #[.val (.ref a), .val (.ref b), .val (.int (Int32.ofNat o)), .val (.int (Int32.ofNat len)), .val .null, .val (.ref s.heap.size)] [.ref s.heap.size, .ref a])) := (c12.trans (st13 _ (Steps.refl _))).trans (by
    refine XS.aloadN X13.here hexec rfl (hb hbytes d51) rfl rfl ?_
    refine XS.aload X13.here hexec rfl (hb hbytes d52) rfl rfl ?_
    exact Steps.refl _)
  obtain ⟨T15, X15, p15, bl15, sl15, st15⟩ := X13.finit hexec hown (wk W (.fieldLink "java/lang/String" 9 "java/lang/String" "value" "[B")) (Or.inr ⟨_, (wk W (.laysFinal "java/lang/String" "java/lang/String" "value" "[B"))⟩) (Or.inl ⟨rfl, hnm⟩) f1 (Or.inl rfl) bl13 (t := (.array .byte)) (by decide +kernel) rfl (g := (mkF m 54 #[.val (.ref a), .val (.ref b), .val (.int (Int32.ofNat o)), .val (.int (Int32.ofNat len)), .val .null, .val (.ref s.heap.size)] [.ref s.heap.size, .ref a])) rfl (rest := []) rfl (hb hbytes d54)
  have c16 : Steps p.tables e below (s₁.setTop (entryFrame m #[.ref a, .ref b, .int (Int32.ofNat o), .int (Int32.ofNat len), .null] 6)) (T15.setTop (mkF m 57 #[.val (.ref a), .val (.ref b), .val (.int (Int32.ofNat o)), .val (.int (Int32.ofNat len)), .val .null, .val (.ref s.heap.size)] [])) := c14.trans (st15 _ (Steps.refl _))
  have ap := apart (Or.inr ⟨_, (wk W (.laysFinal "java/lang/String" "java/lang/String" "value" "[B"))⟩) (Or.inr ⟨_, (wk W (.laysFinal "java/lang/String" "java/lang/String" "coder" "B"))⟩) f1 f2 (t₁ := .array .byte) (t₂ := .byte) (by decide +kernel) (by decide +kernel) (by decide)
  have al := X8.warmed.alike.symm.trans X15.warmed.alike
  have n7 : T11.heap[s.heap.size]? = some N := by rw [q11]; exact n1.1
  exact ⟨T15, none, _, _, _, X15, by simp, rfl, by omega, (fun _ => rfl), ⟨rfl, _, N, bl15, ((Same.refl D _).set _ (by simp)).set _ (by simp), sl15, (Cell.slots_setSlot_ne _ ap).trans sl13, n1.keep al (p15.other hne (p13.other hne n7)), n2, by rw [al.findClass]; exact n3, n4, n5, fun y c h1 h2 => p15.other h1 (p13.other h1 (by rw [q11]; exact n6 y c h2)), by rw [p15.2.2, p13.2.2, q11]; exact z8⟩, fun fs hl => c16.trans (X15.returnOut hexec hret (hb hbytes d57) hl)⟩
end New4
namespace New1
def yN : MethodName := ⟨"java/lang/String", "<init>", "([C)V"⟩
abbrev yB : ByteArray := jdk_42_method_3_code
theorem d0 : decode yB 0 = .ok (.aload_n 0, 1) := by decide +kernel
theorem d1 : decode yB 1 = .ok (.aload_n 1, 1) := by decide +kernel
theorem d2 : decode yB 2 = .ok (.iconst 0, 1) := by decide +kernel
theorem d3 : decode yB 3 = .ok (.aload_n 1, 1) := by decide +kernel
theorem d4 : decode yB 4 = .ok (.arraylength, 1) := by decide +kernel
theorem d5 : decode yB 5 = .ok (.aconst_null, 1) := by decide +kernel
theorem d6 : decode yB 6 = .ok (.invokespecial 27, 3) := by decide +kernel
theorem d9 : decode yB 9 = .ok (.return_, 1) := by decide +kernel
def site : List Cond := [New4.tab] ++ initW "java/lang/String" 27 New4.yN
def tab : Cond := tabOf yN yB 2 none site
def P (a : Addr) (D : Cell) (fV fC : Field) (b : Addr) (A : Cell) (z : Int32) (args : Array Value) (s : State) : Prop := args = #[.ref a, .ref b] ∧ Blank "java/lang/String" a D s ∧ Found "java/lang/String" "value" "[B" fV s ∧ Found "java/lang/String" "coder" "B" fC s ∧ Ch b A s ∧ StaticIs s "java/lang/String" "COMPACT_STRINGS" "Z" (.int z) ∧ ¬ z = 0 ∧ 0 < A.slots.size ∧ A.slots.size ≤ 536870912 ∧ ∀ i, i < A.slots.size → ¬ 255 < cv A i
def E (a : Addr) (D : Cell) (fV fC : Field) (A : Cell) (r : Option Value) (s u : State) : Prop := Got a D fV fC A 0 A.slots.size r s u
/-- new String(chars), not empty, no char above 255: a Latin-1 String of their low bytes -/
theorem law (l : Launch) (a : Addr) (D : Cell) (fV fC : Field) (b : Addr) (A : Cell) (z : Int32) : Law l yN 2 1 3 52 yB 2 none site (P a D fV fC b A z) (E a D fV fC A) [⟨a, fC.slot⟩, ⟨a, fV.slot⟩] 1 A.slots.size := by
  refine Law.of_walk (plainFor_of_name (by decide +kernel)) (by decide +kernel) (by decide +kernel) (by decide) (fun _ _ h => by rw [h.1]; rfl) (fun _ U U' hal hh h => ⟨h.1, h.2.1.mv hal hh, h.2.2.1.al hal, h.2.2.2.1.al hal, h.2.2.2.2.1.mv hal hh, h.2.2.2.2.2.1.there hal hh, h.2.2.2.2.2.2⟩) (fun r U U' V V' h1 hal h2 h => Got.mv r U U' V V' h1 hal h2 h) ?_
  intro p e s m args below meth c s₁ X0 hexec hbytes hml hret hlk hnm hown hh0 W hP
  obtain ⟨rfl, hB, f1, f2, hA, s1, hz, l0, l2, hp⟩ := hP
  have c1 : Steps p.tables e below (s₁.setTop (entryFrame m #[.ref a, .ref b] 2)) (s₁.setTop (mkF m 0 #[.val (.ref a), .val (.ref b)] [])) := entry rfl
  have c2 : Steps p.tables e below (s₁.setTop (entryFrame m #[.ref a, .ref b] 2)) (s₁.setTop (mkF m 6 #[.val (.ref a), .val (.ref b)] [.null, .int (Int32.ofNat A.slots.size), .int 0, .ref b, .ref a])) := c1.trans (by
    refine XS.aloadN X0.here hexec rfl (hb hbytes d0) rfl rfl ?_
    refine XS.aloadN X0.here hexec rfl (hb hbytes d1) rfl rfl ?_
    refine iconstV X0.here hexec rfl 0 (hb hbytes d2) (by decide) ?_
    refine XS.aloadN X0.here hexec rfl (hb hbytes d3) rfl rfl ?_
    refine X0.alen hexec (hA.1.mv X0.warmed.alike hh0) rfl rfl (hb hbytes d4) ?_
    refine XS.aconstNull X0.here hexec rfl (hb hbytes d5) ?_
    exact Steps.refl _)
  obtain ⟨v3, T3, X3, E3, g3⟩ := X0.callN hexec (New4.law l a D fV fC b A z 0 A.slots.size) rfl hown (wks W (initW "java/lang/String" 27 New4.yN)) (W New4.tab (by simp only [site, List.mem_cons, List.mem_append, true_or, or_true])) (W := 0) (Nat.le_of_ble_eq_true rfl) (Nat.le_of_ble_eq_true rfl) (Nat.le_refl _) (by show 0 + A.slots.size ≤ A.slots.size; omega) (g := (mkF m 6 #[.val (.ref a), .val (.ref b)] [.null, .int (Int32.ofNat A.slots.size), .int (Int32.ofNat 0), .ref b, .ref a])) rfl (by rw [hml]; rfl) c2 (argsL := [.ref b, .int (Int32.ofNat 0), .int (Int32.ofNat A.slots.size), .null]) (rest := []) rfl rfl (by show 2 * 0 + 0 ≤ _; decide) (hb hbytes d6) (⟨rfl, hB.mv X0.warmed.alike hh0, f1.al X0.warmed.alike, f2.al X0.warmed.alike, hA.mv X0.warmed.alike hh0, s1.there X0.warmed.alike hh0, hz, l0, by omega, l2, fun i hi => by rw [Nat.zero_add]; exact hp i hi⟩)
  have e0 := Got.mv _ s₁ s _ _ hh0.symm (Vm.Alike.refl _) rfl E3
  obtain rfl := e0.1
  have c4 : Steps p.tables e below (s₁.setTop (entryFrame m #[.ref a, .ref b] 2)) (T3.setTop (mkF m 9 #[.val (.ref a), .val (.ref b)] [])) := g3
  exact ⟨T3, none, _, _, _, X3, by simp, rfl, by omega, (fun _ => rfl), e0, fun fs hl => c4.trans (X3.returnOut hexec hret (hb hbytes d9) hl)⟩
theorem pays {l : Launch} {R : Room} {p : Program} {e : Env} {below : List Frame} {s : State} {sargs : Array Value} {len W : Nat} (a : Addr) (D : Cell) (fV fC : Field) (b : Addr) (A : Cell) (z : Int32) (htab : tab.before sargs s = true) (hfr : 4 ≤ R.frames) (hlo : W + 65 ≤ R.locals) :
    Back l R p e below s sargs yN len W (fun A₁ a₁ => A₁.cells + 1 ≤ R.cells ∧ A₁.slots + A.slots.size ≤ R.slots ∧ P a D fV fC b A z a₁ A₁.U) (fun A₁ _ v₁ B₁ => E a D fV fC A v₁ A₁.U B₁.U ∧ B₁.locs = A₁.locs ++ [⟨a, fC.slot⟩, ⟨a, fV.slot⟩] ∧ B₁.cells = A₁.cells + 1 ∧ B₁.slots = A₁.slots + A.slots.size) :=
  (law l a D fV fC b A z).pays htab hfr (by omega)
end New1
/-- the byte, read back as charAt reads it, is the char -/
theorem lo8_mask {x : Int32} (h0 : ¬ x < 0) (h1 : ¬ 255 < x) : lo8 x &&& 255 = x := by
  have t : ∀ k : Fin 256, lo8 (Int32.ofNat k.val) &&& 255 = Int32.ofNat k.val := by decide +kernel
  rw [Int32.lt_iff_toInt_lt] at h0 h1
  have e0 : (0 : Int32).toInt = 0 := rfl
  have e1 : (255 : Int32).toInt = 255 := rfl
  obtain ⟨k, hk⟩ : ∃ k : Nat, x.toInt = k := ⟨x.toInt.toNat, by omega⟩
  have hx : x = Int32.ofNat k := Int32.toInt_inj.mp (by rw [hk, Int32.toInt_ofNat_small (by omega)])
  rw [hx]
  exact t ⟨k, by omega⟩
end StrChars
namespace StrChars.Road
open Jvm Sem ClassFile Op Lib Jvm.Stand Jvm.Free Jvm.Free.XT
open Jvm.Lib.Cold (StaticIs)
abbrev ST : String := "java/lang/String"
/-- every table word that New1's law asks, flat -/
abbrev words : List Jvm.Cond := [.code New1.yN New1.yB 2 none, .initialized ST, .methodLink ST 27 New4.yN, .instanceMethod New4.yN,
  .code New4.yN New4.yB 6 none, .fieldLink ST 38 ST "COMPACT_STRINGS" "Z", .laysFinal ST ST "value" "[B", .fieldLink ST 9 ST "value" "[B", .laysFinal ST ST "coder" "B", .fieldLink ST 15 ST "coder" "B",
  .methodLink ST 1 Lib.objectInit, .instanceMethod Lib.objectInit, .code Lib.objectInit ⟨#[0xb1]⟩ 1 none, .methodLink ST 177 Cmp3.yN, .static Cmp3.yN, .methodLink ST 47 CodL.yN, .static CodL.yN,
  .code Cmp3.yN Cmp3.yB 6 (some (.array .byte)), .initialized U16, .arrayClass .byte, .methodLink U16 115 Cmp5.yN, .static Cmp5.yN, .code Cmp5.yN Cmp5.yB 7 (some .int), .code CodL.yN CodL.yB 2 (some .byte)]
theorem tab_of {a : Array Value} {s : State} (h : ∀ w ∈ words, w.before a s = true) : New1.tab.before a s = true := by
  have h5 : Cmp5.tab.before a s = true := unparts (wk h (.code Cmp5.yN Cmp5.yB 7 (some .int))) (wks h (.initialized Cmp5.yN.cls :: Cmp5.site))
  have hc : CodL.tab.before a s = true := unparts (wk h (.code CodL.yN CodL.yB 2 (some .byte))) (wks h (.initialized CodL.yN.cls :: CodL.site))
  have q5 : ∀ w ∈ Cmp5.tab :: words, w.before a s = true := fun w hw => (List.mem_cons.mp hw).elim (fun e => e ▸ h5) (h w)
  have h3 : Cmp3.tab.before a s = true := unparts (wk q5 (.code Cmp3.yN Cmp3.yB 6 (some (.array .byte)))) (wks q5 (.initialized Cmp3.yN.cls :: Cmp3.site))
  have q3 : ∀ w ∈ Cmp3.tab :: CodL.tab :: words, w.before a s = true := fun w hw => (List.mem_cons.mp hw).elim (fun e => e ▸ h3) fun hw => (List.mem_cons.mp hw).elim (fun e => e ▸ hc) (h w)
  have h4 : New4.tab.before a s = true := unparts (wk q3 (.code New4.yN New4.yB 6 none)) (wks q3 (.initialized New4.yN.cls :: New4.site))
  have q4 : ∀ w ∈ New4.tab :: words, w.before a s = true := fun w hw => (List.mem_cons.mp hw).elim (fun e => e ▸ h4) (h w)
  exact unparts (wk q4 (.code New1.yN New1.yB 2 none)) (wks q4 (.initialized New1.yN.cls :: New1.site))
/-- the words ride from the start Z to the walk's own state -/
theorem moved {Z s : State} {a0 args : Array Value} (hZ : Z.Warmed39 s.vm) (hw : ∀ d ∈ words, d.before a0 Z = true) : ∀ d ∈ words, d.before args s = true := fun d hd => by
  have q := hw d hd
  have t : ∀ d ∈ words, d = .arrayClass .byte ∨ (d.onTables && d.keepsFace) = true := by decide +kernel
  rcases t d hd with rfl | t
  · exact RoadKit.mvA hZ q
  · exact RoadKit.mv hZ q t
/-- WHAT COMES BACK, over the tables of the start Z: h the heap at the call, h' behind it -/
def Q (Z : State) (x : Addr) (A : Cell) (h : Heap) (v : Option Value) (h' : Heap) (L : List Loc) : Prop := v = none ∧ (∀ y ∈ L, y.base = x) ∧ RoadKit.Keep h h' [x] ∧ h'.size = h.size + 1 ∧ RoadKit.Exa Z h' x ST ∧ RoadKit.Fld Z h' x ST "value" "[B" (.ref h.size) ∧ RoadKit.Fld Z h' x ST "coder" "B" (.int 0) ∧
  (∃ V : Cell, RoadKit.Arr Z h' h.size V .byte ∧ V.vm = .none ∧ Z.vm.findClass "[B" = some V.cls ∧ V.slots.size = A.slots.size ∧ ∀ j, j < A.slots.size → V.slots[j]? = some (.int (lo8 (cv A j)))) ∧
  ∀ (O n d : String) (w : Value), RoadKit.Fld Z h x O n d w → RoadKit.slotOf Z O n d ≠ RoadKit.slotOf Z ST "value" "[B" → RoadKit.slotOf Z O n d ≠ RoadKit.slotOf Z ST "coder" "B" → RoadKit.Fld Z h' x O n d w
/-- **new String(chars) AT A CALL, IN THE ROAD'S FORM**: for specialBack behind newO: x the fresh String, b the char[] with the cell A -/
theorem back {p : Program} {l : Launch} {e : Env} {R : Room} {s : State} {args : Array Value} {below : List Frame} {len W : Nat} {Z : State} {a0 : Array Value} {h : Heap} (hZ : Z.Warmed39 s.vm) (hw : ∀ d ∈ words, d.before a0 Z = true) {kI : Nat} (wi : (Jvm.Cond.instantiable ST kI).before a0 Z = true)
    {x b : Addr} {A : Cell} {z : Int32} {v0 c0 : Value} (E : RoadKit.Exa Z h x ST) (V : RoadKit.Fld Z h x ST "value" "[B" v0) (C : RoadKit.Fld Z h x ST "coder" "B" c0) (K : RoadKit.Arr Z h b A .char) (hty : Typed .char A) (S : RoadKit.Sta Z h ST "COMPACT_STRINGS" "Z" (.int z)) (hz : ¬ z = 0)
    (l0 : 0 < A.slots.size) (l2 : A.slots.size ≤ 536870912) (hp : ∀ i, i < A.slots.size → ¬ 255 < cv A i) (hfr : 4 ≤ R.frames) (hlo : W + 65 ≤ R.locals) :
    Back l R p e below s args New1.yN len W (fun P a => a = #[.ref x, .ref b] ∧ P.U.heap = h ∧ P.cells + 1 ≤ R.cells ∧ P.slots + A.slots.size ≤ R.slots)
      (fun P _ v B => ∃ L, Q Z x A h v B.U.heap L ∧ B.locs = P.locs ++ L ∧ B.cells = P.cells + 1 ∧ B.slots = P.slots + A.slots.size) := by
  intro m meth c P g ig mk a X hg hsize hdg hW hn hp'
  obtain ⟨rfl, rfl, r1, r2⟩ := hp'
  have al : Z.vm.Alike P.U.vm := hZ.alike.trans X.warmed.alike
  obtain ⟨D, cfV, kV, iV, fV, hD, gV, stV, knV, obV, asV, slV⟩ := id V
  obtain ⟨D', cfC, kC, iC, fC, hD', gC, stC, -, -, asC, slC⟩ := id C
  cases hD.symm.trans hD'
  obtain ⟨D2, kD, e1, e2, e3, e4, e5⟩ := id E
  cases hD.symm.trans e1
  obtain ⟨c2, k2, i1, i2, i3, -⟩ := Cond.instantiable_spec wi
  cases e2.symm.trans i1
  cases e3.symm.trans i2
  obtain ⟨kU, u1, u2⟩ := al.2.2 _ _ e3
  have hB : Blank ST x D P.U := ⟨hD, ⟨knV, fun q hq => by rw [hq] at obV; cases obV⟩, by rw [al.findClass]; exact e2, kU, u1, by rw [u2]; exact i3, by rw [u2]; exact e5 i3⟩
  have F1 : Found ST "value" "[B" fV P.U := ⟨SBG.found_only al ⟨cfV, kV, iV, gV⟩, stV⟩
  have F2 : Found ST "coder" "B" fC P.U := ⟨SBG.found_only al ⟨cfC, kC, iC, gC⟩, stC⟩
  have hA : Ch b A P.U := ⟨⟨K.1, State.isArrayOf_alike al K.2.1, K.2.2, by omega⟩, hty⟩
  have hS : StaticIs P.U ST "COMPACT_STRINGS" "Z" (.int z) := by
    obtain ⟨cfS, iS, kS, fS, st, cS, t1, t2, t3, t4, t5, t6, t7⟩ := S
    exact StaticIs.there (s := { Z with heap := P.U.heap }) ⟨cfS, iS, kS, fS, st, cS, t1, t2, t3, t4, t5, (fun q => by rw [q] at t6; cases t6), t7⟩ al rfl
  obtain ⟨v, B, X', ⟨⟨hv, E', V', q1, q2, q3, q4, q5, q6, q7, q8, q9, q10, q11⟩, hl, hc, hs⟩, st⟩ := New1.pays x D fV fC b A z (tab_of (moved hZ hw)) hfr hlo m meth c P g ig mk _ X hg hsize hdg hW hn ⟨r1, r2, rfl, hB, F1, F2, hA, hS, hz, l0, l2, hp⟩
  have al' : Z.vm.Alike B.U.vm := hZ.alike.trans X'.warmed.alike
  have hsz : E'.slots.size = D.slots.size := by
    obtain ⟨-, -, -, kB, w1, w2, w3⟩ := q1
    obtain ⟨kB', y1, y2⟩ := al'.2.2 _ _ e3
    rw [q2.2.1] at w1
    cases w1.symm.trans y1
    rw [w3, e5 i3, y2]
  refine ⟨v, B, X', ⟨_, ⟨hv, ?_, ⟨by omega, fun y cy hy hn' => q10 y cy (by simpa using hn') hy, fun y cy hy => ?_⟩, q11, ⟨E', _, q1.1, by rw [q2.2.1]; exact e2, by rw [q2.2.1]; exact e3, by rw [q2.1]; exact obV, fun _ => by rw [hsz]; exact e5 i3⟩,
    ⟨E', cfV, kV, iV, fV, q1.1, gV, stV, by rw [q2.1]; exact knV, by rw [q2.1]; exact obV, by rw [q2.2.1]; exact asV, q3⟩, ⟨E', cfC, kC, iC, fC, q1.1, gC, stC, by rw [q2.1]; exact knV, by rw [q2.1]; exact obV, by rw [q2.2.1]; exact asC, q4⟩,
    ⟨V', ⟨q5.1, State.isArrayOf_alike al'.symm q5.2.1, q5.2.2.1⟩, q6, by rw [← al'.findClass]; exact q7, q8, fun j hj => by have := q9 j hj; rwa [Nat.zero_add] at this⟩, fun O n d w F n1 n2 => ?_⟩, hl, hc, hs⟩, st⟩
  · intro y hy
    simp only [List.mem_cons, List.not_mem_nil, or_false] at hy
    rcases hy with rfl | rfl <;> rfl
  · by_cases q : y = x
    · subst q
      cases hD.symm.trans hy
      exact ⟨E', q1.1, q2.2.1, q2.1, hsz⟩
    · exact ⟨cy, q10 y cy q hy, rfl, rfl, rfl⟩
  · obtain ⟨D3, cf, k, i, f, g1, g2, g3, g4, g5, g6, g7⟩ := F
    cases hD.symm.trans g1
    simp only [RoadKit.slotOf, g2, gV, gC, Option.map_some, Option.getD_some] at n1 n2
    exact ⟨E', cf, k, i, f, q1.1, g2, g3, by rw [q2.1]; exact g4, by rw [q2.1]; exact g5, by rw [q2.2.1]; exact g6, by rw [q2.2.2 f.slot (by simp [n1, n2])]; exact g7⟩
end StrChars.Road
namespace StrChars.Road
open Jvm Sem ClassFile Op Lib Jvm.Stand Jvm.Free Jvm.Free.XT
/-- WHAT COMES BACK, the byte[] as a list of values -/
def QA (Z : State) (x : Addr) (zn : Int32) (cs : List Int32) (h : Heap) (v : Option Value) (h' : Heap) (L : List Loc) : Prop := v = none ∧ (∀ y ∈ L, y.base = x) ∧ RoadKit.Keep h h' [x] ∧ h'.size = h.size + 1 ∧ RoadKit.Exa Z h' x ST ∧ RoadKit.Fld Z h' x ST "value" "[B" (.ref h.size) ∧ RoadKit.Fld Z h' x ST "coder" "B" (.int 0) ∧
  (∃ kb, Z.vm.findClass "[B" = some kb ∧ RoadKit.Arv Z h' h.size kb .byte zn (cs.map fun c => .int (lo8 c)) (.int 0)) ∧
  ∀ (O n d : String) (w : Value), RoadKit.Fld Z h x O n d w → RoadKit.slotOf Z O n d ≠ RoadKit.slotOf Z ST "value" "[B" → RoadKit.slotOf Z O n d ≠ RoadKit.slotOf Z ST "coder" "B" → RoadKit.Fld Z h' x O n d w
/-- **new String(chars) AT A CALL, THE ARRAYS AS LISTS**: the char[] at b holds cs, not empty, no char above 255 -/
theorem backArv {p : Program} {l : Launch} {e : Env} {R : Room} {s : State} {args : Array Value} {below : List Frame} {len W : Nat} {Z : State} {a0 : Array Value} {h : Heap} (hZ : Z.Warmed39 s.vm) (hw : ∀ d ∈ words, d.before a0 Z = true) {kI : Nat} (wi : (Jvm.Cond.instantiable ST kI).before a0 Z = true)
    {x b : Addr} {k : ClassId} {zn z : Int32} {cs : List Int32} {dv v0 c0 : Value} (E : RoadKit.Exa Z h x ST) (V : RoadKit.Fld Z h x ST "value" "[B" v0) (C : RoadKit.Fld Z h x ST "coder" "B" c0) (K : RoadKit.Arv Z h b k .char zn (cs.map Value.int) dv) (S : RoadKit.Sta Z h ST "COMPACT_STRINGS" "Z" (.int z)) (hz : ¬ z = 0)
    (hlen : zn.toNatClampNeg = cs.length) (h0 : 0 < cs.length) (hbig : cs.length ≤ 536870912) (hall : ∀ c ∈ cs, ¬ 255 < c) (hfr : 4 ≤ R.frames) (hlo : W + 65 ≤ R.locals) :
    Back l R p e below s args New1.yN len W (fun P a => a = #[.ref x, .ref b] ∧ P.U.heap = h ∧ P.cells + 1 ≤ R.cells ∧ P.slots + cs.length ≤ R.slots)
      (fun P _ v B => ∃ L, QA Z x zn cs h v B.U.heap L ∧ B.locs = P.locs ++ L ∧ B.cells = P.cells + 1 ∧ B.slots = P.slots + cs.length) := by
  obtain ⟨A, K1, K2, K3, K4, K5, K6⟩ := K
  have e : A.slots.size = cs.length := K3.trans hlen
  have hat : ∀ (i : Nat) (hi : i < cs.length), A.slots[i]? = some (.int cs[i]) := fun i hi => by rw [K5 i (by omega)]; simp [List.getD_eq_getElem?_getD, hi]
  have hcv : ∀ (i : Nat) (hi : i < cs.length), cv A i = cs[i] := fun i hi => by unfold cv; rw [hat i hi]
  have hty : Typed .char A := fun i v hv => by
    have hi : i < A.slots.size := (Array.getElem?_eq_some_iff.mp hv).1
    have q := K5 i hi
    rw [hv] at q
    rw [Option.some.inj q]
    exact K6 i hi
  refine Back.mono (back hZ hw wi E V C K1 hty S hz (by omega) (by omega) (fun i hi => by rw [hcv i (by omega)]; exact hall _ (List.getElem_mem _)) hfr hlo) (fun P a hp => ⟨hp.1, hp.2.1, hp.2.2.1, by rw [e]; exact hp.2.2.2⟩) (fun P a v B hp hq => ?_)
  obtain ⟨L, ⟨q1, q2, q3, q4, q5, q6, q7, ⟨V', v1, v2, v3, v4, v5⟩, q9⟩, hl, hc, hs⟩ := hq
  refine ⟨L, ⟨q1, q2, q3, q4, q5, q6, q7, ⟨V'.cls, v3, V', v1, rfl, by rw [v4, e, hlen], K4, fun i hi => ?_, fun i hi => ?_⟩, q9⟩, hl, hc, by rw [hs, e]⟩
  · have hi' : i < cs.length := by omega
    rw [v5 i (by omega), hcv i hi']; simp [List.getD_eq_getElem?_getD, hi']
  · have hi' : i < cs.length := by omega
    simp only [List.getD_eq_getElem?_getD, List.getElem?_map, List.getElem?_eq_getElem hi', Option.map_some, Option.getD_some]
    exact fits_lo8 _
end StrChars.Road
namespace StrChars.Road
open Jvm Sem ClassFile Op Lib Jvm.Stand Jvm.Free Jvm.Free.XT
/-- WHAT COMES BACK, in the writer's own shape -/
def QV (Z : State) (x : Addr) (N : Int32) (bs : List Int32) (h : Heap) (n0 : Nat) (v : Option Value) (h' : Heap) (L : List Loc) : Prop := v = none ∧ RoadKit.Fr n0 L ∧ RoadKit.Keep h h' [x] ∧ RoadKit.Exa Z h' x ST ∧ RoadKit.Fld Z h' x ST "coder" "B" (.int 0) ∧
  ∃ (t : Addr) (kb : ClassId), n0 ≤ t ∧ h.size ≤ t ∧ ¬ t = x ∧ RoadKit.Fld Z h' x ST "value" "[B" (.ref t) ∧ RoadKit.Arv Z h' t kb .byte N (bs.map Value.int) (.int 0)
/-- **new String(chars) AT A CALL, FOR THE WRITER**: a char[] of n known ints, each 0 to 255 -/
theorem backV {p : Program} {l : Launch} {e : Env} {R : Room} {s : State} {args : Array Value} {below : List Frame} {len W : Nat} {Z : State} {a0 : Array Value} {h : Heap} (hZ : Z.Warmed39 s.vm) (hw : ∀ d ∈ words, d.before a0 Z = true) {kI : Nat} (wi : (Jvm.Cond.instantiable ST kI).before a0 Z = true)
    {x b : Addr} {kC : ClassId} {cs bs : List Int32} {d v0 c0 : Value} {z N : Int32} {n n0 : Nat} (hx0 : n0 ≤ x) (hh0 : n0 ≤ h.size) (E : RoadKit.Exa Z h x ST) (V : RoadKit.Fld Z h x ST "value" "[B" v0) (C : RoadKit.Fld Z h x ST "coder" "B" c0) (K : RoadKit.Arv Z h b kC .char N (cs.map Value.int) d) (S : RoadKit.Sta Z h ST "COMPACT_STRINGS" "Z" (.int z)) (hz : ¬ z = 0)
    (hn : cs.length = n) (hN : N = Int32.ofNat n) (l0 : 0 < n) (l2 : n ≤ 4000) (hp : ∀ c ∈ cs, ¬ c < 0 ∧ ¬ (255 : Int32) < c) (hb : bs = cs.map (fun c => c.toInt8.toInt32)) (hfr : 4 ≤ R.frames) (hlo : W + 65 ≤ R.locals) :
    Back l R p e below s args (⟨"java/lang/String", "<init>", "([C)V"⟩ : MethodName) len W (fun P a => a = #[.ref x, .ref b] ∧ P.U.heap = h ∧ P.cells + 1 ≤ R.cells ∧ P.slots + n ≤ R.slots)
      (fun P _ v B => ∃ L, QV Z x N bs h n0 v B.U.heap L ∧ B.locs = P.locs ++ L ∧ B.cells = P.cells + 1 ∧ B.slots = P.slots + n) := by
  subst hn hN hb
  refine Back.mono (backArv hZ hw wi E V C K S hz (n32 (by omega)) l0 (by omega) (fun c hc => (hp c hc).2) hfr hlo) (fun P a hp => hp) (fun P a v B hp hq => ?_)
  obtain ⟨L, ⟨q1, q2, q3, q4, q5, q6, q7, ⟨kb, v1, v2⟩, q9⟩, hl, hc, hs⟩ := hq
  exact ⟨L, ⟨q1, fun y hy => by rw [q2 y hy]; exact hx0, q3, q5, q7, h.size, kb, hh0, Nat.le_refl _, Nat.ne_of_gt E.lt, q6, by rw [List.map_map]; exact v2⟩, hl, hc, hs⟩
end StrChars.Road
namespace StrChars
open Jvm Sem ClassFile Op Lib Jvm.Stand Jvm.Free.XT Jvm.Free.ALB Jvm.Free.JM Jvm.Free
open Jvm.Lib.Cold (StaticIs)
def hi8 (x : Int32) : Int32 := lo8 (x >>> ((8 : Int32) &&& 31))
/-- what StringUTF16.getChar makes of two bytes -/
def pairCh (u v : Int32) : Int32 := (((u &&& 255) <<< ((0 : Int32) &&& 31)) ||| ((v &&& 255) <<< ((8 : Int32) &&& 31))).toUInt32.toUInt16.toUInt32.toInt32
theorem lo8_and (x : Int32) : (lo8 x &&& 255).toBitVec.toNat = x.toBitVec.toNat % 256 := by
  have h : (lo8 x).toBitVec = (x.toBitVec.signExtend 8).signExtend 32 := by rw [lo8, Int8.toBitVec_toInt32, Int32.toBitVec_toInt8]
  rw [Int32.toBitVec_and, BitVec.toNat_and, h]
  have e : ((x.toBitVec.signExtend 8).signExtend 32).toNat % 256 = x.toBitVec.toNat % 256 := by
    rw [BitVec.toNat_signExtend]
    have hlt := x.toBitVec.isLt
    simp only [BitVec.toNat_setWidth, BitVec.toNat_signExtend]
    split <;> split <;> omega
  rw [← e]
  exact Nat.and_two_pow_sub_one_eq_mod _ 8
theorem pair_says {c : Int32} (h0 : ¬ c < 0) (h1 : ¬ 65535 < c) : pairCh (lo8 c) (hi8 c) = c := by
  rw [Int32.lt_iff_toInt_lt] at h0 h1
  have e0 : (0 : Int32).toInt = 0 := rfl
  have e1 : (65535 : Int32).toInt = 65535 := rfl
  have hc : c.toInt = c.toBitVec.toNat := by
    have := c.toBitVec.isLt
    have e : c.toInt = c.toBitVec.toInt := rfl
    rw [e] at h0 h1
    rw [e]
    rw [BitVec.toInt_eq_toNat_cond] at h0 h1 ⊢
    split at h0 <;> split <;> omega
  have hn : c.toBitVec.toNat < 65536 := by omega
  have a1 := lo8_and c
  have a2 : (hi8 c &&& 255).toBitVec.toNat = c.toBitVec.toNat / 256 := by
    rw [hi8, lo8_and]
    have e : ((8 : Int32) &&& 31) = 8 := by decide
    rw [e, Int32.toBitVec_shiftRight]
    have e2 : ((8 : Int32).toBitVec.smod 32) = 8#32 := by decide
    rw [e2, BitVec.sshiftRight_eq', BitVec.toNat_sshiftRight_of_msb_false (by rw [BitVec.msb_eq_false_iff_two_mul_lt]; omega)]
    show c.toBitVec.toNat >>> 8 % 256 = _
    rw [Nat.shiftRight_eq_div_pow]
    omega
  unfold pairCh
  apply Int32.toBitVec_inj.mp
  apply BitVec.eq_of_toNat_eq
  have f0 : ((0 : Int32) &&& 31) = 0 := by decide
  have f8 : ((8 : Int32) &&& 31) = 8 := by decide
  rw [f0, f8]
  have g : (((lo8 c &&& 255) <<< (0 : Int32)) ||| ((hi8 c &&& 255) <<< (8 : Int32))).toBitVec.toNat = c.toBitVec.toNat := by
    rw [Int32.toBitVec_or, Int32.toBitVec_shiftLeft, Int32.toBitVec_shiftLeft]
    have s0 : ((0 : Int32).toBitVec.smod 32) = 0#32 := by decide
    have s8 : ((8 : Int32).toBitVec.smod 32) = 8#32 := by decide
    rw [s0, s8, BitVec.toNat_or]
    simp only [BitVec.shiftLeft_eq', BitVec.toNat_shiftLeft, a1, a2]
    show (c.toBitVec.toNat % 256) <<< 0 % 2 ^ 32 ||| (c.toBitVec.toNat / 256) <<< 8 % 2 ^ 32 = _
    rw [Nat.shiftLeft_zero, Nat.mod_eq_of_lt (show c.toBitVec.toNat % 256 < 2 ^ 32 by omega), Nat.mod_eq_of_lt (show (c.toBitVec.toNat / 256) <<< 8 < 2 ^ 32 by rw [Nat.shiftLeft_eq]; omega), Nat.or_comm, ← Nat.shiftLeft_add_eq_or_of_lt (by omega), Nat.shiftLeft_eq]
    omega
  show BitVec.toNat (((((lo8 c &&& 255) <<< (0 : Int32)) ||| ((hi8 c &&& 255) <<< (8 : Int32))).toBitVec.setWidth 16).setWidth 32) = _
  rw [BitVec.toNat_setWidth, BitVec.toNat_setWidth, g]
  omega
end StrChars
namespace StrChars
open Jvm Sem ClassFile Op Lib Jvm.Stand Jvm.Free.XT Jvm.Free.ALB Jvm.Free.JM Jvm.Free
open Jvm.Lib.Cold (StaticIs)
/-- charAt's cast of a byte read back -/
def chr8 (u : Int32) : Int32 := (u &&& 255).toUInt32.toUInt16.toUInt32.toInt32
theorem chr8_lo8 {c : Int32} (h0 : ¬ c < 0) (h1 : ¬ 255 < c) : chr8 (lo8 c) = c := by
  have t : ∀ k : Fin 256, (Int32.ofNat k.val).toUInt32.toUInt16.toUInt32.toInt32 = Int32.ofNat k.val := by decide +kernel
  unfold chr8
  rw [lo8_mask h0 h1]
  rw [Int32.lt_iff_toInt_lt] at h0 h1
  have e0 : (0 : Int32).toInt = 0 := rfl
  have e1 : (255 : Int32).toInt = 255 := rfl
  obtain ⟨k, hk⟩ : ∃ k : Nat, c.toInt = k := ⟨c.toInt.toNat, by omega⟩
  have hx : c = Int32.ofNat k := Int32.toInt_inj.mp (by rw [hk, Int32.toInt_ofNat_small (by omega)])
  rw [hx]
  exact t ⟨k, by omega⟩
theorem narrow_ch {c : Int32} (h0 : ¬ c < 0) (h1 : ¬ 65535 < c) : narrow .char (.int c) = .int c := by
  have q : narrow .char (.int (pairCh (lo8 c) (hi8 c))) = .int (pairCh (lo8 c) (hi8 c)) := narrow_c _
  rwa [pair_says h0 h1] at q
/-- the array's cell V codes the n chars f 0 .. f (n - 1) by the coder cd, as the JDK does: coder 1 just where some char is above 255 -/
def Cod (cd : Int32) (n : Nat) (f : Nat → Int32) (V : Cell) : Prop := (cd = 0 ∧ V.slots.size = n ∧ ∀ j, j < n → V.slots[j]? = some (.int (lo8 (f j))) ∧ ¬ 255 < f j) ∨ (cd = 1 ∧ V.slots.size = 2 * n ∧ (∀ j, j < n → V.slots[2 * j]? = some (.int (lo8 (f j))) ∧ V.slots[2 * j + 1]? = some (.int (hi8 (f j)))) ∧ ∃ j, j < n ∧ 255 < f j)
theorem Cod.cd {cd : Int32} {n : Nat} {f : Nat → Int32} {V : Cell} (h : Cod cd n f V) : cd = 0 ∨ cd = 1 := h.imp (fun q => q.1) fun q => q.1
/-- **x is a String of the n chars f 0 .. f (n - 1)**, Latin-1 or UTF-16; its array at t has the cell V -/
def Txt (x t : Addr) (V : Cell) (cd : Int32) (n : Nat) (f : Nat → Int32) (U : State) : Prop := Exact "java/lang/String" x U ∧ Has x "java/lang/String" "value" "[B" (.ref t) U ∧ Has x "java/lang/String" "coder" "B" (.int cd) U ∧ XT.Arr .byte t V U ∧ Cod cd n f V ∧ ∀ j, j < n → ¬ f j < 0 ∧ ¬ 65535 < f j
theorem Txt.mv {x t : Addr} {V : Cell} {cd : Int32} {n : Nat} {f : Nat → Int32} {U U' : State} (h : Txt x t V cd n f U) (hal : U.vm.Alike U'.vm) (hh : U'.heap = U.heap) : Txt x t V cd n f U' := ⟨h.1.mv hal hh, h.2.1.mv hal hh, h.2.2.1.mv hal hh, h.2.2.2.1.mv hal hh, h.2.2.2.2⟩
namespace IsL
def yN : MethodName := ⟨"java/lang/String", "isLatin1", "()Z"⟩
abbrev yB : ByteArray := jdk_42_method_154_code
theorem d0 : decode yB 0 = .ok (.getstatic 38, 3) := by decide +kernel
theorem d3 : decode yB 3 = .ok (.ifCond (.eq) 14, 3) := by decide +kernel
theorem d6 : decode yB 6 = .ok (.aload_n 0, 1) := by decide +kernel
theorem d7 : decode yB 7 = .ok (.getfield 15, 3) := by decide +kernel
theorem d10 : decode yB 10 = .ok (.ifCond (.ne) 7, 3) := by decide +kernel
theorem d13 : decode yB 13 = .ok (.iconst 1, 1) := by decide +kernel
theorem d14 : decode yB 14 = .ok (.goto 4, 3) := by decide +kernel
theorem d17 : decode yB 17 = .ok (.iconst 0, 1) := by decide +kernel
theorem d18 : decode yB 18 = .ok (.ireturn, 1) := by decide +kernel
def site : List Cond := [.fieldLink "java/lang/String" 38 "java/lang/String" "COMPACT_STRINGS" "Z", .fieldLink "java/lang/String" 15 "java/lang/String" "coder" "B"]
def tab : Cond := tabOf yN yB 1 (some .boolean) site
def P (x : Addr) (cd z : Int32) (args : Array Value) (s : State) : Prop := args = #[.ref x] ∧ Has x "java/lang/String" "coder" "B" (.int cd) s ∧ (cd = 0 ∨ cd = 1) ∧ StaticIs s "java/lang/String" "COMPACT_STRINGS" "Z" (.int z) ∧ ¬ z = 0
def E (cd : Int32) (r : Option Value) (s u : State) : Prop := XT.PureE (some (.int (1 - cd))) r s u
theorem law (l : Launch) (x : Addr) (cd z : Int32) : Law l yN 1 0 0 0 yB 1 (some .boolean) site (P x cd z) (E cd) [] 0 0 := by
  refine Law.of_walk (plainFor_of_name (by decide +kernel)) (by decide +kernel) (by decide +kernel) (by decide) (fun _ _ h => by rw [h.1]; rfl) (fun _ U U' hal hh h => ⟨h.1, h.2.1.mv hal hh, h.2.2.1, h.2.2.2.1.there hal hh, h.2.2.2.2⟩) (fun r U U' V V' h1 hal h2 h => XT.PureE.mv r U U' V V' h1 hal h2 h) ?_
  intro p e s m args below meth c s₁ X0 hexec hbytes hml hret hlk hnm hown hh0 W hP
  obtain ⟨rfl, hx, hc, s1, hz⟩ := hP
  have c1 : Steps p.tables e below (s₁.setTop (entryFrame m #[.ref x] 1)) (s₁.setTop (mkF m 0 #[.val (.ref x)] [])) := entry rfl
  obtain ⟨T2, X2, q2, st2⟩ := X0.sget hexec hown (wk W (.fieldLink "java/lang/String" 38 "java/lang/String" "COMPACT_STRINGS" "Z")) s1 (fun _ _ h => by rw [hh0]; exact h) (g := (mkF m 0 #[.val (.ref x)] [])) rfl (hb hbytes d0)
  have hh2 := q2.trans hh0
  have c3 : Steps p.tables e below (s₁.setTop (entryFrame m #[.ref x] 1)) (T2.setTop (mkF m 7 #[.val (.ref x)] [.ref x])) := (c1.trans (st2 _ (Steps.refl _))).trans (by
    refine XS.ifNo X2.here hexec rfl (hb hbytes d3) rfl (i0_eq_f hz) ?_
    refine XS.aloadN X2.here hexec rfl (hb hbytes d6) rfl rfl ?_
    exact Steps.refl _)
  obtain ⟨T4, X4, q4, st4⟩ := X2.hget hexec hown (wk W (.fieldLink "java/lang/String" 15 "java/lang/String" "coder" "B")) (hx.mv X2.warmed.alike hh2) (g := (mkF m 7 #[.val (.ref x)] [.ref x])) rfl (rest := []) rfl (hb hbytes d7)
  have c5 : Steps p.tables e below (s₁.setTop (entryFrame m #[.ref x] 1)) (T4.setTop (mkF m 10 #[.val (.ref x)] [.int cd])) := c3.trans (st4 _ (Steps.refl _))
  have c6 : Steps p.tables e below (s₁.setTop (entryFrame m #[.ref x] 1)) (T4.setTop (mkF m 18 #[.val (.ref x)] [.int (1 - cd)])) := by
    rcases hc with rfl | rfl
    · exact c5.trans (by
        refine XS.ifNo X4.here hexec rfl (hb hbytes d10) rfl (i0_ne_f rfl) ?_
        refine iconstV X4.here hexec rfl 1 (hb hbytes d13) (by decide) ?_
        refine XS.goto X4.here hexec rfl (pc0 := 14) rfl (hb hbytes d14) (by decide) rfl ?_
        exact Steps.refl _)
    · exact c5.trans (by
        refine XS.ifYes X4.here hexec rfl (pc0 := 10) rfl (hb hbytes d10) rfl (i0_ne_t (by decide)) (by decide) rfl ?_
        refine iconstV X4.here hexec rfl 0 (hb hbytes d17) (by decide) ?_
        exact Steps.refl _)
  exact ⟨T4, some (.int (1 - cd)), _, _, _, X4, rfl, rfl, rfl, (fun h => by cases h), ⟨rfl, q4.trans hh2⟩, fun fs hl => c6.trans (X4.ireturnOut hexec hret (by rcases hc with rfl | rfl <;> rfl) (Or.inr (Or.inl rfl)) (hb hbytes d18) hl)⟩
end IsL
namespace LChA
def yN : MethodName := ⟨"java/lang/StringLatin1", "charAt", "([BI)C"⟩
abbrev yB : ByteArray := jdk_43_method_2_code
theorem d0 : decode yB 0 = .ok (.iload_n 1, 1) := by decide +kernel
theorem d1 : decode yB 1 = .ok (.aload_n 0, 1) := by decide +kernel
theorem d2 : decode yB 2 = .ok (.arraylength, 1) := by decide +kernel
theorem d3 : decode yB 3 = .ok (.invokestatic 9, 3) := by decide +kernel
theorem d6 : decode yB 6 = .ok (.aload_n 0, 1) := by decide +kernel
theorem d7 : decode yB 7 = .ok (.iload_n 1, 1) := by decide +kernel
theorem d8 : decode yB 8 = .ok (.baload, 1) := by decide +kernel
theorem d9 : decode yB 9 = .ok (.sipush 255, 3) := by decide +kernel
theorem d12 : decode yB 12 = .ok (.iand, 1) := by decide +kernel
theorem d13 : decode yB 13 = .ok (.i2c, 1) := by decide +kernel
theorem d14 : decode yB 14 = .ok (.ireturn, 1) := by decide +kernel
def site : List Cond := [JO.Str_checkIndex.tab] ++ staticW "java/lang/StringLatin1" 9 JO.Str_checkIndex.yN
def tab : Cond := tabOf yN yB 2 (some .char) site
def P (t : Addr) (V : Cell) (i : Nat) (u : Int32) (fm : Value) (args : Array Value) (s : State) : Prop := args = #[.ref t, .int (Int32.ofNat i)] ∧ XT.Arr .byte t V s ∧ V.slots[i]? = some (.int u) ∧ (StaticIs s "jdk/internal/util/Preconditions" "SIOOBE_FORMATTER" "Ljava/util/function/BiFunction;" fm ∧ fm.isRef = true)
def E (u : Int32) (r : Option Value) (s w : State) : Prop := XT.PureE (some (.int (chr8 u))) r s w
theorem law (l : Launch) (t : Addr) (V : Cell) (i : Nat) (u : Int32) (fm : Value) : Law l yN 2 2 2 27 yB 2 (some .char) site (P t V i u fm) (E u) [] 0 0 := by
  refine Law.of_walk (plainFor_of_name (by decide +kernel)) (by decide +kernel) (by decide +kernel) (by decide) (fun _ _ h => by rw [h.1]; rfl) (fun _ U U' hal hh h => ⟨h.1, h.2.1.mv hal hh, h.2.2.1, h.2.2.2.1.there hal hh, h.2.2.2.2⟩) (fun r U U' V V' h1 hal h2 h => XT.PureE.mv r U U' V V' h1 hal h2 h) ?_
  intro p e s m args below meth c s₁ X0 hexec hbytes hml hret hlk hnm hown hh0 W hP
  obtain ⟨rfl, hV, hu, s1, rf⟩ := hP
  have v31 := hV.2.2.2
  have hi : i < V.slots.size := (Array.getElem?_eq_some_iff.mp hu).1
  have c1 : Steps p.tables e below (s₁.setTop (entryFrame m #[.ref t, .int (Int32.ofNat i)] 2)) (s₁.setTop (mkF m 0 #[.val (.ref t), .val (.int (Int32.ofNat i))] [])) := entry rfl
  have c2 : Steps p.tables e below (s₁.setTop (entryFrame m #[.ref t, .int (Int32.ofNat i)] 2)) (s₁.setTop (mkF m 3 #[.val (.ref t), .val (.int (Int32.ofNat i))] [.int (Int32.ofNat V.slots.size), .int (Int32.ofNat i)])) := c1.trans (by
    refine XS.iloadN X0.here hexec rfl (hb hbytes d0) rfl ?_
    refine XS.aloadN X0.here hexec rfl (hb hbytes d1) rfl rfl ?_
    refine X0.alen hexec (hV.mv X0.warmed.alike hh0) rfl rfl (hb hbytes d2) ?_
    exact Steps.refl _)
  obtain ⟨v3, T3, X3, E3, g3⟩ := X0.callS hexec (JO.Str_checkIndex.law l (Int32.ofNat i) (Int32.ofNat V.slots.size) fm) hown (wks W (staticW "java/lang/StringLatin1" 9 JO.Str_checkIndex.yN)) (wk W JO.Str_checkIndex.tab) (W := 0) (Nat.le_of_ble_eq_true rfl) (Nat.le_of_ble_eq_true rfl) (Nat.le_refl _) (Nat.le_refl _) (g := (mkF m 3 #[.val (.ref t), .val (.int (Int32.ofNat i))] [.int (Int32.ofNat V.slots.size), .int (Int32.ofNat i)])) rfl (by rw [hml]; rfl) c2 (argsL := [.int (Int32.ofNat i), .int (Int32.ofNat V.slots.size)]) (rest := []) rfl rfl (by show 2 * 0 + 0 ≤ _; decide) (hb hbytes d3) (⟨rfl, rf, s1.there X0.warmed.alike hh0, Int32.ofNat_not_neg (by omega), lt32 v31 hi⟩)
  obtain ⟨rfl, q3⟩ := E3
  have hh3 := q3.trans hh0
  have c4 : Steps p.tables e below (s₁.setTop (entryFrame m #[.ref t, .int (Int32.ofNat i)] 2)) (T3.setTop (mkF m 14 #[.val (.ref t), .val (.int (Int32.ofNat i))] [.int (chr8 u)])) := Steps.trans g3 (by
    refine XS.aloadN X3.here hexec rfl (hb hbytes d6) rfl rfl ?_
    refine XS.iloadN X3.here hexec rfl (hb hbytes d7) rfl ?_
    refine X3.aget hexec (hV.mv X3.warmed.alike hh3) rfl hu rfl rfl (hb hbytes d8) ?_
    refine sipushV X3.here hexec rfl 255 (hb hbytes d9) (by decide) ?_
    refine XS.iand X3.here hexec rfl (hb hbytes d12) rfl ?_
    refine i2c X3.here hexec rfl (hb hbytes d13) rfl ?_
    exact Steps.refl _)
  exact ⟨T3, some (.int (chr8 u)), _, _, _, X3, rfl, rfl, rfl, (fun h => by cases h), ⟨rfl, hh3⟩, fun fs hl => c4.trans (X3.ireturnOut hexec hret (narrow_c _) (Or.inr (Or.inr (Or.inr (Or.inl rfl)))) (hb hbytes d14) hl)⟩
end LChA
end StrChars
namespace StrChars.Road
open Jvm Sem ClassFile Op Lib Jvm.Stand Jvm.Free Jvm.Free.XT
open Jvm.Lib.Cold (StaticIs)
theorem consq {a : Array Value} {s : State} {c : Jvm.Cond} {L : List Jvm.Cond} (h0 : c.before a s = true) (h : ∀ w ∈ L, w.before a s = true) : ∀ w ∈ c :: L, w.before a s = true := fun w hw => (List.mem_cons.mp hw).elim (fun e => e ▸ h0) (h w)
/-- the bytes of the chars cs, low before high -/
def wideBytes : List Int32 → List Value
  | [] => []
  | c :: cs => .int (lo8 c) :: .int (hi8 c) :: wideBytes cs
theorem wide_lo (d : Value) : ∀ (cs : List Int32) (j : Nat), j < cs.length → (wideBytes cs).getD (2 * j) d = .int (lo8 (cs.getD j 0))
  | [], j, h => absurd h (Nat.not_lt_zero j)
  | c :: cs, 0, _ => rfl
  | c :: cs, j + 1, h => by
    have q := wide_lo d cs j (by simpa using h)
    rw [show 2 * (j + 1) = 2 * j + 1 + 1 from by omega]
    simpa [wideBytes] using q
theorem wide_hi (d : Value) : ∀ (cs : List Int32) (j : Nat), j < cs.length → (wideBytes cs).getD (2 * j + 1) d = .int (hi8 (cs.getD j 0))
  | [], j, h => absurd h (Nat.not_lt_zero j)
  | c :: cs, 0, _ => rfl
  | c :: cs, j + 1, h => by
    have q := wide_hi d cs j (by simpa using h)
    rw [show 2 * (j + 1) + 1 = 2 * j + 1 + 1 + 1 from by omega]
    simpa [wideBytes] using q
theorem low_at (d : Value) (cs : List Int32) (j : Nat) (h : j < cs.length) : (cs.map fun c => Value.int (lo8 c)).getD j d = .int (lo8 (cs.getD j 0)) := by
  simp [List.getD_eq_getElem?_getD, h]
/-- an array of N2 bytes vs codes the chars cs by the coder cd -/
def CodA (cs : List Int32) (cd N2 : Int32) (vs : List Value) : Prop := (cd = 0 ∧ N2 = Int32.ofNat cs.length ∧ vs = (cs.map fun c => Value.int (lo8 c)) ∧ ∀ c ∈ cs, ¬ 255 < c) ∨ (cd = 1 ∧ N2 = Int32.ofNat (2 * cs.length) ∧ vs = wideBytes cs ∧ ∃ c ∈ cs, 255 < c)
theorem CodA.cod {cs : List Int32} {cd N2 : Int32} {vs : List Value} {V : Cell} (h : CodA cs cd N2 vs) (hn : 2 * cs.length < 2 ^ 31) (hs : V.slots.size = N2.toNatClampNeg) (hv : RoadKit.Has V vs (.int 0)) : Cod cd cs.length (fun j => cs.getD j 0) V := by
  rcases h with ⟨rfl, rfl, rfl, h⟩ | ⟨rfl, rfl, rfl, c, hc, hw⟩
  · rw [n32 (by omega)] at hs
    exact Or.inl ⟨rfl, hs, fun j hj => ⟨by rw [hv j (by omega), low_at _ _ _ hj], by
      have e : cs.getD j 0 = cs[j] := by simp [List.getD_eq_getElem?_getD, hj]
      show ¬ 255 < cs.getD j 0
      rw [e]; exact h _ (List.getElem_mem _)⟩⟩
  · rw [n32 (by omega)] at hs
    obtain ⟨j, hj, rfl⟩ := List.getElem_of_mem hc
    exact Or.inr ⟨rfl, hs, fun j hj => ⟨by rw [hv _ (by omega), wide_lo _ _ _ hj], by rw [hv _ (by omega), wide_hi _ _ _ hj]⟩, j, hj, by
      have e : cs.getD j 0 = cs[j] := by simp [List.getD_eq_getElem?_getD, hj]
      show 255 < cs.getD j 0
      rw [e]; exact hw⟩
/-- an object of exactly java/lang/String, its two fields found: as the laws ask it -/
theorem strObj {Z U : State} {a0 : Array Value} {kI : Nat} (wi : (Jvm.Cond.instantiable ST kI).before a0 Z = true) (al : Z.vm.Alike U.vm) {x : Addr} {v0 c0 : Value} (E : RoadKit.Exa Z U.heap x ST) (V : RoadKit.Fld Z U.heap x ST "value" "[B" v0) (C : RoadKit.Fld Z U.heap x ST "coder" "B" c0) :
    ∃ (D : Cell) (fV fC : Field), Blank ST x D U ∧ Found ST "value" "[B" fV U ∧ Found ST "coder" "B" fC U ∧ D.slots[fV.slot]? = some v0 ∧ D.slots[fC.slot]? = some c0 ∧ RoadKit.slotOf Z ST "value" "[B" = fV.slot ∧ RoadKit.slotOf Z ST "coder" "B" = fC.slot := by
  obtain ⟨D, cfV, kV, iV, fV, hD, gV, stV, knV, obV, asV, slV⟩ := V
  obtain ⟨D', cfC, kC, iC, fC, hD', gC, stC, -, -, asC, slC⟩ := C
  cases hD.symm.trans hD'
  obtain ⟨D2, kD, e1, e2, e3, e4, e5⟩ := E
  cases hD.symm.trans e1
  obtain ⟨c2, k2, i1, i2, i3, -⟩ := Cond.instantiable_spec wi
  cases e2.symm.trans i1
  cases e3.symm.trans i2
  obtain ⟨kU, u1, u2⟩ := al.2.2 _ _ e3
  exact ⟨D, fV, fC, ⟨hD, ⟨knV, fun q hq => by rw [hq] at obV; cases obV⟩, by rw [al.findClass]; exact e2, kU, u1, by rw [u2]; exact i3, by rw [u2]; exact e5 i3⟩, ⟨SBG.found_only al ⟨cfV, kV, iV, gV⟩, stV⟩, ⟨SBG.found_only al ⟨cfC, kC, iC, gC⟩, stC⟩, slV, slC, by simp [RoadKit.slotOf, gV], by simp [RoadKit.slotOf, gC]⟩
theorem sta_is {Z U : State} (al : Z.vm.Alike U.vm) {C n d : String} {v : Value} (S : RoadKit.Sta Z U.heap C n d v) : StaticIs U C n d v := by
  obtain ⟨cfS, iS, kS, fS, st, cS, t1, t2, t3, t4, t5, t6, t7⟩ := S
  exact StaticIs.there (s := { Z with heap := U.heap }) ⟨cfS, iS, kS, fS, st, cS, t1, t2, t3, t4, t5, (fun q => by rw [q] at t6; cases t6), t7⟩ al rfl
end StrChars.Road
namespace StrChars
open Jvm Sem ClassFile Op Lib Jvm.Stand Jvm.Free.XT Jvm.Free.ALB Jvm.Free.JM Jvm.Free
open Jvm.Lib.Cold (StaticIs)
namespace Emp
def yN : MethodName := ⟨"java/lang/String", "isEmpty", "()Z"⟩
abbrev yB : ByteArray := jdk_42_method_55_code
theorem d0 : decode yB 0 = .ok (.aload_n 0, 1) := by decide +kernel
theorem d1 : decode yB 1 = .ok (.getfield 9, 3) := by decide +kernel
theorem d4 : decode yB 4 = .ok (.arraylength, 1) := by decide +kernel
theorem d5 : decode yB 5 = .ok (.ifCond (.ne) 7, 3) := by decide +kernel
theorem d8 : decode yB 8 = .ok (.iconst 1, 1) := by decide +kernel
theorem d9 : decode yB 9 = .ok (.goto 4, 3) := by decide +kernel
theorem d12 : decode yB 12 = .ok (.iconst 0, 1) := by decide +kernel
theorem d13 : decode yB 13 = .ok (.ireturn, 1) := by decide +kernel
def site : List Cond := [.fieldLink "java/lang/String" 9 "java/lang/String" "value" "[B"]
def tab : Cond := tabOf yN yB 1 (some .boolean) site
def P (x t : Addr) (V : Cell) (cd : Int32) (n : Nat) (f : Nat → Int32) (args : Array Value) (s : State) : Prop := args = #[.ref x] ∧ Txt x t V cd n f s
def E (n : Nat) (r : Option Value) (s u : State) : Prop := XT.PureE (some (.int (if n = 0 then 1 else 0))) r s u
/-- isEmpty() of a String of n chars -/
theorem law (l : Launch) (x t : Addr) (V : Cell) (cd : Int32) (n : Nat) (f : Nat → Int32) : Law l yN 1 0 0 0 yB 1 (some .boolean) site (P x t V cd n f) (E n) [] 0 0 := by
  refine Law.of_walk (plainFor_of_name (by decide +kernel)) (by decide +kernel) (by decide +kernel) (by decide) (fun _ _ h => by rw [h.1]; rfl) (fun _ U U' hal hh h => ⟨h.1, h.2.mv hal hh⟩) (fun r U U' V V' h1 hal h2 h => XT.PureE.mv r U U' V V' h1 hal h2 h) ?_
  intro p e s m args below meth c s₁ X0 hexec hbytes hml hret hlk hnm hown hh0 W hP
  obtain ⟨rfl, hx⟩ := hP
  have v31 := hx.2.2.2.1.2.2.2
  have c1 : Steps p.tables e below (s₁.setTop (entryFrame m #[.ref x] 1)) (s₁.setTop (mkF m 1 #[.val (.ref x)] [.ref x])) := Steps.trans (entry rfl) (by
    show Steps p.tables e below (s₁.setTop (mkF m 0 #[.val (.ref x)] [])) _
    refine XS.aloadN X0.here hexec rfl (hb hbytes d0) rfl rfl ?_
    exact Steps.refl _)
  obtain ⟨T2, X2, q2, st2⟩ := X0.hget hexec hown (wk W (.fieldLink "java/lang/String" 9 "java/lang/String" "value" "[B")) (hx.mv X0.warmed.alike hh0).2.1 (g := (mkF m 1 #[.val (.ref x)] [.ref x])) rfl (rest := []) rfl (hb hbytes d1)
  have hh2 := q2.trans hh0
  have hx2 := hx.mv X2.warmed.alike hh2
  have c3 : Steps p.tables e below (s₁.setTop (entryFrame m #[.ref x] 1)) (T2.setTop (mkF m 5 #[.val (.ref x)] [.int (Int32.ofNat V.slots.size)])) := (c1.trans (st2 _ (Steps.refl _))).trans (by
    refine X2.alen hexec hx2.2.2.2.1 rfl rfl (hb hbytes d4) ?_
    exact Steps.refl _)
  have hz : V.slots.size = 0 ↔ n = 0 := by
    rcases hx.2.2.2.2.1 with ⟨-, q, -⟩ | ⟨-, q, -⟩ <;> omega
  by_cases h0 : n = 0
  · have c4 : Steps p.tables e below (s₁.setTop (entryFrame m #[.ref x] 1)) (T2.setTop (mkF m 13 #[.val (.ref x)] [.int 1])) := c3.trans (by
      refine XS.ifNo X2.here hexec rfl (hb hbytes d5) rfl (i0_ne_f (by rw [hz.mpr h0]; rfl)) ?_
      refine iconstV X2.here hexec rfl 1 (hb hbytes d8) (by decide) ?_
      refine XS.goto X2.here hexec rfl (pc0 := 9) rfl (hb hbytes d9) (by decide) rfl ?_
      exact Steps.refl _)
    exact ⟨T2, some (.int 1), _, _, _, X2, rfl, rfl, rfl, (fun h => by cases h), ⟨by rw [if_pos h0], hh2⟩, fun fs hl => c4.trans (X2.ireturnOut hexec hret rfl (Or.inr (Or.inl rfl)) (hb hbytes d13) hl)⟩
  · have c4 : Steps p.tables e below (s₁.setTop (entryFrame m #[.ref x] 1)) (T2.setTop (mkF m 13 #[.val (.ref x)] [.int 0])) := c3.trans (by
      refine XS.ifYes X2.here hexec rfl (pc0 := 5) rfl (hb hbytes d5) rfl (i0_ne_t (nz32 v31 (by omega))) (by decide) rfl ?_
      refine iconstV X2.here hexec rfl 0 (hb hbytes d12) (by decide) ?_
      exact Steps.refl _)
    exact ⟨T2, some (.int 0), _, _, _, X2, rfl, rfl, rfl, (fun h => by cases h), ⟨by rw [if_neg h0], hh2⟩, fun fs hl => c4.trans (X2.ireturnOut hexec hret rfl (Or.inr (Or.inl rfl)) (hb hbytes d13) hl)⟩
theorem pays {l : Launch} {R : Room} {p : Program} {e : Env} {below : List Frame} {s : State} {sargs : Array Value} {len W : Nat} (x t : Addr) (V : Cell) (cd : Int32) (n : Nat) (f : Nat → Int32) (htab : tab.before sargs s = true) (hfr : 1 ≤ R.frames) (hlo : W + 12 ≤ R.locals) :
    Back l R p e below s sargs yN len W (fun A₁ a₁ => A₁.cells + 0 ≤ R.cells ∧ A₁.slots + 0 ≤ R.slots ∧ P x t V cd n f a₁ A₁.U) (fun A₁ _ v₁ B₁ => E n v₁ A₁.U B₁.U ∧ B₁.locs = A₁.locs ++ [] ∧ B₁.cells = A₁.cells + 0 ∧ B₁.slots = A₁.slots + 0) :=
  (law l x t V cd n f).pays htab hfr (by omega)
end Emp
end StrChars
namespace StrChars.Road
open Jvm Sem ClassFile Op Lib Jvm.Stand Jvm.Free Jvm.Free.XT
open Jvm.Lib.Cold (StaticIs)
/-- the words of String.isEmpty() -/
abbrev wordsEmp : List Jvm.Cond := [.code Emp.yN Emp.yB 1 (some .boolean), .initialized ST, .fieldLink ST 9 ST "value" "[B"]
theorem tabEmp_of {a : Array Value} {s : State} (h : ∀ w ∈ wordsEmp, w.before a s = true) : Emp.tab.before a s = true := unparts (wk h (.code Emp.yN Emp.yB 1 (some .boolean))) (wks h (.initialized Emp.yN.cls :: Emp.site))
theorem movedEmp {Z s : State} {a0 args : Array Value} (hZ : Z.Warmed39 s.vm) (hw : ∀ d ∈ wordsEmp, d.before a0 Z = true) : ∀ d ∈ wordsEmp, d.before args s = true := fun d hd => by
  have t : ∀ d ∈ wordsEmp, (d.onTables && d.keepsFace) = true := by decide +kernel
  exact RoadKit.mv hZ (hw d hd) (t d hd)
/-- the road's facts of a String, as the laws ask it -/
theorem txt_of {Z U : State} {a0 : Array Value} {kI : Nat} (wi : (Jvm.Cond.instantiable ST kI).before a0 Z = true) (al : Z.vm.Alike U.vm) {x t : Addr} {kb : ClassId} {cs : List Int32} {cd N2 : Int32} {vs : List Value} (E : RoadKit.Exa Z U.heap x ST) (V : RoadKit.Fld Z U.heap x ST "value" "[B" (.ref t)) (C : RoadKit.Fld Z U.heap x ST "coder" "B" (.int cd)) (K : RoadKit.Arv Z U.heap t kb .byte N2 vs (.int 0)) (hc : CodA cs cd N2 vs) (hb : ∀ c ∈ cs, ¬ c < 0 ∧ ¬ (65535 : Int32) < c) (l2 : cs.length ≤ 4000) :
    ∃ A, Txt x t A cd cs.length (fun j => cs.getD j 0) U := by
  obtain ⟨A, K1, K2, K3, K4, K5, K6⟩ := K
  have hcod := hc.cod (by omega) K3 K5
  obtain ⟨D, fV, fC, hB, F1, F2, g1, g2, -, -⟩ := strObj wi al E V C
  exact ⟨A, ⟨_, hB.2.2.1, D, hB.1, rfl, by cases q : D.vm <;> first | rfl | exact absurd q (hB.2.1.2 _)⟩, Has.of hB F1 g1, Has.of hB F2 g2, ⟨K1.1, State.isArrayOf_alike al K1.2.1, K1.2.2, by rcases hcod with ⟨-, q, -⟩ | ⟨-, q, -⟩ <;> omega⟩, hcod, fun j hj => by
    have e : cs.getD j 0 = cs[j] := by simp [List.getD_eq_getElem?_getD, hj]
    show ¬ cs.getD j 0 < 0 ∧ ¬ 65535 < cs.getD j 0
    rw [e]; exact hb _ (List.getElem_mem _)⟩
/-- **isEmpty() OF SUCH A STRING** -/
theorem empW {p : Program} {l : Launch} {e : Env} {R : Room} {s : State} {args : Array Value} {below : List Frame} {len W : Nat} {Z : State} {a0 : Array Value} {h : Heap} (hZ : Z.Warmed39 s.vm) (hw : ∀ d ∈ wordsEmp, d.before a0 Z = true) {kI : Nat} (wi : (Jvm.Cond.instantiable ST kI).before a0 Z = true)
    {x t : Addr} {kb : ClassId} {cs : List Int32} {cd N2 : Int32} {vs : List Value} (E : RoadKit.Exa Z h x ST) (V : RoadKit.Fld Z h x ST "value" "[B" (.ref t)) (C : RoadKit.Fld Z h x ST "coder" "B" (.int cd)) (K : RoadKit.Arv Z h t kb .byte N2 vs (.int 0)) (hc : CodA cs cd N2 vs) (hb : ∀ c ∈ cs, ¬ c < 0 ∧ ¬ (65535 : Int32) < c) (l2 : cs.length ≤ 4000) (hfr : 1 ≤ R.frames) (hlo : W + 12 ≤ R.locals) :
    Back l R p e below s args (⟨"java/lang/String", "isEmpty", "()Z"⟩ : MethodName) len W (fun P a => a = #[.ref x] ∧ P.U.heap = h ∧ P.cells + 0 ≤ R.cells ∧ P.slots + 0 ≤ R.slots)
      (fun P _ v B => ∃ L, (v = some (.int (if cs.length = 0 then 1 else 0)) ∧ L = [] ∧ B.U.heap = h) ∧ B.locs = P.locs ++ L ∧ B.cells = P.cells + 0 ∧ B.slots = P.slots + 0) := by
  intro m meth c P g ig mk a X hg hsize hdg hW hn hp'
  obtain ⟨rfl, rfl, r1, r2⟩ := hp'
  have al : Z.vm.Alike P.U.vm := hZ.alike.trans X.warmed.alike
  obtain ⟨A, hx⟩ := txt_of wi al E V C K hc hb l2
  obtain ⟨v, B, X', ⟨⟨hv, hh⟩, hl, hk, hs⟩, st⟩ := Emp.pays x t A cd cs.length (fun j => cs.getD j 0) (tabEmp_of (movedEmp hZ hw)) hfr hlo m meth c P g ig mk _ X hg hsize hdg hW hn ⟨r1, r2, rfl, hx⟩
  exact ⟨v, B, X', ⟨[], ⟨hv, rfl, hh⟩, hl, hk, hs⟩, st⟩
end StrChars.Road
namespace StrChars
open Jvm Sem ClassFile Op Lib Jvm.Stand Jvm.Free.XT Jvm.Free.ALB Jvm.Free.JM Jvm.Free
open Jvm.Lib.Cold (StaticIs)
namespace ChN
def yN : MethodName := ⟨"java/lang/String", "charAt", "(I)C"⟩
abbrev yB : ByteArray := jdk_42_method_56_code
theorem d0 : decode yB 0 = .ok (.aload_n 0, 1) := by decide +kernel
theorem d1 : decode yB 1 = .ok (.invokevirtual 492, 3) := by decide +kernel
theorem d4 : decode yB 4 = .ok (.ifCond (.eq) 12, 3) := by decide +kernel
theorem d7 : decode yB 7 = .ok (.aload_n 0, 1) := by decide +kernel
theorem d8 : decode yB 8 = .ok (.getfield 9, 3) := by decide +kernel
theorem d11 : decode yB 11 = .ok (.iload_n 1, 1) := by decide +kernel
theorem d12 : decode yB 12 = .ok (.invokestatic 495, 3) := by decide +kernel
theorem d15 : decode yB 15 = .ok (.ireturn, 1) := by decide +kernel
def site : List Cond := [.fieldLink "java/lang/String" 9 "java/lang/String" "value" "[B", IsL.tab, LChA.tab] ++ virtW "java/lang/String" 492 "java/lang/String" IsL.yN IsL.yN ++ staticW "java/lang/String" 495 LChA.yN
def tab : Cond := tabOf yN yB 2 (some .char) site
def P (x t : Addr) (V : Cell) (n : Nat) (f : Nat → Int32) (z : Int32) (fm : Value) (i : Nat) (args : Array Value) (s : State) : Prop := args = #[.ref x, .int (Int32.ofNat i)] ∧ Txt x t V 0 n f s ∧ i < n ∧ StaticIs s "java/lang/String" "COMPACT_STRINGS" "Z" (.int z) ∧ ¬ z = 0 ∧ StaticIs s "jdk/internal/util/Preconditions" "SIOOBE_FORMATTER" "Ljava/util/function/BiFunction;" fm ∧ fm.isRef = true
def E (f : Nat → Int32) (i : Nat) (r : Option Value) (s u : State) : Prop := XT.PureE (some (.int (f i))) r s u
/-- charAt(i) of a Latin-1 String of n chars, i < n: f i -/
theorem law (l : Launch) (x t : Addr) (V : Cell) (n : Nat) (f : Nat → Int32) (z : Int32) (fm : Value) (i : Nat) : Law l yN 2 1 3 40 yB 2 (some .char) site (P x t V n f z fm i) (E f i) [] 0 0 := by
  refine Law.of_walk (plainFor_of_name (by decide +kernel)) (by decide +kernel) (by decide +kernel) (by decide) (fun _ _ h => by rw [h.1]; rfl) (fun _ U U' hal hh h => ⟨h.1, h.2.1.mv hal hh, h.2.2.1, h.2.2.2.1.there hal hh, h.2.2.2.2.1, h.2.2.2.2.2.1.there hal hh, h.2.2.2.2.2.2⟩) (fun r U U' V V' h1 hal h2 h => XT.PureE.mv r U U' V V' h1 hal h2 h) ?_
  intro p e s m args below meth c s₁ X0 hexec hbytes hml hret hlk hnm hown hh0 W hP
  obtain ⟨rfl, hx, hi, s1, hz, s3, rf⟩ := hP
  have v31 := hx.2.2.2.1.2.2.2
  have hr := hx.2.2.2.2.2 i hi
  have hx0 := hx.mv X0.warmed.alike hh0
  have c1 : Steps p.tables e below (s₁.setTop (entryFrame m #[.ref x, .int (Int32.ofNat i)] 2)) (s₁.setTop (mkF m 1 #[.val (.ref x), .val (.int (Int32.ofNat i))] [.ref x])) := Steps.trans (entry rfl) (by
    show Steps p.tables e below (s₁.setTop (mkF m 0 #[.val (.ref x), .val (.int (Int32.ofNat i))] [])) _
    refine XS.aloadN X0.here hexec rfl (hb hbytes d0) rfl rfl ?_
    exact Steps.refl _)
  obtain ⟨v2, T2, X2, E2, g2⟩ := X0.callV hexec (IsL.law l x 0 z) hown (wks W (virtW "java/lang/String" 492 "java/lang/String" IsL.yN IsL.yN)) rfl (by decide) (wk W IsL.tab) (W := 0) (Nat.le_of_ble_eq_true rfl) (Nat.le_of_ble_eq_true rfl) (Nat.le_refl _) (Nat.le_refl _) (hx0.1.fc X0.warmed.alike) hx0.1.is (g := (mkF m 1 #[.val (.ref x), .val (.int (Int32.ofNat i))] [.ref x])) rfl (by rw [hml]; rfl) c1 (argsL := []) (rest := []) rfl rfl (by show 2 * 0 + 0 ≤ _; decide) (hb hbytes d1) (⟨rfl, hx0.2.2.1, hx.2.2.2.2.1.cd, s1.there X0.warmed.alike hh0, hz⟩)
  obtain ⟨rfl, q2⟩ := E2
  have hh2 := q2.trans hh0
  have hx2 := hx.mv X2.warmed.alike hh2
  obtain ⟨-, k1, k2⟩ | ⟨k0, -⟩ := hx.2.2.2.2.1
  · have c3 : Steps p.tables e below (s₁.setTop (entryFrame m #[.ref x, .int (Int32.ofNat i)] 2)) (T2.setTop (mkF m 8 #[.val (.ref x), .val (.int (Int32.ofNat i))] [.ref x])) := Steps.trans g2 (by
      refine XS.ifNo X2.here hexec rfl (hb hbytes d4) rfl (i0_eq_f (by decide)) ?_
      refine XS.aloadN X2.here hexec rfl (hb hbytes d7) rfl rfl ?_
      exact Steps.refl _)
    obtain ⟨T4, X4, q4, st4⟩ := X2.hget hexec hown (wk W (.fieldLink "java/lang/String" 9 "java/lang/String" "value" "[B")) hx2.2.1 (g := (mkF m 8 #[.val (.ref x), .val (.int (Int32.ofNat i))] [.ref x])) rfl (rest := []) rfl (hb hbytes d8)
    have hh4 := q4.trans hh2
    have c5 : Steps p.tables e below (s₁.setTop (entryFrame m #[.ref x, .int (Int32.ofNat i)] 2)) (T4.setTop (mkF m 12 #[.val (.ref x), .val (.int (Int32.ofNat i))] [.int (Int32.ofNat i), .ref t])) := (c3.trans (st4 _ (Steps.refl _))).trans (by
      refine XS.iloadN X4.here hexec rfl (hb hbytes d11) rfl ?_
      exact Steps.refl _)
    obtain ⟨v6, T6, X6, E6, g6⟩ := X4.callS hexec (LChA.law l t V i (lo8 (f i)) fm) hown (wks W (staticW "java/lang/String" 495 LChA.yN)) (wk W LChA.tab) (W := 0) (Nat.le_of_ble_eq_true rfl) (Nat.le_of_ble_eq_true rfl) (Nat.le_refl _) (Nat.le_refl _) (g := (mkF m 12 #[.val (.ref x), .val (.int (Int32.ofNat i))] [.int (Int32.ofNat i), .ref t])) rfl (by rw [hml]; rfl) c5 (argsL := [.ref t, .int (Int32.ofNat i)]) (rest := []) rfl rfl (by show 2 * 0 + 0 ≤ _; decide) (hb hbytes d12) (⟨rfl, hx.2.2.2.1.mv X4.warmed.alike hh4, (k2 i hi).1, s3.there X4.warmed.alike hh4, rf⟩)
    obtain ⟨rfl, q6⟩ := E6
    rw [chr8_lo8 hr.1 (k2 i hi).2] at g6
    exact ⟨T6, some (.int (f i)), _, _, _, X6, rfl, rfl, rfl, (fun h => by cases h), ⟨rfl, q6.trans hh4⟩, fun fs hl => Steps.trans g6 (X6.ireturnOut hexec hret (narrow_ch hr.1 hr.2) (Or.inr (Or.inr (Or.inr (Or.inl rfl)))) (hb hbytes d15) hl)⟩
  · exact absurd k0 (by decide)
theorem pays {l : Launch} {R : Room} {p : Program} {e : Env} {below : List Frame} {s : State} {sargs : Array Value} {len W : Nat} (x t : Addr) (V : Cell) (n : Nat) (f : Nat → Int32) (z : Int32) (fm : Value) (i : Nat) (htab : tab.before sargs s = true) (hfr : 4 ≤ R.frames) (hlo : W + 53 ≤ R.locals) :
    Back l R p e below s sargs yN len W (fun A₁ a₁ => A₁.cells + 0 ≤ R.cells ∧ A₁.slots + 0 ≤ R.slots ∧ P x t V n f z fm i a₁ A₁.U) (fun A₁ _ v₁ B₁ => E f i v₁ A₁.U B₁.U ∧ B₁.locs = A₁.locs ++ [] ∧ B₁.cells = A₁.cells + 0 ∧ B₁.slots = A₁.slots + 0) :=
  (law l x t V n f z fm i).pays htab hfr (by omega)
end ChN
end StrChars
namespace StrChars.Road
open Jvm Sem ClassFile Op Lib Jvm.Stand Jvm.Free Jvm.Free.XT
open Jvm.Lib.Cold (StaticIs)
/-- the words of String.charAt(int), the Latin-1 road alone -/
abbrev wordsChN : List Jvm.Cond := [.code ChN.yN ChN.yB 2 (some .char), .initialized ST, .fieldLink ST 9 ST "value" "[B", .fieldLink ST 38 ST "COMPACT_STRINGS" "Z", .fieldLink ST 15 ST "coder" "B", .code IsL.yN IsL.yB 1 (some .boolean), .methodLink ST 492 IsL.yN, .declares IsL.yN, .selects ST IsL.yN IsL.yN, .instanceMethod IsL.yN,
  .methodLink ST 495 LChA.yN, .static LChA.yN, .code LChA.yN LChA.yB 2 (some .char), .initialized "java/lang/StringLatin1", .methodLink "java/lang/StringLatin1" 9 JO.Str_checkIndex.yN, .static JO.Str_checkIndex.yN, .code JO.Str_checkIndex.yN JO.Str_checkIndex.yB 2 none,
  .fieldLink ST 1053 "jdk/internal/util/Preconditions" "SIOOBE_FORMATTER" "Ljava/util/function/BiFunction;", .methodLink ST 1059 JC.PreCheck.yN, .static JC.PreCheck.yN, .code JC.PreCheck.yN JC.PreCheck.yB 3 (some .int), .initialized "jdk/internal/util/Preconditions"]
theorem tabChN_of {a : Array Value} {s : State} (h : ∀ w ∈ wordsChN, w.before a s = true) : ChN.tab.before a s = true := by
  have hp : JC.PreCheck.tab.before a s = true := unparts (wk h (.code JC.PreCheck.yN JC.PreCheck.yB 3 (some .int))) (wks h (.initialized JC.PreCheck.yN.cls :: JC.PreCheck.site))
  have qk := consq hp h
  have hk : JO.Str_checkIndex.tab.before a s = true := unparts (wk qk (.code JO.Str_checkIndex.yN JO.Str_checkIndex.yB 2 none)) (wks qk (.initialized JO.Str_checkIndex.yN.cls :: JO.Str_checkIndex.site))
  have ql := consq hk h
  have hl : LChA.tab.before a s = true := unparts (wk ql (.code LChA.yN LChA.yB 2 (some .char))) (wks ql (.initialized LChA.yN.cls :: LChA.site))
  have hi : IsL.tab.before a s = true := unparts (wk h (.code IsL.yN IsL.yB 1 (some .boolean))) (wks h (.initialized IsL.yN.cls :: IsL.site))
  have q := consq hi (consq hl h)
  exact unparts (wk q (.code ChN.yN ChN.yB 2 (some .char))) (wks q (.initialized ChN.yN.cls :: ChN.site))
theorem movedChN {Z s : State} {a0 args : Array Value} (hZ : Z.Warmed39 s.vm) (hw : ∀ d ∈ wordsChN, d.before a0 Z = true) : ∀ d ∈ wordsChN, d.before args s = true := fun d hd => by
  have t : ∀ d ∈ wordsChN, (d.onTables && d.keepsFace) = true := by decide +kernel
  exact RoadKit.mv hZ (hw d hd) (t d hd)
/-- **charAt(i) OF A LATIN-1 STRING**, i < n: the char -/
theorem chN {p : Program} {l : Launch} {e : Env} {R : Room} {s : State} {args : Array Value} {below : List Frame} {len W : Nat} {Z : State} {a0 : Array Value} {h : Heap} (hZ : Z.Warmed39 s.vm) (hw : ∀ d ∈ wordsChN, d.before a0 Z = true) {kI : Nat} (wi : (Jvm.Cond.instantiable ST kI).before a0 Z = true)
    {x t : Addr} {kb : ClassId} {cs : List Int32} {N2 z : Int32} {vs : List Value} {fm : Value} {i : Nat} {j : Int32} (E : RoadKit.Exa Z h x ST) (V : RoadKit.Fld Z h x ST "value" "[B" (.ref t)) (C : RoadKit.Fld Z h x ST "coder" "B" (.int 0)) (K : RoadKit.Arv Z h t kb .byte N2 vs (.int 0)) (hc : CodA cs 0 N2 vs) (hb : ∀ c ∈ cs, ¬ c < 0 ∧ ¬ (65535 : Int32) < c)
    (S : RoadKit.Sta Z h ST "COMPACT_STRINGS" "Z" (.int z)) (hz : ¬ z = 0) (F : RoadKit.Sta Z h "jdk/internal/util/Preconditions" "SIOOBE_FORMATTER" "Ljava/util/function/BiFunction;" fm) (rf : fm.isRef = true) (l2 : cs.length ≤ 4000) (hi : i < cs.length) (hj : j = Int32.ofNat i) (hfr : 4 ≤ R.frames) (hlo : W + 53 ≤ R.locals) :
    Back l R p e below s args (⟨"java/lang/String", "charAt", "(I)C"⟩ : MethodName) len W (fun P a => a = #[.ref x, .int j] ∧ P.U.heap = h ∧ P.cells + 0 ≤ R.cells ∧ P.slots + 0 ≤ R.slots)
      (fun P _ v B => ∃ L, (v = some (.int (cs.getD i 0)) ∧ L = [] ∧ B.U.heap = h) ∧ B.locs = P.locs ++ L ∧ B.cells = P.cells + 0 ∧ B.slots = P.slots + 0) := by
  subst hj
  intro m meth c P g ig mk a X hg hsize hdg hW hn hp'
  obtain ⟨rfl, rfl, r1, r2⟩ := hp'
  have al : Z.vm.Alike P.U.vm := hZ.alike.trans X.warmed.alike
  obtain ⟨A, hx⟩ := txt_of wi al E V C K hc hb l2
  obtain ⟨v, B, X', ⟨⟨hv, hh⟩, hl, hk, hs⟩, st⟩ := ChN.pays x t A cs.length (fun j => cs.getD j 0) z fm i (tabChN_of (movedChN hZ hw)) hfr hlo m meth c P g ig mk _ X hg hsize hdg hW hn ⟨r1, r2, rfl, hx, hi, sta_is al S, hz, sta_is al F, rf⟩
  exact ⟨v, B, X', ⟨[], ⟨hv, rfl, hh⟩, hl, hk, hs⟩, st⟩
/-- what backV says of its String, as the contracts of this text ask it: cs's low bytes, coder 0 -/
theorem codOf {cs : List Int32} {n : Nat} (hn : cs.length = n) (hb : ∀ c ∈ cs, ¬ 255 < c) : CodA cs 0 (Int32.ofNat n) ((cs.map lo8).map Value.int) := Or.inl ⟨rfl, by rw [hn], by simp [List.map_map, Function.comp_def], hb⟩
end StrChars.Road
end Jvm.Pilot.@@N@@
namespace Jvm.Pilot.@@N@@
open Jvm Jvm.ClassFile Sem Op Lib Jvm.Free Jvm.Stand Jvm.LawKit Jvm.RoadKit Bundle Jvm.Pilot.@@N@@.Jvm.D
section OwnKit
variable {p : Program} {l : Launch} {e : Env} {R : Room} {s : State} {m : MethodId} {args : Array Value} {below : List Frame} {meth : Method} {c : Code} {T T' : State} {cells slots : Nat} {Z : State} {a0 : Array Value} {EL : List (String × Nat)} {vm0 : Vm} {h h' : Heap} {own : String} {n0 : Nat} {Q : Outcome → State → Prop} {g g' : JFrame}
/-- from this frame the run comes to an end of which Q holds -/
def Go (p : Program) (e : Env) (below : List Frame) (Q : Outcome → State → Prop) (T : State) (g : JFrame) : Prop :=
  ∃ s₂ o, Steps p.tables e below (T.setTop g) s₂ ∧ s₂.status = .running ∧ Ended s₂ below o ∧ Q o s₂
theorem Go.st (st : ∀ t, Steps p.tables e below (T'.setTop g') t → Steps p.tables e below (T.setTop g) t) (k : Go p e below Q T' g') : Go p e below Q T g := by
  obtain ⟨s₂, o, h1, h2⟩ := k
  exact ⟨s₂, o, st _ h1, h2⟩
theorem Go.tr (st : Steps p.tables e below (T.setTop g) (T'.setTop g')) (k : Go p e below Q T' g') : Go p e below Q T g := by
  obtain ⟨s₂, o, h1, h2⟩ := k
  exact ⟨s₂, o, st.trans h1, h2⟩
theorem own_ne {x y : Nat} (h : ¬ @Eq Nat x y) : @Ne Addr x y := h
theorem own_nn {x y : Addr} (h : x ≠ y) : ¬ @Eq Nat x y := h
theorem own_cat {v : Value} (h : v.isRef = true) : v.category = 1 := by cases v <;> simp [Value.isRef] at h <;> rfl
theorem own_catI (x : Int32) : (Value.int x).category = 1 := rfl
theorem own_catJ (x : Int64) : (Value.long x).category = 2 := rfl
theorem own_catD (x : UInt64) : (Value.double x).category = 2 := rfl
theorem own_catA (x : Addr) : (Value.ref x).category = 1 := rfl
theorem own_catN : Value.null.category = 1 := rfl
theorem own_safe0 {vm : Vm} {x : Addr} (hE : EL = []) : Safe Z EL vm h x := fun B => by
  obtain ⟨q, hq, -⟩ := B
  rw [hE] at hq; cases hq
/-- where the walk stands -/
def Wk (p : Program) (l : Launch) (e : Env) (R : Room) (s : State) (m : MethodId) (args : Array Value) (below : List Frame) (meth : Method) (c : Code) (Z : State) (EL : List (String × Nat)) (own : String) (n0 : Nat) (vm0 : Vm) (T : State) (h : Heap) (cells slots : Nat) : Prop :=
  ∃ (locs : List Loc) (k0 : Nat), Stand p l e R (s.setVm vm0) m args below meth c T locs cells slots ∧ T.heap = h ∧ s.Since vm0 k0 ∧ k0 ≤ h.size ∧ Z.Warmed39 vm0 ∧ vm0.findClass own = some m.cls ∧ CHr Z EL s.vm s.heap vm0 h ∧ Fr n0 locs ∧ Old Z n0 h ∧ True
theorem Wk.here (W : Wk p l e R s m args below meth c Z EL own n0 vm0 T h cells slots) : At T m c below := by
  obtain ⟨locs, k0, X, eT, hS, hk, hZ, hown, hC, N, O, hKK⟩ := W
  exact X.here
theorem Wk.warm (W : Wk p l e R s m args below meth c Z EL own n0 vm0 T h cells slots) : Z.Warmed39 vm0 := by
  obtain ⟨locs, k0, X, eT, hS, hk, hZ, hown, hC, N, O, hKK⟩ := W
  exact hZ
theorem Wk.warmS (W : Wk p l e R s m args below meth c Z EL own n0 vm0 T h cells slots) : Z.Warmed39 (s.setVm vm0).vm := by
  obtain ⟨locs, k0, X, eT, hS, hk, hZ, hown, hC, N, O, hKK⟩ := W
  exact hZ
theorem Wk.old (W : Wk p l e R s m args below meth c Z EL own n0 vm0 T h cells slots) : Old Z n0 h := by
  obtain ⟨locs, k0, X, eT, hS, hk, hZ, hown, hC, N, O, hKK⟩ := W
  exact O
theorem Wk.ge (W : Wk p l e R s m args below meth c Z EL own n0 vm0 T h cells slots) : n0 ≤ h.size := by have q := W.old; exact q.1 ▸ q.2.1
theorem Wk.stand (W : Wk p l e R s m args below meth c Z EL own n0 vm0 T h cells slots) : ∃ locs, Stand p l e R (s.setVm vm0) m args below meth c T locs cells slots := by
  obtain ⟨locs, k0, X, eT, hS, hk, hZ, hown, hC, N, O, hKK⟩ := W
  exact ⟨_, X⟩
theorem Wk.heap (W : Wk p l e R s m args below meth c Z EL own n0 vm0 T h cells slots) : T.heap = h := by
  obtain ⟨locs, k0, X, eT, hS, hk, hZ, hown, hC, N, O, hKK⟩ := W
  exact eT
theorem Wk.owns (W : Wk p l e R s m args below meth c Z EL own n0 vm0 T h cells slots) : (s.setVm vm0).vm.findClass own = some m.cls := by
  obtain ⟨locs, k0, X, eT, hS, hk, hZ, hown, hC, N, O, hKK⟩ := W
  exact hown
theorem Wk.chv (W : Wk p l e R s m args below meth c Z EL own n0 vm0 T h cells slots) : CHv Z EL vm0 h := by
  obtain ⟨locs, k0, X, eT, hS, hk, hZ, hown, hC, N, O, hKK⟩ := W
  exact hC.1
theorem Wk.sta {C n d : String} {v : Value} (W : Wk p l e R s m args below meth c Z EL own n0 vm0 T h cells slots) (S : Sta Z Z.heap C n d v) : Sta Z h C n d v := S.ext W.old.2
theorem Wk.safeArv {x : Addr} {k : ClassId} {ty : FieldType} {z : Int32} {vs : List Value} {d : Value} (W : Wk p l e R s m args below meth c Z EL own n0 vm0 T h cells slots) (A : Arv Z h x k ty z vs d) (ht : ty ≠ .byte) : Safe Z EL vm0 h x := Safe.arv W.warm.alike A ht
theorem Wk.safeExa {x : Addr} {C : String} (W : Wk p l e R s m args below meth c Z EL own n0 vm0 T h cells slots) (E : Exa Z h x C) (h1 : C ≠ "java/lang/String") (h2 : C ≠ "[B") : Safe Z EL vm0 h x := Safe.exa W.warm.alike E h1 h2
theorem Wk.more {cells' slots' : Nat} (W : Wk p l e R s m args below meth c Z EL own n0 vm0 T h cells slots) (h1 : cells ≤ cells') (h2 : slots ≤ slots') : Wk p l e R s m args below meth c Z EL own n0 vm0 T h cells' slots' := by
  obtain ⟨locs, r⟩ := W
  obtain ⟨k0, X, r⟩ := r
  exact ⟨locs, k0, X.more h1 h2, r⟩
theorem Wk.newO (W : Wk p l e R s m args below meth c Z EL own n0 vm0 T h cells slots) (hx : p.tables.exec = Jvm.exec) {C : String} {index n : Nat} (w : (Cond.classLink own index C).before a0 Z = true) (wi : (Cond.instantiable C n).before a0 Z = true) (wz : (Cond.initialized C).before a0 Z = true)
    (hg : g.method = m) (hd : decode c.code g.pc = .ok (.new index, 3)) (hc : cells + 1 ≤ R.cells) (hl : slots + n ≤ R.slots) :
    ∃ T' h' a, a = h.size ∧ Wk p l e R s m args below meth c Z EL own n0 vm0 T' h' (cells + 1) (slots + n) ∧ Ext h h' ∧ h.size < h'.size ∧ Exa Z h' a C ∧ (∀ {O nm d : String} {ty : FieldType}, Laid Z a0 C O nm d → parseFieldDescriptor d = some ty → Fld Z h' a O nm d (defaultValue ty)) ∧ Safe Z EL vm0 h' a ∧ (∀ x, x < h.size → Safe Z EL vm0 h x → Safe Z EL vm0 h' x) ∧ (∃ cell : Cell, h'[a]? = some cell ∧ cell.vm = .none ∧ cell.monitor = {}) ∧
      ∀ target, Steps p.tables e below (T'.setTop { g with pc := g.pc + 3, stack := .ref a :: g.stack }) target → Steps p.tables e below (T.setTop g) target := by
  obtain ⟨locs, k0, X, eT, hS, hk, hZ, hown, hC, N, O, hKK⟩ := W
  obtain ⟨T', h', X', e', E, A, D, U, st⟩ := RoadKit.newO X hx hZ hown w wi wz eT hg hd hc hl
  exact ⟨T', h', h.size, rfl, ⟨_, k0, X', e', hS, Nat.le_trans hk E.1, hZ, hown, hC.trans (CHr.ext E hC.1), N, O.ext E, hKK⟩, E, A.lt, A, D, Safe.ext E hC.1 (Safe.new (Nat.le_refl _)), fun x _ q => Safe.ext E hC.1 q, U, st⟩
theorem Wk.newP (W : Wk p l e R s m args below meth c Z EL own n0 vm0 T h cells slots) (hx : p.tables.exec = Jvm.exec) {aty : ArrayType} {ty : FieldType} (hty : newarray.typeOf aty = ty) (w : (Cond.arrayClass ty).before a0 Z = true)
    (hg : g.method = m) (hd : decode c.code g.pc = .ok (.newarray aty, 2)) {n : Int32} {rest : List Value} (hs : g.stack = .int n :: rest) (hn : ¬ n < 0) {cap : Nat} (hcap : n.toNatClampNeg ≤ cap) (hb : cap * 8 ≤ 536870912) (hc : cells + 1 ≤ R.cells) (hl : slots + cap ≤ R.slots) (NN : Nat) :
    ∃ T' h' a k, a = h.size ∧ Wk p l e R s m args below meth c Z EL own n0 vm0 T' h' (cells + 1) (slots + cap) ∧ Ext h h' ∧ h.size < h'.size ∧ Arv Z h' a k ty n (List.replicate NN (defaultValue ty)) (defaultValue ty) ∧ Safe Z EL vm0 h' a ∧ (∀ x, x < h.size → Safe Z EL vm0 h x → Safe Z EL vm0 h' x) ∧
      ∀ target, Steps p.tables e below (T'.setTop { g with pc := g.pc + 2, stack := .ref a :: rest }) target → Steps p.tables e below (T.setTop g) target := by
  subst hty
  obtain ⟨locs, k0, X, eT, hS, hk, hZ, hown, hC, N, O, hKK⟩ := W
  obtain ⟨T', h', cA, X', e', E, A, st⟩ := RoadKit.newP X hx hZ w eT hg hd hs hn hcap hb hc hl
  exact ⟨T', h', h.size, cA, rfl, ⟨_, k0, X', e', hS, Nat.le_trans hk E.1, hZ, hown, hC.trans (CHr.ext E hC.1), N, O.ext E, hKK⟩, E, A.lt, (Arv.new A hn).pad (pad_rep [] _ NN), Safe.ext E hC.1 (Safe.new (Nat.le_refl _)), fun x _ q => Safe.ext E hC.1 q, st⟩
theorem Wk.stC (W : Wk p l e R s m args below meth c Z EL own n0 vm0 T h cells slots) (hx : p.tables.exec = Jvm.exec) {a : Addr} {k : ClassId} {z j : Int32} {x : Int32} {vs : List Value} {d : Value} (A : Arv Z h a k .char z vs d) (hj : ¬ j < 0 ∧ j < z) (i : Nat) (hi : j.toNatClampNeg = i) (hlen : i < vs.length) (ha : n0 ≤ a)
    (hg : g.method = m) {rest : List Value} (hs : g.stack = .int x :: .int j :: .ref a :: rest) (hd : decode c.code g.pc = .ok (.castore, 1)) :
    ∃ T' h', Wk p l e R s m args below meth c Z EL own n0 vm0 T' h' cells slots ∧ Wr h h' a i (.int (nar .char x)) ∧ h'.size = h.size ∧ Arv Z h' a k .char z (vs.set i (.int (nar .char x))) d ∧ (∀ x, x < h.size → Safe Z EL vm0 h x → Safe Z EL vm0 h' x) ∧
      ∀ target, Steps p.tables e below (T'.setTop { g with pc := g.pc + 1, stack := rest }) target → Steps p.tables e below (T.setTop g) target := by
  have S := W.safeArv A (by decide)
  obtain ⟨locs, k0, X, eT, hS, hk, hZ, hown, hC, N, O, hKK⟩ := W
  obtain ⟨cl, A1, q1, q2, q3, q4, q5⟩ := A
  obtain ⟨T', h', X', e', Wr', st⟩ := RoadKit.stC X hx hZ eT A1 (inb_of q2 hj) hg hs hd
  have Wr2 := Wr'
  rw [hi] at Wr2
  exact ⟨T', h', ⟨_, k0, X', e', hS, (by rw [Wr'.size]; exact hk), hZ, hown, hC.trans (CHr.wr Wr' S hC.1), Fr.snoc X' N ha, O.wr Wr' ha, hKK⟩, Wr2, Wr'.size, Arv.set A1 q1 q2 q3 q4 q5 (fits_nar_char _) Wr' i hi hlen, fun x _ q => Safe.wr Wr' S hC.1 q, st⟩
theorem Wk.stB (W : Wk p l e R s m args below meth c Z EL own n0 vm0 T h cells slots) (hx : p.tables.exec = Jvm.exec) {a : Addr} {k : ClassId} {z j : Int32} {x : Int32} {vs : List Value} {d : Value} (A : Arv Z h a k .byte z vs d) (S : Safe Z EL vm0 h a) (hj : ¬ j < 0 ∧ j < z) (i : Nat) (hi : j.toNatClampNeg = i) (hlen : i < vs.length) (ha : n0 ≤ a)
    (hg : g.method = m) {rest : List Value} (hs : g.stack = .int x :: .int j :: .ref a :: rest) (hd : decode c.code g.pc = .ok (.bastore, 1)) :
    ∃ T' h', Wk p l e R s m args below meth c Z EL own n0 vm0 T' h' cells slots ∧ Wr h h' a i (.int (nar .byte x)) ∧ h'.size = h.size ∧ Arv Z h' a k .byte z (vs.set i (.int (nar .byte x))) d ∧ (∀ x, x < h.size → Safe Z EL vm0 h x → Safe Z EL vm0 h' x) ∧
      ∀ target, Steps p.tables e below (T'.setTop { g with pc := g.pc + 1, stack := rest }) target → Steps p.tables e below (T.setTop g) target := by
  obtain ⟨locs, k0, X, eT, hS, hk, hZ, hown, hC, N, O, hKK⟩ := W
  obtain ⟨cl, A1, q1, q2, q3, q4, q5⟩ := A
  obtain ⟨T', h', X', e', Wr', st⟩ := RoadKit.stB X hx hZ eT A1 (inb_of q2 hj) hg hs hd
  have Wr2 := Wr'
  rw [hi] at Wr2
  exact ⟨T', h', ⟨_, k0, X', e', hS, (by rw [Wr'.size]; exact hk), hZ, hown, hC.trans (CHr.wr Wr' S hC.1), Fr.snoc X' N ha, O.wr Wr' ha, hKK⟩, Wr2, Wr'.size, Arv.set A1 q1 q2 q3 q4 q5 (fits_nar_byte _) Wr' i hi hlen, fun x _ q => Safe.wr Wr' S hC.1 q, st⟩
theorem Wk.stI (W : Wk p l e R s m args below meth c Z EL own n0 vm0 T h cells slots) (hx : p.tables.exec = Jvm.exec) {a : Addr} {k : ClassId} {z j : Int32} {x : Int32} {vs : List Value} {d : Value} (A : Arv Z h a k .int z vs d) (hj : ¬ j < 0 ∧ j < z) (i : Nat) (hi : j.toNatClampNeg = i) (hlen : i < vs.length) (ha : n0 ≤ a)
    (hg : g.method = m) {rest : List Value} (hs : g.stack = .int x :: .int j :: .ref a :: rest) (hd : decode c.code g.pc = .ok (.iastore, 1)) :
    ∃ T' h', Wk p l e R s m args below meth c Z EL own n0 vm0 T' h' cells slots ∧ Wr h h' a i (.int x) ∧ h'.size = h.size ∧ Arv Z h' a k .int z (vs.set i (.int x)) d ∧ (∀ x, x < h.size → Safe Z EL vm0 h x → Safe Z EL vm0 h' x) ∧
      ∀ target, Steps p.tables e below (T'.setTop { g with pc := g.pc + 1, stack := rest }) target → Steps p.tables e below (T.setTop g) target := by
  have S := W.safeArv A (by decide)
  obtain ⟨locs, k0, X, eT, hS, hk, hZ, hown, hC, N, O, hKK⟩ := W
  obtain ⟨cl, A1, q1, q2, q3, q4, q5⟩ := A
  obtain ⟨T', h', X', e', Wr', st⟩ := RoadKit.stI X hx hZ eT A1 (inb_of q2 hj) hg hs hd
  have Wr2 := Wr'
  rw [hi] at Wr2
  exact ⟨T', h', ⟨_, k0, X', e', hS, (by rw [Wr'.size]; exact hk), hZ, hown, hC.trans (CHr.wr Wr' S hC.1), Fr.snoc X' N ha, O.wr Wr' ha, hKK⟩, Wr2, Wr'.size, Arv.set A1 q1 q2 q3 q4 q5 rfl Wr' i hi hlen, fun x _ q => Safe.wr Wr' S hC.1 q, st⟩
theorem Wk.stJ (W : Wk p l e R s m args below meth c Z EL own n0 vm0 T h cells slots) (hx : p.tables.exec = Jvm.exec) {a : Addr} {k : ClassId} {z j : Int32} {x : Int64} {vs : List Value} {d : Value} (A : Arv Z h a k .long z vs d) (hj : ¬ j < 0 ∧ j < z) (i : Nat) (hi : j.toNatClampNeg = i) (hlen : i < vs.length) (ha : n0 ≤ a)
    (hg : g.method = m) {rest : List Value} (hs : g.stack = .long x :: .int j :: .ref a :: rest) (hd : decode c.code g.pc = .ok (.lastore, 1)) :
    ∃ T' h', Wk p l e R s m args below meth c Z EL own n0 vm0 T' h' cells slots ∧ Wr h h' a i (.long x) ∧ h'.size = h.size ∧ Arv Z h' a k .long z (vs.set i (.long x)) d ∧ (∀ x, x < h.size → Safe Z EL vm0 h x → Safe Z EL vm0 h' x) ∧
      ∀ target, Steps p.tables e below (T'.setTop { g with pc := g.pc + 1, stack := rest }) target → Steps p.tables e below (T.setTop g) target := by
  have S := W.safeArv A (by decide)
  obtain ⟨locs, k0, X, eT, hS, hk, hZ, hown, hC, N, O, hKK⟩ := W
  obtain ⟨cl, A1, q1, q2, q3, q4, q5⟩ := A
  obtain ⟨T', h', X', e', Wr', st⟩ := RoadKit.stJ X hx hZ eT A1 (inb_of q2 hj) hg hs hd
  have Wr2 := Wr'
  rw [hi] at Wr2
  exact ⟨T', h', ⟨_, k0, X', e', hS, (by rw [Wr'.size]; exact hk), hZ, hown, hC.trans (CHr.wr Wr' S hC.1), Fr.snoc X' N ha, O.wr Wr' ha, hKK⟩, Wr2, Wr'.size, Arv.set A1 q1 q2 q3 q4 q5 rfl Wr' i hi hlen, fun x _ q => Safe.wr Wr' S hC.1 q, st⟩
theorem Wk.stD (W : Wk p l e R s m args below meth c Z EL own n0 vm0 T h cells slots) (hx : p.tables.exec = Jvm.exec) {a : Addr} {k : ClassId} {z j : Int32} {x : UInt64} {vs : List Value} {d : Value} (A : Arv Z h a k .double z vs d) (hj : ¬ j < 0 ∧ j < z) (i : Nat) (hi : j.toNatClampNeg = i) (hlen : i < vs.length) (ha : n0 ≤ a)
    (hg : g.method = m) {rest : List Value} (hs : g.stack = .double x :: .int j :: .ref a :: rest) (hd : decode c.code g.pc = .ok (.dastore, 1)) :
    ∃ T' h', Wk p l e R s m args below meth c Z EL own n0 vm0 T' h' cells slots ∧ Wr h h' a i (.double x) ∧ h'.size = h.size ∧ Arv Z h' a k .double z (vs.set i (.double x)) d ∧ (∀ x, x < h.size → Safe Z EL vm0 h x → Safe Z EL vm0 h' x) ∧
      ∀ target, Steps p.tables e below (T'.setTop { g with pc := g.pc + 1, stack := rest }) target → Steps p.tables e below (T.setTop g) target := by
  have S := W.safeArv A (by decide)
  obtain ⟨locs, k0, X, eT, hS, hk, hZ, hown, hC, N, O, hKK⟩ := W
  obtain ⟨cl, A1, q1, q2, q3, q4, q5⟩ := A
  obtain ⟨T', h', X', e', Wr', st⟩ := RoadKit.stD X hx hZ eT A1 (inb_of q2 hj) hg hs hd
  have Wr2 := Wr'
  rw [hi] at Wr2
  exact ⟨T', h', ⟨_, k0, X', e', hS, (by rw [Wr'.size]; exact hk), hZ, hown, hC.trans (CHr.wr Wr' S hC.1), Fr.snoc X' N ha, O.wr Wr' ha, hKK⟩, Wr2, Wr'.size, Arv.set A1 q1 q2 q3 q4 q5 rfl Wr' i hi hlen, fun x _ q => Safe.wr Wr' S hC.1 q, st⟩
theorem Wk.putF (W : Wk p l e R s m args below meth c Z EL own n0 vm0 T h cells slots) (hx : p.tables.exec = Jvm.exec) {R0 O n d C : String} {index kk : Nat} {ty : FieldType} (w : (Cond.fieldLink own index R0 n d).before a0 Z = true) (via : Via Z R0 O n d)
    {a : Addr} {v old : Value} (F : Fld Z h a O n d old) (E : Exa Z h a C) (L : (Cond.lays C O n d).before a0 Z = true ∨ ((Cond.laysFinal C O n d).before a0 Z = true ∧ own = O ∧ meth.name = "<init>")) (wi : (Cond.instantiable C kk).before a0 Z = true)
    (hty : parseFieldDescriptor d = some ty) (hn : narrow ty v = v) (hf : fits ty v = true) (S : Safe Z EL vm0 h a) (ha : n0 ≤ a) (hg : g.method = m) {rest : List Value} (hs : g.stack = v :: .ref a :: rest) (hd : decode c.code g.pc = .ok (.putfield index, 3)) :
    ∃ T' h', Wk p l e R s m args below meth c Z EL own n0 vm0 T' h' cells slots ∧ Wr h h' a (RoadKit.slotOf Z O n d) v ∧ h'.size = h.size ∧ Fld Z h' a O n d v ∧ (∀ x, x < h.size → Safe Z EL vm0 h x → Safe Z EL vm0 h' x) ∧
      ∀ target, Steps p.tables e below (T'.setTop { g with pc := g.pc + 3, stack := rest }) target → Steps p.tables e below (T.setTop g) target := by
  obtain ⟨locs, k0, X, eT, hS, hk, hZ, hown, hC, N, O', hKK⟩ := W
  obtain ⟨T', h', X', e', Wr', st⟩ := RoadKit.putF X hx hZ hown (host := "") (Or.inl w) via eT F E L wi hty hn hf hg hs hd
  exact ⟨T', h', ⟨_, k0, X', e', hS, (by rw [Wr'.size]; exact hk), hZ, hown, hC.trans (CHr.wr Wr' S hC.1), Fr.snoc X' N ha, O'.wr Wr' ha, hKK⟩, Wr', Wr'.size, F.same Wr', fun x _ q => Safe.wr Wr' S hC.1 q, st⟩
theorem Wk.getF (W : Wk p l e R s m args below meth c Z EL own n0 vm0 T h cells slots) (hx : p.tables.exec = Jvm.exec) {R0 O n d : String} {index : Nat} (w : (Cond.fieldLink own index R0 n d).before a0 Z = true) (via : Via Z R0 O n d) {a : Addr} {v : Value} (F : Fld Z h a O n d v) (hg : g.method = m) {rest : List Value} (hs : g.stack = .ref a :: rest) (hd : decode c.code g.pc = .ok (.getfield index, 3)) :
    ∃ T', Wk p l e R s m args below meth c Z EL own n0 vm0 T' h cells slots ∧ ∀ target, Steps p.tables e below (T'.setTop { g with pc := g.pc + 3, stack := v :: rest }) target → Steps p.tables e below (T.setTop g) target := by
  obtain ⟨locs, k0, X, eT, hS, hk, hZ, hown, hC, N, O', hKK⟩ := W
  obtain ⟨T', X', e', st⟩ := RoadKit.getF X hx hZ hown (host := "") (Or.inl w) via eT F hg hs hd
  exact ⟨T', ⟨_, k0, X', e', hS, hk, hZ, hown, hC.trans (CHr.refl hC.1), N, O', hKK⟩, st⟩
theorem Wk.getS (W : Wk p l e R s m args below meth c Z EL own n0 vm0 T h cells slots) (hx : p.tables.exec = Jvm.exec) {R0 O n d : String} {index : Nat} (w : (Cond.fieldLink own index R0 n d).before a0 Z = true) (via : Via Z R0 O n d) {v : Value} (F : Sta Z h O n d v) (hg : g.method = m) (hd : decode c.code g.pc = .ok (.getstatic index, 3)) :
    ∃ T', Wk p l e R s m args below meth c Z EL own n0 vm0 T' h cells slots ∧ ∀ target, Steps p.tables e below (T'.setTop { g with pc := g.pc + 3, stack := v :: g.stack }) target → Steps p.tables e below (T.setTop g) target := by
  obtain ⟨locs, k0, X, eT, hS, hk, hZ, hown, hC, N, O', hKK⟩ := W
  obtain ⟨T', X', e', st⟩ := RoadKit.getS (host := "") X hx hZ hown w via eT F hg hd
  exact ⟨T', ⟨_, k0, X', e', hS, hk, hZ, hown, hC.trans (CHr.refl hC.1), N, O', hKK⟩, st⟩
theorem Wk.initO (W : Wk p l e R s m args below meth c Z EL own n0 vm0 T h cells slots) (hx : p.tables.exec = Jvm.exec) {idx : Nat} (w1 : (Cond.methodLink own idx Lib.objectInit).before a0 Z = true) (w2 : (Cond.instanceMethod Lib.objectInit).before a0 Z = true) (w3 : (Cond.code Lib.objectInit ⟨#[0xb1]⟩ 1 none).before a0 Z = true) (hg : g.method = m) (hsize : g.locals.size = c.maxLocals) {a : Addr} {rest : List Value} (hs : g.stack = .ref a :: rest) (hd : decode c.code g.pc = .ok (.invokespecial idx, 3)) (hf : 1 ≤ R.frames) {Wd : Nat} (hW : 2 * g.monitorRoom + (rest.map fun v => v.category).sum ≤ Wd) (hl : Wd + 12 ≤ R.locals) :
    ∃ T', Wk p l e R s m args below meth c Z EL own n0 vm0 T' h cells slots ∧ ∀ target, Steps p.tables e below (T'.setTop { g with pc := g.pc + 3, stack := rest }) target → Steps p.tables e below (T.setTop g) target := by
  obtain ⟨locs, k0, X, eT, hS, hk, hZ, hown, hC, N, O', hKK⟩ := W
  obtain ⟨T', X', e', st⟩ := RoadKit.initO X hx hZ hown w1 w2 w3 eT hg hsize hs hd hf hW hl
  exact ⟨T', ⟨_, k0, X', e', hS, hk, hZ, hown, hC.trans (CHr.refl hC.1), N, O', hKK⟩, st⟩
theorem Wk.cast (W : Wk p l e R s m args below meth c Z EL own n0 vm0 T h cells slots) (hx : p.tables.exec = Jvm.exec) {K : String} {index : Nat} (w : (Cond.classLink own index K).before a0 Z = true) {a : Addr} (F : Ins Z h a K true) (hg : g.method = m) {rest : List Value} (hs : g.stack = .ref a :: rest) (hd : decode c.code g.pc = .ok (.checkcast index, 3)) :
    ∃ T', Wk p l e R s m args below meth c Z EL own n0 vm0 T' h cells slots ∧ ∀ target, Steps p.tables e below (T'.setTop { g with pc := g.pc + 3 }) target → Steps p.tables e below (T.setTop g) target := by
  obtain ⟨locs, k0, X, eT, hS, hk, hZ, hown, hC, N, O', hKK⟩ := W
  obtain ⟨T', X', e', st⟩ := RoadKit.castY X hx hZ hown w eT F hg hs hd
  exact ⟨T', ⟨_, k0, X', e', hS, hk, hZ, hown, hC.trans (CHr.refl hC.1), N, O', hKK⟩, st⟩
theorem Wk.instY (W : Wk p l e R s m args below meth c Z EL own n0 vm0 T h cells slots) (hx : p.tables.exec = Jvm.exec) {K : String} {index : Nat} (w : (Cond.classLink own index K).before a0 Z = true) {a : Addr} (F : Ins Z h a K true) (hg : g.method = m) {rest : List Value} (hs : g.stack = .ref a :: rest) (hd : decode c.code g.pc = .ok (.instanceof index, 3)) :
    ∃ T', Wk p l e R s m args below meth c Z EL own n0 vm0 T' h cells slots ∧ ∀ target, Steps p.tables e below (T'.setTop { g with pc := g.pc + 3, stack := .int 1 :: rest }) target → Steps p.tables e below (T.setTop g) target := by
  obtain ⟨locs, k0, X, eT, hS, hk, hZ, hown, hC, N, O', hKK⟩ := W
  obtain ⟨T', X', e', st⟩ := RoadKit.instY X hx hZ hown w eT F hg hs hd
  exact ⟨T', ⟨_, k0, X', e', hS, hk, hZ, hown, hC.trans (CHr.refl hC.1), N, O', hKK⟩, st⟩
/-- ldc of a String constant of EL, read -/
theorem Wk.ldc (W : Wk p l e R s m args below meth c Z EL own n0 vm0 T h cells slots) (hx : p.tables.exec = Jvm.exec) {index : Nat} {text : String} (w : (Cond.stringLink own index text).before a0 Z = true) (wS : ∀ a ∈ Bundle.stringAtoms, a.before a0 Z = true) (hEL : EW Z a0 EL) (hmem : (own, index) ∈ EL)
    {vs : List Value} {z : Int32} (ht : (∀ c ∈ text.toList, c.toNat < 256) ∧ text.toList.map (fun c => Value.int (Jvm.Lit.byteI c.toNat.toUInt16)) = vs) (hz : ¬ z < 0) (hl : z.toNatClampNeg = vs.length)
    (hg : g.method = m) (hd : decode c.code g.pc = .ok (.ldc index, 2)) {n : Nat} (hn : 4 * text.toList.length ≤ n) (hbig : n ≤ 536870912) (hc : cells + 2 ≤ R.cells) (hl' : slots + (n + 4) ≤ R.slots) :
    ∃ (a : Addr) (vm1 : Vm) (T' : State) (h' : Heap) (b : Addr) (k : ClassId), Wk p l e R s m args below meth c Z EL own n0 vm1 T' h' (cells + 2) (slots + (n + 4)) ∧ Ext h h' ∧
      Exa Z h' a "java/lang/String" ∧ Fld Z h' a "java/lang/String" "coder" "B" (.int 0) ∧ Fld Z h' a "java/lang/String" "value" "[B" (.ref b) ∧ Arv Z h' b k .byte z vs (.int 0) ∧ (∀ x, x < h.size → Safe Z EL vm0 h x → Safe Z EL vm1 h' x) ∧ (∀ x, Safe Z EL vm1 h' x → x ≠ a ∧ x ≠ b) ∧
      ∀ target, Steps p.tables e below (T'.setTop { g with pc := g.pc + 2, stack := .ref a :: g.stack }) target → Steps p.tables e below (T.setTop g) target := by
  obtain ⟨locs, k0, X, eT, hS, hk, hZ, hown, hC, N, O, hKK⟩ := W
  obtain ⟨a, T', h', k1, b, k, X', e', E, hS', hk', hZ', hown', E1, F1, F2, A1, -, -, hR, -, hne, st⟩ := RoadKit.ldcCH X hx hZ hown w wS eT hS hk hEL hmem hC.1 ht hz hl hg hd hn hbig hc hl'
  exact ⟨a, T'.vm, T', h', b, k, ⟨locs, k1, X', e', hS', hk', hZ', hown', hC.trans hR, N, O.ext E, trivial⟩, E, E1, F1, F2, A1, fun x q r => hR.safe q r, hne, st⟩
/-- ldc of a String constant, not read -/
theorem Wk.ldcO (W : Wk p l e R s m args below meth c Z EL own n0 vm0 T h cells slots) (hx : p.tables.exec = Jvm.exec) {index : Nat} {text : String} (w : (Cond.stringLink own index text).before a0 Z = true) (wS : ∀ a ∈ Bundle.stringAtoms, a.before a0 Z = true) (hEL : EW Z a0 EL)
    (hg : g.method = m) (hd : decode c.code g.pc = .ok (.ldc index, 2)) {n : Nat} (hn : 4 * text.toList.length ≤ n) (hbig : n ≤ 536870912) (hc : cells + 2 ≤ R.cells) (hl' : slots + (n + 4) ≤ R.slots) :
    ∃ (a : Addr) (vm1 : Vm) (T' : State) (h' : Heap), Wk p l e R s m args below meth c Z EL own n0 vm1 T' h' (cells + 2) (slots + (n + 4)) ∧ Ext h h' ∧ (∀ x, x < h.size → Safe Z EL vm0 h x → Safe Z EL vm1 h' x) ∧
      ∀ target, Steps p.tables e below (T'.setTop { g with pc := g.pc + 2, stack := .ref a :: g.stack }) target → Steps p.tables e below (T.setTop g) target := by
  obtain ⟨locs, k0, X, eT, hS, hk, hZ, hown, hC, N, O, hKK⟩ := W
  obtain ⟨a, T', h', k1, X', e', E, hS', hk', hZ', hown', hR, -, st⟩ := RoadKit.ldcOH X hx hZ hown w wS eT hS hk hEL hC.1 hg hd hn hbig hc hl'
  exact ⟨a, T'.vm, T', h', ⟨locs, k1, X', e', hS', hk', hZ', hown', hC.trans hR, N, O.ext E, trivial⟩, E, fun x q r => hR.safe q r, st⟩
/-- the contract of a callee -/
def Met (l : Launch) (y : MethodName) (bytes : ByteArray) (maxL : Nat) (ret : Option FieldType) (rm : Room) (Z : State) (EL : List (String × Nat)) (n0 : Nat) (ws : List Jvm.Cond) (as' : Array Value) (h : Heap) (Q : Option Value → Heap → Prop) : Prop :=
  MetFree l y (head1 (Jvm.Cond.code y bytes maxL ret :: ws) rm) (fun a U => a = as' ∧ Z.Warmed39 U.vm ∧ U.heap = h ∧ CHv Z EL U.vm h) (fun _ _ _ _ _ => True) (fun _ U o U' => ∃ v L, o = .returned v ∧ (Q v U'.heap ∧ Fr n0 L ∧ Old Z n0 U'.heap) ∧ CHr Z EL U.vm U.heap U'.vm U'.heap ∧ ReturnedEndW U o U' L rm.cells rm.slots)
/-- the end that a contract asks, as the walk's goal has it -/
def OFin (s : State) (rm : Room) (Z : State) (EL : List (String × Nat)) (n0 : Nat) (Q : Option Value → Heap → Prop) (o : Outcome) (u : State) : Prop := ∃ v L, o = .returned v ∧ (Q v u.heap ∧ Fr n0 L ∧ Old Z n0 u.heap) ∧ CHr Z EL s.vm s.heap u.vm u.heap ∧ ReturnedEndW s o u L rm.cells rm.slots
theorem Met.of {y : MethodName} {bytes : ByteArray} {maxL : Nat} {ret : Option FieldType} {rm : Room} {ws : List Jvm.Cond} {as' : Array Value} {Qb : Option Value → Heap → Prop} (hpl : plainFor y = true) (O : Old Z n0 h)
    (body : ∀ (p : Program) (e : Env) (s : State) (m : MethodId) (below : List Frame) (meth : Method) (c : Code) (T : State), p.tables.exec = Jvm.exec → c.code = bytes → c.maxLocals = maxL → meth.sig.returnType = ret → meth.locks = false → meth.name = y.name → s.heap = h →
      Wk p l e rm s m as' below meth c Z EL y.cls n0 s.vm T h 0 0 → Go p e below (OFin s rm Z EL n0 Qb) T (entryFrame m as' maxL)) :
    Met l y bytes maxL ret rm Z EL n0 ws as' h Qb := by
  refine MetFree.of_bodySF hpl hisR ?_
  intro p e s m args below meth c s₁ Bd hml hP hK
  obtain ⟨rfl, hZ, hh, hC⟩ := hP
  have hown : s.vm.findClass y.cls = some m.cls := findClass_of_methodNamed Bd.named
  have X0 : Stand p l e rm s m args below meth c s₁ [] 0 0 := Stand.of_body Bd
  have e0 : s₁.heap = h := by rw [← hh, Bd.state]; rfl
  refine body p e s m below meth c s₁ Bd.exec Bd.bytes hml Bd.returns Bd.notSynchronized (name_of_methodNamed Bd.named Bd.method).1 hh ?_
  refine ⟨[], 0, X0, e0, (State.WarmedH.refl s).since 0, Nat.zero_le _, hZ, hown, ?_, Fr.nil _, O, trivial⟩
  rw [hh]; exact CHr.refl hC
/-- the end of a walk -/
theorem Wk.fin {rm : Room} {Qb : Option Value → Heap → Prop} (W : Wk p l e R s m args below meth c Z EL own n0 vm0 T h cells slots) (hEL : EW Z a0 EL) (hlk : meth.locks = false) {v : Option Value} (hv : meth.sig.returnType = none → v = none) (hc : cells ≤ rm.cells) (hs : slots ≤ rm.slots) (hq : Qb v h)
    (st : ∀ fs, (∀ (f : JFrame) (acts : List Action), f.method = m → f.locked = none → f.entered = [] → (doReturn e (T.setTop f) acts v).1 = T.setFrames fs) → Steps p.tables e below (T.setTop g) (T.setFrames fs)) : Go p e below (OFin s rm Z EL n0 Qb) T g := by
  obtain ⟨locs, k0, X, eT, hS, hk, hZ, hown, hC, N, O, hKK⟩ := W
  subst eT
  obtain ⟨fs, hr, hrun, hended, hend⟩ := Stand.leaveW X hS hk (v := v) hv hlk
  have hA := CHv.at X hZ hEL hC.1
  refine ⟨T.setFrames fs, .returned v, st fs hr, hrun, hended, v, locs, rfl, ⟨hq, N, O⟩, hC.trans hA, ?_⟩
  obtain ⟨q1, q2, q3, q4⟩ := hend
  exact ⟨q1, q2, q3, q4.mono hc hs⟩
theorem Wk.retN {rm : Room} {Qb : Option Value → Heap → Prop} (W : Wk p l e R s m args below meth c Z EL own n0 vm0 T h cells slots) (hx : p.tables.exec = Jvm.exec) (hEL : EW Z a0 EL) (hlk : meth.locks = false) {pc : Nat} {Ls : Array Slot} {z : Int32} {t : FieldType} {rest : List Value} (hret : meth.sig.returnType = some t) (ht : t = .boolean ∨ t = .byte ∨ t = .char ∨ t = .short)
    (hd : decode c.code pc = .ok (.ireturn, 1)) (hc : cells ≤ rm.cells) (hs : slots ≤ rm.slots) (hq : Qb (some (.int (nar t z))) h) : Go p e below (OFin s rm Z EL n0 Qb) T (mkF m pc Ls (.int z :: rest)) := by
  obtain ⟨locs, X⟩ := W.stand
  exact W.fin hEL hlk (v := some (.int (nar t z))) (fun q => by first | rfl | (rw [hret] at q; cases q)) hc hs hq fun fs hr => RoadKit.retN X hx hret ht hd hr
theorem Wk.retI {rm : Room} {Qb : Option Value → Heap → Prop} (W : Wk p l e R s m args below meth c Z EL own n0 vm0 T h cells slots) (hx : p.tables.exec = Jvm.exec) (hEL : EW Z a0 EL) (hlk : meth.locks = false) {pc : Nat} {Ls : Array Slot} {z : Int32} {rest : List Value} (hret : meth.sig.returnType = some .int)
    (hd : decode c.code pc = .ok (.ireturn, 1)) (hc : cells ≤ rm.cells) (hs : slots ≤ rm.slots) (hq : Qb (some (.int z)) h) : Go p e below (OFin s rm Z EL n0 Qb) T (mkF m pc Ls (.int z :: rest)) := by
  obtain ⟨locs, X⟩ := W.stand
  exact W.fin hEL hlk (v := some (.int z)) (fun q => by first | rfl | (rw [hret] at q; cases q)) hc hs hq fun fs hr => RoadKit.retOut X hx hret rfl (Or.inl ⟨rfl, Or.inl rfl, _, rfl⟩) hd hr
theorem Wk.retJ {rm : Room} {Qb : Option Value → Heap → Prop} (W : Wk p l e R s m args below meth c Z EL own n0 vm0 T h cells slots) (hx : p.tables.exec = Jvm.exec) (hEL : EW Z a0 EL) (hlk : meth.locks = false) {pc : Nat} {Ls : Array Slot} {z : Int64} {rest : List Value} (hret : meth.sig.returnType = some .long)
    (hd : decode c.code pc = .ok (.lreturn, 1)) (hc : cells ≤ rm.cells) (hs : slots ≤ rm.slots) (hq : Qb (some (.long z)) h) : Go p e below (OFin s rm Z EL n0 Qb) T (mkF m pc Ls (.long z :: rest)) := by
  obtain ⟨locs, X⟩ := W.stand
  exact W.fin hEL hlk (v := some (.long z)) (fun q => by first | rfl | (rw [hret] at q; cases q)) hc hs hq fun fs hr => RoadKit.retOut X hx hret rfl (Or.inr (Or.inl ⟨rfl, rfl, _, rfl⟩)) hd hr
theorem Wk.retD {rm : Room} {Qb : Option Value → Heap → Prop} (W : Wk p l e R s m args below meth c Z EL own n0 vm0 T h cells slots) (hx : p.tables.exec = Jvm.exec) (hEL : EW Z a0 EL) (hlk : meth.locks = false) {pc : Nat} {Ls : Array Slot} {z : UInt64} {rest : List Value} (hret : meth.sig.returnType = some .double)
    (hd : decode c.code pc = .ok (.dreturn, 1)) (hc : cells ≤ rm.cells) (hs : slots ≤ rm.slots) (hq : Qb (some (.double z)) h) : Go p e below (OFin s rm Z EL n0 Qb) T (mkF m pc Ls (.double z :: rest)) := by
  obtain ⟨locs, X⟩ := W.stand
  exact W.fin hEL hlk (v := some (.double z)) (fun q => by first | rfl | (rw [hret] at q; cases q)) hc hs hq fun fs hr => RoadKit.retOut X hx hret rfl (Or.inr (Or.inr (Or.inl ⟨rfl, rfl, _, rfl⟩))) hd hr
theorem Wk.retA {rm : Room} {Qb : Option Value → Heap → Prop} (W : Wk p l e R s m args below meth c Z EL own n0 vm0 T h cells slots) (hx : p.tables.exec = Jvm.exec) (hEL : EW Z a0 EL) (hlk : meth.locks = false) {pc : Nat} {Ls : Array Slot} {v : Value} {t : FieldType} {rest : List Value} (hret : meth.sig.returnType = some t) (ht : t.isReference = true) (hn : narrow t v = v) (hv : v.isRef = true)
    (hd : decode c.code pc = .ok (.areturn, 1)) (hc : cells ≤ rm.cells) (hs : slots ≤ rm.slots) (hq : Qb (some v) h) : Go p e below (OFin s rm Z EL n0 Qb) T (mkF m pc Ls (v :: rest)) := by
  obtain ⟨locs, X⟩ := W.stand
  exact W.fin hEL hlk (v := some v) (fun q => by first | rfl | (rw [hret] at q; cases q)) hc hs hq fun fs hr => RoadKit.retOut X hx hret hn (Or.inr (Or.inr (Or.inr (Or.inr ⟨rfl, ht, hv⟩)))) hd hr
theorem Wk.retV {rm : Room} {Qb : Option Value → Heap → Prop} (W : Wk p l e R s m args below meth c Z EL own n0 vm0 T h cells slots) (hx : p.tables.exec = Jvm.exec) (hEL : EW Z a0 EL) (hlk : meth.locks = false) {pc : Nat} {Ls : Array Slot} (hret : meth.sig.returnType = none)
    (hd : decode c.code pc = .ok (.return_, 1)) (hc : cells ≤ rm.cells) (hs : slots ≤ rm.slots) (hq : Qb (none) h) : Go p e below (OFin s rm Z EL n0 Qb) T (mkF m pc Ls []) := by
  obtain ⟨locs, X⟩ := W.stand
  exact W.fin hEL hlk (v := none) (fun q => by first | rfl | (rw [hret] at q; cases q)) hc hs hq fun fs hr => X.returnOut hx hret hd hr
theorem Wk.back {y : MethodName} {rm : Room} {as' : Array Value} {Qb : Option Value → Heap → Prop} {bytes : ByteArray} {maxL : Nat} {ret : Option FieldType} {len Wd : Nat} (W : Wk p l e R s m args below meth c Z EL own n0 vm0 T h cells slots) (hEL : EW Z a0 EL) (hM : Met l y bytes maxL ret rm Z EL n0 [] as' h Qb)
    (wc : (Cond.code y bytes maxL ret).before a0 Z = true) (wz : (Cond.initialized y.cls).before a0 Z = true) (hf : rm.frames + 1 ≤ R.frames) (hl : Wd + (maxL + 11) + rm.locals ≤ R.locals) :
    BackS l R p e below (s.setVm vm0) args y len Wd (fun A a => a = as' ∧ A.U.heap = h ∧ A.cells + rm.cells ≤ R.cells ∧ A.slots + rm.slots ≤ R.slots)
      (fun A _ v B => ∃ L, (Qb v B.U.heap ∧ Fr n0 L ∧ Old Z n0 B.U.heap) ∧ B.locs = A.locs ++ L ∧ B.cells = A.cells + rm.cells ∧ B.slots = A.slots + rm.slots ∧ CHr Z EL vm0 h B.U.vm B.U.heap) :=
  backOfSH (Q := fun v h' L => Qb v h' ∧ Fr n0 L ∧ Old Z n0 h') hM W.warm wc wz hf hl hEL W.chv
theorem Wk.behind {B : Pt} {rm : Room} {Qb : Option Value → Heap → Prop} {v : Option Value} {locs L : List Loc} {k0 : Nat} (hS : s.Since vm0 k0) (hk : k0 ≤ h.size) (hZ : Z.Warmed39 vm0) (hown : vm0.findClass own = some m.cls) (hC : CHr Z EL s.vm s.heap vm0 h) (N : Fr n0 locs) (eT : T.heap = h) (hKK : True)
    (X : Stand p l e R ((s.setVm vm0).setVm B.U.vm) m args below meth c B.U B.locs B.cells B.slots) (h2 : (s.setVm vm0).Since B.U.vm B.U.heap.size) (hg : T.heap.size ≤ B.U.heap.size)
    (hq : Qb v B.U.heap ∧ Fr n0 L ∧ Old Z n0 B.U.heap) (hl : B.locs = locs ++ L) (hc : B.cells = cells + rm.cells) (hs : B.slots = slots + rm.slots) (hR : CHr Z EL vm0 h B.U.vm B.U.heap) :
    Wk p l e R s m args below meth c Z EL own n0 B.U.vm B.U B.U.heap (cells + rm.cells) (slots + rm.slots) := by
  subst eT
  obtain ⟨X', hS', hZ', hown'⟩ := rebS hS hk X h2 hg hZ hown
  exact ⟨B.locs, _, hc ▸ hs ▸ X', rfl, hS', Nat.le_refl _, hZ', hown', hC.trans hR, hl ▸ N.app hq.2.1, hq.2.2, trivial⟩
theorem Wk.callS {y : MethodName} {rm : Room} {as' : Array Value} {Qb : Option Value → Heap → Prop} {bytes : ByteArray} {maxL index : Nat} {ret : Option FieldType} (W : Wk p l e R s m args below meth c Z EL own n0 vm0 T h cells slots) (hx : p.tables.exec = Jvm.exec) (hEL : EW Z a0 EL) (hM : Met l y bytes maxL ret rm Z EL n0 [] as' h Qb)
    (w1 : (Cond.methodLink own index y).before a0 Z = true) (w2 : (Cond.static y).before a0 Z = true) (wz : (Cond.initialized y.cls).before a0 Z = true) (wc : (Cond.code y bytes maxL ret).before a0 Z = true) (hy : y.cls ≠ "java/lang/invoke/MethodHandle" ∧ y.cls ≠ "java/lang/invoke/VarHandle")
    {Wd : Nat} (hf : rm.frames + 1 ≤ R.frames) (hl : Wd + (maxL + 11) + rm.locals ≤ R.locals) (hc : cells + rm.cells ≤ R.cells) (hs : slots + rm.slots ≤ R.slots)
    (hg : g.method = m) (hsize : g.locals.size = c.maxLocals) {argsL rest : List Value} (has : argsL.toArray = as') (hlen : ∀ sig, parseMethodDescriptor y.desc = some sig → argsL.length = sig.parameters.length) (hstack : g.stack = argsL.reverse ++ rest) (hW : 2 * g.monitorRoom + (rest.map fun v => v.category).sum ≤ Wd) (hdg : decode c.code g.pc = .ok (.invokestatic index, 3)) :
    ∃ (v : Option Value) (vm1 : Vm) (T' : State) (h' : Heap), Wk p l e R s m args below meth c Z EL own n0 vm1 T' h' (cells + rm.cells) (slots + rm.slots) ∧ Qb v h' ∧ h.size ≤ h'.size ∧ (∀ x, x < h.size → Safe Z EL vm0 h x → Safe Z EL vm1 h' x) ∧
      Steps p.tables e below (T.setTop g) (T'.setTop { g with pc := g.pc + 3, stack := v.toList ++ rest }) := by
  have hB := W.back (len := 3) (Wd := Wd) hEL hM wc wz hf hl
  obtain ⟨locs, k0, X, eT, hS, hk, hZ, hown, hC, N, O, hKK⟩ := W
  have hZ' : Z.Warmed39 (s.setVm vm0).vm := hZ
  obtain ⟨v, vm1, B, -, X', h2, hgr, ⟨L, hq, q1, q2, q3, q4⟩, st⟩ := RoadKit.callSS X hx hown (mvT hZ' w1) (mvT hZ' w2) (mvT hZ' wz) (mvT hZ' wc) hy hB hg hsize hlen hstack hW hdg (fun _ _ => ⟨has, eT, hc, hs⟩)
  exact ⟨v, B.U.vm, B.U, B.U.heap, Wk.behind hS hk hZ hown hC N eT hKK X' h2 hgr hq q1 q2 q3 q4, hq.1, q4.2.1, fun x q r => q4.safe q r, st⟩
theorem Wk.callI {y : MethodName} {rm : Room} {as' : Array Value} {Qb : Option Value → Heap → Prop} {bytes : ByteArray} {maxL index : Nat} (W : Wk p l e R s m args below meth c Z EL own n0 vm0 T h cells slots) (hx : p.tables.exec = Jvm.exec) (hEL : EW Z a0 EL) (hM : Met l y bytes maxL none rm Z EL n0 [] as' h Qb) (hy1 : y.name = "<init>")
    (w1 : (Cond.methodLink own index y).before a0 Z = true) (w2 : (Cond.instanceMethod y).before a0 Z = true) (wz : (Cond.initialized y.cls).before a0 Z = true) (wc : (Cond.code y bytes maxL none).before a0 Z = true) (hy : y.cls ≠ "java/lang/invoke/MethodHandle" ∧ y.cls ≠ "java/lang/invoke/VarHandle")
    {Wd : Nat} (hf : rm.frames + 1 ≤ R.frames) (hl : Wd + (maxL + 11) + rm.locals ≤ R.locals) (hc : cells + rm.cells ≤ R.cells) (hs : slots + rm.slots ≤ R.slots)
    (hg : g.method = m) (hsize : g.locals.size = c.maxLocals) {a : Addr} {argsL rest : List Value} (has : (.ref a :: argsL).toArray = as') (hlen : ∀ sig, parseMethodDescriptor y.desc = some sig → argsL.length = sig.parameters.length) (hstack : g.stack = argsL.reverse ++ .ref a :: rest) (hW : 2 * g.monitorRoom + (rest.map fun v => v.category).sum ≤ Wd) (hdg : decode c.code g.pc = .ok (.invokespecial index, 3)) :
    ∃ (v : Option Value) (vm1 : Vm) (T' : State) (h' : Heap), Wk p l e R s m args below meth c Z EL own n0 vm1 T' h' (cells + rm.cells) (slots + rm.slots) ∧ Qb v h' ∧ h.size ≤ h'.size ∧ (∀ x, x < h.size → Safe Z EL vm0 h x → Safe Z EL vm1 h' x) ∧
      Steps p.tables e below (T.setTop g) (T'.setTop { g with pc := g.pc + 3, stack := v.toList ++ rest }) := by
  have hB := W.back (len := 3) (Wd := Wd) hEL hM wc wz hf hl
  obtain ⟨locs, k0, X, eT, hS, hk, hZ, hown, hC, N, O, hKK⟩ := W
  have hZ' : Z.Warmed39 (s.setVm vm0).vm := hZ
  obtain ⟨v, vm1, B, -, X', h2, hgr, ⟨L, hq, q1, q2, q3, q4⟩, st⟩ := Stand.specialBackS X hx hy1 hown (mvT hZ' w1) (mvT hZ' w2) (mvT hZ' wc) hy hB hg hsize (Steps.refl _) hlen hstack hW hdg (fun _ _ => ⟨has, eT, hc, hs⟩)
  exact ⟨v, B.U.vm, B.U, B.U.heap, Wk.behind hS hk hZ hown hC N eT hKK X' h2 hgr hq q1 q2 q3 q4, hq.1, q4.2.1, fun x q r => q4.safe q r, st⟩
theorem Wk.callV {y : MethodName} {C : String} {rm : Room} {as' : Array Value} {Qb : Option Value → Heap → Prop} {bytes : ByteArray} {maxL index : Nat} {ret : Option FieldType} (W : Wk p l e R s m args below meth c Z EL own n0 vm0 T h cells slots) (hx : p.tables.exec = Jvm.exec) (hEL : EW Z a0 EL) (hM : Met l y bytes maxL ret rm Z EL n0 [] as' h Qb)
    (w1 : (Cond.methodLink own index y).before a0 Z = true) (w2 : (Cond.declares y).before a0 Z = true) (w3 : (Cond.selects C y y).before a0 Z = true) (w4 : (Cond.instanceMethod y).before a0 Z = true) (wz : (Cond.initialized y.cls).before a0 Z = true) (wc : (Cond.code y bytes maxL ret).before a0 Z = true) (hy : y.cls ≠ "java/lang/invoke/MethodHandle" ∧ y.cls ≠ "java/lang/invoke/VarHandle")
    {Wd : Nat} (hf : rm.frames + 1 ≤ R.frames) (hl : Wd + (maxL + 11) + rm.locals ≤ R.locals) (hc : cells + rm.cells ≤ R.cells) (hs : slots + rm.slots ≤ R.slots)
    (hg : g.method = m) (hsize : g.locals.size = c.maxLocals) {a : Addr} (E : Exa Z h a C) {argsL rest : List Value} (has : (.ref a :: argsL).toArray = as') (hlen : ∀ sig, parseMethodDescriptor y.desc = some sig → argsL.length = sig.parameters.length) (hstack : g.stack = argsL.reverse ++ .ref a :: rest) (hW : 2 * g.monitorRoom + (rest.map fun v => v.category).sum ≤ Wd) (hdg : decode c.code g.pc = .ok (.invokevirtual index, 3)) :
    ∃ (v : Option Value) (vm1 : Vm) (T' : State) (h' : Heap), Wk p l e R s m args below meth c Z EL own n0 vm1 T' h' (cells + rm.cells) (slots + rm.slots) ∧ Qb v h' ∧ h.size ≤ h'.size ∧ (∀ x, x < h.size → Safe Z EL vm0 h x → Safe Z EL vm1 h' x) ∧
      Steps p.tables e below (T.setTop g) (T'.setTop { g with pc := g.pc + 3, stack := v.toList ++ rest }) := by
  have hB := W.back (len := 3) (Wd := Wd) hEL hM wc wz hf hl
  obtain ⟨locs, k0, X, eT, hS, hk, hZ, hown, hC, N, O, hKK⟩ := W
  have hZ' : Z.Warmed39 (s.setVm vm0).vm := hZ
  obtain ⟨cB, kB, i1, i2, i3⟩ := isOf (s := (s.setVm vm0)) hZ' eT E
  obtain ⟨v, vm1, B, -, X', h2, hgr, ⟨L, hq, q1, q2, q3, q4⟩, st⟩ := Stand.virtualBackS X hx hown (mvT hZ' w1) (mvT hZ' w2) (notFace_of_selects (args := #[]) (mvT hZ' w3)) (mvT hZ' w3) (mvT hZ' w4) hy hB i1 i3 hg hsize (Steps.refl _) hlen hstack hW hdg (fun _ _ => ⟨has, eT, hc, hs⟩)
  exact ⟨v, B.U.vm, B.U, B.U.heap, Wk.behind hS hk hZ hown hC N eT hKK X' h2 hgr hq q1 q2 q3 q4, hq.1, q4.2.1, fun x q r => q4.safe q r, st⟩
theorem Wk.callU {y : MethodName} {z : MethodName} {C owner : String} {rm : Room} {as' : Array Value} {Qb : Option Value → Heap → Prop} {bytes : ByteArray} {maxL index : Nat} {ret : Option FieldType} (W : Wk p l e R s m args below meth c Z EL own n0 vm0 T h cells slots) (hx : p.tables.exec = Jvm.exec) (hEL : EW Z a0 EL) (hM : Met l z bytes maxL ret rm Z EL n0 [] as' h Qb)
    (w1 : (Cond.methodLink own index y).before a0 Z = true) (wsm : (Cond.sameMethod y.cls owner y.name y.desc).before a0 Z = true) (w2 : (Cond.declares ⟨owner, y.name, y.desc⟩).before a0 Z = true) (ho : owner ≠ "java/lang/invoke/MethodHandle" ∧ owner ≠ "java/lang/invoke/VarHandle") (w3 : (Cond.selects C y z).before a0 Z = true) (w4 : (Cond.instanceMethod z).before a0 Z = true) (wz : (Cond.initialized z.cls).before a0 Z = true) (wc : (Cond.code z bytes maxL ret).before a0 Z = true)
    {Wd : Nat} (hf : rm.frames + 1 ≤ R.frames) (hl : Wd + (maxL + 11) + rm.locals ≤ R.locals) (hc : cells + rm.cells ≤ R.cells) (hs : slots + rm.slots ≤ R.slots)
    (hg : g.method = m) (hsize : g.locals.size = c.maxLocals) {a : Addr} (E : Exa Z h a C) {argsL rest : List Value} (has : (.ref a :: argsL).toArray = as') (hlen : ∀ sig, parseMethodDescriptor y.desc = some sig → argsL.length = sig.parameters.length) (hstack : g.stack = argsL.reverse ++ .ref a :: rest) (hW : 2 * g.monitorRoom + (rest.map fun v => v.category).sum ≤ Wd) (hdg : decode c.code g.pc = .ok (.invokevirtual index, 3)) :
    ∃ (v : Option Value) (vm1 : Vm) (T' : State) (h' : Heap), Wk p l e R s m args below meth c Z EL own n0 vm1 T' h' (cells + rm.cells) (slots + rm.slots) ∧ Qb v h' ∧ h.size ≤ h'.size ∧ (∀ x, x < h.size → Safe Z EL vm0 h x → Safe Z EL vm1 h' x) ∧
      Steps p.tables e below (T.setTop g) (T'.setTop { g with pc := g.pc + 3, stack := v.toList ++ rest }) := by
  have hB := W.back (len := 3) (Wd := Wd) hEL hM wc wz hf hl
  obtain ⟨locs, k0, X, eT, hS, hk, hZ, hown, hC, N, O, hKK⟩ := W
  have hZ' : Z.Warmed39 (s.setVm vm0).vm := hZ
  obtain ⟨cB, kB, i1, i2, i3⟩ := isOf (s := (s.setVm vm0)) hZ' eT E
  obtain ⟨v, vm1, B, -, X', h2, hgr, ⟨L, hq, q1, q2, q3, q4⟩, st⟩ := X.virtualBackUpS hx hown (mvT hZ' w1) (mvT hZ' wsm) (mvT hZ' w2) ho (mvT hZ' w3) (mvT hZ' w4) hB i1 i3 hg hsize (Steps.refl _) hlen hstack hW hdg (fun _ _ => ⟨has, eT, hc, hs⟩)
  exact ⟨v, B.U.vm, B.U, B.U.heap, Wk.behind hS hk hZ hown hC N eT hKK X' h2 hgr hq q1 q2 q3 q4, hq.1, q4.2.1, fun x q r => q4.safe q r, st⟩
theorem Wk.behindN {B : Pt} {k n : Nat} {ws : List Addr} {locs L : List Loc} {k0 : Nat} (hS : s.Since vm0 k0) (hk : k0 ≤ h.size) (hZ : Z.Warmed39 vm0) (hown : vm0.findClass own = some m.cls) (hC : CHr Z EL s.vm s.heap vm0 h) (N : Fr n0 locs) (O : Old Z n0 h) (hKK : True)
    (X : Stand p l e R (s.setVm vm0) m args below meth c B.U B.locs B.cells B.slots) (K : Keep h B.U.heap ws) (NL : Fr n0 L) (sf : ∀ x ∈ ws, Safe Z EL vm0 h x) (sn : ∀ x ∈ ws, n0 ≤ x) (hl : B.locs = locs ++ L) (hc : B.cells = cells + k) (hs : B.slots = slots + n) :
    Wk p l e R s m args below meth c Z EL own n0 vm0 B.U B.U.heap (cells + k) (slots + n) ∧ ∀ x, x < h.size → Safe Z EL vm0 h x → Safe Z EL vm0 B.U.heap x :=
  ⟨⟨B.locs, k0, hc ▸ hs ▸ X, rfl, hS, Nat.le_trans hk K.1, hZ, hown, hC.trans (CHr.keep K sf hC.1), hl ▸ N.app NL, O.keep K sn, hKK⟩, fun x _ q => Safe.keep K sf hC.1 q⟩
theorem Wk.paySt {y : MethodName} {as' : Array Value} {Qb : Option Value → Heap → List Loc → Prop} {bytes : ByteArray} {maxL : Nat} {ret : Option FieldType} {k n index : Nat} {ws : List Addr} (W : Wk p l e R s m args below meth c Z EL own n0 vm0 T h cells slots) (hx : p.tables.exec = Jvm.exec)
    (w1 : (Cond.methodLink own index y).before a0 Z = true) (w2 : (Cond.static y).before a0 Z = true) (wz : (Cond.initialized y.cls).before a0 Z = true) (wc : (Cond.code y bytes maxL ret).before a0 Z = true) (hy : y.cls ≠ "java/lang/invoke/MethodHandle" ∧ y.cls ≠ "java/lang/invoke/VarHandle")
    {Wd : Nat} (hB : Back l R p e below (s.setVm vm0) args y 3 Wd (fun A a => a = as' ∧ A.U.heap = h ∧ A.cells + k ≤ R.cells ∧ A.slots + n ≤ R.slots) (fun A _ v B => ∃ L, Qb v B.U.heap L ∧ B.locs = A.locs ++ L ∧ B.cells = A.cells + k ∧ B.slots = A.slots + n))
    (hQ : ∀ v h' L, Qb v h' L → Keep h h' ws ∧ Fr n0 L) (sf : ∀ x ∈ ws, Safe Z EL vm0 h x) (sn : ∀ x ∈ ws, n0 ≤ x) (hc : cells + k ≤ R.cells) (hs : slots + n ≤ R.slots)
    (hg : g.method = m) (hsize : g.locals.size = c.maxLocals) {argsL rest : List Value} (has : argsL.toArray = as') (hlen : ∀ sig, parseMethodDescriptor y.desc = some sig → argsL.length = sig.parameters.length) (hstack : g.stack = argsL.reverse ++ rest) (hW : 2 * g.monitorRoom + (rest.map fun v => v.category).sum ≤ Wd) (hdg : decode c.code g.pc = .ok (.invokestatic index, 3)) :
    ∃ (v : Option Value) (T' : State) (h' : Heap) (L : List Loc), Wk p l e R s m args below meth c Z EL own n0 vm0 T' h' (cells + k) (slots + n) ∧ Qb v h' L ∧ h.size ≤ h'.size ∧ (∀ x, x < h.size → Safe Z EL vm0 h x → Safe Z EL vm0 h' x) ∧
      Steps p.tables e below (T.setTop g) (T'.setTop { g with pc := g.pc + 3, stack := v.toList ++ rest }) := by
  obtain ⟨locs, k0, X, eT, hS, hk, hZ, hown, hC, N, O, hKK⟩ := W
  have hZ' : Z.Warmed39 (s.setVm vm0).vm := hZ
  obtain ⟨v, vm1, B, -, X', ⟨L, hq, q1, q2, q3⟩, st⟩ := Jvm.LawKit.callS X hx hown (mvT hZ' w1) (mvT hZ' w2) (mvT hZ' wz) (mvT hZ' wc) hy hB hg hsize hlen hstack hW hdg (fun _ _ => ⟨has, eT, hc, hs⟩)
  obtain ⟨K, NL⟩ := hQ _ _ _ hq
  obtain ⟨W', sf'⟩ := Wk.behindN hS hk hZ hown hC N O hKK X' K NL sf sn q1 q2 q3
  exact ⟨v, B.U, B.U.heap, L, W', hq, K.1, sf', st _ (Steps.refl _)⟩
theorem Wk.paySp {y : MethodName} {as' : Array Value} {Qb : Option Value → Heap → List Loc → Prop} {bytes : ByteArray} {maxL : Nat} {k n index : Nat} {ws : List Addr} (W : Wk p l e R s m args below meth c Z EL own n0 vm0 T h cells slots) (hx : p.tables.exec = Jvm.exec) (hy1 : y.name = "<init>")
    (w1 : (Cond.methodLink own index y).before a0 Z = true) (w2 : (Cond.instanceMethod y).before a0 Z = true) (wc : (Cond.code y bytes maxL none).before a0 Z = true) (hy : y.cls ≠ "java/lang/invoke/MethodHandle" ∧ y.cls ≠ "java/lang/invoke/VarHandle")
    {Wd : Nat} (hB : Back l R p e below (s.setVm vm0) args y 3 Wd (fun A a => a = as' ∧ A.U.heap = h ∧ A.cells + k ≤ R.cells ∧ A.slots + n ≤ R.slots) (fun A _ v B => ∃ L, Qb v B.U.heap L ∧ B.locs = A.locs ++ L ∧ B.cells = A.cells + k ∧ B.slots = A.slots + n))
    (hQ : ∀ v h' L, Qb v h' L → Keep h h' ws ∧ Fr n0 L) (sf : ∀ x ∈ ws, Safe Z EL vm0 h x) (sn : ∀ x ∈ ws, n0 ≤ x) (hc : cells + k ≤ R.cells) (hs : slots + n ≤ R.slots)
    (hg : g.method = m) (hsize : g.locals.size = c.maxLocals) {a : Addr} {argsL rest : List Value} (has : (.ref a :: argsL).toArray = as') (hlen : ∀ sig, parseMethodDescriptor y.desc = some sig → argsL.length = sig.parameters.length) (hstack : g.stack = argsL.reverse ++ .ref a :: rest) (hW : 2 * g.monitorRoom + (rest.map fun v => v.category).sum ≤ Wd) (hdg : decode c.code g.pc = .ok (.invokespecial index, 3)) :
    ∃ (v : Option Value) (T' : State) (h' : Heap) (L : List Loc), Wk p l e R s m args below meth c Z EL own n0 vm0 T' h' (cells + k) (slots + n) ∧ Qb v h' L ∧ h.size ≤ h'.size ∧ (∀ x, x < h.size → Safe Z EL vm0 h x → Safe Z EL vm0 h' x) ∧
      Steps p.tables e below (T.setTop g) (T'.setTop { g with pc := g.pc + 3, stack := v.toList ++ rest }) := by
  obtain ⟨locs, k0, X, eT, hS, hk, hZ, hown, hC, N, O, hKK⟩ := W
  have hZ' : Z.Warmed39 (s.setVm vm0).vm := hZ
  obtain ⟨v, vm1, B, -, X', ⟨L, hq, q1, q2, q3⟩, st⟩ := Stand.specialBack X hx hy1 hown (mvT hZ' w1) (mvT hZ' w2) (mvT hZ' wc) hy hB hg hsize (Steps.refl _) hlen hstack hW hdg (fun _ _ => ⟨has, eT, hc, hs⟩)
  obtain ⟨K, NL⟩ := hQ _ _ _ hq
  obtain ⟨W', sf'⟩ := Wk.behindN hS hk hZ hown hC N O hKK X' K NL sf sn q1 q2 q3
  exact ⟨v, B.U, B.U.heap, L, W', hq, K.1, sf', st⟩
theorem Wk.payVi {y : MethodName} {C : String} {as' : Array Value} {Qb : Option Value → Heap → List Loc → Prop} {k n index : Nat} {ws : List Addr} (W : Wk p l e R s m args below meth c Z EL own n0 vm0 T h cells slots) (hx : p.tables.exec = Jvm.exec)
    (w1 : (Cond.methodLink own index y).before a0 Z = true) (w2 : (Cond.declares y).before a0 Z = true) (w3 : (Cond.selects C y y).before a0 Z = true) (w4 : (Cond.instanceMethod y).before a0 Z = true) (hy : y.cls ≠ "java/lang/invoke/MethodHandle" ∧ y.cls ≠ "java/lang/invoke/VarHandle")
    {Wd : Nat} (hB : Back l R p e below (s.setVm vm0) args y 3 Wd (fun A a => a = as' ∧ A.U.heap = h ∧ A.cells + k ≤ R.cells ∧ A.slots + n ≤ R.slots) (fun A _ v B => ∃ L, Qb v B.U.heap L ∧ B.locs = A.locs ++ L ∧ B.cells = A.cells + k ∧ B.slots = A.slots + n))
    (hQ : ∀ v h' L, Qb v h' L → Keep h h' ws ∧ Fr n0 L) (sf : ∀ x ∈ ws, Safe Z EL vm0 h x) (sn : ∀ x ∈ ws, n0 ≤ x) (hc : cells + k ≤ R.cells) (hs : slots + n ≤ R.slots)
    (hg : g.method = m) (hsize : g.locals.size = c.maxLocals) {a : Addr} (E : Exa Z h a C) {argsL rest : List Value} (has : (.ref a :: argsL).toArray = as') (hlen : ∀ sig, parseMethodDescriptor y.desc = some sig → argsL.length = sig.parameters.length) (hstack : g.stack = argsL.reverse ++ .ref a :: rest) (hW : 2 * g.monitorRoom + (rest.map fun v => v.category).sum ≤ Wd) (hdg : decode c.code g.pc = .ok (.invokevirtual index, 3)) :
    ∃ (v : Option Value) (T' : State) (h' : Heap) (L : List Loc), Wk p l e R s m args below meth c Z EL own n0 vm0 T' h' (cells + k) (slots + n) ∧ Qb v h' L ∧ h.size ≤ h'.size ∧ (∀ x, x < h.size → Safe Z EL vm0 h x → Safe Z EL vm0 h' x) ∧
      Steps p.tables e below (T.setTop g) (T'.setTop { g with pc := g.pc + 3, stack := v.toList ++ rest }) := by
  obtain ⟨locs, k0, X, eT, hS, hk, hZ, hown, hC, N, O, hKK⟩ := W
  have hZ' : Z.Warmed39 (s.setVm vm0).vm := hZ
  obtain ⟨cB, kB, i1, i2, i3⟩ := isOf (s := (s.setVm vm0)) hZ' eT E
  obtain ⟨v, vm1, B, -, X', ⟨L, hq, q1, q2, q3⟩, st⟩ := Stand.virtualBack X hx hown (mvT hZ' w1) (mvT hZ' w2) (notFace_of_selects (args := #[]) (mvT hZ' w3)) (mvT hZ' w3) (mvT hZ' w4) hy hB i1 i3 hg hsize (Steps.refl _) hlen hstack hW hdg (fun _ _ => ⟨has, eT, hc, hs⟩)
  obtain ⟨K, NL⟩ := hQ _ _ _ hq
  obtain ⟨W', sf'⟩ := Wk.behindN hS hk hZ hown hC N O hKK X' K NL sf sn q1 q2 q3
  exact ⟨v, B.U, B.U.heap, L, W', hq, K.1, sf', st⟩
theorem Wk.payUp {y z : MethodName} {C owner : String} {as' : Array Value} {Qb : Option Value → Heap → List Loc → Prop} {k n index : Nat} {ws : List Addr} (W : Wk p l e R s m args below meth c Z EL own n0 vm0 T h cells slots) (hx : p.tables.exec = Jvm.exec)
    (w1 : (Cond.methodLink own index y).before a0 Z = true) (wsm : (Cond.sameMethod y.cls owner y.name y.desc).before a0 Z = true) (w2 : (Cond.declares ⟨owner, y.name, y.desc⟩).before a0 Z = true) (ho : owner ≠ "java/lang/invoke/MethodHandle" ∧ owner ≠ "java/lang/invoke/VarHandle") (w3 : (Cond.selects C y z).before a0 Z = true) (w4 : (Cond.instanceMethod z).before a0 Z = true) (hy : y.cls ≠ "java/lang/invoke/MethodHandle" ∧ y.cls ≠ "java/lang/invoke/VarHandle")
    {Wd : Nat} (hB : Back l R p e below (s.setVm vm0) args z 3 Wd (fun A a => a = as' ∧ A.U.heap = h ∧ A.cells + k ≤ R.cells ∧ A.slots + n ≤ R.slots) (fun A _ v B => ∃ L, Qb v B.U.heap L ∧ B.locs = A.locs ++ L ∧ B.cells = A.cells + k ∧ B.slots = A.slots + n))
    (hQ : ∀ v h' L, Qb v h' L → Keep h h' ws ∧ Fr n0 L) (sf : ∀ x ∈ ws, Safe Z EL vm0 h x) (sn : ∀ x ∈ ws, n0 ≤ x) (hc : cells + k ≤ R.cells) (hs : slots + n ≤ R.slots)
    (hg : g.method = m) (hsize : g.locals.size = c.maxLocals) {a : Addr} (E : Exa Z h a C) {argsL rest : List Value} (has : (.ref a :: argsL).toArray = as') (hlen : ∀ sig, parseMethodDescriptor y.desc = some sig → argsL.length = sig.parameters.length) (hstack : g.stack = argsL.reverse ++ .ref a :: rest) (hW : 2 * g.monitorRoom + (rest.map fun v => v.category).sum ≤ Wd) (hdg : decode c.code g.pc = .ok (.invokevirtual index, 3)) :
    ∃ (v : Option Value) (T' : State) (h' : Heap) (L : List Loc), Wk p l e R s m args below meth c Z EL own n0 vm0 T' h' (cells + k) (slots + n) ∧ Qb v h' L ∧ h.size ≤ h'.size ∧ (∀ x, x < h.size → Safe Z EL vm0 h x → Safe Z EL vm0 h' x) ∧
      Steps p.tables e below (T.setTop g) (T'.setTop { g with pc := g.pc + 3, stack := v.toList ++ rest }) := by
  obtain ⟨locs, k0, X, eT, hS, hk, hZ, hown, hC, N, O, hKK⟩ := W
  have hZ' : Z.Warmed39 (s.setVm vm0).vm := hZ
  obtain ⟨cB, kB, i1, i2, i3⟩ := isOf (s := (s.setVm vm0)) hZ' eT E
  obtain ⟨v, vm1, B, -, X', ⟨L, hq, q1, q2, q3⟩, st⟩ := X.virtualBackUp hx hown (mvT hZ' w1) (mvT hZ' wsm) (mvT hZ' w2) ho (mvT hZ' w3) (mvT hZ' w4) hB i1 i3 hg hsize (Steps.refl _) hlen hstack hW hdg (fun _ _ => ⟨has, eT, hc, hs⟩)
  obtain ⟨K, NL⟩ := hQ _ _ _ hq
  obtain ⟨W', sf'⟩ := Wk.behindN hS hk hZ hown hC N O hKK X' K NL sf sn q1 q2 q3
  exact ⟨v, B.U, B.U.heap, L, W', hq, K.1, sf', st⟩
theorem Wk.len (W : Wk p l e R s m args below meth c Z EL own n0 vm0 T h cells slots) (hx : p.tables.exec = Jvm.exec) {a : Addr} {k : ClassId} {ty : FieldType} {z : Int32} {vs : List Value} {d : Value} (A : Arv Z h a k ty z vs d)
    (hg : g.method = m) {rest : List Value} (hs : g.stack = .ref a :: rest) (hd : decode c.code g.pc = .ok (.arraylength, 1)) :
    ∀ target, Steps p.tables e below (T.setTop { g with pc := g.pc + 1, stack := .int z :: rest }) target → Steps p.tables e below (T.setTop g) target := fun target k => by
  obtain ⟨locs, X⟩ := W.stand
  obtain ⟨cl, A1, q1, q2, q3, -⟩ := A
  refine X.arraylength hx (by rw [W.heap]; exact A1.1) (State.isArrayOf_alike W.warmS.alike A1.2.1) (g := g) hg hs hd _ ?_
  rw [len_of q2 q3]; exact k
theorem Wk.ldC (W : Wk p l e R s m args below meth c Z EL own n0 vm0 T h cells slots) (hx : p.tables.exec = Jvm.exec) {a : Addr} {k : ClassId} {z j : Int32} {vs : List Value} {d : Value} (A : Arv Z h a k .char z vs d) (hj : ¬ j < 0 ∧ j < z) {v : Value} (hv : vs.getD j.toNatClampNeg d = v)
    (hg : g.method = m) {rest : List Value} (hs : g.stack = .int j :: .ref a :: rest) (hd : decode c.code g.pc = .ok (.caload, 1)) :
    ∀ target, Steps p.tables e below (T.setTop { g with pc := g.pc + 1, stack := v :: rest }) target → Steps p.tables e below (T.setTop g) target := fun target k => by
  obtain ⟨locs, X⟩ := W.stand
  obtain ⟨cl, A1, q1, q2, q3, q4, -⟩ := A
  exact X.caload hx (by rw [W.heap]; exact A1.1) (State.isArrayOf_alike W.warmS.alike A1.2.1) A1.2.2 (inb_of q2 hj) (q4.at (inb_of q2 hj) hv) hg hs hd _ k
theorem Wk.ldB (W : Wk p l e R s m args below meth c Z EL own n0 vm0 T h cells slots) (hx : p.tables.exec = Jvm.exec) {a : Addr} {k : ClassId} {z j : Int32} {vs : List Value} {d : Value} (A : Arv Z h a k .byte z vs d) (hj : ¬ j < 0 ∧ j < z) {v : Value} (hv : vs.getD j.toNatClampNeg d = v)
    (hg : g.method = m) {rest : List Value} (hs : g.stack = .int j :: .ref a :: rest) (hd : decode c.code g.pc = .ok (.baload, 1)) :
    ∀ target, Steps p.tables e below (T.setTop { g with pc := g.pc + 1, stack := v :: rest }) target → Steps p.tables e below (T.setTop g) target := fun target k => by
  obtain ⟨locs, X⟩ := W.stand
  obtain ⟨cl, A1, q1, q2, q3, q4, -⟩ := A
  exact X.baloadBytes hx (by rw [W.heap]; exact A1.1) (State.isArrayOf_alike W.warmS.alike A1.2.1) A1.2.2 (inb_of q2 hj) (q4.at (inb_of q2 hj) hv) hg hs hd _ k
theorem Wk.ldI (W : Wk p l e R s m args below meth c Z EL own n0 vm0 T h cells slots) (hx : p.tables.exec = Jvm.exec) {a : Addr} {k : ClassId} {z j : Int32} {vs : List Value} {d : Value} (A : Arv Z h a k .int z vs d) (hj : ¬ j < 0 ∧ j < z) {v : Value} (hv : vs.getD j.toNatClampNeg d = v)
    (hg : g.method = m) {rest : List Value} (hs : g.stack = .int j :: .ref a :: rest) (hd : decode c.code g.pc = .ok (.iaload, 1)) :
    ∀ target, Steps p.tables e below (T.setTop { g with pc := g.pc + 1, stack := v :: rest }) target → Steps p.tables e below (T.setTop g) target := fun target k => by
  obtain ⟨locs, X⟩ := W.stand
  obtain ⟨cl, A1, q1, q2, q3, q4, -⟩ := A
  exact X.iaload hx (by rw [W.heap]; exact A1.1) (State.isArrayOf_alike W.warmS.alike A1.2.1) A1.2.2 (inb_of q2 hj) (q4.at (inb_of q2 hj) hv) hg hs hd _ k
theorem Wk.ldD (W : Wk p l e R s m args below meth c Z EL own n0 vm0 T h cells slots) (hx : p.tables.exec = Jvm.exec) {a : Addr} {k : ClassId} {z j : Int32} {vs : List Value} {d : Value} (A : Arv Z h a k .double z vs d) (hj : ¬ j < 0 ∧ j < z) {v : Value} (hv : vs.getD j.toNatClampNeg d = v)
    (hg : g.method = m) {rest : List Value} (hs : g.stack = .int j :: .ref a :: rest) (hd : decode c.code g.pc = .ok (.daload, 1)) :
    ∀ target, Steps p.tables e below (T.setTop { g with pc := g.pc + 1, stack := v :: rest }) target → Steps p.tables e below (T.setTop g) target := fun target k => by
  obtain ⟨locs, X⟩ := W.stand
  obtain ⟨cl, A1, q1, q2, q3, q4, -⟩ := A
  exact X.daload hx (by rw [W.heap]; exact A1.1) (State.isArrayOf_alike W.warmS.alike A1.2.1) A1.2.2 (inb_of q2 hj) (q4.at (inb_of q2 hj) hv) hg hs hd _ k
theorem Wk.ldcJ (W : Wk p l e R s m args below meth c Z EL own n0 vm0 T h cells slots) (hx : p.tables.exec = Jvm.exec) {index : Nat} {v : Int64} (w : (Cond.constantLong own index v).before a0 Z = true) (hg : g.method = m) (hd : decode c.code g.pc = .ok (.ldc2_w index, 3)) :
    ∀ target, Steps p.tables e below (T.setTop { g with pc := g.pc + 3, stack := .long v :: g.stack }) target → Steps p.tables e below (T.setTop g) target := by
  obtain ⟨locs, X⟩ := W.stand
  exact X.ldc2Long hx W.owns (mvT W.warmS w) hg hd
theorem Wk.ldcD (W : Wk p l e R s m args below meth c Z EL own n0 vm0 T h cells slots) (hx : p.tables.exec = Jvm.exec) {index : Nat} {v : UInt64} (w : (Cond.constantDouble own index v).before a0 Z = true) (hg : g.method = m) (hd : decode c.code g.pc = .ok (.ldc2_w index, 3)) :
    ∀ target, Steps p.tables e below (T.setTop { g with pc := g.pc + 3, stack := .double v :: g.stack }) target → Steps p.tables e below (T.setTop g) target := by
  obtain ⟨locs, X⟩ := W.stand
  exact X.ldc2DoubleC hx W.owns (mvT W.warmS w) hg hd
theorem Go.join {α : Type} {f : α → JFrame} (hb : (∀ y, Go p e below Q T (f y)) → Go p e below Q T g) (k : ∀ y, Go p e below Q T (f y)) : Go p e below Q T g := hb k
theorem Wk.ldcI (W : Wk p l e R s m args below meth c Z EL own n0 vm0 T h cells slots) (hx : p.tables.exec = Jvm.exec) {index : Nat} {v : Int32} (w : (Cond.constant own index v).before a0 Z = true) (hg : g.method = m) (hd : decode c.code g.pc = .ok (.ldc index, 2)) :
    ∀ target, Steps p.tables e below (T.setTop { g with pc := g.pc + 2, stack := .int v :: g.stack }) target → Steps p.tables e below (T.setTop g) target := by
  obtain ⟨locs, X⟩ := W.stand
  exact X.ldcInt hx W.owns (mvT W.warmS w) hg hd
theorem Wk.acmp {target : State} (W : Wk p l e R s m args below meth c Z EL own n0 vm0 T h cells slots) (hx : p.tables.exec = Jvm.exec) (hg : g.method = m) {cd : ACond} {x y : Value} (h1 : x.isRef = true) (h2 : y.isRef = true) {rest : List Value} {o : Int} {pc0 pc' : Nat} {same : Bool} (hpc : g.pc = pc0)
    (hd : decode c.code g.pc = .ok (.if_acmp cd o, 3)) (hs : g.stack = y :: x :: rest) (hq : decide (x = y) = same) (ho : 0 ≤ (pc0 : Int) + o) (hp : pc' = if acV cd same = true then ((pc0 : Int) + o).toNat else pc0 + 3)
    (hr : Steps p.tables e below (T.setTop { g with pc := pc', stack := rest }) target) : Steps p.tables e below (T.setTop g) target := by
  obtain ⟨locs, X⟩ := W.stand
  exact RoadKit.acmp X hx hg h1 h2 hpc hd hs hq ho hp hr
theorem Wk.irem {target : State} (W : Wk p l e R s m args below meth c Z EL own n0 vm0 T h cells slots) (hx : p.tables.exec = Jvm.exec) (hg : g.method = m) {x y : Int32} {rest : List Value} (hd : decode c.code g.pc = .ok (.irem, 1)) (hs : g.stack = .int y :: .int x :: rest) (hy : y ≠ 0)
    (hr : Steps p.tables e below (T.setTop { g with pc := g.pc + 1, stack := .int (x % y) :: rest }) target) : Steps p.tables e below (T.setTop g) target := by
  obtain ⟨locs, X⟩ := W.stand
  exact RoadKit.iremM X hx hg hd hs hy hr
end OwnKit
end Jvm.Pilot.@@N@@
namespace Jvm.Pilot.@@N@@
open Jvm Jvm.ClassFile Sem Op Lib Jvm.Free Jvm.Stand Jvm.LawKit Jvm.RoadKit Bundle Jvm.Pilot.@@N@@.Jvm.D
section OwnKit2
variable {p : Program} {l : Launch} {e : Env} {R : Room} {s : State} {m : MethodId} {args : Array Value} {below : List Frame} {meth : Method} {c : Code} {T T' : State} {cells slots : Nat} {Z : State} {a0 : Array Value} {EL : List (String × Nat)} {vm0 : Vm} {h h' : Heap} {own : String} {n0 : Nat} {Q : Outcome → State → Prop} {g g' : JFrame}
theorem own_fitsR {v : Value} {C : String} (h : v.isRef = true) : fits (.object C) v = true := by cases v <;> simp [Value.isRef, fits] at h ⊢
theorem own_fitsA {v : Value} {t : FieldType} (h : v.isRef = true) : fits (.array t) v = true := by cases v <;> simp [Value.isRef, fits] at h ⊢
/-- a String whose value is null yet is no booked constant -/
theorem own_safe_blank {x : Addr} {vm : Vm} (hal : Z.vm.Alike vm) (E : Exa Z h x "java/lang/String") (F : Fld Z h x "java/lang/String" "value" "[B" .null) : Safe Z EL vm h x := fun B => by
  obtain ⟨pe, -, u, a, -, q, -, F', rfl | rfl⟩ := B
  · obtain ⟨cell, cf, k, i, f, f1, f2, f3, f4, f5, f6, f7⟩ := F
    obtain ⟨cS, ⟨⟨s1, s2, s3, ⟨c1, k1, i1, g1, -⟩, -, s6, s7, v1, -⟩, -⟩, -⟩ := F'
    obtain ⟨k3, e3, -⟩ := State.fieldFound?_setVm (s := Z) hal f2
    have e4 := (show (Wst Z vm h).fieldFound? _ _ _ = _ from e3).symm.trans g1
    simp only [Option.some.injEq, Prod.mk.injEq] at e4
    cases (show h[q.sa]? = some q.sC from s1).symm.trans f1
    rw [← e4.2.2.2, f7] at v1
    cases v1
  · obtain ⟨cell, k, e1, e2, e3, -, -⟩ := E
    have hd := F'.hd
    obtain ⟨cS, -, -, f, -⟩ := F'
    cases (show h[q.sd]? = some q.SA from hd).symm.trans e1
    have f' : vm.findClass "[B" = some q.SA.cls := f
    rw [hal.findClass] at f'
    obtain ⟨k1, q1, q2⟩ := Vm.findClass_spec f'
    obtain ⟨k2, q3, q4⟩ := Vm.findClass_spec e2
    cases q1.symm.trans q3
    have := q2.symm.trans q4
    exact absurd this (by decide)
/-- a String of these chars; t is its byte[] -/
def Str (Z : State) (h : Heap) (x t : Addr) (cs : List Int32) : Prop := Exa Z h x "java/lang/String" ∧ Fld Z h x "java/lang/String" "value" "[B" (.ref t) ∧ ∃ (kb : ClassId) (cd N2 : Int32) (vs : List Value), Fld Z h x "java/lang/String" "coder" "B" (.int cd) ∧ Arv Z h t kb .byte N2 vs (.int 0) ∧ StrChars.Road.CodA cs cd N2 vs ∧ (∀ c ∈ cs, ¬ c < 0 ∧ ¬ (65535 : Int32) < c) ∧ cs.length ≤ 4000
theorem Str.lt {x t : Addr} {cs : List Int32} (F : Str Z h x t cs) : x < h.size ∧ t < h.size := by obtain ⟨E, -, _, _, _, _, -, A, -⟩ := F; exact ⟨E.lt, A.lt⟩
theorem Str.ext {x t : Addr} {cs : List Int32} (F : Str Z h x t cs) (E : Ext h h') : Str Z h' x t cs := by obtain ⟨E1, F1, kb, cd, N2, vs, F2, A, r⟩ := F; exact ⟨E1.ext E, F1.ext E, kb, cd, N2, vs, F2.ext E, A.ext E, r⟩
theorem Str.other {x t a : Addr} {sl : Nat} {v : Value} {cs : List Int32} (F : Str Z h x t cs) (W : Wr h h' a sl v) (n1 : x ≠ a) (n2 : t ≠ a) : Str Z h' x t cs := by obtain ⟨E1, F1, kb, cd, N2, vs, F2, A, r⟩ := F; exact ⟨E1.wr W, F1.other W (Or.inl n1), kb, cd, N2, vs, F2.other W (Or.inl n1), A.other W n2, r⟩
theorem Str.keep {x t : Addr} {ws : List Addr} {cs : List Int32} (F : Str Z h x t cs) (K : Keep h h' ws) (n1 : x ∉ ws) (n2 : t ∉ ws) : Str Z h' x t cs := by obtain ⟨E1, F1, kb, cd, N2, vs, F2, A, r⟩ := F; exact ⟨E1.keep K, F1.keep K n1, kb, cd, N2, vs, F2.keep K n1, A.keep K n2, r⟩
/-- Latin-1: out of the pieces -/
theorem Str.lat {x t : Addr} {kb : ClassId} {N2 : Int32} {vs : List Value} {cs : List Int32} (E : Exa Z h x "java/lang/String") (F : Fld Z h x "java/lang/String" "value" "[B" (.ref t)) (C : Fld Z h x "java/lang/String" "coder" "B" (.int 0)) (A : Arv Z h t kb .byte N2 vs (.int 0)) (hN : N2 = Int32.ofNat cs.length) (hv : vs = cs.map fun c => Value.int (StrChars.lo8 c)) (hc : ∀ c ∈ cs, ¬ c < 0 ∧ ¬ (255 : Int32) < c) (hl : cs.length ≤ 4000) : Str Z h x t cs :=
  ⟨E, F, kb, 0, N2, vs, C, A, Or.inl ⟨rfl, hN, hv, fun c q => (hc c q).2⟩, fun c q => ⟨(hc c q).1, fun z => (hc c q).2 (by
    have h1 := (Int32.lt_iff_toInt_lt).mp z
    rw [Int32.lt_iff_toInt_lt]
    simp at h1 ⊢; omega)⟩, hl⟩
end OwnKit2
end Jvm.Pilot.@@N@@
namespace Jvm.Pilot.@@N@@
open Jvm Jvm.ClassFile Sem Op Lib Jvm.Free Jvm.Stand Jvm.LawKit Jvm.RoadKit Bundle Jvm.Pilot.@@N@@.Jvm.D
theorem Wk.strEmp {p : Program} {l : Launch} {e : Env} {R : Room} {s : State} {m : MethodId} {args : Array Value} {below : List Frame} {meth : Method} {c : Code} {T : State} {cells slots : Nat} {Z : State} {a0 : Array Value} {EL : List (String × Nat)} {vm0 : Vm} {h : Heap} {own : String} {n0 : Nat} {g : JFrame} (W : Wk p l e R s m args below meth c Z EL own n0 vm0 T h cells slots) (hx : p.tables.exec = Jvm.exec) (hws : ∀ d ∈ StrChars.Road.wordsEmp, d.before a0 Z = true) {kI : Nat} (wi : (Jvm.Cond.instantiable "java/lang/String" kI).before a0 Z = true) {x t : Addr} {cs : List Int32} (S : Str Z h x t cs) 
    {index : Nat} (w1 : (Jvm.Cond.methodLink own index ⟨"java/lang/String", "isEmpty", "()Z"⟩).before a0 Z = true) (w2 : (Jvm.Cond.declares ⟨"java/lang/String", "isEmpty", "()Z"⟩).before a0 Z = true) (w3 : (Jvm.Cond.selects "java/lang/String" ⟨"java/lang/String", "isEmpty", "()Z"⟩ ⟨"java/lang/String", "isEmpty", "()Z"⟩).before a0 Z = true) (w4 : (Jvm.Cond.instanceMethod ⟨"java/lang/String", "isEmpty", "()Z"⟩).before a0 Z = true)
    {Wd : Nat} (hf : 1 ≤ R.frames) (hl : Wd + 12 ≤ R.locals) (hc : cells ≤ R.cells) (hs : slots ≤ R.slots) (hg : g.method = m) (hsize : g.locals.size = c.maxLocals) {rest : List Value} (hstack : g.stack = .ref x :: rest) (hW : 2 * g.monitorRoom + (rest.map fun v => v.category).sum ≤ Wd) (hdg : decode c.code g.pc = .ok (.invokevirtual index, 3)) :
    ∃ T' , Wk p l e R s m args below meth c Z EL own n0 vm0 T' h cells slots ∧ Steps p.tables e below (T.setTop g) (T'.setTop { g with pc := g.pc + 3, stack := .int (if cs.length = 0 then 1 else 0) :: rest }) := by
  obtain ⟨E, V, kb, cd, N2, vs, C, A, hcd, hb, hl2⟩ := S
  have hB := StrChars.Road.empW (l := l) (R := R) (p := p) (e := e) (below := below) (args := args) (len := 3) (W := Wd) W.warmS hws wi E V C A hcd hb hl2 hf hl
  obtain ⟨v, T', h', L, W', q, -, -, st⟩ := W.payVi hx w1 w2 w3 w4 (by decide) (Qb := fun v h' L => v = some (.int (if cs.length = 0 then 1 else 0)) ∧ L = [] ∧ h' = h) (k := 0) (n := 0) (Wd := Wd) (ws := []) hB (fun v h' L q => ⟨q.2.2 ▸ Keep.refl _ _, q.2.1 ▸ Fr.nil _⟩) sf0 all0 hc hs hg hsize (a := x) E (argsL := []) (rest := rest) rfl (lenOf (by decide +kernel : parseMethodDescriptor "()Z" = some ⟨[], some .boolean⟩) rfl) hstack hW hdg
  obtain ⟨rfl, rfl, rfl⟩ := q
  exact ⟨T', W', st⟩
end Jvm.Pilot.@@N@@
namespace Jvm.Pilot.@@N@@
open Jvm Jvm.ClassFile Sem Op Lib Jvm.Free Jvm.Stand Jvm.LawKit Jvm.RoadKit Bundle Jvm.Pilot.@@N@@.Jvm.D
theorem Wk.strChr {p : Program} {l : Launch} {e : Env} {R : Room} {s : State} {m : MethodId} {args : Array Value} {below : List Frame} {meth : Method} {c : Code} {T : State} {cells slots : Nat} {Z : State} {a0 : Array Value} {EL : List (String × Nat)} {vm0 : Vm} {h : Heap} {own : String} {n0 : Nat} {g : JFrame} (W : Wk p l e R s m args below meth c Z EL own n0 vm0 T h cells slots) (hx : p.tables.exec = Jvm.exec) (hws : ∀ d ∈ StrChars.Road.wordsChN, d.before a0 Z = true) {kI : Nat} (wi : (Jvm.Cond.instantiable "java/lang/String" kI).before a0 Z = true) {x t : Addr} {cs : List Int32} (S : Str Z h x t cs) (h255 : ∀ c ∈ cs, ¬ (255 : Int32) < c) {z : Int32} (hz : Sta Z Z.heap "java/lang/String" "COMPACT_STRINGS" "Z" (.int z)) (hz0 : ¬ z = 0) {fm : Value} (hfm : Sta Z Z.heap "jdk/internal/util/Preconditions" "SIOOBE_FORMATTER" "Ljava/util/function/BiFunction;" fm) (rfm : fm.isRef = true) {i : Nat} {j : Int32} (hi : i < cs.length) (hj : j = Int32.ofNat i)
    {index : Nat} (w1 : (Jvm.Cond.methodLink own index ⟨"java/lang/String", "charAt", "(I)C"⟩).before a0 Z = true) (w2 : (Jvm.Cond.declares ⟨"java/lang/String", "charAt", "(I)C"⟩).before a0 Z = true) (w3 : (Jvm.Cond.selects "java/lang/String" ⟨"java/lang/String", "charAt", "(I)C"⟩ ⟨"java/lang/String", "charAt", "(I)C"⟩).before a0 Z = true) (w4 : (Jvm.Cond.instanceMethod ⟨"java/lang/String", "charAt", "(I)C"⟩).before a0 Z = true)
    {Wd : Nat} (hf : 4 ≤ R.frames) (hl : Wd + 53 ≤ R.locals) (hc : cells ≤ R.cells) (hs : slots ≤ R.slots) (hg : g.method = m) (hsize : g.locals.size = c.maxLocals) {rest : List Value} (hstack : g.stack = .int j :: .ref x :: rest) (hW : 2 * g.monitorRoom + (rest.map fun v => v.category).sum ≤ Wd) (hdg : decode c.code g.pc = .ok (.invokevirtual index, 3)) :
    ∃ T' , Wk p l e R s m args below meth c Z EL own n0 vm0 T' h cells slots ∧ Steps p.tables e below (T.setTop g) (T'.setTop { g with pc := g.pc + 3, stack := .int (cs.getD i 0) :: rest }) := by
  obtain ⟨E, V, kb, cd, N2, vs, C, A, hcd, hb, hl2⟩ := S
  obtain rfl : cd = 0 := by
    rcases hcd with ⟨q, -⟩ | ⟨-, -, -, c, q1, q2⟩
    · exact q
    · exact absurd q2 (h255 c q1)
  have hB := StrChars.Road.chN (l := l) (R := R) (p := p) (e := e) (below := below) (args := args) (len := 3) (W := Wd) W.warmS hws wi E V C A hcd hb (W.sta hz) hz0 (W.sta hfm) rfm hl2 hi hj hf hl
  obtain ⟨v, T', h', L, W', q, -, -, st⟩ := W.payVi hx w1 w2 w3 w4 (by decide) (Qb := fun v h' L => v = some (.int (cs.getD i 0)) ∧ L = [] ∧ h' = h) (k := 0) (n := 0) (Wd := Wd) (ws := []) hB (fun v h' L q => ⟨q.2.2 ▸ Keep.refl _ _, q.2.1 ▸ Fr.nil _⟩) sf0 all0 hc hs hg hsize (a := x) E (argsL := [.int j]) (rest := rest) rfl (lenOf (by decide +kernel : parseMethodDescriptor "(I)C" = some ⟨[.int], some .char⟩) rfl) hstack hW hdg
  obtain ⟨rfl, rfl, rfl⟩ := q
  exact ⟨T', W', st⟩
end Jvm.Pilot.@@N@@
namespace Jvm.Pilot.@@N@@
open Jvm Jvm.ClassFile Sem Op Lib Jvm.Free Jvm.Stand Jvm.LawKit Jvm.RoadKit Bundle Jvm.Pilot.@@N@@.Jvm.D
/-- what every walk of this claim rests on -/
def Ctx (Z : State) (a0 : Array Value) : Prop := (∀ d ∈ tables_1, d.before a0 Z = true) ∧ (∃ zc : Int32, Sta Z Z.heap "java/lang/String" "COMPACT_STRINGS" "Z" (.int zc) ∧ ¬ zc = 0) ∧ (∃ fm : Value, Sta Z Z.heap "jdk/internal/util/Preconditions" "SIOOBE_FORMATTER" "Ljava/util/function/BiFunction;" fm ∧ fm.isRef = true) ∧ Sta Z Z.heap "java/lang/StringUTF16" "$assertionsDisabled" "Z" (.int (1 : Int32)) ∧ Sta Z Z.heap "java/lang/StringUTF16" "HI_BYTE_SHIFT" "I" (.int (0 : Int32)) ∧ Sta Z Z.heap "java/lang/StringUTF16" "LO_BYTE_SHIFT" "I" (.int (8 : Int32))
theorem own_EW {Z : State} {a0 : Array Value} (hw : ∀ d ∈ tables_1, d.before a0 Z = true) : EW Z a0 consts_1 := (EW.cons (hw _ (List.mem_of_getElem? (i := 79) rfl)) (by decide) EW.nil)
theorem own_stringAtoms {Z : State} {a0 : Array Value} (hw : ∀ d ∈ tables_1, d.before a0 Z = true) : ∀ d ∈ Bundle.stringAtoms, d.before a0 Z = true := fun d hd => hw d ((by decide +kernel : ∀ d ∈ Bundle.stringAtoms, d ∈ tables_1) d hd)
theorem own_eqI {args : Array Value} {s : State} {t : Term} {n : Int32} (h : (Jvm.Cond.eq t (Jvm.Term.int n)).value args s none s [] = some true) : t.eval args s none [] s = some (.int n) := by
  obtain ⟨x, y, e1, e2, k1, k2⟩ := cmp_v (Or.inl h)
  rw [Term.int_eval] at e2
  cases e2
  obtain ⟨z, rfl⟩ := k2
  have q := gotT (Cond.eq_ints e1 (Term.int_eval n)) h
  rw [e1, q]
theorem own_eqJ {args : Array Value} {s : State} {t : Term} {n : Int64} (h : (Jvm.Cond.eq t (Jvm.Term.long n)).value args s none s [] = some true) : t.eval args s none [] s = some (.long n) := by
  obtain ⟨x, y, e1, e2, k1, k2⟩ := cmp_v (Or.inl h)
  have e3 : (Jvm.Term.long n).eval args s none [] s = some (.long n) := rfl
  rw [e3] at e2
  cases e2
  obtain ⟨z, rfl⟩ := k2
  have q := gotT (eq_L e1 e3) h
  rw [e1, q]
theorem own_exa {args : Array Value} {s : State} {t : Term} {C : String} (h : (Jvm.Cond.exactly t C).value args s none s [] = some true) : ∃ x, t.eval args s none [] s = some (.ref x) := exa_v h
theorem own_all0 {α : Type} {P : α → Prop} : ∀ x ∈ ([] : List α), P x := fun _ q => nomatch q
theorem own_allS {α : Type} {P : α → Prop} {y : α} {L : List α} (q : P y) (r : ∀ x ∈ L, P x) : ∀ x ∈ y :: L, P x := fun x z => (List.mem_cons.mp z).elim (fun u => u ▸ q) (r x)
theorem own_and255 (x : Int32) : ¬ (x &&& (255 : Int32)) < 0 ∧ ¬ (255 : Int32) < (x &&& (255 : Int32)) := by
  have q := c_and x 255 (by decide)
  have e : (255 : Int32).toInt = 255 := rfl
  simp only [Int32.lt_iff_toInt_lt, Int32.reduceToInt, e] at q ⊢
  omega
theorem own_narB (x : Int32) : nar .byte (x.toInt8.toInt32) = x.toInt8.toInt32 := by simp [nar]
theorem own_nochar (x : Int32) : nar .char (x &&& (255 : Int32)) = x &&& (255 : Int32) := i2c_mask x
def own_de (c : Int32) : Int32 := if c = (32 : Int32) then 1 else 0
theorem own_and3 (x : Int32) : (x &&& (3 : Int32)) = (0 : Int32) ∨ (x &&& (3 : Int32)) = (1 : Int32) ∨ (x &&& (3 : Int32)) = (2 : Int32) ∨ (x &&& (3 : Int32)) = (3 : Int32) := by
  have h := c_and x 3 (by decide)
  have e0 : (0 : Int32).toInt = 0 := rfl
  have e1 : (1 : Int32).toInt = 1 := rfl
  have e2 : (2 : Int32).toInt = 2 := rfl
  have e3 : (3 : Int32).toInt = 3 := rfl
  simp only [← Int32.toInt_inj, e0, e1, e2, e3] at *
  omega
theorem own_units {u : Array UInt16} (h : utf16ToString? u = some "") : u = #[] := by
  have h1 := lat_of_text h (by decide)
  have h2 := app_eq u.toList "" "" (fun x hx => by
    have := (Array.all_eq_true_iff_forall_mem.mp h1) x (Array.mem_toList_iff.mp hx)
    simpa using this) h
  have h3 : u.toList.map (fun u => Char.ofNat u.toNat) = [] := by simpa using h2.symm
  have h4 : u.toList = [] := by simpa using h3
  exact Array.toList_eq_nil_iff.mp h4
/-- a byte[] that is not empty is no booked constant's, where every constant is the empty text -/
theorem own_safeB {Z : State} {a0 : Array Value} {EL : List (String × Nat)} {vm : Vm} {h : Heap} {x : Addr} {kb : ClassId} {z : Int32} {vs : List Value} {d : Value} (hZ : Z.Warmed39 vm) (hE1 : ∀ q ∈ EL, (Jvm.Cond.stringLink q.1 q.2 "").before a0 Z = true) (A : Arv Z h x kb .byte z vs d) (hz : ¬ z.toNatClampNeg = 0) : Safe Z EL vm h x := fun B => by
  have hal := hZ.alike
  obtain ⟨cA, ⟨A1, ⟨-, kA, hkA, compA, hkindA⟩, -⟩, -, hsz, -⟩ := A
  obtain ⟨kA', hkA', ekA⟩ := hal.2.2 _ _ hkA
  obtain ⟨pe, hp, u, a, hb, q, -, F, rfl | rfl⟩ := B
  · cases (show h[q.sa]? = some q.sC from F.ha).symm.trans A1
    obtain ⟨cS, ⟨-, -, e⟩, ⟨kS, g1, g2, -⟩, -⟩ := F
    subst e
    cases (show vm.classes[q.sC.cls]? = some kS from g1).symm.trans hkA'
    rw [ekA] at g2
    have := hkindA.symm.trans g2
    cases this
  · cases (show h[q.sd]? = some q.SA from F.hd).symm.trans A1
    obtain ⟨cS, -, -, -, hby⟩ := F
    obtain ⟨c, k, cf, i, b1, b2, b3, b4, b5, -⟩ := hb
    have w : (Jvm.Cond.stringLink pe.1 pe.2 "").before a0 (Wst Z vm h) = true := mvS (s := { Z with heap := h }) hZ (hE1 pe hp)
    obtain ⟨k0, cf0, i0, u0, c1, c2, c3, c4, -, c6, -⟩ := Cond.stringLink_spec (s := Wst Z vm h) b1 w
    cases b2.symm.trans c1
    cases b3.symm.trans c2
    cases b4.symm.trans c3
    cases b5.symm.trans c4
    have hu := own_units c6
    subst hu
    rw [hby] at hsz
    exact hz (hsz.symm.trans (by simp [stringBytes]))
theorem own_i2c16 {x : Int32} : ((x &&& (65535 : Int32)).toUInt32.toUInt16.toUInt32.toInt32) = x &&& (65535 : Int32) := by
  have h1 := c_and x 65535 (by decide)
  have h2 := c_i2c (x &&& 65535)
  have e : (65535 : Int32).toInt = 65535 := rfl
  rw [e] at h1
  exact Int32.toInt_inj.mp (by omega)
/-- a char -/
def Chr (c : Int32) : Prop := ¬ c < (0 : Int32) ∧ ¬ (65535 : Int32) < c
theorem own_chr (x : Int32) : Chr (x &&& (65535 : Int32)) := by
  have h1 := c_and x 65535 (by decide)
  have e : (65535 : Int32).toInt = 65535 := rfl
  have e0 : (0 : Int32).toInt = 0 := rfl
  rw [e] at h1
  exact ⟨by rw [Int32.lt_iff_toInt_lt, e0]; omega, by rw [Int32.lt_iff_toInt_lt, e]; omega⟩
theorem own_narC {c : Int32} (h : Chr c) : nar .char c = c := by
  have h1 := h.1
  have h2 := h.2
  have h3 := c_i2c c
  have e : (65535 : Int32).toInt = 65535 := rfl
  have e0 : (0 : Int32).toInt = 0 := rfl
  rw [Int32.lt_iff_toInt_lt, e0] at h1
  rw [Int32.lt_iff_toInt_lt, e] at h2
  exact Int32.toInt_inj.mp (by show (c.toUInt32.toUInt16.toUInt32.toInt32).toInt = _; omega)
theorem own_join {c : Int32} (h : Chr c) : ((((((c >>> ((0 : Int32) &&& 31)).toInt8.toInt32) &&& (255 : Int32)) <<< ((0 : Int32) &&& 31)) ||| ((((c >>> ((8 : Int32) &&& 31)).toInt8.toInt32) &&& (255 : Int32)) <<< ((8 : Int32) &&& 31))).toUInt32.toUInt16.toUInt32.toInt32) = c := by
  have h1 := h.1
  have h2 := h.2
  have e : (65535 : Int32).toInt = 65535 := rfl
  have e0 : (0 : Int32).toInt = 0 := rfl
  rw [Int32.lt_iff_toInt_lt, e0] at h1
  rw [Int32.lt_iff_toInt_lt, e] at h2
  have a1 := c_ishr c 0 0 (by decide)
  have a2 := c_ishr c 8 8 (by decide)
  have b1 := c_i2b (c >>> ((0 : Int32) &&& 31))
  have b2 := c_i2b (c >>> ((8 : Int32) &&& 31))
  have d1 := c_mask ((c >>> ((0 : Int32) &&& 31)).toInt8.toInt32) 255 8 (by decide) (by decide)
  have d2 := c_mask ((c >>> ((8 : Int32) &&& 31)).toInt8.toInt32) 255 8 (by decide) (by decide)
  have f1 := c_ishl (((c >>> ((0 : Int32) &&& 31)).toInt8.toInt32) &&& 255) 0 0 (by decide)
  have f2 := c_ishl (((c >>> ((8 : Int32) &&& 31)).toInt8.toInt32) &&& 255) 8 8 (by decide)
  generalize hA : ((((c >>> ((0 : Int32) &&& 31)).toInt8.toInt32) &&& (255 : Int32)) <<< ((0 : Int32) &&& 31)) = A at f1 ⊢
  generalize hB : ((((c >>> ((8 : Int32) &&& 31)).toInt8.toInt32) &&& (255 : Int32)) <<< ((8 : Int32) &&& 31)) = B at f2 ⊢
  have la := Int32.le_toInt A
  have la' := Int32.toInt_lt A
  have lb := Int32.le_toInt B
  have lb' := Int32.toInt_lt B
  have g := c_or' A B 8 (by decide) 256 (by decide) (by omega) (by omega) (by omega)
  have k := c_i2c (A ||| B)
  exact Int32.toInt_inj.mp (by omega)
theorem own_chr32 : Chr (32 : Int32) := by unfold Chr; decide
theorem own_E1 {Z : State} {a0 : Array Value} (hw : ∀ d ∈ tables_1, d.before a0 Z = true) : ∀ q ∈ consts_1, (Jvm.Cond.stringLink q.1 q.2 "").before a0 Z = true := fun q hq => by
  simp only [consts_1, List.mem_cons, List.not_mem_nil, or_false] at hq
  subst hq
  exact (hw _ (List.mem_of_getElem? (i := 79) rfl))
theorem dd_jdk_41_method_11_code_0 : decode jdk_41_method_11_code 0 = .ok (.iload_n 0, 1) := by decide +kernel
theorem dd_jdk_41_method_11_code_1 : decode jdk_41_method_11_code 1 = .ok (.ifCond .lt 8, 3) := by decide +kernel
theorem dd_jdk_41_method_11_code_4 : decode jdk_41_method_11_code 4 = .ok (.iload_n 0, 1) := by decide +kernel
theorem dd_jdk_41_method_11_code_5 : decode jdk_41_method_11_code 5 = .ok (.iload_n 1, 1) := by decide +kernel
theorem dd_jdk_41_method_11_code_6 : decode jdk_41_method_11_code 6 = .ok (.if_icmp .lt 10, 3) := by decide +kernel
theorem dd_jdk_41_method_11_code_16 : decode jdk_41_method_11_code 16 = .ok (.iload_n 0, 1) := by decide +kernel
theorem dd_jdk_41_method_11_code_17 : decode jdk_41_method_11_code 17 = .ok (.ireturn, 1) := by decide +kernel
theorem dd_jdk_42_method_139_code_0 : decode jdk_42_method_139_code 0 = .ok (.getstatic 38, 3) := by decide +kernel
theorem dd_jdk_42_method_139_code_3 : decode jdk_42_method_139_code 3 = .ok (.ifCond .eq 23, 3) := by decide +kernel
theorem dd_jdk_42_method_139_code_6 : decode jdk_42_method_139_code 6 = .ok (.iload_n 0, 1) := by decide +kernel
theorem dd_jdk_42_method_139_code_7 : decode jdk_42_method_139_code 7 = .ok (.invokestatic 1015, 3) := by decide +kernel
theorem dd_jdk_42_method_139_code_10 : decode jdk_42_method_139_code 10 = .ok (.ifCond .eq 16, 3) := by decide +kernel
theorem dd_jdk_42_method_139_code_13 : decode jdk_42_method_139_code 13 = .ok (.new 10, 3) := by decide +kernel
theorem dd_jdk_42_method_139_code_16 : decode jdk_42_method_139_code 16 = .ok (.dup, 1) := by decide +kernel
theorem dd_jdk_42_method_139_code_17 : decode jdk_42_method_139_code 17 = .ok (.iload_n 0, 1) := by decide +kernel
theorem dd_jdk_42_method_139_code_18 : decode jdk_42_method_139_code 18 = .ok (.invokestatic 1018, 3) := by decide +kernel
theorem dd_jdk_42_method_139_code_21 : decode jdk_42_method_139_code 21 = .ok (.iconst 0, 1) := by decide +kernel
theorem dd_jdk_42_method_139_code_22 : decode jdk_42_method_139_code 22 = .ok (.invokespecial 209, 3) := by decide +kernel
theorem dd_jdk_42_method_139_code_25 : decode jdk_42_method_139_code 25 = .ok (.areturn, 1) := by decide +kernel
theorem dd_jdk_42_method_139_code_26 : decode jdk_42_method_139_code 26 = .ok (.new 10, 3) := by decide +kernel
theorem dd_jdk_42_method_139_code_29 : decode jdk_42_method_139_code 29 = .ok (.dup, 1) := by decide +kernel
theorem dd_jdk_42_method_139_code_30 : decode jdk_42_method_139_code 30 = .ok (.iload_n 0, 1) := by decide +kernel
theorem dd_jdk_42_method_139_code_31 : decode jdk_42_method_139_code 31 = .ok (.invokestatic 1021, 3) := by decide +kernel
theorem dd_jdk_42_method_139_code_34 : decode jdk_42_method_139_code 34 = .ok (.iconst 1, 1) := by decide +kernel
theorem dd_jdk_42_method_139_code_35 : decode jdk_42_method_139_code 35 = .ok (.invokespecial 209, 3) := by decide +kernel
theorem dd_jdk_42_method_139_code_38 : decode jdk_42_method_139_code 38 = .ok (.areturn, 1) := by decide +kernel
theorem dd_jdk_42_method_149_code_0 : decode jdk_42_method_149_code 0 = .ok (.aload_n 0, 1) := by decide +kernel
theorem dd_jdk_42_method_149_code_1 : decode jdk_42_method_149_code 1 = .ok (.invokespecial 1, 3) := by decide +kernel
theorem dd_jdk_42_method_149_code_4 : decode jdk_42_method_149_code 4 = .ok (.iload_n 3, 1) := by decide +kernel
theorem dd_jdk_42_method_149_code_5 : decode jdk_42_method_149_code 5 = .ok (.ifCond .ne 22, 3) := by decide +kernel
theorem dd_jdk_42_method_149_code_8 : decode jdk_42_method_149_code 8 = .ok (.aload_n 0, 1) := by decide +kernel
theorem dd_jdk_42_method_149_code_9 : decode jdk_42_method_149_code 9 = .ok (.ldc 7, 2) := by decide +kernel
theorem dd_jdk_42_method_149_code_11 : decode jdk_42_method_149_code 11 = .ok (.getfield 9, 3) := by decide +kernel
theorem dd_jdk_42_method_149_code_14 : decode jdk_42_method_149_code 14 = .ok (.putfield 9, 3) := by decide +kernel
theorem dd_jdk_42_method_149_code_17 : decode jdk_42_method_149_code 17 = .ok (.aload_n 0, 1) := by decide +kernel
theorem dd_jdk_42_method_149_code_18 : decode jdk_42_method_149_code 18 = .ok (.ldc 7, 2) := by decide +kernel
theorem dd_jdk_42_method_149_code_20 : decode jdk_42_method_149_code 20 = .ok (.getfield 15, 3) := by decide +kernel
theorem dd_jdk_42_method_149_code_23 : decode jdk_42_method_149_code 23 = .ok (.putfield 15, 3) := by decide +kernel
theorem dd_jdk_42_method_149_code_26 : decode jdk_42_method_149_code 26 = .ok (.return_, 1) := by decide +kernel
theorem dd_jdk_42_method_149_code_27 : decode jdk_42_method_149_code 27 = .ok (.getstatic 38, 3) := by decide +kernel
theorem dd_jdk_42_method_149_code_30 : decode jdk_42_method_149_code 30 = .ok (.ifCond .eq 28, 3) := by decide +kernel
theorem dd_jdk_42_method_149_code_33 : decode jdk_42_method_149_code 33 = .ok (.aload_n 1, 1) := by decide +kernel
theorem dd_jdk_42_method_149_code_34 : decode jdk_42_method_149_code 34 = .ok (.iload_n 2, 1) := by decide +kernel
theorem dd_jdk_42_method_149_code_35 : decode jdk_42_method_149_code 35 = .ok (.iload_n 3, 1) := by decide +kernel
theorem dd_jdk_42_method_149_code_36 : decode jdk_42_method_149_code 36 = .ok (.invokestatic 177, 3) := by decide +kernel
theorem dd_jdk_42_method_149_code_39 : decode jdk_42_method_149_code 39 = .ok (.astore 5, 2) := by decide +kernel
theorem dd_jdk_42_method_149_code_41 : decode jdk_42_method_149_code 41 = .ok (.aload_n 0, 1) := by decide +kernel
theorem dd_jdk_42_method_149_code_42 : decode jdk_42_method_149_code 42 = .ok (.aload 5, 2) := by decide +kernel
theorem dd_jdk_42_method_149_code_44 : decode jdk_42_method_149_code 44 = .ok (.iload_n 3, 1) := by decide +kernel
theorem dd_jdk_42_method_149_code_45 : decode jdk_42_method_149_code 45 = .ok (.invokestatic 47, 3) := by decide +kernel
theorem dd_jdk_42_method_149_code_48 : decode jdk_42_method_149_code 48 = .ok (.putfield 15, 3) := by decide +kernel
theorem dd_jdk_42_method_149_code_51 : decode jdk_42_method_149_code 51 = .ok (.aload_n 0, 1) := by decide +kernel
theorem dd_jdk_42_method_149_code_52 : decode jdk_42_method_149_code 52 = .ok (.aload 5, 2) := by decide +kernel
theorem dd_jdk_42_method_149_code_54 : decode jdk_42_method_149_code 54 = .ok (.putfield 9, 3) := by decide +kernel
theorem dd_jdk_42_method_149_code_57 : decode jdk_42_method_149_code 57 = .ok (.return_, 1) := by decide +kernel
theorem dd_jdk_42_method_151_code_0 : decode jdk_42_method_151_code 0 = .ok (.aload_n 0, 1) := by decide +kernel
theorem dd_jdk_42_method_151_code_1 : decode jdk_42_method_151_code 1 = .ok (.invokespecial 1, 3) := by decide +kernel
theorem dd_jdk_42_method_151_code_4 : decode jdk_42_method_151_code 4 = .ok (.aload_n 0, 1) := by decide +kernel
theorem dd_jdk_42_method_151_code_5 : decode jdk_42_method_151_code 5 = .ok (.aload_n 1, 1) := by decide +kernel
theorem dd_jdk_42_method_151_code_6 : decode jdk_42_method_151_code 6 = .ok (.putfield 9, 3) := by decide +kernel
theorem dd_jdk_42_method_151_code_9 : decode jdk_42_method_151_code 9 = .ok (.aload_n 0, 1) := by decide +kernel
theorem dd_jdk_42_method_151_code_10 : decode jdk_42_method_151_code 10 = .ok (.iload_n 2, 1) := by decide +kernel
theorem dd_jdk_42_method_151_code_11 : decode jdk_42_method_151_code 11 = .ok (.putfield 15, 3) := by decide +kernel
theorem dd_jdk_42_method_151_code_14 : decode jdk_42_method_151_code 14 = .ok (.return_, 1) := by decide +kernel
theorem dd_jdk_42_method_154_code_0 : decode jdk_42_method_154_code 0 = .ok (.getstatic 38, 3) := by decide +kernel
theorem dd_jdk_42_method_154_code_3 : decode jdk_42_method_154_code 3 = .ok (.ifCond .eq 14, 3) := by decide +kernel
theorem dd_jdk_42_method_154_code_6 : decode jdk_42_method_154_code 6 = .ok (.aload_n 0, 1) := by decide +kernel
theorem dd_jdk_42_method_154_code_7 : decode jdk_42_method_154_code 7 = .ok (.getfield 15, 3) := by decide +kernel
theorem dd_jdk_42_method_154_code_10 : decode jdk_42_method_154_code 10 = .ok (.ifCond .ne 7, 3) := by decide +kernel
theorem dd_jdk_42_method_154_code_17 : decode jdk_42_method_154_code 17 = .ok (.iconst 0, 1) := by decide +kernel
theorem dd_jdk_42_method_154_code_18 : decode jdk_42_method_154_code 18 = .ok (.ireturn, 1) := by decide +kernel
theorem dd_jdk_42_method_155_code_0 : decode jdk_42_method_155_code 0 = .ok (.iload_n 0, 1) := by decide +kernel
theorem dd_jdk_42_method_155_code_1 : decode jdk_42_method_155_code 1 = .ok (.iload_n 1, 1) := by decide +kernel
theorem dd_jdk_42_method_155_code_2 : decode jdk_42_method_155_code 2 = .ok (.getstatic 1053, 3) := by decide +kernel
theorem dd_jdk_42_method_155_code_5 : decode jdk_42_method_155_code 5 = .ok (.invokestatic 1059, 3) := by decide +kernel
theorem dd_jdk_42_method_155_code_8 : decode jdk_42_method_155_code 8 = .ok (.pop, 1) := by decide +kernel
theorem dd_jdk_42_method_155_code_9 : decode jdk_42_method_155_code 9 = .ok (.return_, 1) := by decide +kernel
theorem dd_jdk_42_method_3_code_0 : decode jdk_42_method_3_code 0 = .ok (.aload_n 0, 1) := by decide +kernel
theorem dd_jdk_42_method_3_code_1 : decode jdk_42_method_3_code 1 = .ok (.aload_n 1, 1) := by decide +kernel
theorem dd_jdk_42_method_3_code_2 : decode jdk_42_method_3_code 2 = .ok (.iconst 0, 1) := by decide +kernel
theorem dd_jdk_42_method_3_code_3 : decode jdk_42_method_3_code 3 = .ok (.aload_n 1, 1) := by decide +kernel
theorem dd_jdk_42_method_3_code_4 : decode jdk_42_method_3_code 4 = .ok (.arraylength, 1) := by decide +kernel
theorem dd_jdk_42_method_3_code_5 : decode jdk_42_method_3_code 5 = .ok (.aconst_null, 1) := by decide +kernel
theorem dd_jdk_42_method_3_code_6 : decode jdk_42_method_3_code 6 = .ok (.invokespecial 27, 3) := by decide +kernel
theorem dd_jdk_42_method_3_code_9 : decode jdk_42_method_3_code 9 = .ok (.return_, 1) := by decide +kernel
theorem dd_jdk_42_method_55_code_0 : decode jdk_42_method_55_code 0 = .ok (.aload_n 0, 1) := by decide +kernel
theorem dd_jdk_42_method_55_code_1 : decode jdk_42_method_55_code 1 = .ok (.getfield 9, 3) := by decide +kernel
theorem dd_jdk_42_method_55_code_4 : decode jdk_42_method_55_code 4 = .ok (.arraylength, 1) := by decide +kernel
theorem dd_jdk_42_method_55_code_5 : decode jdk_42_method_55_code 5 = .ok (.ifCond .ne 7, 3) := by decide +kernel
theorem dd_jdk_42_method_55_code_12 : decode jdk_42_method_55_code 12 = .ok (.iconst 0, 1) := by decide +kernel
theorem dd_jdk_42_method_55_code_13 : decode jdk_42_method_55_code 13 = .ok (.ireturn, 1) := by decide +kernel
theorem dd_jdk_42_method_56_code_0 : decode jdk_42_method_56_code 0 = .ok (.aload_n 0, 1) := by decide +kernel
theorem dd_jdk_42_method_56_code_1 : decode jdk_42_method_56_code 1 = .ok (.invokevirtual 492, 3) := by decide +kernel
theorem dd_jdk_42_method_56_code_4 : decode jdk_42_method_56_code 4 = .ok (.ifCond .eq 12, 3) := by decide +kernel
theorem dd_jdk_42_method_56_code_16 : decode jdk_42_method_56_code 16 = .ok (.aload_n 0, 1) := by decide +kernel
theorem dd_jdk_42_method_56_code_17 : decode jdk_42_method_56_code 17 = .ok (.getfield 9, 3) := by decide +kernel
theorem dd_jdk_42_method_56_code_20 : decode jdk_42_method_56_code 20 = .ok (.iload_n 1, 1) := by decide +kernel
theorem dd_jdk_42_method_56_code_21 : decode jdk_42_method_56_code 21 = .ok (.invokestatic 498, 3) := by decide +kernel
theorem dd_jdk_42_method_56_code_24 : decode jdk_42_method_56_code 24 = .ok (.ireturn, 1) := by decide +kernel
theorem dd_jdk_43_method_3_code_0 : decode jdk_43_method_3_code 0 = .ok (.iload_n 0, 1) := by decide +kernel
theorem dd_jdk_43_method_3_code_1 : decode jdk_43_method_3_code 1 = .ok (.sipush 255, 3) := by decide +kernel
theorem dd_jdk_43_method_3_code_4 : decode jdk_43_method_3_code 4 = .ok (.if_icmp .gt 7, 3) := by decide +kernel
theorem dd_jdk_43_method_3_code_7 : decode jdk_43_method_3_code 7 = .ok (.iconst 1, 1) := by decide +kernel
theorem dd_jdk_43_method_3_code_8 : decode jdk_43_method_3_code 8 = .ok (.goto 4, 3) := by decide +kernel
theorem dd_jdk_43_method_3_code_11 : decode jdk_43_method_3_code 11 = .ok (.iconst 0, 1) := by decide +kernel
theorem dd_jdk_43_method_3_code_12 : decode jdk_43_method_3_code 12 = .ok (.ireturn, 1) := by decide +kernel
theorem dd_jdk_43_method_46_code_0 : decode jdk_43_method_46_code 0 = .ok (.iconst 1, 1) := by decide +kernel
theorem dd_jdk_43_method_46_code_1 : decode jdk_43_method_46_code 1 = .ok (.newarray .byte, 2) := by decide +kernel
theorem dd_jdk_43_method_46_code_3 : decode jdk_43_method_46_code 3 = .ok (.dup, 1) := by decide +kernel
theorem dd_jdk_43_method_46_code_4 : decode jdk_43_method_46_code 4 = .ok (.iconst 0, 1) := by decide +kernel
theorem dd_jdk_43_method_46_code_5 : decode jdk_43_method_46_code 5 = .ok (.iload_n 0, 1) := by decide +kernel
theorem dd_jdk_43_method_46_code_6 : decode jdk_43_method_46_code 6 = .ok (.i2b, 1) := by decide +kernel
theorem dd_jdk_43_method_46_code_7 : decode jdk_43_method_46_code 7 = .ok (.bastore, 1) := by decide +kernel
theorem dd_jdk_43_method_46_code_8 : decode jdk_43_method_46_code 8 = .ok (.areturn, 1) := by decide +kernel
theorem dd_jdk_52_method_14_code_0 : decode jdk_52_method_14_code 0 = .ok (.iload_n 2, 1) := by decide +kernel
theorem dd_jdk_52_method_14_code_1 : decode jdk_52_method_14_code 1 = .ok (.invokestatic 107, 3) := by decide +kernel
theorem dd_jdk_52_method_14_code_4 : decode jdk_52_method_14_code 4 = .ok (.astore_n 3, 1) := by decide +kernel
theorem dd_jdk_52_method_14_code_5 : decode jdk_52_method_14_code 5 = .ok (.iconst 0, 1) := by decide +kernel
theorem dd_jdk_52_method_14_code_6 : decode jdk_52_method_14_code 6 = .ok (.istore 4, 2) := by decide +kernel
theorem dd_jdk_52_method_14_code_8 : decode jdk_52_method_14_code 8 = .ok (.iload 4, 2) := by decide +kernel
theorem dd_jdk_52_method_14_code_10 : decode jdk_52_method_14_code 10 = .ok (.iload_n 2, 1) := by decide +kernel
theorem dd_jdk_52_method_14_code_11 : decode jdk_52_method_14_code 11 = .ok (.if_icmp .ge 21, 3) := by decide +kernel
theorem dd_jdk_52_method_14_code_14 : decode jdk_52_method_14_code 14 = .ok (.aload_n 3, 1) := by decide +kernel
theorem dd_jdk_52_method_14_code_15 : decode jdk_52_method_14_code 15 = .ok (.iload 4, 2) := by decide +kernel
theorem dd_jdk_52_method_14_code_17 : decode jdk_52_method_14_code 17 = .ok (.aload_n 0, 1) := by decide +kernel
theorem dd_jdk_52_method_14_code_18 : decode jdk_52_method_14_code 18 = .ok (.iload_n 1, 1) := by decide +kernel
theorem dd_jdk_52_method_14_code_19 : decode jdk_52_method_14_code 19 = .ok (.caload, 1) := by decide +kernel
theorem dd_jdk_52_method_14_code_20 : decode jdk_52_method_14_code 20 = .ok (.invokestatic 111, 3) := by decide +kernel
theorem dd_jdk_52_method_14_code_23 : decode jdk_52_method_14_code 23 = .ok (.iinc 1 1, 3) := by decide +kernel
theorem dd_jdk_52_method_14_code_26 : decode jdk_52_method_14_code 26 = .ok (.iinc 4 1, 3) := by decide +kernel
theorem dd_jdk_52_method_14_code_29 : decode jdk_52_method_14_code 29 = .ok (.goto (-21), 3) := by decide +kernel
theorem dd_jdk_52_method_14_code_32 : decode jdk_52_method_14_code 32 = .ok (.aload_n 3, 1) := by decide +kernel
theorem dd_jdk_52_method_14_code_33 : decode jdk_52_method_14_code 33 = .ok (.areturn, 1) := by decide +kernel
theorem dd_jdk_52_method_15_code_0 : decode jdk_52_method_15_code 0 = .ok (.iload_n 1, 1) := by decide +kernel
theorem dd_jdk_52_method_15_code_1 : decode jdk_52_method_15_code 1 = .ok (.aload_n 0, 1) := by decide +kernel
theorem dd_jdk_52_method_15_code_2 : decode jdk_52_method_15_code 2 = .ok (.arraylength, 1) := by decide +kernel
theorem dd_jdk_52_method_15_code_3 : decode jdk_52_method_15_code 3 = .ok (.isub, 1) := by decide +kernel
theorem dd_jdk_52_method_15_code_4 : decode jdk_52_method_15_code 4 = .ok (.bipush 31, 2) := by decide +kernel
theorem dd_jdk_52_method_15_code_6 : decode jdk_52_method_15_code 6 = .ok (.iushr, 1) := by decide +kernel
theorem dd_jdk_52_method_15_code_7 : decode jdk_52_method_15_code 7 = .ok (.i2b, 1) := by decide +kernel
theorem dd_jdk_52_method_15_code_8 : decode jdk_52_method_15_code 8 = .ok (.ireturn, 1) := by decide +kernel
theorem dd_jdk_52_method_16_code_0 : decode jdk_52_method_16_code 0 = .ok (.iload_n 2, 1) := by decide +kernel
theorem dd_jdk_52_method_16_code_1 : decode jdk_52_method_16_code 1 = .ok (.newarray .byte, 2) := by decide +kernel
theorem dd_jdk_52_method_16_code_3 : decode jdk_52_method_16_code 3 = .ok (.astore_n 3, 1) := by decide +kernel
theorem dd_jdk_52_method_16_code_4 : decode jdk_52_method_16_code 4 = .ok (.aload_n 0, 1) := by decide +kernel
theorem dd_jdk_52_method_16_code_5 : decode jdk_52_method_16_code 5 = .ok (.iload_n 1, 1) := by decide +kernel
theorem dd_jdk_52_method_16_code_6 : decode jdk_52_method_16_code 6 = .ok (.aload_n 3, 1) := by decide +kernel
theorem dd_jdk_52_method_16_code_7 : decode jdk_52_method_16_code 7 = .ok (.iconst 0, 1) := by decide +kernel
theorem dd_jdk_52_method_16_code_8 : decode jdk_52_method_16_code 8 = .ok (.iload_n 2, 1) := by decide +kernel
theorem dd_jdk_52_method_16_code_9 : decode jdk_52_method_16_code 9 = .ok (.invokestatic 115, 3) := by decide +kernel
theorem dd_jdk_52_method_16_code_12 : decode jdk_52_method_16_code 12 = .ok (.istore 4, 2) := by decide +kernel
theorem dd_jdk_52_method_16_code_14 : decode jdk_52_method_16_code 14 = .ok (.iload 4, 2) := by decide +kernel
theorem dd_jdk_52_method_16_code_16 : decode jdk_52_method_16_code 16 = .ok (.iload_n 2, 1) := by decide +kernel
theorem dd_jdk_52_method_16_code_17 : decode jdk_52_method_16_code 17 = .ok (.if_icmp .eq 40, 3) := by decide +kernel
theorem dd_jdk_52_method_16_code_20 : decode jdk_52_method_16_code 20 = .ok (.aload_n 0, 1) := by decide +kernel
theorem dd_jdk_52_method_16_code_21 : decode jdk_52_method_16_code 21 = .ok (.iload_n 1, 1) := by decide +kernel
theorem dd_jdk_52_method_16_code_22 : decode jdk_52_method_16_code 22 = .ok (.iload_n 2, 1) := by decide +kernel
theorem dd_jdk_52_method_16_code_23 : decode jdk_52_method_16_code 23 = .ok (.invokestatic 119, 3) := by decide +kernel
theorem dd_jdk_52_method_16_code_26 : decode jdk_52_method_16_code 26 = .ok (.astore 5, 2) := by decide +kernel
theorem dd_jdk_52_method_16_code_28 : decode jdk_52_method_16_code 28 = .ok (.aload 5, 2) := by decide +kernel
theorem dd_jdk_52_method_16_code_30 : decode jdk_52_method_16_code 30 = .ok (.iload 4, 2) := by decide +kernel
theorem dd_jdk_52_method_16_code_32 : decode jdk_52_method_16_code 32 = .ok (.invokestatic 71, 3) := by decide +kernel
theorem dd_jdk_52_method_16_code_35 : decode jdk_52_method_16_code 35 = .ok (.sipush 255, 3) := by decide +kernel
theorem dd_jdk_52_method_16_code_38 : decode jdk_52_method_16_code 38 = .ok (.if_icmp .gt 16, 3) := by decide +kernel
theorem dd_jdk_52_method_16_code_54 : decode jdk_52_method_16_code 54 = .ok (.aload 5, 2) := by decide +kernel
theorem dd_jdk_52_method_16_code_56 : decode jdk_52_method_16_code 56 = .ok (.areturn, 1) := by decide +kernel
theorem dd_jdk_52_method_21_code_0 : decode jdk_52_method_21_code 0 = .ok (.iconst 0, 1) := by decide +kernel
theorem dd_jdk_52_method_21_code_1 : decode jdk_52_method_21_code 1 = .ok (.istore 5, 2) := by decide +kernel
theorem dd_jdk_52_method_21_code_3 : decode jdk_52_method_21_code 3 = .ok (.iload 5, 2) := by decide +kernel
theorem dd_jdk_52_method_21_code_5 : decode jdk_52_method_21_code 5 = .ok (.iload 4, 2) := by decide +kernel
theorem dd_jdk_52_method_21_code_7 : decode jdk_52_method_21_code 7 = .ok (.if_icmp .ge 37, 3) := by decide +kernel
theorem dd_jdk_52_method_21_code_10 : decode jdk_52_method_21_code 10 = .ok (.aload_n 0, 1) := by decide +kernel
theorem dd_jdk_52_method_21_code_11 : decode jdk_52_method_21_code 11 = .ok (.iload_n 1, 1) := by decide +kernel
theorem dd_jdk_52_method_21_code_12 : decode jdk_52_method_21_code 12 = .ok (.caload, 1) := by decide +kernel
theorem dd_jdk_52_method_21_code_13 : decode jdk_52_method_21_code 13 = .ok (.istore 6, 2) := by decide +kernel
theorem dd_jdk_52_method_21_code_15 : decode jdk_52_method_21_code 15 = .ok (.iload 6, 2) := by decide +kernel
theorem dd_jdk_52_method_21_code_17 : decode jdk_52_method_21_code 17 = .ok (.sipush 255, 3) := by decide +kernel
theorem dd_jdk_52_method_21_code_20 : decode jdk_52_method_21_code 20 = .ok (.if_icmp .le 6, 3) := by decide +kernel
theorem dd_jdk_52_method_21_code_23 : decode jdk_52_method_21_code 23 = .ok (.iload 5, 2) := by decide +kernel
theorem dd_jdk_52_method_21_code_25 : decode jdk_52_method_21_code 25 = .ok (.ireturn, 1) := by decide +kernel
theorem dd_jdk_52_method_21_code_26 : decode jdk_52_method_21_code 26 = .ok (.aload_n 2, 1) := by decide +kernel
theorem dd_jdk_52_method_21_code_27 : decode jdk_52_method_21_code 27 = .ok (.iload_n 3, 1) := by decide +kernel
theorem dd_jdk_52_method_21_code_28 : decode jdk_52_method_21_code 28 = .ok (.iload 6, 2) := by decide +kernel
theorem dd_jdk_52_method_21_code_30 : decode jdk_52_method_21_code 30 = .ok (.i2b, 1) := by decide +kernel
theorem dd_jdk_52_method_21_code_31 : decode jdk_52_method_21_code 31 = .ok (.bastore, 1) := by decide +kernel
theorem dd_jdk_52_method_21_code_32 : decode jdk_52_method_21_code 32 = .ok (.iinc 1 1, 3) := by decide +kernel
theorem dd_jdk_52_method_21_code_35 : decode jdk_52_method_21_code 35 = .ok (.iinc 3 1, 3) := by decide +kernel
theorem dd_jdk_52_method_21_code_38 : decode jdk_52_method_21_code 38 = .ok (.iinc 5 1, 3) := by decide +kernel
theorem dd_jdk_52_method_21_code_41 : decode jdk_52_method_21_code 41 = .ok (.goto (-38), 3) := by decide +kernel
theorem dd_jdk_52_method_24_code_0 : decode jdk_52_method_24_code 0 = .ok (.iconst 2, 1) := by decide +kernel
theorem dd_jdk_52_method_24_code_1 : decode jdk_52_method_24_code 1 = .ok (.newarray .byte, 2) := by decide +kernel
theorem dd_jdk_52_method_24_code_3 : decode jdk_52_method_24_code 3 = .ok (.astore_n 1, 1) := by decide +kernel
theorem dd_jdk_52_method_24_code_4 : decode jdk_52_method_24_code 4 = .ok (.aload_n 1, 1) := by decide +kernel
theorem dd_jdk_52_method_24_code_5 : decode jdk_52_method_24_code 5 = .ok (.iconst 0, 1) := by decide +kernel
theorem dd_jdk_52_method_24_code_6 : decode jdk_52_method_24_code 6 = .ok (.iload_n 0, 1) := by decide +kernel
theorem dd_jdk_52_method_24_code_7 : decode jdk_52_method_24_code 7 = .ok (.invokestatic 111, 3) := by decide +kernel
theorem dd_jdk_52_method_24_code_10 : decode jdk_52_method_24_code 10 = .ok (.aload_n 1, 1) := by decide +kernel
theorem dd_jdk_52_method_24_code_11 : decode jdk_52_method_24_code 11 = .ok (.areturn, 1) := by decide +kernel
theorem dd_jdk_52_method_2_code_0 : decode jdk_52_method_2_code 0 = .ok (.iload_n 0, 1) := by decide +kernel
theorem dd_jdk_52_method_2_code_1 : decode jdk_52_method_2_code 1 = .ok (.invokestatic 11, 3) := by decide +kernel
theorem dd_jdk_52_method_2_code_4 : decode jdk_52_method_2_code 4 = .ok (.newarray .byte, 2) := by decide +kernel
theorem dd_jdk_52_method_2_code_6 : decode jdk_52_method_2_code 6 = .ok (.areturn, 1) := by decide +kernel
theorem dd_jdk_52_method_3_code_0 : decode jdk_52_method_3_code 0 = .ok (.iload_n 0, 1) := by decide +kernel
theorem dd_jdk_52_method_3_code_1 : decode jdk_52_method_3_code 1 = .ok (.ifCond .ge 11, 3) := by decide +kernel
theorem dd_jdk_52_method_3_code_12 : decode jdk_52_method_3_code 12 = .ok (.iload_n 0, 1) := by decide +kernel
theorem dd_jdk_52_method_3_code_13 : decode jdk_52_method_3_code 13 = .ok (.ldc 20, 2) := by decide +kernel
theorem dd_jdk_52_method_3_code_15 : decode jdk_52_method_3_code 15 = .ok (.if_icmp .lt 40, 3) := by decide +kernel
theorem dd_jdk_52_method_3_code_55 : decode jdk_52_method_3_code 55 = .ok (.iload_n 0, 1) := by decide +kernel
theorem dd_jdk_52_method_3_code_56 : decode jdk_52_method_3_code 56 = .ok (.iconst 1, 1) := by decide +kernel
theorem dd_jdk_52_method_3_code_57 : decode jdk_52_method_3_code 57 = .ok (.ishl, 1) := by decide +kernel
theorem dd_jdk_52_method_3_code_58 : decode jdk_52_method_3_code 58 = .ok (.ireturn, 1) := by decide +kernel
theorem dd_jdk_52_method_4_code_0 : decode jdk_52_method_4_code 0 = .ok (.getstatic 44, 3) := by decide +kernel
theorem dd_jdk_52_method_4_code_3 : decode jdk_52_method_4_code 3 = .ok (.ifCond .ne 25, 3) := by decide +kernel
theorem dd_jdk_52_method_4_code_28 : decode jdk_52_method_4_code 28 = .ok (.iload_n 1, 1) := by decide +kernel
theorem dd_jdk_52_method_4_code_29 : decode jdk_52_method_4_code 29 = .ok (.iconst 1, 1) := by decide +kernel
theorem dd_jdk_52_method_4_code_30 : decode jdk_52_method_4_code 30 = .ok (.ishl, 1) := by decide +kernel
theorem dd_jdk_52_method_4_code_31 : decode jdk_52_method_4_code 31 = .ok (.istore_n 1, 1) := by decide +kernel
theorem dd_jdk_52_method_4_code_32 : decode jdk_52_method_4_code 32 = .ok (.aload_n 0, 1) := by decide +kernel
theorem dd_jdk_52_method_4_code_33 : decode jdk_52_method_4_code 33 = .ok (.iload_n 1, 1) := by decide +kernel
theorem dd_jdk_52_method_4_code_34 : decode jdk_52_method_4_code 34 = .ok (.iinc 1 1, 3) := by decide +kernel
theorem dd_jdk_52_method_4_code_37 : decode jdk_52_method_4_code 37 = .ok (.iload_n 2, 1) := by decide +kernel
theorem dd_jdk_52_method_4_code_38 : decode jdk_52_method_4_code 38 = .ok (.getstatic 59, 3) := by decide +kernel
theorem dd_jdk_52_method_4_code_41 : decode jdk_52_method_4_code 41 = .ok (.ishr, 1) := by decide +kernel
theorem dd_jdk_52_method_4_code_42 : decode jdk_52_method_4_code 42 = .ok (.i2b, 1) := by decide +kernel
theorem dd_jdk_52_method_4_code_43 : decode jdk_52_method_4_code 43 = .ok (.bastore, 1) := by decide +kernel
theorem dd_jdk_52_method_4_code_44 : decode jdk_52_method_4_code 44 = .ok (.aload_n 0, 1) := by decide +kernel
theorem dd_jdk_52_method_4_code_45 : decode jdk_52_method_4_code 45 = .ok (.iload_n 1, 1) := by decide +kernel
theorem dd_jdk_52_method_4_code_46 : decode jdk_52_method_4_code 46 = .ok (.iload_n 2, 1) := by decide +kernel
theorem dd_jdk_52_method_4_code_47 : decode jdk_52_method_4_code 47 = .ok (.getstatic 63, 3) := by decide +kernel
theorem dd_jdk_52_method_4_code_50 : decode jdk_52_method_4_code 50 = .ok (.ishr, 1) := by decide +kernel
theorem dd_jdk_52_method_4_code_51 : decode jdk_52_method_4_code 51 = .ok (.i2b, 1) := by decide +kernel
theorem dd_jdk_52_method_4_code_52 : decode jdk_52_method_4_code 52 = .ok (.bastore, 1) := by decide +kernel
theorem dd_jdk_52_method_4_code_53 : decode jdk_52_method_4_code 53 = .ok (.return_, 1) := by decide +kernel
theorem dd_jdk_52_method_5_code_0 : decode jdk_52_method_5_code 0 = .ok (.getstatic 44, 3) := by decide +kernel
theorem dd_jdk_52_method_5_code_3 : decode jdk_52_method_5_code 3 = .ok (.ifCond .ne 25, 3) := by decide +kernel
theorem dd_jdk_52_method_5_code_28 : decode jdk_52_method_5_code 28 = .ok (.iload_n 1, 1) := by decide +kernel
theorem dd_jdk_52_method_5_code_29 : decode jdk_52_method_5_code 29 = .ok (.iconst 1, 1) := by decide +kernel
theorem dd_jdk_52_method_5_code_30 : decode jdk_52_method_5_code 30 = .ok (.ishl, 1) := by decide +kernel
theorem dd_jdk_52_method_5_code_31 : decode jdk_52_method_5_code 31 = .ok (.istore_n 1, 1) := by decide +kernel
theorem dd_jdk_52_method_5_code_32 : decode jdk_52_method_5_code 32 = .ok (.aload_n 0, 1) := by decide +kernel
theorem dd_jdk_52_method_5_code_33 : decode jdk_52_method_5_code 33 = .ok (.iload_n 1, 1) := by decide +kernel
theorem dd_jdk_52_method_5_code_34 : decode jdk_52_method_5_code 34 = .ok (.iinc 1 1, 3) := by decide +kernel
theorem dd_jdk_52_method_5_code_37 : decode jdk_52_method_5_code 37 = .ok (.baload, 1) := by decide +kernel
theorem dd_jdk_52_method_5_code_38 : decode jdk_52_method_5_code 38 = .ok (.sipush 255, 3) := by decide +kernel
theorem dd_jdk_52_method_5_code_41 : decode jdk_52_method_5_code 41 = .ok (.iand, 1) := by decide +kernel
theorem dd_jdk_52_method_5_code_42 : decode jdk_52_method_5_code 42 = .ok (.getstatic 59, 3) := by decide +kernel
theorem dd_jdk_52_method_5_code_45 : decode jdk_52_method_5_code 45 = .ok (.ishl, 1) := by decide +kernel
theorem dd_jdk_52_method_5_code_46 : decode jdk_52_method_5_code 46 = .ok (.aload_n 0, 1) := by decide +kernel
theorem dd_jdk_52_method_5_code_47 : decode jdk_52_method_5_code 47 = .ok (.iload_n 1, 1) := by decide +kernel
theorem dd_jdk_52_method_5_code_48 : decode jdk_52_method_5_code 48 = .ok (.baload, 1) := by decide +kernel
theorem dd_jdk_52_method_5_code_49 : decode jdk_52_method_5_code 49 = .ok (.sipush 255, 3) := by decide +kernel
theorem dd_jdk_52_method_5_code_52 : decode jdk_52_method_5_code 52 = .ok (.iand, 1) := by decide +kernel
theorem dd_jdk_52_method_5_code_53 : decode jdk_52_method_5_code 53 = .ok (.getstatic 63, 3) := by decide +kernel
theorem dd_jdk_52_method_5_code_56 : decode jdk_52_method_5_code 56 = .ok (.ishl, 1) := by decide +kernel
theorem dd_jdk_52_method_5_code_57 : decode jdk_52_method_5_code 57 = .ok (.ior, 1) := by decide +kernel
theorem dd_jdk_52_method_5_code_58 : decode jdk_52_method_5_code 58 = .ok (.i2c, 1) := by decide +kernel
theorem dd_jdk_52_method_5_code_59 : decode jdk_52_method_5_code 59 = .ok (.ireturn, 1) := by decide +kernel
theorem dd_jdk_52_method_6_code_0 : decode jdk_52_method_6_code 0 = .ok (.aload_n 0, 1) := by decide +kernel
theorem dd_jdk_52_method_6_code_1 : decode jdk_52_method_6_code 1 = .ok (.arraylength, 1) := by decide +kernel
theorem dd_jdk_52_method_6_code_2 : decode jdk_52_method_6_code 2 = .ok (.iconst 1, 1) := by decide +kernel
theorem dd_jdk_52_method_6_code_3 : decode jdk_52_method_6_code 3 = .ok (.ishr, 1) := by decide +kernel
theorem dd_jdk_52_method_6_code_4 : decode jdk_52_method_6_code 4 = .ok (.ireturn, 1) := by decide +kernel
theorem dd_jdk_52_method_83_code_0 : decode jdk_52_method_83_code 0 = .ok (.iload_n 1, 1) := by decide +kernel
theorem dd_jdk_52_method_83_code_1 : decode jdk_52_method_83_code 1 = .ok (.aload_n 0, 1) := by decide +kernel
theorem dd_jdk_52_method_83_code_2 : decode jdk_52_method_83_code 2 = .ok (.invokestatic 67, 3) := by decide +kernel
theorem dd_jdk_52_method_83_code_5 : decode jdk_52_method_83_code 5 = .ok (.aload_n 0, 1) := by decide +kernel
theorem dd_jdk_52_method_83_code_6 : decode jdk_52_method_83_code 6 = .ok (.iload_n 1, 1) := by decide +kernel
theorem dd_jdk_52_method_83_code_7 : decode jdk_52_method_83_code 7 = .ok (.invokestatic 71, 3) := by decide +kernel
theorem dd_jdk_52_method_83_code_10 : decode jdk_52_method_83_code 10 = .ok (.ireturn, 1) := by decide +kernel
theorem dd_jdk_52_method_91_code_0 : decode jdk_52_method_91_code 0 = .ok (.iload_n 0, 1) := by decide +kernel
theorem dd_jdk_52_method_91_code_1 : decode jdk_52_method_91_code 1 = .ok (.aload_n 1, 1) := by decide +kernel
theorem dd_jdk_52_method_91_code_2 : decode jdk_52_method_91_code 2 = .ok (.invokestatic 48, 3) := by decide +kernel
theorem dd_jdk_52_method_91_code_5 : decode jdk_52_method_91_code 5 = .ok (.invokestatic 414, 3) := by decide +kernel
theorem dd_jdk_52_method_91_code_8 : decode jdk_52_method_91_code 8 = .ok (.return_, 1) := by decide +kernel
theorem dd_method_3_code_0 : decode method_3_code 0 = .ok (.iload_n 0, 1) := by decide +kernel
theorem dd_method_3_code_1 : decode method_3_code 1 = .ok (.ifCond .ne 14, 3) := by decide +kernel
theorem dd_method_3_code_4 : decode method_3_code 4 = .ok (.new 20, 3) := by decide +kernel
theorem dd_method_3_code_7 : decode method_3_code 7 = .ok (.dup, 1) := by decide +kernel
theorem dd_method_3_code_8 : decode method_3_code 8 = .ok (.iconst 0, 1) := by decide +kernel
theorem dd_method_3_code_9 : decode method_3_code 9 = .ok (.newarray .char, 2) := by decide +kernel
theorem dd_method_3_code_11 : decode method_3_code 11 = .ok (.invokespecial 22, 3) := by decide +kernel
theorem dd_method_3_code_14 : decode method_3_code 14 = .ok (.areturn, 1) := by decide +kernel
theorem dd_method_3_code_15 : decode method_3_code 15 = .ok (.iload_n 0, 1) := by decide +kernel
theorem dd_method_3_code_16 : decode method_3_code 16 = .ok (.iconst 1, 1) := by decide +kernel
theorem dd_method_3_code_17 : decode method_3_code 17 = .ok (.if_icmp .ne 8, 3) := by decide +kernel
theorem dd_method_3_code_20 : decode method_3_code 20 = .ok (.iload_n 1, 1) := by decide +kernel
theorem dd_method_3_code_21 : decode method_3_code 21 = .ok (.invokestatic 25, 3) := by decide +kernel
theorem dd_method_3_code_24 : decode method_3_code 24 = .ok (.areturn, 1) := by decide +kernel
theorem dd_method_3_code_25 : decode method_3_code 25 = .ok (.iload_n 0, 1) := by decide +kernel
theorem dd_method_3_code_26 : decode method_3_code 26 = .ok (.iconst 2, 1) := by decide +kernel
theorem dd_method_3_code_27 : decode method_3_code 27 = .ok (.if_icmp .ne 22, 3) := by decide +kernel
theorem dd_method_3_code_30 : decode method_3_code 30 = .ok (.new 20, 3) := by decide +kernel
theorem dd_method_3_code_33 : decode method_3_code 33 = .ok (.dup, 1) := by decide +kernel
theorem dd_method_3_code_34 : decode method_3_code 34 = .ok (.iconst 2, 1) := by decide +kernel
theorem dd_method_3_code_35 : decode method_3_code 35 = .ok (.newarray .char, 2) := by decide +kernel
theorem dd_method_3_code_37 : decode method_3_code 37 = .ok (.dup, 1) := by decide +kernel
theorem dd_method_3_code_38 : decode method_3_code 38 = .ok (.iconst 0, 1) := by decide +kernel
theorem dd_method_3_code_39 : decode method_3_code 39 = .ok (.iload_n 1, 1) := by decide +kernel
theorem dd_method_3_code_40 : decode method_3_code 40 = .ok (.castore, 1) := by decide +kernel
theorem dd_method_3_code_41 : decode method_3_code 41 = .ok (.dup, 1) := by decide +kernel
theorem dd_method_3_code_42 : decode method_3_code 42 = .ok (.iconst 1, 1) := by decide +kernel
theorem dd_method_3_code_43 : decode method_3_code 43 = .ok (.iload_n 2, 1) := by decide +kernel
theorem dd_method_3_code_44 : decode method_3_code 44 = .ok (.castore, 1) := by decide +kernel
theorem dd_method_3_code_45 : decode method_3_code 45 = .ok (.invokespecial 22, 3) := by decide +kernel
theorem dd_method_3_code_48 : decode method_3_code 48 = .ok (.areturn, 1) := by decide +kernel
theorem dd_method_3_code_49 : decode method_3_code 49 = .ok (.new 20, 3) := by decide +kernel
theorem dd_method_3_code_52 : decode method_3_code 52 = .ok (.dup, 1) := by decide +kernel
theorem dd_method_3_code_53 : decode method_3_code 53 = .ok (.iconst 3, 1) := by decide +kernel
theorem dd_method_3_code_54 : decode method_3_code 54 = .ok (.newarray .char, 2) := by decide +kernel
theorem dd_method_3_code_56 : decode method_3_code 56 = .ok (.dup, 1) := by decide +kernel
theorem dd_method_3_code_57 : decode method_3_code 57 = .ok (.iconst 0, 1) := by decide +kernel
theorem dd_method_3_code_58 : decode method_3_code 58 = .ok (.iload_n 1, 1) := by decide +kernel
theorem dd_method_3_code_59 : decode method_3_code 59 = .ok (.castore, 1) := by decide +kernel
theorem dd_method_3_code_60 : decode method_3_code 60 = .ok (.dup, 1) := by decide +kernel
theorem dd_method_3_code_61 : decode method_3_code 61 = .ok (.iconst 1, 1) := by decide +kernel
theorem dd_method_3_code_62 : decode method_3_code 62 = .ok (.iload_n 2, 1) := by decide +kernel
theorem dd_method_3_code_63 : decode method_3_code 63 = .ok (.castore, 1) := by decide +kernel
theorem dd_method_3_code_64 : decode method_3_code 64 = .ok (.dup, 1) := by decide +kernel
theorem dd_method_3_code_65 : decode method_3_code 65 = .ok (.iconst 2, 1) := by decide +kernel
theorem dd_method_3_code_66 : decode method_3_code 66 = .ok (.iload_n 3, 1) := by decide +kernel
theorem dd_method_3_code_67 : decode method_3_code 67 = .ok (.castore, 1) := by decide +kernel
theorem dd_method_3_code_68 : decode method_3_code 68 = .ok (.invokespecial 22, 3) := by decide +kernel
theorem dd_method_3_code_71 : decode method_3_code 71 = .ok (.areturn, 1) := by decide +kernel
theorem dd_prog_6_method_6_code_0 : decode prog_6_method_6_code 0 = .ok (.aload_n 0, 1) := by decide +kernel
theorem dd_prog_6_method_6_code_1 : decode prog_6_method_6_code 1 = .ok (.invokevirtual 114, 3) := by decide +kernel
theorem dd_prog_6_method_6_code_4 : decode prog_6_method_6_code 4 = .ok (.ifCond .ne 17, 3) := by decide +kernel
theorem dd_prog_6_method_6_code_7 : decode prog_6_method_6_code 7 = .ok (.aload_n 0, 1) := by decide +kernel
theorem dd_prog_6_method_6_code_8 : decode prog_6_method_6_code 8 = .ok (.iconst 0, 1) := by decide +kernel
theorem dd_prog_6_method_6_code_9 : decode prog_6_method_6_code 9 = .ok (.invokevirtual 115, 3) := by decide +kernel
theorem dd_prog_6_method_6_code_12 : decode prog_6_method_6_code 12 = .ok (.bipush 32, 2) := by decide +kernel
theorem dd_prog_6_method_6_code_14 : decode prog_6_method_6_code 14 = .ok (.if_icmp .ne 7, 3) := by decide +kernel
theorem dd_prog_6_method_6_code_17 : decode prog_6_method_6_code 17 = .ok (.iconst 1, 1) := by decide +kernel
theorem dd_prog_6_method_6_code_18 : decode prog_6_method_6_code 18 = .ok (.goto 4, 3) := by decide +kernel
theorem dd_prog_6_method_6_code_21 : decode prog_6_method_6_code 21 = .ok (.iconst 0, 1) := by decide +kernel
theorem dd_prog_6_method_6_code_22 : decode prog_6_method_6_code 22 = .ok (.ireturn, 1) := by decide +kernel
theorem pd__C_Z : parseMethodDescriptor "(C)Z" = some ⟨[.char], some .boolean⟩ := by decide +kernel
theorem pd__C__B : parseMethodDescriptor "(C)[B" = some ⟨[.char], some (.array .byte)⟩ := by decide +kernel
theorem pd___BB_V : parseMethodDescriptor "([BB)V" = some ⟨[(.array .byte), .byte], none⟩ := by decide +kernel
theorem pd___BII_V : parseMethodDescriptor "([BII)V" = some ⟨[(.array .byte), .int, .int], none⟩ := by decide +kernel
theorem pd___CIILjava_lang_Void__V : parseMethodDescriptor "([CIILjava/lang/Void;)V" = some ⟨[(.array .char), .int, .int, (.object "java/lang/Void")], none⟩ := by decide +kernel
theorem pd___C_V : parseMethodDescriptor "([C)V" = some ⟨[(.array .char)], none⟩ := by decide +kernel
theorem pd__C_Ljava_lang_String_ : parseMethodDescriptor "(C)Ljava/lang/String;" = some ⟨[.char], some (.object "java/lang/String")⟩ := by decide +kernel
theorem pd__I_I : parseMethodDescriptor "(I)I" = some ⟨[.int], some .int⟩ := by decide +kernel
theorem pd__I__B : parseMethodDescriptor "(I)[B" = some ⟨[.int], some (.array .byte)⟩ := by decide +kernel
theorem pd___CI_BII_I : parseMethodDescriptor "([CI[BII)I" = some ⟨[(.array .char), .int, (.array .byte), .int, .int], some .int⟩ := by decide +kernel
theorem pd___CII__B : parseMethodDescriptor "([CII)[B" = some ⟨[(.array .char), .int, .int], some (.array .byte)⟩ := by decide +kernel
theorem pd___BI_C : parseMethodDescriptor "([BI)C" = some ⟨[(.array .byte), .int], some .char⟩ := by decide +kernel
theorem pd___BI_B : parseMethodDescriptor "([BI)B" = some ⟨[(.array .byte), .int], some .byte⟩ := by decide +kernel
theorem pd__IILjava_util_function_BiFunction__I : parseMethodDescriptor "(IILjava/util/function/BiFunction;)I" = some ⟨[.int, .int, (.object "java/util/function/BiFunction")], some .int⟩ := by decide +kernel
theorem pd___B_I : parseMethodDescriptor "([B)I" = some ⟨[(.array .byte)], some .int⟩ := by decide +kernel
theorem pd__II_V : parseMethodDescriptor "(II)V" = some ⟨[.int, .int], none⟩ := by decide +kernel
theorem pd__I_B_V : parseMethodDescriptor "(I[B)V" = some ⟨[.int, (.array .byte)], none⟩ := by decide +kernel
theorem pd___Z : parseMethodDescriptor "()Z" = some ⟨[], some .boolean⟩ := by decide +kernel
theorem pd__I_C : parseMethodDescriptor "(I)C" = some ⟨[.int], some .char⟩ := by decide +kernel
theorem pd__ICCC_Ljava_lang_String_ : parseMethodDescriptor "(ICCC)Ljava/lang/String;" = some ⟨[.int, .char, .char, .char], some (.object "java/lang/String")⟩ := by decide +kernel
theorem pd__Ljava_lang_String__Z : parseMethodDescriptor "(Ljava/lang/String;)Z" = some ⟨[(.object "java/lang/String")], some .boolean⟩ := by decide +kernel
set_option maxRecDepth 65536 in
set_option maxHeartbeats 4000000 in
theorem own_canEncode (l : Launch) {Z : State} {a0 : Array Value} (hE : Ctx Z a0) {n0 : Nat} {h0 : Heap} (O : Old Z n0 h0) {c0 : Int32}   :
    Met l (⟨"java/lang/StringLatin1", "canEncode", "(C)Z"⟩ : MethodName) jdk_43_method_3_code 1 (Option.some Jvm.ClassFile.FieldType.boolean) ({ frames := 0, cells := 0, slots := 0, locals := 0 } : Room) Z consts_1 n0 [] #[(.int c0)] h0 (fun v h => v = some (.int (if (255 : Int32) < c0 then (0 : Int32) else (1 : Int32))) ∧ h0 = h) := by
  have hw := hE.1
  have hEL := own_EW hw
  have own_wS := own_stringAtoms hw
  refine Met.of (by first | (refine plainFor_of_name ?_; simp [plainName, overriddenIn]; done) | decide +kernel) O ?_
  intro p e s m below meth c T0 hx hby hml hret hlk hnm hh0 W0
  have z0 := W0.ge
  refine Go.st (g' := (mkF m 0 #[.val (.int c0)] [])) (fun _ k => castTop (by first | (simp [entryFrame, mkF, argsToLocals, maxLocals, own_catI, own_catJ, own_catD, own_catA, own_catN]; done) | rfl) k) ?_
  refine Go.st (g' := (mkF m 1 #[.val (.int c0)] [(.int c0)])) (fun _ k => XS.iloadN W0.here hx rfl (hb hby dd_jdk_43_method_3_code_0) rfl  k) ?_
  refine Go.st (g' := (mkF m 4 #[.val (.int c0)] [(.int (255 : Int32)), (.int c0)])) (fun _ k => XS.sipush W0.here hx rfl (hb hby dd_jdk_43_method_3_code_1) k) ?_
  by_cases hc1 : (255 : Int32) < c0
  · refine Go.st (g' := (mkF m 11 #[.val (.int c0)] [])) (fun _ k => XS.icmpYes W0.here hx rfl (pc0 := 4) (pc' := 11) rfl (hb hby dd_jdk_43_method_3_code_4) rfl (tlt hc1).2.2.1 (by decide) (by decide) k) ?_
    refine Go.st (g' := (mkF m 12 #[.val (.int c0)] [(.int (0 : Int32))])) (fun _ k => XS.iconst W0.here hx rfl (hb hby dd_jdk_43_method_3_code_11) k) ?_
    exact W0.retN hx hEL hlk (t := .boolean) hret (by decide) (hb hby dd_jdk_43_method_3_code_12) (by decide) (by decide) ⟨by rw [if_pos hc1]; rfl, rfl⟩
  · refine Go.st (g' := (mkF m 7 #[.val (.int c0)] [])) (fun _ k => XS.icmpNo W0.here hx rfl (hb hby dd_jdk_43_method_3_code_4) rfl (flt hc1).2.2.1 k) ?_
    refine Go.st (g' := (mkF m 8 #[.val (.int c0)] [(.int (1 : Int32))])) (fun _ k => XS.iconst W0.here hx rfl (hb hby dd_jdk_43_method_3_code_7) k) ?_
    refine Go.st (g' := (mkF m 12 #[.val (.int c0)] [(.int (1 : Int32))])) (fun _ k => XS.goto W0.here hx rfl (pc0 := 8) (pc' := 12) rfl (hb hby dd_jdk_43_method_3_code_8) (by decide) (by decide) k) ?_
    exact W0.retN hx hEL hlk (t := .boolean) hret (by decide) (hb hby dd_jdk_43_method_3_code_12) (by decide) (by decide) ⟨by rw [if_neg hc1]; rfl, rfl⟩
set_option maxRecDepth 65536 in
set_option maxHeartbeats 4000000 in
theorem own_toBytes (l : Launch) {Z : State} {a0 : Array Value} (hE : Ctx Z a0) {n0 : Nat} {h0 : Heap} (O : Old Z n0 h0) {c0 : Int32}   :
    Met l (⟨"java/lang/StringLatin1", "toBytes", "(C)[B"⟩ : MethodName) jdk_43_method_46_code 1 (Option.some (Jvm.ClassFile.FieldType.array Jvm.ClassFile.FieldType.byte)) ({ frames := 0, cells := 1, slots := 1, locals := 0 } : Room) Z consts_1 n0 [] #[(.int c0)] h0 (fun v h => ∃ (b : Addr), ∃ (kb : ClassId), v = some (.ref b) ∧ h0.size ≤ b ∧ Arv Z h b kb .byte (1 : Int32) [(.int (c0.toInt8.toInt32))] (.int (0 : Int32)) ∧ Keep h0 h []) := by
  have hw := hE.1
  have hEL := own_EW hw
  have own_wS := own_stringAtoms hw
  refine Met.of (by first | (refine plainFor_of_name ?_; simp [plainName, overriddenIn]; done) | decide +kernel) O ?_
  intro p e s m below meth c T0 hx hby hml hret hlk hnm hh0 W0
  have z0 := W0.ge
  refine Go.st (g' := (mkF m 0 #[.val (.int c0)] [])) (fun _ k => castTop (by first | (simp [entryFrame, mkF, argsToLocals, maxLocals, own_catI, own_catJ, own_catD, own_catA, own_catN]; done) | rfl) k) ?_
  refine Go.st (g' := (mkF m 1 #[.val (.int c0)] [(.int (1 : Int32))])) (fun _ k => XS.iconst W0.here hx rfl (hb hby dd_jdk_43_method_46_code_0) k) ?_
  obtain ⟨T1, h1, a1, k1, g1, W1, E1, z1, X1, S1, SF1, st1⟩ := W0.newP hx (ty := .byte) rfl (hw _ (List.mem_of_getElem? (i := 19) rfl)) (g := (mkF m 1 #[.val (.int c0)] [(.int (1 : Int32))])) rfl (hb hby dd_jdk_43_method_46_code_1) rfl (by decide) (cap := 1) (by decide) (by decide) (by decide) (by decide) 1
  have F2 : Arv Z h1 a1 k1 .byte (1 : Int32) [(.int (0 : Int32))] (.int (0 : Int32)) := X1
  refine Go.st (g' := (mkF m 3 #[.val (.int c0)] [(.ref a1)])) st1 ?_
  refine Go.st (g' := (mkF m 4 #[.val (.int c0)] [(.ref a1), (.ref a1)])) (fun _ k => XS.dup W1.here hx rfl (hb hby dd_jdk_43_method_46_code_3) rfl rfl k) ?_
  refine Go.st (g' := (mkF m 5 #[.val (.int c0)] [(.int (0 : Int32)), (.ref a1), (.ref a1)])) (fun _ k => XS.iconst W1.here hx rfl (hb hby dd_jdk_43_method_46_code_4) k) ?_
  refine Go.st (g' := (mkF m 6 #[.val (.int c0)] [(.int c0), (.int (0 : Int32)), (.ref a1), (.ref a1)])) (fun _ k => XS.iloadN W1.here hx rfl (hb hby dd_jdk_43_method_46_code_5) rfl  k) ?_
  refine Go.st (g' := (mkF m 7 #[.val (.int c0)] [(.int (c0.toInt8.toInt32)), (.int (0 : Int32)), (.ref a1), (.ref a1)])) (fun _ k => XS.i2b W1.here hx rfl (hb hby dd_jdk_43_method_46_code_6) rfl k) ?_
  obtain ⟨T3, h3, W3, R3, z3, X3, SF3, st3⟩ := W1.stB hx F2 S1 ⟨by decide, by decide⟩ 0 rfl (Nat.le_of_ble_eq_true rfl) (by omega) (g := (mkF m 7 #[.val (.int c0)] [(.int (c0.toInt8.toInt32)), (.int (0 : Int32)), (.ref a1), (.ref a1)])) rfl rfl (hb hby dd_jdk_43_method_46_code_7)
  have F4 : Arv Z h3 a1 k1 .byte (1 : Int32) [(.int (c0.toInt8.toInt32))] (.int (0 : Int32)) := (by have q := X3; rw [show nar .byte (c0.toInt8.toInt32) = (c0.toInt8.toInt32) from own_narB _] at q; exact q)
  refine Go.st (g' := (mkF m 8 #[.val (.int c0)] [(.ref a1)])) st3 ?_
  exact W3.retA hx hEL hlk hret rfl rfl rfl (hb hby dd_jdk_43_method_46_code_8) (by decide) (by decide) ⟨a1, k1, rfl, (by omega), F4, (((Keep.refl h0 []).ext E1).wr R3 (Or.inr (by omega)))⟩
set_option maxRecDepth 65536 in
set_option maxHeartbeats 4000000 in
theorem own_initBB (l : Launch) {Z : State} {a0 : Array Value} (hE : Ctx Z a0) {n0 : Nat} {h0 : Heap} (O : Old Z n0 h0) {x0 : Addr} {b0 : Addr} (hx0 : n0 ≤ x0) (P0 : Exa Z h0 x0 "java/lang/String") (P1 : Fld Z h0 x0 "java/lang/String" "value" "[B" .null) (P2 : Fld Z h0 x0 "java/lang/String" "coder" "B" (.int (0 : Int32))) :
    Met l (⟨"java/lang/String", "<init>", "([BB)V"⟩ : MethodName) jdk_42_method_151_code 3 (Option.none : Option Jvm.ClassFile.FieldType) ({ frames := 1, cells := 0, slots := 0, locals := 12 } : Room) Z consts_1 n0 [] #[(.ref x0), (.ref b0), (.int (0 : Int32))] h0 (fun v h => v = none ∧ Fld Z h x0 "java/lang/String" "value" "[B" (.ref b0) ∧ Fld Z h x0 "java/lang/String" "coder" "B" (.int (0 : Int32)) ∧ Keep h0 h [x0]) := by
  have hw := hE.1
  have hEL := own_EW hw
  have own_wS := own_stringAtoms hw
  refine Met.of (by first | (refine plainFor_of_name ?_; simp [plainName, overriddenIn]; done) | decide +kernel) O ?_
  intro p e s m below meth c T0 hx hby hml hret hlk hnm hh0 W0
  have z0 := W0.ge
  have yP0 : h0.size > x0 := P0.lt
  refine Go.st (g' := (mkF m 0 #[.val (.ref x0), .val (.ref b0), .val (.int (0 : Int32))] [])) (fun _ k => castTop (by first | (simp [entryFrame, mkF, argsToLocals, maxLocals, own_catI, own_catJ, own_catD, own_catA, own_catN]; done) | rfl) k) ?_
  refine Go.st (g' := (mkF m 1 #[.val (.ref x0), .val (.ref b0), .val (.int (0 : Int32))] [(.ref x0)])) (fun _ k => XS.aloadN W0.here hx rfl (hb hby dd_jdk_42_method_151_code_0) rfl rfl  k) ?_
  obtain ⟨T1, W1, st1⟩ := W0.initO hx (hw _ (List.mem_of_getElem? (i := 24) rfl)) (hw _ (List.mem_of_getElem? (i := 25) rfl)) (hw _ (List.mem_of_getElem? (i := 26) rfl)) (g := (mkF m 1 #[.val (.ref x0), .val (.ref b0), .val (.int (0 : Int32))] [(.ref x0)])) rfl (by rw [hml]; rfl) rfl (hb hby dd_jdk_42_method_151_code_1) (by decide) (Wd := 0) (by show 2 * 0 + _ ≤ _; exact Nat.le_of_eq rfl) (by decide)
  refine Go.st (g' := (mkF m 4 #[.val (.ref x0), .val (.ref b0), .val (.int (0 : Int32))] [])) st1 ?_
  refine Go.st (g' := (mkF m 5 #[.val (.ref x0), .val (.ref b0), .val (.int (0 : Int32))] [(.ref x0)])) (fun _ k => XS.aloadN W1.here hx rfl (hb hby dd_jdk_42_method_151_code_4) rfl rfl  k) ?_
  refine Go.st (g' := (mkF m 6 #[.val (.ref x0), .val (.ref b0), .val (.int (0 : Int32))] [(.ref b0), (.ref x0)])) (fun _ k => XS.aloadN W1.here hx rfl (hb hby dd_jdk_42_method_151_code_5) rfl rfl  k) ?_
  have S3 : Safe Z consts_1 s.vm h0 x0 := own_safe_blank W1.warm.alike P0 P1
  obtain ⟨T2, h2, W2, R2, z2, X2, SF2, st2⟩ := W1.putF hx (hw _ (List.mem_of_getElem? (i := 27) rfl)) Via.refl P1 P0 (Or.inr ⟨(hw _ (List.mem_of_getElem? (i := 28) rfl)), rfl, hnm⟩) (hw _ (List.mem_of_getElem? (i := 15) rfl)) (ty := (.array .byte)) (by decide) rfl rfl S3 (by omega) (g := (mkF m 6 #[.val (.ref x0), .val (.ref b0), .val (.int (0 : Int32))] [(.ref b0), (.ref x0)])) rfl rfl (hb hby dd_jdk_42_method_151_code_6)
  refine Go.st (g' := (mkF m 9 #[.val (.ref x0), .val (.ref b0), .val (.int (0 : Int32))] [])) st2 ?_
  refine Go.st (g' := (mkF m 10 #[.val (.ref x0), .val (.ref b0), .val (.int (0 : Int32))] [(.ref x0)])) (fun _ k => XS.aloadN W2.here hx rfl (hb hby dd_jdk_42_method_151_code_9) rfl rfl  k) ?_
  refine Go.st (g' := (mkF m 11 #[.val (.ref x0), .val (.ref b0), .val (.int (0 : Int32))] [(.int (0 : Int32)), (.ref x0)])) (fun _ k => XS.iloadN W2.here hx rfl (hb hby dd_jdk_42_method_151_code_10) rfl  k) ?_
  have F5 : Fld Z h2 x0 "java/lang/String" "coder" "B" (.int (0 : Int32)) := (P2.other R2 (Or.inr (slot_ne (Or.inr (hw _ (List.mem_of_getElem? (i := 30) rfl))) (Or.inr (hw _ (List.mem_of_getElem? (i := 28) rfl))) (by decide) (t := .byte) (t' := (.array .byte)) (by decide) (by decide))))
  have F6 : Exa Z h2 x0 "java/lang/String" := (P0.wr R2)
  have F7 : Safe Z consts_1 s.vm h2 x0 := (SF2 _ (by omega) S3)
  obtain ⟨T4, h4, W4, R4, z4, X4, SF4, st4⟩ := W2.putF hx (hw _ (List.mem_of_getElem? (i := 29) rfl)) Via.refl F5 F6 (Or.inr ⟨(hw _ (List.mem_of_getElem? (i := 30) rfl)), rfl, hnm⟩) (hw _ (List.mem_of_getElem? (i := 15) rfl)) (ty := .byte) (by decide) rfl rfl F7 (by omega) (g := (mkF m 11 #[.val (.ref x0), .val (.ref b0), .val (.int (0 : Int32))] [(.int (0 : Int32)), (.ref x0)])) rfl rfl (hb hby dd_jdk_42_method_151_code_11)
  refine Go.st (g' := (mkF m 14 #[.val (.ref x0), .val (.ref b0), .val (.int (0 : Int32))] [])) st4 ?_
  have F8 : Fld Z h4 x0 "java/lang/String" "value" "[B" (.ref b0) := (X2.other R4 (Or.inr (slot_ne (Or.inr (hw _ (List.mem_of_getElem? (i := 28) rfl))) (Or.inr (hw _ (List.mem_of_getElem? (i := 30) rfl))) (by decide) (t := (.array .byte)) (t' := .byte) (by decide) (by decide))))
  exact W4.retV hx hEL hlk hret (hb hby dd_jdk_42_method_151_code_14) (by decide) (by decide) ⟨rfl, F8, X4, (((Keep.refl h0 [x0]).wr R2 (Or.inl (List.mem_of_getElem? (i := 0) rfl))).wr R4 (Or.inl (List.mem_of_getElem? (i := 0) rfl)))⟩
set_option maxRecDepth 65536 in
set_option maxHeartbeats 4000000 in
theorem own_valueOf (l : Launch) {Z : State} {a0 : Array Value} (hE : Ctx Z a0) {n0 : Nat} {h0 : Heap} (O : Old Z n0 h0) {c0 : Int32} (hc0 : ¬ c0 < 0 ∧ ¬ (255 : Int32) < c0)  :
    Met l (⟨"java/lang/String", "valueOf", "(C)Ljava/lang/String;"⟩ : MethodName) jdk_42_method_139_code 1 (Option.some (Jvm.ClassFile.FieldType.object "java/lang/String")) ({ frames := 2, cells := 2, slots := 5, locals := 27 } : Room) Z consts_1 n0 [] #[(.int c0)] h0 (fun v h => ∃ (x : Addr), ∃ (t : Addr), v = some (.ref x) ∧ h0.size ≤ x ∧ h0.size ≤ t ∧ Str Z h x t [c0] ∧ Keep h0 h []) := by
  have hw := hE.1
  have hEL := own_EW hw
  have own_wS := own_stringAtoms hw
  obtain ⟨zc, hzc, hzc0⟩ := hE.2.1
  refine Met.of (by first | (refine plainFor_of_name ?_; simp [plainName, overriddenIn]; done) | decide +kernel) O ?_
  intro p e s m below meth c T0 hx hby hml hret hlk hnm hh0 W0
  have z0 := W0.ge
  refine Go.st (g' := (mkF m 0 #[.val (.int c0)] [])) (fun _ k => castTop (by first | (simp [entryFrame, mkF, argsToLocals, maxLocals, own_catI, own_catJ, own_catD, own_catA, own_catN]; done) | rfl) k) ?_
  obtain ⟨T1, W1, st1⟩ := W0.getS hx (hw _ (List.mem_of_getElem? (i := 9) rfl)) Via.refl (W0.sta hzc) (g := (mkF m 0 #[.val (.int c0)] [])) rfl (hb hby dd_jdk_42_method_139_code_0)
  refine Go.st (g' := (mkF m 3 #[.val (.int c0)] [(.int zc)])) st1 ?_
  refine Go.st (g' := (mkF m 6 #[.val (.int c0)] [])) (fun _ k => XS.ifNo W1.here hx rfl (hb hby dd_jdk_42_method_139_code_3) rfl ((if0 _ _).trans (feq hzc0).1) k) ?_
  refine Go.st (g' := (mkF m 7 #[.val (.int c0)] [(.int c0)])) (fun _ k => XS.iloadN W1.here hx rfl (hb hby dd_jdk_42_method_139_code_6) rfl  k) ?_
  obtain ⟨_, vm2, T2, h2, W2, Q2, z2, SF2, st2⟩ := W1.callS hx hEL (own_canEncode l hE W1.old (c0 := c0)  ) (hw _ (List.mem_of_getElem? (i := 10) rfl)) (hw _ (List.mem_of_getElem? (i := 11) rfl)) (hw _ (List.mem_of_getElem? (i := 12) rfl)) (hw _ (List.mem_of_getElem? (i := 13) rfl)) (by decide) (Wd := 0) (by decide) (by decide) (by decide) (by decide) (g := (mkF m 7 #[.val (.int c0)] [(.int c0)])) rfl (by rw [hml]; rfl) (argsL := [(.int c0)]) (rest := []) rfl (lenOf pd__C_Z rfl) rfl (by show 2 * 0 + _ ≤ _; exact Nat.le_of_eq rfl) (hb hby dd_jdk_42_method_139_code_7)
  obtain ⟨rfl, eh2⟩ := Q2
  subst eh2
  refine Go.tr (g' := (mkF m 10 #[.val (.int c0)] [(.int (if (255 : Int32) < c0 then (0 : Int32) else (1 : Int32)))])) st2 ?_
  refine Go.st (g' := (mkF m 13 #[.val (.int c0)] [])) (fun _ k => XS.ifNo W2.here hx rfl (hb hby dd_jdk_42_method_139_code_10) rfl ((if0 _ _).trans (feq (by rw [if_neg hc0.2]; decide)).1) k) ?_
  obtain ⟨T3, h3, a3, g3, W3, E3, z3, X3, D3, S3, SF3, U3, st3⟩ := W2.newO hx (hw _ (List.mem_of_getElem? (i := 14) rfl)) (hw _ (List.mem_of_getElem? (i := 15) rfl)) (hw _ (List.mem_of_getElem? (i := 7) rfl)) (g := (mkF m 13 #[.val (.int c0)] [])) rfl (hb hby dd_jdk_42_method_139_code_13) (by decide) (by decide)
  have F4 : Fld Z h3 a3 "java/lang/String" "value" "[B" .null := D3 (Or.inr (hw _ (List.mem_of_getElem? (i := 28) rfl))) (ty := (.array .byte)) (by decide)
  have F5 : Fld Z h3 a3 "java/lang/String" "coder" "B" (.int (0 : Int32)) := D3 (Or.inr (hw _ (List.mem_of_getElem? (i := 30) rfl))) (ty := .byte) (by decide)
  refine Go.st (g' := (mkF m 16 #[.val (.int c0)] [(.ref a3)])) st3 ?_
  refine Go.st (g' := (mkF m 17 #[.val (.int c0)] [(.ref a3), (.ref a3)])) (fun _ k => XS.dup W3.here hx rfl (hb hby dd_jdk_42_method_139_code_16) rfl rfl k) ?_
  refine Go.st (g' := (mkF m 18 #[.val (.int c0)] [(.int c0), (.ref a3), (.ref a3)])) (fun _ k => XS.iloadN W3.here hx rfl (hb hby dd_jdk_42_method_139_code_17) rfl  k) ?_
  obtain ⟨_, vm6, T6, h6, W6, Q6, z6, SF6, st6⟩ := W3.callS hx hEL (own_toBytes l hE W3.old (c0 := c0)  ) (hw _ (List.mem_of_getElem? (i := 16) rfl)) (hw _ (List.mem_of_getElem? (i := 17) rfl)) (hw _ (List.mem_of_getElem? (i := 12) rfl)) (hw _ (List.mem_of_getElem? (i := 18) rfl)) (by decide) (Wd := 2) (by decide) (by decide) (by decide) (by decide) (g := (mkF m 18 #[.val (.int c0)] [(.int c0), (.ref a3), (.ref a3)])) rfl (by rw [hml]; rfl) (argsL := [(.int c0)]) (rest := [(.ref a3), (.ref a3)]) rfl (lenOf pd__C__B rfl) rfl (by show 2 * 0 + _ ≤ _; exact Nat.le_of_eq rfl) (hb hby dd_jdk_42_method_139_code_18)
  obtain ⟨b_6, kb_6, rfl, p6_0, f6_0, K6⟩ := Q6
  have yf6_0 : h6.size > b_6 := f6_0.lt
  refine Go.tr (g' := (mkF m 21 #[.val (.int c0)] [(.ref b_6), (.ref a3), (.ref a3)])) st6 ?_
  refine Go.st (g' := (mkF m 22 #[.val (.int c0)] [(.int (0 : Int32)), (.ref b_6), (.ref a3), (.ref a3)])) (fun _ k => XS.iconst W6.here hx rfl (hb hby dd_jdk_42_method_139_code_21) k) ?_
  have F8 : Exa Z h6 a3 "java/lang/String" := (X3.keep K6)
  have F9 : Fld Z h6 a3 "java/lang/String" "value" "[B" .null := (F4.keep K6 nin0)
  have F10 : Fld Z h6 a3 "java/lang/String" "coder" "B" (.int (0 : Int32)) := (F5.keep K6 nin0)
  obtain ⟨_, vm7, T7, h7, W7, Q7, z7, SF7, st7⟩ := W6.callI hx hEL (own_initBB l hE W6.old (x0 := a3) (b0 := b_6) (by omega) F8 F9 F10) rfl (hw _ (List.mem_of_getElem? (i := 20) rfl)) (hw _ (List.mem_of_getElem? (i := 21) rfl)) (hw _ (List.mem_of_getElem? (i := 7) rfl)) (hw _ (List.mem_of_getElem? (i := 23) rfl)) (by decide) (Wd := 1) (by decide) (by decide) (by decide) (by decide) (g := (mkF m 22 #[.val (.int c0)] [(.int (0 : Int32)), (.ref b_6), (.ref a3), (.ref a3)])) rfl (by rw [hml]; rfl) (a := a3) (argsL := [(.ref b_6), (.int (0 : Int32))]) (rest := [(.ref a3)]) rfl (lenOf pd___BB_V rfl) rfl (by show 2 * 0 + _ ≤ _; exact Nat.le_of_eq rfl) (hb hby dd_jdk_42_method_139_code_22)
  obtain ⟨rfl, f7_0, f7_1, K7⟩ := Q7
  refine Go.tr (g' := (mkF m 25 #[.val (.int c0)] [(.ref a3)])) st7 ?_
  have F11 : Exa Z h7 a3 "java/lang/String" := (F8.keep K7)
  have F12 : Arv Z h7 b_6 kb_6 .byte (1 : Int32) [(.int (c0.toInt8.toInt32))] (.int (0 : Int32)) := (f6_0.keep K7 (ninS (own_ne (by omega)) nin0))
  have F13 : Str Z h7 a3 b_6 [c0] := Str.lat F11 f7_0 f7_1 F12 rfl rfl (own_allS hc0 own_all0) (Nat.le_of_ble_eq_true rfl)
  exact W7.retA hx hEL hlk hret rfl rfl rfl (hb hby dd_jdk_42_method_139_code_25) (by decide) (by decide) ⟨a3, b_6, rfl, (by omega), (by omega), F13, ((((Keep.refl h0 []).ext E3).trans K6 all0).trans K7 (allS (Or.inr (by omega)) all0))⟩
set_option maxRecDepth 65536 in
set_option maxHeartbeats 4000000 in
theorem own_initBB1 (l : Launch) {Z : State} {a0 : Array Value} (hE : Ctx Z a0) {n0 : Nat} {h0 : Heap} (O : Old Z n0 h0) {x0 : Addr} {b0 : Addr} (hx0 : n0 ≤ x0) (P0 : Exa Z h0 x0 "java/lang/String") (P1 : Fld Z h0 x0 "java/lang/String" "value" "[B" .null) (P2 : Fld Z h0 x0 "java/lang/String" "coder" "B" (.int (0 : Int32))) :
    Met l (⟨"java/lang/String", "<init>", "([BB)V"⟩ : MethodName) jdk_42_method_151_code 3 (Option.none : Option Jvm.ClassFile.FieldType) ({ frames := 1, cells := 0, slots := 0, locals := 12 } : Room) Z consts_1 n0 [] #[(.ref x0), (.ref b0), (.int (1 : Int32))] h0 (fun v h => v = none ∧ Fld Z h x0 "java/lang/String" "value" "[B" (.ref b0) ∧ Fld Z h x0 "java/lang/String" "coder" "B" (.int (1 : Int32)) ∧ Keep h0 h [x0]) := by
  have hw := hE.1
  have hEL := own_EW hw
  have own_wS := own_stringAtoms hw
  refine Met.of (by first | (refine plainFor_of_name ?_; simp [plainName, overriddenIn]; done) | decide +kernel) O ?_
  intro p e s m below meth c T0 hx hby hml hret hlk hnm hh0 W0
  have z0 := W0.ge
  have yP0 : h0.size > x0 := P0.lt
  refine Go.st (g' := (mkF m 0 #[.val (.ref x0), .val (.ref b0), .val (.int (1 : Int32))] [])) (fun _ k => castTop (by first | (simp [entryFrame, mkF, argsToLocals, maxLocals, own_catI, own_catJ, own_catD, own_catA, own_catN]; done) | rfl) k) ?_
  refine Go.st (g' := (mkF m 1 #[.val (.ref x0), .val (.ref b0), .val (.int (1 : Int32))] [(.ref x0)])) (fun _ k => XS.aloadN W0.here hx rfl (hb hby dd_jdk_42_method_151_code_0) rfl rfl  k) ?_
  obtain ⟨T1, W1, st1⟩ := W0.initO hx (hw _ (List.mem_of_getElem? (i := 24) rfl)) (hw _ (List.mem_of_getElem? (i := 25) rfl)) (hw _ (List.mem_of_getElem? (i := 26) rfl)) (g := (mkF m 1 #[.val (.ref x0), .val (.ref b0), .val (.int (1 : Int32))] [(.ref x0)])) rfl (by rw [hml]; rfl) rfl (hb hby dd_jdk_42_method_151_code_1) (by decide) (Wd := 0) (by show 2 * 0 + _ ≤ _; exact Nat.le_of_eq rfl) (by decide)
  refine Go.st (g' := (mkF m 4 #[.val (.ref x0), .val (.ref b0), .val (.int (1 : Int32))] [])) st1 ?_
  refine Go.st (g' := (mkF m 5 #[.val (.ref x0), .val (.ref b0), .val (.int (1 : Int32))] [(.ref x0)])) (fun _ k => XS.aloadN W1.here hx rfl (hb hby dd_jdk_42_method_151_code_4) rfl rfl  k) ?_
  refine Go.st (g' := (mkF m 6 #[.val (.ref x0), .val (.ref b0), .val (.int (1 : Int32))] [(.ref b0), (.ref x0)])) (fun _ k => XS.aloadN W1.here hx rfl (hb hby dd_jdk_42_method_151_code_5) rfl rfl  k) ?_
  have S3 : Safe Z consts_1 s.vm h0 x0 := own_safe_blank W1.warm.alike P0 P1
  obtain ⟨T2, h2, W2, R2, z2, X2, SF2, st2⟩ := W1.putF hx (hw _ (List.mem_of_getElem? (i := 27) rfl)) Via.refl P1 P0 (Or.inr ⟨(hw _ (List.mem_of_getElem? (i := 28) rfl)), rfl, hnm⟩) (hw _ (List.mem_of_getElem? (i := 15) rfl)) (ty := (.array .byte)) (by decide) rfl rfl S3 (by omega) (g := (mkF m 6 #[.val (.ref x0), .val (.ref b0), .val (.int (1 : Int32))] [(.ref b0), (.ref x0)])) rfl rfl (hb hby dd_jdk_42_method_151_code_6)
  refine Go.st (g' := (mkF m 9 #[.val (.ref x0), .val (.ref b0), .val (.int (1 : Int32))] [])) st2 ?_
  refine Go.st (g' := (mkF m 10 #[.val (.ref x0), .val (.ref b0), .val (.int (1 : Int32))] [(.ref x0)])) (fun _ k => XS.aloadN W2.here hx rfl (hb hby dd_jdk_42_method_151_code_9) rfl rfl  k) ?_
  refine Go.st (g' := (mkF m 11 #[.val (.ref x0), .val (.ref b0), .val (.int (1 : Int32))] [(.int (1 : Int32)), (.ref x0)])) (fun _ k => XS.iloadN W2.here hx rfl (hb hby dd_jdk_42_method_151_code_10) rfl  k) ?_
  have F5 : Fld Z h2 x0 "java/lang/String" "coder" "B" (.int (0 : Int32)) := (P2.other R2 (Or.inr (slot_ne (Or.inr (hw _ (List.mem_of_getElem? (i := 30) rfl))) (Or.inr (hw _ (List.mem_of_getElem? (i := 28) rfl))) (by decide) (t := .byte) (t' := (.array .byte)) (by decide) (by decide))))
  have F6 : Exa Z h2 x0 "java/lang/String" := (P0.wr R2)
  have F7 : Safe Z consts_1 s.vm h2 x0 := (SF2 _ (by omega) S3)
  obtain ⟨T4, h4, W4, R4, z4, X4, SF4, st4⟩ := W2.putF hx (hw _ (List.mem_of_getElem? (i := 29) rfl)) Via.refl F5 F6 (Or.inr ⟨(hw _ (List.mem_of_getElem? (i := 30) rfl)), rfl, hnm⟩) (hw _ (List.mem_of_getElem? (i := 15) rfl)) (ty := .byte) (by decide) rfl rfl F7 (by omega) (g := (mkF m 11 #[.val (.ref x0), .val (.ref b0), .val (.int (1 : Int32))] [(.int (1 : Int32)), (.ref x0)])) rfl rfl (hb hby dd_jdk_42_method_151_code_11)
  refine Go.st (g' := (mkF m 14 #[.val (.ref x0), .val (.ref b0), .val (.int (1 : Int32))] [])) st4 ?_
  have F8 : Fld Z h4 x0 "java/lang/String" "value" "[B" (.ref b0) := (X2.other R4 (Or.inr (slot_ne (Or.inr (hw _ (List.mem_of_getElem? (i := 28) rfl))) (Or.inr (hw _ (List.mem_of_getElem? (i := 30) rfl))) (by decide) (t := (.array .byte)) (t' := .byte) (by decide) (by decide))))
  exact W4.retV hx hEL hlk hret (hb hby dd_jdk_42_method_151_code_14) (by decide) (by decide) ⟨rfl, F8, X4, (((Keep.refl h0 [x0]).wr R2 (Or.inl (List.mem_of_getElem? (i := 0) rfl))).wr R4 (Or.inl (List.mem_of_getElem? (i := 0) rfl)))⟩
set_option maxRecDepth 65536 in
set_option maxHeartbeats 4000000 in
theorem own_put0 (l : Launch) {Z : State} {a0 : Array Value} (hE : Ctx Z a0) {n0 : Nat} {h0 : Heap} (O : Old Z n0 h0) {b0 : Addr} {kb : ClassId} {zz : Int32} {vs0 : List Value} {dd : Value} {c0 : Int32} (hb0 : n0 ≤ b0) (hza : (0 : Int32) < zz) (hzb : (1 : Int32) < zz) (hzn : ¬ zz.toNatClampNeg = 0) (hla : 0 < vs0.length) (hlb : 1 < vs0.length) (P0 : Arv Z h0 b0 kb .byte zz vs0 dd) :
    Met l (⟨"java/lang/StringUTF16", "putChar", "([BII)V"⟩ : MethodName) jdk_52_method_4_code 3 (Option.none : Option Jvm.ClassFile.FieldType) ({ frames := 0, cells := 0, slots := 0, locals := 0 } : Room) Z consts_1 n0 [] #[(.ref b0), (.int (0 : Int32)), (.int c0)] h0 (fun v h => v = none ∧ Arv Z h b0 kb .byte zz ((vs0.set 0 (.int ((c0 >>> ((0 : Int32) &&& 31)).toInt8.toInt32))).set 1 (.int ((c0 >>> ((8 : Int32) &&& 31)).toInt8.toInt32))) dd ∧ Keep h0 h [b0]) := by
  have hw := hE.1
  have hEL := own_EW hw
  have own_wS := own_stringAtoms hw
  have hE1 := own_E1 hw
  refine Met.of (by first | (refine plainFor_of_name ?_; simp [plainName, overriddenIn]; done) | decide +kernel) O ?_
  intro p e s m below meth c T0 hx hby hml hret hlk hnm hh0 W0
  have z0 := W0.ge
  have yP0 : h0.size > b0 := P0.lt
  refine Go.st (g' := (mkF m 0 #[.val (.ref b0), .val (.int (0 : Int32)), .val (.int c0)] [])) (fun _ k => castTop (by first | (simp [entryFrame, mkF, argsToLocals, maxLocals, own_catI, own_catJ, own_catD, own_catA, own_catN]; done) | rfl) k) ?_
  obtain ⟨T1, W1, st1⟩ := W0.getS hx (hw _ (List.mem_of_getElem? (i := 95) rfl)) Via.refl (W0.sta hE.2.2.2.1) (g := (mkF m 0 #[.val (.ref b0), .val (.int (0 : Int32)), .val (.int c0)] [])) rfl (hb hby dd_jdk_52_method_4_code_0)
  refine Go.st (g' := (mkF m 3 #[.val (.ref b0), .val (.int (0 : Int32)), .val (.int c0)] [(.int (1 : Int32))])) st1 ?_
  refine Go.st (g' := (mkF m 28 #[.val (.ref b0), .val (.int (0 : Int32)), .val (.int c0)] [])) (fun _ k => XS.ifYes W1.here hx rfl (pc0 := 3) (pc' := 28) rfl (hb hby dd_jdk_52_method_4_code_3) rfl ((if0 _ _).trans (feq (by decide)).2) (by decide) (by decide) k) ?_
  refine Go.st (g' := (mkF m 29 #[.val (.ref b0), .val (.int (0 : Int32)), .val (.int c0)] [(.int (0 : Int32))])) (fun _ k => XS.iloadN W1.here hx rfl (hb hby dd_jdk_52_method_4_code_28) rfl  k) ?_
  refine Go.st (g' := (mkF m 30 #[.val (.ref b0), .val (.int (0 : Int32)), .val (.int c0)] [(.int (1 : Int32)), (.int (0 : Int32))])) (fun _ k => XS.iconst W1.here hx rfl (hb hby dd_jdk_52_method_4_code_29) k) ?_
  refine Go.st (g' := (mkF m 31 #[.val (.ref b0), .val (.int (0 : Int32)), .val (.int c0)] [(.int (0 : Int32))])) (fun _ k => XS.ishl W1.here hx rfl (hb hby dd_jdk_52_method_4_code_30) rfl k) ?_
  refine Go.st (g' := (mkF m 32 #[.val (.ref b0), .val (.int (0 : Int32)), .val (.int c0)] [])) (fun _ k => XS.istoreN W1.here hx rfl (hb hby dd_jdk_52_method_4_code_31) rfl (l' := #[.val (.ref b0), .val (.int (0 : Int32)), .val (.int c0)]) rfl k) ?_
  refine Go.st (g' := (mkF m 33 #[.val (.ref b0), .val (.int (0 : Int32)), .val (.int c0)] [(.ref b0)])) (fun _ k => XS.aloadN W1.here hx rfl (hb hby dd_jdk_52_method_4_code_32) rfl rfl  k) ?_
  refine Go.st (g' := (mkF m 34 #[.val (.ref b0), .val (.int (0 : Int32)), .val (.int c0)] [(.int (0 : Int32)), (.ref b0)])) (fun _ k => XS.iloadN W1.here hx rfl (hb hby dd_jdk_52_method_4_code_33) rfl  k) ?_
  refine Go.st (g' := (mkF m 37 #[.val (.ref b0), .val (.int (1 : Int32)), .val (.int c0)] [(.int (0 : Int32)), (.ref b0)])) (fun _ k => XS.iinc W1.here hx rfl (hb hby dd_jdk_52_method_4_code_34) rfl (l' := #[.val (.ref b0), .val (.int (1 : Int32)), .val (.int c0)]) rfl k) ?_
  refine Go.st (g' := (mkF m 38 #[.val (.ref b0), .val (.int (1 : Int32)), .val (.int c0)] [(.int c0), (.int (0 : Int32)), (.ref b0)])) (fun _ k => XS.iloadN W1.here hx rfl (hb hby dd_jdk_52_method_4_code_37) rfl  k) ?_
  obtain ⟨T2, W2, st2⟩ := W1.getS hx (hw _ (List.mem_of_getElem? (i := 96) rfl)) Via.refl (W1.sta hE.2.2.2.2.1) (g := (mkF m 38 #[.val (.ref b0), .val (.int (1 : Int32)), .val (.int c0)] [(.int c0), (.int (0 : Int32)), (.ref b0)])) rfl (hb hby dd_jdk_52_method_4_code_38)
  refine Go.st (g' := (mkF m 41 #[.val (.ref b0), .val (.int (1 : Int32)), .val (.int c0)] [(.int (0 : Int32)), (.int c0), (.int (0 : Int32)), (.ref b0)])) st2 ?_
  refine Go.st (g' := (mkF m 42 #[.val (.ref b0), .val (.int (1 : Int32)), .val (.int c0)] [(.int (c0 >>> ((0 : Int32) &&& 31))), (.int (0 : Int32)), (.ref b0)])) (fun _ k => XS.ishr W2.here hx rfl (hb hby dd_jdk_52_method_4_code_41) rfl k) ?_
  refine Go.st (g' := (mkF m 43 #[.val (.ref b0), .val (.int (1 : Int32)), .val (.int c0)] [(.int ((c0 >>> ((0 : Int32) &&& 31)).toInt8.toInt32)), (.int (0 : Int32)), (.ref b0)])) (fun _ k => XS.i2b W2.here hx rfl (hb hby dd_jdk_52_method_4_code_42) rfl k) ?_
  obtain ⟨T3, h3, W3, R3, z3, X3, SF3, st3⟩ := W2.stB hx P0 (own_safeB W2.warm hE1 P0 hzn) ⟨by decide, by omega⟩ 0 rfl hla (by omega) (g := (mkF m 43 #[.val (.ref b0), .val (.int (1 : Int32)), .val (.int c0)] [(.int ((c0 >>> ((0 : Int32) &&& 31)).toInt8.toInt32)), (.int (0 : Int32)), (.ref b0)])) rfl rfl (hb hby dd_jdk_52_method_4_code_43)
  have F4 : Arv Z h3 b0 kb .byte zz (vs0.set 0 (.int ((c0 >>> ((0 : Int32) &&& 31)).toInt8.toInt32))) dd := (by have q := X3; rw [show nar .byte ((c0 >>> ((0 : Int32) &&& 31)).toInt8.toInt32) = ((c0 >>> ((0 : Int32) &&& 31)).toInt8.toInt32) from own_narB _] at q; exact q)
  refine Go.st (g' := (mkF m 44 #[.val (.ref b0), .val (.int (1 : Int32)), .val (.int c0)] [])) st3 ?_
  refine Go.st (g' := (mkF m 45 #[.val (.ref b0), .val (.int (1 : Int32)), .val (.int c0)] [(.ref b0)])) (fun _ k => XS.aloadN W3.here hx rfl (hb hby dd_jdk_52_method_4_code_44) rfl rfl  k) ?_
  refine Go.st (g' := (mkF m 46 #[.val (.ref b0), .val (.int (1 : Int32)), .val (.int c0)] [(.int (1 : Int32)), (.ref b0)])) (fun _ k => XS.iloadN W3.here hx rfl (hb hby dd_jdk_52_method_4_code_45) rfl  k) ?_
  refine Go.st (g' := (mkF m 47 #[.val (.ref b0), .val (.int (1 : Int32)), .val (.int c0)] [(.int c0), (.int (1 : Int32)), (.ref b0)])) (fun _ k => XS.iloadN W3.here hx rfl (hb hby dd_jdk_52_method_4_code_46) rfl  k) ?_
  obtain ⟨T5, W5, st5⟩ := W3.getS hx (hw _ (List.mem_of_getElem? (i := 97) rfl)) Via.refl (W3.sta hE.2.2.2.2.2) (g := (mkF m 47 #[.val (.ref b0), .val (.int (1 : Int32)), .val (.int c0)] [(.int c0), (.int (1 : Int32)), (.ref b0)])) rfl (hb hby dd_jdk_52_method_4_code_47)
  refine Go.st (g' := (mkF m 50 #[.val (.ref b0), .val (.int (1 : Int32)), .val (.int c0)] [(.int (8 : Int32)), (.int c0), (.int (1 : Int32)), (.ref b0)])) st5 ?_
  refine Go.st (g' := (mkF m 51 #[.val (.ref b0), .val (.int (1 : Int32)), .val (.int c0)] [(.int (c0 >>> ((8 : Int32) &&& 31))), (.int (1 : Int32)), (.ref b0)])) (fun _ k => XS.ishr W5.here hx rfl (hb hby dd_jdk_52_method_4_code_50) rfl k) ?_
  refine Go.st (g' := (mkF m 52 #[.val (.ref b0), .val (.int (1 : Int32)), .val (.int c0)] [(.int ((c0 >>> ((8 : Int32) &&& 31)).toInt8.toInt32)), (.int (1 : Int32)), (.ref b0)])) (fun _ k => XS.i2b W5.here hx rfl (hb hby dd_jdk_52_method_4_code_51) rfl k) ?_
  obtain ⟨T6, h6, W6, R6, z6, X6, SF6, st6⟩ := W5.stB hx F4 (own_safeB W5.warm hE1 F4 hzn) ⟨by decide, by omega⟩ 1 rfl (by rw [List.length_set]; exact hlb) (by omega) (g := (mkF m 52 #[.val (.ref b0), .val (.int (1 : Int32)), .val (.int c0)] [(.int ((c0 >>> ((8 : Int32) &&& 31)).toInt8.toInt32)), (.int (1 : Int32)), (.ref b0)])) rfl rfl (hb hby dd_jdk_52_method_4_code_52)
  have F7 : Arv Z h6 b0 kb .byte zz ((vs0.set 0 (.int ((c0 >>> ((0 : Int32) &&& 31)).toInt8.toInt32))).set 1 (.int ((c0 >>> ((8 : Int32) &&& 31)).toInt8.toInt32))) dd := (by have q := X6; rw [show nar .byte ((c0 >>> ((8 : Int32) &&& 31)).toInt8.toInt32) = ((c0 >>> ((8 : Int32) &&& 31)).toInt8.toInt32) from own_narB _] at q; exact q)
  refine Go.st (g' := (mkF m 53 #[.val (.ref b0), .val (.int (1 : Int32)), .val (.int c0)] [])) st6 ?_
  exact W6.retV hx hEL hlk hret (hb hby dd_jdk_52_method_4_code_53) (by decide) (by decide) ⟨rfl, F7, (((Keep.refl h0 [b0]).wr R3 (Or.inl (List.mem_of_getElem? (i := 0) rfl))).wr R6 (Or.inl (List.mem_of_getElem? (i := 0) rfl)))⟩
set_option maxRecDepth 65536 in
set_option maxHeartbeats 4000000 in
theorem own_tbC (l : Launch) {Z : State} {a0 : Array Value} (hE : Ctx Z a0) {n0 : Nat} {h0 : Heap} (O : Old Z n0 h0) {c0 : Int32}   :
    Met l (⟨"java/lang/StringUTF16", "toBytes", "(C)[B"⟩ : MethodName) jdk_52_method_24_code 2 (Option.some (Jvm.ClassFile.FieldType.array Jvm.ClassFile.FieldType.byte)) ({ frames := 1, cells := 1, slots := 2, locals := 14 } : Room) Z consts_1 n0 [] #[(.int c0)] h0 (fun v h => ∃ (b : Addr), ∃ (kb : ClassId), v = some (.ref b) ∧ h0.size ≤ b ∧ Arv Z h b kb .byte (2 : Int32) [(.int ((c0 >>> ((0 : Int32) &&& 31)).toInt8.toInt32)), (.int ((c0 >>> ((8 : Int32) &&& 31)).toInt8.toInt32))] (.int (0 : Int32)) ∧ Keep h0 h []) := by
  have hw := hE.1
  have hEL := own_EW hw
  have own_wS := own_stringAtoms hw
  have hE1 := own_E1 hw
  refine Met.of (by first | (refine plainFor_of_name ?_; simp [plainName, overriddenIn]; done) | decide +kernel) O ?_
  intro p e s m below meth c T0 hx hby hml hret hlk hnm hh0 W0
  have z0 := W0.ge
  refine Go.st (g' := (mkF m 0 #[.val (.int c0), .unset] [])) (fun _ k => castTop (by first | (simp [entryFrame, mkF, argsToLocals, maxLocals, own_catI, own_catJ, own_catD, own_catA, own_catN]; done) | rfl) k) ?_
  refine Go.st (g' := (mkF m 1 #[.val (.int c0), .unset] [(.int (2 : Int32))])) (fun _ k => XS.iconst W0.here hx rfl (hb hby dd_jdk_52_method_24_code_0) k) ?_
  obtain ⟨T1, h1, a1, k1, g1, W1, E1, z1, X1, S1, SF1, st1⟩ := W0.newP hx (ty := .byte) rfl (hw _ (List.mem_of_getElem? (i := 19) rfl)) (g := (mkF m 1 #[.val (.int c0), .unset] [(.int (2 : Int32))])) rfl (hb hby dd_jdk_52_method_24_code_1) rfl (by decide) (cap := 2) (by decide) (by decide) (by decide) (by decide) 2
  have F2 : Arv Z h1 a1 k1 .byte (2 : Int32) [(.int (0 : Int32)), (.int (0 : Int32))] (.int (0 : Int32)) := X1
  refine Go.st (g' := (mkF m 3 #[.val (.int c0), .unset] [(.ref a1)])) st1 ?_
  refine Go.st (g' := (mkF m 4 #[.val (.int c0), .val (.ref a1)] [])) (fun _ k => XS.astoreN W1.here hx rfl (hb hby dd_jdk_52_method_24_code_3) rfl rfl (l' := #[.val (.int c0), .val (.ref a1)]) rfl k) ?_
  refine Go.st (g' := (mkF m 5 #[.val (.int c0), .val (.ref a1)] [(.ref a1)])) (fun _ k => XS.aloadN W1.here hx rfl (hb hby dd_jdk_52_method_24_code_4) rfl rfl  k) ?_
  refine Go.st (g' := (mkF m 6 #[.val (.int c0), .val (.ref a1)] [(.int (0 : Int32)), (.ref a1)])) (fun _ k => XS.iconst W1.here hx rfl (hb hby dd_jdk_52_method_24_code_5) k) ?_
  refine Go.st (g' := (mkF m 7 #[.val (.int c0), .val (.ref a1)] [(.int c0), (.int (0 : Int32)), (.ref a1)])) (fun _ k => XS.iloadN W1.here hx rfl (hb hby dd_jdk_52_method_24_code_6) rfl  k) ?_
  obtain ⟨_, vm3, T3, h3, W3, Q3, z3, SF3, st3⟩ := W1.callS hx hEL (own_put0 l hE W1.old (b0 := a1) (kb := k1) (zz := (2 : Int32)) (vs0 := [(.int (0 : Int32)), (.int (0 : Int32))]) (dd := (.int (0 : Int32))) (c0 := c0) (by omega) (by decide) (by decide) (by decide) (Nat.le_of_ble_eq_true rfl) (Nat.le_of_ble_eq_true rfl) F2) (hw _ (List.mem_of_getElem? (i := 92) rfl)) (hw _ (List.mem_of_getElem? (i := 93) rfl)) (hw _ (List.mem_of_getElem? (i := 71) rfl)) (hw _ (List.mem_of_getElem? (i := 94) rfl)) (by decide) (Wd := 0) (by decide) (by decide) (by decide) (by decide) (g := (mkF m 7 #[.val (.int c0), .val (.ref a1)] [(.int c0), (.int (0 : Int32)), (.ref a1)])) rfl (by rw [hml]; rfl) (argsL := [(.ref a1), (.int (0 : Int32)), (.int c0)]) (rest := []) rfl (lenOf pd___BII_V rfl) rfl (by show 2 * 0 + _ ≤ _; exact Nat.le_of_eq rfl) (hb hby dd_jdk_52_method_24_code_7)
  obtain ⟨rfl, f3_0, K3⟩ := Q3
  have yf3_0 : h3.size > a1 := f3_0.lt
  refine Go.tr (g' := (mkF m 10 #[.val (.int c0), .val (.ref a1)] [])) st3 ?_
  have F4 : Arv Z h3 a1 k1 .byte (2 : Int32) [(.int ((c0 >>> ((0 : Int32) &&& 31)).toInt8.toInt32)), (.int ((c0 >>> ((8 : Int32) &&& 31)).toInt8.toInt32))] (.int (0 : Int32)) := f3_0
  refine Go.st (g' := (mkF m 11 #[.val (.int c0), .val (.ref a1)] [(.ref a1)])) (fun _ k => XS.aloadN W3.here hx rfl (hb hby dd_jdk_52_method_24_code_10) rfl rfl  k) ?_
  exact W3.retA hx hEL hlk hret rfl rfl rfl (hb hby dd_jdk_52_method_24_code_11) (by decide) (by decide) ⟨a1, k1, rfl, (by omega), F4, (((Keep.refl h0 []).ext E1).trans K3 (allS (Or.inr (by omega)) all0))⟩
set_option maxRecDepth 65536 in
set_option maxHeartbeats 4000000 in
theorem own_valueOfW (l : Launch) {Z : State} {a0 : Array Value} (hE : Ctx Z a0) {n0 : Nat} {h0 : Heap} (O : Old Z n0 h0) {c0 : Int32} (hw1 : (255 : Int32) < c0)  :
    Met l (⟨"java/lang/String", "valueOf", "(C)Ljava/lang/String;"⟩ : MethodName) jdk_42_method_139_code 1 (Option.some (Jvm.ClassFile.FieldType.object "java/lang/String")) ({ frames := 2, cells := 2, slots := 6, locals := 29 } : Room) Z consts_1 n0 [] #[(.int c0)] h0 (fun v h => ∃ (x : Addr), ∃ (t : Addr), ∃ (kt : ClassId), v = some (.ref x) ∧ h0.size ≤ x ∧ h0.size ≤ t ∧ Exa Z h x "java/lang/String" ∧ Fld Z h x "java/lang/String" "value" "[B" (.ref t) ∧ Fld Z h x "java/lang/String" "coder" "B" (.int (1 : Int32)) ∧ Arv Z h t kt .byte (2 : Int32) [(.int ((c0 >>> ((0 : Int32) &&& 31)).toInt8.toInt32)), (.int ((c0 >>> ((8 : Int32) &&& 31)).toInt8.toInt32))] (.int (0 : Int32)) ∧ Keep h0 h []) := by
  have hw := hE.1
  have hEL := own_EW hw
  have own_wS := own_stringAtoms hw
  have hE1 := own_E1 hw
  obtain ⟨zc, hzc, hzc0⟩ := hE.2.1
  refine Met.of (by first | (refine plainFor_of_name ?_; simp [plainName, overriddenIn]; done) | decide +kernel) O ?_
  intro p e s m below meth c T0 hx hby hml hret hlk hnm hh0 W0
  have z0 := W0.ge
  refine Go.st (g' := (mkF m 0 #[.val (.int c0)] [])) (fun _ k => castTop (by first | (simp [entryFrame, mkF, argsToLocals, maxLocals, own_catI, own_catJ, own_catD, own_catA, own_catN]; done) | rfl) k) ?_
  obtain ⟨T1, W1, st1⟩ := W0.getS hx (hw _ (List.mem_of_getElem? (i := 9) rfl)) Via.refl (W0.sta hzc) (g := (mkF m 0 #[.val (.int c0)] [])) rfl (hb hby dd_jdk_42_method_139_code_0)
  refine Go.st (g' := (mkF m 3 #[.val (.int c0)] [(.int zc)])) st1 ?_
  refine Go.st (g' := (mkF m 6 #[.val (.int c0)] [])) (fun _ k => XS.ifNo W1.here hx rfl (hb hby dd_jdk_42_method_139_code_3) rfl ((if0 _ _).trans (feq hzc0).1) k) ?_
  refine Go.st (g' := (mkF m 7 #[.val (.int c0)] [(.int c0)])) (fun _ k => XS.iloadN W1.here hx rfl (hb hby dd_jdk_42_method_139_code_6) rfl  k) ?_
  obtain ⟨_, vm2, T2, h2, W2, Q2, z2, SF2, st2⟩ := W1.callS hx hEL (own_canEncode l hE W1.old (c0 := c0)  ) (hw _ (List.mem_of_getElem? (i := 10) rfl)) (hw _ (List.mem_of_getElem? (i := 11) rfl)) (hw _ (List.mem_of_getElem? (i := 12) rfl)) (hw _ (List.mem_of_getElem? (i := 13) rfl)) (by decide) (Wd := 0) (by decide) (by decide) (by decide) (by decide) (g := (mkF m 7 #[.val (.int c0)] [(.int c0)])) rfl (by rw [hml]; rfl) (argsL := [(.int c0)]) (rest := []) rfl (lenOf pd__C_Z rfl) rfl (by show 2 * 0 + _ ≤ _; exact Nat.le_of_eq rfl) (hb hby dd_jdk_42_method_139_code_7)
  obtain ⟨rfl, eh2⟩ := Q2
  subst eh2
  refine Go.tr (g' := (mkF m 10 #[.val (.int c0)] [(.int (if (255 : Int32) < c0 then (0 : Int32) else (1 : Int32)))])) st2 ?_
  refine Go.st (g' := (mkF m 26 #[.val (.int c0)] [])) (fun _ k => XS.ifYes W2.here hx rfl (pc0 := 10) (pc' := 26) rfl (hb hby dd_jdk_42_method_139_code_10) rfl ((if0 _ _).trans (teq (by rw [if_pos hw1])).1) (by decide) (by decide) k) ?_
  obtain ⟨T3, h3, a3, g3, W3, E3, z3, X3, D3, S3, SF3, U3, st3⟩ := W2.newO hx (hw _ (List.mem_of_getElem? (i := 14) rfl)) (hw _ (List.mem_of_getElem? (i := 15) rfl)) (hw _ (List.mem_of_getElem? (i := 7) rfl)) (g := (mkF m 26 #[.val (.int c0)] [])) rfl (hb hby dd_jdk_42_method_139_code_26) (by decide) (by decide)
  have F4 : Fld Z h3 a3 "java/lang/String" "value" "[B" .null := D3 (Or.inr (hw _ (List.mem_of_getElem? (i := 28) rfl))) (ty := (.array .byte)) (by decide)
  have F5 : Fld Z h3 a3 "java/lang/String" "coder" "B" (.int (0 : Int32)) := D3 (Or.inr (hw _ (List.mem_of_getElem? (i := 30) rfl))) (ty := .byte) (by decide)
  refine Go.st (g' := (mkF m 29 #[.val (.int c0)] [(.ref a3)])) st3 ?_
  refine Go.st (g' := (mkF m 30 #[.val (.int c0)] [(.ref a3), (.ref a3)])) (fun _ k => XS.dup W3.here hx rfl (hb hby dd_jdk_42_method_139_code_29) rfl rfl k) ?_
  refine Go.st (g' := (mkF m 31 #[.val (.int c0)] [(.int c0), (.ref a3), (.ref a3)])) (fun _ k => XS.iloadN W3.here hx rfl (hb hby dd_jdk_42_method_139_code_30) rfl  k) ?_
  obtain ⟨_, vm6, T6, h6, W6, Q6, z6, SF6, st6⟩ := W3.callS hx hEL (own_tbC l hE W3.old (c0 := c0)  ) (hw _ (List.mem_of_getElem? (i := 111) rfl)) (hw _ (List.mem_of_getElem? (i := 112) rfl)) (hw _ (List.mem_of_getElem? (i := 71) rfl)) (hw _ (List.mem_of_getElem? (i := 113) rfl)) (by decide) (Wd := 2) (by decide) (by decide) (by decide) (by decide) (g := (mkF m 31 #[.val (.int c0)] [(.int c0), (.ref a3), (.ref a3)])) rfl (by rw [hml]; rfl) (argsL := [(.int c0)]) (rest := [(.ref a3), (.ref a3)]) rfl (lenOf pd__C__B rfl) rfl (by show 2 * 0 + _ ≤ _; exact Nat.le_of_eq rfl) (hb hby dd_jdk_42_method_139_code_31)
  obtain ⟨b_6, kb_6, rfl, p6_0, f6_0, K6⟩ := Q6
  have yf6_0 : h6.size > b_6 := f6_0.lt
  refine Go.tr (g' := (mkF m 34 #[.val (.int c0)] [(.ref b_6), (.ref a3), (.ref a3)])) st6 ?_
  refine Go.st (g' := (mkF m 35 #[.val (.int c0)] [(.int (1 : Int32)), (.ref b_6), (.ref a3), (.ref a3)])) (fun _ k => XS.iconst W6.here hx rfl (hb hby dd_jdk_42_method_139_code_34) k) ?_
  have F8 : Exa Z h6 a3 "java/lang/String" := (X3.keep K6)
  have F9 : Fld Z h6 a3 "java/lang/String" "value" "[B" .null := (F4.keep K6 nin0)
  have F10 : Fld Z h6 a3 "java/lang/String" "coder" "B" (.int (0 : Int32)) := (F5.keep K6 nin0)
  obtain ⟨_, vm7, T7, h7, W7, Q7, z7, SF7, st7⟩ := W6.callI hx hEL (own_initBB1 l hE W6.old (x0 := a3) (b0 := b_6) (by omega) F8 F9 F10) rfl (hw _ (List.mem_of_getElem? (i := 20) rfl)) (hw _ (List.mem_of_getElem? (i := 21) rfl)) (hw _ (List.mem_of_getElem? (i := 7) rfl)) (hw _ (List.mem_of_getElem? (i := 23) rfl)) (by decide) (Wd := 1) (by decide) (by decide) (by decide) (by decide) (g := (mkF m 35 #[.val (.int c0)] [(.int (1 : Int32)), (.ref b_6), (.ref a3), (.ref a3)])) rfl (by rw [hml]; rfl) (a := a3) (argsL := [(.ref b_6), (.int (1 : Int32))]) (rest := [(.ref a3)]) rfl (lenOf pd___BB_V rfl) rfl (by show 2 * 0 + _ ≤ _; exact Nat.le_of_eq rfl) (hb hby dd_jdk_42_method_139_code_35)
  obtain ⟨rfl, f7_0, f7_1, K7⟩ := Q7
  refine Go.tr (g' := (mkF m 38 #[.val (.int c0)] [(.ref a3)])) st7 ?_
  have F11 : Exa Z h7 a3 "java/lang/String" := (F8.keep K7)
  have F12 : Arv Z h7 b_6 kb_6 .byte (2 : Int32) [(.int ((c0 >>> ((0 : Int32) &&& 31)).toInt8.toInt32)), (.int ((c0 >>> ((8 : Int32) &&& 31)).toInt8.toInt32))] (.int (0 : Int32)) := (f6_0.keep K7 (ninS (own_ne (by omega)) nin0))
  exact W7.retA hx hEL hlk hret rfl rfl rfl (hb hby dd_jdk_42_method_139_code_38) (by decide) (by decide) ⟨a3, b_6, kb_6, rfl, (by omega), (by omega), F11, f7_0, f7_1, F12, ((((Keep.refl h0 []).ext E3).trans K6 all0).trans K7 (allS (Or.inr (by omega)) all0))⟩
set_option maxRecDepth 65536 in
set_option maxHeartbeats 4000000 in
theorem own_init4E (l : Launch) {Z : State} {a0 : Array Value} (hE : Ctx Z a0) {n0 : Nat} {h0 : Heap} (O : Old Z n0 h0) {x0 : Addr} {b0 : Addr} (hx0 : n0 ≤ x0) (P0 : Exa Z h0 x0 "java/lang/String") (P1 : Fld Z h0 x0 "java/lang/String" "value" "[B" .null) (P2 : Fld Z h0 x0 "java/lang/String" "coder" "B" (.int (0 : Int32))) :
    Met l (⟨"java/lang/String", "<init>", "([CIILjava/lang/Void;)V"⟩ : MethodName) jdk_42_method_149_code 6 (Option.none : Option Jvm.ClassFile.FieldType) ({ frames := 1, cells := 4, slots := 8, locals := 12 } : Room) Z consts_1 n0 [] #[(.ref x0), (.ref b0), (.int (0 : Int32)), (.int (0 : Int32)), .null] h0 (fun v h => ∃ (t : Addr), v = none ∧ Str Z h x0 t [] ∧ Keep h0 h [x0]) := by
  have hw := hE.1
  have hEL := own_EW hw
  have own_wS := own_stringAtoms hw
  refine Met.of (by first | (refine plainFor_of_name ?_; simp [plainName, overriddenIn]; done) | decide +kernel) O ?_
  intro p e s m below meth c T0 hx hby hml hret hlk hnm hh0 W0
  have z0 := W0.ge
  have yP0 : h0.size > x0 := P0.lt
  refine Go.st (g' := (mkF m 0 #[.val (.ref x0), .val (.ref b0), .val (.int (0 : Int32)), .val (.int (0 : Int32)), .val .null, .unset] [])) (fun _ k => castTop (by first | (simp [entryFrame, mkF, argsToLocals, maxLocals, own_catI, own_catJ, own_catD, own_catA, own_catN]; done) | rfl) k) ?_
  refine Go.st (g' := (mkF m 1 #[.val (.ref x0), .val (.ref b0), .val (.int (0 : Int32)), .val (.int (0 : Int32)), .val .null, .unset] [(.ref x0)])) (fun _ k => XS.aloadN W0.here hx rfl (hb hby dd_jdk_42_method_149_code_0) rfl rfl  k) ?_
  obtain ⟨T1, W1, st1⟩ := W0.initO hx (hw _ (List.mem_of_getElem? (i := 24) rfl)) (hw _ (List.mem_of_getElem? (i := 25) rfl)) (hw _ (List.mem_of_getElem? (i := 26) rfl)) (g := (mkF m 1 #[.val (.ref x0), .val (.ref b0), .val (.int (0 : Int32)), .val (.int (0 : Int32)), .val .null, .unset] [(.ref x0)])) rfl (by rw [hml]; rfl) rfl (hb hby dd_jdk_42_method_149_code_1) (by decide) (Wd := 0) (by show 2 * 0 + _ ≤ _; exact Nat.le_of_eq rfl) (by decide)
  refine Go.st (g' := (mkF m 4 #[.val (.ref x0), .val (.ref b0), .val (.int (0 : Int32)), .val (.int (0 : Int32)), .val .null, .unset] [])) st1 ?_
  refine Go.st (g' := (mkF m 5 #[.val (.ref x0), .val (.ref b0), .val (.int (0 : Int32)), .val (.int (0 : Int32)), .val .null, .unset] [(.int (0 : Int32))])) (fun _ k => XS.iloadN W1.here hx rfl (hb hby dd_jdk_42_method_149_code_4) rfl  k) ?_
  refine Go.st (g' := (mkF m 8 #[.val (.ref x0), .val (.ref b0), .val (.int (0 : Int32)), .val (.int (0 : Int32)), .val .null, .unset] [])) (fun _ k => XS.ifNo W1.here hx rfl (hb hby dd_jdk_42_method_149_code_5) rfl ((if0 _ _).trans (teq (by decide)).2) k) ?_
  refine Go.st (g' := (mkF m 9 #[.val (.ref x0), .val (.ref b0), .val (.int (0 : Int32)), .val (.int (0 : Int32)), .val .null, .unset] [(.ref x0)])) (fun _ k => XS.aloadN W1.here hx rfl (hb hby dd_jdk_42_method_149_code_8) rfl rfl  k) ?_
  have S2 : Safe Z consts_1 s.vm h0 x0 := own_safe_blank W1.warm.alike P0 P1
  obtain ⟨a3, vm3, T3, h3, b3, k3, W3, E3, X3, Fc3, Fv3, A3, SF3, ne3, st3⟩ := W1.ldc hx (hw _ (List.mem_of_getElem? (i := 79) rfl)) own_wS hEL (by decide) (vs := []) (z := (0 : Int32)) (by decide) (by decide) (by decide) (g := (mkF m 9 #[.val (.ref x0), .val (.ref b0), .val (.int (0 : Int32)), .val (.int (0 : Int32)), .val .null, .unset] [(.ref x0)])) rfl (hb hby dd_jdk_42_method_149_code_9) (n := 0) (by decide) (by decide) (by decide) (by decide)
  have z3 := E3.1
  have zl3 : h3.size > a3 := X3.lt
  have zm3 : h3.size > b3 := A3.lt
  have F4 : Safe Z consts_1 vm3 h3 x0 := (SF3 _ (by omega) S2)
  have nn3_x0 := own_nn (ne3 _ F4).1
  have nm3_x0 := own_nn (ne3 _ F4).2
  refine Go.st (g' := (mkF m 11 #[.val (.ref x0), .val (.ref b0), .val (.int (0 : Int32)), .val (.int (0 : Int32)), .val .null, .unset] [(.ref a3), (.ref x0)])) st3 ?_
  obtain ⟨T5, W5, st5⟩ := W3.getF hx (hw _ (List.mem_of_getElem? (i := 27) rfl)) Via.refl Fv3 (g := (mkF m 11 #[.val (.ref x0), .val (.ref b0), .val (.int (0 : Int32)), .val (.int (0 : Int32)), .val .null, .unset] [(.ref a3), (.ref x0)])) rfl rfl (hb hby dd_jdk_42_method_149_code_11)
  refine Go.st (g' := (mkF m 14 #[.val (.ref x0), .val (.ref b0), .val (.int (0 : Int32)), .val (.int (0 : Int32)), .val .null, .unset] [(.ref b3), (.ref x0)])) st5 ?_
  have F7 : Fld Z h3 x0 "java/lang/String" "value" "[B" .null := (P1.ext E3)
  have F8 : Exa Z h3 x0 "java/lang/String" := (P0.ext E3)
  obtain ⟨T6, h6, W6, R6, z6, X6, SF6, st6⟩ := W5.putF hx (hw _ (List.mem_of_getElem? (i := 27) rfl)) Via.refl F7 F8 (Or.inr ⟨(hw _ (List.mem_of_getElem? (i := 28) rfl)), rfl, hnm⟩) (hw _ (List.mem_of_getElem? (i := 15) rfl)) (ty := (.array .byte)) (by decide) rfl rfl F4 (by omega) (g := (mkF m 14 #[.val (.ref x0), .val (.ref b0), .val (.int (0 : Int32)), .val (.int (0 : Int32)), .val .null, .unset] [(.ref b3), (.ref x0)])) rfl rfl (hb hby dd_jdk_42_method_149_code_14)
  refine Go.st (g' := (mkF m 17 #[.val (.ref x0), .val (.ref b0), .val (.int (0 : Int32)), .val (.int (0 : Int32)), .val .null, .unset] [])) st6 ?_
  refine Go.st (g' := (mkF m 18 #[.val (.ref x0), .val (.ref b0), .val (.int (0 : Int32)), .val (.int (0 : Int32)), .val .null, .unset] [(.ref x0)])) (fun _ k => XS.aloadN W6.here hx rfl (hb hby dd_jdk_42_method_149_code_17) rfl rfl  k) ?_
  obtain ⟨a9, vm9, T9, h9, b9, k9, W9, E9, X9, Fc9, Fv9, A9, SF9, ne9, st9⟩ := W6.ldc hx (hw _ (List.mem_of_getElem? (i := 79) rfl)) own_wS hEL (by decide) (vs := []) (z := (0 : Int32)) (by decide) (by decide) (by decide) (g := (mkF m 18 #[.val (.ref x0), .val (.ref b0), .val (.int (0 : Int32)), .val (.int (0 : Int32)), .val .null, .unset] [(.ref x0)])) rfl (hb hby dd_jdk_42_method_149_code_18) (n := 0) (by decide) (by decide) (by decide) (by decide)
  have z9 := E9.1
  have zl9 : h9.size > a9 := X9.lt
  have zm9 : h9.size > b9 := A9.lt
  have F10 : Safe Z consts_1 vm9 h9 x0 := (SF9 _ (by omega) (SF6 _ (by omega) F4))
  have nn9_x0 := own_nn (ne9 _ F10).1
  have nm9_x0 := own_nn (ne9 _ F10).2
  refine Go.st (g' := (mkF m 20 #[.val (.ref x0), .val (.ref b0), .val (.int (0 : Int32)), .val (.int (0 : Int32)), .val .null, .unset] [(.ref a9), (.ref x0)])) st9 ?_
  obtain ⟨T11, W11, st11⟩ := W9.getF hx (hw _ (List.mem_of_getElem? (i := 29) rfl)) Via.refl Fc9 (g := (mkF m 20 #[.val (.ref x0), .val (.ref b0), .val (.int (0 : Int32)), .val (.int (0 : Int32)), .val .null, .unset] [(.ref a9), (.ref x0)])) rfl rfl (hb hby dd_jdk_42_method_149_code_20)
  refine Go.st (g' := (mkF m 23 #[.val (.ref x0), .val (.ref b0), .val (.int (0 : Int32)), .val (.int (0 : Int32)), .val .null, .unset] [(.int (0 : Int32)), (.ref x0)])) st11 ?_
  have F13 : Fld Z h9 x0 "java/lang/String" "coder" "B" (.int (0 : Int32)) := (((P2.ext E3).other R6 (Or.inr (slot_ne (Or.inr (hw _ (List.mem_of_getElem? (i := 30) rfl))) (Or.inr (hw _ (List.mem_of_getElem? (i := 28) rfl))) (by decide) (t := .byte) (t' := (.array .byte)) (by decide) (by decide)))).ext E9)
  have F14 : Exa Z h9 x0 "java/lang/String" := ((F8.wr R6).ext E9)
  obtain ⟨T12, h12, W12, R12, z12, X12, SF12, st12⟩ := W11.putF hx (hw _ (List.mem_of_getElem? (i := 29) rfl)) Via.refl F13 F14 (Or.inr ⟨(hw _ (List.mem_of_getElem? (i := 30) rfl)), rfl, hnm⟩) (hw _ (List.mem_of_getElem? (i := 15) rfl)) (ty := .byte) (by decide) rfl rfl F10 (by omega) (g := (mkF m 23 #[.val (.ref x0), .val (.ref b0), .val (.int (0 : Int32)), .val (.int (0 : Int32)), .val .null, .unset] [(.int (0 : Int32)), (.ref x0)])) rfl rfl (hb hby dd_jdk_42_method_149_code_23)
  refine Go.st (g' := (mkF m 26 #[.val (.ref x0), .val (.ref b0), .val (.int (0 : Int32)), .val (.int (0 : Int32)), .val .null, .unset] [])) st12 ?_
  have F15 : Exa Z h12 x0 "java/lang/String" := (F14.wr R12)
  have F16 : Fld Z h12 x0 "java/lang/String" "value" "[B" (.ref b3) := ((X6.ext E9).other R12 (Or.inr (slot_ne (Or.inr (hw _ (List.mem_of_getElem? (i := 28) rfl))) (Or.inr (hw _ (List.mem_of_getElem? (i := 30) rfl))) (by decide) (t := (.array .byte)) (t' := .byte) (by decide) (by decide))))
  have F17 : Arv Z h12 b3 k3 .byte (0 : Int32) [] (.int (0 : Int32)) := (((A3.other R6 (own_ne (by omega))).ext E9).other R12 (own_ne (by omega)))
  have F18 : Str Z h12 x0 b3 [] := Str.lat F15 F16 X12 F17 rfl rfl own_all0 (Nat.le_of_ble_eq_true rfl)
  exact W12.retV hx hEL hlk hret (hb hby dd_jdk_42_method_149_code_26) (by decide) (by decide) ⟨b3, rfl, F18, (((((Keep.refl h0 [x0]).ext E3).wr R6 (Or.inl (List.mem_of_getElem? (i := 0) rfl))).ext E9).wr R12 (Or.inl (List.mem_of_getElem? (i := 0) rfl)))⟩
set_option maxRecDepth 65536 in
set_option maxHeartbeats 4000000 in
theorem own_init1E (l : Launch) {Z : State} {a0 : Array Value} (hE : Ctx Z a0) {n0 : Nat} {h0 : Heap} (O : Old Z n0 h0) {x0 : Addr} {b0 : Addr} {kb : ClassId} {vs0 : List Value} {d0 : Value} (hx0 : n0 ≤ x0) (P0 : Exa Z h0 x0 "java/lang/String") (P1 : Fld Z h0 x0 "java/lang/String" "value" "[B" .null) (P2 : Fld Z h0 x0 "java/lang/String" "coder" "B" (.int (0 : Int32))) (P3 : Arv Z h0 b0 kb .char (0 : Int32) vs0 d0) :
    Met l (⟨"java/lang/String", "<init>", "([C)V"⟩ : MethodName) jdk_42_method_3_code 2 (Option.none : Option Jvm.ClassFile.FieldType) ({ frames := 2, cells := 4, slots := 8, locals := 29 } : Room) Z consts_1 n0 [] #[(.ref x0), (.ref b0)] h0 (fun v h => ∃ (t : Addr), v = none ∧ Str Z h x0 t [] ∧ Keep h0 h [x0]) := by
  have hw := hE.1
  have hEL := own_EW hw
  have own_wS := own_stringAtoms hw
  refine Met.of (by first | (refine plainFor_of_name ?_; simp [plainName, overriddenIn]; done) | decide +kernel) O ?_
  intro p e s m below meth c T0 hx hby hml hret hlk hnm hh0 W0
  have z0 := W0.ge
  have yP0 : h0.size > x0 := P0.lt
  have yP3 : h0.size > b0 := P3.lt
  refine Go.st (g' := (mkF m 0 #[.val (.ref x0), .val (.ref b0)] [])) (fun _ k => castTop (by first | (simp [entryFrame, mkF, argsToLocals, maxLocals, own_catI, own_catJ, own_catD, own_catA, own_catN]; done) | rfl) k) ?_
  refine Go.st (g' := (mkF m 1 #[.val (.ref x0), .val (.ref b0)] [(.ref x0)])) (fun _ k => XS.aloadN W0.here hx rfl (hb hby dd_jdk_42_method_3_code_0) rfl rfl  k) ?_
  refine Go.st (g' := (mkF m 2 #[.val (.ref x0), .val (.ref b0)] [(.ref b0), (.ref x0)])) (fun _ k => XS.aloadN W0.here hx rfl (hb hby dd_jdk_42_method_3_code_1) rfl rfl  k) ?_
  refine Go.st (g' := (mkF m 3 #[.val (.ref x0), .val (.ref b0)] [(.int (0 : Int32)), (.ref b0), (.ref x0)])) (fun _ k => XS.iconst W0.here hx rfl (hb hby dd_jdk_42_method_3_code_2) k) ?_
  refine Go.st (g' := (mkF m 4 #[.val (.ref x0), .val (.ref b0)] [(.ref b0), (.int (0 : Int32)), (.ref b0), (.ref x0)])) (fun _ k => XS.aloadN W0.here hx rfl (hb hby dd_jdk_42_method_3_code_3) rfl rfl  k) ?_
  refine Go.st (g' := (mkF m 5 #[.val (.ref x0), .val (.ref b0)] [(.int (0 : Int32)), (.int (0 : Int32)), (.ref b0), (.ref x0)])) (W0.len hx P3 (g := (mkF m 4 #[.val (.ref x0), .val (.ref b0)] [(.ref b0), (.int (0 : Int32)), (.ref b0), (.ref x0)])) rfl rfl (hb hby dd_jdk_42_method_3_code_4)) ?_
  refine Go.st (g' := (mkF m 6 #[.val (.ref x0), .val (.ref b0)] [.null, (.int (0 : Int32)), (.int (0 : Int32)), (.ref b0), (.ref x0)])) (fun _ k => XS.aconstNull W0.here hx rfl (hb hby dd_jdk_42_method_3_code_5) k) ?_
  obtain ⟨_, vm1, T1, h1, W1, Q1, z1, SF1, st1⟩ := W0.callI hx hEL (own_init4E l hE W0.old (x0 := x0) (b0 := b0) (by omega) P0 P1 P2) rfl (hw _ (List.mem_of_getElem? (i := 66) rfl)) (hw _ (List.mem_of_getElem? (i := 67) rfl)) (hw _ (List.mem_of_getElem? (i := 7) rfl)) (hw _ (List.mem_of_getElem? (i := 68) rfl)) (by decide) (Wd := 0) (by decide) (by decide) (by decide) (by decide) (g := (mkF m 6 #[.val (.ref x0), .val (.ref b0)] [.null, (.int (0 : Int32)), (.int (0 : Int32)), (.ref b0), (.ref x0)])) rfl (by rw [hml]; rfl) (a := x0) (argsL := [(.ref b0), (.int (0 : Int32)), (.int (0 : Int32)), .null]) (rest := []) rfl (lenOf pd___CIILjava_lang_Void__V rfl) rfl (by show 2 * 0 + _ ≤ _; exact Nat.le_of_eq rfl) (hb hby dd_jdk_42_method_3_code_6)
  obtain ⟨t_1, rfl, f1_0, K1⟩ := Q1
  have yf1_0 : h1.size > x0 ∧ h1.size > t_1 := f1_0.lt
  refine Go.tr (g' := (mkF m 9 #[.val (.ref x0), .val (.ref b0)] [])) st1 ?_
  exact W1.retV hx hEL hlk hret (hb hby dd_jdk_42_method_3_code_9) (by decide) (by decide) ⟨t_1, rfl, f1_0, ((Keep.refl h0 [x0]).trans K1 (allS (Or.inl (List.mem_of_getElem? (i := 0) rfl)) all0))⟩
set_option maxRecDepth 65536 in
set_option maxHeartbeats 4000000 in
theorem own_makeL0 (l : Launch) {Z : State} {a0 : Array Value} (hE : Ctx Z a0) {n0 : Nat} {h0 : Heap} (O : Old Z n0 h0) {c1 : Int32} {c2 : Int32} {c3 : Int32} (hc1 : Chr c1) (hc2 : Chr c2) (hc3 : Chr c3)  :
    Met l (⟨"com/example/ontoloom/ontoloom/sql/IriIsDataErrorPinLaw", "make", "(ICCC)Ljava/lang/String;"⟩ : MethodName) method_3_code 4 (Option.some (Jvm.ClassFile.FieldType.object "java/lang/String")) ({ frames := 3, cells := 6, slots := 12, locals := 43 } : Room) Z consts_1 n0 [] #[(.int (0 : Int32)), (.int c1), (.int c2), (.int c3)] h0 (fun v h => ∃ (x : Addr), ∃ (t : Addr), v = some (.ref x) ∧ h0.size ≤ x ∧ Str Z h x t [] ∧ Keep h0 h []) := by
  have hw := hE.1
  have hEL := own_EW hw
  have own_wS := own_stringAtoms hw
  obtain ⟨zc, hzc, hzc0⟩ := hE.2.1
  have hws : ∀ d ∈ StrChars.Road.words, d.before a0 Z = true := fun d hd => hw d ((by decide +kernel : ∀ d ∈ StrChars.Road.words, d ∈ tables_1) d hd)
  refine Met.of (by first | (refine plainFor_of_name ?_; simp [plainName, overriddenIn]; done) | decide +kernel) O ?_
  intro p e s m below meth c T0 hx hby hml hret hlk hnm hh0 W0
  have z0 := W0.ge
  refine Go.st (g' := (mkF m 0 #[.val (.int (0 : Int32)), .val (.int c1), .val (.int c2), .val (.int c3)] [])) (fun _ k => castTop (by first | (simp [entryFrame, mkF, argsToLocals, maxLocals, own_catI, own_catJ, own_catD, own_catA, own_catN]; done) | rfl) k) ?_
  refine Go.st (g' := (mkF m 1 #[.val (.int (0 : Int32)), .val (.int c1), .val (.int c2), .val (.int c3)] [(.int (0 : Int32))])) (fun _ k => XS.iloadN W0.here hx rfl (hb hby dd_method_3_code_0) rfl  k) ?_
  refine Go.st (g' := (mkF m 4 #[.val (.int (0 : Int32)), .val (.int c1), .val (.int c2), .val (.int c3)] [])) (fun _ k => XS.ifNo W0.here hx rfl (hb hby dd_method_3_code_1) rfl ((if0 _ _).trans (teq (by decide)).2) k) ?_
  obtain ⟨T1, h1, a1, g1, W1, E1, z1, X1, D1, S1, SF1, U1, st1⟩ := W0.newO hx (hw _ (List.mem_of_getElem? (i := 61) rfl)) (hw _ (List.mem_of_getElem? (i := 15) rfl)) (hw _ (List.mem_of_getElem? (i := 7) rfl)) (g := (mkF m 4 #[.val (.int (0 : Int32)), .val (.int c1), .val (.int c2), .val (.int c3)] [])) rfl (hb hby dd_method_3_code_4) (by decide) (by decide)
  have F2 : Fld Z h1 a1 "java/lang/String" "value" "[B" .null := D1 (Or.inr (hw _ (List.mem_of_getElem? (i := 28) rfl))) (ty := (.array .byte)) (by decide)
  have F3 : Fld Z h1 a1 "java/lang/String" "coder" "B" (.int (0 : Int32)) := D1 (Or.inr (hw _ (List.mem_of_getElem? (i := 30) rfl))) (ty := .byte) (by decide)
  refine Go.st (g' := (mkF m 7 #[.val (.int (0 : Int32)), .val (.int c1), .val (.int c2), .val (.int c3)] [(.ref a1)])) st1 ?_
  refine Go.st (g' := (mkF m 8 #[.val (.int (0 : Int32)), .val (.int c1), .val (.int c2), .val (.int c3)] [(.ref a1), (.ref a1)])) (fun _ k => XS.dup W1.here hx rfl (hb hby dd_method_3_code_7) rfl rfl k) ?_
  refine Go.st (g' := (mkF m 9 #[.val (.int (0 : Int32)), .val (.int c1), .val (.int c2), .val (.int c3)] [(.int (0 : Int32)), (.ref a1), (.ref a1)])) (fun _ k => XS.iconst W1.here hx rfl (hb hby dd_method_3_code_8) k) ?_
  obtain ⟨T4, h4, a4, k4, g4, W4, E4, z4, X4, S4, SF4, st4⟩ := W1.newP hx (ty := .char) rfl (hw _ (List.mem_of_getElem? (i := 62) rfl)) (g := (mkF m 9 #[.val (.int (0 : Int32)), .val (.int c1), .val (.int c2), .val (.int c3)] [(.int (0 : Int32)), (.ref a1), (.ref a1)])) rfl (hb hby dd_method_3_code_9) rfl (by decide) (cap := 0) (by decide) (by decide) (by decide) (by decide) 0
  have F5 : Arv Z h4 a4 k4 .char (0 : Int32) [] (.int (0 : Int32)) := X4
  refine Go.st (g' := (mkF m 11 #[.val (.int (0 : Int32)), .val (.int c1), .val (.int c2), .val (.int c3)] [(.ref a4), (.ref a1), (.ref a1)])) st4 ?_
  have F7 : Exa Z h4 a1 "java/lang/String" := (X1.ext E4)
  have F8 : Fld Z h4 a1 "java/lang/String" "value" "[B" .null := (F2.ext E4)
  have F9 : Fld Z h4 a1 "java/lang/String" "coder" "B" (.int (0 : Int32)) := (F3.ext E4)
  obtain ⟨_, vm6, T6, h6, W6, Q6, z6, SF6, st6⟩ := W4.callI hx hEL (own_init1E l hE W4.old (x0 := a1) (b0 := a4) (kb := k4) (vs0 := []) (d0 := (.int (0 : Int32))) (by omega) F7 F8 F9 F5) rfl (hw _ (List.mem_of_getElem? (i := 63) rfl)) (hw _ (List.mem_of_getElem? (i := 64) rfl)) (hw _ (List.mem_of_getElem? (i := 7) rfl)) (hw _ (List.mem_of_getElem? (i := 65) rfl)) (by decide) (Wd := 1) (by decide) (by decide) (by decide) (by decide) (g := (mkF m 11 #[.val (.int (0 : Int32)), .val (.int c1), .val (.int c2), .val (.int c3)] [(.ref a4), (.ref a1), (.ref a1)])) rfl (by rw [hml]; rfl) (a := a1) (argsL := [(.ref a4)]) (rest := [(.ref a1)]) rfl (lenOf pd___C_V rfl) rfl (by show 2 * 0 + _ ≤ _; exact Nat.le_of_eq rfl) (hb hby dd_method_3_code_11)
  obtain ⟨t_6, rfl, f6_0, K6⟩ := Q6
  have yf6_0 : h6.size > a1 ∧ h6.size > t_6 := f6_0.lt
  refine Go.tr (g' := (mkF m 14 #[.val (.int (0 : Int32)), .val (.int c1), .val (.int c2), .val (.int c3)] [(.ref a1)])) st6 ?_
  exact W6.retA hx hEL hlk hret rfl rfl rfl (hb hby dd_method_3_code_14) (by decide) (by decide) ⟨a1, t_6, rfl, (by omega), f6_0, ((((Keep.refl h0 []).ext E1).ext E4).trans K6 (allS (Or.inr (by omega)) all0))⟩
set_option maxRecDepth 65536 in
set_option maxHeartbeats 4000000 in
theorem own_makeL1 (l : Launch) {Z : State} {a0 : Array Value} (hE : Ctx Z a0) {n0 : Nat} {h0 : Heap} (O : Old Z n0 h0) {c1 : Int32} {c2 : Int32} {c3 : Int32} (hc1 : Chr c1) (hc2 : Chr c2) (hc3 : Chr c3) (hl1 : ¬ c1 < 0 ∧ ¬ (255 : Int32) < c1)  :
    Met l (⟨"com/example/ontoloom/ontoloom/sql/IriIsDataErrorPinLaw", "make", "(ICCC)Ljava/lang/String;"⟩ : MethodName) method_3_code 4 (Option.some (Jvm.ClassFile.FieldType.object "java/lang/String")) ({ frames := 3, cells := 2, slots := 5, locals := 39 } : Room) Z consts_1 n0 [] #[(.int (1 : Int32)), (.int c1), (.int c2), (.int c3)] h0 (fun v h => ∃ (x : Addr), ∃ (t : Addr), v = some (.ref x) ∧ h0.size ≤ x ∧ Str Z h x t [c1] ∧ Keep h0 h []) := by
  have hw := hE.1
  have hEL := own_EW hw
  have own_wS := own_stringAtoms hw
  obtain ⟨zc, hzc, hzc0⟩ := hE.2.1
  have hws : ∀ d ∈ StrChars.Road.words, d.before a0 Z = true := fun d hd => hw d ((by decide +kernel : ∀ d ∈ StrChars.Road.words, d ∈ tables_1) d hd)
  refine Met.of (by first | (refine plainFor_of_name ?_; simp [plainName, overriddenIn]; done) | decide +kernel) O ?_
  intro p e s m below meth c T0 hx hby hml hret hlk hnm hh0 W0
  have z0 := W0.ge
  refine Go.st (g' := (mkF m 0 #[.val (.int (1 : Int32)), .val (.int c1), .val (.int c2), .val (.int c3)] [])) (fun _ k => castTop (by first | (simp [entryFrame, mkF, argsToLocals, maxLocals, own_catI, own_catJ, own_catD, own_catA, own_catN]; done) | rfl) k) ?_
  refine Go.st (g' := (mkF m 1 #[.val (.int (1 : Int32)), .val (.int c1), .val (.int c2), .val (.int c3)] [(.int (1 : Int32))])) (fun _ k => XS.iloadN W0.here hx rfl (hb hby dd_method_3_code_0) rfl  k) ?_
  refine Go.st (g' := (mkF m 15 #[.val (.int (1 : Int32)), .val (.int c1), .val (.int c2), .val (.int c3)] [])) (fun _ k => XS.ifYes W0.here hx rfl (pc0 := 1) (pc' := 15) rfl (hb hby dd_method_3_code_1) rfl ((if0 _ _).trans (feq (by decide)).2) (by decide) (by decide) k) ?_
  refine Go.st (g' := (mkF m 16 #[.val (.int (1 : Int32)), .val (.int c1), .val (.int c2), .val (.int c3)] [(.int (1 : Int32))])) (fun _ k => XS.iloadN W0.here hx rfl (hb hby dd_method_3_code_15) rfl  k) ?_
  refine Go.st (g' := (mkF m 17 #[.val (.int (1 : Int32)), .val (.int c1), .val (.int c2), .val (.int c3)] [(.int (1 : Int32)), (.int (1 : Int32))])) (fun _ k => XS.iconst W0.here hx rfl (hb hby dd_method_3_code_16) k) ?_
  refine Go.st (g' := (mkF m 20 #[.val (.int (1 : Int32)), .val (.int c1), .val (.int c2), .val (.int c3)] [])) (fun _ k => XS.icmpNo W0.here hx rfl (hb hby dd_method_3_code_17) rfl (teq (by decide)).2 k) ?_
  refine Go.st (g' := (mkF m 21 #[.val (.int (1 : Int32)), .val (.int c1), .val (.int c2), .val (.int c3)] [(.int c1)])) (fun _ k => XS.iloadN W0.here hx rfl (hb hby dd_method_3_code_20) rfl  k) ?_
  obtain ⟨_, vm1, T1, h1, W1, Q1, z1, SF1, st1⟩ := W0.callS hx hEL (own_valueOf l hE W0.old (c0 := c1) hl1 ) (hw _ (List.mem_of_getElem? (i := 5) rfl)) (hw _ (List.mem_of_getElem? (i := 6) rfl)) (hw _ (List.mem_of_getElem? (i := 7) rfl)) (hw _ (List.mem_of_getElem? (i := 8) rfl)) (by decide) (Wd := 0) (by decide) (by decide) (by decide) (by decide) (g := (mkF m 21 #[.val (.int (1 : Int32)), .val (.int c1), .val (.int c2), .val (.int c3)] [(.int c1)])) rfl (by rw [hml]; rfl) (argsL := [(.int c1)]) (rest := []) rfl (lenOf pd__C_Ljava_lang_String_ rfl) rfl (by show 2 * 0 + _ ≤ _; exact Nat.le_of_eq rfl) (hb hby dd_method_3_code_21)
  obtain ⟨x_1, t_1, rfl, p1_0, p1_1, f1_0, K1⟩ := Q1
  have yf1_0 : h1.size > x_1 ∧ h1.size > t_1 := f1_0.lt
  refine Go.tr (g' := (mkF m 24 #[.val (.int (1 : Int32)), .val (.int c1), .val (.int c2), .val (.int c3)] [(.ref x_1)])) st1 ?_
  exact W1.retA hx hEL hlk hret rfl rfl rfl (hb hby dd_method_3_code_24) (by decide) (by decide) ⟨x_1, t_1, rfl, (by omega), f1_0, ((Keep.refl h0 []).trans K1 all0)⟩
set_option maxRecDepth 65536 in
set_option maxHeartbeats 4000000 in
theorem own_makeW1 (l : Launch) {Z : State} {a0 : Array Value} (hE : Ctx Z a0) {n0 : Nat} {h0 : Heap} (O : Old Z n0 h0) {c1 : Int32} {c2 : Int32} {c3 : Int32} (hc1 : Chr c1) (hc2 : Chr c2) (hc3 : Chr c3) (hww : (255 : Int32) < c1)  :
    Met l (⟨"com/example/ontoloom/ontoloom/sql/IriIsDataErrorPinLaw", "make", "(ICCC)Ljava/lang/String;"⟩ : MethodName) method_3_code 4 (Option.some (Jvm.ClassFile.FieldType.object "java/lang/String")) ({ frames := 3, cells := 2, slots := 6, locals := 41 } : Room) Z consts_1 n0 [] #[(.int (1 : Int32)), (.int c1), (.int c2), (.int c3)] h0 (fun v h => ∃ (x : Addr), ∃ (t : Addr), ∃ (kt : ClassId), v = some (.ref x) ∧ h0.size ≤ x ∧ Exa Z h x "java/lang/String" ∧ Fld Z h x "java/lang/String" "value" "[B" (.ref t) ∧ Fld Z h x "java/lang/String" "coder" "B" (.int (1 : Int32)) ∧ Arv Z h t kt .byte (2 : Int32) [(.int ((c1 >>> ((0 : Int32) &&& 31)).toInt8.toInt32)), (.int ((c1 >>> ((8 : Int32) &&& 31)).toInt8.toInt32))] (.int (0 : Int32)) ∧ Keep h0 h []) := by
  have hw := hE.1
  have hEL := own_EW hw
  have own_wS := own_stringAtoms hw
  refine Met.of (by first | (refine plainFor_of_name ?_; simp [plainName, overriddenIn]; done) | decide +kernel) O ?_
  intro p e s m below meth c T0 hx hby hml hret hlk hnm hh0 W0
  have z0 := W0.ge
  refine Go.st (g' := (mkF m 0 #[.val (.int (1 : Int32)), .val (.int c1), .val (.int c2), .val (.int c3)] [])) (fun _ k => castTop (by first | (simp [entryFrame, mkF, argsToLocals, maxLocals, own_catI, own_catJ, own_catD, own_catA, own_catN]; done) | rfl) k) ?_
  refine Go.st (g' := (mkF m 1 #[.val (.int (1 : Int32)), .val (.int c1), .val (.int c2), .val (.int c3)] [(.int (1 : Int32))])) (fun _ k => XS.iloadN W0.here hx rfl (hb hby dd_method_3_code_0) rfl  k) ?_
  refine Go.st (g' := (mkF m 15 #[.val (.int (1 : Int32)), .val (.int c1), .val (.int c2), .val (.int c3)] [])) (fun _ k => XS.ifYes W0.here hx rfl (pc0 := 1) (pc' := 15) rfl (hb hby dd_method_3_code_1) rfl ((if0 _ _).trans (feq (by decide)).2) (by decide) (by decide) k) ?_
  refine Go.st (g' := (mkF m 16 #[.val (.int (1 : Int32)), .val (.int c1), .val (.int c2), .val (.int c3)] [(.int (1 : Int32))])) (fun _ k => XS.iloadN W0.here hx rfl (hb hby dd_method_3_code_15) rfl  k) ?_
  refine Go.st (g' := (mkF m 17 #[.val (.int (1 : Int32)), .val (.int c1), .val (.int c2), .val (.int c3)] [(.int (1 : Int32)), (.int (1 : Int32))])) (fun _ k => XS.iconst W0.here hx rfl (hb hby dd_method_3_code_16) k) ?_
  refine Go.st (g' := (mkF m 20 #[.val (.int (1 : Int32)), .val (.int c1), .val (.int c2), .val (.int c3)] [])) (fun _ k => XS.icmpNo W0.here hx rfl (hb hby dd_method_3_code_17) rfl (teq (by decide)).2 k) ?_
  refine Go.st (g' := (mkF m 21 #[.val (.int (1 : Int32)), .val (.int c1), .val (.int c2), .val (.int c3)] [(.int c1)])) (fun _ k => XS.iloadN W0.here hx rfl (hb hby dd_method_3_code_20) rfl  k) ?_
  obtain ⟨_, vm1, T1, h1, W1, Q1, z1, SF1, st1⟩ := W0.callS hx hEL (own_valueOfW l hE W0.old (c0 := c1) hww ) (hw _ (List.mem_of_getElem? (i := 5) rfl)) (hw _ (List.mem_of_getElem? (i := 6) rfl)) (hw _ (List.mem_of_getElem? (i := 7) rfl)) (hw _ (List.mem_of_getElem? (i := 8) rfl)) (by decide) (Wd := 0) (by decide) (by decide) (by decide) (by decide) (g := (mkF m 21 #[.val (.int (1 : Int32)), .val (.int c1), .val (.int c2), .val (.int c3)] [(.int c1)])) rfl (by rw [hml]; rfl) (argsL := [(.int c1)]) (rest := []) rfl (lenOf pd__C_Ljava_lang_String_ rfl) rfl (by show 2 * 0 + _ ≤ _; exact Nat.le_of_eq rfl) (hb hby dd_method_3_code_21)
  obtain ⟨x_1, t_1, kt_1, rfl, p1_0, p1_1, f1_0, f1_1, f1_2, f1_3, K1⟩ := Q1
  have yf1_0 : h1.size > x_1 := f1_0.lt
  have yf1_3 : h1.size > t_1 := f1_3.lt
  refine Go.tr (g' := (mkF m 24 #[.val (.int (1 : Int32)), .val (.int c1), .val (.int c2), .val (.int c3)] [(.ref x_1)])) st1 ?_
  exact W1.retA hx hEL hlk hret rfl rfl rfl (hb hby dd_method_3_code_24) (by decide) (by decide) ⟨x_1, t_1, kt_1, rfl, (by omega), f1_0, f1_1, f1_2, f1_3, ((Keep.refl h0 []).trans K1 all0)⟩
set_option maxRecDepth 65536 in
set_option maxHeartbeats 4000000 in
theorem own_makeL2 (l : Launch) {Z : State} {a0 : Array Value} (hE : Ctx Z a0) {n0 : Nat} {h0 : Heap} (O : Old Z n0 h0) {c1 : Int32} {c2 : Int32} {c3 : Int32} (hc1 : Chr c1) (hc2 : Chr c2) (hc3 : Chr c3) (hl1 : ¬ c1 < 0 ∧ ¬ (255 : Int32) < c1) (hl2 : ¬ c2 < 0 ∧ ¬ (255 : Int32) < c2)  :
    Met l (⟨"com/example/ontoloom/ontoloom/sql/IriIsDataErrorPinLaw", "make", "(ICCC)Ljava/lang/String;"⟩ : MethodName) method_3_code 4 (Option.some (Jvm.ClassFile.FieldType.object "java/lang/String")) ({ frames := 4, cells := 3, slots := 8, locals := 66 } : Room) Z consts_1 n0 [] #[(.int (2 : Int32)), (.int c1), (.int c2), (.int c3)] h0 (fun v h => ∃ (x : Addr), ∃ (t : Addr), v = some (.ref x) ∧ h0.size ≤ x ∧ Str Z h x t [c1, c2] ∧ Keep h0 h []) := by
  have hw := hE.1
  have hEL := own_EW hw
  have own_wS := own_stringAtoms hw
  obtain ⟨zc, hzc, hzc0⟩ := hE.2.1
  have hws : ∀ d ∈ StrChars.Road.words, d.before a0 Z = true := fun d hd => hw d ((by decide +kernel : ∀ d ∈ StrChars.Road.words, d ∈ tables_1) d hd)
  refine Met.of (by first | (refine plainFor_of_name ?_; simp [plainName, overriddenIn]; done) | decide +kernel) O ?_
  intro p e s m below meth c T0 hx hby hml hret hlk hnm hh0 W0
  have z0 := W0.ge
  refine Go.st (g' := (mkF m 0 #[.val (.int (2 : Int32)), .val (.int c1), .val (.int c2), .val (.int c3)] [])) (fun _ k => castTop (by first | (simp [entryFrame, mkF, argsToLocals, maxLocals, own_catI, own_catJ, own_catD, own_catA, own_catN]; done) | rfl) k) ?_
  refine Go.st (g' := (mkF m 1 #[.val (.int (2 : Int32)), .val (.int c1), .val (.int c2), .val (.int c3)] [(.int (2 : Int32))])) (fun _ k => XS.iloadN W0.here hx rfl (hb hby dd_method_3_code_0) rfl  k) ?_
  refine Go.st (g' := (mkF m 15 #[.val (.int (2 : Int32)), .val (.int c1), .val (.int c2), .val (.int c3)] [])) (fun _ k => XS.ifYes W0.here hx rfl (pc0 := 1) (pc' := 15) rfl (hb hby dd_method_3_code_1) rfl ((if0 _ _).trans (feq (by decide)).2) (by decide) (by decide) k) ?_
  refine Go.st (g' := (mkF m 16 #[.val (.int (2 : Int32)), .val (.int c1), .val (.int c2), .val (.int c3)] [(.int (2 : Int32))])) (fun _ k => XS.iloadN W0.here hx rfl (hb hby dd_method_3_code_15) rfl  k) ?_
  refine Go.st (g' := (mkF m 17 #[.val (.int (2 : Int32)), .val (.int c1), .val (.int c2), .val (.int c3)] [(.int (1 : Int32)), (.int (2 : Int32))])) (fun _ k => XS.iconst W0.here hx rfl (hb hby dd_method_3_code_16) k) ?_
  refine Go.st (g' := (mkF m 25 #[.val (.int (2 : Int32)), .val (.int c1), .val (.int c2), .val (.int c3)] [])) (fun _ k => XS.icmpYes W0.here hx rfl (pc0 := 17) (pc' := 25) rfl (hb hby dd_method_3_code_17) rfl (feq (by decide)).2 (by decide) (by decide) k) ?_
  refine Go.st (g' := (mkF m 26 #[.val (.int (2 : Int32)), .val (.int c1), .val (.int c2), .val (.int c3)] [(.int (2 : Int32))])) (fun _ k => XS.iloadN W0.here hx rfl (hb hby dd_method_3_code_25) rfl  k) ?_
  refine Go.st (g' := (mkF m 27 #[.val (.int (2 : Int32)), .val (.int c1), .val (.int c2), .val (.int c3)] [(.int (2 : Int32)), (.int (2 : Int32))])) (fun _ k => XS.iconst W0.here hx rfl (hb hby dd_method_3_code_26) k) ?_
  refine Go.st (g' := (mkF m 30 #[.val (.int (2 : Int32)), .val (.int c1), .val (.int c2), .val (.int c3)] [])) (fun _ k => XS.icmpNo W0.here hx rfl (hb hby dd_method_3_code_27) rfl (teq (by decide)).2 k) ?_
  obtain ⟨T1, h1, a1, g1, W1, E1, z1, X1, D1, S1, SF1, U1, st1⟩ := W0.newO hx (hw _ (List.mem_of_getElem? (i := 61) rfl)) (hw _ (List.mem_of_getElem? (i := 15) rfl)) (hw _ (List.mem_of_getElem? (i := 7) rfl)) (g := (mkF m 30 #[.val (.int (2 : Int32)), .val (.int c1), .val (.int c2), .val (.int c3)] [])) rfl (hb hby dd_method_3_code_30) (by decide) (by decide)
  have F2 : Fld Z h1 a1 "java/lang/String" "value" "[B" .null := D1 (Or.inr (hw _ (List.mem_of_getElem? (i := 28) rfl))) (ty := (.array .byte)) (by decide)
  have F3 : Fld Z h1 a1 "java/lang/String" "coder" "B" (.int (0 : Int32)) := D1 (Or.inr (hw _ (List.mem_of_getElem? (i := 30) rfl))) (ty := .byte) (by decide)
  refine Go.st (g' := (mkF m 33 #[.val (.int (2 : Int32)), .val (.int c1), .val (.int c2), .val (.int c3)] [(.ref a1)])) st1 ?_
  refine Go.st (g' := (mkF m 34 #[.val (.int (2 : Int32)), .val (.int c1), .val (.int c2), .val (.int c3)] [(.ref a1), (.ref a1)])) (fun _ k => XS.dup W1.here hx rfl (hb hby dd_method_3_code_33) rfl rfl k) ?_
  refine Go.st (g' := (mkF m 35 #[.val (.int (2 : Int32)), .val (.int c1), .val (.int c2), .val (.int c3)] [(.int (2 : Int32)), (.ref a1), (.ref a1)])) (fun _ k => XS.iconst W1.here hx rfl (hb hby dd_method_3_code_34) k) ?_
  obtain ⟨T4, h4, a4, k4, g4, W4, E4, z4, X4, S4, SF4, st4⟩ := W1.newP hx (ty := .char) rfl (hw _ (List.mem_of_getElem? (i := 62) rfl)) (g := (mkF m 35 #[.val (.int (2 : Int32)), .val (.int c1), .val (.int c2), .val (.int c3)] [(.int (2 : Int32)), (.ref a1), (.ref a1)])) rfl (hb hby dd_method_3_code_35) rfl (by decide) (cap := 2) (by decide) (by decide) (by decide) (by decide) 2
  have F5 : Arv Z h4 a4 k4 .char (2 : Int32) [(.int (0 : Int32)), (.int (0 : Int32))] (.int (0 : Int32)) := X4
  refine Go.st (g' := (mkF m 37 #[.val (.int (2 : Int32)), .val (.int c1), .val (.int c2), .val (.int c3)] [(.ref a4), (.ref a1), (.ref a1)])) st4 ?_
  refine Go.st (g' := (mkF m 38 #[.val (.int (2 : Int32)), .val (.int c1), .val (.int c2), .val (.int c3)] [(.ref a4), (.ref a4), (.ref a1), (.ref a1)])) (fun _ k => XS.dup W4.here hx rfl (hb hby dd_method_3_code_37) rfl rfl k) ?_
  refine Go.st (g' := (mkF m 39 #[.val (.int (2 : Int32)), .val (.int c1), .val (.int c2), .val (.int c3)] [(.int (0 : Int32)), (.ref a4), (.ref a4), (.ref a1), (.ref a1)])) (fun _ k => XS.iconst W4.here hx rfl (hb hby dd_method_3_code_38) k) ?_
  refine Go.st (g' := (mkF m 40 #[.val (.int (2 : Int32)), .val (.int c1), .val (.int c2), .val (.int c3)] [(.int c1), (.int (0 : Int32)), (.ref a4), (.ref a4), (.ref a1), (.ref a1)])) (fun _ k => XS.iloadN W4.here hx rfl (hb hby dd_method_3_code_39) rfl  k) ?_
  obtain ⟨T6, h6, W6, R6, z6, X6, SF6, st6⟩ := W4.stC hx F5  ⟨by decide, by decide⟩ 0 rfl (Nat.le_of_ble_eq_true rfl) (by omega) (g := (mkF m 40 #[.val (.int (2 : Int32)), .val (.int c1), .val (.int c2), .val (.int c3)] [(.int c1), (.int (0 : Int32)), (.ref a4), (.ref a4), (.ref a1), (.ref a1)])) rfl rfl (hb hby dd_method_3_code_40)
  have F7 : Arv Z h6 a4 k4 .char (2 : Int32) [(.int c1), (.int (0 : Int32))] (.int (0 : Int32)) := (by have q := X6; rw [show nar .char c1 = c1 from own_narC hc1] at q; exact q)
  refine Go.st (g' := (mkF m 41 #[.val (.int (2 : Int32)), .val (.int c1), .val (.int c2), .val (.int c3)] [(.ref a4), (.ref a1), (.ref a1)])) st6 ?_
  refine Go.st (g' := (mkF m 42 #[.val (.int (2 : Int32)), .val (.int c1), .val (.int c2), .val (.int c3)] [(.ref a4), (.ref a4), (.ref a1), (.ref a1)])) (fun _ k => XS.dup W6.here hx rfl (hb hby dd_method_3_code_41) rfl rfl k) ?_
  refine Go.st (g' := (mkF m 43 #[.val (.int (2 : Int32)), .val (.int c1), .val (.int c2), .val (.int c3)] [(.int (1 : Int32)), (.ref a4), (.ref a4), (.ref a1), (.ref a1)])) (fun _ k => XS.iconst W6.here hx rfl (hb hby dd_method_3_code_42) k) ?_
  refine Go.st (g' := (mkF m 44 #[.val (.int (2 : Int32)), .val (.int c1), .val (.int c2), .val (.int c3)] [(.int c2), (.int (1 : Int32)), (.ref a4), (.ref a4), (.ref a1), (.ref a1)])) (fun _ k => XS.iloadN W6.here hx rfl (hb hby dd_method_3_code_43) rfl  k) ?_
  obtain ⟨T8, h8, W8, R8, z8, X8, SF8, st8⟩ := W6.stC hx F7  ⟨by decide, by decide⟩ 1 rfl (Nat.le_of_ble_eq_true rfl) (by omega) (g := (mkF m 44 #[.val (.int (2 : Int32)), .val (.int c1), .val (.int c2), .val (.int c3)] [(.int c2), (.int (1 : Int32)), (.ref a4), (.ref a4), (.ref a1), (.ref a1)])) rfl rfl (hb hby dd_method_3_code_44)
  have F9 : Arv Z h8 a4 k4 .char (2 : Int32) [(.int c1), (.int c2)] (.int (0 : Int32)) := (by have q := X8; rw [show nar .char c2 = c2 from own_narC hc2] at q; exact q)
  refine Go.st (g' := (mkF m 45 #[.val (.int (2 : Int32)), .val (.int c1), .val (.int c2), .val (.int c3)] [(.ref a4), (.ref a1), (.ref a1)])) st8 ?_
  have F10 : Exa Z h8 a1 "java/lang/String" := (((X1.ext E4).wr R6).wr R8)
  have F11 : Fld Z h8 a1 "java/lang/String" "value" "[B" .null := (((F2.ext E4).other R6 (Or.inl (own_ne (by omega)))).other R8 (Or.inl (own_ne (by omega))))
  have F12 : Fld Z h8 a1 "java/lang/String" "coder" "B" (.int (0 : Int32)) := (((F3.ext E4).other R6 (Or.inl (own_ne (by omega)))).other R8 (Or.inl (own_ne (by omega))))
  have F13 : Safe Z consts_1 s.vm h8 a1 := (SF8 _ (by omega) (SF6 _ (by omega) (SF4 _ (by omega) S1)))
  have hp14 : ∀ c ∈ ([c1, c2] : List Int32), ¬ c < 0 ∧ ¬ (255 : Int32) < c := (own_allS hl1 (own_allS hl2 own_all0))
  obtain ⟨_, T14, h14, L14, W14, Q14, z14, SF14, st14⟩ := W8.paySp hx rfl (hw _ (List.mem_of_getElem? (i := 63) rfl)) (hw _ (List.mem_of_getElem? (i := 64) rfl)) (hw _ (List.mem_of_getElem? (i := 65) rfl)) (by decide) (Wd := 1) (ws := [a1]) (StrChars.Road.backV (W := 1) W8.warmS hws (kI := 4) (hw _ (List.mem_of_getElem? (i := 15) rfl)) (cs := ([c1, c2] : List Int32)) (bs := ([c1, c2] : List Int32).map (fun c => c.toInt8.toInt32)) (n := 2) (n0 := n0) (by omega) W8.ge F10 F11 F12 F9 (W8.sta hzc) hzc0 rfl rfl (by decide) (by decide) hp14 rfl (by decide) (by decide)) (fun v h' L q => ⟨q.2.2.1, q.2.1⟩) (allS F13 all0) (allS (by omega) all0) (by decide) (by decide) (g := (mkF m 45 #[.val (.int (2 : Int32)), .val (.int c1), .val (.int c2), .val (.int c3)] [(.ref a4), (.ref a1), (.ref a1)])) rfl (by rw [hml]; rfl) (a := a1) (argsL := [(.ref a4)]) (rest := [(.ref a1)]) rfl (lenOf pd___C_V rfl) rfl (by show 2 * 0 + _ ≤ _; exact Nat.le_of_eq rfl) (hb hby dd_method_3_code_45)
  obtain ⟨rfl, -, K14, X14, C14, t14, k14, -, y14, u14, V14, A14⟩ := Q14
  have ya14 : h14.size > t14 := A14.lt
  have F14 : Str Z h14 a1 t14 [c1, c2] := Str.lat X14 V14 C14 A14 rfl rfl hp14 (Nat.le_of_ble_eq_true rfl)
  refine Go.tr (g' := (mkF m 48 #[.val (.int (2 : Int32)), .val (.int c1), .val (.int c2), .val (.int c3)] [(.ref a1)])) st14 ?_
  exact W14.retA hx hEL hlk hret rfl rfl rfl (hb hby dd_method_3_code_48) (by decide) (by decide) ⟨a1, t14, rfl, (by omega), F14, ((((((Keep.refl h0 []).ext E1).ext E4).wr R6 (Or.inr (by omega))).wr R8 (Or.inr (by omega))).trans K14 (allS (Or.inr (by omega)) all0))⟩
set_option maxRecDepth 65536 in
set_option maxHeartbeats 4000000 in
theorem own_cfal2 (l : Launch) {Z : State} {a0 : Array Value} (hE : Ctx Z a0) {n0 : Nat} {h0 : Heap} (O : Old Z n0 h0) {b0 : Addr} {kb : ClassId} {vs0 : List Value} {dd : Value}  (P0 : Arv Z h0 b0 kb .byte (4 : Int32) vs0 dd) :
    Met l (⟨"java/lang/StringUTF16", "coderFromArrayLen", "([BI)B"⟩ : MethodName) jdk_52_method_15_code 2 (Option.some Jvm.ClassFile.FieldType.byte) ({ frames := 0, cells := 0, slots := 0, locals := 0 } : Room) Z consts_1 n0 [] #[(.ref b0), (.int (2 : Int32))] h0 (fun v h => v = some (.int (1 : Int32)) ∧ h0 = h) := by
  have hw := hE.1
  have hEL := own_EW hw
  have own_wS := own_stringAtoms hw
  have hE1 := own_E1 hw
  refine Met.of (by first | (refine plainFor_of_name ?_; simp [plainName, overriddenIn]; done) | decide +kernel) O ?_
  intro p e s m below meth c T0 hx hby hml hret hlk hnm hh0 W0
  have z0 := W0.ge
  have yP0 : h0.size > b0 := P0.lt
  refine Go.st (g' := (mkF m 0 #[.val (.ref b0), .val (.int (2 : Int32))] [])) (fun _ k => castTop (by first | (simp [entryFrame, mkF, argsToLocals, maxLocals, own_catI, own_catJ, own_catD, own_catA, own_catN]; done) | rfl) k) ?_
  refine Go.st (g' := (mkF m 1 #[.val (.ref b0), .val (.int (2 : Int32))] [(.int (2 : Int32))])) (fun _ k => XS.iloadN W0.here hx rfl (hb hby dd_jdk_52_method_15_code_0) rfl  k) ?_
  refine Go.st (g' := (mkF m 2 #[.val (.ref b0), .val (.int (2 : Int32))] [(.ref b0), (.int (2 : Int32))])) (fun _ k => XS.aloadN W0.here hx rfl (hb hby dd_jdk_52_method_15_code_1) rfl rfl  k) ?_
  refine Go.st (g' := (mkF m 3 #[.val (.ref b0), .val (.int (2 : Int32))] [(.int (4 : Int32)), (.int (2 : Int32))])) (W0.len hx P0 (g := (mkF m 2 #[.val (.ref b0), .val (.int (2 : Int32))] [(.ref b0), (.int (2 : Int32))])) rfl rfl (hb hby dd_jdk_52_method_15_code_2)) ?_
  refine Go.st (g' := (mkF m 4 #[.val (.ref b0), .val (.int (2 : Int32))] [(.int (-2 : Int32))])) (fun _ k => XS.isub W0.here hx rfl (hb hby dd_jdk_52_method_15_code_3) rfl k) ?_
  refine Go.st (g' := (mkF m 6 #[.val (.ref b0), .val (.int (2 : Int32))] [(.int (31 : Int32)), (.int (-2 : Int32))])) (fun _ k => XS.bipush W0.here hx rfl (hb hby dd_jdk_52_method_15_code_4) k) ?_
  refine Go.st (g' := (mkF m 7 #[.val (.ref b0), .val (.int (2 : Int32))] [(.int (1 : Int32))])) (fun _ k => XS.iushr W0.here hx rfl (hb hby dd_jdk_52_method_15_code_6) rfl k) ?_
  refine Go.st (g' := (mkF m 8 #[.val (.ref b0), .val (.int (2 : Int32))] [(.int (1 : Int32))])) (fun _ k => XS.i2b W0.here hx rfl (hb hby dd_jdk_52_method_15_code_7) rfl k) ?_
  exact W0.retN hx hEL hlk (t := .byte) hret (by decide) (hb hby dd_jdk_52_method_15_code_8) (by decide) (by decide) ⟨rfl, rfl⟩
set_option maxRecDepth 65536 in
set_option maxHeartbeats 4000000 in
theorem own_cmp5_2_0 (l : Launch) {Z : State} {a0 : Array Value} (hE : Ctx Z a0) {n0 : Nat} {h0 : Heap} (O : Old Z n0 h0) {s0 : Addr} {ks : ClassId} {dd : Value} {b0 : Addr} {kb : ClassId} {c1 : Int32} {c2 : Int32} (hb0 : n0 ≤ b0) (hsb : ¬ @Eq Nat s0 b0) (hw1 : (255 : Int32) < c1) (P0 : Arv Z h0 s0 ks .char (2 : Int32) [(.int c1), (.int c2)] dd) (P1 : Arv Z h0 b0 kb .byte (2 : Int32) [(.int (0 : Int32)), (.int (0 : Int32))] (.int (0 : Int32))) :
    Met l (⟨"java/lang/StringUTF16", "compress", "([CI[BII)I"⟩ : MethodName) jdk_52_method_21_code 7 (Option.some Jvm.ClassFile.FieldType.int) ({ frames := 0, cells := 0, slots := 0, locals := 0 } : Room) Z consts_1 n0 [] #[(.ref s0), (.int (0 : Int32)), (.ref b0), (.int (0 : Int32)), (.int (2 : Int32))] h0 (fun v h => v = some (.int (0 : Int32)) ∧ Keep h0 h [b0]) := by
  have hw := hE.1
  have hEL := own_EW hw
  have own_wS := own_stringAtoms hw
  have hE1 := own_E1 hw
  refine Met.of (by first | (refine plainFor_of_name ?_; simp [plainName, overriddenIn]; done) | decide +kernel) O ?_
  intro p e s m below meth c T0 hx hby hml hret hlk hnm hh0 W0
  have z0 := W0.ge
  have yP0 : h0.size > s0 := P0.lt
  have yP1 : h0.size > b0 := P1.lt
  refine Go.st (g' := (mkF m 0 #[.val (.ref s0), .val (.int (0 : Int32)), .val (.ref b0), .val (.int (0 : Int32)), .val (.int (2 : Int32)), .unset, .unset] [])) (fun _ k => castTop (by first | (simp [entryFrame, mkF, argsToLocals, maxLocals, own_catI, own_catJ, own_catD, own_catA, own_catN]; done) | rfl) k) ?_
  refine Go.st (g' := (mkF m 1 #[.val (.ref s0), .val (.int (0 : Int32)), .val (.ref b0), .val (.int (0 : Int32)), .val (.int (2 : Int32)), .unset, .unset] [(.int (0 : Int32))])) (fun _ k => XS.iconst W0.here hx rfl (hb hby dd_jdk_52_method_21_code_0) k) ?_
  refine Go.st (g' := (mkF m 3 #[.val (.ref s0), .val (.int (0 : Int32)), .val (.ref b0), .val (.int (0 : Int32)), .val (.int (2 : Int32)), .val (.int (0 : Int32)), .unset] [])) (fun _ k => XS.istore W0.here hx rfl (hb hby dd_jdk_52_method_21_code_1) rfl (l' := #[.val (.ref s0), .val (.int (0 : Int32)), .val (.ref b0), .val (.int (0 : Int32)), .val (.int (2 : Int32)), .val (.int (0 : Int32)), .unset]) rfl k) ?_
  refine Go.st (g' := (mkF m 5 #[.val (.ref s0), .val (.int (0 : Int32)), .val (.ref b0), .val (.int (0 : Int32)), .val (.int (2 : Int32)), .val (.int (0 : Int32)), .unset] [(.int (0 : Int32))])) (fun _ k => XS.iload W0.here hx rfl (hb hby dd_jdk_52_method_21_code_3) rfl  k) ?_
  refine Go.st (g' := (mkF m 7 #[.val (.ref s0), .val (.int (0 : Int32)), .val (.ref b0), .val (.int (0 : Int32)), .val (.int (2 : Int32)), .val (.int (0 : Int32)), .unset] [(.int (2 : Int32)), (.int (0 : Int32))])) (fun _ k => XS.iload W0.here hx rfl (hb hby dd_jdk_52_method_21_code_5) rfl  k) ?_
  refine Go.st (g' := (mkF m 10 #[.val (.ref s0), .val (.int (0 : Int32)), .val (.ref b0), .val (.int (0 : Int32)), .val (.int (2 : Int32)), .val (.int (0 : Int32)), .unset] [])) (fun _ k => XS.icmpNo W0.here hx rfl (hb hby dd_jdk_52_method_21_code_7) rfl (tlt (by decide)).2.1 k) ?_
  refine Go.st (g' := (mkF m 11 #[.val (.ref s0), .val (.int (0 : Int32)), .val (.ref b0), .val (.int (0 : Int32)), .val (.int (2 : Int32)), .val (.int (0 : Int32)), .unset] [(.ref s0)])) (fun _ k => XS.aloadN W0.here hx rfl (hb hby dd_jdk_52_method_21_code_10) rfl rfl  k) ?_
  refine Go.st (g' := (mkF m 12 #[.val (.ref s0), .val (.int (0 : Int32)), .val (.ref b0), .val (.int (0 : Int32)), .val (.int (2 : Int32)), .val (.int (0 : Int32)), .unset] [(.int (0 : Int32)), (.ref s0)])) (fun _ k => XS.iloadN W0.here hx rfl (hb hby dd_jdk_52_method_21_code_11) rfl  k) ?_
  refine Go.st (g' := (mkF m 13 #[.val (.ref s0), .val (.int (0 : Int32)), .val (.ref b0), .val (.int (0 : Int32)), .val (.int (2 : Int32)), .val (.int (0 : Int32)), .unset] [(.int c1)])) (W0.ldC hx P0 (j := (0 : Int32)) ⟨by decide, by decide⟩ (v := .int c1) rfl (g := (mkF m 12 #[.val (.ref s0), .val (.int (0 : Int32)), .val (.ref b0), .val (.int (0 : Int32)), .val (.int (2 : Int32)), .val (.int (0 : Int32)), .unset] [(.int (0 : Int32)), (.ref s0)])) rfl rfl (hb hby dd_jdk_52_method_21_code_12)) ?_
  refine Go.st (g' := (mkF m 15 #[.val (.ref s0), .val (.int (0 : Int32)), .val (.ref b0), .val (.int (0 : Int32)), .val (.int (2 : Int32)), .val (.int (0 : Int32)), .val (.int c1)] [])) (fun _ k => XS.istore W0.here hx rfl (hb hby dd_jdk_52_method_21_code_13) rfl (l' := #[.val (.ref s0), .val (.int (0 : Int32)), .val (.ref b0), .val (.int (0 : Int32)), .val (.int (2 : Int32)), .val (.int (0 : Int32)), .val (.int c1)]) rfl k) ?_
  refine Go.st (g' := (mkF m 17 #[.val (.ref s0), .val (.int (0 : Int32)), .val (.ref b0), .val (.int (0 : Int32)), .val (.int (2 : Int32)), .val (.int (0 : Int32)), .val (.int c1)] [(.int c1)])) (fun _ k => XS.iload W0.here hx rfl (hb hby dd_jdk_52_method_21_code_15) rfl  k) ?_
  refine Go.st (g' := (mkF m 20 #[.val (.ref s0), .val (.int (0 : Int32)), .val (.ref b0), .val (.int (0 : Int32)), .val (.int (2 : Int32)), .val (.int (0 : Int32)), .val (.int c1)] [(.int (255 : Int32)), (.int c1)])) (fun _ k => XS.sipush W0.here hx rfl (hb hby dd_jdk_52_method_21_code_17) k) ?_
  refine Go.st (g' := (mkF m 23 #[.val (.ref s0), .val (.int (0 : Int32)), .val (.ref b0), .val (.int (0 : Int32)), .val (.int (2 : Int32)), .val (.int (0 : Int32)), .val (.int c1)] [])) (fun _ k => XS.icmpNo W0.here hx rfl (hb hby dd_jdk_52_method_21_code_20) rfl (tlt hw1).2.2.2 k) ?_
  refine Go.st (g' := (mkF m 25 #[.val (.ref s0), .val (.int (0 : Int32)), .val (.ref b0), .val (.int (0 : Int32)), .val (.int (2 : Int32)), .val (.int (0 : Int32)), .val (.int c1)] [(.int (0 : Int32))])) (fun _ k => XS.iload W0.here hx rfl (hb hby dd_jdk_52_method_21_code_23) rfl  k) ?_
  exact W0.retI hx hEL hlk hret (hb hby dd_jdk_52_method_21_code_25) (by decide) (by decide) ⟨rfl, (Keep.refl h0 [b0])⟩
set_option maxRecDepth 65536 in
set_option maxHeartbeats 4000000 in
theorem own_nbl2 (l : Launch) {Z : State} {a0 : Array Value} (hE : Ctx Z a0) {n0 : Nat} {h0 : Heap} (O : Old Z n0 h0)    :
    Met l (⟨"java/lang/StringUTF16", "newBytesLength", "(I)I"⟩ : MethodName) jdk_52_method_3_code 1 (Option.some Jvm.ClassFile.FieldType.int) ({ frames := 0, cells := 0, slots := 0, locals := 0 } : Room) Z consts_1 n0 [] #[(.int (2 : Int32))] h0 (fun v h => v = some (.int (4 : Int32)) ∧ h0 = h) := by
  have hw := hE.1
  have hEL := own_EW hw
  have own_wS := own_stringAtoms hw
  have hE1 := own_E1 hw
  refine Met.of (by first | (refine plainFor_of_name ?_; simp [plainName, overriddenIn]; done) | decide +kernel) O ?_
  intro p e s m below meth c T0 hx hby hml hret hlk hnm hh0 W0
  have z0 := W0.ge
  refine Go.st (g' := (mkF m 0 #[.val (.int (2 : Int32))] [])) (fun _ k => castTop (by first | (simp [entryFrame, mkF, argsToLocals, maxLocals, own_catI, own_catJ, own_catD, own_catA, own_catN]; done) | rfl) k) ?_
  refine Go.st (g' := (mkF m 1 #[.val (.int (2 : Int32))] [(.int (2 : Int32))])) (fun _ k => XS.iloadN W0.here hx rfl (hb hby dd_jdk_52_method_3_code_0) rfl  k) ?_
  refine Go.st (g' := (mkF m 12 #[.val (.int (2 : Int32))] [])) (fun _ k => XS.ifYes W0.here hx rfl (pc0 := 1) (pc' := 12) rfl (hb hby dd_jdk_52_method_3_code_1) rfl ((if0 _ _).trans (flt (by decide)).2.1) (by decide) (by decide) k) ?_
  refine Go.st (g' := (mkF m 13 #[.val (.int (2 : Int32))] [(.int (2 : Int32))])) (fun _ k => XS.iloadN W0.here hx rfl (hb hby dd_jdk_52_method_3_code_12) rfl  k) ?_
  refine Go.st (g' := (mkF m 15 #[.val (.int (2 : Int32))] [(.int (1073741823 : Int32)), (.int (2 : Int32))])) (W0.ldcI hx (hw _ (List.mem_of_getElem? (i := 91) rfl)) (g := (mkF m 13 #[.val (.int (2 : Int32))] [(.int (2 : Int32))])) rfl (hb hby dd_jdk_52_method_3_code_13)) ?_
  refine Go.st (g' := (mkF m 55 #[.val (.int (2 : Int32))] [])) (fun _ k => XS.icmpYes W0.here hx rfl (pc0 := 15) (pc' := 55) rfl (hb hby dd_jdk_52_method_3_code_15) rfl (tlt (by decide)).1 (by decide) (by decide) k) ?_
  refine Go.st (g' := (mkF m 56 #[.val (.int (2 : Int32))] [(.int (2 : Int32))])) (fun _ k => XS.iloadN W0.here hx rfl (hb hby dd_jdk_52_method_3_code_55) rfl  k) ?_
  refine Go.st (g' := (mkF m 57 #[.val (.int (2 : Int32))] [(.int (1 : Int32)), (.int (2 : Int32))])) (fun _ k => XS.iconst W0.here hx rfl (hb hby dd_jdk_52_method_3_code_56) k) ?_
  refine Go.st (g' := (mkF m 58 #[.val (.int (2 : Int32))] [(.int (4 : Int32))])) (fun _ k => XS.ishl W0.here hx rfl (hb hby dd_jdk_52_method_3_code_57) rfl k) ?_
  exact W0.retI hx hEL hlk hret (hb hby dd_jdk_52_method_3_code_58) (by decide) (by decide) ⟨rfl, rfl⟩
set_option maxRecDepth 65536 in
set_option maxHeartbeats 4000000 in
theorem own_nbf2 (l : Launch) {Z : State} {a0 : Array Value} (hE : Ctx Z a0) {n0 : Nat} {h0 : Heap} (O : Old Z n0 h0)    :
    Met l (⟨"java/lang/StringUTF16", "newBytesFor", "(I)[B"⟩ : MethodName) jdk_52_method_2_code 1 (Option.some (Jvm.ClassFile.FieldType.array Jvm.ClassFile.FieldType.byte)) ({ frames := 1, cells := 1, slots := 4, locals := 12 } : Room) Z consts_1 n0 [] #[(.int (2 : Int32))] h0 (fun v h => ∃ (b : Addr), ∃ (kb : ClassId), v = some (.ref b) ∧ h0.size ≤ b ∧ Arv Z h b kb .byte (4 : Int32) [(.int (0 : Int32)), (.int (0 : Int32)), (.int (0 : Int32)), (.int (0 : Int32))] (.int (0 : Int32)) ∧ Keep h0 h []) := by
  have hw := hE.1
  have hEL := own_EW hw
  have own_wS := own_stringAtoms hw
  have hE1 := own_E1 hw
  refine Met.of (by first | (refine plainFor_of_name ?_; simp [plainName, overriddenIn]; done) | decide +kernel) O ?_
  intro p e s m below meth c T0 hx hby hml hret hlk hnm hh0 W0
  have z0 := W0.ge
  refine Go.st (g' := (mkF m 0 #[.val (.int (2 : Int32))] [])) (fun _ k => castTop (by first | (simp [entryFrame, mkF, argsToLocals, maxLocals, own_catI, own_catJ, own_catD, own_catA, own_catN]; done) | rfl) k) ?_
  refine Go.st (g' := (mkF m 1 #[.val (.int (2 : Int32))] [(.int (2 : Int32))])) (fun _ k => XS.iloadN W0.here hx rfl (hb hby dd_jdk_52_method_2_code_0) rfl  k) ?_
  obtain ⟨_, vm1, T1, h1, W1, Q1, z1, SF1, st1⟩ := W0.callS hx hEL (own_nbl2 l hE W0.old   ) (hw _ (List.mem_of_getElem? (i := 88) rfl)) (hw _ (List.mem_of_getElem? (i := 89) rfl)) (hw _ (List.mem_of_getElem? (i := 71) rfl)) (hw _ (List.mem_of_getElem? (i := 90) rfl)) (by decide) (Wd := 0) (by decide) (by decide) (by decide) (by decide) (g := (mkF m 1 #[.val (.int (2 : Int32))] [(.int (2 : Int32))])) rfl (by rw [hml]; rfl) (argsL := [(.int (2 : Int32))]) (rest := []) rfl (lenOf pd__I_I rfl) rfl (by show 2 * 0 + _ ≤ _; exact Nat.le_of_eq rfl) (hb hby dd_jdk_52_method_2_code_1)
  obtain ⟨rfl, eh1⟩ := Q1
  subst eh1
  refine Go.tr (g' := (mkF m 4 #[.val (.int (2 : Int32))] [(.int (4 : Int32))])) st1 ?_
  obtain ⟨T2, h2, a2, k2, g2, W2, E2, z2, X2, S2, SF2, st2⟩ := W1.newP hx (ty := .byte) rfl (hw _ (List.mem_of_getElem? (i := 19) rfl)) (g := (mkF m 4 #[.val (.int (2 : Int32))] [(.int (4 : Int32))])) rfl (hb hby dd_jdk_52_method_2_code_4) rfl (by decide) (cap := 4) (by decide) (by decide) (by decide) (by decide) 4
  have F3 : Arv Z h2 a2 k2 .byte (4 : Int32) [(.int (0 : Int32)), (.int (0 : Int32)), (.int (0 : Int32)), (.int (0 : Int32))] (.int (0 : Int32)) := X2
  refine Go.st (g' := (mkF m 6 #[.val (.int (2 : Int32))] [(.ref a2)])) st2 ?_
  exact W2.retA hx hEL hlk hret rfl rfl rfl (hb hby dd_jdk_52_method_2_code_6) (by decide) (by decide) ⟨a2, k2, rfl, (by omega), F3, ((Keep.refl h0 []).ext E2)⟩
set_option maxRecDepth 65536 in
set_option maxHeartbeats 4000000 in
theorem own_put1 (l : Launch) {Z : State} {a0 : Array Value} (hE : Ctx Z a0) {n0 : Nat} {h0 : Heap} (O : Old Z n0 h0) {b0 : Addr} {kb : ClassId} {zz : Int32} {vs0 : List Value} {dd : Value} {c0 : Int32} (hb0 : n0 ≤ b0) (hza : (2 : Int32) < zz) (hzb : (3 : Int32) < zz) (hzn : ¬ zz.toNatClampNeg = 0) (hla : 2 < vs0.length) (hlb : 3 < vs0.length) (P0 : Arv Z h0 b0 kb .byte zz vs0 dd) :
    Met l (⟨"java/lang/StringUTF16", "putChar", "([BII)V"⟩ : MethodName) jdk_52_method_4_code 3 (Option.none : Option Jvm.ClassFile.FieldType) ({ frames := 0, cells := 0, slots := 0, locals := 0 } : Room) Z consts_1 n0 [] #[(.ref b0), (.int (1 : Int32)), (.int c0)] h0 (fun v h => v = none ∧ Arv Z h b0 kb .byte zz ((vs0.set 2 (.int ((c0 >>> ((0 : Int32) &&& 31)).toInt8.toInt32))).set 3 (.int ((c0 >>> ((8 : Int32) &&& 31)).toInt8.toInt32))) dd ∧ Keep h0 h [b0]) := by
  have hw := hE.1
  have hEL := own_EW hw
  have own_wS := own_stringAtoms hw
  have hE1 := own_E1 hw
  refine Met.of (by first | (refine plainFor_of_name ?_; simp [plainName, overriddenIn]; done) | decide +kernel) O ?_
  intro p e s m below meth c T0 hx hby hml hret hlk hnm hh0 W0
  have z0 := W0.ge
  have yP0 : h0.size > b0 := P0.lt
  refine Go.st (g' := (mkF m 0 #[.val (.ref b0), .val (.int (1 : Int32)), .val (.int c0)] [])) (fun _ k => castTop (by first | (simp [entryFrame, mkF, argsToLocals, maxLocals, own_catI, own_catJ, own_catD, own_catA, own_catN]; done) | rfl) k) ?_
  obtain ⟨T1, W1, st1⟩ := W0.getS hx (hw _ (List.mem_of_getElem? (i := 95) rfl)) Via.refl (W0.sta hE.2.2.2.1) (g := (mkF m 0 #[.val (.ref b0), .val (.int (1 : Int32)), .val (.int c0)] [])) rfl (hb hby dd_jdk_52_method_4_code_0)
  refine Go.st (g' := (mkF m 3 #[.val (.ref b0), .val (.int (1 : Int32)), .val (.int c0)] [(.int (1 : Int32))])) st1 ?_
  refine Go.st (g' := (mkF m 28 #[.val (.ref b0), .val (.int (1 : Int32)), .val (.int c0)] [])) (fun _ k => XS.ifYes W1.here hx rfl (pc0 := 3) (pc' := 28) rfl (hb hby dd_jdk_52_method_4_code_3) rfl ((if0 _ _).trans (feq (by decide)).2) (by decide) (by decide) k) ?_
  refine Go.st (g' := (mkF m 29 #[.val (.ref b0), .val (.int (1 : Int32)), .val (.int c0)] [(.int (1 : Int32))])) (fun _ k => XS.iloadN W1.here hx rfl (hb hby dd_jdk_52_method_4_code_28) rfl  k) ?_
  refine Go.st (g' := (mkF m 30 #[.val (.ref b0), .val (.int (1 : Int32)), .val (.int c0)] [(.int (1 : Int32)), (.int (1 : Int32))])) (fun _ k => XS.iconst W1.here hx rfl (hb hby dd_jdk_52_method_4_code_29) k) ?_
  refine Go.st (g' := (mkF m 31 #[.val (.ref b0), .val (.int (1 : Int32)), .val (.int c0)] [(.int (2 : Int32))])) (fun _ k => XS.ishl W1.here hx rfl (hb hby dd_jdk_52_method_4_code_30) rfl k) ?_
  refine Go.st (g' := (mkF m 32 #[.val (.ref b0), .val (.int (2 : Int32)), .val (.int c0)] [])) (fun _ k => XS.istoreN W1.here hx rfl (hb hby dd_jdk_52_method_4_code_31) rfl (l' := #[.val (.ref b0), .val (.int (2 : Int32)), .val (.int c0)]) rfl k) ?_
  refine Go.st (g' := (mkF m 33 #[.val (.ref b0), .val (.int (2 : Int32)), .val (.int c0)] [(.ref b0)])) (fun _ k => XS.aloadN W1.here hx rfl (hb hby dd_jdk_52_method_4_code_32) rfl rfl  k) ?_
  refine Go.st (g' := (mkF m 34 #[.val (.ref b0), .val (.int (2 : Int32)), .val (.int c0)] [(.int (2 : Int32)), (.ref b0)])) (fun _ k => XS.iloadN W1.here hx rfl (hb hby dd_jdk_52_method_4_code_33) rfl  k) ?_
  refine Go.st (g' := (mkF m 37 #[.val (.ref b0), .val (.int (3 : Int32)), .val (.int c0)] [(.int (2 : Int32)), (.ref b0)])) (fun _ k => XS.iinc W1.here hx rfl (hb hby dd_jdk_52_method_4_code_34) rfl (l' := #[.val (.ref b0), .val (.int (3 : Int32)), .val (.int c0)]) rfl k) ?_
  refine Go.st (g' := (mkF m 38 #[.val (.ref b0), .val (.int (3 : Int32)), .val (.int c0)] [(.int c0), (.int (2 : Int32)), (.ref b0)])) (fun _ k => XS.iloadN W1.here hx rfl (hb hby dd_jdk_52_method_4_code_37) rfl  k) ?_
  obtain ⟨T2, W2, st2⟩ := W1.getS hx (hw _ (List.mem_of_getElem? (i := 96) rfl)) Via.refl (W1.sta hE.2.2.2.2.1) (g := (mkF m 38 #[.val (.ref b0), .val (.int (3 : Int32)), .val (.int c0)] [(.int c0), (.int (2 : Int32)), (.ref b0)])) rfl (hb hby dd_jdk_52_method_4_code_38)
  refine Go.st (g' := (mkF m 41 #[.val (.ref b0), .val (.int (3 : Int32)), .val (.int c0)] [(.int (0 : Int32)), (.int c0), (.int (2 : Int32)), (.ref b0)])) st2 ?_
  refine Go.st (g' := (mkF m 42 #[.val (.ref b0), .val (.int (3 : Int32)), .val (.int c0)] [(.int (c0 >>> ((0 : Int32) &&& 31))), (.int (2 : Int32)), (.ref b0)])) (fun _ k => XS.ishr W2.here hx rfl (hb hby dd_jdk_52_method_4_code_41) rfl k) ?_
  refine Go.st (g' := (mkF m 43 #[.val (.ref b0), .val (.int (3 : Int32)), .val (.int c0)] [(.int ((c0 >>> ((0 : Int32) &&& 31)).toInt8.toInt32)), (.int (2 : Int32)), (.ref b0)])) (fun _ k => XS.i2b W2.here hx rfl (hb hby dd_jdk_52_method_4_code_42) rfl k) ?_
  obtain ⟨T3, h3, W3, R3, z3, X3, SF3, st3⟩ := W2.stB hx P0 (own_safeB W2.warm hE1 P0 hzn) ⟨by decide, by omega⟩ 2 rfl hla (by omega) (g := (mkF m 43 #[.val (.ref b0), .val (.int (3 : Int32)), .val (.int c0)] [(.int ((c0 >>> ((0 : Int32) &&& 31)).toInt8.toInt32)), (.int (2 : Int32)), (.ref b0)])) rfl rfl (hb hby dd_jdk_52_method_4_code_43)
  have F4 : Arv Z h3 b0 kb .byte zz (vs0.set 2 (.int ((c0 >>> ((0 : Int32) &&& 31)).toInt8.toInt32))) dd := (by have q := X3; rw [show nar .byte ((c0 >>> ((0 : Int32) &&& 31)).toInt8.toInt32) = ((c0 >>> ((0 : Int32) &&& 31)).toInt8.toInt32) from own_narB _] at q; exact q)
  refine Go.st (g' := (mkF m 44 #[.val (.ref b0), .val (.int (3 : Int32)), .val (.int c0)] [])) st3 ?_
  refine Go.st (g' := (mkF m 45 #[.val (.ref b0), .val (.int (3 : Int32)), .val (.int c0)] [(.ref b0)])) (fun _ k => XS.aloadN W3.here hx rfl (hb hby dd_jdk_52_method_4_code_44) rfl rfl  k) ?_
  refine Go.st (g' := (mkF m 46 #[.val (.ref b0), .val (.int (3 : Int32)), .val (.int c0)] [(.int (3 : Int32)), (.ref b0)])) (fun _ k => XS.iloadN W3.here hx rfl (hb hby dd_jdk_52_method_4_code_45) rfl  k) ?_
  refine Go.st (g' := (mkF m 47 #[.val (.ref b0), .val (.int (3 : Int32)), .val (.int c0)] [(.int c0), (.int (3 : Int32)), (.ref b0)])) (fun _ k => XS.iloadN W3.here hx rfl (hb hby dd_jdk_52_method_4_code_46) rfl  k) ?_
  obtain ⟨T5, W5, st5⟩ := W3.getS hx (hw _ (List.mem_of_getElem? (i := 97) rfl)) Via.refl (W3.sta hE.2.2.2.2.2) (g := (mkF m 47 #[.val (.ref b0), .val (.int (3 : Int32)), .val (.int c0)] [(.int c0), (.int (3 : Int32)), (.ref b0)])) rfl (hb hby dd_jdk_52_method_4_code_47)
  refine Go.st (g' := (mkF m 50 #[.val (.ref b0), .val (.int (3 : Int32)), .val (.int c0)] [(.int (8 : Int32)), (.int c0), (.int (3 : Int32)), (.ref b0)])) st5 ?_
  refine Go.st (g' := (mkF m 51 #[.val (.ref b0), .val (.int (3 : Int32)), .val (.int c0)] [(.int (c0 >>> ((8 : Int32) &&& 31))), (.int (3 : Int32)), (.ref b0)])) (fun _ k => XS.ishr W5.here hx rfl (hb hby dd_jdk_52_method_4_code_50) rfl k) ?_
  refine Go.st (g' := (mkF m 52 #[.val (.ref b0), .val (.int (3 : Int32)), .val (.int c0)] [(.int ((c0 >>> ((8 : Int32) &&& 31)).toInt8.toInt32)), (.int (3 : Int32)), (.ref b0)])) (fun _ k => XS.i2b W5.here hx rfl (hb hby dd_jdk_52_method_4_code_51) rfl k) ?_
  obtain ⟨T6, h6, W6, R6, z6, X6, SF6, st6⟩ := W5.stB hx F4 (own_safeB W5.warm hE1 F4 hzn) ⟨by decide, by omega⟩ 3 rfl (by rw [List.length_set]; exact hlb) (by omega) (g := (mkF m 52 #[.val (.ref b0), .val (.int (3 : Int32)), .val (.int c0)] [(.int ((c0 >>> ((8 : Int32) &&& 31)).toInt8.toInt32)), (.int (3 : Int32)), (.ref b0)])) rfl rfl (hb hby dd_jdk_52_method_4_code_52)
  have F7 : Arv Z h6 b0 kb .byte zz ((vs0.set 2 (.int ((c0 >>> ((0 : Int32) &&& 31)).toInt8.toInt32))).set 3 (.int ((c0 >>> ((8 : Int32) &&& 31)).toInt8.toInt32))) dd := (by have q := X6; rw [show nar .byte ((c0 >>> ((8 : Int32) &&& 31)).toInt8.toInt32) = ((c0 >>> ((8 : Int32) &&& 31)).toInt8.toInt32) from own_narB _] at q; exact q)
  refine Go.st (g' := (mkF m 53 #[.val (.ref b0), .val (.int (3 : Int32)), .val (.int c0)] [])) st6 ?_
  exact W6.retV hx hEL hlk hret (hb hby dd_jdk_52_method_4_code_53) (by decide) (by decide) ⟨rfl, F7, (((Keep.refl h0 [b0]).wr R3 (Or.inl (List.mem_of_getElem? (i := 0) rfl))).wr R6 (Or.inl (List.mem_of_getElem? (i := 0) rfl)))⟩
set_option maxRecDepth 65536 in
set_option maxHeartbeats 4000000 in
theorem own_tb2 (l : Launch) {Z : State} {a0 : Array Value} (hE : Ctx Z a0) {n0 : Nat} {h0 : Heap} (O : Old Z n0 h0) {s0 : Addr} {ks : ClassId} {dd : Value} {c1 : Int32} {c2 : Int32}  (P0 : Arv Z h0 s0 ks .char (2 : Int32) [(.int c1), (.int c2)] dd) :
    Met l (⟨"java/lang/StringUTF16", "toBytes", "([CII)[B"⟩ : MethodName) jdk_52_method_14_code 5 (Option.some (Jvm.ClassFile.FieldType.array Jvm.ClassFile.FieldType.byte)) ({ frames := 2, cells := 1, slots := 4, locals := 24 } : Room) Z consts_1 n0 [] #[(.ref s0), (.int (0 : Int32)), (.int (2 : Int32))] h0 (fun v h => ∃ (b : Addr), ∃ (kb : ClassId), v = some (.ref b) ∧ h0.size ≤ b ∧ Arv Z h b kb .byte (4 : Int32) [(.int ((c1 >>> ((0 : Int32) &&& 31)).toInt8.toInt32)), (.int ((c1 >>> ((8 : Int32) &&& 31)).toInt8.toInt32)), (.int ((c2 >>> ((0 : Int32) &&& 31)).toInt8.toInt32)), (.int ((c2 >>> ((8 : Int32) &&& 31)).toInt8.toInt32))] (.int (0 : Int32)) ∧ Keep h0 h []) := by
  have hw := hE.1
  have hEL := own_EW hw
  have own_wS := own_stringAtoms hw
  have hE1 := own_E1 hw
  refine Met.of (by first | (refine plainFor_of_name ?_; simp [plainName, overriddenIn]; done) | decide +kernel) O ?_
  intro p e s m below meth c T0 hx hby hml hret hlk hnm hh0 W0
  have z0 := W0.ge
  have yP0 : h0.size > s0 := P0.lt
  refine Go.st (g' := (mkF m 0 #[.val (.ref s0), .val (.int (0 : Int32)), .val (.int (2 : Int32)), .unset, .unset] [])) (fun _ k => castTop (by first | (simp [entryFrame, mkF, argsToLocals, maxLocals, own_catI, own_catJ, own_catD, own_catA, own_catN]; done) | rfl) k) ?_
  refine Go.st (g' := (mkF m 1 #[.val (.ref s0), .val (.int (0 : Int32)), .val (.int (2 : Int32)), .unset, .unset] [(.int (2 : Int32))])) (fun _ k => XS.iloadN W0.here hx rfl (hb hby dd_jdk_52_method_14_code_0) rfl  k) ?_
  obtain ⟨_, vm1, T1, h1, W1, Q1, z1, SF1, st1⟩ := W0.callS hx hEL (own_nbf2 l hE W0.old   ) (hw _ (List.mem_of_getElem? (i := 85) rfl)) (hw _ (List.mem_of_getElem? (i := 86) rfl)) (hw _ (List.mem_of_getElem? (i := 71) rfl)) (hw _ (List.mem_of_getElem? (i := 87) rfl)) (by decide) (Wd := 0) (by decide) (by decide) (by decide) (by decide) (g := (mkF m 1 #[.val (.ref s0), .val (.int (0 : Int32)), .val (.int (2 : Int32)), .unset, .unset] [(.int (2 : Int32))])) rfl (by rw [hml]; rfl) (argsL := [(.int (2 : Int32))]) (rest := []) rfl (lenOf pd__I__B rfl) rfl (by show 2 * 0 + _ ≤ _; exact Nat.le_of_eq rfl) (hb hby dd_jdk_52_method_14_code_1)
  obtain ⟨b_1, kb_1, rfl, p1_0, f1_0, K1⟩ := Q1
  have yf1_0 : h1.size > b_1 := f1_0.lt
  refine Go.tr (g' := (mkF m 4 #[.val (.ref s0), .val (.int (0 : Int32)), .val (.int (2 : Int32)), .unset, .unset] [(.ref b_1)])) st1 ?_
  refine Go.st (g' := (mkF m 5 #[.val (.ref s0), .val (.int (0 : Int32)), .val (.int (2 : Int32)), .val (.ref b_1), .unset] [])) (fun _ k => XS.astoreN W1.here hx rfl (hb hby dd_jdk_52_method_14_code_4) rfl rfl (l' := #[.val (.ref s0), .val (.int (0 : Int32)), .val (.int (2 : Int32)), .val (.ref b_1), .unset]) rfl k) ?_
  refine Go.st (g' := (mkF m 6 #[.val (.ref s0), .val (.int (0 : Int32)), .val (.int (2 : Int32)), .val (.ref b_1), .unset] [(.int (0 : Int32))])) (fun _ k => XS.iconst W1.here hx rfl (hb hby dd_jdk_52_method_14_code_5) k) ?_
  refine Go.st (g' := (mkF m 8 #[.val (.ref s0), .val (.int (0 : Int32)), .val (.int (2 : Int32)), .val (.ref b_1), .val (.int (0 : Int32))] [])) (fun _ k => XS.istore W1.here hx rfl (hb hby dd_jdk_52_method_14_code_6) rfl (l' := #[.val (.ref s0), .val (.int (0 : Int32)), .val (.int (2 : Int32)), .val (.ref b_1), .val (.int (0 : Int32))]) rfl k) ?_
  refine Go.st (g' := (mkF m 10 #[.val (.ref s0), .val (.int (0 : Int32)), .val (.int (2 : Int32)), .val (.ref b_1), .val (.int (0 : Int32))] [(.int (0 : Int32))])) (fun _ k => XS.iload W1.here hx rfl (hb hby dd_jdk_52_method_14_code_8) rfl  k) ?_
  refine Go.st (g' := (mkF m 11 #[.val (.ref s0), .val (.int (0 : Int32)), .val (.int (2 : Int32)), .val (.ref b_1), .val (.int (0 : Int32))] [(.int (2 : Int32)), (.int (0 : Int32))])) (fun _ k => XS.iloadN W1.here hx rfl (hb hby dd_jdk_52_method_14_code_10) rfl  k) ?_
  refine Go.st (g' := (mkF m 14 #[.val (.ref s0), .val (.int (0 : Int32)), .val (.int (2 : Int32)), .val (.ref b_1), .val (.int (0 : Int32))] [])) (fun _ k => XS.icmpNo W1.here hx rfl (hb hby dd_jdk_52_method_14_code_11) rfl (tlt (by decide)).2.1 k) ?_
  refine Go.st (g' := (mkF m 15 #[.val (.ref s0), .val (.int (0 : Int32)), .val (.int (2 : Int32)), .val (.ref b_1), .val (.int (0 : Int32))] [(.ref b_1)])) (fun _ k => XS.aloadN W1.here hx rfl (hb hby dd_jdk_52_method_14_code_14) rfl rfl  k) ?_
  refine Go.st (g' := (mkF m 17 #[.val (.ref s0), .val (.int (0 : Int32)), .val (.int (2 : Int32)), .val (.ref b_1), .val (.int (0 : Int32))] [(.int (0 : Int32)), (.ref b_1)])) (fun _ k => XS.iload W1.here hx rfl (hb hby dd_jdk_52_method_14_code_15) rfl  k) ?_
  refine Go.st (g' := (mkF m 18 #[.val (.ref s0), .val (.int (0 : Int32)), .val (.int (2 : Int32)), .val (.ref b_1), .val (.int (0 : Int32))] [(.ref s0), (.int (0 : Int32)), (.ref b_1)])) (fun _ k => XS.aloadN W1.here hx rfl (hb hby dd_jdk_52_method_14_code_17) rfl rfl  k) ?_
  refine Go.st (g' := (mkF m 19 #[.val (.ref s0), .val (.int (0 : Int32)), .val (.int (2 : Int32)), .val (.ref b_1), .val (.int (0 : Int32))] [(.int (0 : Int32)), (.ref s0), (.int (0 : Int32)), (.ref b_1)])) (fun _ k => XS.iloadN W1.here hx rfl (hb hby dd_jdk_52_method_14_code_18) rfl  k) ?_
  have F2 : Arv Z h1 s0 ks .char (2 : Int32) [(.int c1), (.int c2)] dd := (P0.keep K1 nin0)
  refine Go.st (g' := (mkF m 20 #[.val (.ref s0), .val (.int (0 : Int32)), .val (.int (2 : Int32)), .val (.ref b_1), .val (.int (0 : Int32))] [(.int c1), (.int (0 : Int32)), (.ref b_1)])) (W1.ldC hx F2 (j := (0 : Int32)) ⟨by decide, by decide⟩ (v := .int c1) rfl (g := (mkF m 19 #[.val (.ref s0), .val (.int (0 : Int32)), .val (.int (2 : Int32)), .val (.ref b_1), .val (.int (0 : Int32))] [(.int (0 : Int32)), (.ref s0), (.int (0 : Int32)), (.ref b_1)])) rfl rfl (hb hby dd_jdk_52_method_14_code_19)) ?_
  obtain ⟨_, vm3, T3, h3, W3, Q3, z3, SF3, st3⟩ := W1.callS hx hEL (own_put0 l hE W1.old (b0 := b_1) (kb := kb_1) (zz := (4 : Int32)) (vs0 := [(.int (0 : Int32)), (.int (0 : Int32)), (.int (0 : Int32)), (.int (0 : Int32))]) (dd := (.int (0 : Int32))) (c0 := c1) (by omega) (by decide) (by decide) (by decide) (Nat.le_of_ble_eq_true rfl) (Nat.le_of_ble_eq_true rfl) f1_0) (hw _ (List.mem_of_getElem? (i := 92) rfl)) (hw _ (List.mem_of_getElem? (i := 93) rfl)) (hw _ (List.mem_of_getElem? (i := 71) rfl)) (hw _ (List.mem_of_getElem? (i := 94) rfl)) (by decide) (Wd := 0) (by decide) (by decide) (by decide) (by decide) (g := (mkF m 20 #[.val (.ref s0), .val (.int (0 : Int32)), .val (.int (2 : Int32)), .val (.ref b_1), .val (.int (0 : Int32))] [(.int c1), (.int (0 : Int32)), (.ref b_1)])) rfl (by rw [hml]; rfl) (argsL := [(.ref b_1), (.int (0 : Int32)), (.int c1)]) (rest := []) rfl (lenOf pd___BII_V rfl) rfl (by show 2 * 0 + _ ≤ _; exact Nat.le_of_eq rfl) (hb hby dd_jdk_52_method_14_code_20)
  obtain ⟨rfl, f3_0, K3⟩ := Q3
  have yf3_0 : h3.size > b_1 := f3_0.lt
  refine Go.tr (g' := (mkF m 23 #[.val (.ref s0), .val (.int (0 : Int32)), .val (.int (2 : Int32)), .val (.ref b_1), .val (.int (0 : Int32))] [])) st3 ?_
  have F4 : Arv Z h3 b_1 kb_1 .byte (4 : Int32) [(.int ((c1 >>> ((0 : Int32) &&& 31)).toInt8.toInt32)), (.int ((c1 >>> ((8 : Int32) &&& 31)).toInt8.toInt32)), (.int (0 : Int32)), (.int (0 : Int32))] (.int (0 : Int32)) := f3_0
  refine Go.st (g' := (mkF m 26 #[.val (.ref s0), .val (.int (1 : Int32)), .val (.int (2 : Int32)), .val (.ref b_1), .val (.int (0 : Int32))] [])) (fun _ k => XS.iinc W3.here hx rfl (hb hby dd_jdk_52_method_14_code_23) rfl (l' := #[.val (.ref s0), .val (.int (1 : Int32)), .val (.int (2 : Int32)), .val (.ref b_1), .val (.int (0 : Int32))]) rfl k) ?_
  refine Go.st (g' := (mkF m 29 #[.val (.ref s0), .val (.int (1 : Int32)), .val (.int (2 : Int32)), .val (.ref b_1), .val (.int (1 : Int32))] [])) (fun _ k => XS.iinc W3.here hx rfl (hb hby dd_jdk_52_method_14_code_26) rfl (l' := #[.val (.ref s0), .val (.int (1 : Int32)), .val (.int (2 : Int32)), .val (.ref b_1), .val (.int (1 : Int32))]) rfl k) ?_
  refine Go.st (g' := (mkF m 8 #[.val (.ref s0), .val (.int (1 : Int32)), .val (.int (2 : Int32)), .val (.ref b_1), .val (.int (1 : Int32))] [])) (fun _ k => XS.goto W3.here hx rfl (pc0 := 29) (pc' := 8) rfl (hb hby dd_jdk_52_method_14_code_29) (by decide) (by decide) k) ?_
  refine Go.st (g' := (mkF m 10 #[.val (.ref s0), .val (.int (1 : Int32)), .val (.int (2 : Int32)), .val (.ref b_1), .val (.int (1 : Int32))] [(.int (1 : Int32))])) (fun _ k => XS.iload W3.here hx rfl (hb hby dd_jdk_52_method_14_code_8) rfl  k) ?_
  refine Go.st (g' := (mkF m 11 #[.val (.ref s0), .val (.int (1 : Int32)), .val (.int (2 : Int32)), .val (.ref b_1), .val (.int (1 : Int32))] [(.int (2 : Int32)), (.int (1 : Int32))])) (fun _ k => XS.iloadN W3.here hx rfl (hb hby dd_jdk_52_method_14_code_10) rfl  k) ?_
  refine Go.st (g' := (mkF m 14 #[.val (.ref s0), .val (.int (1 : Int32)), .val (.int (2 : Int32)), .val (.ref b_1), .val (.int (1 : Int32))] [])) (fun _ k => XS.icmpNo W3.here hx rfl (hb hby dd_jdk_52_method_14_code_11) rfl (tlt (by decide)).2.1 k) ?_
  refine Go.st (g' := (mkF m 15 #[.val (.ref s0), .val (.int (1 : Int32)), .val (.int (2 : Int32)), .val (.ref b_1), .val (.int (1 : Int32))] [(.ref b_1)])) (fun _ k => XS.aloadN W3.here hx rfl (hb hby dd_jdk_52_method_14_code_14) rfl rfl  k) ?_
  refine Go.st (g' := (mkF m 17 #[.val (.ref s0), .val (.int (1 : Int32)), .val (.int (2 : Int32)), .val (.ref b_1), .val (.int (1 : Int32))] [(.int (1 : Int32)), (.ref b_1)])) (fun _ k => XS.iload W3.here hx rfl (hb hby dd_jdk_52_method_14_code_15) rfl  k) ?_
  refine Go.st (g' := (mkF m 18 #[.val (.ref s0), .val (.int (1 : Int32)), .val (.int (2 : Int32)), .val (.ref b_1), .val (.int (1 : Int32))] [(.ref s0), (.int (1 : Int32)), (.ref b_1)])) (fun _ k => XS.aloadN W3.here hx rfl (hb hby dd_jdk_52_method_14_code_17) rfl rfl  k) ?_
  refine Go.st (g' := (mkF m 19 #[.val (.ref s0), .val (.int (1 : Int32)), .val (.int (2 : Int32)), .val (.ref b_1), .val (.int (1 : Int32))] [(.int (1 : Int32)), (.ref s0), (.int (1 : Int32)), (.ref b_1)])) (fun _ k => XS.iloadN W3.here hx rfl (hb hby dd_jdk_52_method_14_code_18) rfl  k) ?_
  have F5 : Arv Z h3 s0 ks .char (2 : Int32) [(.int c1), (.int c2)] dd := (F2.keep K3 (ninS (own_ne (by omega)) nin0))
  refine Go.st (g' := (mkF m 20 #[.val (.ref s0), .val (.int (1 : Int32)), .val (.int (2 : Int32)), .val (.ref b_1), .val (.int (1 : Int32))] [(.int c2), (.int (1 : Int32)), (.ref b_1)])) (W3.ldC hx F5 (j := (1 : Int32)) ⟨by decide, by decide⟩ (v := .int c2) rfl (g := (mkF m 19 #[.val (.ref s0), .val (.int (1 : Int32)), .val (.int (2 : Int32)), .val (.ref b_1), .val (.int (1 : Int32))] [(.int (1 : Int32)), (.ref s0), (.int (1 : Int32)), (.ref b_1)])) rfl rfl (hb hby dd_jdk_52_method_14_code_19)) ?_
  obtain ⟨_, vm6, T6, h6, W6, Q6, z6, SF6, st6⟩ := W3.callS hx hEL (own_put1 l hE W3.old (b0 := b_1) (kb := kb_1) (zz := (4 : Int32)) (vs0 := [(.int ((c1 >>> ((0 : Int32) &&& 31)).toInt8.toInt32)), (.int ((c1 >>> ((8 : Int32) &&& 31)).toInt8.toInt32)), (.int (0 : Int32)), (.int (0 : Int32))]) (dd := (.int (0 : Int32))) (c0 := c2) (by omega) (by decide) (by decide) (by decide) (Nat.le_of_ble_eq_true rfl) (Nat.le_of_ble_eq_true rfl) F4) (hw _ (List.mem_of_getElem? (i := 92) rfl)) (hw _ (List.mem_of_getElem? (i := 93) rfl)) (hw _ (List.mem_of_getElem? (i := 71) rfl)) (hw _ (List.mem_of_getElem? (i := 94) rfl)) (by decide) (Wd := 0) (by decide) (by decide) (by decide) (by decide) (g := (mkF m 20 #[.val (.ref s0), .val (.int (1 : Int32)), .val (.int (2 : Int32)), .val (.ref b_1), .val (.int (1 : Int32))] [(.int c2), (.int (1 : Int32)), (.ref b_1)])) rfl (by rw [hml]; rfl) (argsL := [(.ref b_1), (.int (1 : Int32)), (.int c2)]) (rest := []) rfl (lenOf pd___BII_V rfl) rfl (by show 2 * 0 + _ ≤ _; exact Nat.le_of_eq rfl) (hb hby dd_jdk_52_method_14_code_20)
  obtain ⟨rfl, f6_0, K6⟩ := Q6
  have yf6_0 : h6.size > b_1 := f6_0.lt
  refine Go.tr (g' := (mkF m 23 #[.val (.ref s0), .val (.int (1 : Int32)), .val (.int (2 : Int32)), .val (.ref b_1), .val (.int (1 : Int32))] [])) st6 ?_
  have F7 : Arv Z h6 b_1 kb_1 .byte (4 : Int32) [(.int ((c1 >>> ((0 : Int32) &&& 31)).toInt8.toInt32)), (.int ((c1 >>> ((8 : Int32) &&& 31)).toInt8.toInt32)), (.int ((c2 >>> ((0 : Int32) &&& 31)).toInt8.toInt32)), (.int ((c2 >>> ((8 : Int32) &&& 31)).toInt8.toInt32))] (.int (0 : Int32)) := f6_0
  refine Go.st (g' := (mkF m 26 #[.val (.ref s0), .val (.int (2 : Int32)), .val (.int (2 : Int32)), .val (.ref b_1), .val (.int (1 : Int32))] [])) (fun _ k => XS.iinc W6.here hx rfl (hb hby dd_jdk_52_method_14_code_23) rfl (l' := #[.val (.ref s0), .val (.int (2 : Int32)), .val (.int (2 : Int32)), .val (.ref b_1), .val (.int (1 : Int32))]) rfl k) ?_
  refine Go.st (g' := (mkF m 29 #[.val (.ref s0), .val (.int (2 : Int32)), .val (.int (2 : Int32)), .val (.ref b_1), .val (.int (2 : Int32))] [])) (fun _ k => XS.iinc W6.here hx rfl (hb hby dd_jdk_52_method_14_code_26) rfl (l' := #[.val (.ref s0), .val (.int (2 : Int32)), .val (.int (2 : Int32)), .val (.ref b_1), .val (.int (2 : Int32))]) rfl k) ?_
  refine Go.st (g' := (mkF m 8 #[.val (.ref s0), .val (.int (2 : Int32)), .val (.int (2 : Int32)), .val (.ref b_1), .val (.int (2 : Int32))] [])) (fun _ k => XS.goto W6.here hx rfl (pc0 := 29) (pc' := 8) rfl (hb hby dd_jdk_52_method_14_code_29) (by decide) (by decide) k) ?_
  refine Go.st (g' := (mkF m 10 #[.val (.ref s0), .val (.int (2 : Int32)), .val (.int (2 : Int32)), .val (.ref b_1), .val (.int (2 : Int32))] [(.int (2 : Int32))])) (fun _ k => XS.iload W6.here hx rfl (hb hby dd_jdk_52_method_14_code_8) rfl  k) ?_
  refine Go.st (g' := (mkF m 11 #[.val (.ref s0), .val (.int (2 : Int32)), .val (.int (2 : Int32)), .val (.ref b_1), .val (.int (2 : Int32))] [(.int (2 : Int32)), (.int (2 : Int32))])) (fun _ k => XS.iloadN W6.here hx rfl (hb hby dd_jdk_52_method_14_code_10) rfl  k) ?_
  refine Go.st (g' := (mkF m 32 #[.val (.ref s0), .val (.int (2 : Int32)), .val (.int (2 : Int32)), .val (.ref b_1), .val (.int (2 : Int32))] [])) (fun _ k => XS.icmpYes W6.here hx rfl (pc0 := 11) (pc' := 32) rfl (hb hby dd_jdk_52_method_14_code_11) rfl (flt (by decide)).2.1 (by decide) (by decide) k) ?_
  refine Go.st (g' := (mkF m 33 #[.val (.ref s0), .val (.int (2 : Int32)), .val (.int (2 : Int32)), .val (.ref b_1), .val (.int (2 : Int32))] [(.ref b_1)])) (fun _ k => XS.aloadN W6.here hx rfl (hb hby dd_jdk_52_method_14_code_32) rfl rfl  k) ?_
  exact W6.retA hx hEL hlk hret rfl rfl rfl (hb hby dd_jdk_52_method_14_code_33) (by decide) (by decide) ⟨b_1, kb_1, rfl, (by omega), F7, ((((Keep.refl h0 []).trans K1 all0).trans K3 (allS (Or.inr (by omega)) all0)).trans K6 (allS (Or.inr (by omega)) all0))⟩
set_option maxRecDepth 65536 in
set_option maxHeartbeats 4000000 in
theorem own_get0 (l : Launch) {Z : State} {a0 : Array Value} (hE : Ctx Z a0) {n0 : Nat} {h0 : Heap} (O : Old Z n0 h0) {b0 : Addr} {kb : ClassId} {zz : Int32} {vs0 : List Value} {dd : Value} {c0 : Int32} (hc0 : Chr c0) (hza : (0 : Int32) < zz) (hzb : (1 : Int32) < zz) (hva : vs0.getD 0 dd = .int ((c0 >>> ((0 : Int32) &&& 31)).toInt8.toInt32)) (hvb : vs0.getD 1 dd = .int ((c0 >>> ((8 : Int32) &&& 31)).toInt8.toInt32)) (P0 : Arv Z h0 b0 kb .byte zz vs0 dd) :
    Met l (⟨"java/lang/StringUTF16", "getChar", "([BI)C"⟩ : MethodName) jdk_52_method_5_code 2 (Option.some Jvm.ClassFile.FieldType.char) ({ frames := 0, cells := 0, slots := 0, locals := 0 } : Room) Z consts_1 n0 [] #[(.ref b0), (.int (0 : Int32))] h0 (fun v h => v = some (.int c0) ∧ h0 = h) := by
  have hw := hE.1
  have hEL := own_EW hw
  have own_wS := own_stringAtoms hw
  have hE1 := own_E1 hw
  refine Met.of (by first | (refine plainFor_of_name ?_; simp [plainName, overriddenIn]; done) | decide +kernel) O ?_
  intro p e s m below meth c T0 hx hby hml hret hlk hnm hh0 W0
  have z0 := W0.ge
  have yP0 : h0.size > b0 := P0.lt
  refine Go.st (g' := (mkF m 0 #[.val (.ref b0), .val (.int (0 : Int32))] [])) (fun _ k => castTop (by first | (simp [entryFrame, mkF, argsToLocals, maxLocals, own_catI, own_catJ, own_catD, own_catA, own_catN]; done) | rfl) k) ?_
  obtain ⟨T1, W1, st1⟩ := W0.getS hx (hw _ (List.mem_of_getElem? (i := 95) rfl)) Via.refl (W0.sta hE.2.2.2.1) (g := (mkF m 0 #[.val (.ref b0), .val (.int (0 : Int32))] [])) rfl (hb hby dd_jdk_52_method_5_code_0)
  refine Go.st (g' := (mkF m 3 #[.val (.ref b0), .val (.int (0 : Int32))] [(.int (1 : Int32))])) st1 ?_
  refine Go.st (g' := (mkF m 28 #[.val (.ref b0), .val (.int (0 : Int32))] [])) (fun _ k => XS.ifYes W1.here hx rfl (pc0 := 3) (pc' := 28) rfl (hb hby dd_jdk_52_method_5_code_3) rfl ((if0 _ _).trans (feq (by decide)).2) (by decide) (by decide) k) ?_
  refine Go.st (g' := (mkF m 29 #[.val (.ref b0), .val (.int (0 : Int32))] [(.int (0 : Int32))])) (fun _ k => XS.iloadN W1.here hx rfl (hb hby dd_jdk_52_method_5_code_28) rfl  k) ?_
  refine Go.st (g' := (mkF m 30 #[.val (.ref b0), .val (.int (0 : Int32))] [(.int (1 : Int32)), (.int (0 : Int32))])) (fun _ k => XS.iconst W1.here hx rfl (hb hby dd_jdk_52_method_5_code_29) k) ?_
  refine Go.st (g' := (mkF m 31 #[.val (.ref b0), .val (.int (0 : Int32))] [(.int (0 : Int32))])) (fun _ k => XS.ishl W1.here hx rfl (hb hby dd_jdk_52_method_5_code_30) rfl k) ?_
  refine Go.st (g' := (mkF m 32 #[.val (.ref b0), .val (.int (0 : Int32))] [])) (fun _ k => XS.istoreN W1.here hx rfl (hb hby dd_jdk_52_method_5_code_31) rfl (l' := #[.val (.ref b0), .val (.int (0 : Int32))]) rfl k) ?_
  refine Go.st (g' := (mkF m 33 #[.val (.ref b0), .val (.int (0 : Int32))] [(.ref b0)])) (fun _ k => XS.aloadN W1.here hx rfl (hb hby dd_jdk_52_method_5_code_32) rfl rfl  k) ?_
  refine Go.st (g' := (mkF m 34 #[.val (.ref b0), .val (.int (0 : Int32))] [(.int (0 : Int32)), (.ref b0)])) (fun _ k => XS.iloadN W1.here hx rfl (hb hby dd_jdk_52_method_5_code_33) rfl  k) ?_
  refine Go.st (g' := (mkF m 37 #[.val (.ref b0), .val (.int (1 : Int32))] [(.int (0 : Int32)), (.ref b0)])) (fun _ k => XS.iinc W1.here hx rfl (hb hby dd_jdk_52_method_5_code_34) rfl (l' := #[.val (.ref b0), .val (.int (1 : Int32))]) rfl k) ?_
  refine Go.st (g' := (mkF m 38 #[.val (.ref b0), .val (.int (1 : Int32))] [(.int ((c0 >>> ((0 : Int32) &&& 31)).toInt8.toInt32))])) (W1.ldB hx P0 (j := (0 : Int32)) ⟨by decide, hza⟩ (v := .int ((c0 >>> ((0 : Int32) &&& 31)).toInt8.toInt32)) hva (g := (mkF m 37 #[.val (.ref b0), .val (.int (1 : Int32))] [(.int (0 : Int32)), (.ref b0)])) rfl rfl (hb hby dd_jdk_52_method_5_code_37)) ?_
  refine Go.st (g' := (mkF m 41 #[.val (.ref b0), .val (.int (1 : Int32))] [(.int (255 : Int32)), (.int ((c0 >>> ((0 : Int32) &&& 31)).toInt8.toInt32))])) (fun _ k => XS.sipush W1.here hx rfl (hb hby dd_jdk_52_method_5_code_38) k) ?_
  refine Go.st (g' := (mkF m 42 #[.val (.ref b0), .val (.int (1 : Int32))] [(.int (((c0 >>> ((0 : Int32) &&& 31)).toInt8.toInt32) &&& (255 : Int32)))])) (fun _ k => XS.iand W1.here hx rfl (hb hby dd_jdk_52_method_5_code_41) rfl k) ?_
  obtain ⟨T2, W2, st2⟩ := W1.getS hx (hw _ (List.mem_of_getElem? (i := 96) rfl)) Via.refl (W1.sta hE.2.2.2.2.1) (g := (mkF m 42 #[.val (.ref b0), .val (.int (1 : Int32))] [(.int (((c0 >>> ((0 : Int32) &&& 31)).toInt8.toInt32) &&& (255 : Int32)))])) rfl (hb hby dd_jdk_52_method_5_code_42)
  refine Go.st (g' := (mkF m 45 #[.val (.ref b0), .val (.int (1 : Int32))] [(.int (0 : Int32)), (.int (((c0 >>> ((0 : Int32) &&& 31)).toInt8.toInt32) &&& (255 : Int32)))])) st2 ?_
  refine Go.st (g' := (mkF m 46 #[.val (.ref b0), .val (.int (1 : Int32))] [(.int ((((c0 >>> ((0 : Int32) &&& 31)).toInt8.toInt32) &&& (255 : Int32)) <<< ((0 : Int32) &&& 31)))])) (fun _ k => XS.ishl W2.here hx rfl (hb hby dd_jdk_52_method_5_code_45) rfl k) ?_
  refine Go.st (g' := (mkF m 47 #[.val (.ref b0), .val (.int (1 : Int32))] [(.ref b0), (.int ((((c0 >>> ((0 : Int32) &&& 31)).toInt8.toInt32) &&& (255 : Int32)) <<< ((0 : Int32) &&& 31)))])) (fun _ k => XS.aloadN W2.here hx rfl (hb hby dd_jdk_52_method_5_code_46) rfl rfl  k) ?_
  refine Go.st (g' := (mkF m 48 #[.val (.ref b0), .val (.int (1 : Int32))] [(.int (1 : Int32)), (.ref b0), (.int ((((c0 >>> ((0 : Int32) &&& 31)).toInt8.toInt32) &&& (255 : Int32)) <<< ((0 : Int32) &&& 31)))])) (fun _ k => XS.iloadN W2.here hx rfl (hb hby dd_jdk_52_method_5_code_47) rfl  k) ?_
  refine Go.st (g' := (mkF m 49 #[.val (.ref b0), .val (.int (1 : Int32))] [(.int ((c0 >>> ((8 : Int32) &&& 31)).toInt8.toInt32)), (.int ((((c0 >>> ((0 : Int32) &&& 31)).toInt8.toInt32) &&& (255 : Int32)) <<< ((0 : Int32) &&& 31)))])) (W2.ldB hx P0 (j := (1 : Int32)) ⟨by decide, hzb⟩ (v := .int ((c0 >>> ((8 : Int32) &&& 31)).toInt8.toInt32)) hvb (g := (mkF m 48 #[.val (.ref b0), .val (.int (1 : Int32))] [(.int (1 : Int32)), (.ref b0), (.int ((((c0 >>> ((0 : Int32) &&& 31)).toInt8.toInt32) &&& (255 : Int32)) <<< ((0 : Int32) &&& 31)))])) rfl rfl (hb hby dd_jdk_52_method_5_code_48)) ?_
  refine Go.st (g' := (mkF m 52 #[.val (.ref b0), .val (.int (1 : Int32))] [(.int (255 : Int32)), (.int ((c0 >>> ((8 : Int32) &&& 31)).toInt8.toInt32)), (.int ((((c0 >>> ((0 : Int32) &&& 31)).toInt8.toInt32) &&& (255 : Int32)) <<< ((0 : Int32) &&& 31)))])) (fun _ k => XS.sipush W2.here hx rfl (hb hby dd_jdk_52_method_5_code_49) k) ?_
  refine Go.st (g' := (mkF m 53 #[.val (.ref b0), .val (.int (1 : Int32))] [(.int (((c0 >>> ((8 : Int32) &&& 31)).toInt8.toInt32) &&& (255 : Int32))), (.int ((((c0 >>> ((0 : Int32) &&& 31)).toInt8.toInt32) &&& (255 : Int32)) <<< ((0 : Int32) &&& 31)))])) (fun _ k => XS.iand W2.here hx rfl (hb hby dd_jdk_52_method_5_code_52) rfl k) ?_
  obtain ⟨T3, W3, st3⟩ := W2.getS hx (hw _ (List.mem_of_getElem? (i := 97) rfl)) Via.refl (W2.sta hE.2.2.2.2.2) (g := (mkF m 53 #[.val (.ref b0), .val (.int (1 : Int32))] [(.int (((c0 >>> ((8 : Int32) &&& 31)).toInt8.toInt32) &&& (255 : Int32))), (.int ((((c0 >>> ((0 : Int32) &&& 31)).toInt8.toInt32) &&& (255 : Int32)) <<< ((0 : Int32) &&& 31)))])) rfl (hb hby dd_jdk_52_method_5_code_53)
  refine Go.st (g' := (mkF m 56 #[.val (.ref b0), .val (.int (1 : Int32))] [(.int (8 : Int32)), (.int (((c0 >>> ((8 : Int32) &&& 31)).toInt8.toInt32) &&& (255 : Int32))), (.int ((((c0 >>> ((0 : Int32) &&& 31)).toInt8.toInt32) &&& (255 : Int32)) <<< ((0 : Int32) &&& 31)))])) st3 ?_
  refine Go.st (g' := (mkF m 57 #[.val (.ref b0), .val (.int (1 : Int32))] [(.int ((((c0 >>> ((8 : Int32) &&& 31)).toInt8.toInt32) &&& (255 : Int32)) <<< ((8 : Int32) &&& 31))), (.int ((((c0 >>> ((0 : Int32) &&& 31)).toInt8.toInt32) &&& (255 : Int32)) <<< ((0 : Int32) &&& 31)))])) (fun _ k => XS.ishl W3.here hx rfl (hb hby dd_jdk_52_method_5_code_56) rfl k) ?_
  refine Go.st (g' := (mkF m 58 #[.val (.ref b0), .val (.int (1 : Int32))] [(.int (((((c0 >>> ((0 : Int32) &&& 31)).toInt8.toInt32) &&& (255 : Int32)) <<< ((0 : Int32) &&& 31)) ||| ((((c0 >>> ((8 : Int32) &&& 31)).toInt8.toInt32) &&& (255 : Int32)) <<< ((8 : Int32) &&& 31))))])) (fun _ k => XS.ior W3.here hx rfl (hb hby dd_jdk_52_method_5_code_57) rfl k) ?_
  refine Go.st (g' := (mkF m 59 #[.val (.ref b0), .val (.int (1 : Int32))] [(.int ((((((c0 >>> ((0 : Int32) &&& 31)).toInt8.toInt32) &&& (255 : Int32)) <<< ((0 : Int32) &&& 31)) ||| ((((c0 >>> ((8 : Int32) &&& 31)).toInt8.toInt32) &&& (255 : Int32)) <<< ((8 : Int32) &&& 31))).toUInt32.toUInt16.toUInt32.toInt32))])) (fun _ k => XS.i2c W3.here hx rfl (hb hby dd_jdk_52_method_5_code_58) rfl k) ?_
  rw [own_join hc0]
  exact W3.retN hx hEL hlk (t := .char) hret (by decide) (hb hby dd_jdk_52_method_5_code_59) (by decide) (by decide) ⟨(congrArg (fun x => some (Value.int x)) (own_narC hc0)), rfl⟩
set_option maxRecDepth 65536 in
set_option maxHeartbeats 4000000 in
theorem own_cmp3_2_0 (l : Launch) {Z : State} {a0 : Array Value} (hE : Ctx Z a0) {n0 : Nat} {h0 : Heap} (O : Old Z n0 h0) {s0 : Addr} {ks : ClassId} {dd : Value} {c1 : Int32} {c2 : Int32} (hc1 : Chr c1) (hc2 : Chr c2) (hw1 : (255 : Int32) < c1) (P0 : Arv Z h0 s0 ks .char (2 : Int32) [(.int c1), (.int c2)] dd) :
    Met l (⟨"java/lang/StringUTF16", "compress", "([CII)[B"⟩ : MethodName) jdk_52_method_16_code 6 (Option.some (Jvm.ClassFile.FieldType.array Jvm.ClassFile.FieldType.byte)) ({ frames := 3, cells := 2, slots := 6, locals := 40 } : Room) Z consts_1 n0 [] #[(.ref s0), (.int (0 : Int32)), (.int (2 : Int32))] h0 (fun v h => ∃ (b : Addr), ∃ (kb : ClassId), v = some (.ref b) ∧ h0.size ≤ b ∧ Arv Z h b kb .byte (4 : Int32) [(.int ((c1 >>> ((0 : Int32) &&& 31)).toInt8.toInt32)), (.int ((c1 >>> ((8 : Int32) &&& 31)).toInt8.toInt32)), (.int ((c2 >>> ((0 : Int32) &&& 31)).toInt8.toInt32)), (.int ((c2 >>> ((8 : Int32) &&& 31)).toInt8.toInt32))] (.int (0 : Int32)) ∧ Keep h0 h []) := by
  have hw := hE.1
  have hEL := own_EW hw
  have own_wS := own_stringAtoms hw
  have hE1 := own_E1 hw
  refine Met.of (by first | (refine plainFor_of_name ?_; simp [plainName, overriddenIn]; done) | decide +kernel) O ?_
  intro p e s m below meth c T0 hx hby hml hret hlk hnm hh0 W0
  have z0 := W0.ge
  have yP0 : h0.size > s0 := P0.lt
  refine Go.st (g' := (mkF m 0 #[.val (.ref s0), .val (.int (0 : Int32)), .val (.int (2 : Int32)), .unset, .unset, .unset] [])) (fun _ k => castTop (by first | (simp [entryFrame, mkF, argsToLocals, maxLocals, own_catI, own_catJ, own_catD, own_catA, own_catN]; done) | rfl) k) ?_
  refine Go.st (g' := (mkF m 1 #[.val (.ref s0), .val (.int (0 : Int32)), .val (.int (2 : Int32)), .unset, .unset, .unset] [(.int (2 : Int32))])) (fun _ k => XS.iloadN W0.here hx rfl (hb hby dd_jdk_52_method_16_code_0) rfl  k) ?_
  obtain ⟨T1, h1, a1, k1, g1, W1, E1, z1, X1, S1, SF1, st1⟩ := W0.newP hx (ty := .byte) rfl (hw _ (List.mem_of_getElem? (i := 19) rfl)) (g := (mkF m 1 #[.val (.ref s0), .val (.int (0 : Int32)), .val (.int (2 : Int32)), .unset, .unset, .unset] [(.int (2 : Int32))])) rfl (hb hby dd_jdk_52_method_16_code_1) rfl (by decide) (cap := 2) (by decide) (by decide) (by decide) (by decide) 2
  have F2 : Arv Z h1 a1 k1 .byte (2 : Int32) [(.int (0 : Int32)), (.int (0 : Int32))] (.int (0 : Int32)) := X1
  refine Go.st (g' := (mkF m 3 #[.val (.ref s0), .val (.int (0 : Int32)), .val (.int (2 : Int32)), .unset, .unset, .unset] [(.ref a1)])) st1 ?_
  refine Go.st (g' := (mkF m 4 #[.val (.ref s0), .val (.int (0 : Int32)), .val (.int (2 : Int32)), .val (.ref a1), .unset, .unset] [])) (fun _ k => XS.astoreN W1.here hx rfl (hb hby dd_jdk_52_method_16_code_3) rfl rfl (l' := #[.val (.ref s0), .val (.int (0 : Int32)), .val (.int (2 : Int32)), .val (.ref a1), .unset, .unset]) rfl k) ?_
  refine Go.st (g' := (mkF m 5 #[.val (.ref s0), .val (.int (0 : Int32)), .val (.int (2 : Int32)), .val (.ref a1), .unset, .unset] [(.ref s0)])) (fun _ k => XS.aloadN W1.here hx rfl (hb hby dd_jdk_52_method_16_code_4) rfl rfl  k) ?_
  refine Go.st (g' := (mkF m 6 #[.val (.ref s0), .val (.int (0 : Int32)), .val (.int (2 : Int32)), .val (.ref a1), .unset, .unset] [(.int (0 : Int32)), (.ref s0)])) (fun _ k => XS.iloadN W1.here hx rfl (hb hby dd_jdk_52_method_16_code_5) rfl  k) ?_
  refine Go.st (g' := (mkF m 7 #[.val (.ref s0), .val (.int (0 : Int32)), .val (.int (2 : Int32)), .val (.ref a1), .unset, .unset] [(.ref a1), (.int (0 : Int32)), (.ref s0)])) (fun _ k => XS.aloadN W1.here hx rfl (hb hby dd_jdk_52_method_16_code_6) rfl rfl  k) ?_
  refine Go.st (g' := (mkF m 8 #[.val (.ref s0), .val (.int (0 : Int32)), .val (.int (2 : Int32)), .val (.ref a1), .unset, .unset] [(.int (0 : Int32)), (.ref a1), (.int (0 : Int32)), (.ref s0)])) (fun _ k => XS.iconst W1.here hx rfl (hb hby dd_jdk_52_method_16_code_7) k) ?_
  refine Go.st (g' := (mkF m 9 #[.val (.ref s0), .val (.int (0 : Int32)), .val (.int (2 : Int32)), .val (.ref a1), .unset, .unset] [(.int (2 : Int32)), (.int (0 : Int32)), (.ref a1), (.int (0 : Int32)), (.ref s0)])) (fun _ k => XS.iloadN W1.here hx rfl (hb hby dd_jdk_52_method_16_code_8) rfl  k) ?_
  have F4 : Arv Z h1 s0 ks .char (2 : Int32) [(.int c1), (.int c2)] dd := (P0.ext E1)
  obtain ⟨_, vm3, T3, h3, W3, Q3, z3, SF3, st3⟩ := W1.callS hx hEL (own_cmp5_2_0 l hE W1.old (s0 := s0) (ks := ks) (dd := dd) (b0 := a1) (kb := k1) (c1 := c1) (c2 := c2) (by omega) (by omega) hw1 F4 F2) (hw _ (List.mem_of_getElem? (i := 73) rfl)) (hw _ (List.mem_of_getElem? (i := 74) rfl)) (hw _ (List.mem_of_getElem? (i := 71) rfl)) (hw _ (List.mem_of_getElem? (i := 75) rfl)) (by decide) (Wd := 0) (by decide) (by decide) (by decide) (by decide) (g := (mkF m 9 #[.val (.ref s0), .val (.int (0 : Int32)), .val (.int (2 : Int32)), .val (.ref a1), .unset, .unset] [(.int (2 : Int32)), (.int (0 : Int32)), (.ref a1), (.int (0 : Int32)), (.ref s0)])) rfl (by rw [hml]; rfl) (argsL := [(.ref s0), (.int (0 : Int32)), (.ref a1), (.int (0 : Int32)), (.int (2 : Int32))]) (rest := []) rfl (lenOf pd___CI_BII_I rfl) rfl (by show 2 * 0 + _ ≤ _; exact Nat.le_of_eq rfl) (hb hby dd_jdk_52_method_16_code_9)
  obtain ⟨rfl, K3⟩ := Q3
  refine Go.tr (g' := (mkF m 12 #[.val (.ref s0), .val (.int (0 : Int32)), .val (.int (2 : Int32)), .val (.ref a1), .unset, .unset] [(.int (0 : Int32))])) st3 ?_
  refine Go.st (g' := (mkF m 14 #[.val (.ref s0), .val (.int (0 : Int32)), .val (.int (2 : Int32)), .val (.ref a1), .val (.int (0 : Int32)), .unset] [])) (fun _ k => XS.istore W3.here hx rfl (hb hby dd_jdk_52_method_16_code_12) rfl (l' := #[.val (.ref s0), .val (.int (0 : Int32)), .val (.int (2 : Int32)), .val (.ref a1), .val (.int (0 : Int32)), .unset]) rfl k) ?_
  refine Go.st (g' := (mkF m 16 #[.val (.ref s0), .val (.int (0 : Int32)), .val (.int (2 : Int32)), .val (.ref a1), .val (.int (0 : Int32)), .unset] [(.int (0 : Int32))])) (fun _ k => XS.iload W3.here hx rfl (hb hby dd_jdk_52_method_16_code_14) rfl  k) ?_
  refine Go.st (g' := (mkF m 17 #[.val (.ref s0), .val (.int (0 : Int32)), .val (.int (2 : Int32)), .val (.ref a1), .val (.int (0 : Int32)), .unset] [(.int (2 : Int32)), (.int (0 : Int32))])) (fun _ k => XS.iloadN W3.here hx rfl (hb hby dd_jdk_52_method_16_code_16) rfl  k) ?_
  refine Go.st (g' := (mkF m 20 #[.val (.ref s0), .val (.int (0 : Int32)), .val (.int (2 : Int32)), .val (.ref a1), .val (.int (0 : Int32)), .unset] [])) (fun _ k => XS.icmpNo W3.here hx rfl (hb hby dd_jdk_52_method_16_code_17) rfl (feq (by decide)).1 k) ?_
  refine Go.st (g' := (mkF m 21 #[.val (.ref s0), .val (.int (0 : Int32)), .val (.int (2 : Int32)), .val (.ref a1), .val (.int (0 : Int32)), .unset] [(.ref s0)])) (fun _ k => XS.aloadN W3.here hx rfl (hb hby dd_jdk_52_method_16_code_20) rfl rfl  k) ?_
  refine Go.st (g' := (mkF m 22 #[.val (.ref s0), .val (.int (0 : Int32)), .val (.int (2 : Int32)), .val (.ref a1), .val (.int (0 : Int32)), .unset] [(.int (0 : Int32)), (.ref s0)])) (fun _ k => XS.iloadN W3.here hx rfl (hb hby dd_jdk_52_method_16_code_21) rfl  k) ?_
  refine Go.st (g' := (mkF m 23 #[.val (.ref s0), .val (.int (0 : Int32)), .val (.int (2 : Int32)), .val (.ref a1), .val (.int (0 : Int32)), .unset] [(.int (2 : Int32)), (.int (0 : Int32)), (.ref s0)])) (fun _ k => XS.iloadN W3.here hx rfl (hb hby dd_jdk_52_method_16_code_22) rfl  k) ?_
  have F6 : Arv Z h3 s0 ks .char (2 : Int32) [(.int c1), (.int c2)] dd := (F4.keep K3 (ninS (own_ne (by omega)) nin0))
  obtain ⟨_, vm5, T5, h5, W5, Q5, z5, SF5, st5⟩ := W3.callS hx hEL (own_tb2 l hE W3.old (s0 := s0) (ks := ks) (dd := dd) (c1 := c1) (c2 := c2)  F6) (hw _ (List.mem_of_getElem? (i := 82) rfl)) (hw _ (List.mem_of_getElem? (i := 83) rfl)) (hw _ (List.mem_of_getElem? (i := 71) rfl)) (hw _ (List.mem_of_getElem? (i := 84) rfl)) (by decide) (Wd := 0) (by decide) (by decide) (by decide) (by decide) (g := (mkF m 23 #[.val (.ref s0), .val (.int (0 : Int32)), .val (.int (2 : Int32)), .val (.ref a1), .val (.int (0 : Int32)), .unset] [(.int (2 : Int32)), (.int (0 : Int32)), (.ref s0)])) rfl (by rw [hml]; rfl) (argsL := [(.ref s0), (.int (0 : Int32)), (.int (2 : Int32))]) (rest := []) rfl (lenOf pd___CII__B rfl) rfl (by show 2 * 0 + _ ≤ _; exact Nat.le_of_eq rfl) (hb hby dd_jdk_52_method_16_code_23)
  obtain ⟨b_5, kb_5, rfl, p5_0, f5_0, K5⟩ := Q5
  have yf5_0 : h5.size > b_5 := f5_0.lt
  refine Go.tr (g' := (mkF m 26 #[.val (.ref s0), .val (.int (0 : Int32)), .val (.int (2 : Int32)), .val (.ref a1), .val (.int (0 : Int32)), .unset] [(.ref b_5)])) st5 ?_
  refine Go.st (g' := (mkF m 28 #[.val (.ref s0), .val (.int (0 : Int32)), .val (.int (2 : Int32)), .val (.ref a1), .val (.int (0 : Int32)), .val (.ref b_5)] [])) (fun _ k => XS.astore W5.here hx rfl (hb hby dd_jdk_52_method_16_code_26) rfl rfl (l' := #[.val (.ref s0), .val (.int (0 : Int32)), .val (.int (2 : Int32)), .val (.ref a1), .val (.int (0 : Int32)), .val (.ref b_5)]) rfl k) ?_
  refine Go.st (g' := (mkF m 30 #[.val (.ref s0), .val (.int (0 : Int32)), .val (.int (2 : Int32)), .val (.ref a1), .val (.int (0 : Int32)), .val (.ref b_5)] [(.ref b_5)])) (fun _ k => XS.aload W5.here hx rfl (hb hby dd_jdk_52_method_16_code_28) rfl rfl  k) ?_
  refine Go.st (g' := (mkF m 32 #[.val (.ref s0), .val (.int (0 : Int32)), .val (.int (2 : Int32)), .val (.ref a1), .val (.int (0 : Int32)), .val (.ref b_5)] [(.int (0 : Int32)), (.ref b_5)])) (fun _ k => XS.iload W5.here hx rfl (hb hby dd_jdk_52_method_16_code_30) rfl  k) ?_
  obtain ⟨_, vm7, T7, h7, W7, Q7, z7, SF7, st7⟩ := W5.callS hx hEL (own_get0 l hE W5.old (b0 := b_5) (kb := kb_5) (zz := (4 : Int32)) (vs0 := [(.int ((c1 >>> ((0 : Int32) &&& 31)).toInt8.toInt32)), (.int ((c1 >>> ((8 : Int32) &&& 31)).toInt8.toInt32)), (.int ((c2 >>> ((0 : Int32) &&& 31)).toInt8.toInt32)), (.int ((c2 >>> ((8 : Int32) &&& 31)).toInt8.toInt32))]) (dd := (.int (0 : Int32))) (c0 := c1) hc1 (by decide) (by decide) rfl rfl f5_0) (hw _ (List.mem_of_getElem? (i := 98) rfl)) (hw _ (List.mem_of_getElem? (i := 99) rfl)) (hw _ (List.mem_of_getElem? (i := 71) rfl)) (hw _ (List.mem_of_getElem? (i := 100) rfl)) (by decide) (Wd := 0) (by decide) (by decide) (by decide) (by decide) (g := (mkF m 32 #[.val (.ref s0), .val (.int (0 : Int32)), .val (.int (2 : Int32)), .val (.ref a1), .val (.int (0 : Int32)), .val (.ref b_5)] [(.int (0 : Int32)), (.ref b_5)])) rfl (by rw [hml]; rfl) (argsL := [(.ref b_5), (.int (0 : Int32))]) (rest := []) rfl (lenOf pd___BI_C rfl) rfl (by show 2 * 0 + _ ≤ _; exact Nat.le_of_eq rfl) (hb hby dd_jdk_52_method_16_code_32)
  obtain ⟨rfl, eh7⟩ := Q7
  subst eh7
  refine Go.tr (g' := (mkF m 35 #[.val (.ref s0), .val (.int (0 : Int32)), .val (.int (2 : Int32)), .val (.ref a1), .val (.int (0 : Int32)), .val (.ref b_5)] [(.int c1)])) st7 ?_
  refine Go.st (g' := (mkF m 38 #[.val (.ref s0), .val (.int (0 : Int32)), .val (.int (2 : Int32)), .val (.ref a1), .val (.int (0 : Int32)), .val (.ref b_5)] [(.int (255 : Int32)), (.int c1)])) (fun _ k => XS.sipush W7.here hx rfl (hb hby dd_jdk_52_method_16_code_35) k) ?_
  refine Go.st (g' := (mkF m 54 #[.val (.ref s0), .val (.int (0 : Int32)), .val (.int (2 : Int32)), .val (.ref a1), .val (.int (0 : Int32)), .val (.ref b_5)] [])) (fun _ k => XS.icmpYes W7.here hx rfl (pc0 := 38) (pc' := 54) rfl (hb hby dd_jdk_52_method_16_code_38) rfl (tlt hw1).2.2.1 (by decide) (by decide) k) ?_
  refine Go.st (g' := (mkF m 56 #[.val (.ref s0), .val (.int (0 : Int32)), .val (.int (2 : Int32)), .val (.ref a1), .val (.int (0 : Int32)), .val (.ref b_5)] [(.ref b_5)])) (fun _ k => XS.aload W7.here hx rfl (hb hby dd_jdk_52_method_16_code_54) rfl rfl  k) ?_
  exact W7.retA hx hEL hlk hret rfl rfl rfl (hb hby dd_jdk_52_method_16_code_56) (by decide) (by decide) ⟨b_5, kb_5, rfl, (by omega), f5_0, ((((Keep.refl h0 []).ext E1).trans K3 (allS (Or.inr (by omega)) all0)).trans K5 all0)⟩
set_option maxRecDepth 65536 in
set_option maxHeartbeats 4000000 in
theorem own_i4_2_0 (l : Launch) {Z : State} {a0 : Array Value} (hE : Ctx Z a0) {n0 : Nat} {h0 : Heap} (O : Old Z n0 h0) {x0 : Addr} {s0 : Addr} {ks : ClassId} {dd : Value} {c1 : Int32} {c2 : Int32} (hx0 : n0 ≤ x0) (hsx : ¬ @Eq Nat s0 x0) (hc1 : Chr c1) (hc2 : Chr c2) (hw1 : (255 : Int32) < c1) (P0 : Exa Z h0 x0 "java/lang/String") (P1 : Fld Z h0 x0 "java/lang/String" "value" "[B" .null) (P2 : Fld Z h0 x0 "java/lang/String" "coder" "B" (.int (0 : Int32))) (P3 : Arv Z h0 s0 ks .char (2 : Int32) [(.int c1), (.int c2)] dd) :
    Met l (⟨"java/lang/String", "<init>", "([CIILjava/lang/Void;)V"⟩ : MethodName) jdk_42_method_149_code 6 (Option.none : Option Jvm.ClassFile.FieldType) ({ frames := 4, cells := 2, slots := 6, locals := 57 } : Room) Z consts_1 n0 [] #[(.ref x0), (.ref s0), (.int (0 : Int32)), (.int (2 : Int32)), .null] h0 (fun v h => ∃ (t : Addr), ∃ (kt : ClassId), v = none ∧ Fld Z h x0 "java/lang/String" "value" "[B" (.ref t) ∧ Fld Z h x0 "java/lang/String" "coder" "B" (.int (1 : Int32)) ∧ Arv Z h t kt .byte (4 : Int32) [(.int ((c1 >>> ((0 : Int32) &&& 31)).toInt8.toInt32)), (.int ((c1 >>> ((8 : Int32) &&& 31)).toInt8.toInt32)), (.int ((c2 >>> ((0 : Int32) &&& 31)).toInt8.toInt32)), (.int ((c2 >>> ((8 : Int32) &&& 31)).toInt8.toInt32))] (.int (0 : Int32)) ∧ Keep h0 h [x0]) := by
  have hw := hE.1
  have hEL := own_EW hw
  have own_wS := own_stringAtoms hw
  have hE1 := own_E1 hw
  obtain ⟨zc, hzc, hzc0⟩ := hE.2.1
  refine Met.of (by first | (refine plainFor_of_name ?_; simp [plainName, overriddenIn]; done) | decide +kernel) O ?_
  intro p e s m below meth c T0 hx hby hml hret hlk hnm hh0 W0
  have z0 := W0.ge
  have yP0 : h0.size > x0 := P0.lt
  have yP3 : h0.size > s0 := P3.lt
  refine Go.st (g' := (mkF m 0 #[.val (.ref x0), .val (.ref s0), .val (.int (0 : Int32)), .val (.int (2 : Int32)), .val .null, .unset] [])) (fun _ k => castTop (by first | (simp [entryFrame, mkF, argsToLocals, maxLocals, own_catI, own_catJ, own_catD, own_catA, own_catN]; done) | rfl) k) ?_
  refine Go.st (g' := (mkF m 1 #[.val (.ref x0), .val (.ref s0), .val (.int (0 : Int32)), .val (.int (2 : Int32)), .val .null, .unset] [(.ref x0)])) (fun _ k => XS.aloadN W0.here hx rfl (hb hby dd_jdk_42_method_149_code_0) rfl rfl  k) ?_
  obtain ⟨T1, W1, st1⟩ := W0.initO hx (hw _ (List.mem_of_getElem? (i := 24) rfl)) (hw _ (List.mem_of_getElem? (i := 25) rfl)) (hw _ (List.mem_of_getElem? (i := 26) rfl)) (g := (mkF m 1 #[.val (.ref x0), .val (.ref s0), .val (.int (0 : Int32)), .val (.int (2 : Int32)), .val .null, .unset] [(.ref x0)])) rfl (by rw [hml]; rfl) rfl (hb hby dd_jdk_42_method_149_code_1) (by decide) (Wd := 0) (by show 2 * 0 + _ ≤ _; exact Nat.le_of_eq rfl) (by decide)
  refine Go.st (g' := (mkF m 4 #[.val (.ref x0), .val (.ref s0), .val (.int (0 : Int32)), .val (.int (2 : Int32)), .val .null, .unset] [])) st1 ?_
  refine Go.st (g' := (mkF m 5 #[.val (.ref x0), .val (.ref s0), .val (.int (0 : Int32)), .val (.int (2 : Int32)), .val .null, .unset] [(.int (2 : Int32))])) (fun _ k => XS.iloadN W1.here hx rfl (hb hby dd_jdk_42_method_149_code_4) rfl  k) ?_
  refine Go.st (g' := (mkF m 27 #[.val (.ref x0), .val (.ref s0), .val (.int (0 : Int32)), .val (.int (2 : Int32)), .val .null, .unset] [])) (fun _ k => XS.ifYes W1.here hx rfl (pc0 := 5) (pc' := 27) rfl (hb hby dd_jdk_42_method_149_code_5) rfl ((if0 _ _).trans (feq (by decide)).2) (by decide) (by decide) k) ?_
  obtain ⟨T2, W2, st2⟩ := W1.getS hx (hw _ (List.mem_of_getElem? (i := 9) rfl)) Via.refl (W1.sta hzc) (g := (mkF m 27 #[.val (.ref x0), .val (.ref s0), .val (.int (0 : Int32)), .val (.int (2 : Int32)), .val .null, .unset] [])) rfl (hb hby dd_jdk_42_method_149_code_27)
  refine Go.st (g' := (mkF m 30 #[.val (.ref x0), .val (.ref s0), .val (.int (0 : Int32)), .val (.int (2 : Int32)), .val .null, .unset] [(.int zc)])) st2 ?_
  refine Go.st (g' := (mkF m 33 #[.val (.ref x0), .val (.ref s0), .val (.int (0 : Int32)), .val (.int (2 : Int32)), .val .null, .unset] [])) (fun _ k => XS.ifNo W2.here hx rfl (hb hby dd_jdk_42_method_149_code_30) rfl ((if0 _ _).trans (feq hzc0).1) k) ?_
  refine Go.st (g' := (mkF m 34 #[.val (.ref x0), .val (.ref s0), .val (.int (0 : Int32)), .val (.int (2 : Int32)), .val .null, .unset] [(.ref s0)])) (fun _ k => XS.aloadN W2.here hx rfl (hb hby dd_jdk_42_method_149_code_33) rfl rfl  k) ?_
  refine Go.st (g' := (mkF m 35 #[.val (.ref x0), .val (.ref s0), .val (.int (0 : Int32)), .val (.int (2 : Int32)), .val .null, .unset] [(.int (0 : Int32)), (.ref s0)])) (fun _ k => XS.iloadN W2.here hx rfl (hb hby dd_jdk_42_method_149_code_34) rfl  k) ?_
  refine Go.st (g' := (mkF m 36 #[.val (.ref x0), .val (.ref s0), .val (.int (0 : Int32)), .val (.int (2 : Int32)), .val .null, .unset] [(.int (2 : Int32)), (.int (0 : Int32)), (.ref s0)])) (fun _ k => XS.iloadN W2.here hx rfl (hb hby dd_jdk_42_method_149_code_35) rfl  k) ?_
  obtain ⟨_, vm3, T3, h3, W3, Q3, z3, SF3, st3⟩ := W2.callS hx hEL (own_cmp3_2_0 l hE W2.old (s0 := s0) (ks := ks) (dd := dd) (c1 := c1) (c2 := c2) hc1 hc2 hw1 P3) (hw _ (List.mem_of_getElem? (i := 69) rfl)) (hw _ (List.mem_of_getElem? (i := 70) rfl)) (hw _ (List.mem_of_getElem? (i := 71) rfl)) (hw _ (List.mem_of_getElem? (i := 72) rfl)) (by decide) (Wd := 0) (by decide) (by decide) (by decide) (by decide) (g := (mkF m 36 #[.val (.ref x0), .val (.ref s0), .val (.int (0 : Int32)), .val (.int (2 : Int32)), .val .null, .unset] [(.int (2 : Int32)), (.int (0 : Int32)), (.ref s0)])) rfl (by rw [hml]; rfl) (argsL := [(.ref s0), (.int (0 : Int32)), (.int (2 : Int32))]) (rest := []) rfl (lenOf pd___CII__B rfl) rfl (by show 2 * 0 + _ ≤ _; exact Nat.le_of_eq rfl) (hb hby dd_jdk_42_method_149_code_36)
  obtain ⟨b_3, kb_3, rfl, p3_0, f3_0, K3⟩ := Q3
  have yf3_0 : h3.size > b_3 := f3_0.lt
  refine Go.tr (g' := (mkF m 39 #[.val (.ref x0), .val (.ref s0), .val (.int (0 : Int32)), .val (.int (2 : Int32)), .val .null, .unset] [(.ref b_3)])) st3 ?_
  refine Go.st (g' := (mkF m 41 #[.val (.ref x0), .val (.ref s0), .val (.int (0 : Int32)), .val (.int (2 : Int32)), .val .null, .val (.ref b_3)] [])) (fun _ k => XS.astore W3.here hx rfl (hb hby dd_jdk_42_method_149_code_39) rfl rfl (l' := #[.val (.ref x0), .val (.ref s0), .val (.int (0 : Int32)), .val (.int (2 : Int32)), .val .null, .val (.ref b_3)]) rfl k) ?_
  refine Go.st (g' := (mkF m 42 #[.val (.ref x0), .val (.ref s0), .val (.int (0 : Int32)), .val (.int (2 : Int32)), .val .null, .val (.ref b_3)] [(.ref x0)])) (fun _ k => XS.aloadN W3.here hx rfl (hb hby dd_jdk_42_method_149_code_41) rfl rfl  k) ?_
  refine Go.st (g' := (mkF m 44 #[.val (.ref x0), .val (.ref s0), .val (.int (0 : Int32)), .val (.int (2 : Int32)), .val .null, .val (.ref b_3)] [(.ref b_3), (.ref x0)])) (fun _ k => XS.aload W3.here hx rfl (hb hby dd_jdk_42_method_149_code_42) rfl rfl  k) ?_
  refine Go.st (g' := (mkF m 45 #[.val (.ref x0), .val (.ref s0), .val (.int (0 : Int32)), .val (.int (2 : Int32)), .val .null, .val (.ref b_3)] [(.int (2 : Int32)), (.ref b_3), (.ref x0)])) (fun _ k => XS.iloadN W3.here hx rfl (hb hby dd_jdk_42_method_149_code_44) rfl  k) ?_
  obtain ⟨_, vm4, T4, h4, W4, Q4, z4, SF4, st4⟩ := W3.callS hx hEL (own_cfal2 l hE W3.old (b0 := b_3) (kb := kb_3) (vs0 := [(.int ((c1 >>> ((0 : Int32) &&& 31)).toInt8.toInt32)), (.int ((c1 >>> ((8 : Int32) &&& 31)).toInt8.toInt32)), (.int ((c2 >>> ((0 : Int32) &&& 31)).toInt8.toInt32)), (.int ((c2 >>> ((8 : Int32) &&& 31)).toInt8.toInt32))]) (dd := (.int (0 : Int32)))  f3_0) (hw _ (List.mem_of_getElem? (i := 76) rfl)) (hw _ (List.mem_of_getElem? (i := 77) rfl)) (hw _ (List.mem_of_getElem? (i := 71) rfl)) (hw _ (List.mem_of_getElem? (i := 78) rfl)) (by decide) (Wd := 1) (by decide) (by decide) (by decide) (by decide) (g := (mkF m 45 #[.val (.ref x0), .val (.ref s0), .val (.int (0 : Int32)), .val (.int (2 : Int32)), .val .null, .val (.ref b_3)] [(.int (2 : Int32)), (.ref b_3), (.ref x0)])) rfl (by rw [hml]; rfl) (argsL := [(.ref b_3), (.int (2 : Int32))]) (rest := [(.ref x0)]) rfl (lenOf pd___BI_B rfl) rfl (by show 2 * 0 + _ ≤ _; exact Nat.le_of_eq rfl) (hb hby dd_jdk_42_method_149_code_45)
  obtain ⟨rfl, eh4⟩ := Q4
  subst eh4
  refine Go.tr (g' := (mkF m 48 #[.val (.ref x0), .val (.ref s0), .val (.int (0 : Int32)), .val (.int (2 : Int32)), .val .null, .val (.ref b_3)] [(.int (1 : Int32)), (.ref x0)])) st4 ?_
  have F6 : Fld Z h3 x0 "java/lang/String" "coder" "B" (.int (0 : Int32)) := (P2.keep K3 nin0)
  have F7 : Exa Z h3 x0 "java/lang/String" := (P0.keep K3)
  have F8 : Fld Z h3 x0 "java/lang/String" "value" "[B" .null := (P1.keep K3 nin0)
  have S9 : Safe Z consts_1 vm4 h3 x0 := own_safe_blank W4.warm.alike F7 F8
  obtain ⟨T5, h5, W5, R5, z5, X5, SF5, st5⟩ := W4.putF hx (hw _ (List.mem_of_getElem? (i := 29) rfl)) Via.refl F6 F7 (Or.inr ⟨(hw _ (List.mem_of_getElem? (i := 30) rfl)), rfl, hnm⟩) (hw _ (List.mem_of_getElem? (i := 15) rfl)) (ty := .byte) (by decide) rfl rfl S9 (by omega) (g := (mkF m 48 #[.val (.ref x0), .val (.ref s0), .val (.int (0 : Int32)), .val (.int (2 : Int32)), .val .null, .val (.ref b_3)] [(.int (1 : Int32)), (.ref x0)])) rfl rfl (hb hby dd_jdk_42_method_149_code_48)
  refine Go.st (g' := (mkF m 51 #[.val (.ref x0), .val (.ref s0), .val (.int (0 : Int32)), .val (.int (2 : Int32)), .val .null, .val (.ref b_3)] [])) st5 ?_
  refine Go.st (g' := (mkF m 52 #[.val (.ref x0), .val (.ref s0), .val (.int (0 : Int32)), .val (.int (2 : Int32)), .val .null, .val (.ref b_3)] [(.ref x0)])) (fun _ k => XS.aloadN W5.here hx rfl (hb hby dd_jdk_42_method_149_code_51) rfl rfl  k) ?_
  refine Go.st (g' := (mkF m 54 #[.val (.ref x0), .val (.ref s0), .val (.int (0 : Int32)), .val (.int (2 : Int32)), .val .null, .val (.ref b_3)] [(.ref b_3), (.ref x0)])) (fun _ k => XS.aload W5.here hx rfl (hb hby dd_jdk_42_method_149_code_52) rfl rfl  k) ?_
  have F11 : Fld Z h5 x0 "java/lang/String" "value" "[B" .null := (F8.other R5 (Or.inr (slot_ne (Or.inr (hw _ (List.mem_of_getElem? (i := 28) rfl))) (Or.inr (hw _ (List.mem_of_getElem? (i := 30) rfl))) (by decide) (t := (.array .byte)) (t' := .byte) (by decide) (by decide))))
  have F12 : Exa Z h5 x0 "java/lang/String" := (F7.wr R5)
  have F13 : Safe Z consts_1 vm4 h5 x0 := (SF5 _ (by omega) S9)
  obtain ⟨T10, h10, W10, R10, z10, X10, SF10, st10⟩ := W5.putF hx (hw _ (List.mem_of_getElem? (i := 27) rfl)) Via.refl F11 F12 (Or.inr ⟨(hw _ (List.mem_of_getElem? (i := 28) rfl)), rfl, hnm⟩) (hw _ (List.mem_of_getElem? (i := 15) rfl)) (ty := (.array .byte)) (by decide) rfl rfl F13 (by omega) (g := (mkF m 54 #[.val (.ref x0), .val (.ref s0), .val (.int (0 : Int32)), .val (.int (2 : Int32)), .val .null, .val (.ref b_3)] [(.ref b_3), (.ref x0)])) rfl rfl (hb hby dd_jdk_42_method_149_code_54)
  refine Go.st (g' := (mkF m 57 #[.val (.ref x0), .val (.ref s0), .val (.int (0 : Int32)), .val (.int (2 : Int32)), .val .null, .val (.ref b_3)] [])) st10 ?_
  have F14 : Fld Z h10 x0 "java/lang/String" "coder" "B" (.int (1 : Int32)) := (X5.other R10 (Or.inr (slot_ne (Or.inr (hw _ (List.mem_of_getElem? (i := 30) rfl))) (Or.inr (hw _ (List.mem_of_getElem? (i := 28) rfl))) (by decide) (t := .byte) (t' := (.array .byte)) (by decide) (by decide))))
  have F15 : Arv Z h10 b_3 kb_3 .byte (4 : Int32) [(.int ((c1 >>> ((0 : Int32) &&& 31)).toInt8.toInt32)), (.int ((c1 >>> ((8 : Int32) &&& 31)).toInt8.toInt32)), (.int ((c2 >>> ((0 : Int32) &&& 31)).toInt8.toInt32)), (.int ((c2 >>> ((8 : Int32) &&& 31)).toInt8.toInt32))] (.int (0 : Int32)) := ((f3_0.other R5 (own_ne (by omega))).other R10 (own_ne (by omega)))
  exact W10.retV hx hEL hlk hret (hb hby dd_jdk_42_method_149_code_57) (by decide) (by decide) ⟨b_3, kb_3, rfl, X10, F14, F15, ((((Keep.refl h0 [x0]).trans K3 all0).wr R5 (Or.inl (List.mem_of_getElem? (i := 0) rfl))).wr R10 (Or.inl (List.mem_of_getElem? (i := 0) rfl)))⟩
set_option maxRecDepth 65536 in
set_option maxHeartbeats 4000000 in
theorem own_cmp5_2_1 (l : Launch) {Z : State} {a0 : Array Value} (hE : Ctx Z a0) {n0 : Nat} {h0 : Heap} (O : Old Z n0 h0) {s0 : Addr} {ks : ClassId} {dd : Value} {b0 : Addr} {kb : ClassId} {c1 : Int32} {c2 : Int32} (hb0 : n0 ≤ b0) (hsb : ¬ @Eq Nat s0 b0) (hw1 : ¬ (255 : Int32) < c1) (hw2 : (255 : Int32) < c2) (P0 : Arv Z h0 s0 ks .char (2 : Int32) [(.int c1), (.int c2)] dd) (P1 : Arv Z h0 b0 kb .byte (2 : Int32) [(.int (0 : Int32)), (.int (0 : Int32))] (.int (0 : Int32))) :
    Met l (⟨"java/lang/StringUTF16", "compress", "([CI[BII)I"⟩ : MethodName) jdk_52_method_21_code 7 (Option.some Jvm.ClassFile.FieldType.int) ({ frames := 0, cells := 0, slots := 0, locals := 0 } : Room) Z consts_1 n0 [] #[(.ref s0), (.int (0 : Int32)), (.ref b0), (.int (0 : Int32)), (.int (2 : Int32))] h0 (fun v h => v = some (.int (1 : Int32)) ∧ Keep h0 h [b0]) := by
  have hw := hE.1
  have hEL := own_EW hw
  have own_wS := own_stringAtoms hw
  have hE1 := own_E1 hw
  refine Met.of (by first | (refine plainFor_of_name ?_; simp [plainName, overriddenIn]; done) | decide +kernel) O ?_
  intro p e s m below meth c T0 hx hby hml hret hlk hnm hh0 W0
  have z0 := W0.ge
  have yP0 : h0.size > s0 := P0.lt
  have yP1 : h0.size > b0 := P1.lt
  refine Go.st (g' := (mkF m 0 #[.val (.ref s0), .val (.int (0 : Int32)), .val (.ref b0), .val (.int (0 : Int32)), .val (.int (2 : Int32)), .unset, .unset] [])) (fun _ k => castTop (by first | (simp [entryFrame, mkF, argsToLocals, maxLocals, own_catI, own_catJ, own_catD, own_catA, own_catN]; done) | rfl) k) ?_
  refine Go.st (g' := (mkF m 1 #[.val (.ref s0), .val (.int (0 : Int32)), .val (.ref b0), .val (.int (0 : Int32)), .val (.int (2 : Int32)), .unset, .unset] [(.int (0 : Int32))])) (fun _ k => XS.iconst W0.here hx rfl (hb hby dd_jdk_52_method_21_code_0) k) ?_
  refine Go.st (g' := (mkF m 3 #[.val (.ref s0), .val (.int (0 : Int32)), .val (.ref b0), .val (.int (0 : Int32)), .val (.int (2 : Int32)), .val (.int (0 : Int32)), .unset] [])) (fun _ k => XS.istore W0.here hx rfl (hb hby dd_jdk_52_method_21_code_1) rfl (l' := #[.val (.ref s0), .val (.int (0 : Int32)), .val (.ref b0), .val (.int (0 : Int32)), .val (.int (2 : Int32)), .val (.int (0 : Int32)), .unset]) rfl k) ?_
  refine Go.st (g' := (mkF m 5 #[.val (.ref s0), .val (.int (0 : Int32)), .val (.ref b0), .val (.int (0 : Int32)), .val (.int (2 : Int32)), .val (.int (0 : Int32)), .unset] [(.int (0 : Int32))])) (fun _ k => XS.iload W0.here hx rfl (hb hby dd_jdk_52_method_21_code_3) rfl  k) ?_
  refine Go.st (g' := (mkF m 7 #[.val (.ref s0), .val (.int (0 : Int32)), .val (.ref b0), .val (.int (0 : Int32)), .val (.int (2 : Int32)), .val (.int (0 : Int32)), .unset] [(.int (2 : Int32)), (.int (0 : Int32))])) (fun _ k => XS.iload W0.here hx rfl (hb hby dd_jdk_52_method_21_code_5) rfl  k) ?_
  refine Go.st (g' := (mkF m 10 #[.val (.ref s0), .val (.int (0 : Int32)), .val (.ref b0), .val (.int (0 : Int32)), .val (.int (2 : Int32)), .val (.int (0 : Int32)), .unset] [])) (fun _ k => XS.icmpNo W0.here hx rfl (hb hby dd_jdk_52_method_21_code_7) rfl (tlt (by decide)).2.1 k) ?_
  refine Go.st (g' := (mkF m 11 #[.val (.ref s0), .val (.int (0 : Int32)), .val (.ref b0), .val (.int (0 : Int32)), .val (.int (2 : Int32)), .val (.int (0 : Int32)), .unset] [(.ref s0)])) (fun _ k => XS.aloadN W0.here hx rfl (hb hby dd_jdk_52_method_21_code_10) rfl rfl  k) ?_
  refine Go.st (g' := (mkF m 12 #[.val (.ref s0), .val (.int (0 : Int32)), .val (.ref b0), .val (.int (0 : Int32)), .val (.int (2 : Int32)), .val (.int (0 : Int32)), .unset] [(.int (0 : Int32)), (.ref s0)])) (fun _ k => XS.iloadN W0.here hx rfl (hb hby dd_jdk_52_method_21_code_11) rfl  k) ?_
  refine Go.st (g' := (mkF m 13 #[.val (.ref s0), .val (.int (0 : Int32)), .val (.ref b0), .val (.int (0 : Int32)), .val (.int (2 : Int32)), .val (.int (0 : Int32)), .unset] [(.int c1)])) (W0.ldC hx P0 (j := (0 : Int32)) ⟨by decide, by decide⟩ (v := .int c1) rfl (g := (mkF m 12 #[.val (.ref s0), .val (.int (0 : Int32)), .val (.ref b0), .val (.int (0 : Int32)), .val (.int (2 : Int32)), .val (.int (0 : Int32)), .unset] [(.int (0 : Int32)), (.ref s0)])) rfl rfl (hb hby dd_jdk_52_method_21_code_12)) ?_
  refine Go.st (g' := (mkF m 15 #[.val (.ref s0), .val (.int (0 : Int32)), .val (.ref b0), .val (.int (0 : Int32)), .val (.int (2 : Int32)), .val (.int (0 : Int32)), .val (.int c1)] [])) (fun _ k => XS.istore W0.here hx rfl (hb hby dd_jdk_52_method_21_code_13) rfl (l' := #[.val (.ref s0), .val (.int (0 : Int32)), .val (.ref b0), .val (.int (0 : Int32)), .val (.int (2 : Int32)), .val (.int (0 : Int32)), .val (.int c1)]) rfl k) ?_
  refine Go.st (g' := (mkF m 17 #[.val (.ref s0), .val (.int (0 : Int32)), .val (.ref b0), .val (.int (0 : Int32)), .val (.int (2 : Int32)), .val (.int (0 : Int32)), .val (.int c1)] [(.int c1)])) (fun _ k => XS.iload W0.here hx rfl (hb hby dd_jdk_52_method_21_code_15) rfl  k) ?_
  refine Go.st (g' := (mkF m 20 #[.val (.ref s0), .val (.int (0 : Int32)), .val (.ref b0), .val (.int (0 : Int32)), .val (.int (2 : Int32)), .val (.int (0 : Int32)), .val (.int c1)] [(.int (255 : Int32)), (.int c1)])) (fun _ k => XS.sipush W0.here hx rfl (hb hby dd_jdk_52_method_21_code_17) k) ?_
  refine Go.st (g' := (mkF m 26 #[.val (.ref s0), .val (.int (0 : Int32)), .val (.ref b0), .val (.int (0 : Int32)), .val (.int (2 : Int32)), .val (.int (0 : Int32)), .val (.int c1)] [])) (fun _ k => XS.icmpYes W0.here hx rfl (pc0 := 20) (pc' := 26) rfl (hb hby dd_jdk_52_method_21_code_20) rfl (flt hw1).2.2.2 (by decide) (by decide) k) ?_
  refine Go.st (g' := (mkF m 27 #[.val (.ref s0), .val (.int (0 : Int32)), .val (.ref b0), .val (.int (0 : Int32)), .val (.int (2 : Int32)), .val (.int (0 : Int32)), .val (.int c1)] [(.ref b0)])) (fun _ k => XS.aloadN W0.here hx rfl (hb hby dd_jdk_52_method_21_code_26) rfl rfl  k) ?_
  refine Go.st (g' := (mkF m 28 #[.val (.ref s0), .val (.int (0 : Int32)), .val (.ref b0), .val (.int (0 : Int32)), .val (.int (2 : Int32)), .val (.int (0 : Int32)), .val (.int c1)] [(.int (0 : Int32)), (.ref b0)])) (fun _ k => XS.iloadN W0.here hx rfl (hb hby dd_jdk_52_method_21_code_27) rfl  k) ?_
  refine Go.st (g' := (mkF m 30 #[.val (.ref s0), .val (.int (0 : Int32)), .val (.ref b0), .val (.int (0 : Int32)), .val (.int (2 : Int32)), .val (.int (0 : Int32)), .val (.int c1)] [(.int c1), (.int (0 : Int32)), (.ref b0)])) (fun _ k => XS.iload W0.here hx rfl (hb hby dd_jdk_52_method_21_code_28) rfl  k) ?_
  refine Go.st (g' := (mkF m 31 #[.val (.ref s0), .val (.int (0 : Int32)), .val (.ref b0), .val (.int (0 : Int32)), .val (.int (2 : Int32)), .val (.int (0 : Int32)), .val (.int c1)] [(.int (c1.toInt8.toInt32)), (.int (0 : Int32)), (.ref b0)])) (fun _ k => XS.i2b W0.here hx rfl (hb hby dd_jdk_52_method_21_code_30) rfl k) ?_
  obtain ⟨T1, h1, W1, R1, z1, X1, SF1, st1⟩ := W0.stB hx P1 (own_safeB W0.warm hE1 P1 (by decide)) ⟨by decide, by decide⟩ 0 rfl (Nat.le_of_ble_eq_true rfl) (by omega) (g := (mkF m 31 #[.val (.ref s0), .val (.int (0 : Int32)), .val (.ref b0), .val (.int (0 : Int32)), .val (.int (2 : Int32)), .val (.int (0 : Int32)), .val (.int c1)] [(.int (c1.toInt8.toInt32)), (.int (0 : Int32)), (.ref b0)])) rfl rfl (hb hby dd_jdk_52_method_21_code_31)
  have F2 : Arv Z h1 b0 kb .byte (2 : Int32) [(.int (c1.toInt8.toInt32)), (.int (0 : Int32))] (.int (0 : Int32)) := (by have q := X1; rw [show nar .byte (c1.toInt8.toInt32) = (c1.toInt8.toInt32) from own_narB _] at q; exact q)
  refine Go.st (g' := (mkF m 32 #[.val (.ref s0), .val (.int (0 : Int32)), .val (.ref b0), .val (.int (0 : Int32)), .val (.int (2 : Int32)), .val (.int (0 : Int32)), .val (.int c1)] [])) st1 ?_
  refine Go.st (g' := (mkF m 35 #[.val (.ref s0), .val (.int (1 : Int32)), .val (.ref b0), .val (.int (0 : Int32)), .val (.int (2 : Int32)), .val (.int (0 : Int32)), .val (.int c1)] [])) (fun _ k => XS.iinc W1.here hx rfl (hb hby dd_jdk_52_method_21_code_32) rfl (l' := #[.val (.ref s0), .val (.int (1 : Int32)), .val (.ref b0), .val (.int (0 : Int32)), .val (.int (2 : Int32)), .val (.int (0 : Int32)), .val (.int c1)]) rfl k) ?_
  refine Go.st (g' := (mkF m 38 #[.val (.ref s0), .val (.int (1 : Int32)), .val (.ref b0), .val (.int (1 : Int32)), .val (.int (2 : Int32)), .val (.int (0 : Int32)), .val (.int c1)] [])) (fun _ k => XS.iinc W1.here hx rfl (hb hby dd_jdk_52_method_21_code_35) rfl (l' := #[.val (.ref s0), .val (.int (1 : Int32)), .val (.ref b0), .val (.int (1 : Int32)), .val (.int (2 : Int32)), .val (.int (0 : Int32)), .val (.int c1)]) rfl k) ?_
  refine Go.st (g' := (mkF m 41 #[.val (.ref s0), .val (.int (1 : Int32)), .val (.ref b0), .val (.int (1 : Int32)), .val (.int (2 : Int32)), .val (.int (1 : Int32)), .val (.int c1)] [])) (fun _ k => XS.iinc W1.here hx rfl (hb hby dd_jdk_52_method_21_code_38) rfl (l' := #[.val (.ref s0), .val (.int (1 : Int32)), .val (.ref b0), .val (.int (1 : Int32)), .val (.int (2 : Int32)), .val (.int (1 : Int32)), .val (.int c1)]) rfl k) ?_
  refine Go.st (g' := (mkF m 3 #[.val (.ref s0), .val (.int (1 : Int32)), .val (.ref b0), .val (.int (1 : Int32)), .val (.int (2 : Int32)), .val (.int (1 : Int32)), .val (.int c1)] [])) (fun _ k => XS.goto W1.here hx rfl (pc0 := 41) (pc' := 3) rfl (hb hby dd_jdk_52_method_21_code_41) (by decide) (by decide) k) ?_
  refine Go.st (g' := (mkF m 5 #[.val (.ref s0), .val (.int (1 : Int32)), .val (.ref b0), .val (.int (1 : Int32)), .val (.int (2 : Int32)), .val (.int (1 : Int32)), .val (.int c1)] [(.int (1 : Int32))])) (fun _ k => XS.iload W1.here hx rfl (hb hby dd_jdk_52_method_21_code_3) rfl  k) ?_
  refine Go.st (g' := (mkF m 7 #[.val (.ref s0), .val (.int (1 : Int32)), .val (.ref b0), .val (.int (1 : Int32)), .val (.int (2 : Int32)), .val (.int (1 : Int32)), .val (.int c1)] [(.int (2 : Int32)), (.int (1 : Int32))])) (fun _ k => XS.iload W1.here hx rfl (hb hby dd_jdk_52_method_21_code_5) rfl  k) ?_
  refine Go.st (g' := (mkF m 10 #[.val (.ref s0), .val (.int (1 : Int32)), .val (.ref b0), .val (.int (1 : Int32)), .val (.int (2 : Int32)), .val (.int (1 : Int32)), .val (.int c1)] [])) (fun _ k => XS.icmpNo W1.here hx rfl (hb hby dd_jdk_52_method_21_code_7) rfl (tlt (by decide)).2.1 k) ?_
  refine Go.st (g' := (mkF m 11 #[.val (.ref s0), .val (.int (1 : Int32)), .val (.ref b0), .val (.int (1 : Int32)), .val (.int (2 : Int32)), .val (.int (1 : Int32)), .val (.int c1)] [(.ref s0)])) (fun _ k => XS.aloadN W1.here hx rfl (hb hby dd_jdk_52_method_21_code_10) rfl rfl  k) ?_
  refine Go.st (g' := (mkF m 12 #[.val (.ref s0), .val (.int (1 : Int32)), .val (.ref b0), .val (.int (1 : Int32)), .val (.int (2 : Int32)), .val (.int (1 : Int32)), .val (.int c1)] [(.int (1 : Int32)), (.ref s0)])) (fun _ k => XS.iloadN W1.here hx rfl (hb hby dd_jdk_52_method_21_code_11) rfl  k) ?_
  have F3 : Arv Z h1 s0 ks .char (2 : Int32) [(.int c1), (.int c2)] dd := (P0.other R1 (own_ne (by omega)))
  refine Go.st (g' := (mkF m 13 #[.val (.ref s0), .val (.int (1 : Int32)), .val (.ref b0), .val (.int (1 : Int32)), .val (.int (2 : Int32)), .val (.int (1 : Int32)), .val (.int c1)] [(.int c2)])) (W1.ldC hx F3 (j := (1 : Int32)) ⟨by decide, by decide⟩ (v := .int c2) rfl (g := (mkF m 12 #[.val (.ref s0), .val (.int (1 : Int32)), .val (.ref b0), .val (.int (1 : Int32)), .val (.int (2 : Int32)), .val (.int (1 : Int32)), .val (.int c1)] [(.int (1 : Int32)), (.ref s0)])) rfl rfl (hb hby dd_jdk_52_method_21_code_12)) ?_
  refine Go.st (g' := (mkF m 15 #[.val (.ref s0), .val (.int (1 : Int32)), .val (.ref b0), .val (.int (1 : Int32)), .val (.int (2 : Int32)), .val (.int (1 : Int32)), .val (.int c2)] [])) (fun _ k => XS.istore W1.here hx rfl (hb hby dd_jdk_52_method_21_code_13) rfl (l' := #[.val (.ref s0), .val (.int (1 : Int32)), .val (.ref b0), .val (.int (1 : Int32)), .val (.int (2 : Int32)), .val (.int (1 : Int32)), .val (.int c2)]) rfl k) ?_
  refine Go.st (g' := (mkF m 17 #[.val (.ref s0), .val (.int (1 : Int32)), .val (.ref b0), .val (.int (1 : Int32)), .val (.int (2 : Int32)), .val (.int (1 : Int32)), .val (.int c2)] [(.int c2)])) (fun _ k => XS.iload W1.here hx rfl (hb hby dd_jdk_52_method_21_code_15) rfl  k) ?_
  refine Go.st (g' := (mkF m 20 #[.val (.ref s0), .val (.int (1 : Int32)), .val (.ref b0), .val (.int (1 : Int32)), .val (.int (2 : Int32)), .val (.int (1 : Int32)), .val (.int c2)] [(.int (255 : Int32)), (.int c2)])) (fun _ k => XS.sipush W1.here hx rfl (hb hby dd_jdk_52_method_21_code_17) k) ?_
  refine Go.st (g' := (mkF m 23 #[.val (.ref s0), .val (.int (1 : Int32)), .val (.ref b0), .val (.int (1 : Int32)), .val (.int (2 : Int32)), .val (.int (1 : Int32)), .val (.int c2)] [])) (fun _ k => XS.icmpNo W1.here hx rfl (hb hby dd_jdk_52_method_21_code_20) rfl (tlt hw2).2.2.2 k) ?_
  refine Go.st (g' := (mkF m 25 #[.val (.ref s0), .val (.int (1 : Int32)), .val (.ref b0), .val (.int (1 : Int32)), .val (.int (2 : Int32)), .val (.int (1 : Int32)), .val (.int c2)] [(.int (1 : Int32))])) (fun _ k => XS.iload W1.here hx rfl (hb hby dd_jdk_52_method_21_code_23) rfl  k) ?_
  exact W1.retI hx hEL hlk hret (hb hby dd_jdk_52_method_21_code_25) (by decide) (by decide) ⟨rfl, ((Keep.refl h0 [b0]).wr R1 (Or.inl (List.mem_of_getElem? (i := 0) rfl)))⟩
set_option maxRecDepth 65536 in
set_option maxHeartbeats 4000000 in
theorem own_get1 (l : Launch) {Z : State} {a0 : Array Value} (hE : Ctx Z a0) {n0 : Nat} {h0 : Heap} (O : Old Z n0 h0) {b0 : Addr} {kb : ClassId} {zz : Int32} {vs0 : List Value} {dd : Value} {c0 : Int32} (hc0 : Chr c0) (hza : (2 : Int32) < zz) (hzb : (3 : Int32) < zz) (hva : vs0.getD 2 dd = .int ((c0 >>> ((0 : Int32) &&& 31)).toInt8.toInt32)) (hvb : vs0.getD 3 dd = .int ((c0 >>> ((8 : Int32) &&& 31)).toInt8.toInt32)) (P0 : Arv Z h0 b0 kb .byte zz vs0 dd) :
    Met l (⟨"java/lang/StringUTF16", "getChar", "([BI)C"⟩ : MethodName) jdk_52_method_5_code 2 (Option.some Jvm.ClassFile.FieldType.char) ({ frames := 0, cells := 0, slots := 0, locals := 0 } : Room) Z consts_1 n0 [] #[(.ref b0), (.int (1 : Int32))] h0 (fun v h => v = some (.int c0) ∧ h0 = h) := by
  have hw := hE.1
  have hEL := own_EW hw
  have own_wS := own_stringAtoms hw
  have hE1 := own_E1 hw
  refine Met.of (by first | (refine plainFor_of_name ?_; simp [plainName, overriddenIn]; done) | decide +kernel) O ?_
  intro p e s m below meth c T0 hx hby hml hret hlk hnm hh0 W0
  have z0 := W0.ge
  have yP0 : h0.size > b0 := P0.lt
  refine Go.st (g' := (mkF m 0 #[.val (.ref b0), .val (.int (1 : Int32))] [])) (fun _ k => castTop (by first | (simp [entryFrame, mkF, argsToLocals, maxLocals, own_catI, own_catJ, own_catD, own_catA, own_catN]; done) | rfl) k) ?_
  obtain ⟨T1, W1, st1⟩ := W0.getS hx (hw _ (List.mem_of_getElem? (i := 95) rfl)) Via.refl (W0.sta hE.2.2.2.1) (g := (mkF m 0 #[.val (.ref b0), .val (.int (1 : Int32))] [])) rfl (hb hby dd_jdk_52_method_5_code_0)
  refine Go.st (g' := (mkF m 3 #[.val (.ref b0), .val (.int (1 : Int32))] [(.int (1 : Int32))])) st1 ?_
  refine Go.st (g' := (mkF m 28 #[.val (.ref b0), .val (.int (1 : Int32))] [])) (fun _ k => XS.ifYes W1.here hx rfl (pc0 := 3) (pc' := 28) rfl (hb hby dd_jdk_52_method_5_code_3) rfl ((if0 _ _).trans (feq (by decide)).2) (by decide) (by decide) k) ?_
  refine Go.st (g' := (mkF m 29 #[.val (.ref b0), .val (.int (1 : Int32))] [(.int (1 : Int32))])) (fun _ k => XS.iloadN W1.here hx rfl (hb hby dd_jdk_52_method_5_code_28) rfl  k) ?_
  refine Go.st (g' := (mkF m 30 #[.val (.ref b0), .val (.int (1 : Int32))] [(.int (1 : Int32)), (.int (1 : Int32))])) (fun _ k => XS.iconst W1.here hx rfl (hb hby dd_jdk_52_method_5_code_29) k) ?_
  refine Go.st (g' := (mkF m 31 #[.val (.ref b0), .val (.int (1 : Int32))] [(.int (2 : Int32))])) (fun _ k => XS.ishl W1.here hx rfl (hb hby dd_jdk_52_method_5_code_30) rfl k) ?_
  refine Go.st (g' := (mkF m 32 #[.val (.ref b0), .val (.int (2 : Int32))] [])) (fun _ k => XS.istoreN W1.here hx rfl (hb hby dd_jdk_52_method_5_code_31) rfl (l' := #[.val (.ref b0), .val (.int (2 : Int32))]) rfl k) ?_
  refine Go.st (g' := (mkF m 33 #[.val (.ref b0), .val (.int (2 : Int32))] [(.ref b0)])) (fun _ k => XS.aloadN W1.here hx rfl (hb hby dd_jdk_52_method_5_code_32) rfl rfl  k) ?_
  refine Go.st (g' := (mkF m 34 #[.val (.ref b0), .val (.int (2 : Int32))] [(.int (2 : Int32)), (.ref b0)])) (fun _ k => XS.iloadN W1.here hx rfl (hb hby dd_jdk_52_method_5_code_33) rfl  k) ?_
  refine Go.st (g' := (mkF m 37 #[.val (.ref b0), .val (.int (3 : Int32))] [(.int (2 : Int32)), (.ref b0)])) (fun _ k => XS.iinc W1.here hx rfl (hb hby dd_jdk_52_method_5_code_34) rfl (l' := #[.val (.ref b0), .val (.int (3 : Int32))]) rfl k) ?_
  refine Go.st (g' := (mkF m 38 #[.val (.ref b0), .val (.int (3 : Int32))] [(.int ((c0 >>> ((0 : Int32) &&& 31)).toInt8.toInt32))])) (W1.ldB hx P0 (j := (2 : Int32)) ⟨by decide, hza⟩ (v := .int ((c0 >>> ((0 : Int32) &&& 31)).toInt8.toInt32)) hva (g := (mkF m 37 #[.val (.ref b0), .val (.int (3 : Int32))] [(.int (2 : Int32)), (.ref b0)])) rfl rfl (hb hby dd_jdk_52_method_5_code_37)) ?_
  refine Go.st (g' := (mkF m 41 #[.val (.ref b0), .val (.int (3 : Int32))] [(.int (255 : Int32)), (.int ((c0 >>> ((0 : Int32) &&& 31)).toInt8.toInt32))])) (fun _ k => XS.sipush W1.here hx rfl (hb hby dd_jdk_52_method_5_code_38) k) ?_
  refine Go.st (g' := (mkF m 42 #[.val (.ref b0), .val (.int (3 : Int32))] [(.int (((c0 >>> ((0 : Int32) &&& 31)).toInt8.toInt32) &&& (255 : Int32)))])) (fun _ k => XS.iand W1.here hx rfl (hb hby dd_jdk_52_method_5_code_41) rfl k) ?_
  obtain ⟨T2, W2, st2⟩ := W1.getS hx (hw _ (List.mem_of_getElem? (i := 96) rfl)) Via.refl (W1.sta hE.2.2.2.2.1) (g := (mkF m 42 #[.val (.ref b0), .val (.int (3 : Int32))] [(.int (((c0 >>> ((0 : Int32) &&& 31)).toInt8.toInt32) &&& (255 : Int32)))])) rfl (hb hby dd_jdk_52_method_5_code_42)
  refine Go.st (g' := (mkF m 45 #[.val (.ref b0), .val (.int (3 : Int32))] [(.int (0 : Int32)), (.int (((c0 >>> ((0 : Int32) &&& 31)).toInt8.toInt32) &&& (255 : Int32)))])) st2 ?_
  refine Go.st (g' := (mkF m 46 #[.val (.ref b0), .val (.int (3 : Int32))] [(.int ((((c0 >>> ((0 : Int32) &&& 31)).toInt8.toInt32) &&& (255 : Int32)) <<< ((0 : Int32) &&& 31)))])) (fun _ k => XS.ishl W2.here hx rfl (hb hby dd_jdk_52_method_5_code_45) rfl k) ?_
  refine Go.st (g' := (mkF m 47 #[.val (.ref b0), .val (.int (3 : Int32))] [(.ref b0), (.int ((((c0 >>> ((0 : Int32) &&& 31)).toInt8.toInt32) &&& (255 : Int32)) <<< ((0 : Int32) &&& 31)))])) (fun _ k => XS.aloadN W2.here hx rfl (hb hby dd_jdk_52_method_5_code_46) rfl rfl  k) ?_
  refine Go.st (g' := (mkF m 48 #[.val (.ref b0), .val (.int (3 : Int32))] [(.int (3 : Int32)), (.ref b0), (.int ((((c0 >>> ((0 : Int32) &&& 31)).toInt8.toInt32) &&& (255 : Int32)) <<< ((0 : Int32) &&& 31)))])) (fun _ k => XS.iloadN W2.here hx rfl (hb hby dd_jdk_52_method_5_code_47) rfl  k) ?_
  refine Go.st (g' := (mkF m 49 #[.val (.ref b0), .val (.int (3 : Int32))] [(.int ((c0 >>> ((8 : Int32) &&& 31)).toInt8.toInt32)), (.int ((((c0 >>> ((0 : Int32) &&& 31)).toInt8.toInt32) &&& (255 : Int32)) <<< ((0 : Int32) &&& 31)))])) (W2.ldB hx P0 (j := (3 : Int32)) ⟨by decide, hzb⟩ (v := .int ((c0 >>> ((8 : Int32) &&& 31)).toInt8.toInt32)) hvb (g := (mkF m 48 #[.val (.ref b0), .val (.int (3 : Int32))] [(.int (3 : Int32)), (.ref b0), (.int ((((c0 >>> ((0 : Int32) &&& 31)).toInt8.toInt32) &&& (255 : Int32)) <<< ((0 : Int32) &&& 31)))])) rfl rfl (hb hby dd_jdk_52_method_5_code_48)) ?_
  refine Go.st (g' := (mkF m 52 #[.val (.ref b0), .val (.int (3 : Int32))] [(.int (255 : Int32)), (.int ((c0 >>> ((8 : Int32) &&& 31)).toInt8.toInt32)), (.int ((((c0 >>> ((0 : Int32) &&& 31)).toInt8.toInt32) &&& (255 : Int32)) <<< ((0 : Int32) &&& 31)))])) (fun _ k => XS.sipush W2.here hx rfl (hb hby dd_jdk_52_method_5_code_49) k) ?_
  refine Go.st (g' := (mkF m 53 #[.val (.ref b0), .val (.int (3 : Int32))] [(.int (((c0 >>> ((8 : Int32) &&& 31)).toInt8.toInt32) &&& (255 : Int32))), (.int ((((c0 >>> ((0 : Int32) &&& 31)).toInt8.toInt32) &&& (255 : Int32)) <<< ((0 : Int32) &&& 31)))])) (fun _ k => XS.iand W2.here hx rfl (hb hby dd_jdk_52_method_5_code_52) rfl k) ?_
  obtain ⟨T3, W3, st3⟩ := W2.getS hx (hw _ (List.mem_of_getElem? (i := 97) rfl)) Via.refl (W2.sta hE.2.2.2.2.2) (g := (mkF m 53 #[.val (.ref b0), .val (.int (3 : Int32))] [(.int (((c0 >>> ((8 : Int32) &&& 31)).toInt8.toInt32) &&& (255 : Int32))), (.int ((((c0 >>> ((0 : Int32) &&& 31)).toInt8.toInt32) &&& (255 : Int32)) <<< ((0 : Int32) &&& 31)))])) rfl (hb hby dd_jdk_52_method_5_code_53)
  refine Go.st (g' := (mkF m 56 #[.val (.ref b0), .val (.int (3 : Int32))] [(.int (8 : Int32)), (.int (((c0 >>> ((8 : Int32) &&& 31)).toInt8.toInt32) &&& (255 : Int32))), (.int ((((c0 >>> ((0 : Int32) &&& 31)).toInt8.toInt32) &&& (255 : Int32)) <<< ((0 : Int32) &&& 31)))])) st3 ?_
  refine Go.st (g' := (mkF m 57 #[.val (.ref b0), .val (.int (3 : Int32))] [(.int ((((c0 >>> ((8 : Int32) &&& 31)).toInt8.toInt32) &&& (255 : Int32)) <<< ((8 : Int32) &&& 31))), (.int ((((c0 >>> ((0 : Int32) &&& 31)).toInt8.toInt32) &&& (255 : Int32)) <<< ((0 : Int32) &&& 31)))])) (fun _ k => XS.ishl W3.here hx rfl (hb hby dd_jdk_52_method_5_code_56) rfl k) ?_
  refine Go.st (g' := (mkF m 58 #[.val (.ref b0), .val (.int (3 : Int32))] [(.int (((((c0 >>> ((0 : Int32) &&& 31)).toInt8.toInt32) &&& (255 : Int32)) <<< ((0 : Int32) &&& 31)) ||| ((((c0 >>> ((8 : Int32) &&& 31)).toInt8.toInt32) &&& (255 : Int32)) <<< ((8 : Int32) &&& 31))))])) (fun _ k => XS.ior W3.here hx rfl (hb hby dd_jdk_52_method_5_code_57) rfl k) ?_
  refine Go.st (g' := (mkF m 59 #[.val (.ref b0), .val (.int (3 : Int32))] [(.int ((((((c0 >>> ((0 : Int32) &&& 31)).toInt8.toInt32) &&& (255 : Int32)) <<< ((0 : Int32) &&& 31)) ||| ((((c0 >>> ((8 : Int32) &&& 31)).toInt8.toInt32) &&& (255 : Int32)) <<< ((8 : Int32) &&& 31))).toUInt32.toUInt16.toUInt32.toInt32))])) (fun _ k => XS.i2c W3.here hx rfl (hb hby dd_jdk_52_method_5_code_58) rfl k) ?_
  rw [own_join hc0]
  exact W3.retN hx hEL hlk (t := .char) hret (by decide) (hb hby dd_jdk_52_method_5_code_59) (by decide) (by decide) ⟨(congrArg (fun x => some (Value.int x)) (own_narC hc0)), rfl⟩
set_option maxRecDepth 65536 in
set_option maxHeartbeats 4000000 in
theorem own_cmp3_2_1 (l : Launch) {Z : State} {a0 : Array Value} (hE : Ctx Z a0) {n0 : Nat} {h0 : Heap} (O : Old Z n0 h0) {s0 : Addr} {ks : ClassId} {dd : Value} {c1 : Int32} {c2 : Int32} (hc1 : Chr c1) (hc2 : Chr c2) (hw1 : ¬ (255 : Int32) < c1) (hw2 : (255 : Int32) < c2) (P0 : Arv Z h0 s0 ks .char (2 : Int32) [(.int c1), (.int c2)] dd) :
    Met l (⟨"java/lang/StringUTF16", "compress", "([CII)[B"⟩ : MethodName) jdk_52_method_16_code 6 (Option.some (Jvm.ClassFile.FieldType.array Jvm.ClassFile.FieldType.byte)) ({ frames := 3, cells := 2, slots := 6, locals := 40 } : Room) Z consts_1 n0 [] #[(.ref s0), (.int (0 : Int32)), (.int (2 : Int32))] h0 (fun v h => ∃ (b : Addr), ∃ (kb : ClassId), v = some (.ref b) ∧ h0.size ≤ b ∧ Arv Z h b kb .byte (4 : Int32) [(.int ((c1 >>> ((0 : Int32) &&& 31)).toInt8.toInt32)), (.int ((c1 >>> ((8 : Int32) &&& 31)).toInt8.toInt32)), (.int ((c2 >>> ((0 : Int32) &&& 31)).toInt8.toInt32)), (.int ((c2 >>> ((8 : Int32) &&& 31)).toInt8.toInt32))] (.int (0 : Int32)) ∧ Keep h0 h []) := by
  have hw := hE.1
  have hEL := own_EW hw
  have own_wS := own_stringAtoms hw
  have hE1 := own_E1 hw
  refine Met.of (by first | (refine plainFor_of_name ?_; simp [plainName, overriddenIn]; done) | decide +kernel) O ?_
  intro p e s m below meth c T0 hx hby hml hret hlk hnm hh0 W0
  have z0 := W0.ge
  have yP0 : h0.size > s0 := P0.lt
  refine Go.st (g' := (mkF m 0 #[.val (.ref s0), .val (.int (0 : Int32)), .val (.int (2 : Int32)), .unset, .unset, .unset] [])) (fun _ k => castTop (by first | (simp [entryFrame, mkF, argsToLocals, maxLocals, own_catI, own_catJ, own_catD, own_catA, own_catN]; done) | rfl) k) ?_
  refine Go.st (g' := (mkF m 1 #[.val (.ref s0), .val (.int (0 : Int32)), .val (.int (2 : Int32)), .unset, .unset, .unset] [(.int (2 : Int32))])) (fun _ k => XS.iloadN W0.here hx rfl (hb hby dd_jdk_52_method_16_code_0) rfl  k) ?_
  obtain ⟨T1, h1, a1, k1, g1, W1, E1, z1, X1, S1, SF1, st1⟩ := W0.newP hx (ty := .byte) rfl (hw _ (List.mem_of_getElem? (i := 19) rfl)) (g := (mkF m 1 #[.val (.ref s0), .val (.int (0 : Int32)), .val (.int (2 : Int32)), .unset, .unset, .unset] [(.int (2 : Int32))])) rfl (hb hby dd_jdk_52_method_16_code_1) rfl (by decide) (cap := 2) (by decide) (by decide) (by decide) (by decide) 2
  have F2 : Arv Z h1 a1 k1 .byte (2 : Int32) [(.int (0 : Int32)), (.int (0 : Int32))] (.int (0 : Int32)) := X1
  refine Go.st (g' := (mkF m 3 #[.val (.ref s0), .val (.int (0 : Int32)), .val (.int (2 : Int32)), .unset, .unset, .unset] [(.ref a1)])) st1 ?_
  refine Go.st (g' := (mkF m 4 #[.val (.ref s0), .val (.int (0 : Int32)), .val (.int (2 : Int32)), .val (.ref a1), .unset, .unset] [])) (fun _ k => XS.astoreN W1.here hx rfl (hb hby dd_jdk_52_method_16_code_3) rfl rfl (l' := #[.val (.ref s0), .val (.int (0 : Int32)), .val (.int (2 : Int32)), .val (.ref a1), .unset, .unset]) rfl k) ?_
  refine Go.st (g' := (mkF m 5 #[.val (.ref s0), .val (.int (0 : Int32)), .val (.int (2 : Int32)), .val (.ref a1), .unset, .unset] [(.ref s0)])) (fun _ k => XS.aloadN W1.here hx rfl (hb hby dd_jdk_52_method_16_code_4) rfl rfl  k) ?_
  refine Go.st (g' := (mkF m 6 #[.val (.ref s0), .val (.int (0 : Int32)), .val (.int (2 : Int32)), .val (.ref a1), .unset, .unset] [(.int (0 : Int32)), (.ref s0)])) (fun _ k => XS.iloadN W1.here hx rfl (hb hby dd_jdk_52_method_16_code_5) rfl  k) ?_
  refine Go.st (g' := (mkF m 7 #[.val (.ref s0), .val (.int (0 : Int32)), .val (.int (2 : Int32)), .val (.ref a1), .unset, .unset] [(.ref a1), (.int (0 : Int32)), (.ref s0)])) (fun _ k => XS.aloadN W1.here hx rfl (hb hby dd_jdk_52_method_16_code_6) rfl rfl  k) ?_
  refine Go.st (g' := (mkF m 8 #[.val (.ref s0), .val (.int (0 : Int32)), .val (.int (2 : Int32)), .val (.ref a1), .unset, .unset] [(.int (0 : Int32)), (.ref a1), (.int (0 : Int32)), (.ref s0)])) (fun _ k => XS.iconst W1.here hx rfl (hb hby dd_jdk_52_method_16_code_7) k) ?_
  refine Go.st (g' := (mkF m 9 #[.val (.ref s0), .val (.int (0 : Int32)), .val (.int (2 : Int32)), .val (.ref a1), .unset, .unset] [(.int (2 : Int32)), (.int (0 : Int32)), (.ref a1), (.int (0 : Int32)), (.ref s0)])) (fun _ k => XS.iloadN W1.here hx rfl (hb hby dd_jdk_52_method_16_code_8) rfl  k) ?_
  have F4 : Arv Z h1 s0 ks .char (2 : Int32) [(.int c1), (.int c2)] dd := (P0.ext E1)
  obtain ⟨_, vm3, T3, h3, W3, Q3, z3, SF3, st3⟩ := W1.callS hx hEL (own_cmp5_2_1 l hE W1.old (s0 := s0) (ks := ks) (dd := dd) (b0 := a1) (kb := k1) (c1 := c1) (c2 := c2) (by omega) (by omega) hw1 hw2 F4 F2) (hw _ (List.mem_of_getElem? (i := 73) rfl)) (hw _ (List.mem_of_getElem? (i := 74) rfl)) (hw _ (List.mem_of_getElem? (i := 71) rfl)) (hw _ (List.mem_of_getElem? (i := 75) rfl)) (by decide) (Wd := 0) (by decide) (by decide) (by decide) (by decide) (g := (mkF m 9 #[.val (.ref s0), .val (.int (0 : Int32)), .val (.int (2 : Int32)), .val (.ref a1), .unset, .unset] [(.int (2 : Int32)), (.int (0 : Int32)), (.ref a1), (.int (0 : Int32)), (.ref s0)])) rfl (by rw [hml]; rfl) (argsL := [(.ref s0), (.int (0 : Int32)), (.ref a1), (.int (0 : Int32)), (.int (2 : Int32))]) (rest := []) rfl (lenOf pd___CI_BII_I rfl) rfl (by show 2 * 0 + _ ≤ _; exact Nat.le_of_eq rfl) (hb hby dd_jdk_52_method_16_code_9)
  obtain ⟨rfl, K3⟩ := Q3
  refine Go.tr (g' := (mkF m 12 #[.val (.ref s0), .val (.int (0 : Int32)), .val (.int (2 : Int32)), .val (.ref a1), .unset, .unset] [(.int (1 : Int32))])) st3 ?_
  refine Go.st (g' := (mkF m 14 #[.val (.ref s0), .val (.int (0 : Int32)), .val (.int (2 : Int32)), .val (.ref a1), .val (.int (1 : Int32)), .unset] [])) (fun _ k => XS.istore W3.here hx rfl (hb hby dd_jdk_52_method_16_code_12) rfl (l' := #[.val (.ref s0), .val (.int (0 : Int32)), .val (.int (2 : Int32)), .val (.ref a1), .val (.int (1 : Int32)), .unset]) rfl k) ?_
  refine Go.st (g' := (mkF m 16 #[.val (.ref s0), .val (.int (0 : Int32)), .val (.int (2 : Int32)), .val (.ref a1), .val (.int (1 : Int32)), .unset] [(.int (1 : Int32))])) (fun _ k => XS.iload W3.here hx rfl (hb hby dd_jdk_52_method_16_code_14) rfl  k) ?_
  refine Go.st (g' := (mkF m 17 #[.val (.ref s0), .val (.int (0 : Int32)), .val (.int (2 : Int32)), .val (.ref a1), .val (.int (1 : Int32)), .unset] [(.int (2 : Int32)), (.int (1 : Int32))])) (fun _ k => XS.iloadN W3.here hx rfl (hb hby dd_jdk_52_method_16_code_16) rfl  k) ?_
  refine Go.st (g' := (mkF m 20 #[.val (.ref s0), .val (.int (0 : Int32)), .val (.int (2 : Int32)), .val (.ref a1), .val (.int (1 : Int32)), .unset] [])) (fun _ k => XS.icmpNo W3.here hx rfl (hb hby dd_jdk_52_method_16_code_17) rfl (feq (by decide)).1 k) ?_
  refine Go.st (g' := (mkF m 21 #[.val (.ref s0), .val (.int (0 : Int32)), .val (.int (2 : Int32)), .val (.ref a1), .val (.int (1 : Int32)), .unset] [(.ref s0)])) (fun _ k => XS.aloadN W3.here hx rfl (hb hby dd_jdk_52_method_16_code_20) rfl rfl  k) ?_
  refine Go.st (g' := (mkF m 22 #[.val (.ref s0), .val (.int (0 : Int32)), .val (.int (2 : Int32)), .val (.ref a1), .val (.int (1 : Int32)), .unset] [(.int (0 : Int32)), (.ref s0)])) (fun _ k => XS.iloadN W3.here hx rfl (hb hby dd_jdk_52_method_16_code_21) rfl  k) ?_
  refine Go.st (g' := (mkF m 23 #[.val (.ref s0), .val (.int (0 : Int32)), .val (.int (2 : Int32)), .val (.ref a1), .val (.int (1 : Int32)), .unset] [(.int (2 : Int32)), (.int (0 : Int32)), (.ref s0)])) (fun _ k => XS.iloadN W3.here hx rfl (hb hby dd_jdk_52_method_16_code_22) rfl  k) ?_
  have F6 : Arv Z h3 s0 ks .char (2 : Int32) [(.int c1), (.int c2)] dd := (F4.keep K3 (ninS (own_ne (by omega)) nin0))
  obtain ⟨_, vm5, T5, h5, W5, Q5, z5, SF5, st5⟩ := W3.callS hx hEL (own_tb2 l hE W3.old (s0 := s0) (ks := ks) (dd := dd) (c1 := c1) (c2 := c2)  F6) (hw _ (List.mem_of_getElem? (i := 82) rfl)) (hw _ (List.mem_of_getElem? (i := 83) rfl)) (hw _ (List.mem_of_getElem? (i := 71) rfl)) (hw _ (List.mem_of_getElem? (i := 84) rfl)) (by decide) (Wd := 0) (by decide) (by decide) (by decide) (by decide) (g := (mkF m 23 #[.val (.ref s0), .val (.int (0 : Int32)), .val (.int (2 : Int32)), .val (.ref a1), .val (.int (1 : Int32)), .unset] [(.int (2 : Int32)), (.int (0 : Int32)), (.ref s0)])) rfl (by rw [hml]; rfl) (argsL := [(.ref s0), (.int (0 : Int32)), (.int (2 : Int32))]) (rest := []) rfl (lenOf pd___CII__B rfl) rfl (by show 2 * 0 + _ ≤ _; exact Nat.le_of_eq rfl) (hb hby dd_jdk_52_method_16_code_23)
  obtain ⟨b_5, kb_5, rfl, p5_0, f5_0, K5⟩ := Q5
  have yf5_0 : h5.size > b_5 := f5_0.lt
  refine Go.tr (g' := (mkF m 26 #[.val (.ref s0), .val (.int (0 : Int32)), .val (.int (2 : Int32)), .val (.ref a1), .val (.int (1 : Int32)), .unset] [(.ref b_5)])) st5 ?_
  refine Go.st (g' := (mkF m 28 #[.val (.ref s0), .val (.int (0 : Int32)), .val (.int (2 : Int32)), .val (.ref a1), .val (.int (1 : Int32)), .val (.ref b_5)] [])) (fun _ k => XS.astore W5.here hx rfl (hb hby dd_jdk_52_method_16_code_26) rfl rfl (l' := #[.val (.ref s0), .val (.int (0 : Int32)), .val (.int (2 : Int32)), .val (.ref a1), .val (.int (1 : Int32)), .val (.ref b_5)]) rfl k) ?_
  refine Go.st (g' := (mkF m 30 #[.val (.ref s0), .val (.int (0 : Int32)), .val (.int (2 : Int32)), .val (.ref a1), .val (.int (1 : Int32)), .val (.ref b_5)] [(.ref b_5)])) (fun _ k => XS.aload W5.here hx rfl (hb hby dd_jdk_52_method_16_code_28) rfl rfl  k) ?_
  refine Go.st (g' := (mkF m 32 #[.val (.ref s0), .val (.int (0 : Int32)), .val (.int (2 : Int32)), .val (.ref a1), .val (.int (1 : Int32)), .val (.ref b_5)] [(.int (1 : Int32)), (.ref b_5)])) (fun _ k => XS.iload W5.here hx rfl (hb hby dd_jdk_52_method_16_code_30) rfl  k) ?_
  obtain ⟨_, vm7, T7, h7, W7, Q7, z7, SF7, st7⟩ := W5.callS hx hEL (own_get1 l hE W5.old (b0 := b_5) (kb := kb_5) (zz := (4 : Int32)) (vs0 := [(.int ((c1 >>> ((0 : Int32) &&& 31)).toInt8.toInt32)), (.int ((c1 >>> ((8 : Int32) &&& 31)).toInt8.toInt32)), (.int ((c2 >>> ((0 : Int32) &&& 31)).toInt8.toInt32)), (.int ((c2 >>> ((8 : Int32) &&& 31)).toInt8.toInt32))]) (dd := (.int (0 : Int32))) (c0 := c2) hc2 (by decide) (by decide) rfl rfl f5_0) (hw _ (List.mem_of_getElem? (i := 98) rfl)) (hw _ (List.mem_of_getElem? (i := 99) rfl)) (hw _ (List.mem_of_getElem? (i := 71) rfl)) (hw _ (List.mem_of_getElem? (i := 100) rfl)) (by decide) (Wd := 0) (by decide) (by decide) (by decide) (by decide) (g := (mkF m 32 #[.val (.ref s0), .val (.int (0 : Int32)), .val (.int (2 : Int32)), .val (.ref a1), .val (.int (1 : Int32)), .val (.ref b_5)] [(.int (1 : Int32)), (.ref b_5)])) rfl (by rw [hml]; rfl) (argsL := [(.ref b_5), (.int (1 : Int32))]) (rest := []) rfl (lenOf pd___BI_C rfl) rfl (by show 2 * 0 + _ ≤ _; exact Nat.le_of_eq rfl) (hb hby dd_jdk_52_method_16_code_32)
  obtain ⟨rfl, eh7⟩ := Q7
  subst eh7
  refine Go.tr (g' := (mkF m 35 #[.val (.ref s0), .val (.int (0 : Int32)), .val (.int (2 : Int32)), .val (.ref a1), .val (.int (1 : Int32)), .val (.ref b_5)] [(.int c2)])) st7 ?_
  refine Go.st (g' := (mkF m 38 #[.val (.ref s0), .val (.int (0 : Int32)), .val (.int (2 : Int32)), .val (.ref a1), .val (.int (1 : Int32)), .val (.ref b_5)] [(.int (255 : Int32)), (.int c2)])) (fun _ k => XS.sipush W7.here hx rfl (hb hby dd_jdk_52_method_16_code_35) k) ?_
  refine Go.st (g' := (mkF m 54 #[.val (.ref s0), .val (.int (0 : Int32)), .val (.int (2 : Int32)), .val (.ref a1), .val (.int (1 : Int32)), .val (.ref b_5)] [])) (fun _ k => XS.icmpYes W7.here hx rfl (pc0 := 38) (pc' := 54) rfl (hb hby dd_jdk_52_method_16_code_38) rfl (tlt hw2).2.2.1 (by decide) (by decide) k) ?_
  refine Go.st (g' := (mkF m 56 #[.val (.ref s0), .val (.int (0 : Int32)), .val (.int (2 : Int32)), .val (.ref a1), .val (.int (1 : Int32)), .val (.ref b_5)] [(.ref b_5)])) (fun _ k => XS.aload W7.here hx rfl (hb hby dd_jdk_52_method_16_code_54) rfl rfl  k) ?_
  exact W7.retA hx hEL hlk hret rfl rfl rfl (hb hby dd_jdk_52_method_16_code_56) (by decide) (by decide) ⟨b_5, kb_5, rfl, (by omega), f5_0, ((((Keep.refl h0 []).ext E1).trans K3 (allS (Or.inr (by omega)) all0)).trans K5 all0)⟩
set_option maxRecDepth 65536 in
set_option maxHeartbeats 4000000 in
theorem own_i4_2_1 (l : Launch) {Z : State} {a0 : Array Value} (hE : Ctx Z a0) {n0 : Nat} {h0 : Heap} (O : Old Z n0 h0) {x0 : Addr} {s0 : Addr} {ks : ClassId} {dd : Value} {c1 : Int32} {c2 : Int32} (hx0 : n0 ≤ x0) (hsx : ¬ @Eq Nat s0 x0) (hc1 : Chr c1) (hc2 : Chr c2) (hw1 : ¬ (255 : Int32) < c1) (hw2 : (255 : Int32) < c2) (P0 : Exa Z h0 x0 "java/lang/String") (P1 : Fld Z h0 x0 "java/lang/String" "value" "[B" .null) (P2 : Fld Z h0 x0 "java/lang/String" "coder" "B" (.int (0 : Int32))) (P3 : Arv Z h0 s0 ks .char (2 : Int32) [(.int c1), (.int c2)] dd) :
    Met l (⟨"java/lang/String", "<init>", "([CIILjava/lang/Void;)V"⟩ : MethodName) jdk_42_method_149_code 6 (Option.none : Option Jvm.ClassFile.FieldType) ({ frames := 4, cells := 2, slots := 6, locals := 57 } : Room) Z consts_1 n0 [] #[(.ref x0), (.ref s0), (.int (0 : Int32)), (.int (2 : Int32)), .null] h0 (fun v h => ∃ (t : Addr), ∃ (kt : ClassId), v = none ∧ Fld Z h x0 "java/lang/String" "value" "[B" (.ref t) ∧ Fld Z h x0 "java/lang/String" "coder" "B" (.int (1 : Int32)) ∧ Arv Z h t kt .byte (4 : Int32) [(.int ((c1 >>> ((0 : Int32) &&& 31)).toInt8.toInt32)), (.int ((c1 >>> ((8 : Int32) &&& 31)).toInt8.toInt32)), (.int ((c2 >>> ((0 : Int32) &&& 31)).toInt8.toInt32)), (.int ((c2 >>> ((8 : Int32) &&& 31)).toInt8.toInt32))] (.int (0 : Int32)) ∧ Keep h0 h [x0]) := by
  have hw := hE.1
  have hEL := own_EW hw
  have own_wS := own_stringAtoms hw
  have hE1 := own_E1 hw
  obtain ⟨zc, hzc, hzc0⟩ := hE.2.1
  refine Met.of (by first | (refine plainFor_of_name ?_; simp [plainName, overriddenIn]; done) | decide +kernel) O ?_
  intro p e s m below meth c T0 hx hby hml hret hlk hnm hh0 W0
  have z0 := W0.ge
  have yP0 : h0.size > x0 := P0.lt
  have yP3 : h0.size > s0 := P3.lt
  refine Go.st (g' := (mkF m 0 #[.val (.ref x0), .val (.ref s0), .val (.int (0 : Int32)), .val (.int (2 : Int32)), .val .null, .unset] [])) (fun _ k => castTop (by first | (simp [entryFrame, mkF, argsToLocals, maxLocals, own_catI, own_catJ, own_catD, own_catA, own_catN]; done) | rfl) k) ?_
  refine Go.st (g' := (mkF m 1 #[.val (.ref x0), .val (.ref s0), .val (.int (0 : Int32)), .val (.int (2 : Int32)), .val .null, .unset] [(.ref x0)])) (fun _ k => XS.aloadN W0.here hx rfl (hb hby dd_jdk_42_method_149_code_0) rfl rfl  k) ?_
  obtain ⟨T1, W1, st1⟩ := W0.initO hx (hw _ (List.mem_of_getElem? (i := 24) rfl)) (hw _ (List.mem_of_getElem? (i := 25) rfl)) (hw _ (List.mem_of_getElem? (i := 26) rfl)) (g := (mkF m 1 #[.val (.ref x0), .val (.ref s0), .val (.int (0 : Int32)), .val (.int (2 : Int32)), .val .null, .unset] [(.ref x0)])) rfl (by rw [hml]; rfl) rfl (hb hby dd_jdk_42_method_149_code_1) (by decide) (Wd := 0) (by show 2 * 0 + _ ≤ _; exact Nat.le_of_eq rfl) (by decide)
  refine Go.st (g' := (mkF m 4 #[.val (.ref x0), .val (.ref s0), .val (.int (0 : Int32)), .val (.int (2 : Int32)), .val .null, .unset] [])) st1 ?_
  refine Go.st (g' := (mkF m 5 #[.val (.ref x0), .val (.ref s0), .val (.int (0 : Int32)), .val (.int (2 : Int32)), .val .null, .unset] [(.int (2 : Int32))])) (fun _ k => XS.iloadN W1.here hx rfl (hb hby dd_jdk_42_method_149_code_4) rfl  k) ?_
  refine Go.st (g' := (mkF m 27 #[.val (.ref x0), .val (.ref s0), .val (.int (0 : Int32)), .val (.int (2 : Int32)), .val .null, .unset] [])) (fun _ k => XS.ifYes W1.here hx rfl (pc0 := 5) (pc' := 27) rfl (hb hby dd_jdk_42_method_149_code_5) rfl ((if0 _ _).trans (feq (by decide)).2) (by decide) (by decide) k) ?_
  obtain ⟨T2, W2, st2⟩ := W1.getS hx (hw _ (List.mem_of_getElem? (i := 9) rfl)) Via.refl (W1.sta hzc) (g := (mkF m 27 #[.val (.ref x0), .val (.ref s0), .val (.int (0 : Int32)), .val (.int (2 : Int32)), .val .null, .unset] [])) rfl (hb hby dd_jdk_42_method_149_code_27)
  refine Go.st (g' := (mkF m 30 #[.val (.ref x0), .val (.ref s0), .val (.int (0 : Int32)), .val (.int (2 : Int32)), .val .null, .unset] [(.int zc)])) st2 ?_
  refine Go.st (g' := (mkF m 33 #[.val (.ref x0), .val (.ref s0), .val (.int (0 : Int32)), .val (.int (2 : Int32)), .val .null, .unset] [])) (fun _ k => XS.ifNo W2.here hx rfl (hb hby dd_jdk_42_method_149_code_30) rfl ((if0 _ _).trans (feq hzc0).1) k) ?_
  refine Go.st (g' := (mkF m 34 #[.val (.ref x0), .val (.ref s0), .val (.int (0 : Int32)), .val (.int (2 : Int32)), .val .null, .unset] [(.ref s0)])) (fun _ k => XS.aloadN W2.here hx rfl (hb hby dd_jdk_42_method_149_code_33) rfl rfl  k) ?_
  refine Go.st (g' := (mkF m 35 #[.val (.ref x0), .val (.ref s0), .val (.int (0 : Int32)), .val (.int (2 : Int32)), .val .null, .unset] [(.int (0 : Int32)), (.ref s0)])) (fun _ k => XS.iloadN W2.here hx rfl (hb hby dd_jdk_42_method_149_code_34) rfl  k) ?_
  refine Go.st (g' := (mkF m 36 #[.val (.ref x0), .val (.ref s0), .val (.int (0 : Int32)), .val (.int (2 : Int32)), .val .null, .unset] [(.int (2 : Int32)), (.int (0 : Int32)), (.ref s0)])) (fun _ k => XS.iloadN W2.here hx rfl (hb hby dd_jdk_42_method_149_code_35) rfl  k) ?_
  obtain ⟨_, vm3, T3, h3, W3, Q3, z3, SF3, st3⟩ := W2.callS hx hEL (own_cmp3_2_1 l hE W2.old (s0 := s0) (ks := ks) (dd := dd) (c1 := c1) (c2 := c2) hc1 hc2 hw1 hw2 P3) (hw _ (List.mem_of_getElem? (i := 69) rfl)) (hw _ (List.mem_of_getElem? (i := 70) rfl)) (hw _ (List.mem_of_getElem? (i := 71) rfl)) (hw _ (List.mem_of_getElem? (i := 72) rfl)) (by decide) (Wd := 0) (by decide) (by decide) (by decide) (by decide) (g := (mkF m 36 #[.val (.ref x0), .val (.ref s0), .val (.int (0 : Int32)), .val (.int (2 : Int32)), .val .null, .unset] [(.int (2 : Int32)), (.int (0 : Int32)), (.ref s0)])) rfl (by rw [hml]; rfl) (argsL := [(.ref s0), (.int (0 : Int32)), (.int (2 : Int32))]) (rest := []) rfl (lenOf pd___CII__B rfl) rfl (by show 2 * 0 + _ ≤ _; exact Nat.le_of_eq rfl) (hb hby dd_jdk_42_method_149_code_36)
  obtain ⟨b_3, kb_3, rfl, p3_0, f3_0, K3⟩ := Q3
  have yf3_0 : h3.size > b_3 := f3_0.lt
  refine Go.tr (g' := (mkF m 39 #[.val (.ref x0), .val (.ref s0), .val (.int (0 : Int32)), .val (.int (2 : Int32)), .val .null, .unset] [(.ref b_3)])) st3 ?_
  refine Go.st (g' := (mkF m 41 #[.val (.ref x0), .val (.ref s0), .val (.int (0 : Int32)), .val (.int (2 : Int32)), .val .null, .val (.ref b_3)] [])) (fun _ k => XS.astore W3.here hx rfl (hb hby dd_jdk_42_method_149_code_39) rfl rfl (l' := #[.val (.ref x0), .val (.ref s0), .val (.int (0 : Int32)), .val (.int (2 : Int32)), .val .null, .val (.ref b_3)]) rfl k) ?_
  refine Go.st (g' := (mkF m 42 #[.val (.ref x0), .val (.ref s0), .val (.int (0 : Int32)), .val (.int (2 : Int32)), .val .null, .val (.ref b_3)] [(.ref x0)])) (fun _ k => XS.aloadN W3.here hx rfl (hb hby dd_jdk_42_method_149_code_41) rfl rfl  k) ?_
  refine Go.st (g' := (mkF m 44 #[.val (.ref x0), .val (.ref s0), .val (.int (0 : Int32)), .val (.int (2 : Int32)), .val .null, .val (.ref b_3)] [(.ref b_3), (.ref x0)])) (fun _ k => XS.aload W3.here hx rfl (hb hby dd_jdk_42_method_149_code_42) rfl rfl  k) ?_
  refine Go.st (g' := (mkF m 45 #[.val (.ref x0), .val (.ref s0), .val (.int (0 : Int32)), .val (.int (2 : Int32)), .val .null, .val (.ref b_3)] [(.int (2 : Int32)), (.ref b_3), (.ref x0)])) (fun _ k => XS.iloadN W3.here hx rfl (hb hby dd_jdk_42_method_149_code_44) rfl  k) ?_
  obtain ⟨_, vm4, T4, h4, W4, Q4, z4, SF4, st4⟩ := W3.callS hx hEL (own_cfal2 l hE W3.old (b0 := b_3) (kb := kb_3) (vs0 := [(.int ((c1 >>> ((0 : Int32) &&& 31)).toInt8.toInt32)), (.int ((c1 >>> ((8 : Int32) &&& 31)).toInt8.toInt32)), (.int ((c2 >>> ((0 : Int32) &&& 31)).toInt8.toInt32)), (.int ((c2 >>> ((8 : Int32) &&& 31)).toInt8.toInt32))]) (dd := (.int (0 : Int32)))  f3_0) (hw _ (List.mem_of_getElem? (i := 76) rfl)) (hw _ (List.mem_of_getElem? (i := 77) rfl)) (hw _ (List.mem_of_getElem? (i := 71) rfl)) (hw _ (List.mem_of_getElem? (i := 78) rfl)) (by decide) (Wd := 1) (by decide) (by decide) (by decide) (by decide) (g := (mkF m 45 #[.val (.ref x0), .val (.ref s0), .val (.int (0 : Int32)), .val (.int (2 : Int32)), .val .null, .val (.ref b_3)] [(.int (2 : Int32)), (.ref b_3), (.ref x0)])) rfl (by rw [hml]; rfl) (argsL := [(.ref b_3), (.int (2 : Int32))]) (rest := [(.ref x0)]) rfl (lenOf pd___BI_B rfl) rfl (by show 2 * 0 + _ ≤ _; exact Nat.le_of_eq rfl) (hb hby dd_jdk_42_method_149_code_45)
  obtain ⟨rfl, eh4⟩ := Q4
  subst eh4
  refine Go.tr (g' := (mkF m 48 #[.val (.ref x0), .val (.ref s0), .val (.int (0 : Int32)), .val (.int (2 : Int32)), .val .null, .val (.ref b_3)] [(.int (1 : Int32)), (.ref x0)])) st4 ?_
  have F6 : Fld Z h3 x0 "java/lang/String" "coder" "B" (.int (0 : Int32)) := (P2.keep K3 nin0)
  have F7 : Exa Z h3 x0 "java/lang/String" := (P0.keep K3)
  have F8 : Fld Z h3 x0 "java/lang/String" "value" "[B" .null := (P1.keep K3 nin0)
  have S9 : Safe Z consts_1 vm4 h3 x0 := own_safe_blank W4.warm.alike F7 F8
  obtain ⟨T5, h5, W5, R5, z5, X5, SF5, st5⟩ := W4.putF hx (hw _ (List.mem_of_getElem? (i := 29) rfl)) Via.refl F6 F7 (Or.inr ⟨(hw _ (List.mem_of_getElem? (i := 30) rfl)), rfl, hnm⟩) (hw _ (List.mem_of_getElem? (i := 15) rfl)) (ty := .byte) (by decide) rfl rfl S9 (by omega) (g := (mkF m 48 #[.val (.ref x0), .val (.ref s0), .val (.int (0 : Int32)), .val (.int (2 : Int32)), .val .null, .val (.ref b_3)] [(.int (1 : Int32)), (.ref x0)])) rfl rfl (hb hby dd_jdk_42_method_149_code_48)
  refine Go.st (g' := (mkF m 51 #[.val (.ref x0), .val (.ref s0), .val (.int (0 : Int32)), .val (.int (2 : Int32)), .val .null, .val (.ref b_3)] [])) st5 ?_
  refine Go.st (g' := (mkF m 52 #[.val (.ref x0), .val (.ref s0), .val (.int (0 : Int32)), .val (.int (2 : Int32)), .val .null, .val (.ref b_3)] [(.ref x0)])) (fun _ k => XS.aloadN W5.here hx rfl (hb hby dd_jdk_42_method_149_code_51) rfl rfl  k) ?_
  refine Go.st (g' := (mkF m 54 #[.val (.ref x0), .val (.ref s0), .val (.int (0 : Int32)), .val (.int (2 : Int32)), .val .null, .val (.ref b_3)] [(.ref b_3), (.ref x0)])) (fun _ k => XS.aload W5.here hx rfl (hb hby dd_jdk_42_method_149_code_52) rfl rfl  k) ?_
  have F11 : Fld Z h5 x0 "java/lang/String" "value" "[B" .null := (F8.other R5 (Or.inr (slot_ne (Or.inr (hw _ (List.mem_of_getElem? (i := 28) rfl))) (Or.inr (hw _ (List.mem_of_getElem? (i := 30) rfl))) (by decide) (t := (.array .byte)) (t' := .byte) (by decide) (by decide))))
  have F12 : Exa Z h5 x0 "java/lang/String" := (F7.wr R5)
  have F13 : Safe Z consts_1 vm4 h5 x0 := (SF5 _ (by omega) S9)
  obtain ⟨T10, h10, W10, R10, z10, X10, SF10, st10⟩ := W5.putF hx (hw _ (List.mem_of_getElem? (i := 27) rfl)) Via.refl F11 F12 (Or.inr ⟨(hw _ (List.mem_of_getElem? (i := 28) rfl)), rfl, hnm⟩) (hw _ (List.mem_of_getElem? (i := 15) rfl)) (ty := (.array .byte)) (by decide) rfl rfl F13 (by omega) (g := (mkF m 54 #[.val (.ref x0), .val (.ref s0), .val (.int (0 : Int32)), .val (.int (2 : Int32)), .val .null, .val (.ref b_3)] [(.ref b_3), (.ref x0)])) rfl rfl (hb hby dd_jdk_42_method_149_code_54)
  refine Go.st (g' := (mkF m 57 #[.val (.ref x0), .val (.ref s0), .val (.int (0 : Int32)), .val (.int (2 : Int32)), .val .null, .val (.ref b_3)] [])) st10 ?_
  have F14 : Fld Z h10 x0 "java/lang/String" "coder" "B" (.int (1 : Int32)) := (X5.other R10 (Or.inr (slot_ne (Or.inr (hw _ (List.mem_of_getElem? (i := 30) rfl))) (Or.inr (hw _ (List.mem_of_getElem? (i := 28) rfl))) (by decide) (t := .byte) (t' := (.array .byte)) (by decide) (by decide))))
  have F15 : Arv Z h10 b_3 kb_3 .byte (4 : Int32) [(.int ((c1 >>> ((0 : Int32) &&& 31)).toInt8.toInt32)), (.int ((c1 >>> ((8 : Int32) &&& 31)).toInt8.toInt32)), (.int ((c2 >>> ((0 : Int32) &&& 31)).toInt8.toInt32)), (.int ((c2 >>> ((8 : Int32) &&& 31)).toInt8.toInt32))] (.int (0 : Int32)) := ((f3_0.other R5 (own_ne (by omega))).other R10 (own_ne (by omega)))
  exact W10.retV hx hEL hlk hret (hb hby dd_jdk_42_method_149_code_57) (by decide) (by decide) ⟨b_3, kb_3, rfl, X10, F14, F15, ((((Keep.refl h0 [x0]).trans K3 all0).wr R5 (Or.inl (List.mem_of_getElem? (i := 0) rfl))).wr R10 (Or.inl (List.mem_of_getElem? (i := 0) rfl)))⟩
set_option maxRecDepth 65536 in
set_option maxHeartbeats 4000000 in
theorem own_i1_2_0 (l : Launch) {Z : State} {a0 : Array Value} (hE : Ctx Z a0) {n0 : Nat} {h0 : Heap} (O : Old Z n0 h0) {x0 : Addr} {s0 : Addr} {ks : ClassId} {dd : Value} {c1 : Int32} {c2 : Int32} (hx0 : n0 ≤ x0) (hsx : ¬ @Eq Nat s0 x0) (hc1 : Chr c1) (hc2 : Chr c2) (hw1 : (255 : Int32) < c1) (P0 : Exa Z h0 x0 "java/lang/String") (P1 : Fld Z h0 x0 "java/lang/String" "value" "[B" .null) (P2 : Fld Z h0 x0 "java/lang/String" "coder" "B" (.int (0 : Int32))) (P3 : Arv Z h0 s0 ks .char (2 : Int32) [(.int c1), (.int c2)] dd) :
    Met l (⟨"java/lang/String", "<init>", "([C)V"⟩ : MethodName) jdk_42_method_3_code 2 (Option.none : Option Jvm.ClassFile.FieldType) ({ frames := 5, cells := 2, slots := 6, locals := 74 } : Room) Z consts_1 n0 [] #[(.ref x0), (.ref s0)] h0 (fun v h => ∃ (t : Addr), ∃ (kt : ClassId), v = none ∧ Fld Z h x0 "java/lang/String" "value" "[B" (.ref t) ∧ Fld Z h x0 "java/lang/String" "coder" "B" (.int (1 : Int32)) ∧ Arv Z h t kt .byte (4 : Int32) [(.int ((c1 >>> ((0 : Int32) &&& 31)).toInt8.toInt32)), (.int ((c1 >>> ((8 : Int32) &&& 31)).toInt8.toInt32)), (.int ((c2 >>> ((0 : Int32) &&& 31)).toInt8.toInt32)), (.int ((c2 >>> ((8 : Int32) &&& 31)).toInt8.toInt32))] (.int (0 : Int32)) ∧ Keep h0 h [x0]) := by
  have hw := hE.1
  have hEL := own_EW hw
  have own_wS := own_stringAtoms hw
  have hE1 := own_E1 hw
  refine Met.of (by first | (refine plainFor_of_name ?_; simp [plainName, overriddenIn]; done) | decide +kernel) O ?_
  intro p e s m below meth c T0 hx hby hml hret hlk hnm hh0 W0
  have z0 := W0.ge
  have yP0 : h0.size > x0 := P0.lt
  have yP3 : h0.size > s0 := P3.lt
  refine Go.st (g' := (mkF m 0 #[.val (.ref x0), .val (.ref s0)] [])) (fun _ k => castTop (by first | (simp [entryFrame, mkF, argsToLocals, maxLocals, own_catI, own_catJ, own_catD, own_catA, own_catN]; done) | rfl) k) ?_
  refine Go.st (g' := (mkF m 1 #[.val (.ref x0), .val (.ref s0)] [(.ref x0)])) (fun _ k => XS.aloadN W0.here hx rfl (hb hby dd_jdk_42_method_3_code_0) rfl rfl  k) ?_
  refine Go.st (g' := (mkF m 2 #[.val (.ref x0), .val (.ref s0)] [(.ref s0), (.ref x0)])) (fun _ k => XS.aloadN W0.here hx rfl (hb hby dd_jdk_42_method_3_code_1) rfl rfl  k) ?_
  refine Go.st (g' := (mkF m 3 #[.val (.ref x0), .val (.ref s0)] [(.int (0 : Int32)), (.ref s0), (.ref x0)])) (fun _ k => XS.iconst W0.here hx rfl (hb hby dd_jdk_42_method_3_code_2) k) ?_
  refine Go.st (g' := (mkF m 4 #[.val (.ref x0), .val (.ref s0)] [(.ref s0), (.int (0 : Int32)), (.ref s0), (.ref x0)])) (fun _ k => XS.aloadN W0.here hx rfl (hb hby dd_jdk_42_method_3_code_3) rfl rfl  k) ?_
  refine Go.st (g' := (mkF m 5 #[.val (.ref x0), .val (.ref s0)] [(.int (2 : Int32)), (.int (0 : Int32)), (.ref s0), (.ref x0)])) (W0.len hx P3 (g := (mkF m 4 #[.val (.ref x0), .val (.ref s0)] [(.ref s0), (.int (0 : Int32)), (.ref s0), (.ref x0)])) rfl rfl (hb hby dd_jdk_42_method_3_code_4)) ?_
  refine Go.st (g' := (mkF m 6 #[.val (.ref x0), .val (.ref s0)] [.null, (.int (2 : Int32)), (.int (0 : Int32)), (.ref s0), (.ref x0)])) (fun _ k => XS.aconstNull W0.here hx rfl (hb hby dd_jdk_42_method_3_code_5) k) ?_
  obtain ⟨_, vm1, T1, h1, W1, Q1, z1, SF1, st1⟩ := W0.callI hx hEL (own_i4_2_0 l hE W0.old (x0 := x0) (s0 := s0) (ks := ks) (dd := dd) (c1 := c1) (c2 := c2) (by omega) (by omega) hc1 hc2 hw1 P0 P1 P2 P3) rfl (hw _ (List.mem_of_getElem? (i := 66) rfl)) (hw _ (List.mem_of_getElem? (i := 67) rfl)) (hw _ (List.mem_of_getElem? (i := 7) rfl)) (hw _ (List.mem_of_getElem? (i := 68) rfl)) (by decide) (Wd := 0) (by decide) (by decide) (by decide) (by decide) (g := (mkF m 6 #[.val (.ref x0), .val (.ref s0)] [.null, (.int (2 : Int32)), (.int (0 : Int32)), (.ref s0), (.ref x0)])) rfl (by rw [hml]; rfl) (a := x0) (argsL := [(.ref s0), (.int (0 : Int32)), (.int (2 : Int32)), .null]) (rest := []) rfl (lenOf pd___CIILjava_lang_Void__V rfl) rfl (by show 2 * 0 + _ ≤ _; exact Nat.le_of_eq rfl) (hb hby dd_jdk_42_method_3_code_6)
  obtain ⟨t_1, kt_1, rfl, f1_0, f1_1, f1_2, K1⟩ := Q1
  have yf1_2 : h1.size > t_1 := f1_2.lt
  refine Go.tr (g' := (mkF m 9 #[.val (.ref x0), .val (.ref s0)] [])) st1 ?_
  exact W1.retV hx hEL hlk hret (hb hby dd_jdk_42_method_3_code_9) (by decide) (by decide) ⟨t_1, kt_1, rfl, f1_0, f1_1, f1_2, ((Keep.refl h0 [x0]).trans K1 (allS (Or.inl (List.mem_of_getElem? (i := 0) rfl)) all0))⟩
set_option maxRecDepth 65536 in
set_option maxHeartbeats 4000000 in
theorem own_i1_2_1 (l : Launch) {Z : State} {a0 : Array Value} (hE : Ctx Z a0) {n0 : Nat} {h0 : Heap} (O : Old Z n0 h0) {x0 : Addr} {s0 : Addr} {ks : ClassId} {dd : Value} {c1 : Int32} {c2 : Int32} (hx0 : n0 ≤ x0) (hsx : ¬ @Eq Nat s0 x0) (hc1 : Chr c1) (hc2 : Chr c2) (hw1 : ¬ (255 : Int32) < c1) (hw2 : (255 : Int32) < c2) (P0 : Exa Z h0 x0 "java/lang/String") (P1 : Fld Z h0 x0 "java/lang/String" "value" "[B" .null) (P2 : Fld Z h0 x0 "java/lang/String" "coder" "B" (.int (0 : Int32))) (P3 : Arv Z h0 s0 ks .char (2 : Int32) [(.int c1), (.int c2)] dd) :
    Met l (⟨"java/lang/String", "<init>", "([C)V"⟩ : MethodName) jdk_42_method_3_code 2 (Option.none : Option Jvm.ClassFile.FieldType) ({ frames := 5, cells := 2, slots := 6, locals := 74 } : Room) Z consts_1 n0 [] #[(.ref x0), (.ref s0)] h0 (fun v h => ∃ (t : Addr), ∃ (kt : ClassId), v = none ∧ Fld Z h x0 "java/lang/String" "value" "[B" (.ref t) ∧ Fld Z h x0 "java/lang/String" "coder" "B" (.int (1 : Int32)) ∧ Arv Z h t kt .byte (4 : Int32) [(.int ((c1 >>> ((0 : Int32) &&& 31)).toInt8.toInt32)), (.int ((c1 >>> ((8 : Int32) &&& 31)).toInt8.toInt32)), (.int ((c2 >>> ((0 : Int32) &&& 31)).toInt8.toInt32)), (.int ((c2 >>> ((8 : Int32) &&& 31)).toInt8.toInt32))] (.int (0 : Int32)) ∧ Keep h0 h [x0]) := by
  have hw := hE.1
  have hEL := own_EW hw
  have own_wS := own_stringAtoms hw
  have hE1 := own_E1 hw
  refine Met.of (by first | (refine plainFor_of_name ?_; simp [plainName, overriddenIn]; done) | decide +kernel) O ?_
  intro p e s m below meth c T0 hx hby hml hret hlk hnm hh0 W0
  have z0 := W0.ge
  have yP0 : h0.size > x0 := P0.lt
  have yP3 : h0.size > s0 := P3.lt
  refine Go.st (g' := (mkF m 0 #[.val (.ref x0), .val (.ref s0)] [])) (fun _ k => castTop (by first | (simp [entryFrame, mkF, argsToLocals, maxLocals, own_catI, own_catJ, own_catD, own_catA, own_catN]; done) | rfl) k) ?_
  refine Go.st (g' := (mkF m 1 #[.val (.ref x0), .val (.ref s0)] [(.ref x0)])) (fun _ k => XS.aloadN W0.here hx rfl (hb hby dd_jdk_42_method_3_code_0) rfl rfl  k) ?_
  refine Go.st (g' := (mkF m 2 #[.val (.ref x0), .val (.ref s0)] [(.ref s0), (.ref x0)])) (fun _ k => XS.aloadN W0.here hx rfl (hb hby dd_jdk_42_method_3_code_1) rfl rfl  k) ?_
  refine Go.st (g' := (mkF m 3 #[.val (.ref x0), .val (.ref s0)] [(.int (0 : Int32)), (.ref s0), (.ref x0)])) (fun _ k => XS.iconst W0.here hx rfl (hb hby dd_jdk_42_method_3_code_2) k) ?_
  refine Go.st (g' := (mkF m 4 #[.val (.ref x0), .val (.ref s0)] [(.ref s0), (.int (0 : Int32)), (.ref s0), (.ref x0)])) (fun _ k => XS.aloadN W0.here hx rfl (hb hby dd_jdk_42_method_3_code_3) rfl rfl  k) ?_
  refine Go.st (g' := (mkF m 5 #[.val (.ref x0), .val (.ref s0)] [(.int (2 : Int32)), (.int (0 : Int32)), (.ref s0), (.ref x0)])) (W0.len hx P3 (g := (mkF m 4 #[.val (.ref x0), .val (.ref s0)] [(.ref s0), (.int (0 : Int32)), (.ref s0), (.ref x0)])) rfl rfl (hb hby dd_jdk_42_method_3_code_4)) ?_
  refine Go.st (g' := (mkF m 6 #[.val (.ref x0), .val (.ref s0)] [.null, (.int (2 : Int32)), (.int (0 : Int32)), (.ref s0), (.ref x0)])) (fun _ k => XS.aconstNull W0.here hx rfl (hb hby dd_jdk_42_method_3_code_5) k) ?_
  obtain ⟨_, vm1, T1, h1, W1, Q1, z1, SF1, st1⟩ := W0.callI hx hEL (own_i4_2_1 l hE W0.old (x0 := x0) (s0 := s0) (ks := ks) (dd := dd) (c1 := c1) (c2 := c2) (by omega) (by omega) hc1 hc2 hw1 hw2 P0 P1 P2 P3) rfl (hw _ (List.mem_of_getElem? (i := 66) rfl)) (hw _ (List.mem_of_getElem? (i := 67) rfl)) (hw _ (List.mem_of_getElem? (i := 7) rfl)) (hw _ (List.mem_of_getElem? (i := 68) rfl)) (by decide) (Wd := 0) (by decide) (by decide) (by decide) (by decide) (g := (mkF m 6 #[.val (.ref x0), .val (.ref s0)] [.null, (.int (2 : Int32)), (.int (0 : Int32)), (.ref s0), (.ref x0)])) rfl (by rw [hml]; rfl) (a := x0) (argsL := [(.ref s0), (.int (0 : Int32)), (.int (2 : Int32)), .null]) (rest := []) rfl (lenOf pd___CIILjava_lang_Void__V rfl) rfl (by show 2 * 0 + _ ≤ _; exact Nat.le_of_eq rfl) (hb hby dd_jdk_42_method_3_code_6)
  obtain ⟨t_1, kt_1, rfl, f1_0, f1_1, f1_2, K1⟩ := Q1
  have yf1_2 : h1.size > t_1 := f1_2.lt
  refine Go.tr (g' := (mkF m 9 #[.val (.ref x0), .val (.ref s0)] [])) st1 ?_
  exact W1.retV hx hEL hlk hret (hb hby dd_jdk_42_method_3_code_9) (by decide) (by decide) ⟨t_1, kt_1, rfl, f1_0, f1_1, f1_2, ((Keep.refl h0 [x0]).trans K1 (allS (Or.inl (List.mem_of_getElem? (i := 0) rfl)) all0))⟩
theorem own_i1_2 (l : Launch) {Z : State} {a0 : Array Value} (hE : Ctx Z a0) {n0 : Nat} {h0 : Heap} (O : Old Z n0 h0) {x0 : Addr} {s0 : Addr} {ks : ClassId} {dd : Value} {c1 : Int32} {c2 : Int32} (hx0 : n0 ≤ x0) (hsx : ¬ @Eq Nat s0 x0) (hc1 : Chr c1) (hc2 : Chr c2) (hww : (255 : Int32) < c1 ∨ (255 : Int32) < c2) (P0 : Exa Z h0 x0 "java/lang/String") (P1 : Fld Z h0 x0 "java/lang/String" "value" "[B" .null) (P2 : Fld Z h0 x0 "java/lang/String" "coder" "B" (.int (0 : Int32))) (P3 : Arv Z h0 s0 ks .char (2 : Int32) [(.int c1), (.int c2)] dd) :
    Met l (⟨"java/lang/String", "<init>", "([C)V"⟩ : MethodName) jdk_42_method_3_code 2 (Option.none : Option Jvm.ClassFile.FieldType) ({ frames := 5, cells := 2, slots := 6, locals := 74 } : Room) Z consts_1 n0 [] #[(.ref x0), (.ref s0)] h0 (fun v h => ∃ (t : Addr), ∃ (kt : ClassId), v = none ∧ Fld Z h x0 "java/lang/String" "value" "[B" (.ref t) ∧ Fld Z h x0 "java/lang/String" "coder" "B" (.int (1 : Int32)) ∧ Arv Z h t kt .byte (4 : Int32) [(.int ((c1 >>> ((0 : Int32) &&& 31)).toInt8.toInt32)), (.int ((c1 >>> ((8 : Int32) &&& 31)).toInt8.toInt32)), (.int ((c2 >>> ((0 : Int32) &&& 31)).toInt8.toInt32)), (.int ((c2 >>> ((8 : Int32) &&& 31)).toInt8.toInt32))] (.int (0 : Int32)) ∧ Keep h0 h [x0]) := by
  by_cases hw1 : (255 : Int32) < c1
  · exact own_i1_2_0 l hE O hx0 hsx hc1 hc2 hw1 P0 P1 P2 P3
  · skip
    by_cases hw2 : (255 : Int32) < c2
    · exact own_i1_2_1 l hE O hx0 hsx hc1 hc2 hw1 hw2 P0 P1 P2 P3
    · exact absurd hww (by simp only [hw1, hw2, or_self]; exact id)
set_option maxRecDepth 65536 in
set_option maxHeartbeats 4000000 in
theorem own_makeW2 (l : Launch) {Z : State} {a0 : Array Value} (hE : Ctx Z a0) {n0 : Nat} {h0 : Heap} (O : Old Z n0 h0) {c1 : Int32} {c2 : Int32} {c3 : Int32} (hc1 : Chr c1) (hc2 : Chr c2) (hc3 : Chr c3) (hww : (255 : Int32) < c1 ∨ (255 : Int32) < c2)  :
    Met l (⟨"com/example/ontoloom/ontoloom/sql/IriIsDataErrorPinLaw", "make", "(ICCC)Ljava/lang/String;"⟩ : MethodName) method_3_code 4 (Option.some (Jvm.ClassFile.FieldType.object "java/lang/String")) ({ frames := 6, cells := 4, slots := 12, locals := 88 } : Room) Z consts_1 n0 [] #[(.int (2 : Int32)), (.int c1), (.int c2), (.int c3)] h0 (fun v h => ∃ (x : Addr), ∃ (t : Addr), ∃ (kt : ClassId), v = some (.ref x) ∧ h0.size ≤ x ∧ Exa Z h x "java/lang/String" ∧ Fld Z h x "java/lang/String" "value" "[B" (.ref t) ∧ Fld Z h x "java/lang/String" "coder" "B" (.int (1 : Int32)) ∧ Arv Z h t kt .byte (4 : Int32) [(.int ((c1 >>> ((0 : Int32) &&& 31)).toInt8.toInt32)), (.int ((c1 >>> ((8 : Int32) &&& 31)).toInt8.toInt32)), (.int ((c2 >>> ((0 : Int32) &&& 31)).toInt8.toInt32)), (.int ((c2 >>> ((8 : Int32) &&& 31)).toInt8.toInt32))] (.int (0 : Int32)) ∧ Keep h0 h []) := by
  have hw := hE.1
  have hEL := own_EW hw
  have own_wS := own_stringAtoms hw
  refine Met.of (by first | (refine plainFor_of_name ?_; simp [plainName, overriddenIn]; done) | decide +kernel) O ?_
  intro p e s m below meth c T0 hx hby hml hret hlk hnm hh0 W0
  have z0 := W0.ge
  refine Go.st (g' := (mkF m 0 #[.val (.int (2 : Int32)), .val (.int c1), .val (.int c2), .val (.int c3)] [])) (fun _ k => castTop (by first | (simp [entryFrame, mkF, argsToLocals, maxLocals, own_catI, own_catJ, own_catD, own_catA, own_catN]; done) | rfl) k) ?_
  refine Go.st (g' := (mkF m 1 #[.val (.int (2 : Int32)), .val (.int c1), .val (.int c2), .val (.int c3)] [(.int (2 : Int32))])) (fun _ k => XS.iloadN W0.here hx rfl (hb hby dd_method_3_code_0) rfl  k) ?_
  refine Go.st (g' := (mkF m 15 #[.val (.int (2 : Int32)), .val (.int c1), .val (.int c2), .val (.int c3)] [])) (fun _ k => XS.ifYes W0.here hx rfl (pc0 := 1) (pc' := 15) rfl (hb hby dd_method_3_code_1) rfl ((if0 _ _).trans (feq (by decide)).2) (by decide) (by decide) k) ?_
  refine Go.st (g' := (mkF m 16 #[.val (.int (2 : Int32)), .val (.int c1), .val (.int c2), .val (.int c3)] [(.int (2 : Int32))])) (fun _ k => XS.iloadN W0.here hx rfl (hb hby dd_method_3_code_15) rfl  k) ?_
  refine Go.st (g' := (mkF m 17 #[.val (.int (2 : Int32)), .val (.int c1), .val (.int c2), .val (.int c3)] [(.int (1 : Int32)), (.int (2 : Int32))])) (fun _ k => XS.iconst W0.here hx rfl (hb hby dd_method_3_code_16) k) ?_
  refine Go.st (g' := (mkF m 25 #[.val (.int (2 : Int32)), .val (.int c1), .val (.int c2), .val (.int c3)] [])) (fun _ k => XS.icmpYes W0.here hx rfl (pc0 := 17) (pc' := 25) rfl (hb hby dd_method_3_code_17) rfl (feq (by decide)).2 (by decide) (by decide) k) ?_
  refine Go.st (g' := (mkF m 26 #[.val (.int (2 : Int32)), .val (.int c1), .val (.int c2), .val (.int c3)] [(.int (2 : Int32))])) (fun _ k => XS.iloadN W0.here hx rfl (hb hby dd_method_3_code_25) rfl  k) ?_
  refine Go.st (g' := (mkF m 27 #[.val (.int (2 : Int32)), .val (.int c1), .val (.int c2), .val (.int c3)] [(.int (2 : Int32)), (.int (2 : Int32))])) (fun _ k => XS.iconst W0.here hx rfl (hb hby dd_method_3_code_26) k) ?_
  refine Go.st (g' := (mkF m 30 #[.val (.int (2 : Int32)), .val (.int c1), .val (.int c2), .val (.int c3)] [])) (fun _ k => XS.icmpNo W0.here hx rfl (hb hby dd_method_3_code_27) rfl (teq (by decide)).2 k) ?_
  obtain ⟨T1, h1, a1, g1, W1, E1, z1, X1, D1, S1, SF1, U1, st1⟩ := W0.newO hx (hw _ (List.mem_of_getElem? (i := 61) rfl)) (hw _ (List.mem_of_getElem? (i := 15) rfl)) (hw _ (List.mem_of_getElem? (i := 7) rfl)) (g := (mkF m 30 #[.val (.int (2 : Int32)), .val (.int c1), .val (.int c2), .val (.int c3)] [])) rfl (hb hby dd_method_3_code_30) (by decide) (by decide)
  have F2 : Fld Z h1 a1 "java/lang/String" "value" "[B" .null := D1 (Or.inr (hw _ (List.mem_of_getElem? (i := 28) rfl))) (ty := (.array .byte)) (by decide)
  have F3 : Fld Z h1 a1 "java/lang/String" "coder" "B" (.int (0 : Int32)) := D1 (Or.inr (hw _ (List.mem_of_getElem? (i := 30) rfl))) (ty := .byte) (by decide)
  refine Go.st (g' := (mkF m 33 #[.val (.int (2 : Int32)), .val (.int c1), .val (.int c2), .val (.int c3)] [(.ref a1)])) st1 ?_
  refine Go.st (g' := (mkF m 34 #[.val (.int (2 : Int32)), .val (.int c1), .val (.int c2), .val (.int c3)] [(.ref a1), (.ref a1)])) (fun _ k => XS.dup W1.here hx rfl (hb hby dd_method_3_code_33) rfl rfl k) ?_
  refine Go.st (g' := (mkF m 35 #[.val (.int (2 : Int32)), .val (.int c1), .val (.int c2), .val (.int c3)] [(.int (2 : Int32)), (.ref a1), (.ref a1)])) (fun _ k => XS.iconst W1.here hx rfl (hb hby dd_method_3_code_34) k) ?_
  obtain ⟨T4, h4, a4, k4, g4, W4, E4, z4, X4, S4, SF4, st4⟩ := W1.newP hx (ty := .char) rfl (hw _ (List.mem_of_getElem? (i := 62) rfl)) (g := (mkF m 35 #[.val (.int (2 : Int32)), .val (.int c1), .val (.int c2), .val (.int c3)] [(.int (2 : Int32)), (.ref a1), (.ref a1)])) rfl (hb hby dd_method_3_code_35) rfl (by decide) (cap := 2) (by decide) (by decide) (by decide) (by decide) 2
  have F5 : Arv Z h4 a4 k4 .char (2 : Int32) [(.int (0 : Int32)), (.int (0 : Int32))] (.int (0 : Int32)) := X4
  refine Go.st (g' := (mkF m 37 #[.val (.int (2 : Int32)), .val (.int c1), .val (.int c2), .val (.int c3)] [(.ref a4), (.ref a1), (.ref a1)])) st4 ?_
  refine Go.st (g' := (mkF m 38 #[.val (.int (2 : Int32)), .val (.int c1), .val (.int c2), .val (.int c3)] [(.ref a4), (.ref a4), (.ref a1), (.ref a1)])) (fun _ k => XS.dup W4.here hx rfl (hb hby dd_method_3_code_37) rfl rfl k) ?_
  refine Go.st (g' := (mkF m 39 #[.val (.int (2 : Int32)), .val (.int c1), .val (.int c2), .val (.int c3)] [(.int (0 : Int32)), (.ref a4), (.ref a4), (.ref a1), (.ref a1)])) (fun _ k => XS.iconst W4.here hx rfl (hb hby dd_method_3_code_38) k) ?_
  refine Go.st (g' := (mkF m 40 #[.val (.int (2 : Int32)), .val (.int c1), .val (.int c2), .val (.int c3)] [(.int c1), (.int (0 : Int32)), (.ref a4), (.ref a4), (.ref a1), (.ref a1)])) (fun _ k => XS.iloadN W4.here hx rfl (hb hby dd_method_3_code_39) rfl  k) ?_
  obtain ⟨T6, h6, W6, R6, z6, X6, SF6, st6⟩ := W4.stC hx F5  ⟨by decide, by decide⟩ 0 rfl (Nat.le_of_ble_eq_true rfl) (by omega) (g := (mkF m 40 #[.val (.int (2 : Int32)), .val (.int c1), .val (.int c2), .val (.int c3)] [(.int c1), (.int (0 : Int32)), (.ref a4), (.ref a4), (.ref a1), (.ref a1)])) rfl rfl (hb hby dd_method_3_code_40)
  have F7 : Arv Z h6 a4 k4 .char (2 : Int32) [(.int c1), (.int (0 : Int32))] (.int (0 : Int32)) := (by have q := X6; rw [show nar .char c1 = c1 from own_narC hc1] at q; exact q)
  refine Go.st (g' := (mkF m 41 #[.val (.int (2 : Int32)), .val (.int c1), .val (.int c2), .val (.int c3)] [(.ref a4), (.ref a1), (.ref a1)])) st6 ?_
  refine Go.st (g' := (mkF m 42 #[.val (.int (2 : Int32)), .val (.int c1), .val (.int c2), .val (.int c3)] [(.ref a4), (.ref a4), (.ref a1), (.ref a1)])) (fun _ k => XS.dup W6.here hx rfl (hb hby dd_method_3_code_41) rfl rfl k) ?_
  refine Go.st (g' := (mkF m 43 #[.val (.int (2 : Int32)), .val (.int c1), .val (.int c2), .val (.int c3)] [(.int (1 : Int32)), (.ref a4), (.ref a4), (.ref a1), (.ref a1)])) (fun _ k => XS.iconst W6.here hx rfl (hb hby dd_method_3_code_42) k) ?_
  refine Go.st (g' := (mkF m 44 #[.val (.int (2 : Int32)), .val (.int c1), .val (.int c2), .val (.int c3)] [(.int c2), (.int (1 : Int32)), (.ref a4), (.ref a4), (.ref a1), (.ref a1)])) (fun _ k => XS.iloadN W6.here hx rfl (hb hby dd_method_3_code_43) rfl  k) ?_
  obtain ⟨T8, h8, W8, R8, z8, X8, SF8, st8⟩ := W6.stC hx F7  ⟨by decide, by decide⟩ 1 rfl (Nat.le_of_ble_eq_true rfl) (by omega) (g := (mkF m 44 #[.val (.int (2 : Int32)), .val (.int c1), .val (.int c2), .val (.int c3)] [(.int c2), (.int (1 : Int32)), (.ref a4), (.ref a4), (.ref a1), (.ref a1)])) rfl rfl (hb hby dd_method_3_code_44)
  have F9 : Arv Z h8 a4 k4 .char (2 : Int32) [(.int c1), (.int c2)] (.int (0 : Int32)) := (by have q := X8; rw [show nar .char c2 = c2 from own_narC hc2] at q; exact q)
  refine Go.st (g' := (mkF m 45 #[.val (.int (2 : Int32)), .val (.int c1), .val (.int c2), .val (.int c3)] [(.ref a4), (.ref a1), (.ref a1)])) st8 ?_
  have F11 : Exa Z h8 a1 "java/lang/String" := (((X1.ext E4).wr R6).wr R8)
  have F12 : Fld Z h8 a1 "java/lang/String" "value" "[B" .null := (((F2.ext E4).other R6 (Or.inl (own_ne (by omega)))).other R8 (Or.inl (own_ne (by omega))))
  have F13 : Fld Z h8 a1 "java/lang/String" "coder" "B" (.int (0 : Int32)) := (((F3.ext E4).other R6 (Or.inl (own_ne (by omega)))).other R8 (Or.inl (own_ne (by omega))))
  obtain ⟨_, vm10, T10, h10, W10, Q10, z10, SF10, st10⟩ := W8.callI hx hEL (own_i1_2 l hE W8.old (x0 := a1) (s0 := a4) (ks := k4) (dd := (.int (0 : Int32))) (c1 := c1) (c2 := c2) (by omega) (by omega) hc1 hc2 hww F11 F12 F13 F9) rfl (hw _ (List.mem_of_getElem? (i := 63) rfl)) (hw _ (List.mem_of_getElem? (i := 64) rfl)) (hw _ (List.mem_of_getElem? (i := 7) rfl)) (hw _ (List.mem_of_getElem? (i := 65) rfl)) (by decide) (Wd := 1) (by decide) (by decide) (by decide) (by decide) (g := (mkF m 45 #[.val (.int (2 : Int32)), .val (.int c1), .val (.int c2), .val (.int c3)] [(.ref a4), (.ref a1), (.ref a1)])) rfl (by rw [hml]; rfl) (a := a1) (argsL := [(.ref a4)]) (rest := [(.ref a1)]) rfl (lenOf pd___C_V rfl) rfl (by show 2 * 0 + _ ≤ _; exact Nat.le_of_eq rfl) (hb hby dd_method_3_code_45)
  obtain ⟨t_10, kt_10, rfl, f10_0, f10_1, f10_2, K10⟩ := Q10
  have yf10_2 : h10.size > t_10 := f10_2.lt
  refine Go.tr (g' := (mkF m 48 #[.val (.int (2 : Int32)), .val (.int c1), .val (.int c2), .val (.int c3)] [(.ref a1)])) st10 ?_
  have F14 : Exa Z h10 a1 "java/lang/String" := (F11.keep K10)
  exact W10.retA hx hEL hlk hret rfl rfl rfl (hb hby dd_method_3_code_48) (by decide) (by decide) ⟨a1, t_10, kt_10, rfl, (by omega), F14, f10_0, f10_1, f10_2, ((((((Keep.refl h0 []).ext E1).ext E4).wr R6 (Or.inr (by omega))).wr R8 (Or.inr (by omega))).trans K10 (allS (Or.inr (by omega)) all0))⟩
set_option maxRecDepth 65536 in
set_option maxHeartbeats 4000000 in
theorem own_makeL3 (l : Launch) {Z : State} {a0 : Array Value} (hE : Ctx Z a0) {n0 : Nat} {h0 : Heap} (O : Old Z n0 h0) {c1 : Int32} {c2 : Int32} {c3 : Int32} (hc1 : Chr c1) (hc2 : Chr c2) (hc3 : Chr c3) (hl1 : ¬ c1 < 0 ∧ ¬ (255 : Int32) < c1) (hl2 : ¬ c2 < 0 ∧ ¬ (255 : Int32) < c2) (hl3 : ¬ c3 < 0 ∧ ¬ (255 : Int32) < c3)  :
    Met l (⟨"com/example/ontoloom/ontoloom/sql/IriIsDataErrorPinLaw", "make", "(ICCC)Ljava/lang/String;"⟩ : MethodName) method_3_code 4 (Option.some (Jvm.ClassFile.FieldType.object "java/lang/String")) ({ frames := 4, cells := 3, slots := 10, locals := 66 } : Room) Z consts_1 n0 [] #[(.int (3 : Int32)), (.int c1), (.int c2), (.int c3)] h0 (fun v h => ∃ (x : Addr), ∃ (t : Addr), v = some (.ref x) ∧ h0.size ≤ x ∧ Str Z h x t [c1, c2, c3] ∧ Keep h0 h []) := by
  have hw := hE.1
  have hEL := own_EW hw
  have own_wS := own_stringAtoms hw
  obtain ⟨zc, hzc, hzc0⟩ := hE.2.1
  have hws : ∀ d ∈ StrChars.Road.words, d.before a0 Z = true := fun d hd => hw d ((by decide +kernel : ∀ d ∈ StrChars.Road.words, d ∈ tables_1) d hd)
  refine Met.of (by first | (refine plainFor_of_name ?_; simp [plainName, overriddenIn]; done) | decide +kernel) O ?_
  intro p e s m below meth c T0 hx hby hml hret hlk hnm hh0 W0
  have z0 := W0.ge
  refine Go.st (g' := (mkF m 0 #[.val (.int (3 : Int32)), .val (.int c1), .val (.int c2), .val (.int c3)] [])) (fun _ k => castTop (by first | (simp [entryFrame, mkF, argsToLocals, maxLocals, own_catI, own_catJ, own_catD, own_catA, own_catN]; done) | rfl) k) ?_
  refine Go.st (g' := (mkF m 1 #[.val (.int (3 : Int32)), .val (.int c1), .val (.int c2), .val (.int c3)] [(.int (3 : Int32))])) (fun _ k => XS.iloadN W0.here hx rfl (hb hby dd_method_3_code_0) rfl  k) ?_
  refine Go.st (g' := (mkF m 15 #[.val (.int (3 : Int32)), .val (.int c1), .val (.int c2), .val (.int c3)] [])) (fun _ k => XS.ifYes W0.here hx rfl (pc0 := 1) (pc' := 15) rfl (hb hby dd_method_3_code_1) rfl ((if0 _ _).trans (feq (by decide)).2) (by decide) (by decide) k) ?_
  refine Go.st (g' := (mkF m 16 #[.val (.int (3 : Int32)), .val (.int c1), .val (.int c2), .val (.int c3)] [(.int (3 : Int32))])) (fun _ k => XS.iloadN W0.here hx rfl (hb hby dd_method_3_code_15) rfl  k) ?_
  refine Go.st (g' := (mkF m 17 #[.val (.int (3 : Int32)), .val (.int c1), .val (.int c2), .val (.int c3)] [(.int (1 : Int32)), (.int (3 : Int32))])) (fun _ k => XS.iconst W0.here hx rfl (hb hby dd_method_3_code_16) k) ?_
  refine Go.st (g' := (mkF m 25 #[.val (.int (3 : Int32)), .val (.int c1), .val (.int c2), .val (.int c3)] [])) (fun _ k => XS.icmpYes W0.here hx rfl (pc0 := 17) (pc' := 25) rfl (hb hby dd_method_3_code_17) rfl (feq (by decide)).2 (by decide) (by decide) k) ?_
  refine Go.st (g' := (mkF m 26 #[.val (.int (3 : Int32)), .val (.int c1), .val (.int c2), .val (.int c3)] [(.int (3 : Int32))])) (fun _ k => XS.iloadN W0.here hx rfl (hb hby dd_method_3_code_25) rfl  k) ?_
  refine Go.st (g' := (mkF m 27 #[.val (.int (3 : Int32)), .val (.int c1), .val (.int c2), .val (.int c3)] [(.int (2 : Int32)), (.int (3 : Int32))])) (fun _ k => XS.iconst W0.here hx rfl (hb hby dd_method_3_code_26) k) ?_
  refine Go.st (g' := (mkF m 49 #[.val (.int (3 : Int32)), .val (.int c1), .val (.int c2), .val (.int c3)] [])) (fun _ k => XS.icmpYes W0.here hx rfl (pc0 := 27) (pc' := 49) rfl (hb hby dd_method_3_code_27) rfl (feq (by decide)).2 (by decide) (by decide) k) ?_
  obtain ⟨T1, h1, a1, g1, W1, E1, z1, X1, D1, S1, SF1, U1, st1⟩ := W0.newO hx (hw _ (List.mem_of_getElem? (i := 61) rfl)) (hw _ (List.mem_of_getElem? (i := 15) rfl)) (hw _ (List.mem_of_getElem? (i := 7) rfl)) (g := (mkF m 49 #[.val (.int (3 : Int32)), .val (.int c1), .val (.int c2), .val (.int c3)] [])) rfl (hb hby dd_method_3_code_49) (by decide) (by decide)
  have F2 : Fld Z h1 a1 "java/lang/String" "value" "[B" .null := D1 (Or.inr (hw _ (List.mem_of_getElem? (i := 28) rfl))) (ty := (.array .byte)) (by decide)
  have F3 : Fld Z h1 a1 "java/lang/String" "coder" "B" (.int (0 : Int32)) := D1 (Or.inr (hw _ (List.mem_of_getElem? (i := 30) rfl))) (ty := .byte) (by decide)
  refine Go.st (g' := (mkF m 52 #[.val (.int (3 : Int32)), .val (.int c1), .val (.int c2), .val (.int c3)] [(.ref a1)])) st1 ?_
  refine Go.st (g' := (mkF m 53 #[.val (.int (3 : Int32)), .val (.int c1), .val (.int c2), .val (.int c3)] [(.ref a1), (.ref a1)])) (fun _ k => XS.dup W1.here hx rfl (hb hby dd_method_3_code_52) rfl rfl k) ?_
  refine Go.st (g' := (mkF m 54 #[.val (.int (3 : Int32)), .val (.int c1), .val (.int c2), .val (.int c3)] [(.int (3 : Int32)), (.ref a1), (.ref a1)])) (fun _ k => XS.iconst W1.here hx rfl (hb hby dd_method_3_code_53) k) ?_
  obtain ⟨T4, h4, a4, k4, g4, W4, E4, z4, X4, S4, SF4, st4⟩ := W1.newP hx (ty := .char) rfl (hw _ (List.mem_of_getElem? (i := 62) rfl)) (g := (mkF m 54 #[.val (.int (3 : Int32)), .val (.int c1), .val (.int c2), .val (.int c3)] [(.int (3 : Int32)), (.ref a1), (.ref a1)])) rfl (hb hby dd_method_3_code_54) rfl (by decide) (cap := 3) (by decide) (by decide) (by decide) (by decide) 3
  have F5 : Arv Z h4 a4 k4 .char (3 : Int32) [(.int (0 : Int32)), (.int (0 : Int32)), (.int (0 : Int32))] (.int (0 : Int32)) := X4
  refine Go.st (g' := (mkF m 56 #[.val (.int (3 : Int32)), .val (.int c1), .val (.int c2), .val (.int c3)] [(.ref a4), (.ref a1), (.ref a1)])) st4 ?_
  refine Go.st (g' := (mkF m 57 #[.val (.int (3 : Int32)), .val (.int c1), .val (.int c2), .val (.int c3)] [(.ref a4), (.ref a4), (.ref a1), (.ref a1)])) (fun _ k => XS.dup W4.here hx rfl (hb hby dd_method_3_code_56) rfl rfl k) ?_
  refine Go.st (g' := (mkF m 58 #[.val (.int (3 : Int32)), .val (.int c1), .val (.int c2), .val (.int c3)] [(.int (0 : Int32)), (.ref a4), (.ref a4), (.ref a1), (.ref a1)])) (fun _ k => XS.iconst W4.here hx rfl (hb hby dd_method_3_code_57) k) ?_
  refine Go.st (g' := (mkF m 59 #[.val (.int (3 : Int32)), .val (.int c1), .val (.int c2), .val (.int c3)] [(.int c1), (.int (0 : Int32)), (.ref a4), (.ref a4), (.ref a1), (.ref a1)])) (fun _ k => XS.iloadN W4.here hx rfl (hb hby dd_method_3_code_58) rfl  k) ?_
  obtain ⟨T6, h6, W6, R6, z6, X6, SF6, st6⟩ := W4.stC hx F5  ⟨by decide, by decide⟩ 0 rfl (Nat.le_of_ble_eq_true rfl) (by omega) (g := (mkF m 59 #[.val (.int (3 : Int32)), .val (.int c1), .val (.int c2), .val (.int c3)] [(.int c1), (.int (0 : Int32)), (.ref a4), (.ref a4), (.ref a1), (.ref a1)])) rfl rfl (hb hby dd_method_3_code_59)
  have F7 : Arv Z h6 a4 k4 .char (3 : Int32) [(.int c1), (.int (0 : Int32)), (.int (0 : Int32))] (.int (0 : Int32)) := (by have q := X6; rw [show nar .char c1 = c1 from own_narC hc1] at q; exact q)
  refine Go.st (g' := (mkF m 60 #[.val (.int (3 : Int32)), .val (.int c1), .val (.int c2), .val (.int c3)] [(.ref a4), (.ref a1), (.ref a1)])) st6 ?_
  refine Go.st (g' := (mkF m 61 #[.val (.int (3 : Int32)), .val (.int c1), .val (.int c2), .val (.int c3)] [(.ref a4), (.ref a4), (.ref a1), (.ref a1)])) (fun _ k => XS.dup W6.here hx rfl (hb hby dd_method_3_code_60) rfl rfl k) ?_
  refine Go.st (g' := (mkF m 62 #[.val (.int (3 : Int32)), .val (.int c1), .val (.int c2), .val (.int c3)] [(.int (1 : Int32)), (.ref a4), (.ref a4), (.ref a1), (.ref a1)])) (fun _ k => XS.iconst W6.here hx rfl (hb hby dd_method_3_code_61) k) ?_
  refine Go.st (g' := (mkF m 63 #[.val (.int (3 : Int32)), .val (.int c1), .val (.int c2), .val (.int c3)] [(.int c2), (.int (1 : Int32)), (.ref a4), (.ref a4), (.ref a1), (.ref a1)])) (fun _ k => XS.iloadN W6.here hx rfl (hb hby dd_method_3_code_62) rfl  k) ?_
  obtain ⟨T8, h8, W8, R8, z8, X8, SF8, st8⟩ := W6.stC hx F7  ⟨by decide, by decide⟩ 1 rfl (Nat.le_of_ble_eq_true rfl) (by omega) (g := (mkF m 63 #[.val (.int (3 : Int32)), .val (.int c1), .val (.int c2), .val (.int c3)] [(.int c2), (.int (1 : Int32)), (.ref a4), (.ref a4), (.ref a1), (.ref a1)])) rfl rfl (hb hby dd_method_3_code_63)
  have F9 : Arv Z h8 a4 k4 .char (3 : Int32) [(.int c1), (.int c2), (.int (0 : Int32))] (.int (0 : Int32)) := (by have q := X8; rw [show nar .char c2 = c2 from own_narC hc2] at q; exact q)
  refine Go.st (g' := (mkF m 64 #[.val (.int (3 : Int32)), .val (.int c1), .val (.int c2), .val (.int c3)] [(.ref a4), (.ref a1), (.ref a1)])) st8 ?_
  refine Go.st (g' := (mkF m 65 #[.val (.int (3 : Int32)), .val (.int c1), .val (.int c2), .val (.int c3)] [(.ref a4), (.ref a4), (.ref a1), (.ref a1)])) (fun _ k => XS.dup W8.here hx rfl (hb hby dd_method_3_code_64) rfl rfl k) ?_
  refine Go.st (g' := (mkF m 66 #[.val (.int (3 : Int32)), .val (.int c1), .val (.int c2), .val (.int c3)] [(.int (2 : Int32)), (.ref a4), (.ref a4), (.ref a1), (.ref a1)])) (fun _ k => XS.iconst W8.here hx rfl (hb hby dd_method_3_code_65) k) ?_
  refine Go.st (g' := (mkF m 67 #[.val (.int (3 : Int32)), .val (.int c1), .val (.int c2), .val (.int c3)] [(.int c3), (.int (2 : Int32)), (.ref a4), (.ref a4), (.ref a1), (.ref a1)])) (fun _ k => XS.iloadN W8.here hx rfl (hb hby dd_method_3_code_66) rfl  k) ?_
  obtain ⟨T10, h10, W10, R10, z10, X10, SF10, st10⟩ := W8.stC hx F9  ⟨by decide, by decide⟩ 2 rfl (Nat.le_of_ble_eq_true rfl) (by omega) (g := (mkF m 67 #[.val (.int (3 : Int32)), .val (.int c1), .val (.int c2), .val (.int c3)] [(.int c3), (.int (2 : Int32)), (.ref a4), (.ref a4), (.ref a1), (.ref a1)])) rfl rfl (hb hby dd_method_3_code_67)
  have F11 : Arv Z h10 a4 k4 .char (3 : Int32) [(.int c1), (.int c2), (.int c3)] (.int (0 : Int32)) := (by have q := X10; rw [show nar .char c3 = c3 from own_narC hc3] at q; exact q)
  refine Go.st (g' := (mkF m 68 #[.val (.int (3 : Int32)), .val (.int c1), .val (.int c2), .val (.int c3)] [(.ref a4), (.ref a1), (.ref a1)])) st10 ?_
  have F12 : Exa Z h10 a1 "java/lang/String" := ((((X1.ext E4).wr R6).wr R8).wr R10)
  have F13 : Fld Z h10 a1 "java/lang/String" "value" "[B" .null := ((((F2.ext E4).other R6 (Or.inl (own_ne (by omega)))).other R8 (Or.inl (own_ne (by omega)))).other R10 (Or.inl (own_ne (by omega))))
  have F14 : Fld Z h10 a1 "java/lang/String" "coder" "B" (.int (0 : Int32)) := ((((F3.ext E4).other R6 (Or.inl (own_ne (by omega)))).other R8 (Or.inl (own_ne (by omega)))).other R10 (Or.inl (own_ne (by omega))))
  have F15 : Safe Z consts_1 s.vm h10 a1 := (SF10 _ (by omega) (SF8 _ (by omega) (SF6 _ (by omega) (SF4 _ (by omega) S1))))
  have hp16 : ∀ c ∈ ([c1, c2, c3] : List Int32), ¬ c < 0 ∧ ¬ (255 : Int32) < c := (own_allS hl1 (own_allS hl2 (own_allS hl3 own_all0)))
  obtain ⟨_, T16, h16, L16, W16, Q16, z16, SF16, st16⟩ := W10.paySp hx rfl (hw _ (List.mem_of_getElem? (i := 63) rfl)) (hw _ (List.mem_of_getElem? (i := 64) rfl)) (hw _ (List.mem_of_getElem? (i := 65) rfl)) (by decide) (Wd := 1) (ws := [a1]) (StrChars.Road.backV (W := 1) W10.warmS hws (kI := 4) (hw _ (List.mem_of_getElem? (i := 15) rfl)) (cs := ([c1, c2, c3] : List Int32)) (bs := ([c1, c2, c3] : List Int32).map (fun c => c.toInt8.toInt32)) (n := 3) (n0 := n0) (by omega) W10.ge F12 F13 F14 F11 (W10.sta hzc) hzc0 rfl rfl (by decide) (by decide) hp16 rfl (by decide) (by decide)) (fun v h' L q => ⟨q.2.2.1, q.2.1⟩) (allS F15 all0) (allS (by omega) all0) (by decide) (by decide) (g := (mkF m 68 #[.val (.int (3 : Int32)), .val (.int c1), .val (.int c2), .val (.int c3)] [(.ref a4), (.ref a1), (.ref a1)])) rfl (by rw [hml]; rfl) (a := a1) (argsL := [(.ref a4)]) (rest := [(.ref a1)]) rfl (lenOf pd___C_V rfl) rfl (by show 2 * 0 + _ ≤ _; exact Nat.le_of_eq rfl) (hb hby dd_method_3_code_68)
  obtain ⟨rfl, -, K16, X16, C16, t16, k16, -, y16, u16, V16, A16⟩ := Q16
  have ya16 : h16.size > t16 := A16.lt
  have F16 : Str Z h16 a1 t16 [c1, c2, c3] := Str.lat X16 V16 C16 A16 rfl rfl hp16 (Nat.le_of_ble_eq_true rfl)
  refine Go.tr (g' := (mkF m 71 #[.val (.int (3 : Int32)), .val (.int c1), .val (.int c2), .val (.int c3)] [(.ref a1)])) st16 ?_
  exact W16.retA hx hEL hlk hret rfl rfl rfl (hb hby dd_method_3_code_71) (by decide) (by decide) ⟨a1, t16, rfl, (by omega), F16, (((((((Keep.refl h0 []).ext E1).ext E4).wr R6 (Or.inr (by omega))).wr R8 (Or.inr (by omega))).wr R10 (Or.inr (by omega))).trans K16 (allS (Or.inr (by omega)) all0))⟩
set_option maxRecDepth 65536 in
set_option maxHeartbeats 4000000 in
theorem own_cfal3 (l : Launch) {Z : State} {a0 : Array Value} (hE : Ctx Z a0) {n0 : Nat} {h0 : Heap} (O : Old Z n0 h0) {b0 : Addr} {kb : ClassId} {vs0 : List Value} {dd : Value}  (P0 : Arv Z h0 b0 kb .byte (6 : Int32) vs0 dd) :
    Met l (⟨"java/lang/StringUTF16", "coderFromArrayLen", "([BI)B"⟩ : MethodName) jdk_52_method_15_code 2 (Option.some Jvm.ClassFile.FieldType.byte) ({ frames := 0, cells := 0, slots := 0, locals := 0 } : Room) Z consts_1 n0 [] #[(.ref b0), (.int (3 : Int32))] h0 (fun v h => v = some (.int (1 : Int32)) ∧ h0 = h) := by
  have hw := hE.1
  have hEL := own_EW hw
  have own_wS := own_stringAtoms hw
  have hE1 := own_E1 hw
  refine Met.of (by first | (refine plainFor_of_name ?_; simp [plainName, overriddenIn]; done) | decide +kernel) O ?_
  intro p e s m below meth c T0 hx hby hml hret hlk hnm hh0 W0
  have z0 := W0.ge
  have yP0 : h0.size > b0 := P0.lt
  refine Go.st (g' := (mkF m 0 #[.val (.ref b0), .val (.int (3 : Int32))] [])) (fun _ k => castTop (by first | (simp [entryFrame, mkF, argsToLocals, maxLocals, own_catI, own_catJ, own_catD, own_catA, own_catN]; done) | rfl) k) ?_
  refine Go.st (g' := (mkF m 1 #[.val (.ref b0), .val (.int (3 : Int32))] [(.int (3 : Int32))])) (fun _ k => XS.iloadN W0.here hx rfl (hb hby dd_jdk_52_method_15_code_0) rfl  k) ?_
  refine Go.st (g' := (mkF m 2 #[.val (.ref b0), .val (.int (3 : Int32))] [(.ref b0), (.int (3 : Int32))])) (fun _ k => XS.aloadN W0.here hx rfl (hb hby dd_jdk_52_method_15_code_1) rfl rfl  k) ?_
  refine Go.st (g' := (mkF m 3 #[.val (.ref b0), .val (.int (3 : Int32))] [(.int (6 : Int32)), (.int (3 : Int32))])) (W0.len hx P0 (g := (mkF m 2 #[.val (.ref b0), .val (.int (3 : Int32))] [(.ref b0), (.int (3 : Int32))])) rfl rfl (hb hby dd_jdk_52_method_15_code_2)) ?_
  refine Go.st (g' := (mkF m 4 #[.val (.ref b0), .val (.int (3 : Int32))] [(.int (-3 : Int32))])) (fun _ k => XS.isub W0.here hx rfl (hb hby dd_jdk_52_method_15_code_3) rfl k) ?_
  refine Go.st (g' := (mkF m 6 #[.val (.ref b0), .val (.int (3 : Int32))] [(.int (31 : Int32)), (.int (-3 : Int32))])) (fun _ k => XS.bipush W0.here hx rfl (hb hby dd_jdk_52_method_15_code_4) k) ?_
  refine Go.st (g' := (mkF m 7 #[.val (.ref b0), .val (.int (3 : Int32))] [(.int (1 : Int32))])) (fun _ k => XS.iushr W0.here hx rfl (hb hby dd_jdk_52_method_15_code_6) rfl k) ?_
  refine Go.st (g' := (mkF m 8 #[.val (.ref b0), .val (.int (3 : Int32))] [(.int (1 : Int32))])) (fun _ k => XS.i2b W0.here hx rfl (hb hby dd_jdk_52_method_15_code_7) rfl k) ?_
  exact W0.retN hx hEL hlk (t := .byte) hret (by decide) (hb hby dd_jdk_52_method_15_code_8) (by decide) (by decide) ⟨rfl, rfl⟩
set_option maxRecDepth 65536 in
set_option maxHeartbeats 4000000 in
theorem own_cmp5_3_0 (l : Launch) {Z : State} {a0 : Array Value} (hE : Ctx Z a0) {n0 : Nat} {h0 : Heap} (O : Old Z n0 h0) {s0 : Addr} {ks : ClassId} {dd : Value} {b0 : Addr} {kb : ClassId} {c1 : Int32} {c2 : Int32} {c3 : Int32} (hb0 : n0 ≤ b0) (hsb : ¬ @Eq Nat s0 b0) (hw1 : (255 : Int32) < c1) (P0 : Arv Z h0 s0 ks .char (3 : Int32) [(.int c1), (.int c2), (.int c3)] dd) (P1 : Arv Z h0 b0 kb .byte (3 : Int32) [(.int (0 : Int32)), (.int (0 : Int32)), (.int (0 : Int32))] (.int (0 : Int32))) :
    Met l (⟨"java/lang/StringUTF16", "compress", "([CI[BII)I"⟩ : MethodName) jdk_52_method_21_code 7 (Option.some Jvm.ClassFile.FieldType.int) ({ frames := 0, cells := 0, slots := 0, locals := 0 } : Room) Z consts_1 n0 [] #[(.ref s0), (.int (0 : Int32)), (.ref b0), (.int (0 : Int32)), (.int (3 : Int32))] h0 (fun v h => v = some (.int (0 : Int32)) ∧ Keep h0 h [b0]) := by
  have hw := hE.1
  have hEL := own_EW hw
  have own_wS := own_stringAtoms hw
  have hE1 := own_E1 hw
  refine Met.of (by first | (refine plainFor_of_name ?_; simp [plainName, overriddenIn]; done) | decide +kernel) O ?_
  intro p e s m below meth c T0 hx hby hml hret hlk hnm hh0 W0
  have z0 := W0.ge
  have yP0 : h0.size > s0 := P0.lt
  have yP1 : h0.size > b0 := P1.lt
  refine Go.st (g' := (mkF m 0 #[.val (.ref s0), .val (.int (0 : Int32)), .val (.ref b0), .val (.int (0 : Int32)), .val (.int (3 : Int32)), .unset, .unset] [])) (fun _ k => castTop (by first | (simp [entryFrame, mkF, argsToLocals, maxLocals, own_catI, own_catJ, own_catD, own_catA, own_catN]; done) | rfl) k) ?_
  refine Go.st (g' := (mkF m 1 #[.val (.ref s0), .val (.int (0 : Int32)), .val (.ref b0), .val (.int (0 : Int32)), .val (.int (3 : Int32)), .unset, .unset] [(.int (0 : Int32))])) (fun _ k => XS.iconst W0.here hx rfl (hb hby dd_jdk_52_method_21_code_0) k) ?_
  refine Go.st (g' := (mkF m 3 #[.val (.ref s0), .val (.int (0 : Int32)), .val (.ref b0), .val (.int (0 : Int32)), .val (.int (3 : Int32)), .val (.int (0 : Int32)), .unset] [])) (fun _ k => XS.istore W0.here hx rfl (hb hby dd_jdk_52_method_21_code_1) rfl (l' := #[.val (.ref s0), .val (.int (0 : Int32)), .val (.ref b0), .val (.int (0 : Int32)), .val (.int (3 : Int32)), .val (.int (0 : Int32)), .unset]) rfl k) ?_
  refine Go.st (g' := (mkF m 5 #[.val (.ref s0), .val (.int (0 : Int32)), .val (.ref b0), .val (.int (0 : Int32)), .val (.int (3 : Int32)), .val (.int (0 : Int32)), .unset] [(.int (0 : Int32))])) (fun _ k => XS.iload W0.here hx rfl (hb hby dd_jdk_52_method_21_code_3) rfl  k) ?_
  refine Go.st (g' := (mkF m 7 #[.val (.ref s0), .val (.int (0 : Int32)), .val (.ref b0), .val (.int (0 : Int32)), .val (.int (3 : Int32)), .val (.int (0 : Int32)), .unset] [(.int (3 : Int32)), (.int (0 : Int32))])) (fun _ k => XS.iload W0.here hx rfl (hb hby dd_jdk_52_method_21_code_5) rfl  k) ?_
  refine Go.st (g' := (mkF m 10 #[.val (.ref s0), .val (.int (0 : Int32)), .val (.ref b0), .val (.int (0 : Int32)), .val (.int (3 : Int32)), .val (.int (0 : Int32)), .unset] [])) (fun _ k => XS.icmpNo W0.here hx rfl (hb hby dd_jdk_52_method_21_code_7) rfl (tlt (by decide)).2.1 k) ?_
  refine Go.st (g' := (mkF m 11 #[.val (.ref s0), .val (.int (0 : Int32)), .val (.ref b0), .val (.int (0 : Int32)), .val (.int (3 : Int32)), .val (.int (0 : Int32)), .unset] [(.ref s0)])) (fun _ k => XS.aloadN W0.here hx rfl (hb hby dd_jdk_52_method_21_code_10) rfl rfl  k) ?_
  refine Go.st (g' := (mkF m 12 #[.val (.ref s0), .val (.int (0 : Int32)), .val (.ref b0), .val (.int (0 : Int32)), .val (.int (3 : Int32)), .val (.int (0 : Int32)), .unset] [(.int (0 : Int32)), (.ref s0)])) (fun _ k => XS.iloadN W0.here hx rfl (hb hby dd_jdk_52_method_21_code_11) rfl  k) ?_
  refine Go.st (g' := (mkF m 13 #[.val (.ref s0), .val (.int (0 : Int32)), .val (.ref b0), .val (.int (0 : Int32)), .val (.int (3 : Int32)), .val (.int (0 : Int32)), .unset] [(.int c1)])) (W0.ldC hx P0 (j := (0 : Int32)) ⟨by decide, by decide⟩ (v := .int c1) rfl (g := (mkF m 12 #[.val (.ref s0), .val (.int (0 : Int32)), .val (.ref b0), .val (.int (0 : Int32)), .val (.int (3 : Int32)), .val (.int (0 : Int32)), .unset] [(.int (0 : Int32)), (.ref s0)])) rfl rfl (hb hby dd_jdk_52_method_21_code_12)) ?_
  refine Go.st (g' := (mkF m 15 #[.val (.ref s0), .val (.int (0 : Int32)), .val (.ref b0), .val (.int (0 : Int32)), .val (.int (3 : Int32)), .val (.int (0 : Int32)), .val (.int c1)] [])) (fun _ k => XS.istore W0.here hx rfl (hb hby dd_jdk_52_method_21_code_13) rfl (l' := #[.val (.ref s0), .val (.int (0 : Int32)), .val (.ref b0), .val (.int (0 : Int32)), .val (.int (3 : Int32)), .val (.int (0 : Int32)), .val (.int c1)]) rfl k) ?_
  refine Go.st (g' := (mkF m 17 #[.val (.ref s0), .val (.int (0 : Int32)), .val (.ref b0), .val (.int (0 : Int32)), .val (.int (3 : Int32)), .val (.int (0 : Int32)), .val (.int c1)] [(.int c1)])) (fun _ k => XS.iload W0.here hx rfl (hb hby dd_jdk_52_method_21_code_15) rfl  k) ?_
  refine Go.st (g' := (mkF m 20 #[.val (.ref s0), .val (.int (0 : Int32)), .val (.ref b0), .val (.int (0 : Int32)), .val (.int (3 : Int32)), .val (.int (0 : Int32)), .val (.int c1)] [(.int (255 : Int32)), (.int c1)])) (fun _ k => XS.sipush W0.here hx rfl (hb hby dd_jdk_52_method_21_code_17) k) ?_
  refine Go.st (g' := (mkF m 23 #[.val (.ref s0), .val (.int (0 : Int32)), .val (.ref b0), .val (.int (0 : Int32)), .val (.int (3 : Int32)), .val (.int (0 : Int32)), .val (.int c1)] [])) (fun _ k => XS.icmpNo W0.here hx rfl (hb hby dd_jdk_52_method_21_code_20) rfl (tlt hw1).2.2.2 k) ?_
  refine Go.st (g' := (mkF m 25 #[.val (.ref s0), .val (.int (0 : Int32)), .val (.ref b0), .val (.int (0 : Int32)), .val (.int (3 : Int32)), .val (.int (0 : Int32)), .val (.int c1)] [(.int (0 : Int32))])) (fun _ k => XS.iload W0.here hx rfl (hb hby dd_jdk_52_method_21_code_23) rfl  k) ?_
  exact W0.retI hx hEL hlk hret (hb hby dd_jdk_52_method_21_code_25) (by decide) (by decide) ⟨rfl, (Keep.refl h0 [b0])⟩
set_option maxRecDepth 65536 in
set_option maxHeartbeats 4000000 in
theorem own_nbl3 (l : Launch) {Z : State} {a0 : Array Value} (hE : Ctx Z a0) {n0 : Nat} {h0 : Heap} (O : Old Z n0 h0)    :
    Met l (⟨"java/lang/StringUTF16", "newBytesLength", "(I)I"⟩ : MethodName) jdk_52_method_3_code 1 (Option.some Jvm.ClassFile.FieldType.int) ({ frames := 0, cells := 0, slots := 0, locals := 0 } : Room) Z consts_1 n0 [] #[(.int (3 : Int32))] h0 (fun v h => v = some (.int (6 : Int32)) ∧ h0 = h) := by
  have hw := hE.1
  have hEL := own_EW hw
  have own_wS := own_stringAtoms hw
  have hE1 := own_E1 hw
  refine Met.of (by first | (refine plainFor_of_name ?_; simp [plainName, overriddenIn]; done) | decide +kernel) O ?_
  intro p e s m below meth c T0 hx hby hml hret hlk hnm hh0 W0
  have z0 := W0.ge
  refine Go.st (g' := (mkF m 0 #[.val (.int (3 : Int32))] [])) (fun _ k => castTop (by first | (simp [entryFrame, mkF, argsToLocals, maxLocals, own_catI, own_catJ, own_catD, own_catA, own_catN]; done) | rfl) k) ?_
  refine Go.st (g' := (mkF m 1 #[.val (.int (3 : Int32))] [(.int (3 : Int32))])) (fun _ k => XS.iloadN W0.here hx rfl (hb hby dd_jdk_52_method_3_code_0) rfl  k) ?_
  refine Go.st (g' := (mkF m 12 #[.val (.int (3 : Int32))] [])) (fun _ k => XS.ifYes W0.here hx rfl (pc0 := 1) (pc' := 12) rfl (hb hby dd_jdk_52_method_3_code_1) rfl ((if0 _ _).trans (flt (by decide)).2.1) (by decide) (by decide) k) ?_
  refine Go.st (g' := (mkF m 13 #[.val (.int (3 : Int32))] [(.int (3 : Int32))])) (fun _ k => XS.iloadN W0.here hx rfl (hb hby dd_jdk_52_method_3_code_12) rfl  k) ?_
  refine Go.st (g' := (mkF m 15 #[.val (.int (3 : Int32))] [(.int (1073741823 : Int32)), (.int (3 : Int32))])) (W0.ldcI hx (hw _ (List.mem_of_getElem? (i := 91) rfl)) (g := (mkF m 13 #[.val (.int (3 : Int32))] [(.int (3 : Int32))])) rfl (hb hby dd_jdk_52_method_3_code_13)) ?_
  refine Go.st (g' := (mkF m 55 #[.val (.int (3 : Int32))] [])) (fun _ k => XS.icmpYes W0.here hx rfl (pc0 := 15) (pc' := 55) rfl (hb hby dd_jdk_52_method_3_code_15) rfl (tlt (by decide)).1 (by decide) (by decide) k) ?_
  refine Go.st (g' := (mkF m 56 #[.val (.int (3 : Int32))] [(.int (3 : Int32))])) (fun _ k => XS.iloadN W0.here hx rfl (hb hby dd_jdk_52_method_3_code_55) rfl  k) ?_
  refine Go.st (g' := (mkF m 57 #[.val (.int (3 : Int32))] [(.int (1 : Int32)), (.int (3 : Int32))])) (fun _ k => XS.iconst W0.here hx rfl (hb hby dd_jdk_52_method_3_code_56) k) ?_
  refine Go.st (g' := (mkF m 58 #[.val (.int (3 : Int32))] [(.int (6 : Int32))])) (fun _ k => XS.ishl W0.here hx rfl (hb hby dd_jdk_52_method_3_code_57) rfl k) ?_
  exact W0.retI hx hEL hlk hret (hb hby dd_jdk_52_method_3_code_58) (by decide) (by decide) ⟨rfl, rfl⟩
set_option maxRecDepth 65536 in
set_option maxHeartbeats 4000000 in
theorem own_nbf3 (l : Launch) {Z : State} {a0 : Array Value} (hE : Ctx Z a0) {n0 : Nat} {h0 : Heap} (O : Old Z n0 h0)    :
    Met l (⟨"java/lang/StringUTF16", "newBytesFor", "(I)[B"⟩ : MethodName) jdk_52_method_2_code 1 (Option.some (Jvm.ClassFile.FieldType.array Jvm.ClassFile.FieldType.byte)) ({ frames := 1, cells := 1, slots := 6, locals := 12 } : Room) Z consts_1 n0 [] #[(.int (3 : Int32))] h0 (fun v h => ∃ (b : Addr), ∃ (kb : ClassId), v = some (.ref b) ∧ h0.size ≤ b ∧ Arv Z h b kb .byte (6 : Int32) [(.int (0 : Int32)), (.int (0 : Int32)), (.int (0 : Int32)), (.int (0 : Int32)), (.int (0 : Int32)), (.int (0 : Int32))] (.int (0 : Int32)) ∧ Keep h0 h []) := by
  have hw := hE.1
  have hEL := own_EW hw
  have own_wS := own_stringAtoms hw
  have hE1 := own_E1 hw
  refine Met.of (by first | (refine plainFor_of_name ?_; simp [plainName, overriddenIn]; done) | decide +kernel) O ?_
  intro p e s m below meth c T0 hx hby hml hret hlk hnm hh0 W0
  have z0 := W0.ge
  refine Go.st (g' := (mkF m 0 #[.val (.int (3 : Int32))] [])) (fun _ k => castTop (by first | (simp [entryFrame, mkF, argsToLocals, maxLocals, own_catI, own_catJ, own_catD, own_catA, own_catN]; done) | rfl) k) ?_
  refine Go.st (g' := (mkF m 1 #[.val (.int (3 : Int32))] [(.int (3 : Int32))])) (fun _ k => XS.iloadN W0.here hx rfl (hb hby dd_jdk_52_method_2_code_0) rfl  k) ?_
  obtain ⟨_, vm1, T1, h1, W1, Q1, z1, SF1, st1⟩ := W0.callS hx hEL (own_nbl3 l hE W0.old   ) (hw _ (List.mem_of_getElem? (i := 88) rfl)) (hw _ (List.mem_of_getElem? (i := 89) rfl)) (hw _ (List.mem_of_getElem? (i := 71) rfl)) (hw _ (List.mem_of_getElem? (i := 90) rfl)) (by decide) (Wd := 0) (by decide) (by decide) (by decide) (by decide) (g := (mkF m 1 #[.val (.int (3 : Int32))] [(.int (3 : Int32))])) rfl (by rw [hml]; rfl) (argsL := [(.int (3 : Int32))]) (rest := []) rfl (lenOf pd__I_I rfl) rfl (by show 2 * 0 + _ ≤ _; exact Nat.le_of_eq rfl) (hb hby dd_jdk_52_method_2_code_1)
  obtain ⟨rfl, eh1⟩ := Q1
  subst eh1
  refine Go.tr (g' := (mkF m 4 #[.val (.int (3 : Int32))] [(.int (6 : Int32))])) st1 ?_
  obtain ⟨T2, h2, a2, k2, g2, W2, E2, z2, X2, S2, SF2, st2⟩ := W1.newP hx (ty := .byte) rfl (hw _ (List.mem_of_getElem? (i := 19) rfl)) (g := (mkF m 4 #[.val (.int (3 : Int32))] [(.int (6 : Int32))])) rfl (hb hby dd_jdk_52_method_2_code_4) rfl (by decide) (cap := 6) (by decide) (by decide) (by decide) (by decide) 6
  have F3 : Arv Z h2 a2 k2 .byte (6 : Int32) [(.int (0 : Int32)), (.int (0 : Int32)), (.int (0 : Int32)), (.int (0 : Int32)), (.int (0 : Int32)), (.int (0 : Int32))] (.int (0 : Int32)) := X2
  refine Go.st (g' := (mkF m 6 #[.val (.int (3 : Int32))] [(.ref a2)])) st2 ?_
  exact W2.retA hx hEL hlk hret rfl rfl rfl (hb hby dd_jdk_52_method_2_code_6) (by decide) (by decide) ⟨a2, k2, rfl, (by omega), F3, ((Keep.refl h0 []).ext E2)⟩
set_option maxRecDepth 65536 in
set_option maxHeartbeats 4000000 in
theorem own_put2 (l : Launch) {Z : State} {a0 : Array Value} (hE : Ctx Z a0) {n0 : Nat} {h0 : Heap} (O : Old Z n0 h0) {b0 : Addr} {kb : ClassId} {zz : Int32} {vs0 : List Value} {dd : Value} {c0 : Int32} (hb0 : n0 ≤ b0) (hza : (4 : Int32) < zz) (hzb : (5 : Int32) < zz) (hzn : ¬ zz.toNatClampNeg = 0) (hla : 4 < vs0.length) (hlb : 5 < vs0.length) (P0 : Arv Z h0 b0 kb .byte zz vs0 dd) :
    Met l (⟨"java/lang/StringUTF16", "putChar", "([BII)V"⟩ : MethodName) jdk_52_method_4_code 3 (Option.none : Option Jvm.ClassFile.FieldType) ({ frames := 0, cells := 0, slots := 0, locals := 0 } : Room) Z consts_1 n0 [] #[(.ref b0), (.int (2 : Int32)), (.int c0)] h0 (fun v h => v = none ∧ Arv Z h b0 kb .byte zz ((vs0.set 4 (.int ((c0 >>> ((0 : Int32) &&& 31)).toInt8.toInt32))).set 5 (.int ((c0 >>> ((8 : Int32) &&& 31)).toInt8.toInt32))) dd ∧ Keep h0 h [b0]) := by
  have hw := hE.1
  have hEL := own_EW hw
  have own_wS := own_stringAtoms hw
  have hE1 := own_E1 hw
  refine Met.of (by first | (refine plainFor_of_name ?_; simp [plainName, overriddenIn]; done) | decide +kernel) O ?_
  intro p e s m below meth c T0 hx hby hml hret hlk hnm hh0 W0
  have z0 := W0.ge
  have yP0 : h0.size > b0 := P0.lt
  refine Go.st (g' := (mkF m 0 #[.val (.ref b0), .val (.int (2 : Int32)), .val (.int c0)] [])) (fun _ k => castTop (by first | (simp [entryFrame, mkF, argsToLocals, maxLocals, own_catI, own_catJ, own_catD, own_catA, own_catN]; done) | rfl) k) ?_
  obtain ⟨T1, W1, st1⟩ := W0.getS hx (hw _ (List.mem_of_getElem? (i := 95) rfl)) Via.refl (W0.sta hE.2.2.2.1) (g := (mkF m 0 #[.val (.ref b0), .val (.int (2 : Int32)), .val (.int c0)] [])) rfl (hb hby dd_jdk_52_method_4_code_0)
  refine Go.st (g' := (mkF m 3 #[.val (.ref b0), .val (.int (2 : Int32)), .val (.int c0)] [(.int (1 : Int32))])) st1 ?_
  refine Go.st (g' := (mkF m 28 #[.val (.ref b0), .val (.int (2 : Int32)), .val (.int c0)] [])) (fun _ k => XS.ifYes W1.here hx rfl (pc0 := 3) (pc' := 28) rfl (hb hby dd_jdk_52_method_4_code_3) rfl ((if0 _ _).trans (feq (by decide)).2) (by decide) (by decide) k) ?_
  refine Go.st (g' := (mkF m 29 #[.val (.ref b0), .val (.int (2 : Int32)), .val (.int c0)] [(.int (2 : Int32))])) (fun _ k => XS.iloadN W1.here hx rfl (hb hby dd_jdk_52_method_4_code_28) rfl  k) ?_
  refine Go.st (g' := (mkF m 30 #[.val (.ref b0), .val (.int (2 : Int32)), .val (.int c0)] [(.int (1 : Int32)), (.int (2 : Int32))])) (fun _ k => XS.iconst W1.here hx rfl (hb hby dd_jdk_52_method_4_code_29) k) ?_
  refine Go.st (g' := (mkF m 31 #[.val (.ref b0), .val (.int (2 : Int32)), .val (.int c0)] [(.int (4 : Int32))])) (fun _ k => XS.ishl W1.here hx rfl (hb hby dd_jdk_52_method_4_code_30) rfl k) ?_
  refine Go.st (g' := (mkF m 32 #[.val (.ref b0), .val (.int (4 : Int32)), .val (.int c0)] [])) (fun _ k => XS.istoreN W1.here hx rfl (hb hby dd_jdk_52_method_4_code_31) rfl (l' := #[.val (.ref b0), .val (.int (4 : Int32)), .val (.int c0)]) rfl k) ?_
  refine Go.st (g' := (mkF m 33 #[.val (.ref b0), .val (.int (4 : Int32)), .val (.int c0)] [(.ref b0)])) (fun _ k => XS.aloadN W1.here hx rfl (hb hby dd_jdk_52_method_4_code_32) rfl rfl  k) ?_
  refine Go.st (g' := (mkF m 34 #[.val (.ref b0), .val (.int (4 : Int32)), .val (.int c0)] [(.int (4 : Int32)), (.ref b0)])) (fun _ k => XS.iloadN W1.here hx rfl (hb hby dd_jdk_52_method_4_code_33) rfl  k) ?_
  refine Go.st (g' := (mkF m 37 #[.val (.ref b0), .val (.int (5 : Int32)), .val (.int c0)] [(.int (4 : Int32)), (.ref b0)])) (fun _ k => XS.iinc W1.here hx rfl (hb hby dd_jdk_52_method_4_code_34) rfl (l' := #[.val (.ref b0), .val (.int (5 : Int32)), .val (.int c0)]) rfl k) ?_
  refine Go.st (g' := (mkF m 38 #[.val (.ref b0), .val (.int (5 : Int32)), .val (.int c0)] [(.int c0), (.int (4 : Int32)), (.ref b0)])) (fun _ k => XS.iloadN W1.here hx rfl (hb hby dd_jdk_52_method_4_code_37) rfl  k) ?_
  obtain ⟨T2, W2, st2⟩ := W1.getS hx (hw _ (List.mem_of_getElem? (i := 96) rfl)) Via.refl (W1.sta hE.2.2.2.2.1) (g := (mkF m 38 #[.val (.ref b0), .val (.int (5 : Int32)), .val (.int c0)] [(.int c0), (.int (4 : Int32)), (.ref b0)])) rfl (hb hby dd_jdk_52_method_4_code_38)
  refine Go.st (g' := (mkF m 41 #[.val (.ref b0), .val (.int (5 : Int32)), .val (.int c0)] [(.int (0 : Int32)), (.int c0), (.int (4 : Int32)), (.ref b0)])) st2 ?_
  refine Go.st (g' := (mkF m 42 #[.val (.ref b0), .val (.int (5 : Int32)), .val (.int c0)] [(.int (c0 >>> ((0 : Int32) &&& 31))), (.int (4 : Int32)), (.ref b0)])) (fun _ k => XS.ishr W2.here hx rfl (hb hby dd_jdk_52_method_4_code_41) rfl k) ?_
  refine Go.st (g' := (mkF m 43 #[.val (.ref b0), .val (.int (5 : Int32)), .val (.int c0)] [(.int ((c0 >>> ((0 : Int32) &&& 31)).toInt8.toInt32)), (.int (4 : Int32)), (.ref b0)])) (fun _ k => XS.i2b W2.here hx rfl (hb hby dd_jdk_52_method_4_code_42) rfl k) ?_
  obtain ⟨T3, h3, W3, R3, z3, X3, SF3, st3⟩ := W2.stB hx P0 (own_safeB W2.warm hE1 P0 hzn) ⟨by decide, by omega⟩ 4 rfl hla (by omega) (g := (mkF m 43 #[.val (.ref b0), .val (.int (5 : Int32)), .val (.int c0)] [(.int ((c0 >>> ((0 : Int32) &&& 31)).toInt8.toInt32)), (.int (4 : Int32)), (.ref b0)])) rfl rfl (hb hby dd_jdk_52_method_4_code_43)
  have F4 : Arv Z h3 b0 kb .byte zz (vs0.set 4 (.int ((c0 >>> ((0 : Int32) &&& 31)).toInt8.toInt32))) dd := (by have q := X3; rw [show nar .byte ((c0 >>> ((0 : Int32) &&& 31)).toInt8.toInt32) = ((c0 >>> ((0 : Int32) &&& 31)).toInt8.toInt32) from own_narB _] at q; exact q)
  refine Go.st (g' := (mkF m 44 #[.val (.ref b0), .val (.int (5 : Int32)), .val (.int c0)] [])) st3 ?_
  refine Go.st (g' := (mkF m 45 #[.val (.ref b0), .val (.int (5 : Int32)), .val (.int c0)] [(.ref b0)])) (fun _ k => XS.aloadN W3.here hx rfl (hb hby dd_jdk_52_method_4_code_44) rfl rfl  k) ?_
  refine Go.st (g' := (mkF m 46 #[.val (.ref b0), .val (.int (5 : Int32)), .val (.int c0)] [(.int (5 : Int32)), (.ref b0)])) (fun _ k => XS.iloadN W3.here hx rfl (hb hby dd_jdk_52_method_4_code_45) rfl  k) ?_
  refine Go.st (g' := (mkF m 47 #[.val (.ref b0), .val (.int (5 : Int32)), .val (.int c0)] [(.int c0), (.int (5 : Int32)), (.ref b0)])) (fun _ k => XS.iloadN W3.here hx rfl (hb hby dd_jdk_52_method_4_code_46) rfl  k) ?_
  obtain ⟨T5, W5, st5⟩ := W3.getS hx (hw _ (List.mem_of_getElem? (i := 97) rfl)) Via.refl (W3.sta hE.2.2.2.2.2) (g := (mkF m 47 #[.val (.ref b0), .val (.int (5 : Int32)), .val (.int c0)] [(.int c0), (.int (5 : Int32)), (.ref b0)])) rfl (hb hby dd_jdk_52_method_4_code_47)
  refine Go.st (g' := (mkF m 50 #[.val (.ref b0), .val (.int (5 : Int32)), .val (.int c0)] [(.int (8 : Int32)), (.int c0), (.int (5 : Int32)), (.ref b0)])) st5 ?_
  refine Go.st (g' := (mkF m 51 #[.val (.ref b0), .val (.int (5 : Int32)), .val (.int c0)] [(.int (c0 >>> ((8 : Int32) &&& 31))), (.int (5 : Int32)), (.ref b0)])) (fun _ k => XS.ishr W5.here hx rfl (hb hby dd_jdk_52_method_4_code_50) rfl k) ?_
  refine Go.st (g' := (mkF m 52 #[.val (.ref b0), .val (.int (5 : Int32)), .val (.int c0)] [(.int ((c0 >>> ((8 : Int32) &&& 31)).toInt8.toInt32)), (.int (5 : Int32)), (.ref b0)])) (fun _ k => XS.i2b W5.here hx rfl (hb hby dd_jdk_52_method_4_code_51) rfl k) ?_
  obtain ⟨T6, h6, W6, R6, z6, X6, SF6, st6⟩ := W5.stB hx F4 (own_safeB W5.warm hE1 F4 hzn) ⟨by decide, by omega⟩ 5 rfl (by rw [List.length_set]; exact hlb) (by omega) (g := (mkF m 52 #[.val (.ref b0), .val (.int (5 : Int32)), .val (.int c0)] [(.int ((c0 >>> ((8 : Int32) &&& 31)).toInt8.toInt32)), (.int (5 : Int32)), (.ref b0)])) rfl rfl (hb hby dd_jdk_52_method_4_code_52)
  have F7 : Arv Z h6 b0 kb .byte zz ((vs0.set 4 (.int ((c0 >>> ((0 : Int32) &&& 31)).toInt8.toInt32))).set 5 (.int ((c0 >>> ((8 : Int32) &&& 31)).toInt8.toInt32))) dd := (by have q := X6; rw [show nar .byte ((c0 >>> ((8 : Int32) &&& 31)).toInt8.toInt32) = ((c0 >>> ((8 : Int32) &&& 31)).toInt8.toInt32) from own_narB _] at q; exact q)
  refine Go.st (g' := (mkF m 53 #[.val (.ref b0), .val (.int (5 : Int32)), .val (.int c0)] [])) st6 ?_
  exact W6.retV hx hEL hlk hret (hb hby dd_jdk_52_method_4_code_53) (by decide) (by decide) ⟨rfl, F7, (((Keep.refl h0 [b0]).wr R3 (Or.inl (List.mem_of_getElem? (i := 0) rfl))).wr R6 (Or.inl (List.mem_of_getElem? (i := 0) rfl)))⟩
set_option maxRecDepth 65536 in
set_option maxHeartbeats 4000000 in
theorem own_tb3 (l : Launch) {Z : State} {a0 : Array Value} (hE : Ctx Z a0) {n0 : Nat} {h0 : Heap} (O : Old Z n0 h0) {s0 : Addr} {ks : ClassId} {dd : Value} {c1 : Int32} {c2 : Int32} {c3 : Int32}  (P0 : Arv Z h0 s0 ks .char (3 : Int32) [(.int c1), (.int c2), (.int c3)] dd) :
    Met l (⟨"java/lang/StringUTF16", "toBytes", "([CII)[B"⟩ : MethodName) jdk_52_method_14_code 5 (Option.some (Jvm.ClassFile.FieldType.array Jvm.ClassFile.FieldType.byte)) ({ frames := 2, cells := 1, slots := 6, locals := 24 } : Room) Z consts_1 n0 [] #[(.ref s0), (.int (0 : Int32)), (.int (3 : Int32))] h0 (fun v h => ∃ (b : Addr), ∃ (kb : ClassId), v = some (.ref b) ∧ h0.size ≤ b ∧ Arv Z h b kb .byte (6 : Int32) [(.int ((c1 >>> ((0 : Int32) &&& 31)).toInt8.toInt32)), (.int ((c1 >>> ((8 : Int32) &&& 31)).toInt8.toInt32)), (.int ((c2 >>> ((0 : Int32) &&& 31)).toInt8.toInt32)), (.int ((c2 >>> ((8 : Int32) &&& 31)).toInt8.toInt32)), (.int ((c3 >>> ((0 : Int32) &&& 31)).toInt8.toInt32)), (.int ((c3 >>> ((8 : Int32) &&& 31)).toInt8.toInt32))] (.int (0 : Int32)) ∧ Keep h0 h []) := by
  have hw := hE.1
  have hEL := own_EW hw
  have own_wS := own_stringAtoms hw
  have hE1 := own_E1 hw
  refine Met.of (by first | (refine plainFor_of_name ?_; simp [plainName, overriddenIn]; done) | decide +kernel) O ?_
  intro p e s m below meth c T0 hx hby hml hret hlk hnm hh0 W0
  have z0 := W0.ge
  have yP0 : h0.size > s0 := P0.lt
  refine Go.st (g' := (mkF m 0 #[.val (.ref s0), .val (.int (0 : Int32)), .val (.int (3 : Int32)), .unset, .unset] [])) (fun _ k => castTop (by first | (simp [entryFrame, mkF, argsToLocals, maxLocals, own_catI, own_catJ, own_catD, own_catA, own_catN]; done) | rfl) k) ?_
  refine Go.st (g' := (mkF m 1 #[.val (.ref s0), .val (.int (0 : Int32)), .val (.int (3 : Int32)), .unset, .unset] [(.int (3 : Int32))])) (fun _ k => XS.iloadN W0.here hx rfl (hb hby dd_jdk_52_method_14_code_0) rfl  k) ?_
  obtain ⟨_, vm1, T1, h1, W1, Q1, z1, SF1, st1⟩ := W0.callS hx hEL (own_nbf3 l hE W0.old   ) (hw _ (List.mem_of_getElem? (i := 85) rfl)) (hw _ (List.mem_of_getElem? (i := 86) rfl)) (hw _ (List.mem_of_getElem? (i := 71) rfl)) (hw _ (List.mem_of_getElem? (i := 87) rfl)) (by decide) (Wd := 0) (by decide) (by decide) (by decide) (by decide) (g := (mkF m 1 #[.val (.ref s0), .val (.int (0 : Int32)), .val (.int (3 : Int32)), .unset, .unset] [(.int (3 : Int32))])) rfl (by rw [hml]; rfl) (argsL := [(.int (3 : Int32))]) (rest := []) rfl (lenOf pd__I__B rfl) rfl (by show 2 * 0 + _ ≤ _; exact Nat.le_of_eq rfl) (hb hby dd_jdk_52_method_14_code_1)
  obtain ⟨b_1, kb_1, rfl, p1_0, f1_0, K1⟩ := Q1
  have yf1_0 : h1.size > b_1 := f1_0.lt
  refine Go.tr (g' := (mkF m 4 #[.val (.ref s0), .val (.int (0 : Int32)), .val (.int (3 : Int32)), .unset, .unset] [(.ref b_1)])) st1 ?_
  refine Go.st (g' := (mkF m 5 #[.val (.ref s0), .val (.int (0 : Int32)), .val (.int (3 : Int32)), .val (.ref b_1), .unset] [])) (fun _ k => XS.astoreN W1.here hx rfl (hb hby dd_jdk_52_method_14_code_4) rfl rfl (l' := #[.val (.ref s0), .val (.int (0 : Int32)), .val (.int (3 : Int32)), .val (.ref b_1), .unset]) rfl k) ?_
  refine Go.st (g' := (mkF m 6 #[.val (.ref s0), .val (.int (0 : Int32)), .val (.int (3 : Int32)), .val (.ref b_1), .unset] [(.int (0 : Int32))])) (fun _ k => XS.iconst W1.here hx rfl (hb hby dd_jdk_52_method_14_code_5) k) ?_
  refine Go.st (g' := (mkF m 8 #[.val (.ref s0), .val (.int (0 : Int32)), .val (.int (3 : Int32)), .val (.ref b_1), .val (.int (0 : Int32))] [])) (fun _ k => XS.istore W1.here hx rfl (hb hby dd_jdk_52_method_14_code_6) rfl (l' := #[.val (.ref s0), .val (.int (0 : Int32)), .val (.int (3 : Int32)), .val (.ref b_1), .val (.int (0 : Int32))]) rfl k) ?_
  refine Go.st (g' := (mkF m 10 #[.val (.ref s0), .val (.int (0 : Int32)), .val (.int (3 : Int32)), .val (.ref b_1), .val (.int (0 : Int32))] [(.int (0 : Int32))])) (fun _ k => XS.iload W1.here hx rfl (hb hby dd_jdk_52_method_14_code_8) rfl  k) ?_
  refine Go.st (g' := (mkF m 11 #[.val (.ref s0), .val (.int (0 : Int32)), .val (.int (3 : Int32)), .val (.ref b_1), .val (.int (0 : Int32))] [(.int (3 : Int32)), (.int (0 : Int32))])) (fun _ k => XS.iloadN W1.here hx rfl (hb hby dd_jdk_52_method_14_code_10) rfl  k) ?_
  refine Go.st (g' := (mkF m 14 #[.val (.ref s0), .val (.int (0 : Int32)), .val (.int (3 : Int32)), .val (.ref b_1), .val (.int (0 : Int32))] [])) (fun _ k => XS.icmpNo W1.here hx rfl (hb hby dd_jdk_52_method_14_code_11) rfl (tlt (by decide)).2.1 k) ?_
  refine Go.st (g' := (mkF m 15 #[.val (.ref s0), .val (.int (0 : Int32)), .val (.int (3 : Int32)), .val (.ref b_1), .val (.int (0 : Int32))] [(.ref b_1)])) (fun _ k => XS.aloadN W1.here hx rfl (hb hby dd_jdk_52_method_14_code_14) rfl rfl  k) ?_
  refine Go.st (g' := (mkF m 17 #[.val (.ref s0), .val (.int (0 : Int32)), .val (.int (3 : Int32)), .val (.ref b_1), .val (.int (0 : Int32))] [(.int (0 : Int32)), (.ref b_1)])) (fun _ k => XS.iload W1.here hx rfl (hb hby dd_jdk_52_method_14_code_15) rfl  k) ?_
  refine Go.st (g' := (mkF m 18 #[.val (.ref s0), .val (.int (0 : Int32)), .val (.int (3 : Int32)), .val (.ref b_1), .val (.int (0 : Int32))] [(.ref s0), (.int (0 : Int32)), (.ref b_1)])) (fun _ k => XS.aloadN W1.here hx rfl (hb hby dd_jdk_52_method_14_code_17) rfl rfl  k) ?_
  refine Go.st (g' := (mkF m 19 #[.val (.ref s0), .val (.int (0 : Int32)), .val (.int (3 : Int32)), .val (.ref b_1), .val (.int (0 : Int32))] [(.int (0 : Int32)), (.ref s0), (.int (0 : Int32)), (.ref b_1)])) (fun _ k => XS.iloadN W1.here hx rfl (hb hby dd_jdk_52_method_14_code_18) rfl  k) ?_
  have F2 : Arv Z h1 s0 ks .char (3 : Int32) [(.int c1), (.int c2), (.int c3)] dd := (P0.keep K1 nin0)
  refine Go.st (g' := (mkF m 20 #[.val (.ref s0), .val (.int (0 : Int32)), .val (.int (3 : Int32)), .val (.ref b_1), .val (.int (0 : Int32))] [(.int c1), (.int (0 : Int32)), (.ref b_1)])) (W1.ldC hx F2 (j := (0 : Int32)) ⟨by decide, by decide⟩ (v := .int c1) rfl (g := (mkF m 19 #[.val (.ref s0), .val (.int (0 : Int32)), .val (.int (3 : Int32)), .val (.ref b_1), .val (.int (0 : Int32))] [(.int (0 : Int32)), (.ref s0), (.int (0 : Int32)), (.ref b_1)])) rfl rfl (hb hby dd_jdk_52_method_14_code_19)) ?_
  obtain ⟨_, vm3, T3, h3, W3, Q3, z3, SF3, st3⟩ := W1.callS hx hEL (own_put0 l hE W1.old (b0 := b_1) (kb := kb_1) (zz := (6 : Int32)) (vs0 := [(.int (0 : Int32)), (.int (0 : Int32)), (.int (0 : Int32)), (.int (0 : Int32)), (.int (0 : Int32)), (.int (0 : Int32))]) (dd := (.int (0 : Int32))) (c0 := c1) (by omega) (by decide) (by decide) (by decide) (Nat.le_of_ble_eq_true rfl) (Nat.le_of_ble_eq_true rfl) f1_0) (hw _ (List.mem_of_getElem? (i := 92) rfl)) (hw _ (List.mem_of_getElem? (i := 93) rfl)) (hw _ (List.mem_of_getElem? (i := 71) rfl)) (hw _ (List.mem_of_getElem? (i := 94) rfl)) (by decide) (Wd := 0) (by decide) (by decide) (by decide) (by decide) (g := (mkF m 20 #[.val (.ref s0), .val (.int (0 : Int32)), .val (.int (3 : Int32)), .val (.ref b_1), .val (.int (0 : Int32))] [(.int c1), (.int (0 : Int32)), (.ref b_1)])) rfl (by rw [hml]; rfl) (argsL := [(.ref b_1), (.int (0 : Int32)), (.int c1)]) (rest := []) rfl (lenOf pd___BII_V rfl) rfl (by show 2 * 0 + _ ≤ _; exact Nat.le_of_eq rfl) (hb hby dd_jdk_52_method_14_code_20)
  obtain ⟨rfl, f3_0, K3⟩ := Q3
  have yf3_0 : h3.size > b_1 := f3_0.lt
  refine Go.tr (g' := (mkF m 23 #[.val (.ref s0), .val (.int (0 : Int32)), .val (.int (3 : Int32)), .val (.ref b_1), .val (.int (0 : Int32))] [])) st3 ?_
  have F4 : Arv Z h3 b_1 kb_1 .byte (6 : Int32) [(.int ((c1 >>> ((0 : Int32) &&& 31)).toInt8.toInt32)), (.int ((c1 >>> ((8 : Int32) &&& 31)).toInt8.toInt32)), (.int (0 : Int32)), (.int (0 : Int32)), (.int (0 : Int32)), (.int (0 : Int32))] (.int (0 : Int32)) := f3_0
  refine Go.st (g' := (mkF m 26 #[.val (.ref s0), .val (.int (1 : Int32)), .val (.int (3 : Int32)), .val (.ref b_1), .val (.int (0 : Int32))] [])) (fun _ k => XS.iinc W3.here hx rfl (hb hby dd_jdk_52_method_14_code_23) rfl (l' := #[.val (.ref s0), .val (.int (1 : Int32)), .val (.int (3 : Int32)), .val (.ref b_1), .val (.int (0 : Int32))]) rfl k) ?_
  refine Go.st (g' := (mkF m 29 #[.val (.ref s0), .val (.int (1 : Int32)), .val (.int (3 : Int32)), .val (.ref b_1), .val (.int (1 : Int32))] [])) (fun _ k => XS.iinc W3.here hx rfl (hb hby dd_jdk_52_method_14_code_26) rfl (l' := #[.val (.ref s0), .val (.int (1 : Int32)), .val (.int (3 : Int32)), .val (.ref b_1), .val (.int (1 : Int32))]) rfl k) ?_
  refine Go.st (g' := (mkF m 8 #[.val (.ref s0), .val (.int (1 : Int32)), .val (.int (3 : Int32)), .val (.ref b_1), .val (.int (1 : Int32))] [])) (fun _ k => XS.goto W3.here hx rfl (pc0 := 29) (pc' := 8) rfl (hb hby dd_jdk_52_method_14_code_29) (by decide) (by decide) k) ?_
  refine Go.st (g' := (mkF m 10 #[.val (.ref s0), .val (.int (1 : Int32)), .val (.int (3 : Int32)), .val (.ref b_1), .val (.int (1 : Int32))] [(.int (1 : Int32))])) (fun _ k => XS.iload W3.here hx rfl (hb hby dd_jdk_52_method_14_code_8) rfl  k) ?_
  refine Go.st (g' := (mkF m 11 #[.val (.ref s0), .val (.int (1 : Int32)), .val (.int (3 : Int32)), .val (.ref b_1), .val (.int (1 : Int32))] [(.int (3 : Int32)), (.int (1 : Int32))])) (fun _ k => XS.iloadN W3.here hx rfl (hb hby dd_jdk_52_method_14_code_10) rfl  k) ?_
  refine Go.st (g' := (mkF m 14 #[.val (.ref s0), .val (.int (1 : Int32)), .val (.int (3 : Int32)), .val (.ref b_1), .val (.int (1 : Int32))] [])) (fun _ k => XS.icmpNo W3.here hx rfl (hb hby dd_jdk_52_method_14_code_11) rfl (tlt (by decide)).2.1 k) ?_
  refine Go.st (g' := (mkF m 15 #[.val (.ref s0), .val (.int (1 : Int32)), .val (.int (3 : Int32)), .val (.ref b_1), .val (.int (1 : Int32))] [(.ref b_1)])) (fun _ k => XS.aloadN W3.here hx rfl (hb hby dd_jdk_52_method_14_code_14) rfl rfl  k) ?_
  refine Go.st (g' := (mkF m 17 #[.val (.ref s0), .val (.int (1 : Int32)), .val (.int (3 : Int32)), .val (.ref b_1), .val (.int (1 : Int32))] [(.int (1 : Int32)), (.ref b_1)])) (fun _ k => XS.iload W3.here hx rfl (hb hby dd_jdk_52_method_14_code_15) rfl  k) ?_
  refine Go.st (g' := (mkF m 18 #[.val (.ref s0), .val (.int (1 : Int32)), .val (.int (3 : Int32)), .val (.ref b_1), .val (.int (1 : Int32))] [(.ref s0), (.int (1 : Int32)), (.ref b_1)])) (fun _ k => XS.aloadN W3.here hx rfl (hb hby dd_jdk_52_method_14_code_17) rfl rfl  k) ?_
  refine Go.st (g' := (mkF m 19 #[.val (.ref s0), .val (.int (1 : Int32)), .val (.int (3 : Int32)), .val (.ref b_1), .val (.int (1 : Int32))] [(.int (1 : Int32)), (.ref s0), (.int (1 : Int32)), (.ref b_1)])) (fun _ k => XS.iloadN W3.here hx rfl (hb hby dd_jdk_52_method_14_code_18) rfl  k) ?_
  have F5 : Arv Z h3 s0 ks .char (3 : Int32) [(.int c1), (.int c2), (.int c3)] dd := (F2.keep K3 (ninS (own_ne (by omega)) nin0))
  refine Go.st (g' := (mkF m 20 #[.val (.ref s0), .val (.int (1 : Int32)), .val (.int (3 : Int32)), .val (.ref b_1), .val (.int (1 : Int32))] [(.int c2), (.int (1 : Int32)), (.ref b_1)])) (W3.ldC hx F5 (j := (1 : Int32)) ⟨by decide, by decide⟩ (v := .int c2) rfl (g := (mkF m 19 #[.val (.ref s0), .val (.int (1 : Int32)), .val (.int (3 : Int32)), .val (.ref b_1), .val (.int (1 : Int32))] [(.int (1 : Int32)), (.ref s0), (.int (1 : Int32)), (.ref b_1)])) rfl rfl (hb hby dd_jdk_52_method_14_code_19)) ?_
  obtain ⟨_, vm6, T6, h6, W6, Q6, z6, SF6, st6⟩ := W3.callS hx hEL (own_put1 l hE W3.old (b0 := b_1) (kb := kb_1) (zz := (6 : Int32)) (vs0 := [(.int ((c1 >>> ((0 : Int32) &&& 31)).toInt8.toInt32)), (.int ((c1 >>> ((8 : Int32) &&& 31)).toInt8.toInt32)), (.int (0 : Int32)), (.int (0 : Int32)), (.int (0 : Int32)), (.int (0 : Int32))]) (dd := (.int (0 : Int32))) (c0 := c2) (by omega) (by decide) (by decide) (by decide) (Nat.le_of_ble_eq_true rfl) (Nat.le_of_ble_eq_true rfl) F4) (hw _ (List.mem_of_getElem? (i := 92) rfl)) (hw _ (List.mem_of_getElem? (i := 93) rfl)) (hw _ (List.mem_of_getElem? (i := 71) rfl)) (hw _ (List.mem_of_getElem? (i := 94) rfl)) (by decide) (Wd := 0) (by decide) (by decide) (by decide) (by decide) (g := (mkF m 20 #[.val (.ref s0), .val (.int (1 : Int32)), .val (.int (3 : Int32)), .val (.ref b_1), .val (.int (1 : Int32))] [(.int c2), (.int (1 : Int32)), (.ref b_1)])) rfl (by rw [hml]; rfl) (argsL := [(.ref b_1), (.int (1 : Int32)), (.int c2)]) (rest := []) rfl (lenOf pd___BII_V rfl) rfl (by show 2 * 0 + _ ≤ _; exact Nat.le_of_eq rfl) (hb hby dd_jdk_52_method_14_code_20)
  obtain ⟨rfl, f6_0, K6⟩ := Q6
  have yf6_0 : h6.size > b_1 := f6_0.lt
  refine Go.tr (g' := (mkF m 23 #[.val (.ref s0), .val (.int (1 : Int32)), .val (.int (3 : Int32)), .val (.ref b_1), .val (.int (1 : Int32))] [])) st6 ?_
  have F7 : Arv Z h6 b_1 kb_1 .byte (6 : Int32) [(.int ((c1 >>> ((0 : Int32) &&& 31)).toInt8.toInt32)), (.int ((c1 >>> ((8 : Int32) &&& 31)).toInt8.toInt32)), (.int ((c2 >>> ((0 : Int32) &&& 31)).toInt8.toInt32)), (.int ((c2 >>> ((8 : Int32) &&& 31)).toInt8.toInt32)), (.int (0 : Int32)), (.int (0 : Int32))] (.int (0 : Int32)) := f6_0
  refine Go.st (g' := (mkF m 26 #[.val (.ref s0), .val (.int (2 : Int32)), .val (.int (3 : Int32)), .val (.ref b_1), .val (.int (1 : Int32))] [])) (fun _ k => XS.iinc W6.here hx rfl (hb hby dd_jdk_52_method_14_code_23) rfl (l' := #[.val (.ref s0), .val (.int (2 : Int32)), .val (.int (3 : Int32)), .val (.ref b_1), .val (.int (1 : Int32))]) rfl k) ?_
  refine Go.st (g' := (mkF m 29 #[.val (.ref s0), .val (.int (2 : Int32)), .val (.int (3 : Int32)), .val (.ref b_1), .val (.int (2 : Int32))] [])) (fun _ k => XS.iinc W6.here hx rfl (hb hby dd_jdk_52_method_14_code_26) rfl (l' := #[.val (.ref s0), .val (.int (2 : Int32)), .val (.int (3 : Int32)), .val (.ref b_1), .val (.int (2 : Int32))]) rfl k) ?_
  refine Go.st (g' := (mkF m 8 #[.val (.ref s0), .val (.int (2 : Int32)), .val (.int (3 : Int32)), .val (.ref b_1), .val (.int (2 : Int32))] [])) (fun _ k => XS.goto W6.here hx rfl (pc0 := 29) (pc' := 8) rfl (hb hby dd_jdk_52_method_14_code_29) (by decide) (by decide) k) ?_
  refine Go.st (g' := (mkF m 10 #[.val (.ref s0), .val (.int (2 : Int32)), .val (.int (3 : Int32)), .val (.ref b_1), .val (.int (2 : Int32))] [(.int (2 : Int32))])) (fun _ k => XS.iload W6.here hx rfl (hb hby dd_jdk_52_method_14_code_8) rfl  k) ?_
  refine Go.st (g' := (mkF m 11 #[.val (.ref s0), .val (.int (2 : Int32)), .val (.int (3 : Int32)), .val (.ref b_1), .val (.int (2 : Int32))] [(.int (3 : Int32)), (.int (2 : Int32))])) (fun _ k => XS.iloadN W6.here hx rfl (hb hby dd_jdk_52_method_14_code_10) rfl  k) ?_
  refine Go.st (g' := (mkF m 14 #[.val (.ref s0), .val (.int (2 : Int32)), .val (.int (3 : Int32)), .val (.ref b_1), .val (.int (2 : Int32))] [])) (fun _ k => XS.icmpNo W6.here hx rfl (hb hby dd_jdk_52_method_14_code_11) rfl (tlt (by decide)).2.1 k) ?_
  refine Go.st (g' := (mkF m 15 #[.val (.ref s0), .val (.int (2 : Int32)), .val (.int (3 : Int32)), .val (.ref b_1), .val (.int (2 : Int32))] [(.ref b_1)])) (fun _ k => XS.aloadN W6.here hx rfl (hb hby dd_jdk_52_method_14_code_14) rfl rfl  k) ?_
  refine Go.st (g' := (mkF m 17 #[.val (.ref s0), .val (.int (2 : Int32)), .val (.int (3 : Int32)), .val (.ref b_1), .val (.int (2 : Int32))] [(.int (2 : Int32)), (.ref b_1)])) (fun _ k => XS.iload W6.here hx rfl (hb hby dd_jdk_52_method_14_code_15) rfl  k) ?_
  refine Go.st (g' := (mkF m 18 #[.val (.ref s0), .val (.int (2 : Int32)), .val (.int (3 : Int32)), .val (.ref b_1), .val (.int (2 : Int32))] [(.ref s0), (.int (2 : Int32)), (.ref b_1)])) (fun _ k => XS.aloadN W6.here hx rfl (hb hby dd_jdk_52_method_14_code_17) rfl rfl  k) ?_
  refine Go.st (g' := (mkF m 19 #[.val (.ref s0), .val (.int (2 : Int32)), .val (.int (3 : Int32)), .val (.ref b_1), .val (.int (2 : Int32))] [(.int (2 : Int32)), (.ref s0), (.int (2 : Int32)), (.ref b_1)])) (fun _ k => XS.iloadN W6.here hx rfl (hb hby dd_jdk_52_method_14_code_18) rfl  k) ?_
  have F8 : Arv Z h6 s0 ks .char (3 : Int32) [(.int c1), (.int c2), (.int c3)] dd := (F5.keep K6 (ninS (own_ne (by omega)) nin0))
  refine Go.st (g' := (mkF m 20 #[.val (.ref s0), .val (.int (2 : Int32)), .val (.int (3 : Int32)), .val (.ref b_1), .val (.int (2 : Int32))] [(.int c3), (.int (2 : Int32)), (.ref b_1)])) (W6.ldC hx F8 (j := (2 : Int32)) ⟨by decide, by decide⟩ (v := .int c3) rfl (g := (mkF m 19 #[.val (.ref s0), .val (.int (2 : Int32)), .val (.int (3 : Int32)), .val (.ref b_1), .val (.int (2 : Int32))] [(.int (2 : Int32)), (.ref s0), (.int (2 : Int32)), (.ref b_1)])) rfl rfl (hb hby dd_jdk_52_method_14_code_19)) ?_
  obtain ⟨_, vm9, T9, h9, W9, Q9, z9, SF9, st9⟩ := W6.callS hx hEL (own_put2 l hE W6.old (b0 := b_1) (kb := kb_1) (zz := (6 : Int32)) (vs0 := [(.int ((c1 >>> ((0 : Int32) &&& 31)).toInt8.toInt32)), (.int ((c1 >>> ((8 : Int32) &&& 31)).toInt8.toInt32)), (.int ((c2 >>> ((0 : Int32) &&& 31)).toInt8.toInt32)), (.int ((c2 >>> ((8 : Int32) &&& 31)).toInt8.toInt32)), (.int (0 : Int32)), (.int (0 : Int32))]) (dd := (.int (0 : Int32))) (c0 := c3) (by omega) (by decide) (by decide) (by decide) (Nat.le_of_ble_eq_true rfl) (Nat.le_of_ble_eq_true rfl) F7) (hw _ (List.mem_of_getElem? (i := 92) rfl)) (hw _ (List.mem_of_getElem? (i := 93) rfl)) (hw _ (List.mem_of_getElem? (i := 71) rfl)) (hw _ (List.mem_of_getElem? (i := 94) rfl)) (by decide) (Wd := 0) (by decide) (by decide) (by decide) (by decide) (g := (mkF m 20 #[.val (.ref s0), .val (.int (2 : Int32)), .val (.int (3 : Int32)), .val (.ref b_1), .val (.int (2 : Int32))] [(.int c3), (.int (2 : Int32)), (.ref b_1)])) rfl (by rw [hml]; rfl) (argsL := [(.ref b_1), (.int (2 : Int32)), (.int c3)]) (rest := []) rfl (lenOf pd___BII_V rfl) rfl (by show 2 * 0 + _ ≤ _; exact Nat.le_of_eq rfl) (hb hby dd_jdk_52_method_14_code_20)
  obtain ⟨rfl, f9_0, K9⟩ := Q9
  have yf9_0 : h9.size > b_1 := f9_0.lt
  refine Go.tr (g' := (mkF m 23 #[.val (.ref s0), .val (.int (2 : Int32)), .val (.int (3 : Int32)), .val (.ref b_1), .val (.int (2 : Int32))] [])) st9 ?_
  have F10 : Arv Z h9 b_1 kb_1 .byte (6 : Int32) [(.int ((c1 >>> ((0 : Int32) &&& 31)).toInt8.toInt32)), (.int ((c1 >>> ((8 : Int32) &&& 31)).toInt8.toInt32)), (.int ((c2 >>> ((0 : Int32) &&& 31)).toInt8.toInt32)), (.int ((c2 >>> ((8 : Int32) &&& 31)).toInt8.toInt32)), (.int ((c3 >>> ((0 : Int32) &&& 31)).toInt8.toInt32)), (.int ((c3 >>> ((8 : Int32) &&& 31)).toInt8.toInt32))] (.int (0 : Int32)) := f9_0
  refine Go.st (g' := (mkF m 26 #[.val (.ref s0), .val (.int (3 : Int32)), .val (.int (3 : Int32)), .val (.ref b_1), .val (.int (2 : Int32))] [])) (fun _ k => XS.iinc W9.here hx rfl (hb hby dd_jdk_52_method_14_code_23) rfl (l' := #[.val (.ref s0), .val (.int (3 : Int32)), .val (.int (3 : Int32)), .val (.ref b_1), .val (.int (2 : Int32))]) rfl k) ?_
  refine Go.st (g' := (mkF m 29 #[.val (.ref s0), .val (.int (3 : Int32)), .val (.int (3 : Int32)), .val (.ref b_1), .val (.int (3 : Int32))] [])) (fun _ k => XS.iinc W9.here hx rfl (hb hby dd_jdk_52_method_14_code_26) rfl (l' := #[.val (.ref s0), .val (.int (3 : Int32)), .val (.int (3 : Int32)), .val (.ref b_1), .val (.int (3 : Int32))]) rfl k) ?_
  refine Go.st (g' := (mkF m 8 #[.val (.ref s0), .val (.int (3 : Int32)), .val (.int (3 : Int32)), .val (.ref b_1), .val (.int (3 : Int32))] [])) (fun _ k => XS.goto W9.here hx rfl (pc0 := 29) (pc' := 8) rfl (hb hby dd_jdk_52_method_14_code_29) (by decide) (by decide) k) ?_
  refine Go.st (g' := (mkF m 10 #[.val (.ref s0), .val (.int (3 : Int32)), .val (.int (3 : Int32)), .val (.ref b_1), .val (.int (3 : Int32))] [(.int (3 : Int32))])) (fun _ k => XS.iload W9.here hx rfl (hb hby dd_jdk_52_method_14_code_8) rfl  k) ?_
  refine Go.st (g' := (mkF m 11 #[.val (.ref s0), .val (.int (3 : Int32)), .val (.int (3 : Int32)), .val (.ref b_1), .val (.int (3 : Int32))] [(.int (3 : Int32)), (.int (3 : Int32))])) (fun _ k => XS.iloadN W9.here hx rfl (hb hby dd_jdk_52_method_14_code_10) rfl  k) ?_
  refine Go.st (g' := (mkF m 32 #[.val (.ref s0), .val (.int (3 : Int32)), .val (.int (3 : Int32)), .val (.ref b_1), .val (.int (3 : Int32))] [])) (fun _ k => XS.icmpYes W9.here hx rfl (pc0 := 11) (pc' := 32) rfl (hb hby dd_jdk_52_method_14_code_11) rfl (flt (by decide)).2.1 (by decide) (by decide) k) ?_
  refine Go.st (g' := (mkF m 33 #[.val (.ref s0), .val (.int (3 : Int32)), .val (.int (3 : Int32)), .val (.ref b_1), .val (.int (3 : Int32))] [(.ref b_1)])) (fun _ k => XS.aloadN W9.here hx rfl (hb hby dd_jdk_52_method_14_code_32) rfl rfl  k) ?_
  exact W9.retA hx hEL hlk hret rfl rfl rfl (hb hby dd_jdk_52_method_14_code_33) (by decide) (by decide) ⟨b_1, kb_1, rfl, (by omega), F10, (((((Keep.refl h0 []).trans K1 all0).trans K3 (allS (Or.inr (by omega)) all0)).trans K6 (allS (Or.inr (by omega)) all0)).trans K9 (allS (Or.inr (by omega)) all0))⟩
set_option maxRecDepth 65536 in
set_option maxHeartbeats 4000000 in
theorem own_cmp3_3_0 (l : Launch) {Z : State} {a0 : Array Value} (hE : Ctx Z a0) {n0 : Nat} {h0 : Heap} (O : Old Z n0 h0) {s0 : Addr} {ks : ClassId} {dd : Value} {c1 : Int32} {c2 : Int32} {c3 : Int32} (hc1 : Chr c1) (hc2 : Chr c2) (hc3 : Chr c3) (hw1 : (255 : Int32) < c1) (P0 : Arv Z h0 s0 ks .char (3 : Int32) [(.int c1), (.int c2), (.int c3)] dd) :
    Met l (⟨"java/lang/StringUTF16", "compress", "([CII)[B"⟩ : MethodName) jdk_52_method_16_code 6 (Option.some (Jvm.ClassFile.FieldType.array Jvm.ClassFile.FieldType.byte)) ({ frames := 3, cells := 2, slots := 9, locals := 40 } : Room) Z consts_1 n0 [] #[(.ref s0), (.int (0 : Int32)), (.int (3 : Int32))] h0 (fun v h => ∃ (b : Addr), ∃ (kb : ClassId), v = some (.ref b) ∧ h0.size ≤ b ∧ Arv Z h b kb .byte (6 : Int32) [(.int ((c1 >>> ((0 : Int32) &&& 31)).toInt8.toInt32)), (.int ((c1 >>> ((8 : Int32) &&& 31)).toInt8.toInt32)), (.int ((c2 >>> ((0 : Int32) &&& 31)).toInt8.toInt32)), (.int ((c2 >>> ((8 : Int32) &&& 31)).toInt8.toInt32)), (.int ((c3 >>> ((0 : Int32) &&& 31)).toInt8.toInt32)), (.int ((c3 >>> ((8 : Int32) &&& 31)).toInt8.toInt32))] (.int (0 : Int32)) ∧ Keep h0 h []) := by
  have hw := hE.1
  have hEL := own_EW hw
  have own_wS := own_stringAtoms hw
  have hE1 := own_E1 hw
  refine Met.of (by first | (refine plainFor_of_name ?_; simp [plainName, overriddenIn]; done) | decide +kernel) O ?_
  intro p e s m below meth c T0 hx hby hml hret hlk hnm hh0 W0
  have z0 := W0.ge
  have yP0 : h0.size > s0 := P0.lt
  refine Go.st (g' := (mkF m 0 #[.val (.ref s0), .val (.int (0 : Int32)), .val (.int (3 : Int32)), .unset, .unset, .unset] [])) (fun _ k => castTop (by first | (simp [entryFrame, mkF, argsToLocals, maxLocals, own_catI, own_catJ, own_catD, own_catA, own_catN]; done) | rfl) k) ?_
  refine Go.st (g' := (mkF m 1 #[.val (.ref s0), .val (.int (0 : Int32)), .val (.int (3 : Int32)), .unset, .unset, .unset] [(.int (3 : Int32))])) (fun _ k => XS.iloadN W0.here hx rfl (hb hby dd_jdk_52_method_16_code_0) rfl  k) ?_
  obtain ⟨T1, h1, a1, k1, g1, W1, E1, z1, X1, S1, SF1, st1⟩ := W0.newP hx (ty := .byte) rfl (hw _ (List.mem_of_getElem? (i := 19) rfl)) (g := (mkF m 1 #[.val (.ref s0), .val (.int (0 : Int32)), .val (.int (3 : Int32)), .unset, .unset, .unset] [(.int (3 : Int32))])) rfl (hb hby dd_jdk_52_method_16_code_1) rfl (by decide) (cap := 3) (by decide) (by decide) (by decide) (by decide) 3
  have F2 : Arv Z h1 a1 k1 .byte (3 : Int32) [(.int (0 : Int32)), (.int (0 : Int32)), (.int (0 : Int32))] (.int (0 : Int32)) := X1
  refine Go.st (g' := (mkF m 3 #[.val (.ref s0), .val (.int (0 : Int32)), .val (.int (3 : Int32)), .unset, .unset, .unset] [(.ref a1)])) st1 ?_
  refine Go.st (g' := (mkF m 4 #[.val (.ref s0), .val (.int (0 : Int32)), .val (.int (3 : Int32)), .val (.ref a1), .unset, .unset] [])) (fun _ k => XS.astoreN W1.here hx rfl (hb hby dd_jdk_52_method_16_code_3) rfl rfl (l' := #[.val (.ref s0), .val (.int (0 : Int32)), .val (.int (3 : Int32)), .val (.ref a1), .unset, .unset]) rfl k) ?_
  refine Go.st (g' := (mkF m 5 #[.val (.ref s0), .val (.int (0 : Int32)), .val (.int (3 : Int32)), .val (.ref a1), .unset, .unset] [(.ref s0)])) (fun _ k => XS.aloadN W1.here hx rfl (hb hby dd_jdk_52_method_16_code_4) rfl rfl  k) ?_
  refine Go.st (g' := (mkF m 6 #[.val (.ref s0), .val (.int (0 : Int32)), .val (.int (3 : Int32)), .val (.ref a1), .unset, .unset] [(.int (0 : Int32)), (.ref s0)])) (fun _ k => XS.iloadN W1.here hx rfl (hb hby dd_jdk_52_method_16_code_5) rfl  k) ?_
  refine Go.st (g' := (mkF m 7 #[.val (.ref s0), .val (.int (0 : Int32)), .val (.int (3 : Int32)), .val (.ref a1), .unset, .unset] [(.ref a1), (.int (0 : Int32)), (.ref s0)])) (fun _ k => XS.aloadN W1.here hx rfl (hb hby dd_jdk_52_method_16_code_6) rfl rfl  k) ?_
  refine Go.st (g' := (mkF m 8 #[.val (.ref s0), .val (.int (0 : Int32)), .val (.int (3 : Int32)), .val (.ref a1), .unset, .unset] [(.int (0 : Int32)), (.ref a1), (.int (0 : Int32)), (.ref s0)])) (fun _ k => XS.iconst W1.here hx rfl (hb hby dd_jdk_52_method_16_code_7) k) ?_
  refine Go.st (g' := (mkF m 9 #[.val (.ref s0), .val (.int (0 : Int32)), .val (.int (3 : Int32)), .val (.ref a1), .unset, .unset] [(.int (3 : Int32)), (.int (0 : Int32)), (.ref a1), (.int (0 : Int32)), (.ref s0)])) (fun _ k => XS.iloadN W1.here hx rfl (hb hby dd_jdk_52_method_16_code_8) rfl  k) ?_
  have F4 : Arv Z h1 s0 ks .char (3 : Int32) [(.int c1), (.int c2), (.int c3)] dd := (P0.ext E1)
  obtain ⟨_, vm3, T3, h3, W3, Q3, z3, SF3, st3⟩ := W1.callS hx hEL (own_cmp5_3_0 l hE W1.old (s0 := s0) (ks := ks) (dd := dd) (b0 := a1) (kb := k1) (c1 := c1) (c2 := c2) (c3 := c3) (by omega) (by omega) hw1 F4 F2) (hw _ (List.mem_of_getElem? (i := 73) rfl)) (hw _ (List.mem_of_getElem? (i := 74) rfl)) (hw _ (List.mem_of_getElem? (i := 71) rfl)) (hw _ (List.mem_of_getElem? (i := 75) rfl)) (by decide) (Wd := 0) (by decide) (by decide) (by decide) (by decide) (g := (mkF m 9 #[.val (.ref s0), .val (.int (0 : Int32)), .val (.int (3 : Int32)), .val (.ref a1), .unset, .unset] [(.int (3 : Int32)), (.int (0 : Int32)), (.ref a1), (.int (0 : Int32)), (.ref s0)])) rfl (by rw [hml]; rfl) (argsL := [(.ref s0), (.int (0 : Int32)), (.ref a1), (.int (0 : Int32)), (.int (3 : Int32))]) (rest := []) rfl (lenOf pd___CI_BII_I rfl) rfl (by show 2 * 0 + _ ≤ _; exact Nat.le_of_eq rfl) (hb hby dd_jdk_52_method_16_code_9)
  obtain ⟨rfl, K3⟩ := Q3
  refine Go.tr (g' := (mkF m 12 #[.val (.ref s0), .val (.int (0 : Int32)), .val (.int (3 : Int32)), .val (.ref a1), .unset, .unset] [(.int (0 : Int32))])) st3 ?_
  refine Go.st (g' := (mkF m 14 #[.val (.ref s0), .val (.int (0 : Int32)), .val (.int (3 : Int32)), .val (.ref a1), .val (.int (0 : Int32)), .unset] [])) (fun _ k => XS.istore W3.here hx rfl (hb hby dd_jdk_52_method_16_code_12) rfl (l' := #[.val (.ref s0), .val (.int (0 : Int32)), .val (.int (3 : Int32)), .val (.ref a1), .val (.int (0 : Int32)), .unset]) rfl k) ?_
  refine Go.st (g' := (mkF m 16 #[.val (.ref s0), .val (.int (0 : Int32)), .val (.int (3 : Int32)), .val (.ref a1), .val (.int (0 : Int32)), .unset] [(.int (0 : Int32))])) (fun _ k => XS.iload W3.here hx rfl (hb hby dd_jdk_52_method_16_code_14) rfl  k) ?_
  refine Go.st (g' := (mkF m 17 #[.val (.ref s0), .val (.int (0 : Int32)), .val (.int (3 : Int32)), .val (.ref a1), .val (.int (0 : Int32)), .unset] [(.int (3 : Int32)), (.int (0 : Int32))])) (fun _ k => XS.iloadN W3.here hx rfl (hb hby dd_jdk_52_method_16_code_16) rfl  k) ?_
  refine Go.st (g' := (mkF m 20 #[.val (.ref s0), .val (.int (0 : Int32)), .val (.int (3 : Int32)), .val (.ref a1), .val (.int (0 : Int32)), .unset] [])) (fun _ k => XS.icmpNo W3.here hx rfl (hb hby dd_jdk_52_method_16_code_17) rfl (feq (by decide)).1 k) ?_
  refine Go.st (g' := (mkF m 21 #[.val (.ref s0), .val (.int (0 : Int32)), .val (.int (3 : Int32)), .val (.ref a1), .val (.int (0 : Int32)), .unset] [(.ref s0)])) (fun _ k => XS.aloadN W3.here hx rfl (hb hby dd_jdk_52_method_16_code_20) rfl rfl  k) ?_
  refine Go.st (g' := (mkF m 22 #[.val (.ref s0), .val (.int (0 : Int32)), .val (.int (3 : Int32)), .val (.ref a1), .val (.int (0 : Int32)), .unset] [(.int (0 : Int32)), (.ref s0)])) (fun _ k => XS.iloadN W3.here hx rfl (hb hby dd_jdk_52_method_16_code_21) rfl  k) ?_
  refine Go.st (g' := (mkF m 23 #[.val (.ref s0), .val (.int (0 : Int32)), .val (.int (3 : Int32)), .val (.ref a1), .val (.int (0 : Int32)), .unset] [(.int (3 : Int32)), (.int (0 : Int32)), (.ref s0)])) (fun _ k => XS.iloadN W3.here hx rfl (hb hby dd_jdk_52_method_16_code_22) rfl  k) ?_
  have F6 : Arv Z h3 s0 ks .char (3 : Int32) [(.int c1), (.int c2), (.int c3)] dd := (F4.keep K3 (ninS (own_ne (by omega)) nin0))
  obtain ⟨_, vm5, T5, h5, W5, Q5, z5, SF5, st5⟩ := W3.callS hx hEL (own_tb3 l hE W3.old (s0 := s0) (ks := ks) (dd := dd) (c1 := c1) (c2 := c2) (c3 := c3)  F6) (hw _ (List.mem_of_getElem? (i := 82) rfl)) (hw _ (List.mem_of_getElem? (i := 83) rfl)) (hw _ (List.mem_of_getElem? (i := 71) rfl)) (hw _ (List.mem_of_getElem? (i := 84) rfl)) (by decide) (Wd := 0) (by decide) (by decide) (by decide) (by decide) (g := (mkF m 23 #[.val (.ref s0), .val (.int (0 : Int32)), .val (.int (3 : Int32)), .val (.ref a1), .val (.int (0 : Int32)), .unset] [(.int (3 : Int32)), (.int (0 : Int32)), (.ref s0)])) rfl (by rw [hml]; rfl) (argsL := [(.ref s0), (.int (0 : Int32)), (.int (3 : Int32))]) (rest := []) rfl (lenOf pd___CII__B rfl) rfl (by show 2 * 0 + _ ≤ _; exact Nat.le_of_eq rfl) (hb hby dd_jdk_52_method_16_code_23)
  obtain ⟨b_5, kb_5, rfl, p5_0, f5_0, K5⟩ := Q5
  have yf5_0 : h5.size > b_5 := f5_0.lt
  refine Go.tr (g' := (mkF m 26 #[.val (.ref s0), .val (.int (0 : Int32)), .val (.int (3 : Int32)), .val (.ref a1), .val (.int (0 : Int32)), .unset] [(.ref b_5)])) st5 ?_
  refine Go.st (g' := (mkF m 28 #[.val (.ref s0), .val (.int (0 : Int32)), .val (.int (3 : Int32)), .val (.ref a1), .val (.int (0 : Int32)), .val (.ref b_5)] [])) (fun _ k => XS.astore W5.here hx rfl (hb hby dd_jdk_52_method_16_code_26) rfl rfl (l' := #[.val (.ref s0), .val (.int (0 : Int32)), .val (.int (3 : Int32)), .val (.ref a1), .val (.int (0 : Int32)), .val (.ref b_5)]) rfl k) ?_
  refine Go.st (g' := (mkF m 30 #[.val (.ref s0), .val (.int (0 : Int32)), .val (.int (3 : Int32)), .val (.ref a1), .val (.int (0 : Int32)), .val (.ref b_5)] [(.ref b_5)])) (fun _ k => XS.aload W5.here hx rfl (hb hby dd_jdk_52_method_16_code_28) rfl rfl  k) ?_
  refine Go.st (g' := (mkF m 32 #[.val (.ref s0), .val (.int (0 : Int32)), .val (.int (3 : Int32)), .val (.ref a1), .val (.int (0 : Int32)), .val (.ref b_5)] [(.int (0 : Int32)), (.ref b_5)])) (fun _ k => XS.iload W5.here hx rfl (hb hby dd_jdk_52_method_16_code_30) rfl  k) ?_
  obtain ⟨_, vm7, T7, h7, W7, Q7, z7, SF7, st7⟩ := W5.callS hx hEL (own_get0 l hE W5.old (b0 := b_5) (kb := kb_5) (zz := (6 : Int32)) (vs0 := [(.int ((c1 >>> ((0 : Int32) &&& 31)).toInt8.toInt32)), (.int ((c1 >>> ((8 : Int32) &&& 31)).toInt8.toInt32)), (.int ((c2 >>> ((0 : Int32) &&& 31)).toInt8.toInt32)), (.int ((c2 >>> ((8 : Int32) &&& 31)).toInt8.toInt32)), (.int ((c3 >>> ((0 : Int32) &&& 31)).toInt8.toInt32)), (.int ((c3 >>> ((8 : Int32) &&& 31)).toInt8.toInt32))]) (dd := (.int (0 : Int32))) (c0 := c1) hc1 (by decide) (by decide) rfl rfl f5_0) (hw _ (List.mem_of_getElem? (i := 98) rfl)) (hw _ (List.mem_of_getElem? (i := 99) rfl)) (hw _ (List.mem_of_getElem? (i := 71) rfl)) (hw _ (List.mem_of_getElem? (i := 100) rfl)) (by decide) (Wd := 0) (by decide) (by decide) (by decide) (by decide) (g := (mkF m 32 #[.val (.ref s0), .val (.int (0 : Int32)), .val (.int (3 : Int32)), .val (.ref a1), .val (.int (0 : Int32)), .val (.ref b_5)] [(.int (0 : Int32)), (.ref b_5)])) rfl (by rw [hml]; rfl) (argsL := [(.ref b_5), (.int (0 : Int32))]) (rest := []) rfl (lenOf pd___BI_C rfl) rfl (by show 2 * 0 + _ ≤ _; exact Nat.le_of_eq rfl) (hb hby dd_jdk_52_method_16_code_32)
  obtain ⟨rfl, eh7⟩ := Q7
  subst eh7
  refine Go.tr (g' := (mkF m 35 #[.val (.ref s0), .val (.int (0 : Int32)), .val (.int (3 : Int32)), .val (.ref a1), .val (.int (0 : Int32)), .val (.ref b_5)] [(.int c1)])) st7 ?_
  refine Go.st (g' := (mkF m 38 #[.val (.ref s0), .val (.int (0 : Int32)), .val (.int (3 : Int32)), .val (.ref a1), .val (.int (0 : Int32)), .val (.ref b_5)] [(.int (255 : Int32)), (.int c1)])) (fun _ k => XS.sipush W7.here hx rfl (hb hby dd_jdk_52_method_16_code_35) k) ?_
  refine Go.st (g' := (mkF m 54 #[.val (.ref s0), .val (.int (0 : Int32)), .val (.int (3 : Int32)), .val (.ref a1), .val (.int (0 : Int32)), .val (.ref b_5)] [])) (fun _ k => XS.icmpYes W7.here hx rfl (pc0 := 38) (pc' := 54) rfl (hb hby dd_jdk_52_method_16_code_38) rfl (tlt hw1).2.2.1 (by decide) (by decide) k) ?_
  refine Go.st (g' := (mkF m 56 #[.val (.ref s0), .val (.int (0 : Int32)), .val (.int (3 : Int32)), .val (.ref a1), .val (.int (0 : Int32)), .val (.ref b_5)] [(.ref b_5)])) (fun _ k => XS.aload W7.here hx rfl (hb hby dd_jdk_52_method_16_code_54) rfl rfl  k) ?_
  exact W7.retA hx hEL hlk hret rfl rfl rfl (hb hby dd_jdk_52_method_16_code_56) (by decide) (by decide) ⟨b_5, kb_5, rfl, (by omega), f5_0, ((((Keep.refl h0 []).ext E1).trans K3 (allS (Or.inr (by omega)) all0)).trans K5 all0)⟩
set_option maxRecDepth 65536 in
set_option maxHeartbeats 4000000 in
theorem own_i4_3_0 (l : Launch) {Z : State} {a0 : Array Value} (hE : Ctx Z a0) {n0 : Nat} {h0 : Heap} (O : Old Z n0 h0) {x0 : Addr} {s0 : Addr} {ks : ClassId} {dd : Value} {c1 : Int32} {c2 : Int32} {c3 : Int32} (hx0 : n0 ≤ x0) (hsx : ¬ @Eq Nat s0 x0) (hc1 : Chr c1) (hc2 : Chr c2) (hc3 : Chr c3) (hw1 : (255 : Int32) < c1) (P0 : Exa Z h0 x0 "java/lang/String") (P1 : Fld Z h0 x0 "java/lang/String" "value" "[B" .null) (P2 : Fld Z h0 x0 "java/lang/String" "coder" "B" (.int (0 : Int32))) (P3 : Arv Z h0 s0 ks .char (3 : Int32) [(.int c1), (.int c2), (.int c3)] dd) :
    Met l (⟨"java/lang/String", "<init>", "([CIILjava/lang/Void;)V"⟩ : MethodName) jdk_42_method_149_code 6 (Option.none : Option Jvm.ClassFile.FieldType) ({ frames := 4, cells := 2, slots := 9, locals := 57 } : Room) Z consts_1 n0 [] #[(.ref x0), (.ref s0), (.int (0 : Int32)), (.int (3 : Int32)), .null] h0 (fun v h => ∃ (t : Addr), ∃ (kt : ClassId), v = none ∧ Fld Z h x0 "java/lang/String" "value" "[B" (.ref t) ∧ Fld Z h x0 "java/lang/String" "coder" "B" (.int (1 : Int32)) ∧ Arv Z h t kt .byte (6 : Int32) [(.int ((c1 >>> ((0 : Int32) &&& 31)).toInt8.toInt32)), (.int ((c1 >>> ((8 : Int32) &&& 31)).toInt8.toInt32)), (.int ((c2 >>> ((0 : Int32) &&& 31)).toInt8.toInt32)), (.int ((c2 >>> ((8 : Int32) &&& 31)).toInt8.toInt32)), (.int ((c3 >>> ((0 : Int32) &&& 31)).toInt8.toInt32)), (.int ((c3 >>> ((8 : Int32) &&& 31)).toInt8.toInt32))] (.int (0 : Int32)) ∧ Keep h0 h [x0]) := by
  have hw := hE.1
  have hEL := own_EW hw
  have own_wS := own_stringAtoms hw
  have hE1 := own_E1 hw
  obtain ⟨zc, hzc, hzc0⟩ := hE.2.1
  refine Met.of (by first | (refine plainFor_of_name ?_; simp [plainName, overriddenIn]; done) | decide +kernel) O ?_
  intro p e s m below meth c T0 hx hby hml hret hlk hnm hh0 W0
  have z0 := W0.ge
  have yP0 : h0.size > x0 := P0.lt
  have yP3 : h0.size > s0 := P3.lt
  refine Go.st (g' := (mkF m 0 #[.val (.ref x0), .val (.ref s0), .val (.int (0 : Int32)), .val (.int (3 : Int32)), .val .null, .unset] [])) (fun _ k => castTop (by first | (simp [entryFrame, mkF, argsToLocals, maxLocals, own_catI, own_catJ, own_catD, own_catA, own_catN]; done) | rfl) k) ?_
  refine Go.st (g' := (mkF m 1 #[.val (.ref x0), .val (.ref s0), .val (.int (0 : Int32)), .val (.int (3 : Int32)), .val .null, .unset] [(.ref x0)])) (fun _ k => XS.aloadN W0.here hx rfl (hb hby dd_jdk_42_method_149_code_0) rfl rfl  k) ?_
  obtain ⟨T1, W1, st1⟩ := W0.initO hx (hw _ (List.mem_of_getElem? (i := 24) rfl)) (hw _ (List.mem_of_getElem? (i := 25) rfl)) (hw _ (List.mem_of_getElem? (i := 26) rfl)) (g := (mkF m 1 #[.val (.ref x0), .val (.ref s0), .val (.int (0 : Int32)), .val (.int (3 : Int32)), .val .null, .unset] [(.ref x0)])) rfl (by rw [hml]; rfl) rfl (hb hby dd_jdk_42_method_149_code_1) (by decide) (Wd := 0) (by show 2 * 0 + _ ≤ _; exact Nat.le_of_eq rfl) (by decide)
  refine Go.st (g' := (mkF m 4 #[.val (.ref x0), .val (.ref s0), .val (.int (0 : Int32)), .val (.int (3 : Int32)), .val .null, .unset] [])) st1 ?_
  refine Go.st (g' := (mkF m 5 #[.val (.ref x0), .val (.ref s0), .val (.int (0 : Int32)), .val (.int (3 : Int32)), .val .null, .unset] [(.int (3 : Int32))])) (fun _ k => XS.iloadN W1.here hx rfl (hb hby dd_jdk_42_method_149_code_4) rfl  k) ?_
  refine Go.st (g' := (mkF m 27 #[.val (.ref x0), .val (.ref s0), .val (.int (0 : Int32)), .val (.int (3 : Int32)), .val .null, .unset] [])) (fun _ k => XS.ifYes W1.here hx rfl (pc0 := 5) (pc' := 27) rfl (hb hby dd_jdk_42_method_149_code_5) rfl ((if0 _ _).trans (feq (by decide)).2) (by decide) (by decide) k) ?_
  obtain ⟨T2, W2, st2⟩ := W1.getS hx (hw _ (List.mem_of_getElem? (i := 9) rfl)) Via.refl (W1.sta hzc) (g := (mkF m 27 #[.val (.ref x0), .val (.ref s0), .val (.int (0 : Int32)), .val (.int (3 : Int32)), .val .null, .unset] [])) rfl (hb hby dd_jdk_42_method_149_code_27)
  refine Go.st (g' := (mkF m 30 #[.val (.ref x0), .val (.ref s0), .val (.int (0 : Int32)), .val (.int (3 : Int32)), .val .null, .unset] [(.int zc)])) st2 ?_
  refine Go.st (g' := (mkF m 33 #[.val (.ref x0), .val (.ref s0), .val (.int (0 : Int32)), .val (.int (3 : Int32)), .val .null, .unset] [])) (fun _ k => XS.ifNo W2.here hx rfl (hb hby dd_jdk_42_method_149_code_30) rfl ((if0 _ _).trans (feq hzc0).1) k) ?_
  refine Go.st (g' := (mkF m 34 #[.val (.ref x0), .val (.ref s0), .val (.int (0 : Int32)), .val (.int (3 : Int32)), .val .null, .unset] [(.ref s0)])) (fun _ k => XS.aloadN W2.here hx rfl (hb hby dd_jdk_42_method_149_code_33) rfl rfl  k) ?_
  refine Go.st (g' := (mkF m 35 #[.val (.ref x0), .val (.ref s0), .val (.int (0 : Int32)), .val (.int (3 : Int32)), .val .null, .unset] [(.int (0 : Int32)), (.ref s0)])) (fun _ k => XS.iloadN W2.here hx rfl (hb hby dd_jdk_42_method_149_code_34) rfl  k) ?_
  refine Go.st (g' := (mkF m 36 #[.val (.ref x0), .val (.ref s0), .val (.int (0 : Int32)), .val (.int (3 : Int32)), .val .null, .unset] [(.int (3 : Int32)), (.int (0 : Int32)), (.ref s0)])) (fun _ k => XS.iloadN W2.here hx rfl (hb hby dd_jdk_42_method_149_code_35) rfl  k) ?_
  obtain ⟨_, vm3, T3, h3, W3, Q3, z3, SF3, st3⟩ := W2.callS hx hEL (own_cmp3_3_0 l hE W2.old (s0 := s0) (ks := ks) (dd := dd) (c1 := c1) (c2 := c2) (c3 := c3) hc1 hc2 hc3 hw1 P3) (hw _ (List.mem_of_getElem? (i := 69) rfl)) (hw _ (List.mem_of_getElem? (i := 70) rfl)) (hw _ (List.mem_of_getElem? (i := 71) rfl)) (hw _ (List.mem_of_getElem? (i := 72) rfl)) (by decide) (Wd := 0) (by decide) (by decide) (by decide) (by decide) (g := (mkF m 36 #[.val (.ref x0), .val (.ref s0), .val (.int (0 : Int32)), .val (.int (3 : Int32)), .val .null, .unset] [(.int (3 : Int32)), (.int (0 : Int32)), (.ref s0)])) rfl (by rw [hml]; rfl) (argsL := [(.ref s0), (.int (0 : Int32)), (.int (3 : Int32))]) (rest := []) rfl (lenOf pd___CII__B rfl) rfl (by show 2 * 0 + _ ≤ _; exact Nat.le_of_eq rfl) (hb hby dd_jdk_42_method_149_code_36)
  obtain ⟨b_3, kb_3, rfl, p3_0, f3_0, K3⟩ := Q3
  have yf3_0 : h3.size > b_3 := f3_0.lt
  refine Go.tr (g' := (mkF m 39 #[.val (.ref x0), .val (.ref s0), .val (.int (0 : Int32)), .val (.int (3 : Int32)), .val .null, .unset] [(.ref b_3)])) st3 ?_
  refine Go.st (g' := (mkF m 41 #[.val (.ref x0), .val (.ref s0), .val (.int (0 : Int32)), .val (.int (3 : Int32)), .val .null, .val (.ref b_3)] [])) (fun _ k => XS.astore W3.here hx rfl (hb hby dd_jdk_42_method_149_code_39) rfl rfl (l' := #[.val (.ref x0), .val (.ref s0), .val (.int (0 : Int32)), .val (.int (3 : Int32)), .val .null, .val (.ref b_3)]) rfl k) ?_
  refine Go.st (g' := (mkF m 42 #[.val (.ref x0), .val (.ref s0), .val (.int (0 : Int32)), .val (.int (3 : Int32)), .val .null, .val (.ref b_3)] [(.ref x0)])) (fun _ k => XS.aloadN W3.here hx rfl (hb hby dd_jdk_42_method_149_code_41) rfl rfl  k) ?_
  refine Go.st (g' := (mkF m 44 #[.val (.ref x0), .val (.ref s0), .val (.int (0 : Int32)), .val (.int (3 : Int32)), .val .null, .val (.ref b_3)] [(.ref b_3), (.ref x0)])) (fun _ k => XS.aload W3.here hx rfl (hb hby dd_jdk_42_method_149_code_42) rfl rfl  k) ?_
  refine Go.st (g' := (mkF m 45 #[.val (.ref x0), .val (.ref s0), .val (.int (0 : Int32)), .val (.int (3 : Int32)), .val .null, .val (.ref b_3)] [(.int (3 : Int32)), (.ref b_3), (.ref x0)])) (fun _ k => XS.iloadN W3.here hx rfl (hb hby dd_jdk_42_method_149_code_44) rfl  k) ?_
  obtain ⟨_, vm4, T4, h4, W4, Q4, z4, SF4, st4⟩ := W3.callS hx hEL (own_cfal3 l hE W3.old (b0 := b_3) (kb := kb_3) (vs0 := [(.int ((c1 >>> ((0 : Int32) &&& 31)).toInt8.toInt32)), (.int ((c1 >>> ((8 : Int32) &&& 31)).toInt8.toInt32)), (.int ((c2 >>> ((0 : Int32) &&& 31)).toInt8.toInt32)), (.int ((c2 >>> ((8 : Int32) &&& 31)).toInt8.toInt32)), (.int ((c3 >>> ((0 : Int32) &&& 31)).toInt8.toInt32)), (.int ((c3 >>> ((8 : Int32) &&& 31)).toInt8.toInt32))]) (dd := (.int (0 : Int32)))  f3_0) (hw _ (List.mem_of_getElem? (i := 76) rfl)) (hw _ (List.mem_of_getElem? (i := 77) rfl)) (hw _ (List.mem_of_getElem? (i := 71) rfl)) (hw _ (List.mem_of_getElem? (i := 78) rfl)) (by decide) (Wd := 1) (by decide) (by decide) (by decide) (by decide) (g := (mkF m 45 #[.val (.ref x0), .val (.ref s0), .val (.int (0 : Int32)), .val (.int (3 : Int32)), .val .null, .val (.ref b_3)] [(.int (3 : Int32)), (.ref b_3), (.ref x0)])) rfl (by rw [hml]; rfl) (argsL := [(.ref b_3), (.int (3 : Int32))]) (rest := [(.ref x0)]) rfl (lenOf pd___BI_B rfl) rfl (by show 2 * 0 + _ ≤ _; exact Nat.le_of_eq rfl) (hb hby dd_jdk_42_method_149_code_45)
  obtain ⟨rfl, eh4⟩ := Q4
  subst eh4
  refine Go.tr (g' := (mkF m 48 #[.val (.ref x0), .val (.ref s0), .val (.int (0 : Int32)), .val (.int (3 : Int32)), .val .null, .val (.ref b_3)] [(.int (1 : Int32)), (.ref x0)])) st4 ?_
  have F6 : Fld Z h3 x0 "java/lang/String" "coder" "B" (.int (0 : Int32)) := (P2.keep K3 nin0)
  have F7 : Exa Z h3 x0 "java/lang/String" := (P0.keep K3)
  have F8 : Fld Z h3 x0 "java/lang/String" "value" "[B" .null := (P1.keep K3 nin0)
  have S9 : Safe Z consts_1 vm4 h3 x0 := own_safe_blank W4.warm.alike F7 F8
  obtain ⟨T5, h5, W5, R5, z5, X5, SF5, st5⟩ := W4.putF hx (hw _ (List.mem_of_getElem? (i := 29) rfl)) Via.refl F6 F7 (Or.inr ⟨(hw _ (List.mem_of_getElem? (i := 30) rfl)), rfl, hnm⟩) (hw _ (List.mem_of_getElem? (i := 15) rfl)) (ty := .byte) (by decide) rfl rfl S9 (by omega) (g := (mkF m 48 #[.val (.ref x0), .val (.ref s0), .val (.int (0 : Int32)), .val (.int (3 : Int32)), .val .null, .val (.ref b_3)] [(.int (1 : Int32)), (.ref x0)])) rfl rfl (hb hby dd_jdk_42_method_149_code_48)
  refine Go.st (g' := (mkF m 51 #[.val (.ref x0), .val (.ref s0), .val (.int (0 : Int32)), .val (.int (3 : Int32)), .val .null, .val (.ref b_3)] [])) st5 ?_
  refine Go.st (g' := (mkF m 52 #[.val (.ref x0), .val (.ref s0), .val (.int (0 : Int32)), .val (.int (3 : Int32)), .val .null, .val (.ref b_3)] [(.ref x0)])) (fun _ k => XS.aloadN W5.here hx rfl (hb hby dd_jdk_42_method_149_code_51) rfl rfl  k) ?_
  refine Go.st (g' := (mkF m 54 #[.val (.ref x0), .val (.ref s0), .val (.int (0 : Int32)), .val (.int (3 : Int32)), .val .null, .val (.ref b_3)] [(.ref b_3), (.ref x0)])) (fun _ k => XS.aload W5.here hx rfl (hb hby dd_jdk_42_method_149_code_52) rfl rfl  k) ?_
  have F11 : Fld Z h5 x0 "java/lang/String" "value" "[B" .null := (F8.other R5 (Or.inr (slot_ne (Or.inr (hw _ (List.mem_of_getElem? (i := 28) rfl))) (Or.inr (hw _ (List.mem_of_getElem? (i := 30) rfl))) (by decide) (t := (.array .byte)) (t' := .byte) (by decide) (by decide))))
  have F12 : Exa Z h5 x0 "java/lang/String" := (F7.wr R5)
  have F13 : Safe Z consts_1 vm4 h5 x0 := (SF5 _ (by omega) S9)
  obtain ⟨T10, h10, W10, R10, z10, X10, SF10, st10⟩ := W5.putF hx (hw _ (List.mem_of_getElem? (i := 27) rfl)) Via.refl F11 F12 (Or.inr ⟨(hw _ (List.mem_of_getElem? (i := 28) rfl)), rfl, hnm⟩) (hw _ (List.mem_of_getElem? (i := 15) rfl)) (ty := (.array .byte)) (by decide) rfl rfl F13 (by omega) (g := (mkF m 54 #[.val (.ref x0), .val (.ref s0), .val (.int (0 : Int32)), .val (.int (3 : Int32)), .val .null, .val (.ref b_3)] [(.ref b_3), (.ref x0)])) rfl rfl (hb hby dd_jdk_42_method_149_code_54)
  refine Go.st (g' := (mkF m 57 #[.val (.ref x0), .val (.ref s0), .val (.int (0 : Int32)), .val (.int (3 : Int32)), .val .null, .val (.ref b_3)] [])) st10 ?_
  have F14 : Fld Z h10 x0 "java/lang/String" "coder" "B" (.int (1 : Int32)) := (X5.other R10 (Or.inr (slot_ne (Or.inr (hw _ (List.mem_of_getElem? (i := 30) rfl))) (Or.inr (hw _ (List.mem_of_getElem? (i := 28) rfl))) (by decide) (t := .byte) (t' := (.array .byte)) (by decide) (by decide))))
  have F15 : Arv Z h10 b_3 kb_3 .byte (6 : Int32) [(.int ((c1 >>> ((0 : Int32) &&& 31)).toInt8.toInt32)), (.int ((c1 >>> ((8 : Int32) &&& 31)).toInt8.toInt32)), (.int ((c2 >>> ((0 : Int32) &&& 31)).toInt8.toInt32)), (.int ((c2 >>> ((8 : Int32) &&& 31)).toInt8.toInt32)), (.int ((c3 >>> ((0 : Int32) &&& 31)).toInt8.toInt32)), (.int ((c3 >>> ((8 : Int32) &&& 31)).toInt8.toInt32))] (.int (0 : Int32)) := ((f3_0.other R5 (own_ne (by omega))).other R10 (own_ne (by omega)))
  exact W10.retV hx hEL hlk hret (hb hby dd_jdk_42_method_149_code_57) (by decide) (by decide) ⟨b_3, kb_3, rfl, X10, F14, F15, ((((Keep.refl h0 [x0]).trans K3 all0).wr R5 (Or.inl (List.mem_of_getElem? (i := 0) rfl))).wr R10 (Or.inl (List.mem_of_getElem? (i := 0) rfl)))⟩
set_option maxRecDepth 65536 in
set_option maxHeartbeats 4000000 in
theorem own_cmp5_3_1 (l : Launch) {Z : State} {a0 : Array Value} (hE : Ctx Z a0) {n0 : Nat} {h0 : Heap} (O : Old Z n0 h0) {s0 : Addr} {ks : ClassId} {dd : Value} {b0 : Addr} {kb : ClassId} {c1 : Int32} {c2 : Int32} {c3 : Int32} (hb0 : n0 ≤ b0) (hsb : ¬ @Eq Nat s0 b0) (hw1 : ¬ (255 : Int32) < c1) (hw2 : (255 : Int32) < c2) (P0 : Arv Z h0 s0 ks .char (3 : Int32) [(.int c1), (.int c2), (.int c3)] dd) (P1 : Arv Z h0 b0 kb .byte (3 : Int32) [(.int (0 : Int32)), (.int (0 : Int32)), (.int (0 : Int32))] (.int (0 : Int32))) :
    Met l (⟨"java/lang/StringUTF16", "compress", "([CI[BII)I"⟩ : MethodName) jdk_52_method_21_code 7 (Option.some Jvm.ClassFile.FieldType.int) ({ frames := 0, cells := 0, slots := 0, locals := 0 } : Room) Z consts_1 n0 [] #[(.ref s0), (.int (0 : Int32)), (.ref b0), (.int (0 : Int32)), (.int (3 : Int32))] h0 (fun v h => v = some (.int (1 : Int32)) ∧ Keep h0 h [b0]) := by
  have hw := hE.1
  have hEL := own_EW hw
  have own_wS := own_stringAtoms hw
  have hE1 := own_E1 hw
  refine Met.of (by first | (refine plainFor_of_name ?_; simp [plainName, overriddenIn]; done) | decide +kernel) O ?_
  intro p e s m below meth c T0 hx hby hml hret hlk hnm hh0 W0
  have z0 := W0.ge
  have yP0 : h0.size > s0 := P0.lt
  have yP1 : h0.size > b0 := P1.lt
  refine Go.st (g' := (mkF m 0 #[.val (.ref s0), .val (.int (0 : Int32)), .val (.ref b0), .val (.int (0 : Int32)), .val (.int (3 : Int32)), .unset, .unset] [])) (fun _ k => castTop (by first | (simp [entryFrame, mkF, argsToLocals, maxLocals, own_catI, own_catJ, own_catD, own_catA, own_catN]; done) | rfl) k) ?_
  refine Go.st (g' := (mkF m 1 #[.val (.ref s0), .val (.int (0 : Int32)), .val (.ref b0), .val (.int (0 : Int32)), .val (.int (3 : Int32)), .unset, .unset] [(.int (0 : Int32))])) (fun _ k => XS.iconst W0.here hx rfl (hb hby dd_jdk_52_method_21_code_0) k) ?_
  refine Go.st (g' := (mkF m 3 #[.val (.ref s0), .val (.int (0 : Int32)), .val (.ref b0), .val (.int (0 : Int32)), .val (.int (3 : Int32)), .val (.int (0 : Int32)), .unset] [])) (fun _ k => XS.istore W0.here hx rfl (hb hby dd_jdk_52_method_21_code_1) rfl (l' := #[.val (.ref s0), .val (.int (0 : Int32)), .val (.ref b0), .val (.int (0 : Int32)), .val (.int (3 : Int32)), .val (.int (0 : Int32)), .unset]) rfl k) ?_
  refine Go.st (g' := (mkF m 5 #[.val (.ref s0), .val (.int (0 : Int32)), .val (.ref b0), .val (.int (0 : Int32)), .val (.int (3 : Int32)), .val (.int (0 : Int32)), .unset] [(.int (0 : Int32))])) (fun _ k => XS.iload W0.here hx rfl (hb hby dd_jdk_52_method_21_code_3) rfl  k) ?_
  refine Go.st (g' := (mkF m 7 #[.val (.ref s0), .val (.int (0 : Int32)), .val (.ref b0), .val (.int (0 : Int32)), .val (.int (3 : Int32)), .val (.int (0 : Int32)), .unset] [(.int (3 : Int32)), (.int (0 : Int32))])) (fun _ k => XS.iload W0.here hx rfl (hb hby dd_jdk_52_method_21_code_5) rfl  k) ?_
  refine Go.st (g' := (mkF m 10 #[.val (.ref s0), .val (.int (0 : Int32)), .val (.ref b0), .val (.int (0 : Int32)), .val (.int (3 : Int32)), .val (.int (0 : Int32)), .unset] [])) (fun _ k => XS.icmpNo W0.here hx rfl (hb hby dd_jdk_52_method_21_code_7) rfl (tlt (by decide)).2.1 k) ?_
  refine Go.st (g' := (mkF m 11 #[.val (.ref s0), .val (.int (0 : Int32)), .val (.ref b0), .val (.int (0 : Int32)), .val (.int (3 : Int32)), .val (.int (0 : Int32)), .unset] [(.ref s0)])) (fun _ k => XS.aloadN W0.here hx rfl (hb hby dd_jdk_52_method_21_code_10) rfl rfl  k) ?_
  refine Go.st (g' := (mkF m 12 #[.val (.ref s0), .val (.int (0 : Int32)), .val (.ref b0), .val (.int (0 : Int32)), .val (.int (3 : Int32)), .val (.int (0 : Int32)), .unset] [(.int (0 : Int32)), (.ref s0)])) (fun _ k => XS.iloadN W0.here hx rfl (hb hby dd_jdk_52_method_21_code_11) rfl  k) ?_
  refine Go.st (g' := (mkF m 13 #[.val (.ref s0), .val (.int (0 : Int32)), .val (.ref b0), .val (.int (0 : Int32)), .val (.int (3 : Int32)), .val (.int (0 : Int32)), .unset] [(.int c1)])) (W0.ldC hx P0 (j := (0 : Int32)) ⟨by decide, by decide⟩ (v := .int c1) rfl (g := (mkF m 12 #[.val (.ref s0), .val (.int (0 : Int32)), .val (.ref b0), .val (.int (0 : Int32)), .val (.int (3 : Int32)), .val (.int (0 : Int32)), .unset] [(.int (0 : Int32)), (.ref s0)])) rfl rfl (hb hby dd_jdk_52_method_21_code_12)) ?_
  refine Go.st (g' := (mkF m 15 #[.val (.ref s0), .val (.int (0 : Int32)), .val (.ref b0), .val (.int (0 : Int32)), .val (.int (3 : Int32)), .val (.int (0 : Int32)), .val (.int c1)] [])) (fun _ k => XS.istore W0.here hx rfl (hb hby dd_jdk_52_method_21_code_13) rfl (l' := #[.val (.ref s0), .val (.int (0 : Int32)), .val (.ref b0), .val (.int (0 : Int32)), .val (.int (3 : Int32)), .val (.int (0 : Int32)), .val (.int c1)]) rfl k) ?_
  refine Go.st (g' := (mkF m 17 #[.val (.ref s0), .val (.int (0 : Int32)), .val (.ref b0), .val (.int (0 : Int32)), .val (.int (3 : Int32)), .val (.int (0 : Int32)), .val (.int c1)] [(.int c1)])) (fun _ k => XS.iload W0.here hx rfl (hb hby dd_jdk_52_method_21_code_15) rfl  k) ?_
  refine Go.st (g' := (mkF m 20 #[.val (.ref s0), .val (.int (0 : Int32)), .val (.ref b0), .val (.int (0 : Int32)), .val (.int (3 : Int32)), .val (.int (0 : Int32)), .val (.int c1)] [(.int (255 : Int32)), (.int c1)])) (fun _ k => XS.sipush W0.here hx rfl (hb hby dd_jdk_52_method_21_code_17) k) ?_
  refine Go.st (g' := (mkF m 26 #[.val (.ref s0), .val (.int (0 : Int32)), .val (.ref b0), .val (.int (0 : Int32)), .val (.int (3 : Int32)), .val (.int (0 : Int32)), .val (.int c1)] [])) (fun _ k => XS.icmpYes W0.here hx rfl (pc0 := 20) (pc' := 26) rfl (hb hby dd_jdk_52_method_21_code_20) rfl (flt hw1).2.2.2 (by decide) (by decide) k) ?_
  refine Go.st (g' := (mkF m 27 #[.val (.ref s0), .val (.int (0 : Int32)), .val (.ref b0), .val (.int (0 : Int32)), .val (.int (3 : Int32)), .val (.int (0 : Int32)), .val (.int c1)] [(.ref b0)])) (fun _ k => XS.aloadN W0.here hx rfl (hb hby dd_jdk_52_method_21_code_26) rfl rfl  k) ?_
  refine Go.st (g' := (mkF m 28 #[.val (.ref s0), .val (.int (0 : Int32)), .val (.ref b0), .val (.int (0 : Int32)), .val (.int (3 : Int32)), .val (.int (0 : Int32)), .val (.int c1)] [(.int (0 : Int32)), (.ref b0)])) (fun _ k => XS.iloadN W0.here hx rfl (hb hby dd_jdk_52_method_21_code_27) rfl  k) ?_
  refine Go.st (g' := (mkF m 30 #[.val (.ref s0), .val (.int (0 : Int32)), .val (.ref b0), .val (.int (0 : Int32)), .val (.int (3 : Int32)), .val (.int (0 : Int32)), .val (.int c1)] [(.int c1), (.int (0 : Int32)), (.ref b0)])) (fun _ k => XS.iload W0.here hx rfl (hb hby dd_jdk_52_method_21_code_28) rfl  k) ?_
  refine Go.st (g' := (mkF m 31 #[.val (.ref s0), .val (.int (0 : Int32)), .val (.ref b0), .val (.int (0 : Int32)), .val (.int (3 : Int32)), .val (.int (0 : Int32)), .val (.int c1)] [(.int (c1.toInt8.toInt32)), (.int (0 : Int32)), (.ref b0)])) (fun _ k => XS.i2b W0.here hx rfl (hb hby dd_jdk_52_method_21_code_30) rfl k) ?_
  obtain ⟨T1, h1, W1, R1, z1, X1, SF1, st1⟩ := W0.stB hx P1 (own_safeB W0.warm hE1 P1 (by decide)) ⟨by decide, by decide⟩ 0 rfl (Nat.le_of_ble_eq_true rfl) (by omega) (g := (mkF m 31 #[.val (.ref s0), .val (.int (0 : Int32)), .val (.ref b0), .val (.int (0 : Int32)), .val (.int (3 : Int32)), .val (.int (0 : Int32)), .val (.int c1)] [(.int (c1.toInt8.toInt32)), (.int (0 : Int32)), (.ref b0)])) rfl rfl (hb hby dd_jdk_52_method_21_code_31)
  have F2 : Arv Z h1 b0 kb .byte (3 : Int32) [(.int (c1.toInt8.toInt32)), (.int (0 : Int32)), (.int (0 : Int32))] (.int (0 : Int32)) := (by have q := X1; rw [show nar .byte (c1.toInt8.toInt32) = (c1.toInt8.toInt32) from own_narB _] at q; exact q)
  refine Go.st (g' := (mkF m 32 #[.val (.ref s0), .val (.int (0 : Int32)), .val (.ref b0), .val (.int (0 : Int32)), .val (.int (3 : Int32)), .val (.int (0 : Int32)), .val (.int c1)] [])) st1 ?_
  refine Go.st (g' := (mkF m 35 #[.val (.ref s0), .val (.int (1 : Int32)), .val (.ref b0), .val (.int (0 : Int32)), .val (.int (3 : Int32)), .val (.int (0 : Int32)), .val (.int c1)] [])) (fun _ k => XS.iinc W1.here hx rfl (hb hby dd_jdk_52_method_21_code_32) rfl (l' := #[.val (.ref s0), .val (.int (1 : Int32)), .val (.ref b0), .val (.int (0 : Int32)), .val (.int (3 : Int32)), .val (.int (0 : Int32)), .val (.int c1)]) rfl k) ?_
  refine Go.st (g' := (mkF m 38 #[.val (.ref s0), .val (.int (1 : Int32)), .val (.ref b0), .val (.int (1 : Int32)), .val (.int (3 : Int32)), .val (.int (0 : Int32)), .val (.int c1)] [])) (fun _ k => XS.iinc W1.here hx rfl (hb hby dd_jdk_52_method_21_code_35) rfl (l' := #[.val (.ref s0), .val (.int (1 : Int32)), .val (.ref b0), .val (.int (1 : Int32)), .val (.int (3 : Int32)), .val (.int (0 : Int32)), .val (.int c1)]) rfl k) ?_
  refine Go.st (g' := (mkF m 41 #[.val (.ref s0), .val (.int (1 : Int32)), .val (.ref b0), .val (.int (1 : Int32)), .val (.int (3 : Int32)), .val (.int (1 : Int32)), .val (.int c1)] [])) (fun _ k => XS.iinc W1.here hx rfl (hb hby dd_jdk_52_method_21_code_38) rfl (l' := #[.val (.ref s0), .val (.int (1 : Int32)), .val (.ref b0), .val (.int (1 : Int32)), .val (.int (3 : Int32)), .val (.int (1 : Int32)), .val (.int c1)]) rfl k) ?_
  refine Go.st (g' := (mkF m 3 #[.val (.ref s0), .val (.int (1 : Int32)), .val (.ref b0), .val (.int (1 : Int32)), .val (.int (3 : Int32)), .val (.int (1 : Int32)), .val (.int c1)] [])) (fun _ k => XS.goto W1.here hx rfl (pc0 := 41) (pc' := 3) rfl (hb hby dd_jdk_52_method_21_code_41) (by decide) (by decide) k) ?_
  refine Go.st (g' := (mkF m 5 #[.val (.ref s0), .val (.int (1 : Int32)), .val (.ref b0), .val (.int (1 : Int32)), .val (.int (3 : Int32)), .val (.int (1 : Int32)), .val (.int c1)] [(.int (1 : Int32))])) (fun _ k => XS.iload W1.here hx rfl (hb hby dd_jdk_52_method_21_code_3) rfl  k) ?_
  refine Go.st (g' := (mkF m 7 #[.val (.ref s0), .val (.int (1 : Int32)), .val (.ref b0), .val (.int (1 : Int32)), .val (.int (3 : Int32)), .val (.int (1 : Int32)), .val (.int c1)] [(.int (3 : Int32)), (.int (1 : Int32))])) (fun _ k => XS.iload W1.here hx rfl (hb hby dd_jdk_52_method_21_code_5) rfl  k) ?_
  refine Go.st (g' := (mkF m 10 #[.val (.ref s0), .val (.int (1 : Int32)), .val (.ref b0), .val (.int (1 : Int32)), .val (.int (3 : Int32)), .val (.int (1 : Int32)), .val (.int c1)] [])) (fun _ k => XS.icmpNo W1.here hx rfl (hb hby dd_jdk_52_method_21_code_7) rfl (tlt (by decide)).2.1 k) ?_
  refine Go.st (g' := (mkF m 11 #[.val (.ref s0), .val (.int (1 : Int32)), .val (.ref b0), .val (.int (1 : Int32)), .val (.int (3 : Int32)), .val (.int (1 : Int32)), .val (.int c1)] [(.ref s0)])) (fun _ k => XS.aloadN W1.here hx rfl (hb hby dd_jdk_52_method_21_code_10) rfl rfl  k) ?_
  refine Go.st (g' := (mkF m 12 #[.val (.ref s0), .val (.int (1 : Int32)), .val (.ref b0), .val (.int (1 : Int32)), .val (.int (3 : Int32)), .val (.int (1 : Int32)), .val (.int c1)] [(.int (1 : Int32)), (.ref s0)])) (fun _ k => XS.iloadN W1.here hx rfl (hb hby dd_jdk_52_method_21_code_11) rfl  k) ?_
  have F3 : Arv Z h1 s0 ks .char (3 : Int32) [(.int c1), (.int c2), (.int c3)] dd := (P0.other R1 (own_ne (by omega)))
  refine Go.st (g' := (mkF m 13 #[.val (.ref s0), .val (.int (1 : Int32)), .val (.ref b0), .val (.int (1 : Int32)), .val (.int (3 : Int32)), .val (.int (1 : Int32)), .val (.int c1)] [(.int c2)])) (W1.ldC hx F3 (j := (1 : Int32)) ⟨by decide, by decide⟩ (v := .int c2) rfl (g := (mkF m 12 #[.val (.ref s0), .val (.int (1 : Int32)), .val (.ref b0), .val (.int (1 : Int32)), .val (.int (3 : Int32)), .val (.int (1 : Int32)), .val (.int c1)] [(.int (1 : Int32)), (.ref s0)])) rfl rfl (hb hby dd_jdk_52_method_21_code_12)) ?_
  refine Go.st (g' := (mkF m 15 #[.val (.ref s0), .val (.int (1 : Int32)), .val (.ref b0), .val (.int (1 : Int32)), .val (.int (3 : Int32)), .val (.int (1 : Int32)), .val (.int c2)] [])) (fun _ k => XS.istore W1.here hx rfl (hb hby dd_jdk_52_method_21_code_13) rfl (l' := #[.val (.ref s0), .val (.int (1 : Int32)), .val (.ref b0), .val (.int (1 : Int32)), .val (.int (3 : Int32)), .val (.int (1 : Int32)), .val (.int c2)]) rfl k) ?_
  refine Go.st (g' := (mkF m 17 #[.val (.ref s0), .val (.int (1 : Int32)), .val (.ref b0), .val (.int (1 : Int32)), .val (.int (3 : Int32)), .val (.int (1 : Int32)), .val (.int c2)] [(.int c2)])) (fun _ k => XS.iload W1.here hx rfl (hb hby dd_jdk_52_method_21_code_15) rfl  k) ?_
  refine Go.st (g' := (mkF m 20 #[.val (.ref s0), .val (.int (1 : Int32)), .val (.ref b0), .val (.int (1 : Int32)), .val (.int (3 : Int32)), .val (.int (1 : Int32)), .val (.int c2)] [(.int (255 : Int32)), (.int c2)])) (fun _ k => XS.sipush W1.here hx rfl (hb hby dd_jdk_52_method_21_code_17) k) ?_
  refine Go.st (g' := (mkF m 23 #[.val (.ref s0), .val (.int (1 : Int32)), .val (.ref b0), .val (.int (1 : Int32)), .val (.int (3 : Int32)), .val (.int (1 : Int32)), .val (.int c2)] [])) (fun _ k => XS.icmpNo W1.here hx rfl (hb hby dd_jdk_52_method_21_code_20) rfl (tlt hw2).2.2.2 k) ?_
  refine Go.st (g' := (mkF m 25 #[.val (.ref s0), .val (.int (1 : Int32)), .val (.ref b0), .val (.int (1 : Int32)), .val (.int (3 : Int32)), .val (.int (1 : Int32)), .val (.int c2)] [(.int (1 : Int32))])) (fun _ k => XS.iload W1.here hx rfl (hb hby dd_jdk_52_method_21_code_23) rfl  k) ?_
  exact W1.retI hx hEL hlk hret (hb hby dd_jdk_52_method_21_code_25) (by decide) (by decide) ⟨rfl, ((Keep.refl h0 [b0]).wr R1 (Or.inl (List.mem_of_getElem? (i := 0) rfl)))⟩
set_option maxRecDepth 65536 in
set_option maxHeartbeats 4000000 in
theorem own_cmp3_3_1 (l : Launch) {Z : State} {a0 : Array Value} (hE : Ctx Z a0) {n0 : Nat} {h0 : Heap} (O : Old Z n0 h0) {s0 : Addr} {ks : ClassId} {dd : Value} {c1 : Int32} {c2 : Int32} {c3 : Int32} (hc1 : Chr c1) (hc2 : Chr c2) (hc3 : Chr c3) (hw1 : ¬ (255 : Int32) < c1) (hw2 : (255 : Int32) < c2) (P0 : Arv Z h0 s0 ks .char (3 : Int32) [(.int c1), (.int c2), (.int c3)] dd) :
    Met l (⟨"java/lang/StringUTF16", "compress", "([CII)[B"⟩ : MethodName) jdk_52_method_16_code 6 (Option.some (Jvm.ClassFile.FieldType.array Jvm.ClassFile.FieldType.byte)) ({ frames := 3, cells := 2, slots := 9, locals := 40 } : Room) Z consts_1 n0 [] #[(.ref s0), (.int (0 : Int32)), (.int (3 : Int32))] h0 (fun v h => ∃ (b : Addr), ∃ (kb : ClassId), v = some (.ref b) ∧ h0.size ≤ b ∧ Arv Z h b kb .byte (6 : Int32) [(.int ((c1 >>> ((0 : Int32) &&& 31)).toInt8.toInt32)), (.int ((c1 >>> ((8 : Int32) &&& 31)).toInt8.toInt32)), (.int ((c2 >>> ((0 : Int32) &&& 31)).toInt8.toInt32)), (.int ((c2 >>> ((8 : Int32) &&& 31)).toInt8.toInt32)), (.int ((c3 >>> ((0 : Int32) &&& 31)).toInt8.toInt32)), (.int ((c3 >>> ((8 : Int32) &&& 31)).toInt8.toInt32))] (.int (0 : Int32)) ∧ Keep h0 h []) := by
  have hw := hE.1
  have hEL := own_EW hw
  have own_wS := own_stringAtoms hw
  have hE1 := own_E1 hw
  refine Met.of (by first | (refine plainFor_of_name ?_; simp [plainName, overriddenIn]; done) | decide +kernel) O ?_
  intro p e s m below meth c T0 hx hby hml hret hlk hnm hh0 W0
  have z0 := W0.ge
  have yP0 : h0.size > s0 := P0.lt
  refine Go.st (g' := (mkF m 0 #[.val (.ref s0), .val (.int (0 : Int32)), .val (.int (3 : Int32)), .unset, .unset, .unset] [])) (fun _ k => castTop (by first | (simp [entryFrame, mkF, argsToLocals, maxLocals, own_catI, own_catJ, own_catD, own_catA, own_catN]; done) | rfl) k) ?_
  refine Go.st (g' := (mkF m 1 #[.val (.ref s0), .val (.int (0 : Int32)), .val (.int (3 : Int32)), .unset, .unset, .unset] [(.int (3 : Int32))])) (fun _ k => XS.iloadN W0.here hx rfl (hb hby dd_jdk_52_method_16_code_0) rfl  k) ?_
  obtain ⟨T1, h1, a1, k1, g1, W1, E1, z1, X1, S1, SF1, st1⟩ := W0.newP hx (ty := .byte) rfl (hw _ (List.mem_of_getElem? (i := 19) rfl)) (g := (mkF m 1 #[.val (.ref s0), .val (.int (0 : Int32)), .val (.int (3 : Int32)), .unset, .unset, .unset] [(.int (3 : Int32))])) rfl (hb hby dd_jdk_52_method_16_code_1) rfl (by decide) (cap := 3) (by decide) (by decide) (by decide) (by decide) 3
  have F2 : Arv Z h1 a1 k1 .byte (3 : Int32) [(.int (0 : Int32)), (.int (0 : Int32)), (.int (0 : Int32))] (.int (0 : Int32)) := X1
  refine Go.st (g' := (mkF m 3 #[.val (.ref s0), .val (.int (0 : Int32)), .val (.int (3 : Int32)), .unset, .unset, .unset] [(.ref a1)])) st1 ?_
  refine Go.st (g' := (mkF m 4 #[.val (.ref s0), .val (.int (0 : Int32)), .val (.int (3 : Int32)), .val (.ref a1), .unset, .unset] [])) (fun _ k => XS.astoreN W1.here hx rfl (hb hby dd_jdk_52_method_16_code_3) rfl rfl (l' := #[.val (.ref s0), .val (.int (0 : Int32)), .val (.int (3 : Int32)), .val (.ref a1), .unset, .unset]) rfl k) ?_
  refine Go.st (g' := (mkF m 5 #[.val (.ref s0), .val (.int (0 : Int32)), .val (.int (3 : Int32)), .val (.ref a1), .unset, .unset] [(.ref s0)])) (fun _ k => XS.aloadN W1.here hx rfl (hb hby dd_jdk_52_method_16_code_4) rfl rfl  k) ?_
  refine Go.st (g' := (mkF m 6 #[.val (.ref s0), .val (.int (0 : Int32)), .val (.int (3 : Int32)), .val (.ref a1), .unset, .unset] [(.int (0 : Int32)), (.ref s0)])) (fun _ k => XS.iloadN W1.here hx rfl (hb hby dd_jdk_52_method_16_code_5) rfl  k) ?_
  refine Go.st (g' := (mkF m 7 #[.val (.ref s0), .val (.int (0 : Int32)), .val (.int (3 : Int32)), .val (.ref a1), .unset, .unset] [(.ref a1), (.int (0 : Int32)), (.ref s0)])) (fun _ k => XS.aloadN W1.here hx rfl (hb hby dd_jdk_52_method_16_code_6) rfl rfl  k) ?_
  refine Go.st (g' := (mkF m 8 #[.val (.ref s0), .val (.int (0 : Int32)), .val (.int (3 : Int32)), .val (.ref a1), .unset, .unset] [(.int (0 : Int32)), (.ref a1), (.int (0 : Int32)), (.ref s0)])) (fun _ k => XS.iconst W1.here hx rfl (hb hby dd_jdk_52_method_16_code_7) k) ?_
  refine Go.st (g' := (mkF m 9 #[.val (.ref s0), .val (.int (0 : Int32)), .val (.int (3 : Int32)), .val (.ref a1), .unset, .unset] [(.int (3 : Int32)), (.int (0 : Int32)), (.ref a1), (.int (0 : Int32)), (.ref s0)])) (fun _ k => XS.iloadN W1.here hx rfl (hb hby dd_jdk_52_method_16_code_8) rfl  k) ?_
  have F4 : Arv Z h1 s0 ks .char (3 : Int32) [(.int c1), (.int c2), (.int c3)] dd := (P0.ext E1)
  obtain ⟨_, vm3, T3, h3, W3, Q3, z3, SF3, st3⟩ := W1.callS hx hEL (own_cmp5_3_1 l hE W1.old (s0 := s0) (ks := ks) (dd := dd) (b0 := a1) (kb := k1) (c1 := c1) (c2 := c2) (c3 := c3) (by omega) (by omega) hw1 hw2 F4 F2) (hw _ (List.mem_of_getElem? (i := 73) rfl)) (hw _ (List.mem_of_getElem? (i := 74) rfl)) (hw _ (List.mem_of_getElem? (i := 71) rfl)) (hw _ (List.mem_of_getElem? (i := 75) rfl)) (by decide) (Wd := 0) (by decide) (by decide) (by decide) (by decide) (g := (mkF m 9 #[.val (.ref s0), .val (.int (0 : Int32)), .val (.int (3 : Int32)), .val (.ref a1), .unset, .unset] [(.int (3 : Int32)), (.int (0 : Int32)), (.ref a1), (.int (0 : Int32)), (.ref s0)])) rfl (by rw [hml]; rfl) (argsL := [(.ref s0), (.int (0 : Int32)), (.ref a1), (.int (0 : Int32)), (.int (3 : Int32))]) (rest := []) rfl (lenOf pd___CI_BII_I rfl) rfl (by show 2 * 0 + _ ≤ _; exact Nat.le_of_eq rfl) (hb hby dd_jdk_52_method_16_code_9)
  obtain ⟨rfl, K3⟩ := Q3
  refine Go.tr (g' := (mkF m 12 #[.val (.ref s0), .val (.int (0 : Int32)), .val (.int (3 : Int32)), .val (.ref a1), .unset, .unset] [(.int (1 : Int32))])) st3 ?_
  refine Go.st (g' := (mkF m 14 #[.val (.ref s0), .val (.int (0 : Int32)), .val (.int (3 : Int32)), .val (.ref a1), .val (.int (1 : Int32)), .unset] [])) (fun _ k => XS.istore W3.here hx rfl (hb hby dd_jdk_52_method_16_code_12) rfl (l' := #[.val (.ref s0), .val (.int (0 : Int32)), .val (.int (3 : Int32)), .val (.ref a1), .val (.int (1 : Int32)), .unset]) rfl k) ?_
  refine Go.st (g' := (mkF m 16 #[.val (.ref s0), .val (.int (0 : Int32)), .val (.int (3 : Int32)), .val (.ref a1), .val (.int (1 : Int32)), .unset] [(.int (1 : Int32))])) (fun _ k => XS.iload W3.here hx rfl (hb hby dd_jdk_52_method_16_code_14) rfl  k) ?_
  refine Go.st (g' := (mkF m 17 #[.val (.ref s0), .val (.int (0 : Int32)), .val (.int (3 : Int32)), .val (.ref a1), .val (.int (1 : Int32)), .unset] [(.int (3 : Int32)), (.int (1 : Int32))])) (fun _ k => XS.iloadN W3.here hx rfl (hb hby dd_jdk_52_method_16_code_16) rfl  k) ?_
  refine Go.st (g' := (mkF m 20 #[.val (.ref s0), .val (.int (0 : Int32)), .val (.int (3 : Int32)), .val (.ref a1), .val (.int (1 : Int32)), .unset] [])) (fun _ k => XS.icmpNo W3.here hx rfl (hb hby dd_jdk_52_method_16_code_17) rfl (feq (by decide)).1 k) ?_
  refine Go.st (g' := (mkF m 21 #[.val (.ref s0), .val (.int (0 : Int32)), .val (.int (3 : Int32)), .val (.ref a1), .val (.int (1 : Int32)), .unset] [(.ref s0)])) (fun _ k => XS.aloadN W3.here hx rfl (hb hby dd_jdk_52_method_16_code_20) rfl rfl  k) ?_
  refine Go.st (g' := (mkF m 22 #[.val (.ref s0), .val (.int (0 : Int32)), .val (.int (3 : Int32)), .val (.ref a1), .val (.int (1 : Int32)), .unset] [(.int (0 : Int32)), (.ref s0)])) (fun _ k => XS.iloadN W3.here hx rfl (hb hby dd_jdk_52_method_16_code_21) rfl  k) ?_
  refine Go.st (g' := (mkF m 23 #[.val (.ref s0), .val (.int (0 : Int32)), .val (.int (3 : Int32)), .val (.ref a1), .val (.int (1 : Int32)), .unset] [(.int (3 : Int32)), (.int (0 : Int32)), (.ref s0)])) (fun _ k => XS.iloadN W3.here hx rfl (hb hby dd_jdk_52_method_16_code_22) rfl  k) ?_
  have F6 : Arv Z h3 s0 ks .char (3 : Int32) [(.int c1), (.int c2), (.int c3)] dd := (F4.keep K3 (ninS (own_ne (by omega)) nin0))
  obtain ⟨_, vm5, T5, h5, W5, Q5, z5, SF5, st5⟩ := W3.callS hx hEL (own_tb3 l hE W3.old (s0 := s0) (ks := ks) (dd := dd) (c1 := c1) (c2 := c2) (c3 := c3)  F6) (hw _ (List.mem_of_getElem? (i := 82) rfl)) (hw _ (List.mem_of_getElem? (i := 83) rfl)) (hw _ (List.mem_of_getElem? (i := 71) rfl)) (hw _ (List.mem_of_getElem? (i := 84) rfl)) (by decide) (Wd := 0) (by decide) (by decide) (by decide) (by decide) (g := (mkF m 23 #[.val (.ref s0), .val (.int (0 : Int32)), .val (.int (3 : Int32)), .val (.ref a1), .val (.int (1 : Int32)), .unset] [(.int (3 : Int32)), (.int (0 : Int32)), (.ref s0)])) rfl (by rw [hml]; rfl) (argsL := [(.ref s0), (.int (0 : Int32)), (.int (3 : Int32))]) (rest := []) rfl (lenOf pd___CII__B rfl) rfl (by show 2 * 0 + _ ≤ _; exact Nat.le_of_eq rfl) (hb hby dd_jdk_52_method_16_code_23)
  obtain ⟨b_5, kb_5, rfl, p5_0, f5_0, K5⟩ := Q5
  have yf5_0 : h5.size > b_5 := f5_0.lt
  refine Go.tr (g' := (mkF m 26 #[.val (.ref s0), .val (.int (0 : Int32)), .val (.int (3 : Int32)), .val (.ref a1), .val (.int (1 : Int32)), .unset] [(.ref b_5)])) st5 ?_
  refine Go.st (g' := (mkF m 28 #[.val (.ref s0), .val (.int (0 : Int32)), .val (.int (3 : Int32)), .val (.ref a1), .val (.int (1 : Int32)), .val (.ref b_5)] [])) (fun _ k => XS.astore W5.here hx rfl (hb hby dd_jdk_52_method_16_code_26) rfl rfl (l' := #[.val (.ref s0), .val (.int (0 : Int32)), .val (.int (3 : Int32)), .val (.ref a1), .val (.int (1 : Int32)), .val (.ref b_5)]) rfl k) ?_
  refine Go.st (g' := (mkF m 30 #[.val (.ref s0), .val (.int (0 : Int32)), .val (.int (3 : Int32)), .val (.ref a1), .val (.int (1 : Int32)), .val (.ref b_5)] [(.ref b_5)])) (fun _ k => XS.aload W5.here hx rfl (hb hby dd_jdk_52_method_16_code_28) rfl rfl  k) ?_
  refine Go.st (g' := (mkF m 32 #[.val (.ref s0), .val (.int (0 : Int32)), .val (.int (3 : Int32)), .val (.ref a1), .val (.int (1 : Int32)), .val (.ref b_5)] [(.int (1 : Int32)), (.ref b_5)])) (fun _ k => XS.iload W5.here hx rfl (hb hby dd_jdk_52_method_16_code_30) rfl  k) ?_
  obtain ⟨_, vm7, T7, h7, W7, Q7, z7, SF7, st7⟩ := W5.callS hx hEL (own_get1 l hE W5.old (b0 := b_5) (kb := kb_5) (zz := (6 : Int32)) (vs0 := [(.int ((c1 >>> ((0 : Int32) &&& 31)).toInt8.toInt32)), (.int ((c1 >>> ((8 : Int32) &&& 31)).toInt8.toInt32)), (.int ((c2 >>> ((0 : Int32) &&& 31)).toInt8.toInt32)), (.int ((c2 >>> ((8 : Int32) &&& 31)).toInt8.toInt32)), (.int ((c3 >>> ((0 : Int32) &&& 31)).toInt8.toInt32)), (.int ((c3 >>> ((8 : Int32) &&& 31)).toInt8.toInt32))]) (dd := (.int (0 : Int32))) (c0 := c2) hc2 (by decide) (by decide) rfl rfl f5_0) (hw _ (List.mem_of_getElem? (i := 98) rfl)) (hw _ (List.mem_of_getElem? (i := 99) rfl)) (hw _ (List.mem_of_getElem? (i := 71) rfl)) (hw _ (List.mem_of_getElem? (i := 100) rfl)) (by decide) (Wd := 0) (by decide) (by decide) (by decide) (by decide) (g := (mkF m 32 #[.val (.ref s0), .val (.int (0 : Int32)), .val (.int (3 : Int32)), .val (.ref a1), .val (.int (1 : Int32)), .val (.ref b_5)] [(.int (1 : Int32)), (.ref b_5)])) rfl (by rw [hml]; rfl) (argsL := [(.ref b_5), (.int (1 : Int32))]) (rest := []) rfl (lenOf pd___BI_C rfl) rfl (by show 2 * 0 + _ ≤ _; exact Nat.le_of_eq rfl) (hb hby dd_jdk_52_method_16_code_32)
  obtain ⟨rfl, eh7⟩ := Q7
  subst eh7
  refine Go.tr (g' := (mkF m 35 #[.val (.ref s0), .val (.int (0 : Int32)), .val (.int (3 : Int32)), .val (.ref a1), .val (.int (1 : Int32)), .val (.ref b_5)] [(.int c2)])) st7 ?_
  refine Go.st (g' := (mkF m 38 #[.val (.ref s0), .val (.int (0 : Int32)), .val (.int (3 : Int32)), .val (.ref a1), .val (.int (1 : Int32)), .val (.ref b_5)] [(.int (255 : Int32)), (.int c2)])) (fun _ k => XS.sipush W7.here hx rfl (hb hby dd_jdk_52_method_16_code_35) k) ?_
  refine Go.st (g' := (mkF m 54 #[.val (.ref s0), .val (.int (0 : Int32)), .val (.int (3 : Int32)), .val (.ref a1), .val (.int (1 : Int32)), .val (.ref b_5)] [])) (fun _ k => XS.icmpYes W7.here hx rfl (pc0 := 38) (pc' := 54) rfl (hb hby dd_jdk_52_method_16_code_38) rfl (tlt hw2).2.2.1 (by decide) (by decide) k) ?_
  refine Go.st (g' := (mkF m 56 #[.val (.ref s0), .val (.int (0 : Int32)), .val (.int (3 : Int32)), .val (.ref a1), .val (.int (1 : Int32)), .val (.ref b_5)] [(.ref b_5)])) (fun _ k => XS.aload W7.here hx rfl (hb hby dd_jdk_52_method_16_code_54) rfl rfl  k) ?_
  exact W7.retA hx hEL hlk hret rfl rfl rfl (hb hby dd_jdk_52_method_16_code_56) (by decide) (by decide) ⟨b_5, kb_5, rfl, (by omega), f5_0, ((((Keep.refl h0 []).ext E1).trans K3 (allS (Or.inr (by omega)) all0)).trans K5 all0)⟩
set_option maxRecDepth 65536 in
set_option maxHeartbeats 4000000 in
theorem own_i4_3_1 (l : Launch) {Z : State} {a0 : Array Value} (hE : Ctx Z a0) {n0 : Nat} {h0 : Heap} (O : Old Z n0 h0) {x0 : Addr} {s0 : Addr} {ks : ClassId} {dd : Value} {c1 : Int32} {c2 : Int32} {c3 : Int32} (hx0 : n0 ≤ x0) (hsx : ¬ @Eq Nat s0 x0) (hc1 : Chr c1) (hc2 : Chr c2) (hc3 : Chr c3) (hw1 : ¬ (255 : Int32) < c1) (hw2 : (255 : Int32) < c2) (P0 : Exa Z h0 x0 "java/lang/String") (P1 : Fld Z h0 x0 "java/lang/String" "value" "[B" .null) (P2 : Fld Z h0 x0 "java/lang/String" "coder" "B" (.int (0 : Int32))) (P3 : Arv Z h0 s0 ks .char (3 : Int32) [(.int c1), (.int c2), (.int c3)] dd) :
    Met l (⟨"java/lang/String", "<init>", "([CIILjava/lang/Void;)V"⟩ : MethodName) jdk_42_method_149_code 6 (Option.none : Option Jvm.ClassFile.FieldType) ({ frames := 4, cells := 2, slots := 9, locals := 57 } : Room) Z consts_1 n0 [] #[(.ref x0), (.ref s0), (.int (0 : Int32)), (.int (3 : Int32)), .null] h0 (fun v h => ∃ (t : Addr), ∃ (kt : ClassId), v = none ∧ Fld Z h x0 "java/lang/String" "value" "[B" (.ref t) ∧ Fld Z h x0 "java/lang/String" "coder" "B" (.int (1 : Int32)) ∧ Arv Z h t kt .byte (6 : Int32) [(.int ((c1 >>> ((0 : Int32) &&& 31)).toInt8.toInt32)), (.int ((c1 >>> ((8 : Int32) &&& 31)).toInt8.toInt32)), (.int ((c2 >>> ((0 : Int32) &&& 31)).toInt8.toInt32)), (.int ((c2 >>> ((8 : Int32) &&& 31)).toInt8.toInt32)), (.int ((c3 >>> ((0 : Int32) &&& 31)).toInt8.toInt32)), (.int ((c3 >>> ((8 : Int32) &&& 31)).toInt8.toInt32))] (.int (0 : Int32)) ∧ Keep h0 h [x0]) := by
  have hw := hE.1
  have hEL := own_EW hw
  have own_wS := own_stringAtoms hw
  have hE1 := own_E1 hw
  obtain ⟨zc, hzc, hzc0⟩ := hE.2.1
  refine Met.of (by first | (refine plainFor_of_name ?_; simp [plainName, overriddenIn]; done) | decide +kernel) O ?_
  intro p e s m below meth c T0 hx hby hml hret hlk hnm hh0 W0
  have z0 := W0.ge
  have yP0 : h0.size > x0 := P0.lt
  have yP3 : h0.size > s0 := P3.lt
  refine Go.st (g' := (mkF m 0 #[.val (.ref x0), .val (.ref s0), .val (.int (0 : Int32)), .val (.int (3 : Int32)), .val .null, .unset] [])) (fun _ k => castTop (by first | (simp [entryFrame, mkF, argsToLocals, maxLocals, own_catI, own_catJ, own_catD, own_catA, own_catN]; done) | rfl) k) ?_
  refine Go.st (g' := (mkF m 1 #[.val (.ref x0), .val (.ref s0), .val (.int (0 : Int32)), .val (.int (3 : Int32)), .val .null, .unset] [(.ref x0)])) (fun _ k => XS.aloadN W0.here hx rfl (hb hby dd_jdk_42_method_149_code_0) rfl rfl  k) ?_
  obtain ⟨T1, W1, st1⟩ := W0.initO hx (hw _ (List.mem_of_getElem? (i := 24) rfl)) (hw _ (List.mem_of_getElem? (i := 25) rfl)) (hw _ (List.mem_of_getElem? (i := 26) rfl)) (g := (mkF m 1 #[.val (.ref x0), .val (.ref s0), .val (.int (0 : Int32)), .val (.int (3 : Int32)), .val .null, .unset] [(.ref x0)])) rfl (by rw [hml]; rfl) rfl (hb hby dd_jdk_42_method_149_code_1) (by decide) (Wd := 0) (by show 2 * 0 + _ ≤ _; exact Nat.le_of_eq rfl) (by decide)
  refine Go.st (g' := (mkF m 4 #[.val (.ref x0), .val (.ref s0), .val (.int (0 : Int32)), .val (.int (3 : Int32)), .val .null, .unset] [])) st1 ?_
  refine Go.st (g' := (mkF m 5 #[.val (.ref x0), .val (.ref s0), .val (.int (0 : Int32)), .val (.int (3 : Int32)), .val .null, .unset] [(.int (3 : Int32))])) (fun _ k => XS.iloadN W1.here hx rfl (hb hby dd_jdk_42_method_149_code_4) rfl  k) ?_
  refine Go.st (g' := (mkF m 27 #[.val (.ref x0), .val (.ref s0), .val (.int (0 : Int32)), .val (.int (3 : Int32)), .val .null, .unset] [])) (fun _ k => XS.ifYes W1.here hx rfl (pc0 := 5) (pc' := 27) rfl (hb hby dd_jdk_42_method_149_code_5) rfl ((if0 _ _).trans (feq (by decide)).2) (by decide) (by decide) k) ?_
  obtain ⟨T2, W2, st2⟩ := W1.getS hx (hw _ (List.mem_of_getElem? (i := 9) rfl)) Via.refl (W1.sta hzc) (g := (mkF m 27 #[.val (.ref x0), .val (.ref s0), .val (.int (0 : Int32)), .val (.int (3 : Int32)), .val .null, .unset] [])) rfl (hb hby dd_jdk_42_method_149_code_27)
  refine Go.st (g' := (mkF m 30 #[.val (.ref x0), .val (.ref s0), .val (.int (0 : Int32)), .val (.int (3 : Int32)), .val .null, .unset] [(.int zc)])) st2 ?_
  refine Go.st (g' := (mkF m 33 #[.val (.ref x0), .val (.ref s0), .val (.int (0 : Int32)), .val (.int (3 : Int32)), .val .null, .unset] [])) (fun _ k => XS.ifNo W2.here hx rfl (hb hby dd_jdk_42_method_149_code_30) rfl ((if0 _ _).trans (feq hzc0).1) k) ?_
  refine Go.st (g' := (mkF m 34 #[.val (.ref x0), .val (.ref s0), .val (.int (0 : Int32)), .val (.int (3 : Int32)), .val .null, .unset] [(.ref s0)])) (fun _ k => XS.aloadN W2.here hx rfl (hb hby dd_jdk_42_method_149_code_33) rfl rfl  k) ?_
  refine Go.st (g' := (mkF m 35 #[.val (.ref x0), .val (.ref s0), .val (.int (0 : Int32)), .val (.int (3 : Int32)), .val .null, .unset] [(.int (0 : Int32)), (.ref s0)])) (fun _ k => XS.iloadN W2.here hx rfl (hb hby dd_jdk_42_method_149_code_34) rfl  k) ?_
  refine Go.st (g' := (mkF m 36 #[.val (.ref x0), .val (.ref s0), .val (.int (0 : Int32)), .val (.int (3 : Int32)), .val .null, .unset] [(.int (3 : Int32)), (.int (0 : Int32)), (.ref s0)])) (fun _ k => XS.iloadN W2.here hx rfl (hb hby dd_jdk_42_method_149_code_35) rfl  k) ?_
  obtain ⟨_, vm3, T3, h3, W3, Q3, z3, SF3, st3⟩ := W2.callS hx hEL (own_cmp3_3_1 l hE W2.old (s0 := s0) (ks := ks) (dd := dd) (c1 := c1) (c2 := c2) (c3 := c3) hc1 hc2 hc3 hw1 hw2 P3) (hw _ (List.mem_of_getElem? (i := 69) rfl)) (hw _ (List.mem_of_getElem? (i := 70) rfl)) (hw _ (List.mem_of_getElem? (i := 71) rfl)) (hw _ (List.mem_of_getElem? (i := 72) rfl)) (by decide) (Wd := 0) (by decide) (by decide) (by decide) (by decide) (g := (mkF m 36 #[.val (.ref x0), .val (.ref s0), .val (.int (0 : Int32)), .val (.int (3 : Int32)), .val .null, .unset] [(.int (3 : Int32)), (.int (0 : Int32)), (.ref s0)])) rfl (by rw [hml]; rfl) (argsL := [(.ref s0), (.int (0 : Int32)), (.int (3 : Int32))]) (rest := []) rfl (lenOf pd___CII__B rfl) rfl (by show 2 * 0 + _ ≤ _; exact Nat.le_of_eq rfl) (hb hby dd_jdk_42_method_149_code_36)
  obtain ⟨b_3, kb_3, rfl, p3_0, f3_0, K3⟩ := Q3
  have yf3_0 : h3.size > b_3 := f3_0.lt
  refine Go.tr (g' := (mkF m 39 #[.val (.ref x0), .val (.ref s0), .val (.int (0 : Int32)), .val (.int (3 : Int32)), .val .null, .unset] [(.ref b_3)])) st3 ?_
  refine Go.st (g' := (mkF m 41 #[.val (.ref x0), .val (.ref s0), .val (.int (0 : Int32)), .val (.int (3 : Int32)), .val .null, .val (.ref b_3)] [])) (fun _ k => XS.astore W3.here hx rfl (hb hby dd_jdk_42_method_149_code_39) rfl rfl (l' := #[.val (.ref x0), .val (.ref s0), .val (.int (0 : Int32)), .val (.int (3 : Int32)), .val .null, .val (.ref b_3)]) rfl k) ?_
  refine Go.st (g' := (mkF m 42 #[.val (.ref x0), .val (.ref s0), .val (.int (0 : Int32)), .val (.int (3 : Int32)), .val .null, .val (.ref b_3)] [(.ref x0)])) (fun _ k => XS.aloadN W3.here hx rfl (hb hby dd_jdk_42_method_149_code_41) rfl rfl  k) ?_
  refine Go.st (g' := (mkF m 44 #[.val (.ref x0), .val (.ref s0), .val (.int (0 : Int32)), .val (.int (3 : Int32)), .val .null, .val (.ref b_3)] [(.ref b_3), (.ref x0)])) (fun _ k => XS.aload W3.here hx rfl (hb hby dd_jdk_42_method_149_code_42) rfl rfl  k) ?_
  refine Go.st (g' := (mkF m 45 #[.val (.ref x0), .val (.ref s0), .val (.int (0 : Int32)), .val (.int (3 : Int32)), .val .null, .val (.ref b_3)] [(.int (3 : Int32)), (.ref b_3), (.ref x0)])) (fun _ k => XS.iloadN W3.here hx rfl (hb hby dd_jdk_42_method_149_code_44) rfl  k) ?_
  obtain ⟨_, vm4, T4, h4, W4, Q4, z4, SF4, st4⟩ := W3.callS hx hEL (own_cfal3 l hE W3.old (b0 := b_3) (kb := kb_3) (vs0 := [(.int ((c1 >>> ((0 : Int32) &&& 31)).toInt8.toInt32)), (.int ((c1 >>> ((8 : Int32) &&& 31)).toInt8.toInt32)), (.int ((c2 >>> ((0 : Int32) &&& 31)).toInt8.toInt32)), (.int ((c2 >>> ((8 : Int32) &&& 31)).toInt8.toInt32)), (.int ((c3 >>> ((0 : Int32) &&& 31)).toInt8.toInt32)), (.int ((c3 >>> ((8 : Int32) &&& 31)).toInt8.toInt32))]) (dd := (.int (0 : Int32)))  f3_0) (hw _ (List.mem_of_getElem? (i := 76) rfl)) (hw _ (List.mem_of_getElem? (i := 77) rfl)) (hw _ (List.mem_of_getElem? (i := 71) rfl)) (hw _ (List.mem_of_getElem? (i := 78) rfl)) (by decide) (Wd := 1) (by decide) (by decide) (by decide) (by decide) (g := (mkF m 45 #[.val (.ref x0), .val (.ref s0), .val (.int (0 : Int32)), .val (.int (3 : Int32)), .val .null, .val (.ref b_3)] [(.int (3 : Int32)), (.ref b_3), (.ref x0)])) rfl (by rw [hml]; rfl) (argsL := [(.ref b_3), (.int (3 : Int32))]) (rest := [(.ref x0)]) rfl (lenOf pd___BI_B rfl) rfl (by show 2 * 0 + _ ≤ _; exact Nat.le_of_eq rfl) (hb hby dd_jdk_42_method_149_code_45)
  obtain ⟨rfl, eh4⟩ := Q4
  subst eh4
  refine Go.tr (g' := (mkF m 48 #[.val (.ref x0), .val (.ref s0), .val (.int (0 : Int32)), .val (.int (3 : Int32)), .val .null, .val (.ref b_3)] [(.int (1 : Int32)), (.ref x0)])) st4 ?_
  have F6 : Fld Z h3 x0 "java/lang/String" "coder" "B" (.int (0 : Int32)) := (P2.keep K3 nin0)
  have F7 : Exa Z h3 x0 "java/lang/String" := (P0.keep K3)
  have F8 : Fld Z h3 x0 "java/lang/String" "value" "[B" .null := (P1.keep K3 nin0)
  have S9 : Safe Z consts_1 vm4 h3 x0 := own_safe_blank W4.warm.alike F7 F8
  obtain ⟨T5, h5, W5, R5, z5, X5, SF5, st5⟩ := W4.putF hx (hw _ (List.mem_of_getElem? (i := 29) rfl)) Via.refl F6 F7 (Or.inr ⟨(hw _ (List.mem_of_getElem? (i := 30) rfl)), rfl, hnm⟩) (hw _ (List.mem_of_getElem? (i := 15) rfl)) (ty := .byte) (by decide) rfl rfl S9 (by omega) (g := (mkF m 48 #[.val (.ref x0), .val (.ref s0), .val (.int (0 : Int32)), .val (.int (3 : Int32)), .val .null, .val (.ref b_3)] [(.int (1 : Int32)), (.ref x0)])) rfl rfl (hb hby dd_jdk_42_method_149_code_48)
  refine Go.st (g' := (mkF m 51 #[.val (.ref x0), .val (.ref s0), .val (.int (0 : Int32)), .val (.int (3 : Int32)), .val .null, .val (.ref b_3)] [])) st5 ?_
  refine Go.st (g' := (mkF m 52 #[.val (.ref x0), .val (.ref s0), .val (.int (0 : Int32)), .val (.int (3 : Int32)), .val .null, .val (.ref b_3)] [(.ref x0)])) (fun _ k => XS.aloadN W5.here hx rfl (hb hby dd_jdk_42_method_149_code_51) rfl rfl  k) ?_
  refine Go.st (g' := (mkF m 54 #[.val (.ref x0), .val (.ref s0), .val (.int (0 : Int32)), .val (.int (3 : Int32)), .val .null, .val (.ref b_3)] [(.ref b_3), (.ref x0)])) (fun _ k => XS.aload W5.here hx rfl (hb hby dd_jdk_42_method_149_code_52) rfl rfl  k) ?_
  have F11 : Fld Z h5 x0 "java/lang/String" "value" "[B" .null := (F8.other R5 (Or.inr (slot_ne (Or.inr (hw _ (List.mem_of_getElem? (i := 28) rfl))) (Or.inr (hw _ (List.mem_of_getElem? (i := 30) rfl))) (by decide) (t := (.array .byte)) (t' := .byte) (by decide) (by decide))))
  have F12 : Exa Z h5 x0 "java/lang/String" := (F7.wr R5)
  have F13 : Safe Z consts_1 vm4 h5 x0 := (SF5 _ (by omega) S9)
  obtain ⟨T10, h10, W10, R10, z10, X10, SF10, st10⟩ := W5.putF hx (hw _ (List.mem_of_getElem? (i := 27) rfl)) Via.refl F11 F12 (Or.inr ⟨(hw _ (List.mem_of_getElem? (i := 28) rfl)), rfl, hnm⟩) (hw _ (List.mem_of_getElem? (i := 15) rfl)) (ty := (.array .byte)) (by decide) rfl rfl F13 (by omega) (g := (mkF m 54 #[.val (.ref x0), .val (.ref s0), .val (.int (0 : Int32)), .val (.int (3 : Int32)), .val .null, .val (.ref b_3)] [(.ref b_3), (.ref x0)])) rfl rfl (hb hby dd_jdk_42_method_149_code_54)
  refine Go.st (g' := (mkF m 57 #[.val (.ref x0), .val (.ref s0), .val (.int (0 : Int32)), .val (.int (3 : Int32)), .val .null, .val (.ref b_3)] [])) st10 ?_
  have F14 : Fld Z h10 x0 "java/lang/String" "coder" "B" (.int (1 : Int32)) := (X5.other R10 (Or.inr (slot_ne (Or.inr (hw _ (List.mem_of_getElem? (i := 30) rfl))) (Or.inr (hw _ (List.mem_of_getElem? (i := 28) rfl))) (by decide) (t := .byte) (t' := (.array .byte)) (by decide) (by decide))))
  have F15 : Arv Z h10 b_3 kb_3 .byte (6 : Int32) [(.int ((c1 >>> ((0 : Int32) &&& 31)).toInt8.toInt32)), (.int ((c1 >>> ((8 : Int32) &&& 31)).toInt8.toInt32)), (.int ((c2 >>> ((0 : Int32) &&& 31)).toInt8.toInt32)), (.int ((c2 >>> ((8 : Int32) &&& 31)).toInt8.toInt32)), (.int ((c3 >>> ((0 : Int32) &&& 31)).toInt8.toInt32)), (.int ((c3 >>> ((8 : Int32) &&& 31)).toInt8.toInt32))] (.int (0 : Int32)) := ((f3_0.other R5 (own_ne (by omega))).other R10 (own_ne (by omega)))
  exact W10.retV hx hEL hlk hret (hb hby dd_jdk_42_method_149_code_57) (by decide) (by decide) ⟨b_3, kb_3, rfl, X10, F14, F15, ((((Keep.refl h0 [x0]).trans K3 all0).wr R5 (Or.inl (List.mem_of_getElem? (i := 0) rfl))).wr R10 (Or.inl (List.mem_of_getElem? (i := 0) rfl)))⟩
set_option maxRecDepth 65536 in
set_option maxHeartbeats 4000000 in
theorem own_cmp5_3_2 (l : Launch) {Z : State} {a0 : Array Value} (hE : Ctx Z a0) {n0 : Nat} {h0 : Heap} (O : Old Z n0 h0) {s0 : Addr} {ks : ClassId} {dd : Value} {b0 : Addr} {kb : ClassId} {c1 : Int32} {c2 : Int32} {c3 : Int32} (hb0 : n0 ≤ b0) (hsb : ¬ @Eq Nat s0 b0) (hw1 : ¬ (255 : Int32) < c1) (hw2 : ¬ (255 : Int32) < c2) (hw3 : (255 : Int32) < c3) (P0 : Arv Z h0 s0 ks .char (3 : Int32) [(.int c1), (.int c2), (.int c3)] dd) (P1 : Arv Z h0 b0 kb .byte (3 : Int32) [(.int (0 : Int32)), (.int (0 : Int32)), (.int (0 : Int32))] (.int (0 : Int32))) :
    Met l (⟨"java/lang/StringUTF16", "compress", "([CI[BII)I"⟩ : MethodName) jdk_52_method_21_code 7 (Option.some Jvm.ClassFile.FieldType.int) ({ frames := 0, cells := 0, slots := 0, locals := 0 } : Room) Z consts_1 n0 [] #[(.ref s0), (.int (0 : Int32)), (.ref b0), (.int (0 : Int32)), (.int (3 : Int32))] h0 (fun v h => v = some (.int (2 : Int32)) ∧ Keep h0 h [b0]) := by
  have hw := hE.1
  have hEL := own_EW hw
  have own_wS := own_stringAtoms hw
  have hE1 := own_E1 hw
  refine Met.of (by first | (refine plainFor_of_name ?_; simp [plainName, overriddenIn]; done) | decide +kernel) O ?_
  intro p e s m below meth c T0 hx hby hml hret hlk hnm hh0 W0
  have z0 := W0.ge
  have yP0 : h0.size > s0 := P0.lt
  have yP1 : h0.size > b0 := P1.lt
  refine Go.st (g' := (mkF m 0 #[.val (.ref s0), .val (.int (0 : Int32)), .val (.ref b0), .val (.int (0 : Int32)), .val (.int (3 : Int32)), .unset, .unset] [])) (fun _ k => castTop (by first | (simp [entryFrame, mkF, argsToLocals, maxLocals, own_catI, own_catJ, own_catD, own_catA, own_catN]; done) | rfl) k) ?_
  refine Go.st (g' := (mkF m 1 #[.val (.ref s0), .val (.int (0 : Int32)), .val (.ref b0), .val (.int (0 : Int32)), .val (.int (3 : Int32)), .unset, .unset] [(.int (0 : Int32))])) (fun _ k => XS.iconst W0.here hx rfl (hb hby dd_jdk_52_method_21_code_0) k) ?_
  refine Go.st (g' := (mkF m 3 #[.val (.ref s0), .val (.int (0 : Int32)), .val (.ref b0), .val (.int (0 : Int32)), .val (.int (3 : Int32)), .val (.int (0 : Int32)), .unset] [])) (fun _ k => XS.istore W0.here hx rfl (hb hby dd_jdk_52_method_21_code_1) rfl (l' := #[.val (.ref s0), .val (.int (0 : Int32)), .val (.ref b0), .val (.int (0 : Int32)), .val (.int (3 : Int32)), .val (.int (0 : Int32)), .unset]) rfl k) ?_
  refine Go.st (g' := (mkF m 5 #[.val (.ref s0), .val (.int (0 : Int32)), .val (.ref b0), .val (.int (0 : Int32)), .val (.int (3 : Int32)), .val (.int (0 : Int32)), .unset] [(.int (0 : Int32))])) (fun _ k => XS.iload W0.here hx rfl (hb hby dd_jdk_52_method_21_code_3) rfl  k) ?_
  refine Go.st (g' := (mkF m 7 #[.val (.ref s0), .val (.int (0 : Int32)), .val (.ref b0), .val (.int (0 : Int32)), .val (.int (3 : Int32)), .val (.int (0 : Int32)), .unset] [(.int (3 : Int32)), (.int (0 : Int32))])) (fun _ k => XS.iload W0.here hx rfl (hb hby dd_jdk_52_method_21_code_5) rfl  k) ?_
  refine Go.st (g' := (mkF m 10 #[.val (.ref s0), .val (.int (0 : Int32)), .val (.ref b0), .val (.int (0 : Int32)), .val (.int (3 : Int32)), .val (.int (0 : Int32)), .unset] [])) (fun _ k => XS.icmpNo W0.here hx rfl (hb hby dd_jdk_52_method_21_code_7) rfl (tlt (by decide)).2.1 k) ?_
  refine Go.st (g' := (mkF m 11 #[.val (.ref s0), .val (.int (0 : Int32)), .val (.ref b0), .val (.int (0 : Int32)), .val (.int (3 : Int32)), .val (.int (0 : Int32)), .unset] [(.ref s0)])) (fun _ k => XS.aloadN W0.here hx rfl (hb hby dd_jdk_52_method_21_code_10) rfl rfl  k) ?_
  refine Go.st (g' := (mkF m 12 #[.val (.ref s0), .val (.int (0 : Int32)), .val (.ref b0), .val (.int (0 : Int32)), .val (.int (3 : Int32)), .val (.int (0 : Int32)), .unset] [(.int (0 : Int32)), (.ref s0)])) (fun _ k => XS.iloadN W0.here hx rfl (hb hby dd_jdk_52_method_21_code_11) rfl  k) ?_
  refine Go.st (g' := (mkF m 13 #[.val (.ref s0), .val (.int (0 : Int32)), .val (.ref b0), .val (.int (0 : Int32)), .val (.int (3 : Int32)), .val (.int (0 : Int32)), .unset] [(.int c1)])) (W0.ldC hx P0 (j := (0 : Int32)) ⟨by decide, by decide⟩ (v := .int c1) rfl (g := (mkF m 12 #[.val (.ref s0), .val (.int (0 : Int32)), .val (.ref b0), .val (.int (0 : Int32)), .val (.int (3 : Int32)), .val (.int (0 : Int32)), .unset] [(.int (0 : Int32)), (.ref s0)])) rfl rfl (hb hby dd_jdk_52_method_21_code_12)) ?_
  refine Go.st (g' := (mkF m 15 #[.val (.ref s0), .val (.int (0 : Int32)), .val (.ref b0), .val (.int (0 : Int32)), .val (.int (3 : Int32)), .val (.int (0 : Int32)), .val (.int c1)] [])) (fun _ k => XS.istore W0.here hx rfl (hb hby dd_jdk_52_method_21_code_13) rfl (l' := #[.val (.ref s0), .val (.int (0 : Int32)), .val (.ref b0), .val (.int (0 : Int32)), .val (.int (3 : Int32)), .val (.int (0 : Int32)), .val (.int c1)]) rfl k) ?_
  refine Go.st (g' := (mkF m 17 #[.val (.ref s0), .val (.int (0 : Int32)), .val (.ref b0), .val (.int (0 : Int32)), .val (.int (3 : Int32)), .val (.int (0 : Int32)), .val (.int c1)] [(.int c1)])) (fun _ k => XS.iload W0.here hx rfl (hb hby dd_jdk_52_method_21_code_15) rfl  k) ?_
  refine Go.st (g' := (mkF m 20 #[.val (.ref s0), .val (.int (0 : Int32)), .val (.ref b0), .val (.int (0 : Int32)), .val (.int (3 : Int32)), .val (.int (0 : Int32)), .val (.int c1)] [(.int (255 : Int32)), (.int c1)])) (fun _ k => XS.sipush W0.here hx rfl (hb hby dd_jdk_52_method_21_code_17) k) ?_
  refine Go.st (g' := (mkF m 26 #[.val (.ref s0), .val (.int (0 : Int32)), .val (.ref b0), .val (.int (0 : Int32)), .val (.int (3 : Int32)), .val (.int (0 : Int32)), .val (.int c1)] [])) (fun _ k => XS.icmpYes W0.here hx rfl (pc0 := 20) (pc' := 26) rfl (hb hby dd_jdk_52_method_21_code_20) rfl (flt hw1).2.2.2 (by decide) (by decide) k) ?_
  refine Go.st (g' := (mkF m 27 #[.val (.ref s0), .val (.int (0 : Int32)), .val (.ref b0), .val (.int (0 : Int32)), .val (.int (3 : Int32)), .val (.int (0 : Int32)), .val (.int c1)] [(.ref b0)])) (fun _ k => XS.aloadN W0.here hx rfl (hb hby dd_jdk_52_method_21_code_26) rfl rfl  k) ?_
  refine Go.st (g' := (mkF m 28 #[.val (.ref s0), .val (.int (0 : Int32)), .val (.ref b0), .val (.int (0 : Int32)), .val (.int (3 : Int32)), .val (.int (0 : Int32)), .val (.int c1)] [(.int (0 : Int32)), (.ref b0)])) (fun _ k => XS.iloadN W0.here hx rfl (hb hby dd_jdk_52_method_21_code_27) rfl  k) ?_
  refine Go.st (g' := (mkF m 30 #[.val (.ref s0), .val (.int (0 : Int32)), .val (.ref b0), .val (.int (0 : Int32)), .val (.int (3 : Int32)), .val (.int (0 : Int32)), .val (.int c1)] [(.int c1), (.int (0 : Int32)), (.ref b0)])) (fun _ k => XS.iload W0.here hx rfl (hb hby dd_jdk_52_method_21_code_28) rfl  k) ?_
  refine Go.st (g' := (mkF m 31 #[.val (.ref s0), .val (.int (0 : Int32)), .val (.ref b0), .val (.int (0 : Int32)), .val (.int (3 : Int32)), .val (.int (0 : Int32)), .val (.int c1)] [(.int (c1.toInt8.toInt32)), (.int (0 : Int32)), (.ref b0)])) (fun _ k => XS.i2b W0.here hx rfl (hb hby dd_jdk_52_method_21_code_30) rfl k) ?_
  obtain ⟨T1, h1, W1, R1, z1, X1, SF1, st1⟩ := W0.stB hx P1 (own_safeB W0.warm hE1 P1 (by decide)) ⟨by decide, by decide⟩ 0 rfl (Nat.le_of_ble_eq_true rfl) (by omega) (g := (mkF m 31 #[.val (.ref s0), .val (.int (0 : Int32)), .val (.ref b0), .val (.int (0 : Int32)), .val (.int (3 : Int32)), .val (.int (0 : Int32)), .val (.int c1)] [(.int (c1.toInt8.toInt32)), (.int (0 : Int32)), (.ref b0)])) rfl rfl (hb hby dd_jdk_52_method_21_code_31)
  have F2 : Arv Z h1 b0 kb .byte (3 : Int32) [(.int (c1.toInt8.toInt32)), (.int (0 : Int32)), (.int (0 : Int32))] (.int (0 : Int32)) := (by have q := X1; rw [show nar .byte (c1.toInt8.toInt32) = (c1.toInt8.toInt32) from own_narB _] at q; exact q)
  refine Go.st (g' := (mkF m 32 #[.val (.ref s0), .val (.int (0 : Int32)), .val (.ref b0), .val (.int (0 : Int32)), .val (.int (3 : Int32)), .val (.int (0 : Int32)), .val (.int c1)] [])) st1 ?_
  refine Go.st (g' := (mkF m 35 #[.val (.ref s0), .val (.int (1 : Int32)), .val (.ref b0), .val (.int (0 : Int32)), .val (.int (3 : Int32)), .val (.int (0 : Int32)), .val (.int c1)] [])) (fun _ k => XS.iinc W1.here hx rfl (hb hby dd_jdk_52_method_21_code_32) rfl (l' := #[.val (.ref s0), .val (.int (1 : Int32)), .val (.ref b0), .val (.int (0 : Int32)), .val (.int (3 : Int32)), .val (.int (0 : Int32)), .val (.int c1)]) rfl k) ?_
  refine Go.st (g' := (mkF m 38 #[.val (.ref s0), .val (.int (1 : Int32)), .val (.ref b0), .val (.int (1 : Int32)), .val (.int (3 : Int32)), .val (.int (0 : Int32)), .val (.int c1)] [])) (fun _ k => XS.iinc W1.here hx rfl (hb hby dd_jdk_52_method_21_code_35) rfl (l' := #[.val (.ref s0), .val (.int (1 : Int32)), .val (.ref b0), .val (.int (1 : Int32)), .val (.int (3 : Int32)), .val (.int (0 : Int32)), .val (.int c1)]) rfl k) ?_
  refine Go.st (g' := (mkF m 41 #[.val (.ref s0), .val (.int (1 : Int32)), .val (.ref b0), .val (.int (1 : Int32)), .val (.int (3 : Int32)), .val (.int (1 : Int32)), .val (.int c1)] [])) (fun _ k => XS.iinc W1.here hx rfl (hb hby dd_jdk_52_method_21_code_38) rfl (l' := #[.val (.ref s0), .val (.int (1 : Int32)), .val (.ref b0), .val (.int (1 : Int32)), .val (.int (3 : Int32)), .val (.int (1 : Int32)), .val (.int c1)]) rfl k) ?_
  refine Go.st (g' := (mkF m 3 #[.val (.ref s0), .val (.int (1 : Int32)), .val (.ref b0), .val (.int (1 : Int32)), .val (.int (3 : Int32)), .val (.int (1 : Int32)), .val (.int c1)] [])) (fun _ k => XS.goto W1.here hx rfl (pc0 := 41) (pc' := 3) rfl (hb hby dd_jdk_52_method_21_code_41) (by decide) (by decide) k) ?_
  refine Go.st (g' := (mkF m 5 #[.val (.ref s0), .val (.int (1 : Int32)), .val (.ref b0), .val (.int (1 : Int32)), .val (.int (3 : Int32)), .val (.int (1 : Int32)), .val (.int c1)] [(.int (1 : Int32))])) (fun _ k => XS.iload W1.here hx rfl (hb hby dd_jdk_52_method_21_code_3) rfl  k) ?_
  refine Go.st (g' := (mkF m 7 #[.val (.ref s0), .val (.int (1 : Int32)), .val (.ref b0), .val (.int (1 : Int32)), .val (.int (3 : Int32)), .val (.int (1 : Int32)), .val (.int c1)] [(.int (3 : Int32)), (.int (1 : Int32))])) (fun _ k => XS.iload W1.here hx rfl (hb hby dd_jdk_52_method_21_code_5) rfl  k) ?_
  refine Go.st (g' := (mkF m 10 #[.val (.ref s0), .val (.int (1 : Int32)), .val (.ref b0), .val (.int (1 : Int32)), .val (.int (3 : Int32)), .val (.int (1 : Int32)), .val (.int c1)] [])) (fun _ k => XS.icmpNo W1.here hx rfl (hb hby dd_jdk_52_method_21_code_7) rfl (tlt (by decide)).2.1 k) ?_
  refine Go.st (g' := (mkF m 11 #[.val (.ref s0), .val (.int (1 : Int32)), .val (.ref b0), .val (.int (1 : Int32)), .val (.int (3 : Int32)), .val (.int (1 : Int32)), .val (.int c1)] [(.ref s0)])) (fun _ k => XS.aloadN W1.here hx rfl (hb hby dd_jdk_52_method_21_code_10) rfl rfl  k) ?_
  refine Go.st (g' := (mkF m 12 #[.val (.ref s0), .val (.int (1 : Int32)), .val (.ref b0), .val (.int (1 : Int32)), .val (.int (3 : Int32)), .val (.int (1 : Int32)), .val (.int c1)] [(.int (1 : Int32)), (.ref s0)])) (fun _ k => XS.iloadN W1.here hx rfl (hb hby dd_jdk_52_method_21_code_11) rfl  k) ?_
  have F3 : Arv Z h1 s0 ks .char (3 : Int32) [(.int c1), (.int c2), (.int c3)] dd := (P0.other R1 (own_ne (by omega)))
  refine Go.st (g' := (mkF m 13 #[.val (.ref s0), .val (.int (1 : Int32)), .val (.ref b0), .val (.int (1 : Int32)), .val (.int (3 : Int32)), .val (.int (1 : Int32)), .val (.int c1)] [(.int c2)])) (W1.ldC hx F3 (j := (1 : Int32)) ⟨by decide, by decide⟩ (v := .int c2) rfl (g := (mkF m 12 #[.val (.ref s0), .val (.int (1 : Int32)), .val (.ref b0), .val (.int (1 : Int32)), .val (.int (3 : Int32)), .val (.int (1 : Int32)), .val (.int c1)] [(.int (1 : Int32)), (.ref s0)])) rfl rfl (hb hby dd_jdk_52_method_21_code_12)) ?_
  refine Go.st (g' := (mkF m 15 #[.val (.ref s0), .val (.int (1 : Int32)), .val (.ref b0), .val (.int (1 : Int32)), .val (.int (3 : Int32)), .val (.int (1 : Int32)), .val (.int c2)] [])) (fun _ k => XS.istore W1.here hx rfl (hb hby dd_jdk_52_method_21_code_13) rfl (l' := #[.val (.ref s0), .val (.int (1 : Int32)), .val (.ref b0), .val (.int (1 : Int32)), .val (.int (3 : Int32)), .val (.int (1 : Int32)), .val (.int c2)]) rfl k) ?_
  refine Go.st (g' := (mkF m 17 #[.val (.ref s0), .val (.int (1 : Int32)), .val (.ref b0), .val (.int (1 : Int32)), .val (.int (3 : Int32)), .val (.int (1 : Int32)), .val (.int c2)] [(.int c2)])) (fun _ k => XS.iload W1.here hx rfl (hb hby dd_jdk_52_method_21_code_15) rfl  k) ?_
  refine Go.st (g' := (mkF m 20 #[.val (.ref s0), .val (.int (1 : Int32)), .val (.ref b0), .val (.int (1 : Int32)), .val (.int (3 : Int32)), .val (.int (1 : Int32)), .val (.int c2)] [(.int (255 : Int32)), (.int c2)])) (fun _ k => XS.sipush W1.here hx rfl (hb hby dd_jdk_52_method_21_code_17) k) ?_
  refine Go.st (g' := (mkF m 26 #[.val (.ref s0), .val (.int (1 : Int32)), .val (.ref b0), .val (.int (1 : Int32)), .val (.int (3 : Int32)), .val (.int (1 : Int32)), .val (.int c2)] [])) (fun _ k => XS.icmpYes W1.here hx rfl (pc0 := 20) (pc' := 26) rfl (hb hby dd_jdk_52_method_21_code_20) rfl (flt hw2).2.2.2 (by decide) (by decide) k) ?_
  refine Go.st (g' := (mkF m 27 #[.val (.ref s0), .val (.int (1 : Int32)), .val (.ref b0), .val (.int (1 : Int32)), .val (.int (3 : Int32)), .val (.int (1 : Int32)), .val (.int c2)] [(.ref b0)])) (fun _ k => XS.aloadN W1.here hx rfl (hb hby dd_jdk_52_method_21_code_26) rfl rfl  k) ?_
  refine Go.st (g' := (mkF m 28 #[.val (.ref s0), .val (.int (1 : Int32)), .val (.ref b0), .val (.int (1 : Int32)), .val (.int (3 : Int32)), .val (.int (1 : Int32)), .val (.int c2)] [(.int (1 : Int32)), (.ref b0)])) (fun _ k => XS.iloadN W1.here hx rfl (hb hby dd_jdk_52_method_21_code_27) rfl  k) ?_
  refine Go.st (g' := (mkF m 30 #[.val (.ref s0), .val (.int (1 : Int32)), .val (.ref b0), .val (.int (1 : Int32)), .val (.int (3 : Int32)), .val (.int (1 : Int32)), .val (.int c2)] [(.int c2), (.int (1 : Int32)), (.ref b0)])) (fun _ k => XS.iload W1.here hx rfl (hb hby dd_jdk_52_method_21_code_28) rfl  k) ?_
  refine Go.st (g' := (mkF m 31 #[.val (.ref s0), .val (.int (1 : Int32)), .val (.ref b0), .val (.int (1 : Int32)), .val (.int (3 : Int32)), .val (.int (1 : Int32)), .val (.int c2)] [(.int (c2.toInt8.toInt32)), (.int (1 : Int32)), (.ref b0)])) (fun _ k => XS.i2b W1.here hx rfl (hb hby dd_jdk_52_method_21_code_30) rfl k) ?_
  obtain ⟨T4, h4, W4, R4, z4, X4, SF4, st4⟩ := W1.stB hx F2 (own_safeB W1.warm hE1 F2 (by decide)) ⟨by decide, by decide⟩ 1 rfl (Nat.le_of_ble_eq_true rfl) (by omega) (g := (mkF m 31 #[.val (.ref s0), .val (.int (1 : Int32)), .val (.ref b0), .val (.int (1 : Int32)), .val (.int (3 : Int32)), .val (.int (1 : Int32)), .val (.int c2)] [(.int (c2.toInt8.toInt32)), (.int (1 : Int32)), (.ref b0)])) rfl rfl (hb hby dd_jdk_52_method_21_code_31)
  have F5 : Arv Z h4 b0 kb .byte (3 : Int32) [(.int (c1.toInt8.toInt32)), (.int (c2.toInt8.toInt32)), (.int (0 : Int32))] (.int (0 : Int32)) := (by have q := X4; rw [show nar .byte (c2.toInt8.toInt32) = (c2.toInt8.toInt32) from own_narB _] at q; exact q)
  refine Go.st (g' := (mkF m 32 #[.val (.ref s0), .val (.int (1 : Int32)), .val (.ref b0), .val (.int (1 : Int32)), .val (.int (3 : Int32)), .val (.int (1 : Int32)), .val (.int c2)] [])) st4 ?_
  refine Go.st (g' := (mkF m 35 #[.val (.ref s0), .val (.int (2 : Int32)), .val (.ref b0), .val (.int (1 : Int32)), .val (.int (3 : Int32)), .val (.int (1 : Int32)), .val (.int c2)] [])) (fun _ k => XS.iinc W4.here hx rfl (hb hby dd_jdk_52_method_21_code_32) rfl (l' := #[.val (.ref s0), .val (.int (2 : Int32)), .val (.ref b0), .val (.int (1 : Int32)), .val (.int (3 : Int32)), .val (.int (1 : Int32)), .val (.int c2)]) rfl k) ?_
  refine Go.st (g' := (mkF m 38 #[.val (.ref s0), .val (.int (2 : Int32)), .val (.ref b0), .val (.int (2 : Int32)), .val (.int (3 : Int32)), .val (.int (1 : Int32)), .val (.int c2)] [])) (fun _ k => XS.iinc W4.here hx rfl (hb hby dd_jdk_52_method_21_code_35) rfl (l' := #[.val (.ref s0), .val (.int (2 : Int32)), .val (.ref b0), .val (.int (2 : Int32)), .val (.int (3 : Int32)), .val (.int (1 : Int32)), .val (.int c2)]) rfl k) ?_
  refine Go.st (g' := (mkF m 41 #[.val (.ref s0), .val (.int (2 : Int32)), .val (.ref b0), .val (.int (2 : Int32)), .val (.int (3 : Int32)), .val (.int (2 : Int32)), .val (.int c2)] [])) (fun _ k => XS.iinc W4.here hx rfl (hb hby dd_jdk_52_method_21_code_38) rfl (l' := #[.val (.ref s0), .val (.int (2 : Int32)), .val (.ref b0), .val (.int (2 : Int32)), .val (.int (3 : Int32)), .val (.int (2 : Int32)), .val (.int c2)]) rfl k) ?_
  refine Go.st (g' := (mkF m 3 #[.val (.ref s0), .val (.int (2 : Int32)), .val (.ref b0), .val (.int (2 : Int32)), .val (.int (3 : Int32)), .val (.int (2 : Int32)), .val (.int c2)] [])) (fun _ k => XS.goto W4.here hx rfl (pc0 := 41) (pc' := 3) rfl (hb hby dd_jdk_52_method_21_code_41) (by decide) (by decide) k) ?_
  refine Go.st (g' := (mkF m 5 #[.val (.ref s0), .val (.int (2 : Int32)), .val (.ref b0), .val (.int (2 : Int32)), .val (.int (3 : Int32)), .val (.int (2 : Int32)), .val (.int c2)] [(.int (2 : Int32))])) (fun _ k => XS.iload W4.here hx rfl (hb hby dd_jdk_52_method_21_code_3) rfl  k) ?_
  refine Go.st (g' := (mkF m 7 #[.val (.ref s0), .val (.int (2 : Int32)), .val (.ref b0), .val (.int (2 : Int32)), .val (.int (3 : Int32)), .val (.int (2 : Int32)), .val (.int c2)] [(.int (3 : Int32)), (.int (2 : Int32))])) (fun _ k => XS.iload W4.here hx rfl (hb hby dd_jdk_52_method_21_code_5) rfl  k) ?_
  refine Go.st (g' := (mkF m 10 #[.val (.ref s0), .val (.int (2 : Int32)), .val (.ref b0), .val (.int (2 : Int32)), .val (.int (3 : Int32)), .val (.int (2 : Int32)), .val (.int c2)] [])) (fun _ k => XS.icmpNo W4.here hx rfl (hb hby dd_jdk_52_method_21_code_7) rfl (tlt (by decide)).2.1 k) ?_
  refine Go.st (g' := (mkF m 11 #[.val (.ref s0), .val (.int (2 : Int32)), .val (.ref b0), .val (.int (2 : Int32)), .val (.int (3 : Int32)), .val (.int (2 : Int32)), .val (.int c2)] [(.ref s0)])) (fun _ k => XS.aloadN W4.here hx rfl (hb hby dd_jdk_52_method_21_code_10) rfl rfl  k) ?_
  refine Go.st (g' := (mkF m 12 #[.val (.ref s0), .val (.int (2 : Int32)), .val (.ref b0), .val (.int (2 : Int32)), .val (.int (3 : Int32)), .val (.int (2 : Int32)), .val (.int c2)] [(.int (2 : Int32)), (.ref s0)])) (fun _ k => XS.iloadN W4.here hx rfl (hb hby dd_jdk_52_method_21_code_11) rfl  k) ?_
  have F6 : Arv Z h4 s0 ks .char (3 : Int32) [(.int c1), (.int c2), (.int c3)] dd := (F3.other R4 (own_ne (by omega)))
  refine Go.st (g' := (mkF m 13 #[.val (.ref s0), .val (.int (2 : Int32)), .val (.ref b0), .val (.int (2 : Int32)), .val (.int (3 : Int32)), .val (.int (2 : Int32)), .val (.int c2)] [(.int c3)])) (W4.ldC hx F6 (j := (2 : Int32)) ⟨by decide, by decide⟩ (v := .int c3) rfl (g := (mkF m 12 #[.val (.ref s0), .val (.int (2 : Int32)), .val (.ref b0), .val (.int (2 : Int32)), .val (.int (3 : Int32)), .val (.int (2 : Int32)), .val (.int c2)] [(.int (2 : Int32)), (.ref s0)])) rfl rfl (hb hby dd_jdk_52_method_21_code_12)) ?_
  refine Go.st (g' := (mkF m 15 #[.val (.ref s0), .val (.int (2 : Int32)), .val (.ref b0), .val (.int (2 : Int32)), .val (.int (3 : Int32)), .val (.int (2 : Int32)), .val (.int c3)] [])) (fun _ k => XS.istore W4.here hx rfl (hb hby dd_jdk_52_method_21_code_13) rfl (l' := #[.val (.ref s0), .val (.int (2 : Int32)), .val (.ref b0), .val (.int (2 : Int32)), .val (.int (3 : Int32)), .val (.int (2 : Int32)), .val (.int c3)]) rfl k) ?_
  refine Go.st (g' := (mkF m 17 #[.val (.ref s0), .val (.int (2 : Int32)), .val (.ref b0), .val (.int (2 : Int32)), .val (.int (3 : Int32)), .val (.int (2 : Int32)), .val (.int c3)] [(.int c3)])) (fun _ k => XS.iload W4.here hx rfl (hb hby dd_jdk_52_method_21_code_15) rfl  k) ?_
  refine Go.st (g' := (mkF m 20 #[.val (.ref s0), .val (.int (2 : Int32)), .val (.ref b0), .val (.int (2 : Int32)), .val (.int (3 : Int32)), .val (.int (2 : Int32)), .val (.int c3)] [(.int (255 : Int32)), (.int c3)])) (fun _ k => XS.sipush W4.here hx rfl (hb hby dd_jdk_52_method_21_code_17) k) ?_
  refine Go.st (g' := (mkF m 23 #[.val (.ref s0), .val (.int (2 : Int32)), .val (.ref b0), .val (.int (2 : Int32)), .val (.int (3 : Int32)), .val (.int (2 : Int32)), .val (.int c3)] [])) (fun _ k => XS.icmpNo W4.here hx rfl (hb hby dd_jdk_52_method_21_code_20) rfl (tlt hw3).2.2.2 k) ?_
  refine Go.st (g' := (mkF m 25 #[.val (.ref s0), .val (.int (2 : Int32)), .val (.ref b0), .val (.int (2 : Int32)), .val (.int (3 : Int32)), .val (.int (2 : Int32)), .val (.int c3)] [(.int (2 : Int32))])) (fun _ k => XS.iload W4.here hx rfl (hb hby dd_jdk_52_method_21_code_23) rfl  k) ?_
  exact W4.retI hx hEL hlk hret (hb hby dd_jdk_52_method_21_code_25) (by decide) (by decide) ⟨rfl, (((Keep.refl h0 [b0]).wr R1 (Or.inl (List.mem_of_getElem? (i := 0) rfl))).wr R4 (Or.inl (List.mem_of_getElem? (i := 0) rfl)))⟩
set_option maxRecDepth 65536 in
set_option maxHeartbeats 4000000 in
theorem own_get2 (l : Launch) {Z : State} {a0 : Array Value} (hE : Ctx Z a0) {n0 : Nat} {h0 : Heap} (O : Old Z n0 h0) {b0 : Addr} {kb : ClassId} {zz : Int32} {vs0 : List Value} {dd : Value} {c0 : Int32} (hc0 : Chr c0) (hza : (4 : Int32) < zz) (hzb : (5 : Int32) < zz) (hva : vs0.getD 4 dd = .int ((c0 >>> ((0 : Int32) &&& 31)).toInt8.toInt32)) (hvb : vs0.getD 5 dd = .int ((c0 >>> ((8 : Int32) &&& 31)).toInt8.toInt32)) (P0 : Arv Z h0 b0 kb .byte zz vs0 dd) :
    Met l (⟨"java/lang/StringUTF16", "getChar", "([BI)C"⟩ : MethodName) jdk_52_method_5_code 2 (Option.some Jvm.ClassFile.FieldType.char) ({ frames := 0, cells := 0, slots := 0, locals := 0 } : Room) Z consts_1 n0 [] #[(.ref b0), (.int (2 : Int32))] h0 (fun v h => v = some (.int c0) ∧ h0 = h) := by
  have hw := hE.1
  have hEL := own_EW hw
  have own_wS := own_stringAtoms hw
  have hE1 := own_E1 hw
  refine Met.of (by first | (refine plainFor_of_name ?_; simp [plainName, overriddenIn]; done) | decide +kernel) O ?_
  intro p e s m below meth c T0 hx hby hml hret hlk hnm hh0 W0
  have z0 := W0.ge
  have yP0 : h0.size > b0 := P0.lt
  refine Go.st (g' := (mkF m 0 #[.val (.ref b0), .val (.int (2 : Int32))] [])) (fun _ k => castTop (by first | (simp [entryFrame, mkF, argsToLocals, maxLocals, own_catI, own_catJ, own_catD, own_catA, own_catN]; done) | rfl) k) ?_
  obtain ⟨T1, W1, st1⟩ := W0.getS hx (hw _ (List.mem_of_getElem? (i := 95) rfl)) Via.refl (W0.sta hE.2.2.2.1) (g := (mkF m 0 #[.val (.ref b0), .val (.int (2 : Int32))] [])) rfl (hb hby dd_jdk_52_method_5_code_0)
  refine Go.st (g' := (mkF m 3 #[.val (.ref b0), .val (.int (2 : Int32))] [(.int (1 : Int32))])) st1 ?_
  refine Go.st (g' := (mkF m 28 #[.val (.ref b0), .val (.int (2 : Int32))] [])) (fun _ k => XS.ifYes W1.here hx rfl (pc0 := 3) (pc' := 28) rfl (hb hby dd_jdk_52_method_5_code_3) rfl ((if0 _ _).trans (feq (by decide)).2) (by decide) (by decide) k) ?_
  refine Go.st (g' := (mkF m 29 #[.val (.ref b0), .val (.int (2 : Int32))] [(.int (2 : Int32))])) (fun _ k => XS.iloadN W1.here hx rfl (hb hby dd_jdk_52_method_5_code_28) rfl  k) ?_
  refine Go.st (g' := (mkF m 30 #[.val (.ref b0), .val (.int (2 : Int32))] [(.int (1 : Int32)), (.int (2 : Int32))])) (fun _ k => XS.iconst W1.here hx rfl (hb hby dd_jdk_52_method_5_code_29) k) ?_
  refine Go.st (g' := (mkF m 31 #[.val (.ref b0), .val (.int (2 : Int32))] [(.int (4 : Int32))])) (fun _ k => XS.ishl W1.here hx rfl (hb hby dd_jdk_52_method_5_code_30) rfl k) ?_
  refine Go.st (g' := (mkF m 32 #[.val (.ref b0), .val (.int (4 : Int32))] [])) (fun _ k => XS.istoreN W1.here hx rfl (hb hby dd_jdk_52_method_5_code_31) rfl (l' := #[.val (.ref b0), .val (.int (4 : Int32))]) rfl k) ?_
  refine Go.st (g' := (mkF m 33 #[.val (.ref b0), .val (.int (4 : Int32))] [(.ref b0)])) (fun _ k => XS.aloadN W1.here hx rfl (hb hby dd_jdk_52_method_5_code_32) rfl rfl  k) ?_
  refine Go.st (g' := (mkF m 34 #[.val (.ref b0), .val (.int (4 : Int32))] [(.int (4 : Int32)), (.ref b0)])) (fun _ k => XS.iloadN W1.here hx rfl (hb hby dd_jdk_52_method_5_code_33) rfl  k) ?_
  refine Go.st (g' := (mkF m 37 #[.val (.ref b0), .val (.int (5 : Int32))] [(.int (4 : Int32)), (.ref b0)])) (fun _ k => XS.iinc W1.here hx rfl (hb hby dd_jdk_52_method_5_code_34) rfl (l' := #[.val (.ref b0), .val (.int (5 : Int32))]) rfl k) ?_
  refine Go.st (g' := (mkF m 38 #[.val (.ref b0), .val (.int (5 : Int32))] [(.int ((c0 >>> ((0 : Int32) &&& 31)).toInt8.toInt32))])) (W1.ldB hx P0 (j := (4 : Int32)) ⟨by decide, hza⟩ (v := .int ((c0 >>> ((0 : Int32) &&& 31)).toInt8.toInt32)) hva (g := (mkF m 37 #[.val (.ref b0), .val (.int (5 : Int32))] [(.int (4 : Int32)), (.ref b0)])) rfl rfl (hb hby dd_jdk_52_method_5_code_37)) ?_
  refine Go.st (g' := (mkF m 41 #[.val (.ref b0), .val (.int (5 : Int32))] [(.int (255 : Int32)), (.int ((c0 >>> ((0 : Int32) &&& 31)).toInt8.toInt32))])) (fun _ k => XS.sipush W1.here hx rfl (hb hby dd_jdk_52_method_5_code_38) k) ?_
  refine Go.st (g' := (mkF m 42 #[.val (.ref b0), .val (.int (5 : Int32))] [(.int (((c0 >>> ((0 : Int32) &&& 31)).toInt8.toInt32) &&& (255 : Int32)))])) (fun _ k => XS.iand W1.here hx rfl (hb hby dd_jdk_52_method_5_code_41) rfl k) ?_
  obtain ⟨T2, W2, st2⟩ := W1.getS hx (hw _ (List.mem_of_getElem? (i := 96) rfl)) Via.refl (W1.sta hE.2.2.2.2.1) (g := (mkF m 42 #[.val (.ref b0), .val (.int (5 : Int32))] [(.int (((c0 >>> ((0 : Int32) &&& 31)).toInt8.toInt32) &&& (255 : Int32)))])) rfl (hb hby dd_jdk_52_method_5_code_42)
  refine Go.st (g' := (mkF m 45 #[.val (.ref b0), .val (.int (5 : Int32))] [(.int (0 : Int32)), (.int (((c0 >>> ((0 : Int32) &&& 31)).toInt8.toInt32) &&& (255 : Int32)))])) st2 ?_
  refine Go.st (g' := (mkF m 46 #[.val (.ref b0), .val (.int (5 : Int32))] [(.int ((((c0 >>> ((0 : Int32) &&& 31)).toInt8.toInt32) &&& (255 : Int32)) <<< ((0 : Int32) &&& 31)))])) (fun _ k => XS.ishl W2.here hx rfl (hb hby dd_jdk_52_method_5_code_45) rfl k) ?_
  refine Go.st (g' := (mkF m 47 #[.val (.ref b0), .val (.int (5 : Int32))] [(.ref b0), (.int ((((c0 >>> ((0 : Int32) &&& 31)).toInt8.toInt32) &&& (255 : Int32)) <<< ((0 : Int32) &&& 31)))])) (fun _ k => XS.aloadN W2.here hx rfl (hb hby dd_jdk_52_method_5_code_46) rfl rfl  k) ?_
  refine Go.st (g' := (mkF m 48 #[.val (.ref b0), .val (.int (5 : Int32))] [(.int (5 : Int32)), (.ref b0), (.int ((((c0 >>> ((0 : Int32) &&& 31)).toInt8.toInt32) &&& (255 : Int32)) <<< ((0 : Int32) &&& 31)))])) (fun _ k => XS.iloadN W2.here hx rfl (hb hby dd_jdk_52_method_5_code_47) rfl  k) ?_
  refine Go.st (g' := (mkF m 49 #[.val (.ref b0), .val (.int (5 : Int32))] [(.int ((c0 >>> ((8 : Int32) &&& 31)).toInt8.toInt32)), (.int ((((c0 >>> ((0 : Int32) &&& 31)).toInt8.toInt32) &&& (255 : Int32)) <<< ((0 : Int32) &&& 31)))])) (W2.ldB hx P0 (j := (5 : Int32)) ⟨by decide, hzb⟩ (v := .int ((c0 >>> ((8 : Int32) &&& 31)).toInt8.toInt32)) hvb (g := (mkF m 48 #[.val (.ref b0), .val (.int (5 : Int32))] [(.int (5 : Int32)), (.ref b0), (.int ((((c0 >>> ((0 : Int32) &&& 31)).toInt8.toInt32) &&& (255 : Int32)) <<< ((0 : Int32) &&& 31)))])) rfl rfl (hb hby dd_jdk_52_method_5_code_48)) ?_
  refine Go.st (g' := (mkF m 52 #[.val (.ref b0), .val (.int (5 : Int32))] [(.int (255 : Int32)), (.int ((c0 >>> ((8 : Int32) &&& 31)).toInt8.toInt32)), (.int ((((c0 >>> ((0 : Int32) &&& 31)).toInt8.toInt32) &&& (255 : Int32)) <<< ((0 : Int32) &&& 31)))])) (fun _ k => XS.sipush W2.here hx rfl (hb hby dd_jdk_52_method_5_code_49) k) ?_
  refine Go.st (g' := (mkF m 53 #[.val (.ref b0), .val (.int (5 : Int32))] [(.int (((c0 >>> ((8 : Int32) &&& 31)).toInt8.toInt32) &&& (255 : Int32))), (.int ((((c0 >>> ((0 : Int32) &&& 31)).toInt8.toInt32) &&& (255 : Int32)) <<< ((0 : Int32) &&& 31)))])) (fun _ k => XS.iand W2.here hx rfl (hb hby dd_jdk_52_method_5_code_52) rfl k) ?_
  obtain ⟨T3, W3, st3⟩ := W2.getS hx (hw _ (List.mem_of_getElem? (i := 97) rfl)) Via.refl (W2.sta hE.2.2.2.2.2) (g := (mkF m 53 #[.val (.ref b0), .val (.int (5 : Int32))] [(.int (((c0 >>> ((8 : Int32) &&& 31)).toInt8.toInt32) &&& (255 : Int32))), (.int ((((c0 >>> ((0 : Int32) &&& 31)).toInt8.toInt32) &&& (255 : Int32)) <<< ((0 : Int32) &&& 31)))])) rfl (hb hby dd_jdk_52_method_5_code_53)
  refine Go.st (g' := (mkF m 56 #[.val (.ref b0), .val (.int (5 : Int32))] [(.int (8 : Int32)), (.int (((c0 >>> ((8 : Int32) &&& 31)).toInt8.toInt32) &&& (255 : Int32))), (.int ((((c0 >>> ((0 : Int32) &&& 31)).toInt8.toInt32) &&& (255 : Int32)) <<< ((0 : Int32) &&& 31)))])) st3 ?_
  refine Go.st (g' := (mkF m 57 #[.val (.ref b0), .val (.int (5 : Int32))] [(.int ((((c0 >>> ((8 : Int32) &&& 31)).toInt8.toInt32) &&& (255 : Int32)) <<< ((8 : Int32) &&& 31))), (.int ((((c0 >>> ((0 : Int32) &&& 31)).toInt8.toInt32) &&& (255 : Int32)) <<< ((0 : Int32) &&& 31)))])) (fun _ k => XS.ishl W3.here hx rfl (hb hby dd_jdk_52_method_5_code_56) rfl k) ?_
  refine Go.st (g' := (mkF m 58 #[.val (.ref b0), .val (.int (5 : Int32))] [(.int (((((c0 >>> ((0 : Int32) &&& 31)).toInt8.toInt32) &&& (255 : Int32)) <<< ((0 : Int32) &&& 31)) ||| ((((c0 >>> ((8 : Int32) &&& 31)).toInt8.toInt32) &&& (255 : Int32)) <<< ((8 : Int32) &&& 31))))])) (fun _ k => XS.ior W3.here hx rfl (hb hby dd_jdk_52_method_5_code_57) rfl k) ?_
  refine Go.st (g' := (mkF m 59 #[.val (.ref b0), .val (.int (5 : Int32))] [(.int ((((((c0 >>> ((0 : Int32) &&& 31)).toInt8.toInt32) &&& (255 : Int32)) <<< ((0 : Int32) &&& 31)) ||| ((((c0 >>> ((8 : Int32) &&& 31)).toInt8.toInt32) &&& (255 : Int32)) <<< ((8 : Int32) &&& 31))).toUInt32.toUInt16.toUInt32.toInt32))])) (fun _ k => XS.i2c W3.here hx rfl (hb hby dd_jdk_52_method_5_code_58) rfl k) ?_
  rw [own_join hc0]
  exact W3.retN hx hEL hlk (t := .char) hret (by decide) (hb hby dd_jdk_52_method_5_code_59) (by decide) (by decide) ⟨(congrArg (fun x => some (Value.int x)) (own_narC hc0)), rfl⟩
set_option maxRecDepth 65536 in
set_option maxHeartbeats 4000000 in
theorem own_cmp3_3_2 (l : Launch) {Z : State} {a0 : Array Value} (hE : Ctx Z a0) {n0 : Nat} {h0 : Heap} (O : Old Z n0 h0) {s0 : Addr} {ks : ClassId} {dd : Value} {c1 : Int32} {c2 : Int32} {c3 : Int32} (hc1 : Chr c1) (hc2 : Chr c2) (hc3 : Chr c3) (hw1 : ¬ (255 : Int32) < c1) (hw2 : ¬ (255 : Int32) < c2) (hw3 : (255 : Int32) < c3) (P0 : Arv Z h0 s0 ks .char (3 : Int32) [(.int c1), (.int c2), (.int c3)] dd) :
    Met l (⟨"java/lang/StringUTF16", "compress", "([CII)[B"⟩ : MethodName) jdk_52_method_16_code 6 (Option.some (Jvm.ClassFile.FieldType.array Jvm.ClassFile.FieldType.byte)) ({ frames := 3, cells := 2, slots := 9, locals := 40 } : Room) Z consts_1 n0 [] #[(.ref s0), (.int (0 : Int32)), (.int (3 : Int32))] h0 (fun v h => ∃ (b : Addr), ∃ (kb : ClassId), v = some (.ref b) ∧ h0.size ≤ b ∧ Arv Z h b kb .byte (6 : Int32) [(.int ((c1 >>> ((0 : Int32) &&& 31)).toInt8.toInt32)), (.int ((c1 >>> ((8 : Int32) &&& 31)).toInt8.toInt32)), (.int ((c2 >>> ((0 : Int32) &&& 31)).toInt8.toInt32)), (.int ((c2 >>> ((8 : Int32) &&& 31)).toInt8.toInt32)), (.int ((c3 >>> ((0 : Int32) &&& 31)).toInt8.toInt32)), (.int ((c3 >>> ((8 : Int32) &&& 31)).toInt8.toInt32))] (.int (0 : Int32)) ∧ Keep h0 h []) := by
  have hw := hE.1
  have hEL := own_EW hw
  have own_wS := own_stringAtoms hw
  have hE1 := own_E1 hw
  refine Met.of (by first | (refine plainFor_of_name ?_; simp [plainName, overriddenIn]; done) | decide +kernel) O ?_
  intro p e s m below meth c T0 hx hby hml hret hlk hnm hh0 W0
  have z0 := W0.ge
  have yP0 : h0.size > s0 := P0.lt
  refine Go.st (g' := (mkF m 0 #[.val (.ref s0), .val (.int (0 : Int32)), .val (.int (3 : Int32)), .unset, .unset, .unset] [])) (fun _ k => castTop (by first | (simp [entryFrame, mkF, argsToLocals, maxLocals, own_catI, own_catJ, own_catD, own_catA, own_catN]; done) | rfl) k) ?_
  refine Go.st (g' := (mkF m 1 #[.val (.ref s0), .val (.int (0 : Int32)), .val (.int (3 : Int32)), .unset, .unset, .unset] [(.int (3 : Int32))])) (fun _ k => XS.iloadN W0.here hx rfl (hb hby dd_jdk_52_method_16_code_0) rfl  k) ?_
  obtain ⟨T1, h1, a1, k1, g1, W1, E1, z1, X1, S1, SF1, st1⟩ := W0.newP hx (ty := .byte) rfl (hw _ (List.mem_of_getElem? (i := 19) rfl)) (g := (mkF m 1 #[.val (.ref s0), .val (.int (0 : Int32)), .val (.int (3 : Int32)), .unset, .unset, .unset] [(.int (3 : Int32))])) rfl (hb hby dd_jdk_52_method_16_code_1) rfl (by decide) (cap := 3) (by decide) (by decide) (by decide) (by decide) 3
  have F2 : Arv Z h1 a1 k1 .byte (3 : Int32) [(.int (0 : Int32)), (.int (0 : Int32)), (.int (0 : Int32))] (.int (0 : Int32)) := X1
  refine Go.st (g' := (mkF m 3 #[.val (.ref s0), .val (.int (0 : Int32)), .val (.int (3 : Int32)), .unset, .unset, .unset] [(.ref a1)])) st1 ?_
  refine Go.st (g' := (mkF m 4 #[.val (.ref s0), .val (.int (0 : Int32)), .val (.int (3 : Int32)), .val (.ref a1), .unset, .unset] [])) (fun _ k => XS.astoreN W1.here hx rfl (hb hby dd_jdk_52_method_16_code_3) rfl rfl (l' := #[.val (.ref s0), .val (.int (0 : Int32)), .val (.int (3 : Int32)), .val (.ref a1), .unset, .unset]) rfl k) ?_
  refine Go.st (g' := (mkF m 5 #[.val (.ref s0), .val (.int (0 : Int32)), .val (.int (3 : Int32)), .val (.ref a1), .unset, .unset] [(.ref s0)])) (fun _ k => XS.aloadN W1.here hx rfl (hb hby dd_jdk_52_method_16_code_4) rfl rfl  k) ?_
  refine Go.st (g' := (mkF m 6 #[.val (.ref s0), .val (.int (0 : Int32)), .val (.int (3 : Int32)), .val (.ref a1), .unset, .unset] [(.int (0 : Int32)), (.ref s0)])) (fun _ k => XS.iloadN W1.here hx rfl (hb hby dd_jdk_52_method_16_code_5) rfl  k) ?_
  refine Go.st (g' := (mkF m 7 #[.val (.ref s0), .val (.int (0 : Int32)), .val (.int (3 : Int32)), .val (.ref a1), .unset, .unset] [(.ref a1), (.int (0 : Int32)), (.ref s0)])) (fun _ k => XS.aloadN W1.here hx rfl (hb hby dd_jdk_52_method_16_code_6) rfl rfl  k) ?_
  refine Go.st (g' := (mkF m 8 #[.val (.ref s0), .val (.int (0 : Int32)), .val (.int (3 : Int32)), .val (.ref a1), .unset, .unset] [(.int (0 : Int32)), (.ref a1), (.int (0 : Int32)), (.ref s0)])) (fun _ k => XS.iconst W1.here hx rfl (hb hby dd_jdk_52_method_16_code_7) k) ?_
  refine Go.st (g' := (mkF m 9 #[.val (.ref s0), .val (.int (0 : Int32)), .val (.int (3 : Int32)), .val (.ref a1), .unset, .unset] [(.int (3 : Int32)), (.int (0 : Int32)), (.ref a1), (.int (0 : Int32)), (.ref s0)])) (fun _ k => XS.iloadN W1.here hx rfl (hb hby dd_jdk_52_method_16_code_8) rfl  k) ?_
  have F4 : Arv Z h1 s0 ks .char (3 : Int32) [(.int c1), (.int c2), (.int c3)] dd := (P0.ext E1)
  obtain ⟨_, vm3, T3, h3, W3, Q3, z3, SF3, st3⟩ := W1.callS hx hEL (own_cmp5_3_2 l hE W1.old (s0 := s0) (ks := ks) (dd := dd) (b0 := a1) (kb := k1) (c1 := c1) (c2 := c2) (c3 := c3) (by omega) (by omega) hw1 hw2 hw3 F4 F2) (hw _ (List.mem_of_getElem? (i := 73) rfl)) (hw _ (List.mem_of_getElem? (i := 74) rfl)) (hw _ (List.mem_of_getElem? (i := 71) rfl)) (hw _ (List.mem_of_getElem? (i := 75) rfl)) (by decide) (Wd := 0) (by decide) (by decide) (by decide) (by decide) (g := (mkF m 9 #[.val (.ref s0), .val (.int (0 : Int32)), .val (.int (3 : Int32)), .val (.ref a1), .unset, .unset] [(.int (3 : Int32)), (.int (0 : Int32)), (.ref a1), (.int (0 : Int32)), (.ref s0)])) rfl (by rw [hml]; rfl) (argsL := [(.ref s0), (.int (0 : Int32)), (.ref a1), (.int (0 : Int32)), (.int (3 : Int32))]) (rest := []) rfl (lenOf pd___CI_BII_I rfl) rfl (by show 2 * 0 + _ ≤ _; exact Nat.le_of_eq rfl) (hb hby dd_jdk_52_method_16_code_9)
  obtain ⟨rfl, K3⟩ := Q3
  refine Go.tr (g' := (mkF m 12 #[.val (.ref s0), .val (.int (0 : Int32)), .val (.int (3 : Int32)), .val (.ref a1), .unset, .unset] [(.int (2 : Int32))])) st3 ?_
  refine Go.st (g' := (mkF m 14 #[.val (.ref s0), .val (.int (0 : Int32)), .val (.int (3 : Int32)), .val (.ref a1), .val (.int (2 : Int32)), .unset] [])) (fun _ k => XS.istore W3.here hx rfl (hb hby dd_jdk_52_method_16_code_12) rfl (l' := #[.val (.ref s0), .val (.int (0 : Int32)), .val (.int (3 : Int32)), .val (.ref a1), .val (.int (2 : Int32)), .unset]) rfl k) ?_
  refine Go.st (g' := (mkF m 16 #[.val (.ref s0), .val (.int (0 : Int32)), .val (.int (3 : Int32)), .val (.ref a1), .val (.int (2 : Int32)), .unset] [(.int (2 : Int32))])) (fun _ k => XS.iload W3.here hx rfl (hb hby dd_jdk_52_method_16_code_14) rfl  k) ?_
  refine Go.st (g' := (mkF m 17 #[.val (.ref s0), .val (.int (0 : Int32)), .val (.int (3 : Int32)), .val (.ref a1), .val (.int (2 : Int32)), .unset] [(.int (3 : Int32)), (.int (2 : Int32))])) (fun _ k => XS.iloadN W3.here hx rfl (hb hby dd_jdk_52_method_16_code_16) rfl  k) ?_
  refine Go.st (g' := (mkF m 20 #[.val (.ref s0), .val (.int (0 : Int32)), .val (.int (3 : Int32)), .val (.ref a1), .val (.int (2 : Int32)), .unset] [])) (fun _ k => XS.icmpNo W3.here hx rfl (hb hby dd_jdk_52_method_16_code_17) rfl (feq (by decide)).1 k) ?_
  refine Go.st (g' := (mkF m 21 #[.val (.ref s0), .val (.int (0 : Int32)), .val (.int (3 : Int32)), .val (.ref a1), .val (.int (2 : Int32)), .unset] [(.ref s0)])) (fun _ k => XS.aloadN W3.here hx rfl (hb hby dd_jdk_52_method_16_code_20) rfl rfl  k) ?_
  refine Go.st (g' := (mkF m 22 #[.val (.ref s0), .val (.int (0 : Int32)), .val (.int (3 : Int32)), .val (.ref a1), .val (.int (2 : Int32)), .unset] [(.int (0 : Int32)), (.ref s0)])) (fun _ k => XS.iloadN W3.here hx rfl (hb hby dd_jdk_52_method_16_code_21) rfl  k) ?_
  refine Go.st (g' := (mkF m 23 #[.val (.ref s0), .val (.int (0 : Int32)), .val (.int (3 : Int32)), .val (.ref a1), .val (.int (2 : Int32)), .unset] [(.int (3 : Int32)), (.int (0 : Int32)), (.ref s0)])) (fun _ k => XS.iloadN W3.here hx rfl (hb hby dd_jdk_52_method_16_code_22) rfl  k) ?_
  have F6 : Arv Z h3 s0 ks .char (3 : Int32) [(.int c1), (.int c2), (.int c3)] dd := (F4.keep K3 (ninS (own_ne (by omega)) nin0))
  obtain ⟨_, vm5, T5, h5, W5, Q5, z5, SF5, st5⟩ := W3.callS hx hEL (own_tb3 l hE W3.old (s0 := s0) (ks := ks) (dd := dd) (c1 := c1) (c2 := c2) (c3 := c3)  F6) (hw _ (List.mem_of_getElem? (i := 82) rfl)) (hw _ (List.mem_of_getElem? (i := 83) rfl)) (hw _ (List.mem_of_getElem? (i := 71) rfl)) (hw _ (List.mem_of_getElem? (i := 84) rfl)) (by decide) (Wd := 0) (by decide) (by decide) (by decide) (by decide) (g := (mkF m 23 #[.val (.ref s0), .val (.int (0 : Int32)), .val (.int (3 : Int32)), .val (.ref a1), .val (.int (2 : Int32)), .unset] [(.int (3 : Int32)), (.int (0 : Int32)), (.ref s0)])) rfl (by rw [hml]; rfl) (argsL := [(.ref s0), (.int (0 : Int32)), (.int (3 : Int32))]) (rest := []) rfl (lenOf pd___CII__B rfl) rfl (by show 2 * 0 + _ ≤ _; exact Nat.le_of_eq rfl) (hb hby dd_jdk_52_method_16_code_23)
  obtain ⟨b_5, kb_5, rfl, p5_0, f5_0, K5⟩ := Q5
  have yf5_0 : h5.size > b_5 := f5_0.lt
  refine Go.tr (g' := (mkF m 26 #[.val (.ref s0), .val (.int (0 : Int32)), .val (.int (3 : Int32)), .val (.ref a1), .val (.int (2 : Int32)), .unset] [(.ref b_5)])) st5 ?_
  refine Go.st (g' := (mkF m 28 #[.val (.ref s0), .val (.int (0 : Int32)), .val (.int (3 : Int32)), .val (.ref a1), .val (.int (2 : Int32)), .val (.ref b_5)] [])) (fun _ k => XS.astore W5.here hx rfl (hb hby dd_jdk_52_method_16_code_26) rfl rfl (l' := #[.val (.ref s0), .val (.int (0 : Int32)), .val (.int (3 : Int32)), .val (.ref a1), .val (.int (2 : Int32)), .val (.ref b_5)]) rfl k) ?_
  refine Go.st (g' := (mkF m 30 #[.val (.ref s0), .val (.int (0 : Int32)), .val (.int (3 : Int32)), .val (.ref a1), .val (.int (2 : Int32)), .val (.ref b_5)] [(.ref b_5)])) (fun _ k => XS.aload W5.here hx rfl (hb hby dd_jdk_52_method_16_code_28) rfl rfl  k) ?_
  refine Go.st (g' := (mkF m 32 #[.val (.ref s0), .val (.int (0 : Int32)), .val (.int (3 : Int32)), .val (.ref a1), .val (.int (2 : Int32)), .val (.ref b_5)] [(.int (2 : Int32)), (.ref b_5)])) (fun _ k => XS.iload W5.here hx rfl (hb hby dd_jdk_52_method_16_code_30) rfl  k) ?_
  obtain ⟨_, vm7, T7, h7, W7, Q7, z7, SF7, st7⟩ := W5.callS hx hEL (own_get2 l hE W5.old (b0 := b_5) (kb := kb_5) (zz := (6 : Int32)) (vs0 := [(.int ((c1 >>> ((0 : Int32) &&& 31)).toInt8.toInt32)), (.int ((c1 >>> ((8 : Int32) &&& 31)).toInt8.toInt32)), (.int ((c2 >>> ((0 : Int32) &&& 31)).toInt8.toInt32)), (.int ((c2 >>> ((8 : Int32) &&& 31)).toInt8.toInt32)), (.int ((c3 >>> ((0 : Int32) &&& 31)).toInt8.toInt32)), (.int ((c3 >>> ((8 : Int32) &&& 31)).toInt8.toInt32))]) (dd := (.int (0 : Int32))) (c0 := c3) hc3 (by decide) (by decide) rfl rfl f5_0) (hw _ (List.mem_of_getElem? (i := 98) rfl)) (hw _ (List.mem_of_getElem? (i := 99) rfl)) (hw _ (List.mem_of_getElem? (i := 71) rfl)) (hw _ (List.mem_of_getElem? (i := 100) rfl)) (by decide) (Wd := 0) (by decide) (by decide) (by decide) (by decide) (g := (mkF m 32 #[.val (.ref s0), .val (.int (0 : Int32)), .val (.int (3 : Int32)), .val (.ref a1), .val (.int (2 : Int32)), .val (.ref b_5)] [(.int (2 : Int32)), (.ref b_5)])) rfl (by rw [hml]; rfl) (argsL := [(.ref b_5), (.int (2 : Int32))]) (rest := []) rfl (lenOf pd___BI_C rfl) rfl (by show 2 * 0 + _ ≤ _; exact Nat.le_of_eq rfl) (hb hby dd_jdk_52_method_16_code_32)
  obtain ⟨rfl, eh7⟩ := Q7
  subst eh7
  refine Go.tr (g' := (mkF m 35 #[.val (.ref s0), .val (.int (0 : Int32)), .val (.int (3 : Int32)), .val (.ref a1), .val (.int (2 : Int32)), .val (.ref b_5)] [(.int c3)])) st7 ?_
  refine Go.st (g' := (mkF m 38 #[.val (.ref s0), .val (.int (0 : Int32)), .val (.int (3 : Int32)), .val (.ref a1), .val (.int (2 : Int32)), .val (.ref b_5)] [(.int (255 : Int32)), (.int c3)])) (fun _ k => XS.sipush W7.here hx rfl (hb hby dd_jdk_52_method_16_code_35) k) ?_
  refine Go.st (g' := (mkF m 54 #[.val (.ref s0), .val (.int (0 : Int32)), .val (.int (3 : Int32)), .val (.ref a1), .val (.int (2 : Int32)), .val (.ref b_5)] [])) (fun _ k => XS.icmpYes W7.here hx rfl (pc0 := 38) (pc' := 54) rfl (hb hby dd_jdk_52_method_16_code_38) rfl (tlt hw3).2.2.1 (by decide) (by decide) k) ?_
  refine Go.st (g' := (mkF m 56 #[.val (.ref s0), .val (.int (0 : Int32)), .val (.int (3 : Int32)), .val (.ref a1), .val (.int (2 : Int32)), .val (.ref b_5)] [(.ref b_5)])) (fun _ k => XS.aload W7.here hx rfl (hb hby dd_jdk_52_method_16_code_54) rfl rfl  k) ?_
  exact W7.retA hx hEL hlk hret rfl rfl rfl (hb hby dd_jdk_52_method_16_code_56) (by decide) (by decide) ⟨b_5, kb_5, rfl, (by omega), f5_0, ((((Keep.refl h0 []).ext E1).trans K3 (allS (Or.inr (by omega)) all0)).trans K5 all0)⟩
set_option maxRecDepth 65536 in
set_option maxHeartbeats 4000000 in
theorem own_i4_3_2 (l : Launch) {Z : State} {a0 : Array Value} (hE : Ctx Z a0) {n0 : Nat} {h0 : Heap} (O : Old Z n0 h0) {x0 : Addr} {s0 : Addr} {ks : ClassId} {dd : Value} {c1 : Int32} {c2 : Int32} {c3 : Int32} (hx0 : n0 ≤ x0) (hsx : ¬ @Eq Nat s0 x0) (hc1 : Chr c1) (hc2 : Chr c2) (hc3 : Chr c3) (hw1 : ¬ (255 : Int32) < c1) (hw2 : ¬ (255 : Int32) < c2) (hw3 : (255 : Int32) < c3) (P0 : Exa Z h0 x0 "java/lang/String") (P1 : Fld Z h0 x0 "java/lang/String" "value" "[B" .null) (P2 : Fld Z h0 x0 "java/lang/String" "coder" "B" (.int (0 : Int32))) (P3 : Arv Z h0 s0 ks .char (3 : Int32) [(.int c1), (.int c2), (.int c3)] dd) :
    Met l (⟨"java/lang/String", "<init>", "([CIILjava/lang/Void;)V"⟩ : MethodName) jdk_42_method_149_code 6 (Option.none : Option Jvm.ClassFile.FieldType) ({ frames := 4, cells := 2, slots := 9, locals := 57 } : Room) Z consts_1 n0 [] #[(.ref x0), (.ref s0), (.int (0 : Int32)), (.int (3 : Int32)), .null] h0 (fun v h => ∃ (t : Addr), ∃ (kt : ClassId), v = none ∧ Fld Z h x0 "java/lang/String" "value" "[B" (.ref t) ∧ Fld Z h x0 "java/lang/String" "coder" "B" (.int (1 : Int32)) ∧ Arv Z h t kt .byte (6 : Int32) [(.int ((c1 >>> ((0 : Int32) &&& 31)).toInt8.toInt32)), (.int ((c1 >>> ((8 : Int32) &&& 31)).toInt8.toInt32)), (.int ((c2 >>> ((0 : Int32) &&& 31)).toInt8.toInt32)), (.int ((c2 >>> ((8 : Int32) &&& 31)).toInt8.toInt32)), (.int ((c3 >>> ((0 : Int32) &&& 31)).toInt8.toInt32)), (.int ((c3 >>> ((8 : Int32) &&& 31)).toInt8.toInt32))] (.int (0 : Int32)) ∧ Keep h0 h [x0]) := by
  have hw := hE.1
  have hEL := own_EW hw
  have own_wS := own_stringAtoms hw
  have hE1 := own_E1 hw
  obtain ⟨zc, hzc, hzc0⟩ := hE.2.1
  refine Met.of (by first | (refine plainFor_of_name ?_; simp [plainName, overriddenIn]; done) | decide +kernel) O ?_
  intro p e s m below meth c T0 hx hby hml hret hlk hnm hh0 W0
  have z0 := W0.ge
  have yP0 : h0.size > x0 := P0.lt
  have yP3 : h0.size > s0 := P3.lt
  refine Go.st (g' := (mkF m 0 #[.val (.ref x0), .val (.ref s0), .val (.int (0 : Int32)), .val (.int (3 : Int32)), .val .null, .unset] [])) (fun _ k => castTop (by first | (simp [entryFrame, mkF, argsToLocals, maxLocals, own_catI, own_catJ, own_catD, own_catA, own_catN]; done) | rfl) k) ?_
  refine Go.st (g' := (mkF m 1 #[.val (.ref x0), .val (.ref s0), .val (.int (0 : Int32)), .val (.int (3 : Int32)), .val .null, .unset] [(.ref x0)])) (fun _ k => XS.aloadN W0.here hx rfl (hb hby dd_jdk_42_method_149_code_0) rfl rfl  k) ?_
  obtain ⟨T1, W1, st1⟩ := W0.initO hx (hw _ (List.mem_of_getElem? (i := 24) rfl)) (hw _ (List.mem_of_getElem? (i := 25) rfl)) (hw _ (List.mem_of_getElem? (i := 26) rfl)) (g := (mkF m 1 #[.val (.ref x0), .val (.ref s0), .val (.int (0 : Int32)), .val (.int (3 : Int32)), .val .null, .unset] [(.ref x0)])) rfl (by rw [hml]; rfl) rfl (hb hby dd_jdk_42_method_149_code_1) (by decide) (Wd := 0) (by show 2 * 0 + _ ≤ _; exact Nat.le_of_eq rfl) (by decide)
  refine Go.st (g' := (mkF m 4 #[.val (.ref x0), .val (.ref s0), .val (.int (0 : Int32)), .val (.int (3 : Int32)), .val .null, .unset] [])) st1 ?_
  refine Go.st (g' := (mkF m 5 #[.val (.ref x0), .val (.ref s0), .val (.int (0 : Int32)), .val (.int (3 : Int32)), .val .null, .unset] [(.int (3 : Int32))])) (fun _ k => XS.iloadN W1.here hx rfl (hb hby dd_jdk_42_method_149_code_4) rfl  k) ?_
  refine Go.st (g' := (mkF m 27 #[.val (.ref x0), .val (.ref s0), .val (.int (0 : Int32)), .val (.int (3 : Int32)), .val .null, .unset] [])) (fun _ k => XS.ifYes W1.here hx rfl (pc0 := 5) (pc' := 27) rfl (hb hby dd_jdk_42_method_149_code_5) rfl ((if0 _ _).trans (feq (by decide)).2) (by decide) (by decide) k) ?_
  obtain ⟨T2, W2, st2⟩ := W1.getS hx (hw _ (List.mem_of_getElem? (i := 9) rfl)) Via.refl (W1.sta hzc) (g := (mkF m 27 #[.val (.ref x0), .val (.ref s0), .val (.int (0 : Int32)), .val (.int (3 : Int32)), .val .null, .unset] [])) rfl (hb hby dd_jdk_42_method_149_code_27)
  refine Go.st (g' := (mkF m 30 #[.val (.ref x0), .val (.ref s0), .val (.int (0 : Int32)), .val (.int (3 : Int32)), .val .null, .unset] [(.int zc)])) st2 ?_
  refine Go.st (g' := (mkF m 33 #[.val (.ref x0), .val (.ref s0), .val (.int (0 : Int32)), .val (.int (3 : Int32)), .val .null, .unset] [])) (fun _ k => XS.ifNo W2.here hx rfl (hb hby dd_jdk_42_method_149_code_30) rfl ((if0 _ _).trans (feq hzc0).1) k) ?_
  refine Go.st (g' := (mkF m 34 #[.val (.ref x0), .val (.ref s0), .val (.int (0 : Int32)), .val (.int (3 : Int32)), .val .null, .unset] [(.ref s0)])) (fun _ k => XS.aloadN W2.here hx rfl (hb hby dd_jdk_42_method_149_code_33) rfl rfl  k) ?_
  refine Go.st (g' := (mkF m 35 #[.val (.ref x0), .val (.ref s0), .val (.int (0 : Int32)), .val (.int (3 : Int32)), .val .null, .unset] [(.int (0 : Int32)), (.ref s0)])) (fun _ k => XS.iloadN W2.here hx rfl (hb hby dd_jdk_42_method_149_code_34) rfl  k) ?_
  refine Go.st (g' := (mkF m 36 #[.val (.ref x0), .val (.ref s0), .val (.int (0 : Int32)), .val (.int (3 : Int32)), .val .null, .unset] [(.int (3 : Int32)), (.int (0 : Int32)), (.ref s0)])) (fun _ k => XS.iloadN W2.here hx rfl (hb hby dd_jdk_42_method_149_code_35) rfl  k) ?_
  obtain ⟨_, vm3, T3, h3, W3, Q3, z3, SF3, st3⟩ := W2.callS hx hEL (own_cmp3_3_2 l hE W2.old (s0 := s0) (ks := ks) (dd := dd) (c1 := c1) (c2 := c2) (c3 := c3) hc1 hc2 hc3 hw1 hw2 hw3 P3) (hw _ (List.mem_of_getElem? (i := 69) rfl)) (hw _ (List.mem_of_getElem? (i := 70) rfl)) (hw _ (List.mem_of_getElem? (i := 71) rfl)) (hw _ (List.mem_of_getElem? (i := 72) rfl)) (by decide) (Wd := 0) (by decide) (by decide) (by decide) (by decide) (g := (mkF m 36 #[.val (.ref x0), .val (.ref s0), .val (.int (0 : Int32)), .val (.int (3 : Int32)), .val .null, .unset] [(.int (3 : Int32)), (.int (0 : Int32)), (.ref s0)])) rfl (by rw [hml]; rfl) (argsL := [(.ref s0), (.int (0 : Int32)), (.int (3 : Int32))]) (rest := []) rfl (lenOf pd___CII__B rfl) rfl (by show 2 * 0 + _ ≤ _; exact Nat.le_of_eq rfl) (hb hby dd_jdk_42_method_149_code_36)
  obtain ⟨b_3, kb_3, rfl, p3_0, f3_0, K3⟩ := Q3
  have yf3_0 : h3.size > b_3 := f3_0.lt
  refine Go.tr (g' := (mkF m 39 #[.val (.ref x0), .val (.ref s0), .val (.int (0 : Int32)), .val (.int (3 : Int32)), .val .null, .unset] [(.ref b_3)])) st3 ?_
  refine Go.st (g' := (mkF m 41 #[.val (.ref x0), .val (.ref s0), .val (.int (0 : Int32)), .val (.int (3 : Int32)), .val .null, .val (.ref b_3)] [])) (fun _ k => XS.astore W3.here hx rfl (hb hby dd_jdk_42_method_149_code_39) rfl rfl (l' := #[.val (.ref x0), .val (.ref s0), .val (.int (0 : Int32)), .val (.int (3 : Int32)), .val .null, .val (.ref b_3)]) rfl k) ?_
  refine Go.st (g' := (mkF m 42 #[.val (.ref x0), .val (.ref s0), .val (.int (0 : Int32)), .val (.int (3 : Int32)), .val .null, .val (.ref b_3)] [(.ref x0)])) (fun _ k => XS.aloadN W3.here hx rfl (hb hby dd_jdk_42_method_149_code_41) rfl rfl  k) ?_
  refine Go.st (g' := (mkF m 44 #[.val (.ref x0), .val (.ref s0), .val (.int (0 : Int32)), .val (.int (3 : Int32)), .val .null, .val (.ref b_3)] [(.ref b_3), (.ref x0)])) (fun _ k => XS.aload W3.here hx rfl (hb hby dd_jdk_42_method_149_code_42) rfl rfl  k) ?_
  refine Go.st (g' := (mkF m 45 #[.val (.ref x0), .val (.ref s0), .val (.int (0 : Int32)), .val (.int (3 : Int32)), .val .null, .val (.ref b_3)] [(.int (3 : Int32)), (.ref b_3), (.ref x0)])) (fun _ k => XS.iloadN W3.here hx rfl (hb hby dd_jdk_42_method_149_code_44) rfl  k) ?_
  obtain ⟨_, vm4, T4, h4, W4, Q4, z4, SF4, st4⟩ := W3.callS hx hEL (own_cfal3 l hE W3.old (b0 := b_3) (kb := kb_3) (vs0 := [(.int ((c1 >>> ((0 : Int32) &&& 31)).toInt8.toInt32)), (.int ((c1 >>> ((8 : Int32) &&& 31)).toInt8.toInt32)), (.int ((c2 >>> ((0 : Int32) &&& 31)).toInt8.toInt32)), (.int ((c2 >>> ((8 : Int32) &&& 31)).toInt8.toInt32)), (.int ((c3 >>> ((0 : Int32) &&& 31)).toInt8.toInt32)), (.int ((c3 >>> ((8 : Int32) &&& 31)).toInt8.toInt32))]) (dd := (.int (0 : Int32)))  f3_0) (hw _ (List.mem_of_getElem? (i := 76) rfl)) (hw _ (List.mem_of_getElem? (i := 77) rfl)) (hw _ (List.mem_of_getElem? (i := 71) rfl)) (hw _ (List.mem_of_getElem? (i := 78) rfl)) (by decide) (Wd := 1) (by decide) (by decide) (by decide) (by decide) (g := (mkF m 45 #[.val (.ref x0), .val (.ref s0), .val (.int (0 : Int32)), .val (.int (3 : Int32)), .val .null, .val (.ref b_3)] [(.int (3 : Int32)), (.ref b_3), (.ref x0)])) rfl (by rw [hml]; rfl) (argsL := [(.ref b_3), (.int (3 : Int32))]) (rest := [(.ref x0)]) rfl (lenOf pd___BI_B rfl) rfl (by show 2 * 0 + _ ≤ _; exact Nat.le_of_eq rfl) (hb hby dd_jdk_42_method_149_code_45)
  obtain ⟨rfl, eh4⟩ := Q4
  subst eh4
  refine Go.tr (g' := (mkF m 48 #[.val (.ref x0), .val (.ref s0), .val (.int (0 : Int32)), .val (.int (3 : Int32)), .val .null, .val (.ref b_3)] [(.int (1 : Int32)), (.ref x0)])) st4 ?_
  have F6 : Fld Z h3 x0 "java/lang/String" "coder" "B" (.int (0 : Int32)) := (P2.keep K3 nin0)
  have F7 : Exa Z h3 x0 "java/lang/String" := (P0.keep K3)
  have F8 : Fld Z h3 x0 "java/lang/String" "value" "[B" .null := (P1.keep K3 nin0)
  have S9 : Safe Z consts_1 vm4 h3 x0 := own_safe_blank W4.warm.alike F7 F8
  obtain ⟨T5, h5, W5, R5, z5, X5, SF5, st5⟩ := W4.putF hx (hw _ (List.mem_of_getElem? (i := 29) rfl)) Via.refl F6 F7 (Or.inr ⟨(hw _ (List.mem_of_getElem? (i := 30) rfl)), rfl, hnm⟩) (hw _ (List.mem_of_getElem? (i := 15) rfl)) (ty := .byte) (by decide) rfl rfl S9 (by omega) (g := (mkF m 48 #[.val (.ref x0), .val (.ref s0), .val (.int (0 : Int32)), .val (.int (3 : Int32)), .val .null, .val (.ref b_3)] [(.int (1 : Int32)), (.ref x0)])) rfl rfl (hb hby dd_jdk_42_method_149_code_48)
  refine Go.st (g' := (mkF m 51 #[.val (.ref x0), .val (.ref s0), .val (.int (0 : Int32)), .val (.int (3 : Int32)), .val .null, .val (.ref b_3)] [])) st5 ?_
  refine Go.st (g' := (mkF m 52 #[.val (.ref x0), .val (.ref s0), .val (.int (0 : Int32)), .val (.int (3 : Int32)), .val .null, .val (.ref b_3)] [(.ref x0)])) (fun _ k => XS.aloadN W5.here hx rfl (hb hby dd_jdk_42_method_149_code_51) rfl rfl  k) ?_
  refine Go.st (g' := (mkF m 54 #[.val (.ref x0), .val (.ref s0), .val (.int (0 : Int32)), .val (.int (3 : Int32)), .val .null, .val (.ref b_3)] [(.ref b_3), (.ref x0)])) (fun _ k => XS.aload W5.here hx rfl (hb hby dd_jdk_42_method_149_code_52) rfl rfl  k) ?_
  have F11 : Fld Z h5 x0 "java/lang/String" "value" "[B" .null := (F8.other R5 (Or.inr (slot_ne (Or.inr (hw _ (List.mem_of_getElem? (i := 28) rfl))) (Or.inr (hw _ (List.mem_of_getElem? (i := 30) rfl))) (by decide) (t := (.array .byte)) (t' := .byte) (by decide) (by decide))))
  have F12 : Exa Z h5 x0 "java/lang/String" := (F7.wr R5)
  have F13 : Safe Z consts_1 vm4 h5 x0 := (SF5 _ (by omega) S9)
  obtain ⟨T10, h10, W10, R10, z10, X10, SF10, st10⟩ := W5.putF hx (hw _ (List.mem_of_getElem? (i := 27) rfl)) Via.refl F11 F12 (Or.inr ⟨(hw _ (List.mem_of_getElem? (i := 28) rfl)), rfl, hnm⟩) (hw _ (List.mem_of_getElem? (i := 15) rfl)) (ty := (.array .byte)) (by decide) rfl rfl F13 (by omega) (g := (mkF m 54 #[.val (.ref x0), .val (.ref s0), .val (.int (0 : Int32)), .val (.int (3 : Int32)), .val .null, .val (.ref b_3)] [(.ref b_3), (.ref x0)])) rfl rfl (hb hby dd_jdk_42_method_149_code_54)
  refine Go.st (g' := (mkF m 57 #[.val (.ref x0), .val (.ref s0), .val (.int (0 : Int32)), .val (.int (3 : Int32)), .val .null, .val (.ref b_3)] [])) st10 ?_
  have F14 : Fld Z h10 x0 "java/lang/String" "coder" "B" (.int (1 : Int32)) := (X5.other R10 (Or.inr (slot_ne (Or.inr (hw _ (List.mem_of_getElem? (i := 30) rfl))) (Or.inr (hw _ (List.mem_of_getElem? (i := 28) rfl))) (by decide) (t := .byte) (t' := (.array .byte)) (by decide) (by decide))))
  have F15 : Arv Z h10 b_3 kb_3 .byte (6 : Int32) [(.int ((c1 >>> ((0 : Int32) &&& 31)).toInt8.toInt32)), (.int ((c1 >>> ((8 : Int32) &&& 31)).toInt8.toInt32)), (.int ((c2 >>> ((0 : Int32) &&& 31)).toInt8.toInt32)), (.int ((c2 >>> ((8 : Int32) &&& 31)).toInt8.toInt32)), (.int ((c3 >>> ((0 : Int32) &&& 31)).toInt8.toInt32)), (.int ((c3 >>> ((8 : Int32) &&& 31)).toInt8.toInt32))] (.int (0 : Int32)) := ((f3_0.other R5 (own_ne (by omega))).other R10 (own_ne (by omega)))
  exact W10.retV hx hEL hlk hret (hb hby dd_jdk_42_method_149_code_57) (by decide) (by decide) ⟨b_3, kb_3, rfl, X10, F14, F15, ((((Keep.refl h0 [x0]).trans K3 all0).wr R5 (Or.inl (List.mem_of_getElem? (i := 0) rfl))).wr R10 (Or.inl (List.mem_of_getElem? (i := 0) rfl)))⟩
set_option maxRecDepth 65536 in
set_option maxHeartbeats 4000000 in
theorem own_i1_3_0 (l : Launch) {Z : State} {a0 : Array Value} (hE : Ctx Z a0) {n0 : Nat} {h0 : Heap} (O : Old Z n0 h0) {x0 : Addr} {s0 : Addr} {ks : ClassId} {dd : Value} {c1 : Int32} {c2 : Int32} {c3 : Int32} (hx0 : n0 ≤ x0) (hsx : ¬ @Eq Nat s0 x0) (hc1 : Chr c1) (hc2 : Chr c2) (hc3 : Chr c3) (hw1 : (255 : Int32) < c1) (P0 : Exa Z h0 x0 "java/lang/String") (P1 : Fld Z h0 x0 "java/lang/String" "value" "[B" .null) (P2 : Fld Z h0 x0 "java/lang/String" "coder" "B" (.int (0 : Int32))) (P3 : Arv Z h0 s0 ks .char (3 : Int32) [(.int c1), (.int c2), (.int c3)] dd) :
    Met l (⟨"java/lang/String", "<init>", "([C)V"⟩ : MethodName) jdk_42_method_3_code 2 (Option.none : Option Jvm.ClassFile.FieldType) ({ frames := 5, cells := 2, slots := 9, locals := 74 } : Room) Z consts_1 n0 [] #[(.ref x0), (.ref s0)] h0 (fun v h => ∃ (t : Addr), ∃ (kt : ClassId), v = none ∧ Fld Z h x0 "java/lang/String" "value" "[B" (.ref t) ∧ Fld Z h x0 "java/lang/String" "coder" "B" (.int (1 : Int32)) ∧ Arv Z h t kt .byte (6 : Int32) [(.int ((c1 >>> ((0 : Int32) &&& 31)).toInt8.toInt32)), (.int ((c1 >>> ((8 : Int32) &&& 31)).toInt8.toInt32)), (.int ((c2 >>> ((0 : Int32) &&& 31)).toInt8.toInt32)), (.int ((c2 >>> ((8 : Int32) &&& 31)).toInt8.toInt32)), (.int ((c3 >>> ((0 : Int32) &&& 31)).toInt8.toInt32)), (.int ((c3 >>> ((8 : Int32) &&& 31)).toInt8.toInt32))] (.int (0 : Int32)) ∧ Keep h0 h [x0]) := by
  have hw := hE.1
  have hEL := own_EW hw
  have own_wS := own_stringAtoms hw
  have hE1 := own_E1 hw
  refine Met.of (by first | (refine plainFor_of_name ?_; simp [plainName, overriddenIn]; done) | decide +kernel) O ?_
  intro p e s m below meth c T0 hx hby hml hret hlk hnm hh0 W0
  have z0 := W0.ge
  have yP0 : h0.size > x0 := P0.lt
  have yP3 : h0.size > s0 := P3.lt
  refine Go.st (g' := (mkF m 0 #[.val (.ref x0), .val (.ref s0)] [])) (fun _ k => castTop (by first | (simp [entryFrame, mkF, argsToLocals, maxLocals, own_catI, own_catJ, own_catD, own_catA, own_catN]; done) | rfl) k) ?_
  refine Go.st (g' := (mkF m 1 #[.val (.ref x0), .val (.ref s0)] [(.ref x0)])) (fun _ k => XS.aloadN W0.here hx rfl (hb hby dd_jdk_42_method_3_code_0) rfl rfl  k) ?_
  refine Go.st (g' := (mkF m 2 #[.val (.ref x0), .val (.ref s0)] [(.ref s0), (.ref x0)])) (fun _ k => XS.aloadN W0.here hx rfl (hb hby dd_jdk_42_method_3_code_1) rfl rfl  k) ?_
  refine Go.st (g' := (mkF m 3 #[.val (.ref x0), .val (.ref s0)] [(.int (0 : Int32)), (.ref s0), (.ref x0)])) (fun _ k => XS.iconst W0.here hx rfl (hb hby dd_jdk_42_method_3_code_2) k) ?_
  refine Go.st (g' := (mkF m 4 #[.val (.ref x0), .val (.ref s0)] [(.ref s0), (.int (0 : Int32)), (.ref s0), (.ref x0)])) (fun _ k => XS.aloadN W0.here hx rfl (hb hby dd_jdk_42_method_3_code_3) rfl rfl  k) ?_
  refine Go.st (g' := (mkF m 5 #[.val (.ref x0), .val (.ref s0)] [(.int (3 : Int32)), (.int (0 : Int32)), (.ref s0), (.ref x0)])) (W0.len hx P3 (g := (mkF m 4 #[.val (.ref x0), .val (.ref s0)] [(.ref s0), (.int (0 : Int32)), (.ref s0), (.ref x0)])) rfl rfl (hb hby dd_jdk_42_method_3_code_4)) ?_
  refine Go.st (g' := (mkF m 6 #[.val (.ref x0), .val (.ref s0)] [.null, (.int (3 : Int32)), (.int (0 : Int32)), (.ref s0), (.ref x0)])) (fun _ k => XS.aconstNull W0.here hx rfl (hb hby dd_jdk_42_method_3_code_5) k) ?_
  obtain ⟨_, vm1, T1, h1, W1, Q1, z1, SF1, st1⟩ := W0.callI hx hEL (own_i4_3_0 l hE W0.old (x0 := x0) (s0 := s0) (ks := ks) (dd := dd) (c1 := c1) (c2 := c2) (c3 := c3) (by omega) (by omega) hc1 hc2 hc3 hw1 P0 P1 P2 P3) rfl (hw _ (List.mem_of_getElem? (i := 66) rfl)) (hw _ (List.mem_of_getElem? (i := 67) rfl)) (hw _ (List.mem_of_getElem? (i := 7) rfl)) (hw _ (List.mem_of_getElem? (i := 68) rfl)) (by decide) (Wd := 0) (by decide) (by decide) (by decide) (by decide) (g := (mkF m 6 #[.val (.ref x0), .val (.ref s0)] [.null, (.int (3 : Int32)), (.int (0 : Int32)), (.ref s0), (.ref x0)])) rfl (by rw [hml]; rfl) (a := x0) (argsL := [(.ref s0), (.int (0 : Int32)), (.int (3 : Int32)), .null]) (rest := []) rfl (lenOf pd___CIILjava_lang_Void__V rfl) rfl (by show 2 * 0 + _ ≤ _; exact Nat.le_of_eq rfl) (hb hby dd_jdk_42_method_3_code_6)
  obtain ⟨t_1, kt_1, rfl, f1_0, f1_1, f1_2, K1⟩ := Q1
  have yf1_2 : h1.size > t_1 := f1_2.lt
  refine Go.tr (g' := (mkF m 9 #[.val (.ref x0), .val (.ref s0)] [])) st1 ?_
  exact W1.retV hx hEL hlk hret (hb hby dd_jdk_42_method_3_code_9) (by decide) (by decide) ⟨t_1, kt_1, rfl, f1_0, f1_1, f1_2, ((Keep.refl h0 [x0]).trans K1 (allS (Or.inl (List.mem_of_getElem? (i := 0) rfl)) all0))⟩
set_option maxRecDepth 65536 in
set_option maxHeartbeats 4000000 in
theorem own_i1_3_1 (l : Launch) {Z : State} {a0 : Array Value} (hE : Ctx Z a0) {n0 : Nat} {h0 : Heap} (O : Old Z n0 h0) {x0 : Addr} {s0 : Addr} {ks : ClassId} {dd : Value} {c1 : Int32} {c2 : Int32} {c3 : Int32} (hx0 : n0 ≤ x0) (hsx : ¬ @Eq Nat s0 x0) (hc1 : Chr c1) (hc2 : Chr c2) (hc3 : Chr c3) (hw1 : ¬ (255 : Int32) < c1) (hw2 : (255 : Int32) < c2) (P0 : Exa Z h0 x0 "java/lang/String") (P1 : Fld Z h0 x0 "java/lang/String" "value" "[B" .null) (P2 : Fld Z h0 x0 "java/lang/String" "coder" "B" (.int (0 : Int32))) (P3 : Arv Z h0 s0 ks .char (3 : Int32) [(.int c1), (.int c2), (.int c3)] dd) :
    Met l (⟨"java/lang/String", "<init>", "([C)V"⟩ : MethodName) jdk_42_method_3_code 2 (Option.none : Option Jvm.ClassFile.FieldType) ({ frames := 5, cells := 2, slots := 9, locals := 74 } : Room) Z consts_1 n0 [] #[(.ref x0), (.ref s0)] h0 (fun v h => ∃ (t : Addr), ∃ (kt : ClassId), v = none ∧ Fld Z h x0 "java/lang/String" "value" "[B" (.ref t) ∧ Fld Z h x0 "java/lang/String" "coder" "B" (.int (1 : Int32)) ∧ Arv Z h t kt .byte (6 : Int32) [(.int ((c1 >>> ((0 : Int32) &&& 31)).toInt8.toInt32)), (.int ((c1 >>> ((8 : Int32) &&& 31)).toInt8.toInt32)), (.int ((c2 >>> ((0 : Int32) &&& 31)).toInt8.toInt32)), (.int ((c2 >>> ((8 : Int32) &&& 31)).toInt8.toInt32)), (.int ((c3 >>> ((0 : Int32) &&& 31)).toInt8.toInt32)), (.int ((c3 >>> ((8 : Int32) &&& 31)).toInt8.toInt32))] (.int (0 : Int32)) ∧ Keep h0 h [x0]) := by
  have hw := hE.1
  have hEL := own_EW hw
  have own_wS := own_stringAtoms hw
  have hE1 := own_E1 hw
  refine Met.of (by first | (refine plainFor_of_name ?_; simp [plainName, overriddenIn]; done) | decide +kernel) O ?_
  intro p e s m below meth c T0 hx hby hml hret hlk hnm hh0 W0
  have z0 := W0.ge
  have yP0 : h0.size > x0 := P0.lt
  have yP3 : h0.size > s0 := P3.lt
  refine Go.st (g' := (mkF m 0 #[.val (.ref x0), .val (.ref s0)] [])) (fun _ k => castTop (by first | (simp [entryFrame, mkF, argsToLocals, maxLocals, own_catI, own_catJ, own_catD, own_catA, own_catN]; done) | rfl) k) ?_
  refine Go.st (g' := (mkF m 1 #[.val (.ref x0), .val (.ref s0)] [(.ref x0)])) (fun _ k => XS.aloadN W0.here hx rfl (hb hby dd_jdk_42_method_3_code_0) rfl rfl  k) ?_
  refine Go.st (g' := (mkF m 2 #[.val (.ref x0), .val (.ref s0)] [(.ref s0), (.ref x0)])) (fun _ k => XS.aloadN W0.here hx rfl (hb hby dd_jdk_42_method_3_code_1) rfl rfl  k) ?_
  refine Go.st (g' := (mkF m 3 #[.val (.ref x0), .val (.ref s0)] [(.int (0 : Int32)), (.ref s0), (.ref x0)])) (fun _ k => XS.iconst W0.here hx rfl (hb hby dd_jdk_42_method_3_code_2) k) ?_
  refine Go.st (g' := (mkF m 4 #[.val (.ref x0), .val (.ref s0)] [(.ref s0), (.int (0 : Int32)), (.ref s0), (.ref x0)])) (fun _ k => XS.aloadN W0.here hx rfl (hb hby dd_jdk_42_method_3_code_3) rfl rfl  k) ?_
  refine Go.st (g' := (mkF m 5 #[.val (.ref x0), .val (.ref s0)] [(.int (3 : Int32)), (.int (0 : Int32)), (.ref s0), (.ref x0)])) (W0.len hx P3 (g := (mkF m 4 #[.val (.ref x0), .val (.ref s0)] [(.ref s0), (.int (0 : Int32)), (.ref s0), (.ref x0)])) rfl rfl (hb hby dd_jdk_42_method_3_code_4)) ?_
  refine Go.st (g' := (mkF m 6 #[.val (.ref x0), .val (.ref s0)] [.null, (.int (3 : Int32)), (.int (0 : Int32)), (.ref s0), (.ref x0)])) (fun _ k => XS.aconstNull W0.here hx rfl (hb hby dd_jdk_42_method_3_code_5) k) ?_
  obtain ⟨_, vm1, T1, h1, W1, Q1, z1, SF1, st1⟩ := W0.callI hx hEL (own_i4_3_1 l hE W0.old (x0 := x0) (s0 := s0) (ks := ks) (dd := dd) (c1 := c1) (c2 := c2) (c3 := c3) (by omega) (by omega) hc1 hc2 hc3 hw1 hw2 P0 P1 P2 P3) rfl (hw _ (List.mem_of_getElem? (i := 66) rfl)) (hw _ (List.mem_of_getElem? (i := 67) rfl)) (hw _ (List.mem_of_getElem? (i := 7) rfl)) (hw _ (List.mem_of_getElem? (i := 68) rfl)) (by decide) (Wd := 0) (by decide) (by decide) (by decide) (by decide) (g := (mkF m 6 #[.val (.ref x0), .val (.ref s0)] [.null, (.int (3 : Int32)), (.int (0 : Int32)), (.ref s0), (.ref x0)])) rfl (by rw [hml]; rfl) (a := x0) (argsL := [(.ref s0), (.int (0 : Int32)), (.int (3 : Int32)), .null]) (rest := []) rfl (lenOf pd___CIILjava_lang_Void__V rfl) rfl (by show 2 * 0 + _ ≤ _; exact Nat.le_of_eq rfl) (hb hby dd_jdk_42_method_3_code_6)
  obtain ⟨t_1, kt_1, rfl, f1_0, f1_1, f1_2, K1⟩ := Q1
  have yf1_2 : h1.size > t_1 := f1_2.lt
  refine Go.tr (g' := (mkF m 9 #[.val (.ref x0), .val (.ref s0)] [])) st1 ?_
  exact W1.retV hx hEL hlk hret (hb hby dd_jdk_42_method_3_code_9) (by decide) (by decide) ⟨t_1, kt_1, rfl, f1_0, f1_1, f1_2, ((Keep.refl h0 [x0]).trans K1 (allS (Or.inl (List.mem_of_getElem? (i := 0) rfl)) all0))⟩
set_option maxRecDepth 65536 in
set_option maxHeartbeats 4000000 in
theorem own_i1_3_2 (l : Launch) {Z : State} {a0 : Array Value} (hE : Ctx Z a0) {n0 : Nat} {h0 : Heap} (O : Old Z n0 h0) {x0 : Addr} {s0 : Addr} {ks : ClassId} {dd : Value} {c1 : Int32} {c2 : Int32} {c3 : Int32} (hx0 : n0 ≤ x0) (hsx : ¬ @Eq Nat s0 x0) (hc1 : Chr c1) (hc2 : Chr c2) (hc3 : Chr c3) (hw1 : ¬ (255 : Int32) < c1) (hw2 : ¬ (255 : Int32) < c2) (hw3 : (255 : Int32) < c3) (P0 : Exa Z h0 x0 "java/lang/String") (P1 : Fld Z h0 x0 "java/lang/String" "value" "[B" .null) (P2 : Fld Z h0 x0 "java/lang/String" "coder" "B" (.int (0 : Int32))) (P3 : Arv Z h0 s0 ks .char (3 : Int32) [(.int c1), (.int c2), (.int c3)] dd) :
    Met l (⟨"java/lang/String", "<init>", "([C)V"⟩ : MethodName) jdk_42_method_3_code 2 (Option.none : Option Jvm.ClassFile.FieldType) ({ frames := 5, cells := 2, slots := 9, locals := 74 } : Room) Z consts_1 n0 [] #[(.ref x0), (.ref s0)] h0 (fun v h => ∃ (t : Addr), ∃ (kt : ClassId), v = none ∧ Fld Z h x0 "java/lang/String" "value" "[B" (.ref t) ∧ Fld Z h x0 "java/lang/String" "coder" "B" (.int (1 : Int32)) ∧ Arv Z h t kt .byte (6 : Int32) [(.int ((c1 >>> ((0 : Int32) &&& 31)).toInt8.toInt32)), (.int ((c1 >>> ((8 : Int32) &&& 31)).toInt8.toInt32)), (.int ((c2 >>> ((0 : Int32) &&& 31)).toInt8.toInt32)), (.int ((c2 >>> ((8 : Int32) &&& 31)).toInt8.toInt32)), (.int ((c3 >>> ((0 : Int32) &&& 31)).toInt8.toInt32)), (.int ((c3 >>> ((8 : Int32) &&& 31)).toInt8.toInt32))] (.int (0 : Int32)) ∧ Keep h0 h [x0]) := by
  have hw := hE.1
  have hEL := own_EW hw
  have own_wS := own_stringAtoms hw
  have hE1 := own_E1 hw
  refine Met.of (by first | (refine plainFor_of_name ?_; simp [plainName, overriddenIn]; done) | decide +kernel) O ?_
  intro p e s m below meth c T0 hx hby hml hret hlk hnm hh0 W0
  have z0 := W0.ge
  have yP0 : h0.size > x0 := P0.lt
  have yP3 : h0.size > s0 := P3.lt
  refine Go.st (g' := (mkF m 0 #[.val (.ref x0), .val (.ref s0)] [])) (fun _ k => castTop (by first | (simp [entryFrame, mkF, argsToLocals, maxLocals, own_catI, own_catJ, own_catD, own_catA, own_catN]; done) | rfl) k) ?_
  refine Go.st (g' := (mkF m 1 #[.val (.ref x0), .val (.ref s0)] [(.ref x0)])) (fun _ k => XS.aloadN W0.here hx rfl (hb hby dd_jdk_42_method_3_code_0) rfl rfl  k) ?_
  refine Go.st (g' := (mkF m 2 #[.val (.ref x0), .val (.ref s0)] [(.ref s0), (.ref x0)])) (fun _ k => XS.aloadN W0.here hx rfl (hb hby dd_jdk_42_method_3_code_1) rfl rfl  k) ?_
  refine Go.st (g' := (mkF m 3 #[.val (.ref x0), .val (.ref s0)] [(.int (0 : Int32)), (.ref s0), (.ref x0)])) (fun _ k => XS.iconst W0.here hx rfl (hb hby dd_jdk_42_method_3_code_2) k) ?_
  refine Go.st (g' := (mkF m 4 #[.val (.ref x0), .val (.ref s0)] [(.ref s0), (.int (0 : Int32)), (.ref s0), (.ref x0)])) (fun _ k => XS.aloadN W0.here hx rfl (hb hby dd_jdk_42_method_3_code_3) rfl rfl  k) ?_
  refine Go.st (g' := (mkF m 5 #[.val (.ref x0), .val (.ref s0)] [(.int (3 : Int32)), (.int (0 : Int32)), (.ref s0), (.ref x0)])) (W0.len hx P3 (g := (mkF m 4 #[.val (.ref x0), .val (.ref s0)] [(.ref s0), (.int (0 : Int32)), (.ref s0), (.ref x0)])) rfl rfl (hb hby dd_jdk_42_method_3_code_4)) ?_
  refine Go.st (g' := (mkF m 6 #[.val (.ref x0), .val (.ref s0)] [.null, (.int (3 : Int32)), (.int (0 : Int32)), (.ref s0), (.ref x0)])) (fun _ k => XS.aconstNull W0.here hx rfl (hb hby dd_jdk_42_method_3_code_5) k) ?_
  obtain ⟨_, vm1, T1, h1, W1, Q1, z1, SF1, st1⟩ := W0.callI hx hEL (own_i4_3_2 l hE W0.old (x0 := x0) (s0 := s0) (ks := ks) (dd := dd) (c1 := c1) (c2 := c2) (c3 := c3) (by omega) (by omega) hc1 hc2 hc3 hw1 hw2 hw3 P0 P1 P2 P3) rfl (hw _ (List.mem_of_getElem? (i := 66) rfl)) (hw _ (List.mem_of_getElem? (i := 67) rfl)) (hw _ (List.mem_of_getElem? (i := 7) rfl)) (hw _ (List.mem_of_getElem? (i := 68) rfl)) (by decide) (Wd := 0) (by decide) (by decide) (by decide) (by decide) (g := (mkF m 6 #[.val (.ref x0), .val (.ref s0)] [.null, (.int (3 : Int32)), (.int (0 : Int32)), (.ref s0), (.ref x0)])) rfl (by rw [hml]; rfl) (a := x0) (argsL := [(.ref s0), (.int (0 : Int32)), (.int (3 : Int32)), .null]) (rest := []) rfl (lenOf pd___CIILjava_lang_Void__V rfl) rfl (by show 2 * 0 + _ ≤ _; exact Nat.le_of_eq rfl) (hb hby dd_jdk_42_method_3_code_6)
  obtain ⟨t_1, kt_1, rfl, f1_0, f1_1, f1_2, K1⟩ := Q1
  have yf1_2 : h1.size > t_1 := f1_2.lt
  refine Go.tr (g' := (mkF m 9 #[.val (.ref x0), .val (.ref s0)] [])) st1 ?_
  exact W1.retV hx hEL hlk hret (hb hby dd_jdk_42_method_3_code_9) (by decide) (by decide) ⟨t_1, kt_1, rfl, f1_0, f1_1, f1_2, ((Keep.refl h0 [x0]).trans K1 (allS (Or.inl (List.mem_of_getElem? (i := 0) rfl)) all0))⟩
theorem own_i1_3 (l : Launch) {Z : State} {a0 : Array Value} (hE : Ctx Z a0) {n0 : Nat} {h0 : Heap} (O : Old Z n0 h0) {x0 : Addr} {s0 : Addr} {ks : ClassId} {dd : Value} {c1 : Int32} {c2 : Int32} {c3 : Int32} (hx0 : n0 ≤ x0) (hsx : ¬ @Eq Nat s0 x0) (hc1 : Chr c1) (hc2 : Chr c2) (hc3 : Chr c3) (hww : (255 : Int32) < c1 ∨ (255 : Int32) < c2 ∨ (255 : Int32) < c3) (P0 : Exa Z h0 x0 "java/lang/String") (P1 : Fld Z h0 x0 "java/lang/String" "value" "[B" .null) (P2 : Fld Z h0 x0 "java/lang/String" "coder" "B" (.int (0 : Int32))) (P3 : Arv Z h0 s0 ks .char (3 : Int32) [(.int c1), (.int c2), (.int c3)] dd) :
    Met l (⟨"java/lang/String", "<init>", "([C)V"⟩ : MethodName) jdk_42_method_3_code 2 (Option.none : Option Jvm.ClassFile.FieldType) ({ frames := 5, cells := 2, slots := 9, locals := 74 } : Room) Z consts_1 n0 [] #[(.ref x0), (.ref s0)] h0 (fun v h => ∃ (t : Addr), ∃ (kt : ClassId), v = none ∧ Fld Z h x0 "java/lang/String" "value" "[B" (.ref t) ∧ Fld Z h x0 "java/lang/String" "coder" "B" (.int (1 : Int32)) ∧ Arv Z h t kt .byte (6 : Int32) [(.int ((c1 >>> ((0 : Int32) &&& 31)).toInt8.toInt32)), (.int ((c1 >>> ((8 : Int32) &&& 31)).toInt8.toInt32)), (.int ((c2 >>> ((0 : Int32) &&& 31)).toInt8.toInt32)), (.int ((c2 >>> ((8 : Int32) &&& 31)).toInt8.toInt32)), (.int ((c3 >>> ((0 : Int32) &&& 31)).toInt8.toInt32)), (.int ((c3 >>> ((8 : Int32) &&& 31)).toInt8.toInt32))] (.int (0 : Int32)) ∧ Keep h0 h [x0]) := by
  by_cases hw1 : (255 : Int32) < c1
  · exact own_i1_3_0 l hE O hx0 hsx hc1 hc2 hc3 hw1 P0 P1 P2 P3
  · skip
    by_cases hw2 : (255 : Int32) < c2
    · exact own_i1_3_1 l hE O hx0 hsx hc1 hc2 hc3 hw1 hw2 P0 P1 P2 P3
    · skip
      by_cases hw3 : (255 : Int32) < c3
      · exact own_i1_3_2 l hE O hx0 hsx hc1 hc2 hc3 hw1 hw2 hw3 P0 P1 P2 P3
      · exact absurd hww (by simp only [hw1, hw2, hw3, or_self]; exact id)
set_option maxRecDepth 65536 in
set_option maxHeartbeats 4000000 in
theorem own_makeW3 (l : Launch) {Z : State} {a0 : Array Value} (hE : Ctx Z a0) {n0 : Nat} {h0 : Heap} (O : Old Z n0 h0) {c1 : Int32} {c2 : Int32} {c3 : Int32} (hc1 : Chr c1) (hc2 : Chr c2) (hc3 : Chr c3) (hww : (255 : Int32) < c1 ∨ (255 : Int32) < c2 ∨ (255 : Int32) < c3)  :
    Met l (⟨"com/example/ontoloom/ontoloom/sql/IriIsDataErrorPinLaw", "make", "(ICCC)Ljava/lang/String;"⟩ : MethodName) method_3_code 4 (Option.some (Jvm.ClassFile.FieldType.object "java/lang/String")) ({ frames := 6, cells := 4, slots := 16, locals := 88 } : Room) Z consts_1 n0 [] #[(.int (3 : Int32)), (.int c1), (.int c2), (.int c3)] h0 (fun v h => ∃ (x : Addr), ∃ (t : Addr), ∃ (kt : ClassId), v = some (.ref x) ∧ h0.size ≤ x ∧ Exa Z h x "java/lang/String" ∧ Fld Z h x "java/lang/String" "value" "[B" (.ref t) ∧ Fld Z h x "java/lang/String" "coder" "B" (.int (1 : Int32)) ∧ Arv Z h t kt .byte (6 : Int32) [(.int ((c1 >>> ((0 : Int32) &&& 31)).toInt8.toInt32)), (.int ((c1 >>> ((8 : Int32) &&& 31)).toInt8.toInt32)), (.int ((c2 >>> ((0 : Int32) &&& 31)).toInt8.toInt32)), (.int ((c2 >>> ((8 : Int32) &&& 31)).toInt8.toInt32)), (.int ((c3 >>> ((0 : Int32) &&& 31)).toInt8.toInt32)), (.int ((c3 >>> ((8 : Int32) &&& 31)).toInt8.toInt32))] (.int (0 : Int32)) ∧ Keep h0 h []) := by
  have hw := hE.1
  have hEL := own_EW hw
  have own_wS := own_stringAtoms hw
  refine Met.of (by first | (refine plainFor_of_name ?_; simp [plainName, overriddenIn]; done) | decide +kernel) O ?_
  intro p e s m below meth c T0 hx hby hml hret hlk hnm hh0 W0
  have z0 := W0.ge
  refine Go.st (g' := (mkF m 0 #[.val (.int (3 : Int32)), .val (.int c1), .val (.int c2), .val (.int c3)] [])) (fun _ k => castTop (by first | (simp [entryFrame, mkF, argsToLocals, maxLocals, own_catI, own_catJ, own_catD, own_catA, own_catN]; done) | rfl) k) ?_
  refine Go.st (g' := (mkF m 1 #[.val (.int (3 : Int32)), .val (.int c1), .val (.int c2), .val (.int c3)] [(.int (3 : Int32))])) (fun _ k => XS.iloadN W0.here hx rfl (hb hby dd_method_3_code_0) rfl  k) ?_
  refine Go.st (g' := (mkF m 15 #[.val (.int (3 : Int32)), .val (.int c1), .val (.int c2), .val (.int c3)] [])) (fun _ k => XS.ifYes W0.here hx rfl (pc0 := 1) (pc' := 15) rfl (hb hby dd_method_3_code_1) rfl ((if0 _ _).trans (feq (by decide)).2) (by decide) (by decide) k) ?_
  refine Go.st (g' := (mkF m 16 #[.val (.int (3 : Int32)), .val (.int c1), .val (.int c2), .val (.int c3)] [(.int (3 : Int32))])) (fun _ k => XS.iloadN W0.here hx rfl (hb hby dd_method_3_code_15) rfl  k) ?_
  refine Go.st (g' := (mkF m 17 #[.val (.int (3 : Int32)), .val (.int c1), .val (.int c2), .val (.int c3)] [(.int (1 : Int32)), (.int (3 : Int32))])) (fun _ k => XS.iconst W0.here hx rfl (hb hby dd_method_3_code_16) k) ?_
  refine Go.st (g' := (mkF m 25 #[.val (.int (3 : Int32)), .val (.int c1), .val (.int c2), .val (.int c3)] [])) (fun _ k => XS.icmpYes W0.here hx rfl (pc0 := 17) (pc' := 25) rfl (hb hby dd_method_3_code_17) rfl (feq (by decide)).2 (by decide) (by decide) k) ?_
  refine Go.st (g' := (mkF m 26 #[.val (.int (3 : Int32)), .val (.int c1), .val (.int c2), .val (.int c3)] [(.int (3 : Int32))])) (fun _ k => XS.iloadN W0.here hx rfl (hb hby dd_method_3_code_25) rfl  k) ?_
  refine Go.st (g' := (mkF m 27 #[.val (.int (3 : Int32)), .val (.int c1), .val (.int c2), .val (.int c3)] [(.int (2 : Int32)), (.int (3 : Int32))])) (fun _ k => XS.iconst W0.here hx rfl (hb hby dd_method_3_code_26) k) ?_
  refine Go.st (g' := (mkF m 49 #[.val (.int (3 : Int32)), .val (.int c1), .val (.int c2), .val (.int c3)] [])) (fun _ k => XS.icmpYes W0.here hx rfl (pc0 := 27) (pc' := 49) rfl (hb hby dd_method_3_code_27) rfl (feq (by decide)).2 (by decide) (by decide) k) ?_
  obtain ⟨T1, h1, a1, g1, W1, E1, z1, X1, D1, S1, SF1, U1, st1⟩ := W0.newO hx (hw _ (List.mem_of_getElem? (i := 61) rfl)) (hw _ (List.mem_of_getElem? (i := 15) rfl)) (hw _ (List.mem_of_getElem? (i := 7) rfl)) (g := (mkF m 49 #[.val (.int (3 : Int32)), .val (.int c1), .val (.int c2), .val (.int c3)] [])) rfl (hb hby dd_method_3_code_49) (by decide) (by decide)
  have F2 : Fld Z h1 a1 "java/lang/String" "value" "[B" .null := D1 (Or.inr (hw _ (List.mem_of_getElem? (i := 28) rfl))) (ty := (.array .byte)) (by decide)
  have F3 : Fld Z h1 a1 "java/lang/String" "coder" "B" (.int (0 : Int32)) := D1 (Or.inr (hw _ (List.mem_of_getElem? (i := 30) rfl))) (ty := .byte) (by decide)
  refine Go.st (g' := (mkF m 52 #[.val (.int (3 : Int32)), .val (.int c1), .val (.int c2), .val (.int c3)] [(.ref a1)])) st1 ?_
  refine Go.st (g' := (mkF m 53 #[.val (.int (3 : Int32)), .val (.int c1), .val (.int c2), .val (.int c3)] [(.ref a1), (.ref a1)])) (fun _ k => XS.dup W1.here hx rfl (hb hby dd_method_3_code_52) rfl rfl k) ?_
  refine Go.st (g' := (mkF m 54 #[.val (.int (3 : Int32)), .val (.int c1), .val (.int c2), .val (.int c3)] [(.int (3 : Int32)), (.ref a1), (.ref a1)])) (fun _ k => XS.iconst W1.here hx rfl (hb hby dd_method_3_code_53) k) ?_
  obtain ⟨T4, h4, a4, k4, g4, W4, E4, z4, X4, S4, SF4, st4⟩ := W1.newP hx (ty := .char) rfl (hw _ (List.mem_of_getElem? (i := 62) rfl)) (g := (mkF m 54 #[.val (.int (3 : Int32)), .val (.int c1), .val (.int c2), .val (.int c3)] [(.int (3 : Int32)), (.ref a1), (.ref a1)])) rfl (hb hby dd_method_3_code_54) rfl (by decide) (cap := 3) (by decide) (by decide) (by decide) (by decide) 3
  have F5 : Arv Z h4 a4 k4 .char (3 : Int32) [(.int (0 : Int32)), (.int (0 : Int32)), (.int (0 : Int32))] (.int (0 : Int32)) := X4
  refine Go.st (g' := (mkF m 56 #[.val (.int (3 : Int32)), .val (.int c1), .val (.int c2), .val (.int c3)] [(.ref a4), (.ref a1), (.ref a1)])) st4 ?_
  refine Go.st (g' := (mkF m 57 #[.val (.int (3 : Int32)), .val (.int c1), .val (.int c2), .val (.int c3)] [(.ref a4), (.ref a4), (.ref a1), (.ref a1)])) (fun _ k => XS.dup W4.here hx rfl (hb hby dd_method_3_code_56) rfl rfl k) ?_
  refine Go.st (g' := (mkF m 58 #[.val (.int (3 : Int32)), .val (.int c1), .val (.int c2), .val (.int c3)] [(.int (0 : Int32)), (.ref a4), (.ref a4), (.ref a1), (.ref a1)])) (fun _ k => XS.iconst W4.here hx rfl (hb hby dd_method_3_code_57) k) ?_
  refine Go.st (g' := (mkF m 59 #[.val (.int (3 : Int32)), .val (.int c1), .val (.int c2), .val (.int c3)] [(.int c1), (.int (0 : Int32)), (.ref a4), (.ref a4), (.ref a1), (.ref a1)])) (fun _ k => XS.iloadN W4.here hx rfl (hb hby dd_method_3_code_58) rfl  k) ?_
  obtain ⟨T6, h6, W6, R6, z6, X6, SF6, st6⟩ := W4.stC hx F5  ⟨by decide, by decide⟩ 0 rfl (Nat.le_of_ble_eq_true rfl) (by omega) (g := (mkF m 59 #[.val (.int (3 : Int32)), .val (.int c1), .val (.int c2), .val (.int c3)] [(.int c1), (.int (0 : Int32)), (.ref a4), (.ref a4), (.ref a1), (.ref a1)])) rfl rfl (hb hby dd_method_3_code_59)
  have F7 : Arv Z h6 a4 k4 .char (3 : Int32) [(.int c1), (.int (0 : Int32)), (.int (0 : Int32))] (.int (0 : Int32)) := (by have q := X6; rw [show nar .char c1 = c1 from own_narC hc1] at q; exact q)
  refine Go.st (g' := (mkF m 60 #[.val (.int (3 : Int32)), .val (.int c1), .val (.int c2), .val (.int c3)] [(.ref a4), (.ref a1), (.ref a1)])) st6 ?_
  refine Go.st (g' := (mkF m 61 #[.val (.int (3 : Int32)), .val (.int c1), .val (.int c2), .val (.int c3)] [(.ref a4), (.ref a4), (.ref a1), (.ref a1)])) (fun _ k => XS.dup W6.here hx rfl (hb hby dd_method_3_code_60) rfl rfl k) ?_
  refine Go.st (g' := (mkF m 62 #[.val (.int (3 : Int32)), .val (.int c1), .val (.int c2), .val (.int c3)] [(.int (1 : Int32)), (.ref a4), (.ref a4), (.ref a1), (.ref a1)])) (fun _ k => XS.iconst W6.here hx rfl (hb hby dd_method_3_code_61) k) ?_
  refine Go.st (g' := (mkF m 63 #[.val (.int (3 : Int32)), .val (.int c1), .val (.int c2), .val (.int c3)] [(.int c2), (.int (1 : Int32)), (.ref a4), (.ref a4), (.ref a1), (.ref a1)])) (fun _ k => XS.iloadN W6.here hx rfl (hb hby dd_method_3_code_62) rfl  k) ?_
  obtain ⟨T8, h8, W8, R8, z8, X8, SF8, st8⟩ := W6.stC hx F7  ⟨by decide, by decide⟩ 1 rfl (Nat.le_of_ble_eq_true rfl) (by omega) (g := (mkF m 63 #[.val (.int (3 : Int32)), .val (.int c1), .val (.int c2), .val (.int c3)] [(.int c2), (.int (1 : Int32)), (.ref a4), (.ref a4), (.ref a1), (.ref a1)])) rfl rfl (hb hby dd_method_3_code_63)
  have F9 : Arv Z h8 a4 k4 .char (3 : Int32) [(.int c1), (.int c2), (.int (0 : Int32))] (.int (0 : Int32)) := (by have q := X8; rw [show nar .char c2 = c2 from own_narC hc2] at q; exact q)
  refine Go.st (g' := (mkF m 64 #[.val (.int (3 : Int32)), .val (.int c1), .val (.int c2), .val (.int c3)] [(.ref a4), (.ref a1), (.ref a1)])) st8 ?_
  refine Go.st (g' := (mkF m 65 #[.val (.int (3 : Int32)), .val (.int c1), .val (.int c2), .val (.int c3)] [(.ref a4), (.ref a4), (.ref a1), (.ref a1)])) (fun _ k => XS.dup W8.here hx rfl (hb hby dd_method_3_code_64) rfl rfl k) ?_
  refine Go.st (g' := (mkF m 66 #[.val (.int (3 : Int32)), .val (.int c1), .val (.int c2), .val (.int c3)] [(.int (2 : Int32)), (.ref a4), (.ref a4), (.ref a1), (.ref a1)])) (fun _ k => XS.iconst W8.here hx rfl (hb hby dd_method_3_code_65) k) ?_
  refine Go.st (g' := (mkF m 67 #[.val (.int (3 : Int32)), .val (.int c1), .val (.int c2), .val (.int c3)] [(.int c3), (.int (2 : Int32)), (.ref a4), (.ref a4), (.ref a1), (.ref a1)])) (fun _ k => XS.iloadN W8.here hx rfl (hb hby dd_method_3_code_66) rfl  k) ?_
  obtain ⟨T10, h10, W10, R10, z10, X10, SF10, st10⟩ := W8.stC hx F9  ⟨by decide, by decide⟩ 2 rfl (Nat.le_of_ble_eq_true rfl) (by omega) (g := (mkF m 67 #[.val (.int (3 : Int32)), .val (.int c1), .val (.int c2), .val (.int c3)] [(.int c3), (.int (2 : Int32)), (.ref a4), (.ref a4), (.ref a1), (.ref a1)])) rfl rfl (hb hby dd_method_3_code_67)
  have F11 : Arv Z h10 a4 k4 .char (3 : Int32) [(.int c1), (.int c2), (.int c3)] (.int (0 : Int32)) := (by have q := X10; rw [show nar .char c3 = c3 from own_narC hc3] at q; exact q)
  refine Go.st (g' := (mkF m 68 #[.val (.int (3 : Int32)), .val (.int c1), .val (.int c2), .val (.int c3)] [(.ref a4), (.ref a1), (.ref a1)])) st10 ?_
  have F13 : Exa Z h10 a1 "java/lang/String" := ((((X1.ext E4).wr R6).wr R8).wr R10)
  have F14 : Fld Z h10 a1 "java/lang/String" "value" "[B" .null := ((((F2.ext E4).other R6 (Or.inl (own_ne (by omega)))).other R8 (Or.inl (own_ne (by omega)))).other R10 (Or.inl (own_ne (by omega))))
  have F15 : Fld Z h10 a1 "java/lang/String" "coder" "B" (.int (0 : Int32)) := ((((F3.ext E4).other R6 (Or.inl (own_ne (by omega)))).other R8 (Or.inl (own_ne (by omega)))).other R10 (Or.inl (own_ne (by omega))))
  obtain ⟨_, vm12, T12, h12, W12, Q12, z12, SF12, st12⟩ := W10.callI hx hEL (own_i1_3 l hE W10.old (x0 := a1) (s0 := a4) (ks := k4) (dd := (.int (0 : Int32))) (c1 := c1) (c2 := c2) (c3 := c3) (by omega) (by omega) hc1 hc2 hc3 hww F13 F14 F15 F11) rfl (hw _ (List.mem_of_getElem? (i := 63) rfl)) (hw _ (List.mem_of_getElem? (i := 64) rfl)) (hw _ (List.mem_of_getElem? (i := 7) rfl)) (hw _ (List.mem_of_getElem? (i := 65) rfl)) (by decide) (Wd := 1) (by decide) (by decide) (by decide) (by decide) (g := (mkF m 68 #[.val (.int (3 : Int32)), .val (.int c1), .val (.int c2), .val (.int c3)] [(.ref a4), (.ref a1), (.ref a1)])) rfl (by rw [hml]; rfl) (a := a1) (argsL := [(.ref a4)]) (rest := [(.ref a1)]) rfl (lenOf pd___C_V rfl) rfl (by show 2 * 0 + _ ≤ _; exact Nat.le_of_eq rfl) (hb hby dd_method_3_code_68)
  obtain ⟨t_12, kt_12, rfl, f12_0, f12_1, f12_2, K12⟩ := Q12
  have yf12_2 : h12.size > t_12 := f12_2.lt
  refine Go.tr (g' := (mkF m 71 #[.val (.int (3 : Int32)), .val (.int c1), .val (.int c2), .val (.int c3)] [(.ref a1)])) st12 ?_
  have F16 : Exa Z h12 a1 "java/lang/String" := (F13.keep K12)
  exact W12.retA hx hEL hlk hret rfl rfl rfl (hb hby dd_method_3_code_71) (by decide) (by decide) ⟨a1, t_12, kt_12, rfl, (by omega), F16, f12_0, f12_1, f12_2, (((((((Keep.refl h0 []).ext E1).ext E4).wr R6 (Or.inr (by omega))).wr R8 (Or.inr (by omega))).wr R10 (Or.inr (by omega))).trans K12 (allS (Or.inr (by omega)) all0))⟩
set_option maxRecDepth 65536 in
set_option maxHeartbeats 4000000 in
theorem own_deL0 (l : Launch) {Z : State} {a0 : Array Value} (hE : Ctx Z a0) {n0 : Nat} {h0 : Heap} (O : Old Z n0 h0) {x0 : Addr} {t0 : Addr}  (P0 : Exa Z h0 x0 "java/lang/String") (P1 : Str Z h0 x0 t0 []) :
    Met l (⟨"com/example/ontoloom/ontoloom/sql/Iri", "isDataError", "(Ljava/lang/String;)Z"⟩ : MethodName) prog_6_method_6_code 1 (Option.some Jvm.ClassFile.FieldType.boolean) ({ frames := 1, cells := 0, slots := 0, locals := 12 } : Room) Z consts_1 n0 [] #[(.ref x0)] h0 (fun v h => v = some (.int (0 : Int32)) ∧ h0 = h) := by
  have hw := hE.1
  have hEL := own_EW hw
  have own_wS := own_stringAtoms hw
  obtain ⟨zc, hzc, hzc0⟩ := hE.2.1
  obtain ⟨fm, hfm, rfm⟩ := hE.2.2.1
  have hem : ∀ d ∈ StrChars.Road.wordsEmp, d.before a0 Z = true := fun d hd => hw d ((by decide +kernel : ∀ d ∈ StrChars.Road.wordsEmp, d ∈ tables_1) d hd)
  have hch : ∀ d ∈ StrChars.Road.wordsChN, d.before a0 Z = true := fun d hd => hw d ((by decide +kernel : ∀ d ∈ StrChars.Road.wordsChN, d ∈ tables_1) d hd)
  refine Met.of (by first | (refine plainFor_of_name ?_; simp [plainName, overriddenIn]; done) | decide +kernel) O ?_
  intro p e s m below meth c T0 hx hby hml hret hlk hnm hh0 W0
  have z0 := W0.ge
  have yP0 : h0.size > x0 := P0.lt
  have yP1 : h0.size > x0 ∧ h0.size > t0 := P1.lt
  refine Go.st (g' := (mkF m 0 #[.val (.ref x0)] [])) (fun _ k => castTop (by first | (simp [entryFrame, mkF, argsToLocals, maxLocals, own_catI, own_catJ, own_catD, own_catA, own_catN]; done) | rfl) k) ?_
  refine Go.st (g' := (mkF m 1 #[.val (.ref x0)] [(.ref x0)])) (fun _ k => XS.aloadN W0.here hx rfl (hb hby dd_prog_6_method_6_code_0) rfl rfl  k) ?_
  obtain ⟨T1, W1, st1⟩ := W0.strEmp hx hem (hw _ (List.mem_of_getElem? (i := 15) rfl)) P1 (hw _ (List.mem_of_getElem? (i := 35) rfl)) (hw _ (List.mem_of_getElem? (i := 36) rfl)) (hw _ (List.mem_of_getElem? (i := 38) rfl)) (hw _ (List.mem_of_getElem? (i := 37) rfl)) (Wd := 0) (by decide) (by decide) (by decide) (by decide) (g := (mkF m 1 #[.val (.ref x0)] [(.ref x0)])) rfl (by rw [hml]; rfl) (rest := []) rfl (by show 2 * 0 + _ ≤ _; exact Nat.le_of_eq rfl) (hb hby dd_prog_6_method_6_code_1)
  refine Go.tr (g' := (mkF m 4 #[.val (.ref x0)] [(.int (1 : Int32))])) st1 ?_
  refine Go.st (g' := (mkF m 21 #[.val (.ref x0)] [])) (fun _ k => XS.ifYes W1.here hx rfl (pc0 := 4) (pc' := 21) rfl (hb hby dd_prog_6_method_6_code_4) rfl ((if0 _ _).trans (feq (by decide)).2) (by decide) (by decide) k) ?_
  refine Go.st (g' := (mkF m 22 #[.val (.ref x0)] [(.int (0 : Int32))])) (fun _ k => XS.iconst W1.here hx rfl (hb hby dd_prog_6_method_6_code_21) k) ?_
  exact W1.retN hx hEL hlk (t := .boolean) hret (by decide) (hb hby dd_prog_6_method_6_code_22) (by decide) (by decide) ⟨rfl, rfl⟩
set_option maxRecDepth 65536 in
set_option maxHeartbeats 4000000 in
theorem own_deL1 (l : Launch) {Z : State} {a0 : Array Value} (hE : Ctx Z a0) {n0 : Nat} {h0 : Heap} (O : Old Z n0 h0) {x0 : Addr} {t0 : Addr} {c1 : Int32} (hl1 : ¬ c1 < 0 ∧ ¬ (255 : Int32) < c1) (P0 : Exa Z h0 x0 "java/lang/String") (P1 : Str Z h0 x0 t0 [c1]) :
    Met l (⟨"com/example/ontoloom/ontoloom/sql/Iri", "isDataError", "(Ljava/lang/String;)Z"⟩ : MethodName) prog_6_method_6_code 1 (Option.some Jvm.ClassFile.FieldType.boolean) ({ frames := 4, cells := 0, slots := 0, locals := 53 } : Room) Z consts_1 n0 [] #[(.ref x0)] h0 (fun v h => v = some (.int (own_de c1)) ∧ h0 = h) := by
  have hw := hE.1
  have hEL := own_EW hw
  have own_wS := own_stringAtoms hw
  obtain ⟨zc, hzc, hzc0⟩ := hE.2.1
  obtain ⟨fm, hfm, rfm⟩ := hE.2.2.1
  have hem : ∀ d ∈ StrChars.Road.wordsEmp, d.before a0 Z = true := fun d hd => hw d ((by decide +kernel : ∀ d ∈ StrChars.Road.wordsEmp, d ∈ tables_1) d hd)
  have hch : ∀ d ∈ StrChars.Road.wordsChN, d.before a0 Z = true := fun d hd => hw d ((by decide +kernel : ∀ d ∈ StrChars.Road.wordsChN, d ∈ tables_1) d hd)
  refine Met.of (by first | (refine plainFor_of_name ?_; simp [plainName, overriddenIn]; done) | decide +kernel) O ?_
  intro p e s m below meth c T0 hx hby hml hret hlk hnm hh0 W0
  have z0 := W0.ge
  have yP0 : h0.size > x0 := P0.lt
  have yP1 : h0.size > x0 ∧ h0.size > t0 := P1.lt
  refine Go.st (g' := (mkF m 0 #[.val (.ref x0)] [])) (fun _ k => castTop (by first | (simp [entryFrame, mkF, argsToLocals, maxLocals, own_catI, own_catJ, own_catD, own_catA, own_catN]; done) | rfl) k) ?_
  refine Go.st (g' := (mkF m 1 #[.val (.ref x0)] [(.ref x0)])) (fun _ k => XS.aloadN W0.here hx rfl (hb hby dd_prog_6_method_6_code_0) rfl rfl  k) ?_
  obtain ⟨T1, W1, st1⟩ := W0.strEmp hx hem (hw _ (List.mem_of_getElem? (i := 15) rfl)) P1 (hw _ (List.mem_of_getElem? (i := 35) rfl)) (hw _ (List.mem_of_getElem? (i := 36) rfl)) (hw _ (List.mem_of_getElem? (i := 38) rfl)) (hw _ (List.mem_of_getElem? (i := 37) rfl)) (Wd := 0) (by decide) (by decide) (by decide) (by decide) (g := (mkF m 1 #[.val (.ref x0)] [(.ref x0)])) rfl (by rw [hml]; rfl) (rest := []) rfl (by show 2 * 0 + _ ≤ _; exact Nat.le_of_eq rfl) (hb hby dd_prog_6_method_6_code_1)
  refine Go.tr (g' := (mkF m 4 #[.val (.ref x0)] [(.int (0 : Int32))])) st1 ?_
  refine Go.st (g' := (mkF m 7 #[.val (.ref x0)] [])) (fun _ k => XS.ifNo W1.here hx rfl (hb hby dd_prog_6_method_6_code_4) rfl ((if0 _ _).trans (teq (by decide)).2) k) ?_
  refine Go.st (g' := (mkF m 8 #[.val (.ref x0)] [(.ref x0)])) (fun _ k => XS.aloadN W1.here hx rfl (hb hby dd_prog_6_method_6_code_7) rfl rfl  k) ?_
  refine Go.st (g' := (mkF m 9 #[.val (.ref x0)] [(.int (0 : Int32)), (.ref x0)])) (fun _ k => XS.iconst W1.here hx rfl (hb hby dd_prog_6_method_6_code_8) k) ?_
  obtain ⟨T2, W2, st2⟩ := W1.strChr hx hch (hw _ (List.mem_of_getElem? (i := 15) rfl)) P1 (own_allS hl1.2 own_all0) hzc hzc0 hfm rfm (i := 0) (j := (0 : Int32)) (Nat.le_of_ble_eq_true rfl) (by decide) (hw _ (List.mem_of_getElem? (i := 40) rfl)) (hw _ (List.mem_of_getElem? (i := 41) rfl)) (hw _ (List.mem_of_getElem? (i := 43) rfl)) (hw _ (List.mem_of_getElem? (i := 42) rfl)) (Wd := 0) (by decide) (by decide) (by decide) (by decide) (g := (mkF m 9 #[.val (.ref x0)] [(.int (0 : Int32)), (.ref x0)])) rfl (by rw [hml]; rfl) (rest := []) rfl (by show 2 * 0 + _ ≤ _; exact Nat.le_of_eq rfl) (hb hby dd_prog_6_method_6_code_9)
  refine Go.tr (g' := (mkF m 12 #[.val (.ref x0)] [(.int c1)])) st2 ?_
  refine Go.st (g' := (mkF m 14 #[.val (.ref x0)] [(.int (32 : Int32)), (.int c1)])) (fun _ k => XS.bipush W2.here hx rfl (hb hby dd_prog_6_method_6_code_12) k) ?_
  by_cases hc3 : c1 = (32 : Int32)
  · refine Go.st (g' := (mkF m 17 #[.val (.ref x0)] [])) (fun _ k => XS.icmpNo W2.here hx rfl (hb hby dd_prog_6_method_6_code_14) rfl (teq hc3).2 k) ?_
    refine Go.st (g' := (mkF m 18 #[.val (.ref x0)] [(.int (1 : Int32))])) (fun _ k => XS.iconst W2.here hx rfl (hb hby dd_prog_6_method_6_code_17) k) ?_
    refine Go.st (g' := (mkF m 22 #[.val (.ref x0)] [(.int (1 : Int32))])) (fun _ k => XS.goto W2.here hx rfl (pc0 := 18) (pc' := 22) rfl (hb hby dd_prog_6_method_6_code_18) (by decide) (by decide) k) ?_
    exact W2.retN hx hEL hlk (t := .boolean) hret (by decide) (hb hby dd_prog_6_method_6_code_22) (by decide) (by decide) ⟨(by unfold own_de; rw [if_pos hc3]; first | done | rfl), rfl⟩
  · refine Go.st (g' := (mkF m 21 #[.val (.ref x0)] [])) (fun _ k => XS.icmpYes W2.here hx rfl (pc0 := 14) (pc' := 21) rfl (hb hby dd_prog_6_method_6_code_14) rfl (feq hc3).2 (by decide) (by decide) k) ?_
    refine Go.st (g' := (mkF m 22 #[.val (.ref x0)] [(.int (0 : Int32))])) (fun _ k => XS.iconst W2.here hx rfl (hb hby dd_prog_6_method_6_code_21) k) ?_
    exact W2.retN hx hEL hlk (t := .boolean) hret (by decide) (hb hby dd_prog_6_method_6_code_22) (by decide) (by decide) ⟨(by unfold own_de; rw [if_neg hc3]; first | done | rfl), rfl⟩
set_option maxRecDepth 65536 in
set_option maxHeartbeats 4000000 in
theorem own_emp1 (l : Launch) {Z : State} {a0 : Array Value} (hE : Ctx Z a0) {n0 : Nat} {h0 : Heap} (O : Old Z n0 h0) {x0 : Addr} {b0 : Addr} {kb : ClassId} {vs0 : List Value} {dd : Value}  (P0 : Exa Z h0 x0 "java/lang/String") (P1 : Fld Z h0 x0 "java/lang/String" "value" "[B" (.ref b0)) (P2 : Arv Z h0 b0 kb .byte (2 : Int32) vs0 dd) :
    Met l (⟨"java/lang/String", "isEmpty", "()Z"⟩ : MethodName) jdk_42_method_55_code 1 (Option.some Jvm.ClassFile.FieldType.boolean) ({ frames := 0, cells := 0, slots := 0, locals := 0 } : Room) Z consts_1 n0 [] #[(.ref x0)] h0 (fun v h => v = some (.int (0 : Int32)) ∧ h0 = h) := by
  have hw := hE.1
  have hEL := own_EW hw
  have own_wS := own_stringAtoms hw
  have hE1 := own_E1 hw
  refine Met.of (by first | (refine plainFor_of_name ?_; simp [plainName, overriddenIn]; done) | decide +kernel) O ?_
  intro p e s m below meth c T0 hx hby hml hret hlk hnm hh0 W0
  have z0 := W0.ge
  have yP0 : h0.size > x0 := P0.lt
  have yP2 : h0.size > b0 := P2.lt
  refine Go.st (g' := (mkF m 0 #[.val (.ref x0)] [])) (fun _ k => castTop (by first | (simp [entryFrame, mkF, argsToLocals, maxLocals, own_catI, own_catJ, own_catD, own_catA, own_catN]; done) | rfl) k) ?_
  refine Go.st (g' := (mkF m 1 #[.val (.ref x0)] [(.ref x0)])) (fun _ k => XS.aloadN W0.here hx rfl (hb hby dd_jdk_42_method_55_code_0) rfl rfl  k) ?_
  obtain ⟨T1, W1, st1⟩ := W0.getF hx (hw _ (List.mem_of_getElem? (i := 27) rfl)) Via.refl P1 (g := (mkF m 1 #[.val (.ref x0)] [(.ref x0)])) rfl rfl (hb hby dd_jdk_42_method_55_code_1)
  refine Go.st (g' := (mkF m 4 #[.val (.ref x0)] [(.ref b0)])) st1 ?_
  refine Go.st (g' := (mkF m 5 #[.val (.ref x0)] [(.int (2 : Int32))])) (W1.len hx P2 (g := (mkF m 4 #[.val (.ref x0)] [(.ref b0)])) rfl rfl (hb hby dd_jdk_42_method_55_code_4)) ?_
  refine Go.st (g' := (mkF m 12 #[.val (.ref x0)] [])) (fun _ k => XS.ifYes W1.here hx rfl (pc0 := 5) (pc' := 12) rfl (hb hby dd_jdk_42_method_55_code_5) rfl ((if0 _ _).trans (feq (by decide)).2) (by decide) (by decide) k) ?_
  refine Go.st (g' := (mkF m 13 #[.val (.ref x0)] [(.int (0 : Int32))])) (fun _ k => XS.iconst W1.here hx rfl (hb hby dd_jdk_42_method_55_code_12) k) ?_
  exact W1.retN hx hEL hlk (t := .boolean) hret (by decide) (hb hby dd_jdk_42_method_55_code_13) (by decide) (by decide) ⟨rfl, rfl⟩
set_option maxRecDepth 65536 in
set_option maxHeartbeats 4000000 in
theorem own_pci (l : Launch) {Z : State} {a0 : Array Value} (hE : Ctx Z a0) {n0 : Nat} {h0 : Heap} (O : Old Z n0 h0) {i0 : Int32} {l0 : Int32} {v0 : Value} (rv0 : v0.isRef = true) (hi0 : ¬ i0 < (0 : Int32)) (hi1 : i0 < l0)  :
    Met l (⟨"jdk/internal/util/Preconditions", "checkIndex", "(IILjava/util/function/BiFunction;)I"⟩ : MethodName) jdk_41_method_11_code 3 (Option.some Jvm.ClassFile.FieldType.int) ({ frames := 0, cells := 0, slots := 0, locals := 0 } : Room) Z consts_1 n0 [] #[(.int i0), (.int l0), v0] h0 (fun v h => v = some (.int i0) ∧ h0 = h) := by
  have hw := hE.1
  have hEL := own_EW hw
  have own_wS := own_stringAtoms hw
  have hE1 := own_E1 hw
  refine Met.of (by first | (refine plainFor_of_name ?_; simp [plainName, overriddenIn]; done) | decide +kernel) O ?_
  intro p e s m below meth c T0 hx hby hml hret hlk hnm hh0 W0
  have z0 := W0.ge
  refine Go.st (g' := (mkF m 0 #[.val (.int i0), .val (.int l0), .val v0] [])) (fun _ k => castTop (by first | (simp [entryFrame, mkF, argsToLocals, maxLocals, own_catI, own_catJ, own_catD, own_catA, own_catN, own_cat rv0]; done) | rfl) k) ?_
  refine Go.st (g' := (mkF m 1 #[.val (.int i0), .val (.int l0), .val v0] [(.int i0)])) (fun _ k => XS.iloadN W0.here hx rfl (hb hby dd_jdk_41_method_11_code_0) rfl  k) ?_
  refine Go.st (g' := (mkF m 4 #[.val (.int i0), .val (.int l0), .val v0] [])) (fun _ k => XS.ifNo W0.here hx rfl (hb hby dd_jdk_41_method_11_code_1) rfl ((if0 _ _).trans (flt hi0).1) k) ?_
  refine Go.st (g' := (mkF m 5 #[.val (.int i0), .val (.int l0), .val v0] [(.int i0)])) (fun _ k => XS.iloadN W0.here hx rfl (hb hby dd_jdk_41_method_11_code_4) rfl  k) ?_
  refine Go.st (g' := (mkF m 6 #[.val (.int i0), .val (.int l0), .val v0] [(.int l0), (.int i0)])) (fun _ k => XS.iloadN W0.here hx rfl (hb hby dd_jdk_41_method_11_code_5) rfl  k) ?_
  refine Go.st (g' := (mkF m 16 #[.val (.int i0), .val (.int l0), .val v0] [])) (fun _ k => XS.icmpYes W0.here hx rfl (pc0 := 6) (pc' := 16) rfl (hb hby dd_jdk_41_method_11_code_6) rfl (tlt hi1).1 (by decide) (by decide) k) ?_
  refine Go.st (g' := (mkF m 17 #[.val (.int i0), .val (.int l0), .val v0] [(.int i0)])) (fun _ k => XS.iloadN W0.here hx rfl (hb hby dd_jdk_41_method_11_code_16) rfl  k) ?_
  exact W0.retI hx hEL hlk hret (hb hby dd_jdk_41_method_11_code_17) (by decide) (by decide) ⟨rfl, rfl⟩
set_option maxRecDepth 65536 in
set_option maxHeartbeats 4000000 in
theorem own_sci (l : Launch) {Z : State} {a0 : Array Value} (hE : Ctx Z a0) {n0 : Nat} {h0 : Heap} (O : Old Z n0 h0) {i0 : Int32} {l0 : Int32} (hi0 : ¬ i0 < (0 : Int32)) (hi1 : i0 < l0)  :
    Met l (⟨"java/lang/String", "checkIndex", "(II)V"⟩ : MethodName) jdk_42_method_155_code 2 (Option.none : Option Jvm.ClassFile.FieldType) ({ frames := 1, cells := 0, slots := 0, locals := 14 } : Room) Z consts_1 n0 [] #[(.int i0), (.int l0)] h0 (fun v h => v = none ∧ h0 = h) := by
  have hw := hE.1
  have hEL := own_EW hw
  have own_wS := own_stringAtoms hw
  have hE1 := own_E1 hw
  obtain ⟨fm, hfm, rfm⟩ := hE.2.2.1
  refine Met.of (by first | (refine plainFor_of_name ?_; simp [plainName, overriddenIn]; done) | decide +kernel) O ?_
  intro p e s m below meth c T0 hx hby hml hret hlk hnm hh0 W0
  have z0 := W0.ge
  refine Go.st (g' := (mkF m 0 #[.val (.int i0), .val (.int l0)] [])) (fun _ k => castTop (by first | (simp [entryFrame, mkF, argsToLocals, maxLocals, own_catI, own_catJ, own_catD, own_catA, own_catN]; done) | rfl) k) ?_
  refine Go.st (g' := (mkF m 1 #[.val (.int i0), .val (.int l0)] [(.int i0)])) (fun _ k => XS.iloadN W0.here hx rfl (hb hby dd_jdk_42_method_155_code_0) rfl  k) ?_
  refine Go.st (g' := (mkF m 2 #[.val (.int i0), .val (.int l0)] [(.int l0), (.int i0)])) (fun _ k => XS.iloadN W0.here hx rfl (hb hby dd_jdk_42_method_155_code_1) rfl  k) ?_
  obtain ⟨T1, W1, st1⟩ := W0.getS hx (hw _ (List.mem_of_getElem? (i := 56) rfl)) Via.refl (W0.sta hfm) (g := (mkF m 2 #[.val (.int i0), .val (.int l0)] [(.int l0), (.int i0)])) rfl (hb hby dd_jdk_42_method_155_code_2)
  refine Go.st (g' := (mkF m 5 #[.val (.int i0), .val (.int l0)] [fm, (.int l0), (.int i0)])) st1 ?_
  obtain ⟨_, vm2, T2, h2, W2, Q2, z2, SF2, st2⟩ := W1.callS hx hEL (own_pci l hE W1.old (i0 := i0) (l0 := l0) (v0 := fm) rfm hi0 hi1 ) (hw _ (List.mem_of_getElem? (i := 58) rfl)) (hw _ (List.mem_of_getElem? (i := 59) rfl)) (hw _ (List.mem_of_getElem? (i := 57) rfl)) (hw _ (List.mem_of_getElem? (i := 60) rfl)) (by decide) (Wd := 0) (by decide) (by decide) (by decide) (by decide) (g := (mkF m 5 #[.val (.int i0), .val (.int l0)] [fm, (.int l0), (.int i0)])) rfl (by rw [hml]; rfl) (argsL := [(.int i0), (.int l0), fm]) (rest := []) rfl (lenOf pd__IILjava_util_function_BiFunction__I rfl) rfl (by show 2 * 0 + _ ≤ _; exact Nat.le_of_eq rfl) (hb hby dd_jdk_42_method_155_code_5)
  obtain ⟨rfl, eh2⟩ := Q2
  subst eh2
  refine Go.tr (g' := (mkF m 8 #[.val (.int i0), .val (.int l0)] [(.int i0)])) st2 ?_
  refine Go.st (g' := (mkF m 9 #[.val (.int i0), .val (.int l0)] [])) (fun _ k => XS.pop W2.here hx rfl (hb hby dd_jdk_42_method_155_code_8) rfl rfl k) ?_
  exact W2.retV hx hEL hlk hret (hb hby dd_jdk_42_method_155_code_9) (by decide) (by decide) ⟨rfl, rfl⟩
set_option maxRecDepth 65536 in
set_option maxHeartbeats 4000000 in
theorem own_isl (l : Launch) {Z : State} {a0 : Array Value} (hE : Ctx Z a0) {n0 : Nat} {h0 : Heap} (O : Old Z n0 h0) {x0 : Addr}  (P0 : Fld Z h0 x0 "java/lang/String" "coder" "B" (.int (1 : Int32))) :
    Met l (⟨"java/lang/String", "isLatin1", "()Z"⟩ : MethodName) jdk_42_method_154_code 1 (Option.some Jvm.ClassFile.FieldType.boolean) ({ frames := 0, cells := 0, slots := 0, locals := 0 } : Room) Z consts_1 n0 [] #[(.ref x0)] h0 (fun v h => v = some (.int (0 : Int32)) ∧ h0 = h) := by
  have hw := hE.1
  have hEL := own_EW hw
  have own_wS := own_stringAtoms hw
  have hE1 := own_E1 hw
  obtain ⟨zc, hzc, hzc0⟩ := hE.2.1
  refine Met.of (by first | (refine plainFor_of_name ?_; simp [plainName, overriddenIn]; done) | decide +kernel) O ?_
  intro p e s m below meth c T0 hx hby hml hret hlk hnm hh0 W0
  have z0 := W0.ge
  refine Go.st (g' := (mkF m 0 #[.val (.ref x0)] [])) (fun _ k => castTop (by first | (simp [entryFrame, mkF, argsToLocals, maxLocals, own_catI, own_catJ, own_catD, own_catA, own_catN]; done) | rfl) k) ?_
  obtain ⟨T1, W1, st1⟩ := W0.getS hx (hw _ (List.mem_of_getElem? (i := 9) rfl)) Via.refl (W0.sta hzc) (g := (mkF m 0 #[.val (.ref x0)] [])) rfl (hb hby dd_jdk_42_method_154_code_0)
  refine Go.st (g' := (mkF m 3 #[.val (.ref x0)] [(.int zc)])) st1 ?_
  refine Go.st (g' := (mkF m 6 #[.val (.ref x0)] [])) (fun _ k => XS.ifNo W1.here hx rfl (hb hby dd_jdk_42_method_154_code_3) rfl ((if0 _ _).trans (feq hzc0).1) k) ?_
  refine Go.st (g' := (mkF m 7 #[.val (.ref x0)] [(.ref x0)])) (fun _ k => XS.aloadN W1.here hx rfl (hb hby dd_jdk_42_method_154_code_6) rfl rfl  k) ?_
  obtain ⟨T2, W2, st2⟩ := W1.getF hx (hw _ (List.mem_of_getElem? (i := 29) rfl)) Via.refl P0 (g := (mkF m 7 #[.val (.ref x0)] [(.ref x0)])) rfl rfl (hb hby dd_jdk_42_method_154_code_7)
  refine Go.st (g' := (mkF m 10 #[.val (.ref x0)] [(.int (1 : Int32))])) st2 ?_
  refine Go.st (g' := (mkF m 17 #[.val (.ref x0)] [])) (fun _ k => XS.ifYes W2.here hx rfl (pc0 := 10) (pc' := 17) rfl (hb hby dd_jdk_42_method_154_code_10) rfl ((if0 _ _).trans (feq (by decide)).2) (by decide) (by decide) k) ?_
  refine Go.st (g' := (mkF m 18 #[.val (.ref x0)] [(.int (0 : Int32))])) (fun _ k => XS.iconst W2.here hx rfl (hb hby dd_jdk_42_method_154_code_17) k) ?_
  exact W2.retN hx hEL hlk (t := .boolean) hret (by decide) (hb hby dd_jdk_42_method_154_code_18) (by decide) (by decide) ⟨rfl, rfl⟩
set_option maxRecDepth 65536 in
set_option maxHeartbeats 4000000 in
theorem own_ul1 (l : Launch) {Z : State} {a0 : Array Value} (hE : Ctx Z a0) {n0 : Nat} {h0 : Heap} (O : Old Z n0 h0) {b0 : Addr} {kb : ClassId} {vs0 : List Value} {dd : Value}  (P0 : Arv Z h0 b0 kb .byte (2 : Int32) vs0 dd) :
    Met l (⟨"java/lang/StringUTF16", "length", "([B)I"⟩ : MethodName) jdk_52_method_6_code 1 (Option.some Jvm.ClassFile.FieldType.int) ({ frames := 0, cells := 0, slots := 0, locals := 0 } : Room) Z consts_1 n0 [] #[(.ref b0)] h0 (fun v h => v = some (.int (1 : Int32)) ∧ h0 = h) := by
  have hw := hE.1
  have hEL := own_EW hw
  have own_wS := own_stringAtoms hw
  have hE1 := own_E1 hw
  refine Met.of (by first | (refine plainFor_of_name ?_; simp [plainName, overriddenIn]; done) | decide +kernel) O ?_
  intro p e s m below meth c T0 hx hby hml hret hlk hnm hh0 W0
  have z0 := W0.ge
  have yP0 : h0.size > b0 := P0.lt
  refine Go.st (g' := (mkF m 0 #[.val (.ref b0)] [])) (fun _ k => castTop (by first | (simp [entryFrame, mkF, argsToLocals, maxLocals, own_catI, own_catJ, own_catD, own_catA, own_catN]; done) | rfl) k) ?_
  refine Go.st (g' := (mkF m 1 #[.val (.ref b0)] [(.ref b0)])) (fun _ k => XS.aloadN W0.here hx rfl (hb hby dd_jdk_52_method_6_code_0) rfl rfl  k) ?_
  refine Go.st (g' := (mkF m 2 #[.val (.ref b0)] [(.int (2 : Int32))])) (W0.len hx P0 (g := (mkF m 1 #[.val (.ref b0)] [(.ref b0)])) rfl rfl (hb hby dd_jdk_52_method_6_code_1)) ?_
  refine Go.st (g' := (mkF m 3 #[.val (.ref b0)] [(.int (1 : Int32)), (.int (2 : Int32))])) (fun _ k => XS.iconst W0.here hx rfl (hb hby dd_jdk_52_method_6_code_2) k) ?_
  refine Go.st (g' := (mkF m 4 #[.val (.ref b0)] [(.int (1 : Int32))])) (fun _ k => XS.ishr W0.here hx rfl (hb hby dd_jdk_52_method_6_code_3) rfl k) ?_
  exact W0.retI hx hEL hlk hret (hb hby dd_jdk_52_method_6_code_4) (by decide) (by decide) ⟨rfl, rfl⟩
set_option maxRecDepth 65536 in
set_option maxHeartbeats 4000000 in
theorem own_uci1_0 (l : Launch) {Z : State} {a0 : Array Value} (hE : Ctx Z a0) {n0 : Nat} {h0 : Heap} (O : Old Z n0 h0) {b0 : Addr} {kb : ClassId} {vs0 : List Value} {dd : Value}  (P0 : Arv Z h0 b0 kb .byte (2 : Int32) vs0 dd) :
    Met l (⟨"java/lang/StringUTF16", "checkIndex", "(I[B)V"⟩ : MethodName) jdk_52_method_91_code 2 (Option.none : Option Jvm.ClassFile.FieldType) ({ frames := 2, cells := 0, slots := 0, locals := 27 } : Room) Z consts_1 n0 [] #[(.int (0 : Int32)), (.ref b0)] h0 (fun v h => v = none ∧ h0 = h) := by
  have hw := hE.1
  have hEL := own_EW hw
  have own_wS := own_stringAtoms hw
  have hE1 := own_E1 hw
  refine Met.of (by first | (refine plainFor_of_name ?_; simp [plainName, overriddenIn]; done) | decide +kernel) O ?_
  intro p e s m below meth c T0 hx hby hml hret hlk hnm hh0 W0
  have z0 := W0.ge
  have yP0 : h0.size > b0 := P0.lt
  refine Go.st (g' := (mkF m 0 #[.val (.int (0 : Int32)), .val (.ref b0)] [])) (fun _ k => castTop (by first | (simp [entryFrame, mkF, argsToLocals, maxLocals, own_catI, own_catJ, own_catD, own_catA, own_catN]; done) | rfl) k) ?_
  refine Go.st (g' := (mkF m 1 #[.val (.int (0 : Int32)), .val (.ref b0)] [(.int (0 : Int32))])) (fun _ k => XS.iloadN W0.here hx rfl (hb hby dd_jdk_52_method_91_code_0) rfl  k) ?_
  refine Go.st (g' := (mkF m 2 #[.val (.int (0 : Int32)), .val (.ref b0)] [(.ref b0), (.int (0 : Int32))])) (fun _ k => XS.aloadN W0.here hx rfl (hb hby dd_jdk_52_method_91_code_1) rfl rfl  k) ?_
  obtain ⟨_, vm1, T1, h1, W1, Q1, z1, SF1, st1⟩ := W0.callS hx hEL (own_ul1 l hE W0.old (b0 := b0) (kb := kb) (vs0 := vs0) (dd := dd)  P0) (hw _ (List.mem_of_getElem? (i := 107) rfl)) (hw _ (List.mem_of_getElem? (i := 108) rfl)) (hw _ (List.mem_of_getElem? (i := 71) rfl)) (hw _ (List.mem_of_getElem? (i := 109) rfl)) (by decide) (Wd := 1) (by decide) (by decide) (by decide) (by decide) (g := (mkF m 2 #[.val (.int (0 : Int32)), .val (.ref b0)] [(.ref b0), (.int (0 : Int32))])) rfl (by rw [hml]; rfl) (argsL := [(.ref b0)]) (rest := [(.int (0 : Int32))]) rfl (lenOf pd___B_I rfl) rfl (by show 2 * 0 + _ ≤ _; exact Nat.le_of_eq rfl) (hb hby dd_jdk_52_method_91_code_2)
  obtain ⟨rfl, eh1⟩ := Q1
  subst eh1
  refine Go.tr (g' := (mkF m 5 #[.val (.int (0 : Int32)), .val (.ref b0)] [(.int (1 : Int32)), (.int (0 : Int32))])) st1 ?_
  obtain ⟨_, vm2, T2, h2, W2, Q2, z2, SF2, st2⟩ := W1.callS hx hEL (own_sci l hE W1.old (i0 := (0 : Int32)) (l0 := (1 : Int32)) (by decide) (by decide) ) (hw _ (List.mem_of_getElem? (i := 110) rfl)) (hw _ (List.mem_of_getElem? (i := 54) rfl)) (hw _ (List.mem_of_getElem? (i := 7) rfl)) (hw _ (List.mem_of_getElem? (i := 55) rfl)) (by decide) (Wd := 0) (by decide) (by decide) (by decide) (by decide) (g := (mkF m 5 #[.val (.int (0 : Int32)), .val (.ref b0)] [(.int (1 : Int32)), (.int (0 : Int32))])) rfl (by rw [hml]; rfl) (argsL := [(.int (0 : Int32)), (.int (1 : Int32))]) (rest := []) rfl (lenOf pd__II_V rfl) rfl (by show 2 * 0 + _ ≤ _; exact Nat.le_of_eq rfl) (hb hby dd_jdk_52_method_91_code_5)
  obtain ⟨rfl, eh2⟩ := Q2
  subst eh2
  refine Go.tr (g' := (mkF m 8 #[.val (.int (0 : Int32)), .val (.ref b0)] [])) st2 ?_
  exact W2.retV hx hEL hlk hret (hb hby dd_jdk_52_method_91_code_8) (by decide) (by decide) ⟨rfl, rfl⟩
set_option maxRecDepth 65536 in
set_option maxHeartbeats 4000000 in
theorem own_uch1_0 (l : Launch) {Z : State} {a0 : Array Value} (hE : Ctx Z a0) {n0 : Nat} {h0 : Heap} (O : Old Z n0 h0) {b0 : Addr} {kb : ClassId} {c1 : Int32} (hc1 : Chr c1) (P0 : Arv Z h0 b0 kb .byte (2 : Int32) [(.int ((c1 >>> ((0 : Int32) &&& 31)).toInt8.toInt32)), (.int ((c1 >>> ((8 : Int32) &&& 31)).toInt8.toInt32))] (.int (0 : Int32))) :
    Met l (⟨"java/lang/StringUTF16", "charAt", "([BI)C"⟩ : MethodName) jdk_52_method_83_code 2 (Option.some Jvm.ClassFile.FieldType.char) ({ frames := 3, cells := 0, slots := 0, locals := 40 } : Room) Z consts_1 n0 [] #[(.ref b0), (.int (0 : Int32))] h0 (fun v h => v = some (.int c1) ∧ h0 = h) := by
  have hw := hE.1
  have hEL := own_EW hw
  have own_wS := own_stringAtoms hw
  have hE1 := own_E1 hw
  refine Met.of (by first | (refine plainFor_of_name ?_; simp [plainName, overriddenIn]; done) | decide +kernel) O ?_
  intro p e s m below meth c T0 hx hby hml hret hlk hnm hh0 W0
  have z0 := W0.ge
  have yP0 : h0.size > b0 := P0.lt
  refine Go.st (g' := (mkF m 0 #[.val (.ref b0), .val (.int (0 : Int32))] [])) (fun _ k => castTop (by first | (simp [entryFrame, mkF, argsToLocals, maxLocals, own_catI, own_catJ, own_catD, own_catA, own_catN]; done) | rfl) k) ?_
  refine Go.st (g' := (mkF m 1 #[.val (.ref b0), .val (.int (0 : Int32))] [(.int (0 : Int32))])) (fun _ k => XS.iloadN W0.here hx rfl (hb hby dd_jdk_52_method_83_code_0) rfl  k) ?_
  refine Go.st (g' := (mkF m 2 #[.val (.ref b0), .val (.int (0 : Int32))] [(.ref b0), (.int (0 : Int32))])) (fun _ k => XS.aloadN W0.here hx rfl (hb hby dd_jdk_52_method_83_code_1) rfl rfl  k) ?_
  obtain ⟨_, vm1, T1, h1, W1, Q1, z1, SF1, st1⟩ := W0.callS hx hEL (own_uci1_0 l hE W0.old (b0 := b0) (kb := kb) (vs0 := [(.int ((c1 >>> ((0 : Int32) &&& 31)).toInt8.toInt32)), (.int ((c1 >>> ((8 : Int32) &&& 31)).toInt8.toInt32))]) (dd := (.int (0 : Int32)))  P0) (hw _ (List.mem_of_getElem? (i := 104) rfl)) (hw _ (List.mem_of_getElem? (i := 105) rfl)) (hw _ (List.mem_of_getElem? (i := 71) rfl)) (hw _ (List.mem_of_getElem? (i := 106) rfl)) (by decide) (Wd := 0) (by decide) (by decide) (by decide) (by decide) (g := (mkF m 2 #[.val (.ref b0), .val (.int (0 : Int32))] [(.ref b0), (.int (0 : Int32))])) rfl (by rw [hml]; rfl) (argsL := [(.int (0 : Int32)), (.ref b0)]) (rest := []) rfl (lenOf pd__I_B_V rfl) rfl (by show 2 * 0 + _ ≤ _; exact Nat.le_of_eq rfl) (hb hby dd_jdk_52_method_83_code_2)
  obtain ⟨rfl, eh1⟩ := Q1
  subst eh1
  refine Go.tr (g' := (mkF m 5 #[.val (.ref b0), .val (.int (0 : Int32))] [])) st1 ?_
  refine Go.st (g' := (mkF m 6 #[.val (.ref b0), .val (.int (0 : Int32))] [(.ref b0)])) (fun _ k => XS.aloadN W1.here hx rfl (hb hby dd_jdk_52_method_83_code_5) rfl rfl  k) ?_
  refine Go.st (g' := (mkF m 7 #[.val (.ref b0), .val (.int (0 : Int32))] [(.int (0 : Int32)), (.ref b0)])) (fun _ k => XS.iloadN W1.here hx rfl (hb hby dd_jdk_52_method_83_code_6) rfl  k) ?_
  obtain ⟨_, vm2, T2, h2, W2, Q2, z2, SF2, st2⟩ := W1.callS hx hEL (own_get0 l hE W1.old (b0 := b0) (kb := kb) (zz := (2 : Int32)) (vs0 := [(.int ((c1 >>> ((0 : Int32) &&& 31)).toInt8.toInt32)), (.int ((c1 >>> ((8 : Int32) &&& 31)).toInt8.toInt32))]) (dd := (.int (0 : Int32))) (c0 := c1) hc1 (by decide) (by decide) rfl rfl P0) (hw _ (List.mem_of_getElem? (i := 98) rfl)) (hw _ (List.mem_of_getElem? (i := 99) rfl)) (hw _ (List.mem_of_getElem? (i := 71) rfl)) (hw _ (List.mem_of_getElem? (i := 100) rfl)) (by decide) (Wd := 0) (by decide) (by decide) (by decide) (by decide) (g := (mkF m 7 #[.val (.ref b0), .val (.int (0 : Int32))] [(.int (0 : Int32)), (.ref b0)])) rfl (by rw [hml]; rfl) (argsL := [(.ref b0), (.int (0 : Int32))]) (rest := []) rfl (lenOf pd___BI_C rfl) rfl (by show 2 * 0 + _ ≤ _; exact Nat.le_of_eq rfl) (hb hby dd_jdk_52_method_83_code_7)
  obtain ⟨rfl, eh2⟩ := Q2
  subst eh2
  refine Go.tr (g' := (mkF m 10 #[.val (.ref b0), .val (.int (0 : Int32))] [(.int c1)])) st2 ?_
  exact W2.retN hx hEL hlk (t := .char) hret (by decide) (hb hby dd_jdk_52_method_83_code_10) (by decide) (by decide) ⟨(congrArg (fun x => some (Value.int x)) (own_narC hc1)), rfl⟩
set_option maxRecDepth 65536 in
set_option maxHeartbeats 4000000 in
theorem own_sch1_0 (l : Launch) {Z : State} {a0 : Array Value} (hE : Ctx Z a0) {n0 : Nat} {h0 : Heap} (O : Old Z n0 h0) {x0 : Addr} {b0 : Addr} {kb : ClassId} {c1 : Int32} (hc1 : Chr c1) (P0 : Exa Z h0 x0 "java/lang/String") (P1 : Fld Z h0 x0 "java/lang/String" "value" "[B" (.ref b0)) (P2 : Fld Z h0 x0 "java/lang/String" "coder" "B" (.int (1 : Int32))) (P3 : Arv Z h0 b0 kb .byte (2 : Int32) [(.int ((c1 >>> ((0 : Int32) &&& 31)).toInt8.toInt32)), (.int ((c1 >>> ((8 : Int32) &&& 31)).toInt8.toInt32))] (.int (0 : Int32))) :
    Met l (⟨"java/lang/String", "charAt", "(I)C"⟩ : MethodName) jdk_42_method_56_code 2 (Option.some Jvm.ClassFile.FieldType.char) ({ frames := 4, cells := 0, slots := 0, locals := 53 } : Room) Z consts_1 n0 [] #[(.ref x0), (.int (0 : Int32))] h0 (fun v h => v = some (.int c1) ∧ h0 = h) := by
  have hw := hE.1
  have hEL := own_EW hw
  have own_wS := own_stringAtoms hw
  have hE1 := own_E1 hw
  refine Met.of (by first | (refine plainFor_of_name ?_; simp [plainName, overriddenIn]; done) | decide +kernel) O ?_
  intro p e s m below meth c T0 hx hby hml hret hlk hnm hh0 W0
  have z0 := W0.ge
  have yP0 : h0.size > x0 := P0.lt
  have yP3 : h0.size > b0 := P3.lt
  refine Go.st (g' := (mkF m 0 #[.val (.ref x0), .val (.int (0 : Int32))] [])) (fun _ k => castTop (by first | (simp [entryFrame, mkF, argsToLocals, maxLocals, own_catI, own_catJ, own_catD, own_catA, own_catN]; done) | rfl) k) ?_
  refine Go.st (g' := (mkF m 1 #[.val (.ref x0), .val (.int (0 : Int32))] [(.ref x0)])) (fun _ k => XS.aloadN W0.here hx rfl (hb hby dd_jdk_42_method_56_code_0) rfl rfl  k) ?_
  obtain ⟨_, vm1, T1, h1, W1, Q1, z1, SF1, st1⟩ := W0.callV hx hEL (own_isl l hE W0.old (x0 := x0)  P2) (hw _ (List.mem_of_getElem? (i := 45) rfl)) (hw _ (List.mem_of_getElem? (i := 46) rfl)) (hw _ (List.mem_of_getElem? (i := 48) rfl)) (hw _ (List.mem_of_getElem? (i := 47) rfl)) (hw _ (List.mem_of_getElem? (i := 7) rfl)) (hw _ (List.mem_of_getElem? (i := 49) rfl)) (by decide) (Wd := 0) (by decide) (by decide) (by decide) (by decide) (g := (mkF m 1 #[.val (.ref x0), .val (.int (0 : Int32))] [(.ref x0)])) rfl (by rw [hml]; rfl) (a := x0) P0 (argsL := []) (rest := []) rfl (lenOf pd___Z rfl) rfl (by show 2 * 0 + _ ≤ _; exact Nat.le_of_eq rfl) (hb hby dd_jdk_42_method_56_code_1)
  obtain ⟨rfl, eh1⟩ := Q1
  subst eh1
  refine Go.tr (g' := (mkF m 4 #[.val (.ref x0), .val (.int (0 : Int32))] [(.int (0 : Int32))])) st1 ?_
  refine Go.st (g' := (mkF m 16 #[.val (.ref x0), .val (.int (0 : Int32))] [])) (fun _ k => XS.ifYes W1.here hx rfl (pc0 := 4) (pc' := 16) rfl (hb hby dd_jdk_42_method_56_code_4) rfl ((if0 _ _).trans (teq (by decide)).1) (by decide) (by decide) k) ?_
  refine Go.st (g' := (mkF m 17 #[.val (.ref x0), .val (.int (0 : Int32))] [(.ref x0)])) (fun _ k => XS.aloadN W1.here hx rfl (hb hby dd_jdk_42_method_56_code_16) rfl rfl  k) ?_
  obtain ⟨T2, W2, st2⟩ := W1.getF hx (hw _ (List.mem_of_getElem? (i := 27) rfl)) Via.refl P1 (g := (mkF m 17 #[.val (.ref x0), .val (.int (0 : Int32))] [(.ref x0)])) rfl rfl (hb hby dd_jdk_42_method_56_code_17)
  refine Go.st (g' := (mkF m 20 #[.val (.ref x0), .val (.int (0 : Int32))] [(.ref b0)])) st2 ?_
  refine Go.st (g' := (mkF m 21 #[.val (.ref x0), .val (.int (0 : Int32))] [(.int (0 : Int32)), (.ref b0)])) (fun _ k => XS.iloadN W2.here hx rfl (hb hby dd_jdk_42_method_56_code_20) rfl  k) ?_
  obtain ⟨_, vm3, T3, h3, W3, Q3, z3, SF3, st3⟩ := W2.callS hx hEL (own_uch1_0 l hE W2.old (b0 := b0) (kb := kb) (c1 := c1) hc1 P3) (hw _ (List.mem_of_getElem? (i := 101) rfl)) (hw _ (List.mem_of_getElem? (i := 102) rfl)) (hw _ (List.mem_of_getElem? (i := 71) rfl)) (hw _ (List.mem_of_getElem? (i := 103) rfl)) (by decide) (Wd := 0) (by decide) (by decide) (by decide) (by decide) (g := (mkF m 21 #[.val (.ref x0), .val (.int (0 : Int32))] [(.int (0 : Int32)), (.ref b0)])) rfl (by rw [hml]; rfl) (argsL := [(.ref b0), (.int (0 : Int32))]) (rest := []) rfl (lenOf pd___BI_C rfl) rfl (by show 2 * 0 + _ ≤ _; exact Nat.le_of_eq rfl) (hb hby dd_jdk_42_method_56_code_21)
  obtain ⟨rfl, eh3⟩ := Q3
  subst eh3
  refine Go.tr (g' := (mkF m 24 #[.val (.ref x0), .val (.int (0 : Int32))] [(.int c1)])) st3 ?_
  exact W3.retN hx hEL hlk (t := .char) hret (by decide) (hb hby dd_jdk_42_method_56_code_24) (by decide) (by decide) ⟨(congrArg (fun x => some (Value.int x)) (own_narC hc1)), rfl⟩
set_option maxRecDepth 65536 in
set_option maxHeartbeats 4000000 in
theorem own_deW1 (l : Launch) {Z : State} {a0 : Array Value} (hE : Ctx Z a0) {n0 : Nat} {h0 : Heap} (O : Old Z n0 h0) {x0 : Addr} {t0 : Addr} {kt : ClassId} {c1 : Int32} (hc1 : Chr c1) (P0 : Exa Z h0 x0 "java/lang/String") (P1 : Fld Z h0 x0 "java/lang/String" "value" "[B" (.ref t0)) (P2 : Fld Z h0 x0 "java/lang/String" "coder" "B" (.int (1 : Int32))) (P3 : Arv Z h0 t0 kt .byte (2 : Int32) [(.int ((c1 >>> ((0 : Int32) &&& 31)).toInt8.toInt32)), (.int ((c1 >>> ((8 : Int32) &&& 31)).toInt8.toInt32))] (.int (0 : Int32))) :
    Met l (⟨"com/example/ontoloom/ontoloom/sql/Iri", "isDataError", "(Ljava/lang/String;)Z"⟩ : MethodName) prog_6_method_6_code 1 (Option.some Jvm.ClassFile.FieldType.boolean) ({ frames := 5, cells := 0, slots := 0, locals := 66 } : Room) Z consts_1 n0 [] #[(.ref x0)] h0 (fun v h => v = some (.int (own_de c1)) ∧ h0 = h) := by
  have hw := hE.1
  have hEL := own_EW hw
  have own_wS := own_stringAtoms hw
  refine Met.of (by first | (refine plainFor_of_name ?_; simp [plainName, overriddenIn]; done) | decide +kernel) O ?_
  intro p e s m below meth c T0 hx hby hml hret hlk hnm hh0 W0
  have z0 := W0.ge
  have yP0 : h0.size > x0 := P0.lt
  have yP3 : h0.size > t0 := P3.lt
  refine Go.st (g' := (mkF m 0 #[.val (.ref x0)] [])) (fun _ k => castTop (by first | (simp [entryFrame, mkF, argsToLocals, maxLocals, own_catI, own_catJ, own_catD, own_catA, own_catN]; done) | rfl) k) ?_
  refine Go.st (g' := (mkF m 1 #[.val (.ref x0)] [(.ref x0)])) (fun _ k => XS.aloadN W0.here hx rfl (hb hby dd_prog_6_method_6_code_0) rfl rfl  k) ?_
  obtain ⟨_, vm1, T1, h1, W1, Q1, z1, SF1, st1⟩ := W0.callV hx hEL (own_emp1 l hE W0.old (x0 := x0) (b0 := t0) (kb := kt) (vs0 := [(.int ((c1 >>> ((0 : Int32) &&& 31)).toInt8.toInt32)), (.int ((c1 >>> ((8 : Int32) &&& 31)).toInt8.toInt32))]) (dd := (.int (0 : Int32)))  P0 P1 P3) (hw _ (List.mem_of_getElem? (i := 35) rfl)) (hw _ (List.mem_of_getElem? (i := 36) rfl)) (hw _ (List.mem_of_getElem? (i := 38) rfl)) (hw _ (List.mem_of_getElem? (i := 37) rfl)) (hw _ (List.mem_of_getElem? (i := 7) rfl)) (hw _ (List.mem_of_getElem? (i := 39) rfl)) (by decide) (Wd := 0) (by decide) (by decide) (by decide) (by decide) (g := (mkF m 1 #[.val (.ref x0)] [(.ref x0)])) rfl (by rw [hml]; rfl) (a := x0) P0 (argsL := []) (rest := []) rfl (lenOf pd___Z rfl) rfl (by show 2 * 0 + _ ≤ _; exact Nat.le_of_eq rfl) (hb hby dd_prog_6_method_6_code_1)
  obtain ⟨rfl, eh1⟩ := Q1
  subst eh1
  refine Go.tr (g' := (mkF m 4 #[.val (.ref x0)] [(.int (0 : Int32))])) st1 ?_
  refine Go.st (g' := (mkF m 7 #[.val (.ref x0)] [])) (fun _ k => XS.ifNo W1.here hx rfl (hb hby dd_prog_6_method_6_code_4) rfl ((if0 _ _).trans (teq (by decide)).2) k) ?_
  refine Go.st (g' := (mkF m 8 #[.val (.ref x0)] [(.ref x0)])) (fun _ k => XS.aloadN W1.here hx rfl (hb hby dd_prog_6_method_6_code_7) rfl rfl  k) ?_
  refine Go.st (g' := (mkF m 9 #[.val (.ref x0)] [(.int (0 : Int32)), (.ref x0)])) (fun _ k => XS.iconst W1.here hx rfl (hb hby dd_prog_6_method_6_code_8) k) ?_
  obtain ⟨_, vm2, T2, h2, W2, Q2, z2, SF2, st2⟩ := W1.callV hx hEL (own_sch1_0 l hE W1.old (x0 := x0) (b0 := t0) (kb := kt) (c1 := c1) hc1 P0 P1 P2 P3) (hw _ (List.mem_of_getElem? (i := 40) rfl)) (hw _ (List.mem_of_getElem? (i := 41) rfl)) (hw _ (List.mem_of_getElem? (i := 43) rfl)) (hw _ (List.mem_of_getElem? (i := 42) rfl)) (hw _ (List.mem_of_getElem? (i := 7) rfl)) (hw _ (List.mem_of_getElem? (i := 44) rfl)) (by decide) (Wd := 0) (by decide) (by decide) (by decide) (by decide) (g := (mkF m 9 #[.val (.ref x0)] [(.int (0 : Int32)), (.ref x0)])) rfl (by rw [hml]; rfl) (a := x0) P0 (argsL := [(.int (0 : Int32))]) (rest := []) rfl (lenOf pd__I_C rfl) rfl (by show 2 * 0 + _ ≤ _; exact Nat.le_of_eq rfl) (hb hby dd_prog_6_method_6_code_9)
  obtain ⟨rfl, eh2⟩ := Q2
  subst eh2
  refine Go.tr (g' := (mkF m 12 #[.val (.ref x0)] [(.int c1)])) st2 ?_
  refine Go.st (g' := (mkF m 14 #[.val (.ref x0)] [(.int (32 : Int32)), (.int c1)])) (fun _ k => XS.bipush W2.here hx rfl (hb hby dd_prog_6_method_6_code_12) k) ?_
  by_cases hc3 : c1 = (32 : Int32)
  · refine Go.st (g' := (mkF m 17 #[.val (.ref x0)] [])) (fun _ k => XS.icmpNo W2.here hx rfl (hb hby dd_prog_6_method_6_code_14) rfl (teq hc3).2 k) ?_
    refine Go.st (g' := (mkF m 18 #[.val (.ref x0)] [(.int (1 : Int32))])) (fun _ k => XS.iconst W2.here hx rfl (hb hby dd_prog_6_method_6_code_17) k) ?_
    refine Go.st (g' := (mkF m 22 #[.val (.ref x0)] [(.int (1 : Int32))])) (fun _ k => XS.goto W2.here hx rfl (pc0 := 18) (pc' := 22) rfl (hb hby dd_prog_6_method_6_code_18) (by decide) (by decide) k) ?_
    exact W2.retN hx hEL hlk (t := .boolean) hret (by decide) (hb hby dd_prog_6_method_6_code_22) (by decide) (by decide) ⟨(by unfold own_de; rw [if_pos hc3]; first | done | rfl), rfl⟩
  · refine Go.st (g' := (mkF m 21 #[.val (.ref x0)] [])) (fun _ k => XS.icmpYes W2.here hx rfl (pc0 := 14) (pc' := 21) rfl (hb hby dd_prog_6_method_6_code_14) rfl (feq hc3).2 (by decide) (by decide) k) ?_
    refine Go.st (g' := (mkF m 22 #[.val (.ref x0)] [(.int (0 : Int32))])) (fun _ k => XS.iconst W2.here hx rfl (hb hby dd_prog_6_method_6_code_21) k) ?_
    exact W2.retN hx hEL hlk (t := .boolean) hret (by decide) (hb hby dd_prog_6_method_6_code_22) (by decide) (by decide) ⟨(by unfold own_de; rw [if_neg hc3]; first | done | rfl), rfl⟩
set_option maxRecDepth 65536 in
set_option maxHeartbeats 4000000 in
theorem own_deL2 (l : Launch) {Z : State} {a0 : Array Value} (hE : Ctx Z a0) {n0 : Nat} {h0 : Heap} (O : Old Z n0 h0) {x0 : Addr} {t0 : Addr} {c1 : Int32} {c2 : Int32} (hl1 : ¬ c1 < 0 ∧ ¬ (255 : Int32) < c1) (hl2 : ¬ c2 < 0 ∧ ¬ (255 : Int32) < c2) (P0 : Exa Z h0 x0 "java/lang/String") (P1 : Str Z h0 x0 t0 [c1, c2]) :
    Met l (⟨"com/example/ontoloom/ontoloom/sql/Iri", "isDataError", "(Ljava/lang/String;)Z"⟩ : MethodName) prog_6_method_6_code 1 (Option.some Jvm.ClassFile.FieldType.boolean) ({ frames := 4, cells := 0, slots := 0, locals := 53 } : Room) Z consts_1 n0 [] #[(.ref x0)] h0 (fun v h => v = some (.int (own_de c1)) ∧ h0 = h) := by
  have hw := hE.1
  have hEL := own_EW hw
  have own_wS := own_stringAtoms hw
  obtain ⟨zc, hzc, hzc0⟩ := hE.2.1
  obtain ⟨fm, hfm, rfm⟩ := hE.2.2.1
  have hem : ∀ d ∈ StrChars.Road.wordsEmp, d.before a0 Z = true := fun d hd => hw d ((by decide +kernel : ∀ d ∈ StrChars.Road.wordsEmp, d ∈ tables_1) d hd)
  have hch : ∀ d ∈ StrChars.Road.wordsChN, d.before a0 Z = true := fun d hd => hw d ((by decide +kernel : ∀ d ∈ StrChars.Road.wordsChN, d ∈ tables_1) d hd)
  refine Met.of (by first | (refine plainFor_of_name ?_; simp [plainName, overriddenIn]; done) | decide +kernel) O ?_
  intro p e s m below meth c T0 hx hby hml hret hlk hnm hh0 W0
  have z0 := W0.ge
  have yP0 : h0.size > x0 := P0.lt
  have yP1 : h0.size > x0 ∧ h0.size > t0 := P1.lt
  refine Go.st (g' := (mkF m 0 #[.val (.ref x0)] [])) (fun _ k => castTop (by first | (simp [entryFrame, mkF, argsToLocals, maxLocals, own_catI, own_catJ, own_catD, own_catA, own_catN]; done) | rfl) k) ?_
  refine Go.st (g' := (mkF m 1 #[.val (.ref x0)] [(.ref x0)])) (fun _ k => XS.aloadN W0.here hx rfl (hb hby dd_prog_6_method_6_code_0) rfl rfl  k) ?_
  obtain ⟨T1, W1, st1⟩ := W0.strEmp hx hem (hw _ (List.mem_of_getElem? (i := 15) rfl)) P1 (hw _ (List.mem_of_getElem? (i := 35) rfl)) (hw _ (List.mem_of_getElem? (i := 36) rfl)) (hw _ (List.mem_of_getElem? (i := 38) rfl)) (hw _ (List.mem_of_getElem? (i := 37) rfl)) (Wd := 0) (by decide) (by decide) (by decide) (by decide) (g := (mkF m 1 #[.val (.ref x0)] [(.ref x0)])) rfl (by rw [hml]; rfl) (rest := []) rfl (by show 2 * 0 + _ ≤ _; exact Nat.le_of_eq rfl) (hb hby dd_prog_6_method_6_code_1)
  refine Go.tr (g' := (mkF m 4 #[.val (.ref x0)] [(.int (0 : Int32))])) st1 ?_
  refine Go.st (g' := (mkF m 7 #[.val (.ref x0)] [])) (fun _ k => XS.ifNo W1.here hx rfl (hb hby dd_prog_6_method_6_code_4) rfl ((if0 _ _).trans (teq (by decide)).2) k) ?_
  refine Go.st (g' := (mkF m 8 #[.val (.ref x0)] [(.ref x0)])) (fun _ k => XS.aloadN W1.here hx rfl (hb hby dd_prog_6_method_6_code_7) rfl rfl  k) ?_
  refine Go.st (g' := (mkF m 9 #[.val (.ref x0)] [(.int (0 : Int32)), (.ref x0)])) (fun _ k => XS.iconst W1.here hx rfl (hb hby dd_prog_6_method_6_code_8) k) ?_
  obtain ⟨T2, W2, st2⟩ := W1.strChr hx hch (hw _ (List.mem_of_getElem? (i := 15) rfl)) P1 (own_allS hl1.2 (own_allS hl2.2 own_all0)) hzc hzc0 hfm rfm (i := 0) (j := (0 : Int32)) (Nat.le_of_ble_eq_true rfl) (by decide) (hw _ (List.mem_of_getElem? (i := 40) rfl)) (hw _ (List.mem_of_getElem? (i := 41) rfl)) (hw _ (List.mem_of_getElem? (i := 43) rfl)) (hw _ (List.mem_of_getElem? (i := 42) rfl)) (Wd := 0) (by decide) (by decide) (by decide) (by decide) (g := (mkF m 9 #[.val (.ref x0)] [(.int (0 : Int32)), (.ref x0)])) rfl (by rw [hml]; rfl) (rest := []) rfl (by show 2 * 0 + _ ≤ _; exact Nat.le_of_eq rfl) (hb hby dd_prog_6_method_6_code_9)
  refine Go.tr (g' := (mkF m 12 #[.val (.ref x0)] [(.int c1)])) st2 ?_
  refine Go.st (g' := (mkF m 14 #[.val (.ref x0)] [(.int (32 : Int32)), (.int c1)])) (fun _ k => XS.bipush W2.here hx rfl (hb hby dd_prog_6_method_6_code_12) k) ?_
  by_cases hc3 : c1 = (32 : Int32)
  · refine Go.st (g' := (mkF m 17 #[.val (.ref x0)] [])) (fun _ k => XS.icmpNo W2.here hx rfl (hb hby dd_prog_6_method_6_code_14) rfl (teq hc3).2 k) ?_
    refine Go.st (g' := (mkF m 18 #[.val (.ref x0)] [(.int (1 : Int32))])) (fun _ k => XS.iconst W2.here hx rfl (hb hby dd_prog_6_method_6_code_17) k) ?_
    refine Go.st (g' := (mkF m 22 #[.val (.ref x0)] [(.int (1 : Int32))])) (fun _ k => XS.goto W2.here hx rfl (pc0 := 18) (pc' := 22) rfl (hb hby dd_prog_6_method_6_code_18) (by decide) (by decide) k) ?_
    exact W2.retN hx hEL hlk (t := .boolean) hret (by decide) (hb hby dd_prog_6_method_6_code_22) (by decide) (by decide) ⟨(by unfold own_de; rw [if_pos hc3]; first | done | rfl), rfl⟩
  · refine Go.st (g' := (mkF m 21 #[.val (.ref x0)] [])) (fun _ k => XS.icmpYes W2.here hx rfl (pc0 := 14) (pc' := 21) rfl (hb hby dd_prog_6_method_6_code_14) rfl (feq hc3).2 (by decide) (by decide) k) ?_
    refine Go.st (g' := (mkF m 22 #[.val (.ref x0)] [(.int (0 : Int32))])) (fun _ k => XS.iconst W2.here hx rfl (hb hby dd_prog_6_method_6_code_21) k) ?_
    exact W2.retN hx hEL hlk (t := .boolean) hret (by decide) (hb hby dd_prog_6_method_6_code_22) (by decide) (by decide) ⟨(by unfold own_de; rw [if_neg hc3]; first | done | rfl), rfl⟩
set_option maxRecDepth 65536 in
set_option maxHeartbeats 4000000 in
theorem own_emp2 (l : Launch) {Z : State} {a0 : Array Value} (hE : Ctx Z a0) {n0 : Nat} {h0 : Heap} (O : Old Z n0 h0) {x0 : Addr} {b0 : Addr} {kb : ClassId} {vs0 : List Value} {dd : Value}  (P0 : Exa Z h0 x0 "java/lang/String") (P1 : Fld Z h0 x0 "java/lang/String" "value" "[B" (.ref b0)) (P2 : Arv Z h0 b0 kb .byte (4 : Int32) vs0 dd) :
    Met l (⟨"java/lang/String", "isEmpty", "()Z"⟩ : MethodName) jdk_42_method_55_code 1 (Option.some Jvm.ClassFile.FieldType.boolean) ({ frames := 0, cells := 0, slots := 0, locals := 0 } : Room) Z consts_1 n0 [] #[(.ref x0)] h0 (fun v h => v = some (.int (0 : Int32)) ∧ h0 = h) := by
  have hw := hE.1
  have hEL := own_EW hw
  have own_wS := own_stringAtoms hw
  have hE1 := own_E1 hw
  refine Met.of (by first | (refine plainFor_of_name ?_; simp [plainName, overriddenIn]; done) | decide +kernel) O ?_
  intro p e s m below meth c T0 hx hby hml hret hlk hnm hh0 W0
  have z0 := W0.ge
  have yP0 : h0.size > x0 := P0.lt
  have yP2 : h0.size > b0 := P2.lt
  refine Go.st (g' := (mkF m 0 #[.val (.ref x0)] [])) (fun _ k => castTop (by first | (simp [entryFrame, mkF, argsToLocals, maxLocals, own_catI, own_catJ, own_catD, own_catA, own_catN]; done) | rfl) k) ?_
  refine Go.st (g' := (mkF m 1 #[.val (.ref x0)] [(.ref x0)])) (fun _ k => XS.aloadN W0.here hx rfl (hb hby dd_jdk_42_method_55_code_0) rfl rfl  k) ?_
  obtain ⟨T1, W1, st1⟩ := W0.getF hx (hw _ (List.mem_of_getElem? (i := 27) rfl)) Via.refl P1 (g := (mkF m 1 #[.val (.ref x0)] [(.ref x0)])) rfl rfl (hb hby dd_jdk_42_method_55_code_1)
  refine Go.st (g' := (mkF m 4 #[.val (.ref x0)] [(.ref b0)])) st1 ?_
  refine Go.st (g' := (mkF m 5 #[.val (.ref x0)] [(.int (4 : Int32))])) (W1.len hx P2 (g := (mkF m 4 #[.val (.ref x0)] [(.ref b0)])) rfl rfl (hb hby dd_jdk_42_method_55_code_4)) ?_
  refine Go.st (g' := (mkF m 12 #[.val (.ref x0)] [])) (fun _ k => XS.ifYes W1.here hx rfl (pc0 := 5) (pc' := 12) rfl (hb hby dd_jdk_42_method_55_code_5) rfl ((if0 _ _).trans (feq (by decide)).2) (by decide) (by decide) k) ?_
  refine Go.st (g' := (mkF m 13 #[.val (.ref x0)] [(.int (0 : Int32))])) (fun _ k => XS.iconst W1.here hx rfl (hb hby dd_jdk_42_method_55_code_12) k) ?_
  exact W1.retN hx hEL hlk (t := .boolean) hret (by decide) (hb hby dd_jdk_42_method_55_code_13) (by decide) (by decide) ⟨rfl, rfl⟩
set_option maxRecDepth 65536 in
set_option maxHeartbeats 4000000 in
theorem own_ul2 (l : Launch) {Z : State} {a0 : Array Value} (hE : Ctx Z a0) {n0 : Nat} {h0 : Heap} (O : Old Z n0 h0) {b0 : Addr} {kb : ClassId} {vs0 : List Value} {dd : Value}  (P0 : Arv Z h0 b0 kb .byte (4 : Int32) vs0 dd) :
    Met l (⟨"java/lang/StringUTF16", "length", "([B)I"⟩ : MethodName) jdk_52_method_6_code 1 (Option.some Jvm.ClassFile.FieldType.int) ({ frames := 0, cells := 0, slots := 0, locals := 0 } : Room) Z consts_1 n0 [] #[(.ref b0)] h0 (fun v h => v = some (.int (2 : Int32)) ∧ h0 = h) := by
  have hw := hE.1
  have hEL := own_EW hw
  have own_wS := own_stringAtoms hw
  have hE1 := own_E1 hw
  refine Met.of (by first | (refine plainFor_of_name ?_; simp [plainName, overriddenIn]; done) | decide +kernel) O ?_
  intro p e s m below meth c T0 hx hby hml hret hlk hnm hh0 W0
  have z0 := W0.ge
  have yP0 : h0.size > b0 := P0.lt
  refine Go.st (g' := (mkF m 0 #[.val (.ref b0)] [])) (fun _ k => castTop (by first | (simp [entryFrame, mkF, argsToLocals, maxLocals, own_catI, own_catJ, own_catD, own_catA, own_catN]; done) | rfl) k) ?_
  refine Go.st (g' := (mkF m 1 #[.val (.ref b0)] [(.ref b0)])) (fun _ k => XS.aloadN W0.here hx rfl (hb hby dd_jdk_52_method_6_code_0) rfl rfl  k) ?_
  refine Go.st (g' := (mkF m 2 #[.val (.ref b0)] [(.int (4 : Int32))])) (W0.len hx P0 (g := (mkF m 1 #[.val (.ref b0)] [(.ref b0)])) rfl rfl (hb hby dd_jdk_52_method_6_code_1)) ?_
  refine Go.st (g' := (mkF m 3 #[.val (.ref b0)] [(.int (1 : Int32)), (.int (4 : Int32))])) (fun _ k => XS.iconst W0.here hx rfl (hb hby dd_jdk_52_method_6_code_2) k) ?_
  refine Go.st (g' := (mkF m 4 #[.val (.ref b0)] [(.int (2 : Int32))])) (fun _ k => XS.ishr W0.here hx rfl (hb hby dd_jdk_52_method_6_code_3) rfl k) ?_
  exact W0.retI hx hEL hlk hret (hb hby dd_jdk_52_method_6_code_4) (by decide) (by decide) ⟨rfl, rfl⟩
set_option maxRecDepth 65536 in
set_option maxHeartbeats 4000000 in
theorem own_uci2_0 (l : Launch) {Z : State} {a0 : Array Value} (hE : Ctx Z a0) {n0 : Nat} {h0 : Heap} (O : Old Z n0 h0) {b0 : Addr} {kb : ClassId} {vs0 : List Value} {dd : Value}  (P0 : Arv Z h0 b0 kb .byte (4 : Int32) vs0 dd) :
    Met l (⟨"java/lang/StringUTF16", "checkIndex", "(I[B)V"⟩ : MethodName) jdk_52_method_91_code 2 (Option.none : Option Jvm.ClassFile.FieldType) ({ frames := 2, cells := 0, slots := 0, locals := 27 } : Room) Z consts_1 n0 [] #[(.int (0 : Int32)), (.ref b0)] h0 (fun v h => v = none ∧ h0 = h) := by
  have hw := hE.1
  have hEL := own_EW hw
  have own_wS := own_stringAtoms hw
  have hE1 := own_E1 hw
  refine Met.of (by first | (refine plainFor_of_name ?_; simp [plainName, overriddenIn]; done) | decide +kernel) O ?_
  intro p e s m below meth c T0 hx hby hml hret hlk hnm hh0 W0
  have z0 := W0.ge
  have yP0 : h0.size > b0 := P0.lt
  refine Go.st (g' := (mkF m 0 #[.val (.int (0 : Int32)), .val (.ref b0)] [])) (fun _ k => castTop (by first | (simp [entryFrame, mkF, argsToLocals, maxLocals, own_catI, own_catJ, own_catD, own_catA, own_catN]; done) | rfl) k) ?_
  refine Go.st (g' := (mkF m 1 #[.val (.int (0 : Int32)), .val (.ref b0)] [(.int (0 : Int32))])) (fun _ k => XS.iloadN W0.here hx rfl (hb hby dd_jdk_52_method_91_code_0) rfl  k) ?_
  refine Go.st (g' := (mkF m 2 #[.val (.int (0 : Int32)), .val (.ref b0)] [(.ref b0), (.int (0 : Int32))])) (fun _ k => XS.aloadN W0.here hx rfl (hb hby dd_jdk_52_method_91_code_1) rfl rfl  k) ?_
  obtain ⟨_, vm1, T1, h1, W1, Q1, z1, SF1, st1⟩ := W0.callS hx hEL (own_ul2 l hE W0.old (b0 := b0) (kb := kb) (vs0 := vs0) (dd := dd)  P0) (hw _ (List.mem_of_getElem? (i := 107) rfl)) (hw _ (List.mem_of_getElem? (i := 108) rfl)) (hw _ (List.mem_of_getElem? (i := 71) rfl)) (hw _ (List.mem_of_getElem? (i := 109) rfl)) (by decide) (Wd := 1) (by decide) (by decide) (by decide) (by decide) (g := (mkF m 2 #[.val (.int (0 : Int32)), .val (.ref b0)] [(.ref b0), (.int (0 : Int32))])) rfl (by rw [hml]; rfl) (argsL := [(.ref b0)]) (rest := [(.int (0 : Int32))]) rfl (lenOf pd___B_I rfl) rfl (by show 2 * 0 + _ ≤ _; exact Nat.le_of_eq rfl) (hb hby dd_jdk_52_method_91_code_2)
  obtain ⟨rfl, eh1⟩ := Q1
  subst eh1
  refine Go.tr (g' := (mkF m 5 #[.val (.int (0 : Int32)), .val (.ref b0)] [(.int (2 : Int32)), (.int (0 : Int32))])) st1 ?_
  obtain ⟨_, vm2, T2, h2, W2, Q2, z2, SF2, st2⟩ := W1.callS hx hEL (own_sci l hE W1.old (i0 := (0 : Int32)) (l0 := (2 : Int32)) (by decide) (by decide) ) (hw _ (List.mem_of_getElem? (i := 110) rfl)) (hw _ (List.mem_of_getElem? (i := 54) rfl)) (hw _ (List.mem_of_getElem? (i := 7) rfl)) (hw _ (List.mem_of_getElem? (i := 55) rfl)) (by decide) (Wd := 0) (by decide) (by decide) (by decide) (by decide) (g := (mkF m 5 #[.val (.int (0 : Int32)), .val (.ref b0)] [(.int (2 : Int32)), (.int (0 : Int32))])) rfl (by rw [hml]; rfl) (argsL := [(.int (0 : Int32)), (.int (2 : Int32))]) (rest := []) rfl (lenOf pd__II_V rfl) rfl (by show 2 * 0 + _ ≤ _; exact Nat.le_of_eq rfl) (hb hby dd_jdk_52_method_91_code_5)
  obtain ⟨rfl, eh2⟩ := Q2
  subst eh2
  refine Go.tr (g' := (mkF m 8 #[.val (.int (0 : Int32)), .val (.ref b0)] [])) st2 ?_
  exact W2.retV hx hEL hlk hret (hb hby dd_jdk_52_method_91_code_8) (by decide) (by decide) ⟨rfl, rfl⟩
set_option maxRecDepth 65536 in
set_option maxHeartbeats 4000000 in
theorem own_uch2_0 (l : Launch) {Z : State} {a0 : Array Value} (hE : Ctx Z a0) {n0 : Nat} {h0 : Heap} (O : Old Z n0 h0) {b0 : Addr} {kb : ClassId} {c1 : Int32} {c2 : Int32} (hc1 : Chr c1) (P0 : Arv Z h0 b0 kb .byte (4 : Int32) [(.int ((c1 >>> ((0 : Int32) &&& 31)).toInt8.toInt32)), (.int ((c1 >>> ((8 : Int32) &&& 31)).toInt8.toInt32)), (.int ((c2 >>> ((0 : Int32) &&& 31)).toInt8.toInt32)), (.int ((c2 >>> ((8 : Int32) &&& 31)).toInt8.toInt32))] (.int (0 : Int32))) :
    Met l (⟨"java/lang/StringUTF16", "charAt", "([BI)C"⟩ : MethodName) jdk_52_method_83_code 2 (Option.some Jvm.ClassFile.FieldType.char) ({ frames := 3, cells := 0, slots := 0, locals := 40 } : Room) Z consts_1 n0 [] #[(.ref b0), (.int (0 : Int32))] h0 (fun v h => v = some (.int c1) ∧ h0 = h) := by
  have hw := hE.1
  have hEL := own_EW hw
  have own_wS := own_stringAtoms hw
  have hE1 := own_E1 hw
  refine Met.of (by first | (refine plainFor_of_name ?_; simp [plainName, overriddenIn]; done) | decide +kernel) O ?_
  intro p e s m below meth c T0 hx hby hml hret hlk hnm hh0 W0
  have z0 := W0.ge
  have yP0 : h0.size > b0 := P0.lt
  refine Go.st (g' := (mkF m 0 #[.val (.ref b0), .val (.int (0 : Int32))] [])) (fun _ k => castTop (by first | (simp [entryFrame, mkF, argsToLocals, maxLocals, own_catI, own_catJ, own_catD, own_catA, own_catN]; done) | rfl) k) ?_
  refine Go.st (g' := (mkF m 1 #[.val (.ref b0), .val (.int (0 : Int32))] [(.int (0 : Int32))])) (fun _ k => XS.iloadN W0.here hx rfl (hb hby dd_jdk_52_method_83_code_0) rfl  k) ?_
  refine Go.st (g' := (mkF m 2 #[.val (.ref b0), .val (.int (0 : Int32))] [(.ref b0), (.int (0 : Int32))])) (fun _ k => XS.aloadN W0.here hx rfl (hb hby dd_jdk_52_method_83_code_1) rfl rfl  k) ?_
  obtain ⟨_, vm1, T1, h1, W1, Q1, z1, SF1, st1⟩ := W0.callS hx hEL (own_uci2_0 l hE W0.old (b0 := b0) (kb := kb) (vs0 := [(.int ((c1 >>> ((0 : Int32) &&& 31)).toInt8.toInt32)), (.int ((c1 >>> ((8 : Int32) &&& 31)).toInt8.toInt32)), (.int ((c2 >>> ((0 : Int32) &&& 31)).toInt8.toInt32)), (.int ((c2 >>> ((8 : Int32) &&& 31)).toInt8.toInt32))]) (dd := (.int (0 : Int32)))  P0) (hw _ (List.mem_of_getElem? (i := 104) rfl)) (hw _ (List.mem_of_getElem? (i := 105) rfl)) (hw _ (List.mem_of_getElem? (i := 71) rfl)) (hw _ (List.mem_of_getElem? (i := 106) rfl)) (by decide) (Wd := 0) (by decide) (by decide) (by decide) (by decide) (g := (mkF m 2 #[.val (.ref b0), .val (.int (0 : Int32))] [(.ref b0), (.int (0 : Int32))])) rfl (by rw [hml]; rfl) (argsL := [(.int (0 : Int32)), (.ref b0)]) (rest := []) rfl (lenOf pd__I_B_V rfl) rfl (by show 2 * 0 + _ ≤ _; exact Nat.le_of_eq rfl) (hb hby dd_jdk_52_method_83_code_2)
  obtain ⟨rfl, eh1⟩ := Q1
  subst eh1
  refine Go.tr (g' := (mkF m 5 #[.val (.ref b0), .val (.int (0 : Int32))] [])) st1 ?_
  refine Go.st (g' := (mkF m 6 #[.val (.ref b0), .val (.int (0 : Int32))] [(.ref b0)])) (fun _ k => XS.aloadN W1.here hx rfl (hb hby dd_jdk_52_method_83_code_5) rfl rfl  k) ?_
  refine Go.st (g' := (mkF m 7 #[.val (.ref b0), .val (.int (0 : Int32))] [(.int (0 : Int32)), (.ref b0)])) (fun _ k => XS.iloadN W1.here hx rfl (hb hby dd_jdk_52_method_83_code_6) rfl  k) ?_
  obtain ⟨_, vm2, T2, h2, W2, Q2, z2, SF2, st2⟩ := W1.callS hx hEL (own_get0 l hE W1.old (b0 := b0) (kb := kb) (zz := (4 : Int32)) (vs0 := [(.int ((c1 >>> ((0 : Int32) &&& 31)).toInt8.toInt32)), (.int ((c1 >>> ((8 : Int32) &&& 31)).toInt8.toInt32)), (.int ((c2 >>> ((0 : Int32) &&& 31)).toInt8.toInt32)), (.int ((c2 >>> ((8 : Int32) &&& 31)).toInt8.toInt32))]) (dd := (.int (0 : Int32))) (c0 := c1) hc1 (by decide) (by decide) rfl rfl P0) (hw _ (List.mem_of_getElem? (i := 98) rfl)) (hw _ (List.mem_of_getElem? (i := 99) rfl)) (hw _ (List.mem_of_getElem? (i := 71) rfl)) (hw _ (List.mem_of_getElem? (i := 100) rfl)) (by decide) (Wd := 0) (by decide) (by decide) (by decide) (by decide) (g := (mkF m 7 #[.val (.ref b0), .val (.int (0 : Int32))] [(.int (0 : Int32)), (.ref b0)])) rfl (by rw [hml]; rfl) (argsL := [(.ref b0), (.int (0 : Int32))]) (rest := []) rfl (lenOf pd___BI_C rfl) rfl (by show 2 * 0 + _ ≤ _; exact Nat.le_of_eq rfl) (hb hby dd_jdk_52_method_83_code_7)
  obtain ⟨rfl, eh2⟩ := Q2
  subst eh2
  refine Go.tr (g' := (mkF m 10 #[.val (.ref b0), .val (.int (0 : Int32))] [(.int c1)])) st2 ?_
  exact W2.retN hx hEL hlk (t := .char) hret (by decide) (hb hby dd_jdk_52_method_83_code_10) (by decide) (by decide) ⟨(congrArg (fun x => some (Value.int x)) (own_narC hc1)), rfl⟩
set_option maxRecDepth 65536 in
set_option maxHeartbeats 4000000 in
theorem own_sch2_0 (l : Launch) {Z : State} {a0 : Array Value} (hE : Ctx Z a0) {n0 : Nat} {h0 : Heap} (O : Old Z n0 h0) {x0 : Addr} {b0 : Addr} {kb : ClassId} {c1 : Int32} {c2 : Int32} (hc1 : Chr c1) (P0 : Exa Z h0 x0 "java/lang/String") (P1 : Fld Z h0 x0 "java/lang/String" "value" "[B" (.ref b0)) (P2 : Fld Z h0 x0 "java/lang/String" "coder" "B" (.int (1 : Int32))) (P3 : Arv Z h0 b0 kb .byte (4 : Int32) [(.int ((c1 >>> ((0 : Int32) &&& 31)).toInt8.toInt32)), (.int ((c1 >>> ((8 : Int32) &&& 31)).toInt8.toInt32)), (.int ((c2 >>> ((0 : Int32) &&& 31)).toInt8.toInt32)), (.int ((c2 >>> ((8 : Int32) &&& 31)).toInt8.toInt32))] (.int (0 : Int32))) :
    Met l (⟨"java/lang/String", "charAt", "(I)C"⟩ : MethodName) jdk_42_method_56_code 2 (Option.some Jvm.ClassFile.FieldType.char) ({ frames := 4, cells := 0, slots := 0, locals := 53 } : Room) Z consts_1 n0 [] #[(.ref x0), (.int (0 : Int32))] h0 (fun v h => v = some (.int c1) ∧ h0 = h) := by
  have hw := hE.1
  have hEL := own_EW hw
  have own_wS := own_stringAtoms hw
  have hE1 := own_E1 hw
  refine Met.of (by first | (refine plainFor_of_name ?_; simp [plainName, overriddenIn]; done) | decide +kernel) O ?_
  intro p e s m below meth c T0 hx hby hml hret hlk hnm hh0 W0
  have z0 := W0.ge
  have yP0 : h0.size > x0 := P0.lt
  have yP3 : h0.size > b0 := P3.lt
  refine Go.st (g' := (mkF m 0 #[.val (.ref x0), .val (.int (0 : Int32))] [])) (fun _ k => castTop (by first | (simp [entryFrame, mkF, argsToLocals, maxLocals, own_catI, own_catJ, own_catD, own_catA, own_catN]; done) | rfl) k) ?_
  refine Go.st (g' := (mkF m 1 #[.val (.ref x0), .val (.int (0 : Int32))] [(.ref x0)])) (fun _ k => XS.aloadN W0.here hx rfl (hb hby dd_jdk_42_method_56_code_0) rfl rfl  k) ?_
  obtain ⟨_, vm1, T1, h1, W1, Q1, z1, SF1, st1⟩ := W0.callV hx hEL (own_isl l hE W0.old (x0 := x0)  P2) (hw _ (List.mem_of_getElem? (i := 45) rfl)) (hw _ (List.mem_of_getElem? (i := 46) rfl)) (hw _ (List.mem_of_getElem? (i := 48) rfl)) (hw _ (List.mem_of_getElem? (i := 47) rfl)) (hw _ (List.mem_of_getElem? (i := 7) rfl)) (hw _ (List.mem_of_getElem? (i := 49) rfl)) (by decide) (Wd := 0) (by decide) (by decide) (by decide) (by decide) (g := (mkF m 1 #[.val (.ref x0), .val (.int (0 : Int32))] [(.ref x0)])) rfl (by rw [hml]; rfl) (a := x0) P0 (argsL := []) (rest := []) rfl (lenOf pd___Z rfl) rfl (by show 2 * 0 + _ ≤ _; exact Nat.le_of_eq rfl) (hb hby dd_jdk_42_method_56_code_1)
  obtain ⟨rfl, eh1⟩ := Q1
  subst eh1
  refine Go.tr (g' := (mkF m 4 #[.val (.ref x0), .val (.int (0 : Int32))] [(.int (0 : Int32))])) st1 ?_
  refine Go.st (g' := (mkF m 16 #[.val (.ref x0), .val (.int (0 : Int32))] [])) (fun _ k => XS.ifYes W1.here hx rfl (pc0 := 4) (pc' := 16) rfl (hb hby dd_jdk_42_method_56_code_4) rfl ((if0 _ _).trans (teq (by decide)).1) (by decide) (by decide) k) ?_
  refine Go.st (g' := (mkF m 17 #[.val (.ref x0), .val (.int (0 : Int32))] [(.ref x0)])) (fun _ k => XS.aloadN W1.here hx rfl (hb hby dd_jdk_42_method_56_code_16) rfl rfl  k) ?_
  obtain ⟨T2, W2, st2⟩ := W1.getF hx (hw _ (List.mem_of_getElem? (i := 27) rfl)) Via.refl P1 (g := (mkF m 17 #[.val (.ref x0), .val (.int (0 : Int32))] [(.ref x0)])) rfl rfl (hb hby dd_jdk_42_method_56_code_17)
  refine Go.st (g' := (mkF m 20 #[.val (.ref x0), .val (.int (0 : Int32))] [(.ref b0)])) st2 ?_
  refine Go.st (g' := (mkF m 21 #[.val (.ref x0), .val (.int (0 : Int32))] [(.int (0 : Int32)), (.ref b0)])) (fun _ k => XS.iloadN W2.here hx rfl (hb hby dd_jdk_42_method_56_code_20) rfl  k) ?_
  obtain ⟨_, vm3, T3, h3, W3, Q3, z3, SF3, st3⟩ := W2.callS hx hEL (own_uch2_0 l hE W2.old (b0 := b0) (kb := kb) (c1 := c1) (c2 := c2) hc1 P3) (hw _ (List.mem_of_getElem? (i := 101) rfl)) (hw _ (List.mem_of_getElem? (i := 102) rfl)) (hw _ (List.mem_of_getElem? (i := 71) rfl)) (hw _ (List.mem_of_getElem? (i := 103) rfl)) (by decide) (Wd := 0) (by decide) (by decide) (by decide) (by decide) (g := (mkF m 21 #[.val (.ref x0), .val (.int (0 : Int32))] [(.int (0 : Int32)), (.ref b0)])) rfl (by rw [hml]; rfl) (argsL := [(.ref b0), (.int (0 : Int32))]) (rest := []) rfl (lenOf pd___BI_C rfl) rfl (by show 2 * 0 + _ ≤ _; exact Nat.le_of_eq rfl) (hb hby dd_jdk_42_method_56_code_21)
  obtain ⟨rfl, eh3⟩ := Q3
  subst eh3
  refine Go.tr (g' := (mkF m 24 #[.val (.ref x0), .val (.int (0 : Int32))] [(.int c1)])) st3 ?_
  exact W3.retN hx hEL hlk (t := .char) hret (by decide) (hb hby dd_jdk_42_method_56_code_24) (by decide) (by decide) ⟨(congrArg (fun x => some (Value.int x)) (own_narC hc1)), rfl⟩
set_option maxRecDepth 65536 in
set_option maxHeartbeats 4000000 in
theorem own_deW2 (l : Launch) {Z : State} {a0 : Array Value} (hE : Ctx Z a0) {n0 : Nat} {h0 : Heap} (O : Old Z n0 h0) {x0 : Addr} {t0 : Addr} {kt : ClassId} {c1 : Int32} {c2 : Int32} (hc1 : Chr c1) (P0 : Exa Z h0 x0 "java/lang/String") (P1 : Fld Z h0 x0 "java/lang/String" "value" "[B" (.ref t0)) (P2 : Fld Z h0 x0 "java/lang/String" "coder" "B" (.int (1 : Int32))) (P3 : Arv Z h0 t0 kt .byte (4 : Int32) [(.int ((c1 >>> ((0 : Int32) &&& 31)).toInt8.toInt32)), (.int ((c1 >>> ((8 : Int32) &&& 31)).toInt8.toInt32)), (.int ((c2 >>> ((0 : Int32) &&& 31)).toInt8.toInt32)), (.int ((c2 >>> ((8 : Int32) &&& 31)).toInt8.toInt32))] (.int (0 : Int32))) :
    Met l (⟨"com/example/ontoloom/ontoloom/sql/Iri", "isDataError", "(Ljava/lang/String;)Z"⟩ : MethodName) prog_6_method_6_code 1 (Option.some Jvm.ClassFile.FieldType.boolean) ({ frames := 5, cells := 0, slots := 0, locals := 66 } : Room) Z consts_1 n0 [] #[(.ref x0)] h0 (fun v h => v = some (.int (own_de c1)) ∧ h0 = h) := by
  have hw := hE.1
  have hEL := own_EW hw
  have own_wS := own_stringAtoms hw
  refine Met.of (by first | (refine plainFor_of_name ?_; simp [plainName, overriddenIn]; done) | decide +kernel) O ?_
  intro p e s m below meth c T0 hx hby hml hret hlk hnm hh0 W0
  have z0 := W0.ge
  have yP0 : h0.size > x0 := P0.lt
  have yP3 : h0.size > t0 := P3.lt
  refine Go.st (g' := (mkF m 0 #[.val (.ref x0)] [])) (fun _ k => castTop (by first | (simp [entryFrame, mkF, argsToLocals, maxLocals, own_catI, own_catJ, own_catD, own_catA, own_catN]; done) | rfl) k) ?_
  refine Go.st (g' := (mkF m 1 #[.val (.ref x0)] [(.ref x0)])) (fun _ k => XS.aloadN W0.here hx rfl (hb hby dd_prog_6_method_6_code_0) rfl rfl  k) ?_
  obtain ⟨_, vm1, T1, h1, W1, Q1, z1, SF1, st1⟩ := W0.callV hx hEL (own_emp2 l hE W0.old (x0 := x0) (b0 := t0) (kb := kt) (vs0 := [(.int ((c1 >>> ((0 : Int32) &&& 31)).toInt8.toInt32)), (.int ((c1 >>> ((8 : Int32) &&& 31)).toInt8.toInt32)), (.int ((c2 >>> ((0 : Int32) &&& 31)).toInt8.toInt32)), (.int ((c2 >>> ((8 : Int32) &&& 31)).toInt8.toInt32))]) (dd := (.int (0 : Int32)))  P0 P1 P3) (hw _ (List.mem_of_getElem? (i := 35) rfl)) (hw _ (List.mem_of_getElem? (i := 36) rfl)) (hw _ (List.mem_of_getElem? (i := 38) rfl)) (hw _ (List.mem_of_getElem? (i := 37) rfl)) (hw _ (List.mem_of_getElem? (i := 7) rfl)) (hw _ (List.mem_of_getElem? (i := 39) rfl)) (by decide) (Wd := 0) (by decide) (by decide) (by decide) (by decide) (g := (mkF m 1 #[.val (.ref x0)] [(.ref x0)])) rfl (by rw [hml]; rfl) (a := x0) P0 (argsL := []) (rest := []) rfl (lenOf pd___Z rfl) rfl (by show 2 * 0 + _ ≤ _; exact Nat.le_of_eq rfl) (hb hby dd_prog_6_method_6_code_1)
  obtain ⟨rfl, eh1⟩ := Q1
  subst eh1
  refine Go.tr (g' := (mkF m 4 #[.val (.ref x0)] [(.int (0 : Int32))])) st1 ?_
  refine Go.st (g' := (mkF m 7 #[.val (.ref x0)] [])) (fun _ k => XS.ifNo W1.here hx rfl (hb hby dd_prog_6_method_6_code_4) rfl ((if0 _ _).trans (teq (by decide)).2) k) ?_
  refine Go.st (g' := (mkF m 8 #[.val (.ref x0)] [(.ref x0)])) (fun _ k => XS.aloadN W1.here hx rfl (hb hby dd_prog_6_method_6_code_7) rfl rfl  k) ?_
  refine Go.st (g' := (mkF m 9 #[.val (.ref x0)] [(.int (0 : Int32)), (.ref x0)])) (fun _ k => XS.iconst W1.here hx rfl (hb hby dd_prog_6_method_6_code_8) k) ?_
  obtain ⟨_, vm2, T2, h2, W2, Q2, z2, SF2, st2⟩ := W1.callV hx hEL (own_sch2_0 l hE W1.old (x0 := x0) (b0 := t0) (kb := kt) (c1 := c1) (c2 := c2) hc1 P0 P1 P2 P3) (hw _ (List.mem_of_getElem? (i := 40) rfl)) (hw _ (List.mem_of_getElem? (i := 41) rfl)) (hw _ (List.mem_of_getElem? (i := 43) rfl)) (hw _ (List.mem_of_getElem? (i := 42) rfl)) (hw _ (List.mem_of_getElem? (i := 7) rfl)) (hw _ (List.mem_of_getElem? (i := 44) rfl)) (by decide) (Wd := 0) (by decide) (by decide) (by decide) (by decide) (g := (mkF m 9 #[.val (.ref x0)] [(.int (0 : Int32)), (.ref x0)])) rfl (by rw [hml]; rfl) (a := x0) P0 (argsL := [(.int (0 : Int32))]) (rest := []) rfl (lenOf pd__I_C rfl) rfl (by show 2 * 0 + _ ≤ _; exact Nat.le_of_eq rfl) (hb hby dd_prog_6_method_6_code_9)
  obtain ⟨rfl, eh2⟩ := Q2
  subst eh2
  refine Go.tr (g' := (mkF m 12 #[.val (.ref x0)] [(.int c1)])) st2 ?_
  refine Go.st (g' := (mkF m 14 #[.val (.ref x0)] [(.int (32 : Int32)), (.int c1)])) (fun _ k => XS.bipush W2.here hx rfl (hb hby dd_prog_6_method_6_code_12) k) ?_
  by_cases hc3 : c1 = (32 : Int32)
  · refine Go.st (g' := (mkF m 17 #[.val (.ref x0)] [])) (fun _ k => XS.icmpNo W2.here hx rfl (hb hby dd_prog_6_method_6_code_14) rfl (teq hc3).2 k) ?_
    refine Go.st (g' := (mkF m 18 #[.val (.ref x0)] [(.int (1 : Int32))])) (fun _ k => XS.iconst W2.here hx rfl (hb hby dd_prog_6_method_6_code_17) k) ?_
    refine Go.st (g' := (mkF m 22 #[.val (.ref x0)] [(.int (1 : Int32))])) (fun _ k => XS.goto W2.here hx rfl (pc0 := 18) (pc' := 22) rfl (hb hby dd_prog_6_method_6_code_18) (by decide) (by decide) k) ?_
    exact W2.retN hx hEL hlk (t := .boolean) hret (by decide) (hb hby dd_prog_6_method_6_code_22) (by decide) (by decide) ⟨(by unfold own_de; rw [if_pos hc3]; first | done | rfl), rfl⟩
  · refine Go.st (g' := (mkF m 21 #[.val (.ref x0)] [])) (fun _ k => XS.icmpYes W2.here hx rfl (pc0 := 14) (pc' := 21) rfl (hb hby dd_prog_6_method_6_code_14) rfl (feq hc3).2 (by decide) (by decide) k) ?_
    refine Go.st (g' := (mkF m 22 #[.val (.ref x0)] [(.int (0 : Int32))])) (fun _ k => XS.iconst W2.here hx rfl (hb hby dd_prog_6_method_6_code_21) k) ?_
    exact W2.retN hx hEL hlk (t := .boolean) hret (by decide) (hb hby dd_prog_6_method_6_code_22) (by decide) (by decide) ⟨(by unfold own_de; rw [if_neg hc3]; first | done | rfl), rfl⟩
set_option maxRecDepth 65536 in
set_option maxHeartbeats 4000000 in
theorem own_deL3 (l : Launch) {Z : State} {a0 : Array Value} (hE : Ctx Z a0) {n0 : Nat} {h0 : Heap} (O : Old Z n0 h0) {x0 : Addr} {t0 : Addr} {c1 : Int32} {c2 : Int32} {c3 : Int32} (hl1 : ¬ c1 < 0 ∧ ¬ (255 : Int32) < c1) (hl2 : ¬ c2 < 0 ∧ ¬ (255 : Int32) < c2) (hl3 : ¬ c3 < 0 ∧ ¬ (255 : Int32) < c3) (P0 : Exa Z h0 x0 "java/lang/String") (P1 : Str Z h0 x0 t0 [c1, c2, c3]) :
    Met l (⟨"com/example/ontoloom/ontoloom/sql/Iri", "isDataError", "(Ljava/lang/String;)Z"⟩ : MethodName) prog_6_method_6_code 1 (Option.some Jvm.ClassFile.FieldType.boolean) ({ frames := 4, cells := 0, slots := 0, locals := 53 } : Room) Z consts_1 n0 [] #[(.ref x0)] h0 (fun v h => v = some (.int (own_de c1)) ∧ h0 = h) := by
  have hw := hE.1
  have hEL := own_EW hw
  have own_wS := own_stringAtoms hw
  obtain ⟨zc, hzc, hzc0⟩ := hE.2.1
  obtain ⟨fm, hfm, rfm⟩ := hE.2.2.1
  have hem : ∀ d ∈ StrChars.Road.wordsEmp, d.before a0 Z = true := fun d hd => hw d ((by decide +kernel : ∀ d ∈ StrChars.Road.wordsEmp, d ∈ tables_1) d hd)
  have hch : ∀ d ∈ StrChars.Road.wordsChN, d.before a0 Z = true := fun d hd => hw d ((by decide +kernel : ∀ d ∈ StrChars.Road.wordsChN, d ∈ tables_1) d hd)
  refine Met.of (by first | (refine plainFor_of_name ?_; simp [plainName, overriddenIn]; done) | decide +kernel) O ?_
  intro p e s m below meth c T0 hx hby hml hret hlk hnm hh0 W0
  have z0 := W0.ge
  have yP0 : h0.size > x0 := P0.lt
  have yP1 : h0.size > x0 ∧ h0.size > t0 := P1.lt
  refine Go.st (g' := (mkF m 0 #[.val (.ref x0)] [])) (fun _ k => castTop (by first | (simp [entryFrame, mkF, argsToLocals, maxLocals, own_catI, own_catJ, own_catD, own_catA, own_catN]; done) | rfl) k) ?_
  refine Go.st (g' := (mkF m 1 #[.val (.ref x0)] [(.ref x0)])) (fun _ k => XS.aloadN W0.here hx rfl (hb hby dd_prog_6_method_6_code_0) rfl rfl  k) ?_
  obtain ⟨T1, W1, st1⟩ := W0.strEmp hx hem (hw _ (List.mem_of_getElem? (i := 15) rfl)) P1 (hw _ (List.mem_of_getElem? (i := 35) rfl)) (hw _ (List.mem_of_getElem? (i := 36) rfl)) (hw _ (List.mem_of_getElem? (i := 38) rfl)) (hw _ (List.mem_of_getElem? (i := 37) rfl)) (Wd := 0) (by decide) (by decide) (by decide) (by decide) (g := (mkF m 1 #[.val (.ref x0)] [(.ref x0)])) rfl (by rw [hml]; rfl) (rest := []) rfl (by show 2 * 0 + _ ≤ _; exact Nat.le_of_eq rfl) (hb hby dd_prog_6_method_6_code_1)
  refine Go.tr (g' := (mkF m 4 #[.val (.ref x0)] [(.int (0 : Int32))])) st1 ?_
  refine Go.st (g' := (mkF m 7 #[.val (.ref x0)] [])) (fun _ k => XS.ifNo W1.here hx rfl (hb hby dd_prog_6_method_6_code_4) rfl ((if0 _ _).trans (teq (by decide)).2) k) ?_
  refine Go.st (g' := (mkF m 8 #[.val (.ref x0)] [(.ref x0)])) (fun _ k => XS.aloadN W1.here hx rfl (hb hby dd_prog_6_method_6_code_7) rfl rfl  k) ?_
  refine Go.st (g' := (mkF m 9 #[.val (.ref x0)] [(.int (0 : Int32)), (.ref x0)])) (fun _ k => XS.iconst W1.here hx rfl (hb hby dd_prog_6_method_6_code_8) k) ?_
  obtain ⟨T2, W2, st2⟩ := W1.strChr hx hch (hw _ (List.mem_of_getElem? (i := 15) rfl)) P1 (own_allS hl1.2 (own_allS hl2.2 (own_allS hl3.2 own_all0))) hzc hzc0 hfm rfm (i := 0) (j := (0 : Int32)) (Nat.le_of_ble_eq_true rfl) (by decide) (hw _ (List.mem_of_getElem? (i := 40) rfl)) (hw _ (List.mem_of_getElem? (i := 41) rfl)) (hw _ (List.mem_of_getElem? (i := 43) rfl)) (hw _ (List.mem_of_getElem? (i := 42) rfl)) (Wd := 0) (by decide) (by decide) (by decide) (by decide) (g := (mkF m 9 #[.val (.ref x0)] [(.int (0 : Int32)), (.ref x0)])) rfl (by rw [hml]; rfl) (rest := []) rfl (by show 2 * 0 + _ ≤ _; exact Nat.le_of_eq rfl) (hb hby dd_prog_6_method_6_code_9)
  refine Go.tr (g' := (mkF m 12 #[.val (.ref x0)] [(.int c1)])) st2 ?_
  refine Go.st (g' := (mkF m 14 #[.val (.ref x0)] [(.int (32 : Int32)), (.int c1)])) (fun _ k => XS.bipush W2.here hx rfl (hb hby dd_prog_6_method_6_code_12) k) ?_
  by_cases hc3 : c1 = (32 : Int32)
  · refine Go.st (g' := (mkF m 17 #[.val (.ref x0)] [])) (fun _ k => XS.icmpNo W2.here hx rfl (hb hby dd_prog_6_method_6_code_14) rfl (teq hc3).2 k) ?_
    refine Go.st (g' := (mkF m 18 #[.val (.ref x0)] [(.int (1 : Int32))])) (fun _ k => XS.iconst W2.here hx rfl (hb hby dd_prog_6_method_6_code_17) k) ?_
    refine Go.st (g' := (mkF m 22 #[.val (.ref x0)] [(.int (1 : Int32))])) (fun _ k => XS.goto W2.here hx rfl (pc0 := 18) (pc' := 22) rfl (hb hby dd_prog_6_method_6_code_18) (by decide) (by decide) k) ?_
    exact W2.retN hx hEL hlk (t := .boolean) hret (by decide) (hb hby dd_prog_6_method_6_code_22) (by decide) (by decide) ⟨(by unfold own_de; rw [if_pos hc3]; first | done | rfl), rfl⟩
  · refine Go.st (g' := (mkF m 21 #[.val (.ref x0)] [])) (fun _ k => XS.icmpYes W2.here hx rfl (pc0 := 14) (pc' := 21) rfl (hb hby dd_prog_6_method_6_code_14) rfl (feq hc3).2 (by decide) (by decide) k) ?_
    refine Go.st (g' := (mkF m 22 #[.val (.ref x0)] [(.int (0 : Int32))])) (fun _ k => XS.iconst W2.here hx rfl (hb hby dd_prog_6_method_6_code_21) k) ?_
    exact W2.retN hx hEL hlk (t := .boolean) hret (by decide) (hb hby dd_prog_6_method_6_code_22) (by decide) (by decide) ⟨(by unfold own_de; rw [if_neg hc3]; first | done | rfl), rfl⟩
set_option maxRecDepth 65536 in
set_option maxHeartbeats 4000000 in
theorem own_emp3 (l : Launch) {Z : State} {a0 : Array Value} (hE : Ctx Z a0) {n0 : Nat} {h0 : Heap} (O : Old Z n0 h0) {x0 : Addr} {b0 : Addr} {kb : ClassId} {vs0 : List Value} {dd : Value}  (P0 : Exa Z h0 x0 "java/lang/String") (P1 : Fld Z h0 x0 "java/lang/String" "value" "[B" (.ref b0)) (P2 : Arv Z h0 b0 kb .byte (6 : Int32) vs0 dd) :
    Met l (⟨"java/lang/String", "isEmpty", "()Z"⟩ : MethodName) jdk_42_method_55_code 1 (Option.some Jvm.ClassFile.FieldType.boolean) ({ frames := 0, cells := 0, slots := 0, locals := 0 } : Room) Z consts_1 n0 [] #[(.ref x0)] h0 (fun v h => v = some (.int (0 : Int32)) ∧ h0 = h) := by
  have hw := hE.1
  have hEL := own_EW hw
  have own_wS := own_stringAtoms hw
  have hE1 := own_E1 hw
  refine Met.of (by first | (refine plainFor_of_name ?_; simp [plainName, overriddenIn]; done) | decide +kernel) O ?_
  intro p e s m below meth c T0 hx hby hml hret hlk hnm hh0 W0
  have z0 := W0.ge
  have yP0 : h0.size > x0 := P0.lt
  have yP2 : h0.size > b0 := P2.lt
  refine Go.st (g' := (mkF m 0 #[.val (.ref x0)] [])) (fun _ k => castTop (by first | (simp [entryFrame, mkF, argsToLocals, maxLocals, own_catI, own_catJ, own_catD, own_catA, own_catN]; done) | rfl) k) ?_
  refine Go.st (g' := (mkF m 1 #[.val (.ref x0)] [(.ref x0)])) (fun _ k => XS.aloadN W0.here hx rfl (hb hby dd_jdk_42_method_55_code_0) rfl rfl  k) ?_
  obtain ⟨T1, W1, st1⟩ := W0.getF hx (hw _ (List.mem_of_getElem? (i := 27) rfl)) Via.refl P1 (g := (mkF m 1 #[.val (.ref x0)] [(.ref x0)])) rfl rfl (hb hby dd_jdk_42_method_55_code_1)
  refine Go.st (g' := (mkF m 4 #[.val (.ref x0)] [(.ref b0)])) st1 ?_
  refine Go.st (g' := (mkF m 5 #[.val (.ref x0)] [(.int (6 : Int32))])) (W1.len hx P2 (g := (mkF m 4 #[.val (.ref x0)] [(.ref b0)])) rfl rfl (hb hby dd_jdk_42_method_55_code_4)) ?_
  refine Go.st (g' := (mkF m 12 #[.val (.ref x0)] [])) (fun _ k => XS.ifYes W1.here hx rfl (pc0 := 5) (pc' := 12) rfl (hb hby dd_jdk_42_method_55_code_5) rfl ((if0 _ _).trans (feq (by decide)).2) (by decide) (by decide) k) ?_
  refine Go.st (g' := (mkF m 13 #[.val (.ref x0)] [(.int (0 : Int32))])) (fun _ k => XS.iconst W1.here hx rfl (hb hby dd_jdk_42_method_55_code_12) k) ?_
  exact W1.retN hx hEL hlk (t := .boolean) hret (by decide) (hb hby dd_jdk_42_method_55_code_13) (by decide) (by decide) ⟨rfl, rfl⟩
set_option maxRecDepth 65536 in
set_option maxHeartbeats 4000000 in
theorem own_ul3 (l : Launch) {Z : State} {a0 : Array Value} (hE : Ctx Z a0) {n0 : Nat} {h0 : Heap} (O : Old Z n0 h0) {b0 : Addr} {kb : ClassId} {vs0 : List Value} {dd : Value}  (P0 : Arv Z h0 b0 kb .byte (6 : Int32) vs0 dd) :
    Met l (⟨"java/lang/StringUTF16", "length", "([B)I"⟩ : MethodName) jdk_52_method_6_code 1 (Option.some Jvm.ClassFile.FieldType.int) ({ frames := 0, cells := 0, slots := 0, locals := 0 } : Room) Z consts_1 n0 [] #[(.ref b0)] h0 (fun v h => v = some (.int (3 : Int32)) ∧ h0 = h) := by
  have hw := hE.1
  have hEL := own_EW hw
  have own_wS := own_stringAtoms hw
  have hE1 := own_E1 hw
  refine Met.of (by first | (refine plainFor_of_name ?_; simp [plainName, overriddenIn]; done) | decide +kernel) O ?_
  intro p e s m below meth c T0 hx hby hml hret hlk hnm hh0 W0
  have z0 := W0.ge
  have yP0 : h0.size > b0 := P0.lt
  refine Go.st (g' := (mkF m 0 #[.val (.ref b0)] [])) (fun _ k => castTop (by first | (simp [entryFrame, mkF, argsToLocals, maxLocals, own_catI, own_catJ, own_catD, own_catA, own_catN]; done) | rfl) k) ?_
  refine Go.st (g' := (mkF m 1 #[.val (.ref b0)] [(.ref b0)])) (fun _ k => XS.aloadN W0.here hx rfl (hb hby dd_jdk_52_method_6_code_0) rfl rfl  k) ?_
  refine Go.st (g' := (mkF m 2 #[.val (.ref b0)] [(.int (6 : Int32))])) (W0.len hx P0 (g := (mkF m 1 #[.val (.ref b0)] [(.ref b0)])) rfl rfl (hb hby dd_jdk_52_method_6_code_1)) ?_
  refine Go.st (g' := (mkF m 3 #[.val (.ref b0)] [(.int (1 : Int32)), (.int (6 : Int32))])) (fun _ k => XS.iconst W0.here hx rfl (hb hby dd_jdk_52_method_6_code_2) k) ?_
  refine Go.st (g' := (mkF m 4 #[.val (.ref b0)] [(.int (3 : Int32))])) (fun _ k => XS.ishr W0.here hx rfl (hb hby dd_jdk_52_method_6_code_3) rfl k) ?_
  exact W0.retI hx hEL hlk hret (hb hby dd_jdk_52_method_6_code_4) (by decide) (by decide) ⟨rfl, rfl⟩
set_option maxRecDepth 65536 in
set_option maxHeartbeats 4000000 in
theorem own_uci3_0 (l : Launch) {Z : State} {a0 : Array Value} (hE : Ctx Z a0) {n0 : Nat} {h0 : Heap} (O : Old Z n0 h0) {b0 : Addr} {kb : ClassId} {vs0 : List Value} {dd : Value}  (P0 : Arv Z h0 b0 kb .byte (6 : Int32) vs0 dd) :
    Met l (⟨"java/lang/StringUTF16", "checkIndex", "(I[B)V"⟩ : MethodName) jdk_52_method_91_code 2 (Option.none : Option Jvm.ClassFile.FieldType) ({ frames := 2, cells := 0, slots := 0, locals := 27 } : Room) Z consts_1 n0 [] #[(.int (0 : Int32)), (.ref b0)] h0 (fun v h => v = none ∧ h0 = h) := by
  have hw := hE.1
  have hEL := own_EW hw
  have own_wS := own_stringAtoms hw
  have hE1 := own_E1 hw
  refine Met.of (by first | (refine plainFor_of_name ?_; simp [plainName, overriddenIn]; done) | decide +kernel) O ?_
  intro p e s m below meth c T0 hx hby hml hret hlk hnm hh0 W0
  have z0 := W0.ge
  have yP0 : h0.size > b0 := P0.lt
  refine Go.st (g' := (mkF m 0 #[.val (.int (0 : Int32)), .val (.ref b0)] [])) (fun _ k => castTop (by first | (simp [entryFrame, mkF, argsToLocals, maxLocals, own_catI, own_catJ, own_catD, own_catA, own_catN]; done) | rfl) k) ?_
  refine Go.st (g' := (mkF m 1 #[.val (.int (0 : Int32)), .val (.ref b0)] [(.int (0 : Int32))])) (fun _ k => XS.iloadN W0.here hx rfl (hb hby dd_jdk_52_method_91_code_0) rfl  k) ?_
  refine Go.st (g' := (mkF m 2 #[.val (.int (0 : Int32)), .val (.ref b0)] [(.ref b0), (.int (0 : Int32))])) (fun _ k => XS.aloadN W0.here hx rfl (hb hby dd_jdk_52_method_91_code_1) rfl rfl  k) ?_
  obtain ⟨_, vm1, T1, h1, W1, Q1, z1, SF1, st1⟩ := W0.callS hx hEL (own_ul3 l hE W0.old (b0 := b0) (kb := kb) (vs0 := vs0) (dd := dd)  P0) (hw _ (List.mem_of_getElem? (i := 107) rfl)) (hw _ (List.mem_of_getElem? (i := 108) rfl)) (hw _ (List.mem_of_getElem? (i := 71) rfl)) (hw _ (List.mem_of_getElem? (i := 109) rfl)) (by decide) (Wd := 1) (by decide) (by decide) (by decide) (by decide) (g := (mkF m 2 #[.val (.int (0 : Int32)), .val (.ref b0)] [(.ref b0), (.int (0 : Int32))])) rfl (by rw [hml]; rfl) (argsL := [(.ref b0)]) (rest := [(.int (0 : Int32))]) rfl (lenOf pd___B_I rfl) rfl (by show 2 * 0 + _ ≤ _; exact Nat.le_of_eq rfl) (hb hby dd_jdk_52_method_91_code_2)
  obtain ⟨rfl, eh1⟩ := Q1
  subst eh1
  refine Go.tr (g' := (mkF m 5 #[.val (.int (0 : Int32)), .val (.ref b0)] [(.int (3 : Int32)), (.int (0 : Int32))])) st1 ?_
  obtain ⟨_, vm2, T2, h2, W2, Q2, z2, SF2, st2⟩ := W1.callS hx hEL (own_sci l hE W1.old (i0 := (0 : Int32)) (l0 := (3 : Int32)) (by decide) (by decide) ) (hw _ (List.mem_of_getElem? (i := 110) rfl)) (hw _ (List.mem_of_getElem? (i := 54) rfl)) (hw _ (List.mem_of_getElem? (i := 7) rfl)) (hw _ (List.mem_of_getElem? (i := 55) rfl)) (by decide) (Wd := 0) (by decide) (by decide) (by decide) (by decide) (g := (mkF m 5 #[.val (.int (0 : Int32)), .val (.ref b0)] [(.int (3 : Int32)), (.int (0 : Int32))])) rfl (by rw [hml]; rfl) (argsL := [(.int (0 : Int32)), (.int (3 : Int32))]) (rest := []) rfl (lenOf pd__II_V rfl) rfl (by show 2 * 0 + _ ≤ _; exact Nat.le_of_eq rfl) (hb hby dd_jdk_52_method_91_code_5)
  obtain ⟨rfl, eh2⟩ := Q2
  subst eh2
  refine Go.tr (g' := (mkF m 8 #[.val (.int (0 : Int32)), .val (.ref b0)] [])) st2 ?_
  exact W2.retV hx hEL hlk hret (hb hby dd_jdk_52_method_91_code_8) (by decide) (by decide) ⟨rfl, rfl⟩
set_option maxRecDepth 65536 in
set_option maxHeartbeats 4000000 in
theorem own_uch3_0 (l : Launch) {Z : State} {a0 : Array Value} (hE : Ctx Z a0) {n0 : Nat} {h0 : Heap} (O : Old Z n0 h0) {b0 : Addr} {kb : ClassId} {c1 : Int32} {c2 : Int32} {c3 : Int32} (hc1 : Chr c1) (P0 : Arv Z h0 b0 kb .byte (6 : Int32) [(.int ((c1 >>> ((0 : Int32) &&& 31)).toInt8.toInt32)), (.int ((c1 >>> ((8 : Int32) &&& 31)).toInt8.toInt32)), (.int ((c2 >>> ((0 : Int32) &&& 31)).toInt8.toInt32)), (.int ((c2 >>> ((8 : Int32) &&& 31)).toInt8.toInt32)), (.int ((c3 >>> ((0 : Int32) &&& 31)).toInt8.toInt32)), (.int ((c3 >>> ((8 : Int32) &&& 31)).toInt8.toInt32))] (.int (0 : Int32))) :
    Met l (⟨"java/lang/StringUTF16", "charAt", "([BI)C"⟩ : MethodName) jdk_52_method_83_code 2 (Option.some Jvm.ClassFile.FieldType.char) ({ frames := 3, cells := 0, slots := 0, locals := 40 } : Room) Z consts_1 n0 [] #[(.ref b0), (.int (0 : Int32))] h0 (fun v h => v = some (.int c1) ∧ h0 = h) := by
  have hw := hE.1
  have hEL := own_EW hw
  have own_wS := own_stringAtoms hw
  have hE1 := own_E1 hw
  refine Met.of (by first | (refine plainFor_of_name ?_; simp [plainName, overriddenIn]; done) | decide +kernel) O ?_
  intro p e s m below meth c T0 hx hby hml hret hlk hnm hh0 W0
  have z0 := W0.ge
  have yP0 : h0.size > b0 := P0.lt
  refine Go.st (g' := (mkF m 0 #[.val (.ref b0), .val (.int (0 : Int32))] [])) (fun _ k => castTop (by first | (simp [entryFrame, mkF, argsToLocals, maxLocals, own_catI, own_catJ, own_catD, own_catA, own_catN]; done) | rfl) k) ?_
  refine Go.st (g' := (mkF m 1 #[.val (.ref b0), .val (.int (0 : Int32))] [(.int (0 : Int32))])) (fun _ k => XS.iloadN W0.here hx rfl (hb hby dd_jdk_52_method_83_code_0) rfl  k) ?_
  refine Go.st (g' := (mkF m 2 #[.val (.ref b0), .val (.int (0 : Int32))] [(.ref b0), (.int (0 : Int32))])) (fun _ k => XS.aloadN W0.here hx rfl (hb hby dd_jdk_52_method_83_code_1) rfl rfl  k) ?_
  obtain ⟨_, vm1, T1, h1, W1, Q1, z1, SF1, st1⟩ := W0.callS hx hEL (own_uci3_0 l hE W0.old (b0 := b0) (kb := kb) (vs0 := [(.int ((c1 >>> ((0 : Int32) &&& 31)).toInt8.toInt32)), (.int ((c1 >>> ((8 : Int32) &&& 31)).toInt8.toInt32)), (.int ((c2 >>> ((0 : Int32) &&& 31)).toInt8.toInt32)), (.int ((c2 >>> ((8 : Int32) &&& 31)).toInt8.toInt32)), (.int ((c3 >>> ((0 : Int32) &&& 31)).toInt8.toInt32)), (.int ((c3 >>> ((8 : Int32) &&& 31)).toInt8.toInt32))]) (dd := (.int (0 : Int32)))  P0) (hw _ (List.mem_of_getElem? (i := 104) rfl)) (hw _ (List.mem_of_getElem? (i := 105) rfl)) (hw _ (List.mem_of_getElem? (i := 71) rfl)) (hw _ (List.mem_of_getElem? (i := 106) rfl)) (by decide) (Wd := 0) (by decide) (by decide) (by decide) (by decide) (g := (mkF m 2 #[.val (.ref b0), .val (.int (0 : Int32))] [(.ref b0), (.int (0 : Int32))])) rfl (by rw [hml]; rfl) (argsL := [(.int (0 : Int32)), (.ref b0)]) (rest := []) rfl (lenOf pd__I_B_V rfl) rfl (by show 2 * 0 + _ ≤ _; exact Nat.le_of_eq rfl) (hb hby dd_jdk_52_method_83_code_2)
  obtain ⟨rfl, eh1⟩ := Q1
  subst eh1
  refine Go.tr (g' := (mkF m 5 #[.val (.ref b0), .val (.int (0 : Int32))] [])) st1 ?_
  refine Go.st (g' := (mkF m 6 #[.val (.ref b0), .val (.int (0 : Int32))] [(.ref b0)])) (fun _ k => XS.aloadN W1.here hx rfl (hb hby dd_jdk_52_method_83_code_5) rfl rfl  k) ?_
  refine Go.st (g' := (mkF m 7 #[.val (.ref b0), .val (.int (0 : Int32))] [(.int (0 : Int32)), (.ref b0)])) (fun _ k => XS.iloadN W1.here hx rfl (hb hby dd_jdk_52_method_83_code_6) rfl  k) ?_
  obtain ⟨_, vm2, T2, h2, W2, Q2, z2, SF2, st2⟩ := W1.callS hx hEL (own_get0 l hE W1.old (b0 := b0) (kb := kb) (zz := (6 : Int32)) (vs0 := [(.int ((c1 >>> ((0 : Int32) &&& 31)).toInt8.toInt32)), (.int ((c1 >>> ((8 : Int32) &&& 31)).toInt8.toInt32)), (.int ((c2 >>> ((0 : Int32) &&& 31)).toInt8.toInt32)), (.int ((c2 >>> ((8 : Int32) &&& 31)).toInt8.toInt32)), (.int ((c3 >>> ((0 : Int32) &&& 31)).toInt8.toInt32)), (.int ((c3 >>> ((8 : Int32) &&& 31)).toInt8.toInt32))]) (dd := (.int (0 : Int32))) (c0 := c1) hc1 (by decide) (by decide) rfl rfl P0) (hw _ (List.mem_of_getElem? (i := 98) rfl)) (hw _ (List.mem_of_getElem? (i := 99) rfl)) (hw _ (List.mem_of_getElem? (i := 71) rfl)) (hw _ (List.mem_of_getElem? (i := 100) rfl)) (by decide) (Wd := 0) (by decide) (by decide) (by decide) (by decide) (g := (mkF m 7 #[.val (.ref b0), .val (.int (0 : Int32))] [(.int (0 : Int32)), (.ref b0)])) rfl (by rw [hml]; rfl) (argsL := [(.ref b0), (.int (0 : Int32))]) (rest := []) rfl (lenOf pd___BI_C rfl) rfl (by show 2 * 0 + _ ≤ _; exact Nat.le_of_eq rfl) (hb hby dd_jdk_52_method_83_code_7)
  obtain ⟨rfl, eh2⟩ := Q2
  subst eh2
  refine Go.tr (g' := (mkF m 10 #[.val (.ref b0), .val (.int (0 : Int32))] [(.int c1)])) st2 ?_
  exact W2.retN hx hEL hlk (t := .char) hret (by decide) (hb hby dd_jdk_52_method_83_code_10) (by decide) (by decide) ⟨(congrArg (fun x => some (Value.int x)) (own_narC hc1)), rfl⟩
set_option maxRecDepth 65536 in
set_option maxHeartbeats 4000000 in
theorem own_sch3_0 (l : Launch) {Z : State} {a0 : Array Value} (hE : Ctx Z a0) {n0 : Nat} {h0 : Heap} (O : Old Z n0 h0) {x0 : Addr} {b0 : Addr} {kb : ClassId} {c1 : Int32} {c2 : Int32} {c3 : Int32} (hc1 : Chr c1) (P0 : Exa Z h0 x0 "java/lang/String") (P1 : Fld Z h0 x0 "java/lang/String" "value" "[B" (.ref b0)) (P2 : Fld Z h0 x0 "java/lang/String" "coder" "B" (.int (1 : Int32))) (P3 : Arv Z h0 b0 kb .byte (6 : Int32) [(.int ((c1 >>> ((0 : Int32) &&& 31)).toInt8.toInt32)), (.int ((c1 >>> ((8 : Int32) &&& 31)).toInt8.toInt32)), (.int ((c2 >>> ((0 : Int32) &&& 31)).toInt8.toInt32)), (.int ((c2 >>> ((8 : Int32) &&& 31)).toInt8.toInt32)), (.int ((c3 >>> ((0 : Int32) &&& 31)).toInt8.toInt32)), (.int ((c3 >>> ((8 : Int32) &&& 31)).toInt8.toInt32))] (.int (0 : Int32))) :
    Met l (⟨"java/lang/String", "charAt", "(I)C"⟩ : MethodName) jdk_42_method_56_code 2 (Option.some Jvm.ClassFile.FieldType.char) ({ frames := 4, cells := 0, slots := 0, locals := 53 } : Room) Z consts_1 n0 [] #[(.ref x0), (.int (0 : Int32))] h0 (fun v h => v = some (.int c1) ∧ h0 = h) := by
  have hw := hE.1
  have hEL := own_EW hw
  have own_wS := own_stringAtoms hw
  have hE1 := own_E1 hw
  refine Met.of (by first | (refine plainFor_of_name ?_; simp [plainName, overriddenIn]; done) | decide +kernel) O ?_
  intro p e s m below meth c T0 hx hby hml hret hlk hnm hh0 W0
  have z0 := W0.ge
  have yP0 : h0.size > x0 := P0.lt
  have yP3 : h0.size > b0 := P3.lt
  refine Go.st (g' := (mkF m 0 #[.val (.ref x0), .val (.int (0 : Int32))] [])) (fun _ k => castTop (by first | (simp [entryFrame, mkF, argsToLocals, maxLocals, own_catI, own_catJ, own_catD, own_catA, own_catN]; done) | rfl) k) ?_
  refine Go.st (g' := (mkF m 1 #[.val (.ref x0), .val (.int (0 : Int32))] [(.ref x0)])) (fun _ k => XS.aloadN W0.here hx rfl (hb hby dd_jdk_42_method_56_code_0) rfl rfl  k) ?_
  obtain ⟨_, vm1, T1, h1, W1, Q1, z1, SF1, st1⟩ := W0.callV hx hEL (own_isl l hE W0.old (x0 := x0)  P2) (hw _ (List.mem_of_getElem? (i := 45) rfl)) (hw _ (List.mem_of_getElem? (i := 46) rfl)) (hw _ (List.mem_of_getElem? (i := 48) rfl)) (hw _ (List.mem_of_getElem? (i := 47) rfl)) (hw _ (List.mem_of_getElem? (i := 7) rfl)) (hw _ (List.mem_of_getElem? (i := 49) rfl)) (by decide) (Wd := 0) (by decide) (by decide) (by decide) (by decide) (g := (mkF m 1 #[.val (.ref x0), .val (.int (0 : Int32))] [(.ref x0)])) rfl (by rw [hml]; rfl) (a := x0) P0 (argsL := []) (rest := []) rfl (lenOf pd___Z rfl) rfl (by show 2 * 0 + _ ≤ _; exact Nat.le_of_eq rfl) (hb hby dd_jdk_42_method_56_code_1)
  obtain ⟨rfl, eh1⟩ := Q1
  subst eh1
  refine Go.tr (g' := (mkF m 4 #[.val (.ref x0), .val (.int (0 : Int32))] [(.int (0 : Int32))])) st1 ?_
  refine Go.st (g' := (mkF m 16 #[.val (.ref x0), .val (.int (0 : Int32))] [])) (fun _ k => XS.ifYes W1.here hx rfl (pc0 := 4) (pc' := 16) rfl (hb hby dd_jdk_42_method_56_code_4) rfl ((if0 _ _).trans (teq (by decide)).1) (by decide) (by decide) k) ?_
  refine Go.st (g' := (mkF m 17 #[.val (.ref x0), .val (.int (0 : Int32))] [(.ref x0)])) (fun _ k => XS.aloadN W1.here hx rfl (hb hby dd_jdk_42_method_56_code_16) rfl rfl  k) ?_
  obtain ⟨T2, W2, st2⟩ := W1.getF hx (hw _ (List.mem_of_getElem? (i := 27) rfl)) Via.refl P1 (g := (mkF m 17 #[.val (.ref x0), .val (.int (0 : Int32))] [(.ref x0)])) rfl rfl (hb hby dd_jdk_42_method_56_code_17)
  refine Go.st (g' := (mkF m 20 #[.val (.ref x0), .val (.int (0 : Int32))] [(.ref b0)])) st2 ?_
  refine Go.st (g' := (mkF m 21 #[.val (.ref x0), .val (.int (0 : Int32))] [(.int (0 : Int32)), (.ref b0)])) (fun _ k => XS.iloadN W2.here hx rfl (hb hby dd_jdk_42_method_56_code_20) rfl  k) ?_
  obtain ⟨_, vm3, T3, h3, W3, Q3, z3, SF3, st3⟩ := W2.callS hx hEL (own_uch3_0 l hE W2.old (b0 := b0) (kb := kb) (c1 := c1) (c2 := c2) (c3 := c3) hc1 P3) (hw _ (List.mem_of_getElem? (i := 101) rfl)) (hw _ (List.mem_of_getElem? (i := 102) rfl)) (hw _ (List.mem_of_getElem? (i := 71) rfl)) (hw _ (List.mem_of_getElem? (i := 103) rfl)) (by decide) (Wd := 0) (by decide) (by decide) (by decide) (by decide) (g := (mkF m 21 #[.val (.ref x0), .val (.int (0 : Int32))] [(.int (0 : Int32)), (.ref b0)])) rfl (by rw [hml]; rfl) (argsL := [(.ref b0), (.int (0 : Int32))]) (rest := []) rfl (lenOf pd___BI_C rfl) rfl (by show 2 * 0 + _ ≤ _; exact Nat.le_of_eq rfl) (hb hby dd_jdk_42_method_56_code_21)
  obtain ⟨rfl, eh3⟩ := Q3
  subst eh3
  refine Go.tr (g' := (mkF m 24 #[.val (.ref x0), .val (.int (0 : Int32))] [(.int c1)])) st3 ?_
  exact W3.retN hx hEL hlk (t := .char) hret (by decide) (hb hby dd_jdk_42_method_56_code_24) (by decide) (by decide) ⟨(congrArg (fun x => some (Value.int x)) (own_narC hc1)), rfl⟩
set_option maxRecDepth 65536 in
set_option maxHeartbeats 4000000 in
theorem own_deW3 (l : Launch) {Z : State} {a0 : Array Value} (hE : Ctx Z a0) {n0 : Nat} {h0 : Heap} (O : Old Z n0 h0) {x0 : Addr} {t0 : Addr} {kt : ClassId} {c1 : Int32} {c2 : Int32} {c3 : Int32} (hc1 : Chr c1) (P0 : Exa Z h0 x0 "java/lang/String") (P1 : Fld Z h0 x0 "java/lang/String" "value" "[B" (.ref t0)) (P2 : Fld Z h0 x0 "java/lang/String" "coder" "B" (.int (1 : Int32))) (P3 : Arv Z h0 t0 kt .byte (6 : Int32) [(.int ((c1 >>> ((0 : Int32) &&& 31)).toInt8.toInt32)), (.int ((c1 >>> ((8 : Int32) &&& 31)).toInt8.toInt32)), (.int ((c2 >>> ((0 : Int32) &&& 31)).toInt8.toInt32)), (.int ((c2 >>> ((8 : Int32) &&& 31)).toInt8.toInt32)), (.int ((c3 >>> ((0 : Int32) &&& 31)).toInt8.toInt32)), (.int ((c3 >>> ((8 : Int32) &&& 31)).toInt8.toInt32))] (.int (0 : Int32))) :
    Met l (⟨"com/example/ontoloom/ontoloom/sql/Iri", "isDataError", "(Ljava/lang/String;)Z"⟩ : MethodName) prog_6_method_6_code 1 (Option.some Jvm.ClassFile.FieldType.boolean) ({ frames := 5, cells := 0, slots := 0, locals := 66 } : Room) Z consts_1 n0 [] #[(.ref x0)] h0 (fun v h => v = some (.int (own_de c1)) ∧ h0 = h) := by
  have hw := hE.1
  have hEL := own_EW hw
  have own_wS := own_stringAtoms hw
  refine Met.of (by first | (refine plainFor_of_name ?_; simp [plainName, overriddenIn]; done) | decide +kernel) O ?_
  intro p e s m below meth c T0 hx hby hml hret hlk hnm hh0 W0
  have z0 := W0.ge
  have yP0 : h0.size > x0 := P0.lt
  have yP3 : h0.size > t0 := P3.lt
  refine Go.st (g' := (mkF m 0 #[.val (.ref x0)] [])) (fun _ k => castTop (by first | (simp [entryFrame, mkF, argsToLocals, maxLocals, own_catI, own_catJ, own_catD, own_catA, own_catN]; done) | rfl) k) ?_
  refine Go.st (g' := (mkF m 1 #[.val (.ref x0)] [(.ref x0)])) (fun _ k => XS.aloadN W0.here hx rfl (hb hby dd_prog_6_method_6_code_0) rfl rfl  k) ?_
  obtain ⟨_, vm1, T1, h1, W1, Q1, z1, SF1, st1⟩ := W0.callV hx hEL (own_emp3 l hE W0.old (x0 := x0) (b0 := t0) (kb := kt) (vs0 := [(.int ((c1 >>> ((0 : Int32) &&& 31)).toInt8.toInt32)), (.int ((c1 >>> ((8 : Int32) &&& 31)).toInt8.toInt32)), (.int ((c2 >>> ((0 : Int32) &&& 31)).toInt8.toInt32)), (.int ((c2 >>> ((8 : Int32) &&& 31)).toInt8.toInt32)), (.int ((c3 >>> ((0 : Int32) &&& 31)).toInt8.toInt32)), (.int ((c3 >>> ((8 : Int32) &&& 31)).toInt8.toInt32))]) (dd := (.int (0 : Int32)))  P0 P1 P3) (hw _ (List.mem_of_getElem? (i := 35) rfl)) (hw _ (List.mem_of_getElem? (i := 36) rfl)) (hw _ (List.mem_of_getElem? (i := 38) rfl)) (hw _ (List.mem_of_getElem? (i := 37) rfl)) (hw _ (List.mem_of_getElem? (i := 7) rfl)) (hw _ (List.mem_of_getElem? (i := 39) rfl)) (by decide) (Wd := 0) (by decide) (by decide) (by decide) (by decide) (g := (mkF m 1 #[.val (.ref x0)] [(.ref x0)])) rfl (by rw [hml]; rfl) (a := x0) P0 (argsL := []) (rest := []) rfl (lenOf pd___Z rfl) rfl (by show 2 * 0 + _ ≤ _; exact Nat.le_of_eq rfl) (hb hby dd_prog_6_method_6_code_1)
  obtain ⟨rfl, eh1⟩ := Q1
  subst eh1
  refine Go.tr (g' := (mkF m 4 #[.val (.ref x0)] [(.int (0 : Int32))])) st1 ?_
  refine Go.st (g' := (mkF m 7 #[.val (.ref x0)] [])) (fun _ k => XS.ifNo W1.here hx rfl (hb hby dd_prog_6_method_6_code_4) rfl ((if0 _ _).trans (teq (by decide)).2) k) ?_
  refine Go.st (g' := (mkF m 8 #[.val (.ref x0)] [(.ref x0)])) (fun _ k => XS.aloadN W1.here hx rfl (hb hby dd_prog_6_method_6_code_7) rfl rfl  k) ?_
  refine Go.st (g' := (mkF m 9 #[.val (.ref x0)] [(.int (0 : Int32)), (.ref x0)])) (fun _ k => XS.iconst W1.here hx rfl (hb hby dd_prog_6_method_6_code_8) k) ?_
  obtain ⟨_, vm2, T2, h2, W2, Q2, z2, SF2, st2⟩ := W1.callV hx hEL (own_sch3_0 l hE W1.old (x0 := x0) (b0 := t0) (kb := kt) (c1 := c1) (c2 := c2) (c3 := c3) hc1 P0 P1 P2 P3) (hw _ (List.mem_of_getElem? (i := 40) rfl)) (hw _ (List.mem_of_getElem? (i := 41) rfl)) (hw _ (List.mem_of_getElem? (i := 43) rfl)) (hw _ (List.mem_of_getElem? (i := 42) rfl)) (hw _ (List.mem_of_getElem? (i := 7) rfl)) (hw _ (List.mem_of_getElem? (i := 44) rfl)) (by decide) (Wd := 0) (by decide) (by decide) (by decide) (by decide) (g := (mkF m 9 #[.val (.ref x0)] [(.int (0 : Int32)), (.ref x0)])) rfl (by rw [hml]; rfl) (a := x0) P0 (argsL := [(.int (0 : Int32))]) (rest := []) rfl (lenOf pd__I_C rfl) rfl (by show 2 * 0 + _ ≤ _; exact Nat.le_of_eq rfl) (hb hby dd_prog_6_method_6_code_9)
  obtain ⟨rfl, eh2⟩ := Q2
  subst eh2
  refine Go.tr (g' := (mkF m 12 #[.val (.ref x0)] [(.int c1)])) st2 ?_
  refine Go.st (g' := (mkF m 14 #[.val (.ref x0)] [(.int (32 : Int32)), (.int c1)])) (fun _ k => XS.bipush W2.here hx rfl (hb hby dd_prog_6_method_6_code_12) k) ?_
  by_cases hc3 : c1 = (32 : Int32)
  · refine Go.st (g' := (mkF m 17 #[.val (.ref x0)] [])) (fun _ k => XS.icmpNo W2.here hx rfl (hb hby dd_prog_6_method_6_code_14) rfl (teq hc3).2 k) ?_
    refine Go.st (g' := (mkF m 18 #[.val (.ref x0)] [(.int (1 : Int32))])) (fun _ k => XS.iconst W2.here hx rfl (hb hby dd_prog_6_method_6_code_17) k) ?_
    refine Go.st (g' := (mkF m 22 #[.val (.ref x0)] [(.int (1 : Int32))])) (fun _ k => XS.goto W2.here hx rfl (pc0 := 18) (pc' := 22) rfl (hb hby dd_prog_6_method_6_code_18) (by decide) (by decide) k) ?_
    exact W2.retN hx hEL hlk (t := .boolean) hret (by decide) (hb hby dd_prog_6_method_6_code_22) (by decide) (by decide) ⟨(by unfold own_de; rw [if_pos hc3]; first | done | rfl), rfl⟩
  · refine Go.st (g' := (mkF m 21 #[.val (.ref x0)] [])) (fun _ k => XS.icmpYes W2.here hx rfl (pc0 := 14) (pc' := 21) rfl (hb hby dd_prog_6_method_6_code_14) rfl (feq hc3).2 (by decide) (by decide) k) ?_
    refine Go.st (g' := (mkF m 22 #[.val (.ref x0)] [(.int (0 : Int32))])) (fun _ k => XS.iconst W2.here hx rfl (hb hby dd_prog_6_method_6_code_21) k) ?_
    exact W2.retN hx hEL hlk (t := .boolean) hret (by decide) (hb hby dd_prog_6_method_6_code_22) (by decide) (by decide) ⟨(by unfold own_de; rw [if_neg hc3]; first | done | rfl), rfl⟩
set_option maxRecDepth 65536 in
set_option maxHeartbeats 4000000 in
theorem own_law (l : Launch) {Z : State} {a0 : Array Value} (hE : Ctx Z a0) {n0 : Nat} {h0 : Heap} (O : Old Z n0 h0) {p0 : Int32} {p1 : Int32} {p2 : Int32} {p3 : Int32}   :
    Met l x code 10 ret room_1 Z consts_1 n0 tables_1 #[(.int p0), (.int p1), (.int p2), (.int p3)] h0 (fun v h => v = some (.int (1 : Int32))) := by
  have hw := hE.1
  have hEL := own_EW hw
  have own_wS := own_stringAtoms hw
  refine Met.of (by first | (refine plainFor_of_name ?_; simp [plainName, overriddenIn]; done) | decide +kernel) O ?_
  intro p e s m below meth c T0 hx hby hml hret hlk hnm hh0 W0
  have z0 := W0.ge
  refine Go.st (g' := (mkF m 0 #[.val (.int p0), .val (.int p1), .val (.int p2), .val (.int p3), .unset, .unset, .unset, .unset, .unset, .unset] [])) (fun _ k => castTop (by first | (simp [entryFrame, mkF, argsToLocals, maxLocals, own_catI, own_catJ, own_catD, own_catA, own_catN]; done) | rfl) k) ?_
  refine Go.st (g' := (mkF m 1 #[.val (.int p0), .val (.int p1), .val (.int p2), .val (.int p3), .unset, .unset, .unset, .unset, .unset, .unset] [(.int p3)])) (fun _ k => XS.iloadN W0.here hx rfl (hb hby at_0) rfl  k) ?_
  refine Go.st (g' := (mkF m 2 #[.val (.int p0), .val (.int p1), .val (.int p2), .val (.int p3), .unset, .unset, .unset, .unset, .unset, .unset] [(.int (3 : Int32)), (.int p3)])) (fun _ k => XS.iconst W0.here hx rfl (hb hby at_1) k) ?_
  refine Go.st (g' := (mkF m 3 #[.val (.int p0), .val (.int p1), .val (.int p2), .val (.int p3), .unset, .unset, .unset, .unset, .unset, .unset] [(.int (p3 &&& (3 : Int32)))])) (fun _ k => XS.iand W0.here hx rfl (hb hby at_2) rfl k) ?_
  refine Go.st (g' := (mkF m 5 #[.val (.int p0), .val (.int p1), .val (.int p2), .val (.int p3), .val (.int (p3 &&& (3 : Int32))), .unset, .unset, .unset, .unset, .unset] [])) (fun _ k => XS.istore W0.here hx rfl (hb hby at_3) rfl (l' := #[.val (.int p0), .val (.int p1), .val (.int p2), .val (.int p3), .val (.int (p3 &&& (3 : Int32))), .unset, .unset, .unset, .unset, .unset]) rfl k) ?_
  rcases own_and3 p3 with q | q | q | q
  · rw [q]
    refine Go.st (g' := (mkF m 6 #[.val (.int p0), .val (.int p1), .val (.int p2), .val (.int p3), .val (.int (0 : Int32)), .unset, .unset, .unset, .unset, .unset] [(.int p3)])) (fun _ k => XS.iloadN W0.here hx rfl (hb hby at_5) rfl  k) ?_
    refine Go.st (g' := (mkF m 7 #[.val (.int p0), .val (.int p1), .val (.int p2), .val (.int p3), .val (.int (0 : Int32)), .unset, .unset, .unset, .unset, .unset] [(.int (4 : Int32)), (.int p3)])) (fun _ k => XS.iconst W0.here hx rfl (hb hby at_6) k) ?_
    refine Go.st (g' := (mkF m 8 #[.val (.int p0), .val (.int p1), .val (.int p2), .val (.int p3), .val (.int (0 : Int32)), .unset, .unset, .unset, .unset, .unset] [(.int (p3 &&& (4 : Int32)))])) (fun _ k => XS.iand W0.here hx rfl (hb hby at_7) rfl k) ?_
    by_cases hc1 : (p3 &&& (4 : Int32)) = (0 : Int32)
    · refine Go.st (g' := (mkF m 16 #[.val (.int p0), .val (.int p1), .val (.int p2), .val (.int p3), .val (.int (0 : Int32)), .unset, .unset, .unset, .unset, .unset] [])) (fun _ k => XS.ifYes W0.here hx rfl (pc0 := 8) (pc' := 16) rfl (hb hby at_8) rfl ((if0 _ _).trans (teq hc1).1) (by decide) (by decide) k) ?_
      refine Go.st (g' := (mkF m 17 #[.val (.int p0), .val (.int p1), .val (.int p2), .val (.int p3), .val (.int (0 : Int32)), .unset, .unset, .unset, .unset, .unset] [(.int p0)])) (fun _ k => XS.iloadN W0.here hx rfl (hb hby at_16) rfl  k) ?_
      refine Go.st (g' := (mkF m 19 #[.val (.int p0), .val (.int p1), .val (.int p2), .val (.int p3), .val (.int (0 : Int32)), .unset, .unset, .unset, .unset, .unset] [(.int (65535 : Int32)), (.int p0)])) (W0.ldcI hx (hw _ (List.mem_of_getElem? (i := 0) rfl)) (g := (mkF m 17 #[.val (.int p0), .val (.int p1), .val (.int p2), .val (.int p3), .val (.int (0 : Int32)), .unset, .unset, .unset, .unset, .unset] [(.int p0)])) rfl (hb hby at_17)) ?_
      refine Go.st (g' := (mkF m 20 #[.val (.int p0), .val (.int p1), .val (.int p2), .val (.int p3), .val (.int (0 : Int32)), .unset, .unset, .unset, .unset, .unset] [(.int (p0 &&& (65535 : Int32)))])) (fun _ k => XS.iand W0.here hx rfl (hb hby at_19) rfl k) ?_
      refine Go.st (g' := (mkF m 21 #[.val (.int p0), .val (.int p1), .val (.int p2), .val (.int p3), .val (.int (0 : Int32)), .unset, .unset, .unset, .unset, .unset] [(.int ((p0 &&& (65535 : Int32)).toUInt32.toUInt16.toUInt32.toInt32))])) (fun _ k => XS.i2c W0.here hx rfl (hb hby at_20) rfl k) ?_
      rw [own_i2c16]
      refine Go.st (g' := (mkF m 23 #[.val (.int p0), .val (.int p1), .val (.int p2), .val (.int p3), .val (.int (0 : Int32)), .val (.int (p0 &&& (65535 : Int32))), .unset, .unset, .unset, .unset] [])) (fun _ k => XS.istore W0.here hx rfl (hb hby at_21) rfl (l' := #[.val (.int p0), .val (.int p1), .val (.int p2), .val (.int p3), .val (.int (0 : Int32)), .val (.int (p0 &&& (65535 : Int32))), .unset, .unset, .unset, .unset]) rfl k) ?_
      refine Go.st (g' := (mkF m 24 #[.val (.int p0), .val (.int p1), .val (.int p2), .val (.int p3), .val (.int (0 : Int32)), .val (.int (p0 &&& (65535 : Int32))), .unset, .unset, .unset, .unset] [(.int p1)])) (fun _ k => XS.iloadN W0.here hx rfl (hb hby at_23) rfl  k) ?_
      refine Go.st (g' := (mkF m 26 #[.val (.int p0), .val (.int p1), .val (.int p2), .val (.int p3), .val (.int (0 : Int32)), .val (.int (p0 &&& (65535 : Int32))), .unset, .unset, .unset, .unset] [(.int (65535 : Int32)), (.int p1)])) (W0.ldcI hx (hw _ (List.mem_of_getElem? (i := 0) rfl)) (g := (mkF m 24 #[.val (.int p0), .val (.int p1), .val (.int p2), .val (.int p3), .val (.int (0 : Int32)), .val (.int (p0 &&& (65535 : Int32))), .unset, .unset, .unset, .unset] [(.int p1)])) rfl (hb hby at_24)) ?_
      refine Go.st (g' := (mkF m 27 #[.val (.int p0), .val (.int p1), .val (.int p2), .val (.int p3), .val (.int (0 : Int32)), .val (.int (p0 &&& (65535 : Int32))), .unset, .unset, .unset, .unset] [(.int (p1 &&& (65535 : Int32)))])) (fun _ k => XS.iand W0.here hx rfl (hb hby at_26) rfl k) ?_
      refine Go.st (g' := (mkF m 28 #[.val (.int p0), .val (.int p1), .val (.int p2), .val (.int p3), .val (.int (0 : Int32)), .val (.int (p0 &&& (65535 : Int32))), .unset, .unset, .unset, .unset] [(.int ((p1 &&& (65535 : Int32)).toUInt32.toUInt16.toUInt32.toInt32))])) (fun _ k => XS.i2c W0.here hx rfl (hb hby at_27) rfl k) ?_
      rw [own_i2c16]
      refine Go.st (g' := (mkF m 30 #[.val (.int p0), .val (.int p1), .val (.int p2), .val (.int p3), .val (.int (0 : Int32)), .val (.int (p0 &&& (65535 : Int32))), .val (.int (p1 &&& (65535 : Int32))), .unset, .unset, .unset] [])) (fun _ k => XS.istore W0.here hx rfl (hb hby at_28) rfl (l' := #[.val (.int p0), .val (.int p1), .val (.int p2), .val (.int p3), .val (.int (0 : Int32)), .val (.int (p0 &&& (65535 : Int32))), .val (.int (p1 &&& (65535 : Int32))), .unset, .unset, .unset]) rfl k) ?_
      refine Go.st (g' := (mkF m 31 #[.val (.int p0), .val (.int p1), .val (.int p2), .val (.int p3), .val (.int (0 : Int32)), .val (.int (p0 &&& (65535 : Int32))), .val (.int (p1 &&& (65535 : Int32))), .unset, .unset, .unset] [(.int p2)])) (fun _ k => XS.iloadN W0.here hx rfl (hb hby at_30) rfl  k) ?_
      refine Go.st (g' := (mkF m 33 #[.val (.int p0), .val (.int p1), .val (.int p2), .val (.int p3), .val (.int (0 : Int32)), .val (.int (p0 &&& (65535 : Int32))), .val (.int (p1 &&& (65535 : Int32))), .unset, .unset, .unset] [(.int (65535 : Int32)), (.int p2)])) (W0.ldcI hx (hw _ (List.mem_of_getElem? (i := 0) rfl)) (g := (mkF m 31 #[.val (.int p0), .val (.int p1), .val (.int p2), .val (.int p3), .val (.int (0 : Int32)), .val (.int (p0 &&& (65535 : Int32))), .val (.int (p1 &&& (65535 : Int32))), .unset, .unset, .unset] [(.int p2)])) rfl (hb hby at_31)) ?_
      refine Go.st (g' := (mkF m 34 #[.val (.int p0), .val (.int p1), .val (.int p2), .val (.int p3), .val (.int (0 : Int32)), .val (.int (p0 &&& (65535 : Int32))), .val (.int (p1 &&& (65535 : Int32))), .unset, .unset, .unset] [(.int (p2 &&& (65535 : Int32)))])) (fun _ k => XS.iand W0.here hx rfl (hb hby at_33) rfl k) ?_
      refine Go.st (g' := (mkF m 35 #[.val (.int p0), .val (.int p1), .val (.int p2), .val (.int p3), .val (.int (0 : Int32)), .val (.int (p0 &&& (65535 : Int32))), .val (.int (p1 &&& (65535 : Int32))), .unset, .unset, .unset] [(.int ((p2 &&& (65535 : Int32)).toUInt32.toUInt16.toUInt32.toInt32))])) (fun _ k => XS.i2c W0.here hx rfl (hb hby at_34) rfl k) ?_
      rw [own_i2c16]
      refine Go.st (g' := (mkF m 37 #[.val (.int p0), .val (.int p1), .val (.int p2), .val (.int p3), .val (.int (0 : Int32)), .val (.int (p0 &&& (65535 : Int32))), .val (.int (p1 &&& (65535 : Int32))), .val (.int (p2 &&& (65535 : Int32))), .unset, .unset] [])) (fun _ k => XS.istore W0.here hx rfl (hb hby at_35) rfl (l' := #[.val (.int p0), .val (.int p1), .val (.int p2), .val (.int p3), .val (.int (0 : Int32)), .val (.int (p0 &&& (65535 : Int32))), .val (.int (p1 &&& (65535 : Int32))), .val (.int (p2 &&& (65535 : Int32))), .unset, .unset]) rfl k) ?_
      refine Go.st (g' := (mkF m 39 #[.val (.int p0), .val (.int p1), .val (.int p2), .val (.int p3), .val (.int (0 : Int32)), .val (.int (p0 &&& (65535 : Int32))), .val (.int (p1 &&& (65535 : Int32))), .val (.int (p2 &&& (65535 : Int32))), .unset, .unset] [(.int (0 : Int32))])) (fun _ k => XS.iload W0.here hx rfl (hb hby at_37) rfl  k) ?_
      refine Go.st (g' := (mkF m 41 #[.val (.int p0), .val (.int p1), .val (.int p2), .val (.int p3), .val (.int (0 : Int32)), .val (.int (p0 &&& (65535 : Int32))), .val (.int (p1 &&& (65535 : Int32))), .val (.int (p2 &&& (65535 : Int32))), .unset, .unset] [(.int (p0 &&& (65535 : Int32))), (.int (0 : Int32))])) (fun _ k => XS.iload W0.here hx rfl (hb hby at_39) rfl  k) ?_
      refine Go.st (g' := (mkF m 43 #[.val (.int p0), .val (.int p1), .val (.int p2), .val (.int p3), .val (.int (0 : Int32)), .val (.int (p0 &&& (65535 : Int32))), .val (.int (p1 &&& (65535 : Int32))), .val (.int (p2 &&& (65535 : Int32))), .unset, .unset] [(.int (p1 &&& (65535 : Int32))), (.int (p0 &&& (65535 : Int32))), (.int (0 : Int32))])) (fun _ k => XS.iload W0.here hx rfl (hb hby at_41) rfl  k) ?_
      refine Go.st (g' := (mkF m 45 #[.val (.int p0), .val (.int p1), .val (.int p2), .val (.int p3), .val (.int (0 : Int32)), .val (.int (p0 &&& (65535 : Int32))), .val (.int (p1 &&& (65535 : Int32))), .val (.int (p2 &&& (65535 : Int32))), .unset, .unset] [(.int (p2 &&& (65535 : Int32))), (.int (p1 &&& (65535 : Int32))), (.int (p0 &&& (65535 : Int32))), (.int (0 : Int32))])) (fun _ k => XS.iload W0.here hx rfl (hb hby at_43) rfl  k) ?_
      obtain ⟨_, vm2, T2, h2, W2, Q2, z2, SF2, st2⟩ := W0.callS hx hEL (own_makeL0 l hE W0.old (c1 := (p0 &&& (65535 : Int32))) (c2 := (p1 &&& (65535 : Int32))) (c3 := (p2 &&& (65535 : Int32))) (own_chr _) (own_chr _) (own_chr _) ) (hw _ (List.mem_of_getElem? (i := 1) rfl)) (hw _ (List.mem_of_getElem? (i := 2) rfl)) (hw _ (List.mem_of_getElem? (i := 3) rfl)) (hw _ (List.mem_of_getElem? (i := 4) rfl)) (by decide) (Wd := 0) (by decide) (by decide) (by decide) (by decide) (g := (mkF m 45 #[.val (.int p0), .val (.int p1), .val (.int p2), .val (.int p3), .val (.int (0 : Int32)), .val (.int (p0 &&& (65535 : Int32))), .val (.int (p1 &&& (65535 : Int32))), .val (.int (p2 &&& (65535 : Int32))), .unset, .unset] [(.int (p2 &&& (65535 : Int32))), (.int (p1 &&& (65535 : Int32))), (.int (p0 &&& (65535 : Int32))), (.int (0 : Int32))])) rfl (by rw [hml]; rfl) (argsL := [(.int (0 : Int32)), (.int (p0 &&& (65535 : Int32))), (.int (p1 &&& (65535 : Int32))), (.int (p2 &&& (65535 : Int32)))]) (rest := []) rfl (lenOf pd__ICCC_Ljava_lang_String_ rfl) rfl (by show 2 * 0 + _ ≤ _; exact Nat.le_of_eq rfl) (hb hby at_45)
      obtain ⟨x_2, t_2, rfl, p2_0, f2_0, K2⟩ := Q2
      have yf2_0 : h2.size > x_2 ∧ h2.size > t_2 := f2_0.lt
      refine Go.tr (g' := (mkF m 48 #[.val (.int p0), .val (.int p1), .val (.int p2), .val (.int p3), .val (.int (0 : Int32)), .val (.int (p0 &&& (65535 : Int32))), .val (.int (p1 &&& (65535 : Int32))), .val (.int (p2 &&& (65535 : Int32))), .unset, .unset] [(.ref x_2)])) st2 ?_
      refine Go.st (g' := (mkF m 50 #[.val (.int p0), .val (.int p1), .val (.int p2), .val (.int p3), .val (.int (0 : Int32)), .val (.int (p0 &&& (65535 : Int32))), .val (.int (p1 &&& (65535 : Int32))), .val (.int (p2 &&& (65535 : Int32))), .val (.ref x_2), .unset] [])) (fun _ k => XS.astore W2.here hx rfl (hb hby at_48) rfl rfl (l' := #[.val (.int p0), .val (.int p1), .val (.int p2), .val (.int p3), .val (.int (0 : Int32)), .val (.int (p0 &&& (65535 : Int32))), .val (.int (p1 &&& (65535 : Int32))), .val (.int (p2 &&& (65535 : Int32))), .val (.ref x_2), .unset]) rfl k) ?_
      refine Go.st (g' := (mkF m 52 #[.val (.int p0), .val (.int p1), .val (.int p2), .val (.int p3), .val (.int (0 : Int32)), .val (.int (p0 &&& (65535 : Int32))), .val (.int (p1 &&& (65535 : Int32))), .val (.int (p2 &&& (65535 : Int32))), .val (.ref x_2), .unset] [(.int (0 : Int32))])) (fun _ k => XS.iload W2.here hx rfl (hb hby at_50) rfl  k) ?_
      refine Go.st (g' := (mkF m 66 #[.val (.int p0), .val (.int p1), .val (.int p2), .val (.int p3), .val (.int (0 : Int32)), .val (.int (p0 &&& (65535 : Int32))), .val (.int (p1 &&& (65535 : Int32))), .val (.int (p2 &&& (65535 : Int32))), .val (.ref x_2), .unset] [])) (fun _ k => XS.ifYes W2.here hx rfl (pc0 := 52) (pc' := 66) rfl (hb hby at_52) rfl ((if0 _ _).trans (flt (by decide)).2.2.2) (by decide) (by decide) k) ?_
      refine Go.st (g' := (mkF m 67 #[.val (.int p0), .val (.int p1), .val (.int p2), .val (.int p3), .val (.int (0 : Int32)), .val (.int (p0 &&& (65535 : Int32))), .val (.int (p1 &&& (65535 : Int32))), .val (.int (p2 &&& (65535 : Int32))), .val (.ref x_2), .unset] [(.int (0 : Int32))])) (fun _ k => XS.iconst W2.here hx rfl (hb hby at_66) k) ?_
      refine Go.st (g' := (mkF m 69 #[.val (.int p0), .val (.int p1), .val (.int p2), .val (.int p3), .val (.int (0 : Int32)), .val (.int (p0 &&& (65535 : Int32))), .val (.int (p1 &&& (65535 : Int32))), .val (.int (p2 &&& (65535 : Int32))), .val (.ref x_2), .val (.int (0 : Int32))] [])) (fun _ k => XS.istore W2.here hx rfl (hb hby at_67) rfl (l' := #[.val (.int p0), .val (.int p1), .val (.int p2), .val (.int p3), .val (.int (0 : Int32)), .val (.int (p0 &&& (65535 : Int32))), .val (.int (p1 &&& (65535 : Int32))), .val (.int (p2 &&& (65535 : Int32))), .val (.ref x_2), .val (.int (0 : Int32))]) rfl k) ?_
      refine Go.st (g' := (mkF m 71 #[.val (.int p0), .val (.int p1), .val (.int p2), .val (.int p3), .val (.int (0 : Int32)), .val (.int (p0 &&& (65535 : Int32))), .val (.int (p1 &&& (65535 : Int32))), .val (.int (p2 &&& (65535 : Int32))), .val (.ref x_2), .val (.int (0 : Int32))] [(.ref x_2)])) (fun _ k => XS.aload W2.here hx rfl (hb hby at_69) rfl rfl  k) ?_
      obtain ⟨_, vm3, T3, h3, W3, Q3, z3, SF3, st3⟩ := W2.callS hx hEL (own_deL0 l hE W2.old (x0 := x_2) (t0 := t_2)  f2_0.1 f2_0) (hw _ (List.mem_of_getElem? (i := 31) rfl)) (hw _ (List.mem_of_getElem? (i := 32) rfl)) (hw _ (List.mem_of_getElem? (i := 33) rfl)) (hw _ (List.mem_of_getElem? (i := 34) rfl)) (by decide) (Wd := 0) (by decide) (by decide) (by decide) (by decide) (g := (mkF m 71 #[.val (.int p0), .val (.int p1), .val (.int p2), .val (.int p3), .val (.int (0 : Int32)), .val (.int (p0 &&& (65535 : Int32))), .val (.int (p1 &&& (65535 : Int32))), .val (.int (p2 &&& (65535 : Int32))), .val (.ref x_2), .val (.int (0 : Int32))] [(.ref x_2)])) rfl (by rw [hml]; rfl) (argsL := [(.ref x_2)]) (rest := []) rfl (lenOf pd__Ljava_lang_String__Z rfl) rfl (by show 2 * 0 + _ ≤ _; exact Nat.le_of_eq rfl) (hb hby at_71)
      obtain ⟨rfl, eh3⟩ := Q3
      subst eh3
      refine Go.tr (g' := (mkF m 74 #[.val (.int p0), .val (.int p1), .val (.int p2), .val (.int p3), .val (.int (0 : Int32)), .val (.int (p0 &&& (65535 : Int32))), .val (.int (p1 &&& (65535 : Int32))), .val (.int (p2 &&& (65535 : Int32))), .val (.ref x_2), .val (.int (0 : Int32))] [(.int (0 : Int32))])) st3 ?_
      refine Go.st (g' := (mkF m 76 #[.val (.int p0), .val (.int p1), .val (.int p2), .val (.int p3), .val (.int (0 : Int32)), .val (.int (p0 &&& (65535 : Int32))), .val (.int (p1 &&& (65535 : Int32))), .val (.int (p2 &&& (65535 : Int32))), .val (.ref x_2), .val (.int (0 : Int32))] [(.int (0 : Int32)), (.int (0 : Int32))])) (fun _ k => XS.iload W3.here hx rfl (hb hby at_74) rfl  k) ?_
      refine Go.st (g' := (mkF m 79 #[.val (.int p0), .val (.int p1), .val (.int p2), .val (.int p3), .val (.int (0 : Int32)), .val (.int (p0 &&& (65535 : Int32))), .val (.int (p1 &&& (65535 : Int32))), .val (.int (p2 &&& (65535 : Int32))), .val (.ref x_2), .val (.int (0 : Int32))] [])) (fun _ k => XS.icmpNo W3.here hx rfl (hb hby at_76) rfl (teq (by decide)).2 k) ?_
      refine Go.st (g' := (mkF m 80 #[.val (.int p0), .val (.int p1), .val (.int p2), .val (.int p3), .val (.int (0 : Int32)), .val (.int (p0 &&& (65535 : Int32))), .val (.int (p1 &&& (65535 : Int32))), .val (.int (p2 &&& (65535 : Int32))), .val (.ref x_2), .val (.int (0 : Int32))] [(.int (1 : Int32))])) (fun _ k => XS.iconst W3.here hx rfl (hb hby at_79) k) ?_
      refine Go.st (g' := (mkF m 84 #[.val (.int p0), .val (.int p1), .val (.int p2), .val (.int p3), .val (.int (0 : Int32)), .val (.int (p0 &&& (65535 : Int32))), .val (.int (p1 &&& (65535 : Int32))), .val (.int (p2 &&& (65535 : Int32))), .val (.ref x_2), .val (.int (0 : Int32))] [(.int (1 : Int32))])) (fun _ k => XS.goto W3.here hx rfl (pc0 := 80) (pc' := 84) rfl (hb hby at_80) (by decide) (by decide) k) ?_
      exact W3.retN hx hEL hlk (t := .boolean) hret (by decide) (hb hby at_84) (by decide) (by decide) rfl
    · refine Go.st (g' := (mkF m 11 #[.val (.int p0), .val (.int p1), .val (.int p2), .val (.int p3), .val (.int (0 : Int32)), .unset, .unset, .unset, .unset, .unset] [])) (fun _ k => XS.ifNo W0.here hx rfl (hb hby at_8) rfl ((if0 _ _).trans (feq hc1).1) k) ?_
      refine Go.st (g' := (mkF m 13 #[.val (.int p0), .val (.int p1), .val (.int p2), .val (.int p3), .val (.int (0 : Int32)), .unset, .unset, .unset, .unset, .unset] [(.int (32 : Int32))])) (fun _ k => XS.bipush W0.here hx rfl (hb hby at_11) k) ?_
      refine Go.st (g' := (mkF m 21 #[.val (.int p0), .val (.int p1), .val (.int p2), .val (.int p3), .val (.int (0 : Int32)), .unset, .unset, .unset, .unset, .unset] [(.int (32 : Int32))])) (fun _ k => XS.goto W0.here hx rfl (pc0 := 13) (pc' := 21) rfl (hb hby at_13) (by decide) (by decide) k) ?_
      refine Go.st (g' := (mkF m 23 #[.val (.int p0), .val (.int p1), .val (.int p2), .val (.int p3), .val (.int (0 : Int32)), .val (.int (32 : Int32)), .unset, .unset, .unset, .unset] [])) (fun _ k => XS.istore W0.here hx rfl (hb hby at_21) rfl (l' := #[.val (.int p0), .val (.int p1), .val (.int p2), .val (.int p3), .val (.int (0 : Int32)), .val (.int (32 : Int32)), .unset, .unset, .unset, .unset]) rfl k) ?_
      refine Go.st (g' := (mkF m 24 #[.val (.int p0), .val (.int p1), .val (.int p2), .val (.int p3), .val (.int (0 : Int32)), .val (.int (32 : Int32)), .unset, .unset, .unset, .unset] [(.int p1)])) (fun _ k => XS.iloadN W0.here hx rfl (hb hby at_23) rfl  k) ?_
      refine Go.st (g' := (mkF m 26 #[.val (.int p0), .val (.int p1), .val (.int p2), .val (.int p3), .val (.int (0 : Int32)), .val (.int (32 : Int32)), .unset, .unset, .unset, .unset] [(.int (65535 : Int32)), (.int p1)])) (W0.ldcI hx (hw _ (List.mem_of_getElem? (i := 0) rfl)) (g := (mkF m 24 #[.val (.int p0), .val (.int p1), .val (.int p2), .val (.int p3), .val (.int (0 : Int32)), .val (.int (32 : Int32)), .unset, .unset, .unset, .unset] [(.int p1)])) rfl (hb hby at_24)) ?_
      refine Go.st (g' := (mkF m 27 #[.val (.int p0), .val (.int p1), .val (.int p2), .val (.int p3), .val (.int (0 : Int32)), .val (.int (32 : Int32)), .unset, .unset, .unset, .unset] [(.int (p1 &&& (65535 : Int32)))])) (fun _ k => XS.iand W0.here hx rfl (hb hby at_26) rfl k) ?_
      refine Go.st (g' := (mkF m 28 #[.val (.int p0), .val (.int p1), .val (.int p2), .val (.int p3), .val (.int (0 : Int32)), .val (.int (32 : Int32)), .unset, .unset, .unset, .unset] [(.int ((p1 &&& (65535 : Int32)).toUInt32.toUInt16.toUInt32.toInt32))])) (fun _ k => XS.i2c W0.here hx rfl (hb hby at_27) rfl k) ?_
      rw [own_i2c16]
      refine Go.st (g' := (mkF m 30 #[.val (.int p0), .val (.int p1), .val (.int p2), .val (.int p3), .val (.int (0 : Int32)), .val (.int (32 : Int32)), .val (.int (p1 &&& (65535 : Int32))), .unset, .unset, .unset] [])) (fun _ k => XS.istore W0.here hx rfl (hb hby at_28) rfl (l' := #[.val (.int p0), .val (.int p1), .val (.int p2), .val (.int p3), .val (.int (0 : Int32)), .val (.int (32 : Int32)), .val (.int (p1 &&& (65535 : Int32))), .unset, .unset, .unset]) rfl k) ?_
      refine Go.st (g' := (mkF m 31 #[.val (.int p0), .val (.int p1), .val (.int p2), .val (.int p3), .val (.int (0 : Int32)), .val (.int (32 : Int32)), .val (.int (p1 &&& (65535 : Int32))), .unset, .unset, .unset] [(.int p2)])) (fun _ k => XS.iloadN W0.here hx rfl (hb hby at_30) rfl  k) ?_
      refine Go.st (g' := (mkF m 33 #[.val (.int p0), .val (.int p1), .val (.int p2), .val (.int p3), .val (.int (0 : Int32)), .val (.int (32 : Int32)), .val (.int (p1 &&& (65535 : Int32))), .unset, .unset, .unset] [(.int (65535 : Int32)), (.int p2)])) (W0.ldcI hx (hw _ (List.mem_of_getElem? (i := 0) rfl)) (g := (mkF m 31 #[.val (.int p0), .val (.int p1), .val (.int p2), .val (.int p3), .val (.int (0 : Int32)), .val (.int (32 : Int32)), .val (.int (p1 &&& (65535 : Int32))), .unset, .unset, .unset] [(.int p2)])) rfl (hb hby at_31)) ?_
      refine Go.st (g' := (mkF m 34 #[.val (.int p0), .val (.int p1), .val (.int p2), .val (.int p3), .val (.int (0 : Int32)), .val (.int (32 : Int32)), .val (.int (p1 &&& (65535 : Int32))), .unset, .unset, .unset] [(.int (p2 &&& (65535 : Int32)))])) (fun _ k => XS.iand W0.here hx rfl (hb hby at_33) rfl k) ?_
      refine Go.st (g' := (mkF m 35 #[.val (.int p0), .val (.int p1), .val (.int p2), .val (.int p3), .val (.int (0 : Int32)), .val (.int (32 : Int32)), .val (.int (p1 &&& (65535 : Int32))), .unset, .unset, .unset] [(.int ((p2 &&& (65535 : Int32)).toUInt32.toUInt16.toUInt32.toInt32))])) (fun _ k => XS.i2c W0.here hx rfl (hb hby at_34) rfl k) ?_
      rw [own_i2c16]
      refine Go.st (g' := (mkF m 37 #[.val (.int p0), .val (.int p1), .val (.int p2), .val (.int p3), .val (.int (0 : Int32)), .val (.int (32 : Int32)), .val (.int (p1 &&& (65535 : Int32))), .val (.int (p2 &&& (65535 : Int32))), .unset, .unset] [])) (fun _ k => XS.istore W0.here hx rfl (hb hby at_35) rfl (l' := #[.val (.int p0), .val (.int p1), .val (.int p2), .val (.int p3), .val (.int (0 : Int32)), .val (.int (32 : Int32)), .val (.int (p1 &&& (65535 : Int32))), .val (.int (p2 &&& (65535 : Int32))), .unset, .unset]) rfl k) ?_
      refine Go.st (g' := (mkF m 39 #[.val (.int p0), .val (.int p1), .val (.int p2), .val (.int p3), .val (.int (0 : Int32)), .val (.int (32 : Int32)), .val (.int (p1 &&& (65535 : Int32))), .val (.int (p2 &&& (65535 : Int32))), .unset, .unset] [(.int (0 : Int32))])) (fun _ k => XS.iload W0.here hx rfl (hb hby at_37) rfl  k) ?_
      refine Go.st (g' := (mkF m 41 #[.val (.int p0), .val (.int p1), .val (.int p2), .val (.int p3), .val (.int (0 : Int32)), .val (.int (32 : Int32)), .val (.int (p1 &&& (65535 : Int32))), .val (.int (p2 &&& (65535 : Int32))), .unset, .unset] [(.int (32 : Int32)), (.int (0 : Int32))])) (fun _ k => XS.iload W0.here hx rfl (hb hby at_39) rfl  k) ?_
      refine Go.st (g' := (mkF m 43 #[.val (.int p0), .val (.int p1), .val (.int p2), .val (.int p3), .val (.int (0 : Int32)), .val (.int (32 : Int32)), .val (.int (p1 &&& (65535 : Int32))), .val (.int (p2 &&& (65535 : Int32))), .unset, .unset] [(.int (p1 &&& (65535 : Int32))), (.int (32 : Int32)), (.int (0 : Int32))])) (fun _ k => XS.iload W0.here hx rfl (hb hby at_41) rfl  k) ?_
      refine Go.st (g' := (mkF m 45 #[.val (.int p0), .val (.int p1), .val (.int p2), .val (.int p3), .val (.int (0 : Int32)), .val (.int (32 : Int32)), .val (.int (p1 &&& (65535 : Int32))), .val (.int (p2 &&& (65535 : Int32))), .unset, .unset] [(.int (p2 &&& (65535 : Int32))), (.int (p1 &&& (65535 : Int32))), (.int (32 : Int32)), (.int (0 : Int32))])) (fun _ k => XS.iload W0.here hx rfl (hb hby at_43) rfl  k) ?_
      obtain ⟨_, vm4, T4, h4, W4, Q4, z4, SF4, st4⟩ := W0.callS hx hEL (own_makeL0 l hE W0.old (c1 := (32 : Int32)) (c2 := (p1 &&& (65535 : Int32))) (c3 := (p2 &&& (65535 : Int32))) own_chr32 (own_chr _) (own_chr _) ) (hw _ (List.mem_of_getElem? (i := 1) rfl)) (hw _ (List.mem_of_getElem? (i := 2) rfl)) (hw _ (List.mem_of_getElem? (i := 3) rfl)) (hw _ (List.mem_of_getElem? (i := 4) rfl)) (by decide) (Wd := 0) (by decide) (by decide) (by decide) (by decide) (g := (mkF m 45 #[.val (.int p0), .val (.int p1), .val (.int p2), .val (.int p3), .val (.int (0 : Int32)), .val (.int (32 : Int32)), .val (.int (p1 &&& (65535 : Int32))), .val (.int (p2 &&& (65535 : Int32))), .unset, .unset] [(.int (p2 &&& (65535 : Int32))), (.int (p1 &&& (65535 : Int32))), (.int (32 : Int32)), (.int (0 : Int32))])) rfl (by rw [hml]; rfl) (argsL := [(.int (0 : Int32)), (.int (32 : Int32)), (.int (p1 &&& (65535 : Int32))), (.int (p2 &&& (65535 : Int32)))]) (rest := []) rfl (lenOf pd__ICCC_Ljava_lang_String_ rfl) rfl (by show 2 * 0 + _ ≤ _; exact Nat.le_of_eq rfl) (hb hby at_45)
      obtain ⟨x_4, t_4, rfl, p4_0, f4_0, K4⟩ := Q4
      have yf4_0 : h4.size > x_4 ∧ h4.size > t_4 := f4_0.lt
      refine Go.tr (g' := (mkF m 48 #[.val (.int p0), .val (.int p1), .val (.int p2), .val (.int p3), .val (.int (0 : Int32)), .val (.int (32 : Int32)), .val (.int (p1 &&& (65535 : Int32))), .val (.int (p2 &&& (65535 : Int32))), .unset, .unset] [(.ref x_4)])) st4 ?_
      refine Go.st (g' := (mkF m 50 #[.val (.int p0), .val (.int p1), .val (.int p2), .val (.int p3), .val (.int (0 : Int32)), .val (.int (32 : Int32)), .val (.int (p1 &&& (65535 : Int32))), .val (.int (p2 &&& (65535 : Int32))), .val (.ref x_4), .unset] [])) (fun _ k => XS.astore W4.here hx rfl (hb hby at_48) rfl rfl (l' := #[.val (.int p0), .val (.int p1), .val (.int p2), .val (.int p3), .val (.int (0 : Int32)), .val (.int (32 : Int32)), .val (.int (p1 &&& (65535 : Int32))), .val (.int (p2 &&& (65535 : Int32))), .val (.ref x_4), .unset]) rfl k) ?_
      refine Go.st (g' := (mkF m 52 #[.val (.int p0), .val (.int p1), .val (.int p2), .val (.int p3), .val (.int (0 : Int32)), .val (.int (32 : Int32)), .val (.int (p1 &&& (65535 : Int32))), .val (.int (p2 &&& (65535 : Int32))), .val (.ref x_4), .unset] [(.int (0 : Int32))])) (fun _ k => XS.iload W4.here hx rfl (hb hby at_50) rfl  k) ?_
      refine Go.st (g' := (mkF m 66 #[.val (.int p0), .val (.int p1), .val (.int p2), .val (.int p3), .val (.int (0 : Int32)), .val (.int (32 : Int32)), .val (.int (p1 &&& (65535 : Int32))), .val (.int (p2 &&& (65535 : Int32))), .val (.ref x_4), .unset] [])) (fun _ k => XS.ifYes W4.here hx rfl (pc0 := 52) (pc' := 66) rfl (hb hby at_52) rfl ((if0 _ _).trans (flt (by decide)).2.2.2) (by decide) (by decide) k) ?_
      refine Go.st (g' := (mkF m 67 #[.val (.int p0), .val (.int p1), .val (.int p2), .val (.int p3), .val (.int (0 : Int32)), .val (.int (32 : Int32)), .val (.int (p1 &&& (65535 : Int32))), .val (.int (p2 &&& (65535 : Int32))), .val (.ref x_4), .unset] [(.int (0 : Int32))])) (fun _ k => XS.iconst W4.here hx rfl (hb hby at_66) k) ?_
      refine Go.st (g' := (mkF m 69 #[.val (.int p0), .val (.int p1), .val (.int p2), .val (.int p3), .val (.int (0 : Int32)), .val (.int (32 : Int32)), .val (.int (p1 &&& (65535 : Int32))), .val (.int (p2 &&& (65535 : Int32))), .val (.ref x_4), .val (.int (0 : Int32))] [])) (fun _ k => XS.istore W4.here hx rfl (hb hby at_67) rfl (l' := #[.val (.int p0), .val (.int p1), .val (.int p2), .val (.int p3), .val (.int (0 : Int32)), .val (.int (32 : Int32)), .val (.int (p1 &&& (65535 : Int32))), .val (.int (p2 &&& (65535 : Int32))), .val (.ref x_4), .val (.int (0 : Int32))]) rfl k) ?_
      refine Go.st (g' := (mkF m 71 #[.val (.int p0), .val (.int p1), .val (.int p2), .val (.int p3), .val (.int (0 : Int32)), .val (.int (32 : Int32)), .val (.int (p1 &&& (65535 : Int32))), .val (.int (p2 &&& (65535 : Int32))), .val (.ref x_4), .val (.int (0 : Int32))] [(.ref x_4)])) (fun _ k => XS.aload W4.here hx rfl (hb hby at_69) rfl rfl  k) ?_
      obtain ⟨_, vm5, T5, h5, W5, Q5, z5, SF5, st5⟩ := W4.callS hx hEL (own_deL0 l hE W4.old (x0 := x_4) (t0 := t_4)  f4_0.1 f4_0) (hw _ (List.mem_of_getElem? (i := 31) rfl)) (hw _ (List.mem_of_getElem? (i := 32) rfl)) (hw _ (List.mem_of_getElem? (i := 33) rfl)) (hw _ (List.mem_of_getElem? (i := 34) rfl)) (by decide) (Wd := 0) (by decide) (by decide) (by decide) (by decide) (g := (mkF m 71 #[.val (.int p0), .val (.int p1), .val (.int p2), .val (.int p3), .val (.int (0 : Int32)), .val (.int (32 : Int32)), .val (.int (p1 &&& (65535 : Int32))), .val (.int (p2 &&& (65535 : Int32))), .val (.ref x_4), .val (.int (0 : Int32))] [(.ref x_4)])) rfl (by rw [hml]; rfl) (argsL := [(.ref x_4)]) (rest := []) rfl (lenOf pd__Ljava_lang_String__Z rfl) rfl (by show 2 * 0 + _ ≤ _; exact Nat.le_of_eq rfl) (hb hby at_71)
      obtain ⟨rfl, eh5⟩ := Q5
      subst eh5
      refine Go.tr (g' := (mkF m 74 #[.val (.int p0), .val (.int p1), .val (.int p2), .val (.int p3), .val (.int (0 : Int32)), .val (.int (32 : Int32)), .val (.int (p1 &&& (65535 : Int32))), .val (.int (p2 &&& (65535 : Int32))), .val (.ref x_4), .val (.int (0 : Int32))] [(.int (0 : Int32))])) st5 ?_
      refine Go.st (g' := (mkF m 76 #[.val (.int p0), .val (.int p1), .val (.int p2), .val (.int p3), .val (.int (0 : Int32)), .val (.int (32 : Int32)), .val (.int (p1 &&& (65535 : Int32))), .val (.int (p2 &&& (65535 : Int32))), .val (.ref x_4), .val (.int (0 : Int32))] [(.int (0 : Int32)), (.int (0 : Int32))])) (fun _ k => XS.iload W5.here hx rfl (hb hby at_74) rfl  k) ?_
      refine Go.st (g' := (mkF m 79 #[.val (.int p0), .val (.int p1), .val (.int p2), .val (.int p3), .val (.int (0 : Int32)), .val (.int (32 : Int32)), .val (.int (p1 &&& (65535 : Int32))), .val (.int (p2 &&& (65535 : Int32))), .val (.ref x_4), .val (.int (0 : Int32))] [])) (fun _ k => XS.icmpNo W5.here hx rfl (hb hby at_76) rfl (teq (by decide)).2 k) ?_
      refine Go.st (g' := (mkF m 80 #[.val (.int p0), .val (.int p1), .val (.int p2), .val (.int p3), .val (.int (0 : Int32)), .val (.int (32 : Int32)), .val (.int (p1 &&& (65535 : Int32))), .val (.int (p2 &&& (65535 : Int32))), .val (.ref x_4), .val (.int (0 : Int32))] [(.int (1 : Int32))])) (fun _ k => XS.iconst W5.here hx rfl (hb hby at_79) k) ?_
      refine Go.st (g' := (mkF m 84 #[.val (.int p0), .val (.int p1), .val (.int p2), .val (.int p3), .val (.int (0 : Int32)), .val (.int (32 : Int32)), .val (.int (p1 &&& (65535 : Int32))), .val (.int (p2 &&& (65535 : Int32))), .val (.ref x_4), .val (.int (0 : Int32))] [(.int (1 : Int32))])) (fun _ k => XS.goto W5.here hx rfl (pc0 := 80) (pc' := 84) rfl (hb hby at_80) (by decide) (by decide) k) ?_
      exact W5.retN hx hEL hlk (t := .boolean) hret (by decide) (hb hby at_84) (by decide) (by decide) rfl
  · rw [q]
    refine Go.st (g' := (mkF m 6 #[.val (.int p0), .val (.int p1), .val (.int p2), .val (.int p3), .val (.int (1 : Int32)), .unset, .unset, .unset, .unset, .unset] [(.int p3)])) (fun _ k => XS.iloadN W0.here hx rfl (hb hby at_5) rfl  k) ?_
    refine Go.st (g' := (mkF m 7 #[.val (.int p0), .val (.int p1), .val (.int p2), .val (.int p3), .val (.int (1 : Int32)), .unset, .unset, .unset, .unset, .unset] [(.int (4 : Int32)), (.int p3)])) (fun _ k => XS.iconst W0.here hx rfl (hb hby at_6) k) ?_
    refine Go.st (g' := (mkF m 8 #[.val (.int p0), .val (.int p1), .val (.int p2), .val (.int p3), .val (.int (1 : Int32)), .unset, .unset, .unset, .unset, .unset] [(.int (p3 &&& (4 : Int32)))])) (fun _ k => XS.iand W0.here hx rfl (hb hby at_7) rfl k) ?_
    by_cases hc6 : (p3 &&& (4 : Int32)) = (0 : Int32)
    · refine Go.st (g' := (mkF m 16 #[.val (.int p0), .val (.int p1), .val (.int p2), .val (.int p3), .val (.int (1 : Int32)), .unset, .unset, .unset, .unset, .unset] [])) (fun _ k => XS.ifYes W0.here hx rfl (pc0 := 8) (pc' := 16) rfl (hb hby at_8) rfl ((if0 _ _).trans (teq hc6).1) (by decide) (by decide) k) ?_
      refine Go.st (g' := (mkF m 17 #[.val (.int p0), .val (.int p1), .val (.int p2), .val (.int p3), .val (.int (1 : Int32)), .unset, .unset, .unset, .unset, .unset] [(.int p0)])) (fun _ k => XS.iloadN W0.here hx rfl (hb hby at_16) rfl  k) ?_
      refine Go.st (g' := (mkF m 19 #[.val (.int p0), .val (.int p1), .val (.int p2), .val (.int p3), .val (.int (1 : Int32)), .unset, .unset, .unset, .unset, .unset] [(.int (65535 : Int32)), (.int p0)])) (W0.ldcI hx (hw _ (List.mem_of_getElem? (i := 0) rfl)) (g := (mkF m 17 #[.val (.int p0), .val (.int p1), .val (.int p2), .val (.int p3), .val (.int (1 : Int32)), .unset, .unset, .unset, .unset, .unset] [(.int p0)])) rfl (hb hby at_17)) ?_
      refine Go.st (g' := (mkF m 20 #[.val (.int p0), .val (.int p1), .val (.int p2), .val (.int p3), .val (.int (1 : Int32)), .unset, .unset, .unset, .unset, .unset] [(.int (p0 &&& (65535 : Int32)))])) (fun _ k => XS.iand W0.here hx rfl (hb hby at_19) rfl k) ?_
      refine Go.st (g' := (mkF m 21 #[.val (.int p0), .val (.int p1), .val (.int p2), .val (.int p3), .val (.int (1 : Int32)), .unset, .unset, .unset, .unset, .unset] [(.int ((p0 &&& (65535 : Int32)).toUInt32.toUInt16.toUInt32.toInt32))])) (fun _ k => XS.i2c W0.here hx rfl (hb hby at_20) rfl k) ?_
      rw [own_i2c16]
      refine Go.st (g' := (mkF m 23 #[.val (.int p0), .val (.int p1), .val (.int p2), .val (.int p3), .val (.int (1 : Int32)), .val (.int (p0 &&& (65535 : Int32))), .unset, .unset, .unset, .unset] [])) (fun _ k => XS.istore W0.here hx rfl (hb hby at_21) rfl (l' := #[.val (.int p0), .val (.int p1), .val (.int p2), .val (.int p3), .val (.int (1 : Int32)), .val (.int (p0 &&& (65535 : Int32))), .unset, .unset, .unset, .unset]) rfl k) ?_
      refine Go.st (g' := (mkF m 24 #[.val (.int p0), .val (.int p1), .val (.int p2), .val (.int p3), .val (.int (1 : Int32)), .val (.int (p0 &&& (65535 : Int32))), .unset, .unset, .unset, .unset] [(.int p1)])) (fun _ k => XS.iloadN W0.here hx rfl (hb hby at_23) rfl  k) ?_
      refine Go.st (g' := (mkF m 26 #[.val (.int p0), .val (.int p1), .val (.int p2), .val (.int p3), .val (.int (1 : Int32)), .val (.int (p0 &&& (65535 : Int32))), .unset, .unset, .unset, .unset] [(.int (65535 : Int32)), (.int p1)])) (W0.ldcI hx (hw _ (List.mem_of_getElem? (i := 0) rfl)) (g := (mkF m 24 #[.val (.int p0), .val (.int p1), .val (.int p2), .val (.int p3), .val (.int (1 : Int32)), .val (.int (p0 &&& (65535 : Int32))), .unset, .unset, .unset, .unset] [(.int p1)])) rfl (hb hby at_24)) ?_
      refine Go.st (g' := (mkF m 27 #[.val (.int p0), .val (.int p1), .val (.int p2), .val (.int p3), .val (.int (1 : Int32)), .val (.int (p0 &&& (65535 : Int32))), .unset, .unset, .unset, .unset] [(.int (p1 &&& (65535 : Int32)))])) (fun _ k => XS.iand W0.here hx rfl (hb hby at_26) rfl k) ?_
      refine Go.st (g' := (mkF m 28 #[.val (.int p0), .val (.int p1), .val (.int p2), .val (.int p3), .val (.int (1 : Int32)), .val (.int (p0 &&& (65535 : Int32))), .unset, .unset, .unset, .unset] [(.int ((p1 &&& (65535 : Int32)).toUInt32.toUInt16.toUInt32.toInt32))])) (fun _ k => XS.i2c W0.here hx rfl (hb hby at_27) rfl k) ?_
      rw [own_i2c16]
      refine Go.st (g' := (mkF m 30 #[.val (.int p0), .val (.int p1), .val (.int p2), .val (.int p3), .val (.int (1 : Int32)), .val (.int (p0 &&& (65535 : Int32))), .val (.int (p1 &&& (65535 : Int32))), .unset, .unset, .unset] [])) (fun _ k => XS.istore W0.here hx rfl (hb hby at_28) rfl (l' := #[.val (.int p0), .val (.int p1), .val (.int p2), .val (.int p3), .val (.int (1 : Int32)), .val (.int (p0 &&& (65535 : Int32))), .val (.int (p1 &&& (65535 : Int32))), .unset, .unset, .unset]) rfl k) ?_
      refine Go.st (g' := (mkF m 31 #[.val (.int p0), .val (.int p1), .val (.int p2), .val (.int p3), .val (.int (1 : Int32)), .val (.int (p0 &&& (65535 : Int32))), .val (.int (p1 &&& (65535 : Int32))), .unset, .unset, .unset] [(.int p2)])) (fun _ k => XS.iloadN W0.here hx rfl (hb hby at_30) rfl  k) ?_
      refine Go.st (g' := (mkF m 33 #[.val (.int p0), .val (.int p1), .val (.int p2), .val (.int p3), .val (.int (1 : Int32)), .val (.int (p0 &&& (65535 : Int32))), .val (.int (p1 &&& (65535 : Int32))), .unset, .unset, .unset] [(.int (65535 : Int32)), (.int p2)])) (W0.ldcI hx (hw _ (List.mem_of_getElem? (i := 0) rfl)) (g := (mkF m 31 #[.val (.int p0), .val (.int p1), .val (.int p2), .val (.int p3), .val (.int (1 : Int32)), .val (.int (p0 &&& (65535 : Int32))), .val (.int (p1 &&& (65535 : Int32))), .unset, .unset, .unset] [(.int p2)])) rfl (hb hby at_31)) ?_
      refine Go.st (g' := (mkF m 34 #[.val (.int p0), .val (.int p1), .val (.int p2), .val (.int p3), .val (.int (1 : Int32)), .val (.int (p0 &&& (65535 : Int32))), .val (.int (p1 &&& (65535 : Int32))), .unset, .unset, .unset] [(.int (p2 &&& (65535 : Int32)))])) (fun _ k => XS.iand W0.here hx rfl (hb hby at_33) rfl k) ?_
      refine Go.st (g' := (mkF m 35 #[.val (.int p0), .val (.int p1), .val (.int p2), .val (.int p3), .val (.int (1 : Int32)), .val (.int (p0 &&& (65535 : Int32))), .val (.int (p1 &&& (65535 : Int32))), .unset, .unset, .unset] [(.int ((p2 &&& (65535 : Int32)).toUInt32.toUInt16.toUInt32.toInt32))])) (fun _ k => XS.i2c W0.here hx rfl (hb hby at_34) rfl k) ?_
      rw [own_i2c16]
      refine Go.st (g' := (mkF m 37 #[.val (.int p0), .val (.int p1), .val (.int p2), .val (.int p3), .val (.int (1 : Int32)), .val (.int (p0 &&& (65535 : Int32))), .val (.int (p1 &&& (65535 : Int32))), .val (.int (p2 &&& (65535 : Int32))), .unset, .unset] [])) (fun _ k => XS.istore W0.here hx rfl (hb hby at_35) rfl (l' := #[.val (.int p0), .val (.int p1), .val (.int p2), .val (.int p3), .val (.int (1 : Int32)), .val (.int (p0 &&& (65535 : Int32))), .val (.int (p1 &&& (65535 : Int32))), .val (.int (p2 &&& (65535 : Int32))), .unset, .unset]) rfl k) ?_
      refine Go.st (g' := (mkF m 39 #[.val (.int p0), .val (.int p1), .val (.int p2), .val (.int p3), .val (.int (1 : Int32)), .val (.int (p0 &&& (65535 : Int32))), .val (.int (p1 &&& (65535 : Int32))), .val (.int (p2 &&& (65535 : Int32))), .unset, .unset] [(.int (1 : Int32))])) (fun _ k => XS.iload W0.here hx rfl (hb hby at_37) rfl  k) ?_
      refine Go.st (g' := (mkF m 41 #[.val (.int p0), .val (.int p1), .val (.int p2), .val (.int p3), .val (.int (1 : Int32)), .val (.int (p0 &&& (65535 : Int32))), .val (.int (p1 &&& (65535 : Int32))), .val (.int (p2 &&& (65535 : Int32))), .unset, .unset] [(.int (p0 &&& (65535 : Int32))), (.int (1 : Int32))])) (fun _ k => XS.iload W0.here hx rfl (hb hby at_39) rfl  k) ?_
      refine Go.st (g' := (mkF m 43 #[.val (.int p0), .val (.int p1), .val (.int p2), .val (.int p3), .val (.int (1 : Int32)), .val (.int (p0 &&& (65535 : Int32))), .val (.int (p1 &&& (65535 : Int32))), .val (.int (p2 &&& (65535 : Int32))), .unset, .unset] [(.int (p1 &&& (65535 : Int32))), (.int (p0 &&& (65535 : Int32))), (.int (1 : Int32))])) (fun _ k => XS.iload W0.here hx rfl (hb hby at_41) rfl  k) ?_
      refine Go.st (g' := (mkF m 45 #[.val (.int p0), .val (.int p1), .val (.int p2), .val (.int p3), .val (.int (1 : Int32)), .val (.int (p0 &&& (65535 : Int32))), .val (.int (p1 &&& (65535 : Int32))), .val (.int (p2 &&& (65535 : Int32))), .unset, .unset] [(.int (p2 &&& (65535 : Int32))), (.int (p1 &&& (65535 : Int32))), (.int (p0 &&& (65535 : Int32))), (.int (1 : Int32))])) (fun _ k => XS.iload W0.here hx rfl (hb hby at_43) rfl  k) ?_
      by_cases hc7 : (255 : Int32) < (p0 &&& (65535 : Int32))
      · obtain ⟨_, vm8, T8, h8, W8, Q8, z8, SF8, st8⟩ := W0.callS hx hEL (own_makeW1 l hE W0.old (c1 := (p0 &&& (65535 : Int32))) (c2 := (p1 &&& (65535 : Int32))) (c3 := (p2 &&& (65535 : Int32))) (own_chr _) (own_chr _) (own_chr _) hc7 ) (hw _ (List.mem_of_getElem? (i := 1) rfl)) (hw _ (List.mem_of_getElem? (i := 2) rfl)) (hw _ (List.mem_of_getElem? (i := 3) rfl)) (hw _ (List.mem_of_getElem? (i := 4) rfl)) (by decide) (Wd := 0) (by decide) (by decide) (by decide) (by decide) (g := (mkF m 45 #[.val (.int p0), .val (.int p1), .val (.int p2), .val (.int p3), .val (.int (1 : Int32)), .val (.int (p0 &&& (65535 : Int32))), .val (.int (p1 &&& (65535 : Int32))), .val (.int (p2 &&& (65535 : Int32))), .unset, .unset] [(.int (p2 &&& (65535 : Int32))), (.int (p1 &&& (65535 : Int32))), (.int (p0 &&& (65535 : Int32))), (.int (1 : Int32))])) rfl (by rw [hml]; rfl) (argsL := [(.int (1 : Int32)), (.int (p0 &&& (65535 : Int32))), (.int (p1 &&& (65535 : Int32))), (.int (p2 &&& (65535 : Int32)))]) (rest := []) rfl (lenOf pd__ICCC_Ljava_lang_String_ rfl) rfl (by show 2 * 0 + _ ≤ _; exact Nat.le_of_eq rfl) (hb hby at_45)
        obtain ⟨x_8, t_8, kt_8, rfl, p8_0, f8_0, f8_1, f8_2, f8_3, K8⟩ := Q8
        have yf8_0 : h8.size > x_8 := f8_0.lt
        have yf8_3 : h8.size > t_8 := f8_3.lt
        refine Go.tr (g' := (mkF m 48 #[.val (.int p0), .val (.int p1), .val (.int p2), .val (.int p3), .val (.int (1 : Int32)), .val (.int (p0 &&& (65535 : Int32))), .val (.int (p1 &&& (65535 : Int32))), .val (.int (p2 &&& (65535 : Int32))), .unset, .unset] [(.ref x_8)])) st8 ?_
        refine Go.st (g' := (mkF m 50 #[.val (.int p0), .val (.int p1), .val (.int p2), .val (.int p3), .val (.int (1 : Int32)), .val (.int (p0 &&& (65535 : Int32))), .val (.int (p1 &&& (65535 : Int32))), .val (.int (p2 &&& (65535 : Int32))), .val (.ref x_8), .unset] [])) (fun _ k => XS.astore W8.here hx rfl (hb hby at_48) rfl rfl (l' := #[.val (.int p0), .val (.int p1), .val (.int p2), .val (.int p3), .val (.int (1 : Int32)), .val (.int (p0 &&& (65535 : Int32))), .val (.int (p1 &&& (65535 : Int32))), .val (.int (p2 &&& (65535 : Int32))), .val (.ref x_8), .unset]) rfl k) ?_
        refine Go.st (g' := (mkF m 52 #[.val (.int p0), .val (.int p1), .val (.int p2), .val (.int p3), .val (.int (1 : Int32)), .val (.int (p0 &&& (65535 : Int32))), .val (.int (p1 &&& (65535 : Int32))), .val (.int (p2 &&& (65535 : Int32))), .val (.ref x_8), .unset] [(.int (1 : Int32))])) (fun _ k => XS.iload W8.here hx rfl (hb hby at_50) rfl  k) ?_
        refine Go.st (g' := (mkF m 55 #[.val (.int p0), .val (.int p1), .val (.int p2), .val (.int p3), .val (.int (1 : Int32)), .val (.int (p0 &&& (65535 : Int32))), .val (.int (p1 &&& (65535 : Int32))), .val (.int (p2 &&& (65535 : Int32))), .val (.ref x_8), .unset] [])) (fun _ k => XS.ifNo W8.here hx rfl (hb hby at_52) rfl ((if0 _ _).trans (tlt (by decide)).2.2.2) k) ?_
        refine Go.st (g' := (mkF m 57 #[.val (.int p0), .val (.int p1), .val (.int p2), .val (.int p3), .val (.int (1 : Int32)), .val (.int (p0 &&& (65535 : Int32))), .val (.int (p1 &&& (65535 : Int32))), .val (.int (p2 &&& (65535 : Int32))), .val (.ref x_8), .unset] [(.int (p0 &&& (65535 : Int32)))])) (fun _ k => XS.iload W8.here hx rfl (hb hby at_55) rfl  k) ?_
        refine Go.st (g' := (mkF m 59 #[.val (.int p0), .val (.int p1), .val (.int p2), .val (.int p3), .val (.int (1 : Int32)), .val (.int (p0 &&& (65535 : Int32))), .val (.int (p1 &&& (65535 : Int32))), .val (.int (p2 &&& (65535 : Int32))), .val (.ref x_8), .unset] [(.int (32 : Int32)), (.int (p0 &&& (65535 : Int32)))])) (fun _ k => XS.bipush W8.here hx rfl (hb hby at_57) k) ?_
        by_cases hc9 : (p0 &&& (65535 : Int32)) = (32 : Int32)
        · refine Go.st (g' := (mkF m 62 #[.val (.int p0), .val (.int p1), .val (.int p2), .val (.int p3), .val (.int (1 : Int32)), .val (.int (p0 &&& (65535 : Int32))), .val (.int (p1 &&& (65535 : Int32))), .val (.int (p2 &&& (65535 : Int32))), .val (.ref x_8), .unset] [])) (fun _ k => XS.icmpNo W8.here hx rfl (hb hby at_59) rfl (teq hc9).2 k) ?_
          refine Go.st (g' := (mkF m 63 #[.val (.int p0), .val (.int p1), .val (.int p2), .val (.int p3), .val (.int (1 : Int32)), .val (.int (p0 &&& (65535 : Int32))), .val (.int (p1 &&& (65535 : Int32))), .val (.int (p2 &&& (65535 : Int32))), .val (.ref x_8), .unset] [(.int (1 : Int32))])) (fun _ k => XS.iconst W8.here hx rfl (hb hby at_62) k) ?_
          refine Go.st (g' := (mkF m 67 #[.val (.int p0), .val (.int p1), .val (.int p2), .val (.int p3), .val (.int (1 : Int32)), .val (.int (p0 &&& (65535 : Int32))), .val (.int (p1 &&& (65535 : Int32))), .val (.int (p2 &&& (65535 : Int32))), .val (.ref x_8), .unset] [(.int (1 : Int32))])) (fun _ k => XS.goto W8.here hx rfl (pc0 := 63) (pc' := 67) rfl (hb hby at_63) (by decide) (by decide) k) ?_
          refine Go.st (g' := (mkF m 69 #[.val (.int p0), .val (.int p1), .val (.int p2), .val (.int p3), .val (.int (1 : Int32)), .val (.int (p0 &&& (65535 : Int32))), .val (.int (p1 &&& (65535 : Int32))), .val (.int (p2 &&& (65535 : Int32))), .val (.ref x_8), .val (.int (1 : Int32))] [])) (fun _ k => XS.istore W8.here hx rfl (hb hby at_67) rfl (l' := #[.val (.int p0), .val (.int p1), .val (.int p2), .val (.int p3), .val (.int (1 : Int32)), .val (.int (p0 &&& (65535 : Int32))), .val (.int (p1 &&& (65535 : Int32))), .val (.int (p2 &&& (65535 : Int32))), .val (.ref x_8), .val (.int (1 : Int32))]) rfl k) ?_
          refine Go.st (g' := (mkF m 71 #[.val (.int p0), .val (.int p1), .val (.int p2), .val (.int p3), .val (.int (1 : Int32)), .val (.int (p0 &&& (65535 : Int32))), .val (.int (p1 &&& (65535 : Int32))), .val (.int (p2 &&& (65535 : Int32))), .val (.ref x_8), .val (.int (1 : Int32))] [(.ref x_8)])) (fun _ k => XS.aload W8.here hx rfl (hb hby at_69) rfl rfl  k) ?_
          obtain ⟨_, vm10, T10, h10, W10, Q10, z10, SF10, st10⟩ := W8.callS hx hEL (own_deW1 l hE W8.old (x0 := x_8) (t0 := t_8) (kt := kt_8) (c1 := (p0 &&& (65535 : Int32))) (own_chr _) f8_0 f8_1 f8_2 f8_3) (hw _ (List.mem_of_getElem? (i := 31) rfl)) (hw _ (List.mem_of_getElem? (i := 32) rfl)) (hw _ (List.mem_of_getElem? (i := 33) rfl)) (hw _ (List.mem_of_getElem? (i := 34) rfl)) (by decide) (Wd := 0) (by decide) (by decide) (by decide) (by decide) (g := (mkF m 71 #[.val (.int p0), .val (.int p1), .val (.int p2), .val (.int p3), .val (.int (1 : Int32)), .val (.int (p0 &&& (65535 : Int32))), .val (.int (p1 &&& (65535 : Int32))), .val (.int (p2 &&& (65535 : Int32))), .val (.ref x_8), .val (.int (1 : Int32))] [(.ref x_8)])) rfl (by rw [hml]; rfl) (argsL := [(.ref x_8)]) (rest := []) rfl (lenOf pd__Ljava_lang_String__Z rfl) rfl (by show 2 * 0 + _ ≤ _; exact Nat.le_of_eq rfl) (hb hby at_71)
          obtain ⟨rfl, eh10⟩ := Q10
          subst eh10
          refine Go.tr (g' := (mkF m 74 #[.val (.int p0), .val (.int p1), .val (.int p2), .val (.int p3), .val (.int (1 : Int32)), .val (.int (p0 &&& (65535 : Int32))), .val (.int (p1 &&& (65535 : Int32))), .val (.int (p2 &&& (65535 : Int32))), .val (.ref x_8), .val (.int (1 : Int32))] [(.int (own_de (p0 &&& (65535 : Int32))))])) st10 ?_
          refine Go.st (g' := (mkF m 76 #[.val (.int p0), .val (.int p1), .val (.int p2), .val (.int p3), .val (.int (1 : Int32)), .val (.int (p0 &&& (65535 : Int32))), .val (.int (p1 &&& (65535 : Int32))), .val (.int (p2 &&& (65535 : Int32))), .val (.ref x_8), .val (.int (1 : Int32))] [(.int (1 : Int32)), (.int (own_de (p0 &&& (65535 : Int32))))])) (fun _ k => XS.iload W10.here hx rfl (hb hby at_74) rfl  k) ?_
          refine Go.st (g' := (mkF m 79 #[.val (.int p0), .val (.int p1), .val (.int p2), .val (.int p3), .val (.int (1 : Int32)), .val (.int (p0 &&& (65535 : Int32))), .val (.int (p1 &&& (65535 : Int32))), .val (.int (p2 &&& (65535 : Int32))), .val (.ref x_8), .val (.int (1 : Int32))] [])) (fun _ k => XS.icmpNo W10.here hx rfl (hb hby at_76) rfl (teq (if_pos hc9)).2 k) ?_
          refine Go.st (g' := (mkF m 80 #[.val (.int p0), .val (.int p1), .val (.int p2), .val (.int p3), .val (.int (1 : Int32)), .val (.int (p0 &&& (65535 : Int32))), .val (.int (p1 &&& (65535 : Int32))), .val (.int (p2 &&& (65535 : Int32))), .val (.ref x_8), .val (.int (1 : Int32))] [(.int (1 : Int32))])) (fun _ k => XS.iconst W10.here hx rfl (hb hby at_79) k) ?_
          refine Go.st (g' := (mkF m 84 #[.val (.int p0), .val (.int p1), .val (.int p2), .val (.int p3), .val (.int (1 : Int32)), .val (.int (p0 &&& (65535 : Int32))), .val (.int (p1 &&& (65535 : Int32))), .val (.int (p2 &&& (65535 : Int32))), .val (.ref x_8), .val (.int (1 : Int32))] [(.int (1 : Int32))])) (fun _ k => XS.goto W10.here hx rfl (pc0 := 80) (pc' := 84) rfl (hb hby at_80) (by decide) (by decide) k) ?_
          exact W10.retN hx hEL hlk (t := .boolean) hret (by decide) (hb hby at_84) (by decide) (by decide) rfl
        · refine Go.st (g' := (mkF m 66 #[.val (.int p0), .val (.int p1), .val (.int p2), .val (.int p3), .val (.int (1 : Int32)), .val (.int (p0 &&& (65535 : Int32))), .val (.int (p1 &&& (65535 : Int32))), .val (.int (p2 &&& (65535 : Int32))), .val (.ref x_8), .unset] [])) (fun _ k => XS.icmpYes W8.here hx rfl (pc0 := 59) (pc' := 66) rfl (hb hby at_59) rfl (feq hc9).2 (by decide) (by decide) k) ?_
          refine Go.st (g' := (mkF m 67 #[.val (.int p0), .val (.int p1), .val (.int p2), .val (.int p3), .val (.int (1 : Int32)), .val (.int (p0 &&& (65535 : Int32))), .val (.int (p1 &&& (65535 : Int32))), .val (.int (p2 &&& (65535 : Int32))), .val (.ref x_8), .unset] [(.int (0 : Int32))])) (fun _ k => XS.iconst W8.here hx rfl (hb hby at_66) k) ?_
          refine Go.st (g' := (mkF m 69 #[.val (.int p0), .val (.int p1), .val (.int p2), .val (.int p3), .val (.int (1 : Int32)), .val (.int (p0 &&& (65535 : Int32))), .val (.int (p1 &&& (65535 : Int32))), .val (.int (p2 &&& (65535 : Int32))), .val (.ref x_8), .val (.int (0 : Int32))] [])) (fun _ k => XS.istore W8.here hx rfl (hb hby at_67) rfl (l' := #[.val (.int p0), .val (.int p1), .val (.int p2), .val (.int p3), .val (.int (1 : Int32)), .val (.int (p0 &&& (65535 : Int32))), .val (.int (p1 &&& (65535 : Int32))), .val (.int (p2 &&& (65535 : Int32))), .val (.ref x_8), .val (.int (0 : Int32))]) rfl k) ?_
          refine Go.st (g' := (mkF m 71 #[.val (.int p0), .val (.int p1), .val (.int p2), .val (.int p3), .val (.int (1 : Int32)), .val (.int (p0 &&& (65535 : Int32))), .val (.int (p1 &&& (65535 : Int32))), .val (.int (p2 &&& (65535 : Int32))), .val (.ref x_8), .val (.int (0 : Int32))] [(.ref x_8)])) (fun _ k => XS.aload W8.here hx rfl (hb hby at_69) rfl rfl  k) ?_
          obtain ⟨_, vm11, T11, h11, W11, Q11, z11, SF11, st11⟩ := W8.callS hx hEL (own_deW1 l hE W8.old (x0 := x_8) (t0 := t_8) (kt := kt_8) (c1 := (p0 &&& (65535 : Int32))) (own_chr _) f8_0 f8_1 f8_2 f8_3) (hw _ (List.mem_of_getElem? (i := 31) rfl)) (hw _ (List.mem_of_getElem? (i := 32) rfl)) (hw _ (List.mem_of_getElem? (i := 33) rfl)) (hw _ (List.mem_of_getElem? (i := 34) rfl)) (by decide) (Wd := 0) (by decide) (by decide) (by decide) (by decide) (g := (mkF m 71 #[.val (.int p0), .val (.int p1), .val (.int p2), .val (.int p3), .val (.int (1 : Int32)), .val (.int (p0 &&& (65535 : Int32))), .val (.int (p1 &&& (65535 : Int32))), .val (.int (p2 &&& (65535 : Int32))), .val (.ref x_8), .val (.int (0 : Int32))] [(.ref x_8)])) rfl (by rw [hml]; rfl) (argsL := [(.ref x_8)]) (rest := []) rfl (lenOf pd__Ljava_lang_String__Z rfl) rfl (by show 2 * 0 + _ ≤ _; exact Nat.le_of_eq rfl) (hb hby at_71)
          obtain ⟨rfl, eh11⟩ := Q11
          subst eh11
          refine Go.tr (g' := (mkF m 74 #[.val (.int p0), .val (.int p1), .val (.int p2), .val (.int p3), .val (.int (1 : Int32)), .val (.int (p0 &&& (65535 : Int32))), .val (.int (p1 &&& (65535 : Int32))), .val (.int (p2 &&& (65535 : Int32))), .val (.ref x_8), .val (.int (0 : Int32))] [(.int (own_de (p0 &&& (65535 : Int32))))])) st11 ?_
          refine Go.st (g' := (mkF m 76 #[.val (.int p0), .val (.int p1), .val (.int p2), .val (.int p3), .val (.int (1 : Int32)), .val (.int (p0 &&& (65535 : Int32))), .val (.int (p1 &&& (65535 : Int32))), .val (.int (p2 &&& (65535 : Int32))), .val (.ref x_8), .val (.int (0 : Int32))] [(.int (0 : Int32)), (.int (own_de (p0 &&& (65535 : Int32))))])) (fun _ k => XS.iload W11.here hx rfl (hb hby at_74) rfl  k) ?_
          refine Go.st (g' := (mkF m 79 #[.val (.int p0), .val (.int p1), .val (.int p2), .val (.int p3), .val (.int (1 : Int32)), .val (.int (p0 &&& (65535 : Int32))), .val (.int (p1 &&& (65535 : Int32))), .val (.int (p2 &&& (65535 : Int32))), .val (.ref x_8), .val (.int (0 : Int32))] [])) (fun _ k => XS.icmpNo W11.here hx rfl (hb hby at_76) rfl (teq (if_neg hc9)).2 k) ?_
          refine Go.st (g' := (mkF m 80 #[.val (.int p0), .val (.int p1), .val (.int p2), .val (.int p3), .val (.int (1 : Int32)), .val (.int (p0 &&& (65535 : Int32))), .val (.int (p1 &&& (65535 : Int32))), .val (.int (p2 &&& (65535 : Int32))), .val (.ref x_8), .val (.int (0 : Int32))] [(.int (1 : Int32))])) (fun _ k => XS.iconst W11.here hx rfl (hb hby at_79) k) ?_
          refine Go.st (g' := (mkF m 84 #[.val (.int p0), .val (.int p1), .val (.int p2), .val (.int p3), .val (.int (1 : Int32)), .val (.int (p0 &&& (65535 : Int32))), .val (.int (p1 &&& (65535 : Int32))), .val (.int (p2 &&& (65535 : Int32))), .val (.ref x_8), .val (.int (0 : Int32))] [(.int (1 : Int32))])) (fun _ k => XS.goto W11.here hx rfl (pc0 := 80) (pc' := 84) rfl (hb hby at_80) (by decide) (by decide) k) ?_
          exact W11.retN hx hEL hlk (t := .boolean) hret (by decide) (hb hby at_84) (by decide) (by decide) rfl
      · obtain ⟨_, vm12, T12, h12, W12, Q12, z12, SF12, st12⟩ := W0.callS hx hEL (own_makeL1 l hE W0.old (c1 := (p0 &&& (65535 : Int32))) (c2 := (p1 &&& (65535 : Int32))) (c3 := (p2 &&& (65535 : Int32))) (own_chr _) (own_chr _) (own_chr _) ⟨(own_chr _).1, fun z => hc7 (z)⟩ ) (hw _ (List.mem_of_getElem? (i := 1) rfl)) (hw _ (List.mem_of_getElem? (i := 2) rfl)) (hw _ (List.mem_of_getElem? (i := 3) rfl)) (hw _ (List.mem_of_getElem? (i := 4) rfl)) (by decide) (Wd := 0) (by decide) (by decide) (by decide) (by decide) (g := (mkF m 45 #[.val (.int p0), .val (.int p1), .val (.int p2), .val (.int p3), .val (.int (1 : Int32)), .val (.int (p0 &&& (65535 : Int32))), .val (.int (p1 &&& (65535 : Int32))), .val (.int (p2 &&& (65535 : Int32))), .unset, .unset] [(.int (p2 &&& (65535 : Int32))), (.int (p1 &&& (65535 : Int32))), (.int (p0 &&& (65535 : Int32))), (.int (1 : Int32))])) rfl (by rw [hml]; rfl) (argsL := [(.int (1 : Int32)), (.int (p0 &&& (65535 : Int32))), (.int (p1 &&& (65535 : Int32))), (.int (p2 &&& (65535 : Int32)))]) (rest := []) rfl (lenOf pd__ICCC_Ljava_lang_String_ rfl) rfl (by show 2 * 0 + _ ≤ _; exact Nat.le_of_eq rfl) (hb hby at_45)
        obtain ⟨x_12, t_12, rfl, p12_0, f12_0, K12⟩ := Q12
        have yf12_0 : h12.size > x_12 ∧ h12.size > t_12 := f12_0.lt
        refine Go.tr (g' := (mkF m 48 #[.val (.int p0), .val (.int p1), .val (.int p2), .val (.int p3), .val (.int (1 : Int32)), .val (.int (p0 &&& (65535 : Int32))), .val (.int (p1 &&& (65535 : Int32))), .val (.int (p2 &&& (65535 : Int32))), .unset, .unset] [(.ref x_12)])) st12 ?_
        refine Go.st (g' := (mkF m 50 #[.val (.int p0), .val (.int p1), .val (.int p2), .val (.int p3), .val (.int (1 : Int32)), .val (.int (p0 &&& (65535 : Int32))), .val (.int (p1 &&& (65535 : Int32))), .val (.int (p2 &&& (65535 : Int32))), .val (.ref x_12), .unset] [])) (fun _ k => XS.astore W12.here hx rfl (hb hby at_48) rfl rfl (l' := #[.val (.int p0), .val (.int p1), .val (.int p2), .val (.int p3), .val (.int (1 : Int32)), .val (.int (p0 &&& (65535 : Int32))), .val (.int (p1 &&& (65535 : Int32))), .val (.int (p2 &&& (65535 : Int32))), .val (.ref x_12), .unset]) rfl k) ?_
        refine Go.st (g' := (mkF m 52 #[.val (.int p0), .val (.int p1), .val (.int p2), .val (.int p3), .val (.int (1 : Int32)), .val (.int (p0 &&& (65535 : Int32))), .val (.int (p1 &&& (65535 : Int32))), .val (.int (p2 &&& (65535 : Int32))), .val (.ref x_12), .unset] [(.int (1 : Int32))])) (fun _ k => XS.iload W12.here hx rfl (hb hby at_50) rfl  k) ?_
        refine Go.st (g' := (mkF m 55 #[.val (.int p0), .val (.int p1), .val (.int p2), .val (.int p3), .val (.int (1 : Int32)), .val (.int (p0 &&& (65535 : Int32))), .val (.int (p1 &&& (65535 : Int32))), .val (.int (p2 &&& (65535 : Int32))), .val (.ref x_12), .unset] [])) (fun _ k => XS.ifNo W12.here hx rfl (hb hby at_52) rfl ((if0 _ _).trans (tlt (by decide)).2.2.2) k) ?_
        refine Go.st (g' := (mkF m 57 #[.val (.int p0), .val (.int p1), .val (.int p2), .val (.int p3), .val (.int (1 : Int32)), .val (.int (p0 &&& (65535 : Int32))), .val (.int (p1 &&& (65535 : Int32))), .val (.int (p2 &&& (65535 : Int32))), .val (.ref x_12), .unset] [(.int (p0 &&& (65535 : Int32)))])) (fun _ k => XS.iload W12.here hx rfl (hb hby at_55) rfl  k) ?_
        refine Go.st (g' := (mkF m 59 #[.val (.int p0), .val (.int p1), .val (.int p2), .val (.int p3), .val (.int (1 : Int32)), .val (.int (p0 &&& (65535 : Int32))), .val (.int (p1 &&& (65535 : Int32))), .val (.int (p2 &&& (65535 : Int32))), .val (.ref x_12), .unset] [(.int (32 : Int32)), (.int (p0 &&& (65535 : Int32)))])) (fun _ k => XS.bipush W12.here hx rfl (hb hby at_57) k) ?_
        by_cases hc13 : (p0 &&& (65535 : Int32)) = (32 : Int32)
        · refine Go.st (g' := (mkF m 62 #[.val (.int p0), .val (.int p1), .val (.int p2), .val (.int p3), .val (.int (1 : Int32)), .val (.int (p0 &&& (65535 : Int32))), .val (.int (p1 &&& (65535 : Int32))), .val (.int (p2 &&& (65535 : Int32))), .val (.ref x_12), .unset] [])) (fun _ k => XS.icmpNo W12.here hx rfl (hb hby at_59) rfl (teq hc13).2 k) ?_
          refine Go.st (g' := (mkF m 63 #[.val (.int p0), .val (.int p1), .val (.int p2), .val (.int p3), .val (.int (1 : Int32)), .val (.int (p0 &&& (65535 : Int32))), .val (.int (p1 &&& (65535 : Int32))), .val (.int (p2 &&& (65535 : Int32))), .val (.ref x_12), .unset] [(.int (1 : Int32))])) (fun _ k => XS.iconst W12.here hx rfl (hb hby at_62) k) ?_
          refine Go.st (g' := (mkF m 67 #[.val (.int p0), .val (.int p1), .val (.int p2), .val (.int p3), .val (.int (1 : Int32)), .val (.int (p0 &&& (65535 : Int32))), .val (.int (p1 &&& (65535 : Int32))), .val (.int (p2 &&& (65535 : Int32))), .val (.ref x_12), .unset] [(.int (1 : Int32))])) (fun _ k => XS.goto W12.here hx rfl (pc0 := 63) (pc' := 67) rfl (hb hby at_63) (by decide) (by decide) k) ?_
          refine Go.st (g' := (mkF m 69 #[.val (.int p0), .val (.int p1), .val (.int p2), .val (.int p3), .val (.int (1 : Int32)), .val (.int (p0 &&& (65535 : Int32))), .val (.int (p1 &&& (65535 : Int32))), .val (.int (p2 &&& (65535 : Int32))), .val (.ref x_12), .val (.int (1 : Int32))] [])) (fun _ k => XS.istore W12.here hx rfl (hb hby at_67) rfl (l' := #[.val (.int p0), .val (.int p1), .val (.int p2), .val (.int p3), .val (.int (1 : Int32)), .val (.int (p0 &&& (65535 : Int32))), .val (.int (p1 &&& (65535 : Int32))), .val (.int (p2 &&& (65535 : Int32))), .val (.ref x_12), .val (.int (1 : Int32))]) rfl k) ?_
          refine Go.st (g' := (mkF m 71 #[.val (.int p0), .val (.int p1), .val (.int p2), .val (.int p3), .val (.int (1 : Int32)), .val (.int (p0 &&& (65535 : Int32))), .val (.int (p1 &&& (65535 : Int32))), .val (.int (p2 &&& (65535 : Int32))), .val (.ref x_12), .val (.int (1 : Int32))] [(.ref x_12)])) (fun _ k => XS.aload W12.here hx rfl (hb hby at_69) rfl rfl  k) ?_
          obtain ⟨_, vm14, T14, h14, W14, Q14, z14, SF14, st14⟩ := W12.callS hx hEL (own_deL1 l hE W12.old (x0 := x_12) (t0 := t_12) (c1 := (p0 &&& (65535 : Int32))) ⟨(own_chr _).1, fun z => hc7 (z)⟩ f12_0.1 f12_0) (hw _ (List.mem_of_getElem? (i := 31) rfl)) (hw _ (List.mem_of_getElem? (i := 32) rfl)) (hw _ (List.mem_of_getElem? (i := 33) rfl)) (hw _ (List.mem_of_getElem? (i := 34) rfl)) (by decide) (Wd := 0) (by decide) (by decide) (by decide) (by decide) (g := (mkF m 71 #[.val (.int p0), .val (.int p1), .val (.int p2), .val (.int p3), .val (.int (1 : Int32)), .val (.int (p0 &&& (65535 : Int32))), .val (.int (p1 &&& (65535 : Int32))), .val (.int (p2 &&& (65535 : Int32))), .val (.ref x_12), .val (.int (1 : Int32))] [(.ref x_12)])) rfl (by rw [hml]; rfl) (argsL := [(.ref x_12)]) (rest := []) rfl (lenOf pd__Ljava_lang_String__Z rfl) rfl (by show 2 * 0 + _ ≤ _; exact Nat.le_of_eq rfl) (hb hby at_71)
          obtain ⟨rfl, eh14⟩ := Q14
          subst eh14
          refine Go.tr (g' := (mkF m 74 #[.val (.int p0), .val (.int p1), .val (.int p2), .val (.int p3), .val (.int (1 : Int32)), .val (.int (p0 &&& (65535 : Int32))), .val (.int (p1 &&& (65535 : Int32))), .val (.int (p2 &&& (65535 : Int32))), .val (.ref x_12), .val (.int (1 : Int32))] [(.int (own_de (p0 &&& (65535 : Int32))))])) st14 ?_
          refine Go.st (g' := (mkF m 76 #[.val (.int p0), .val (.int p1), .val (.int p2), .val (.int p3), .val (.int (1 : Int32)), .val (.int (p0 &&& (65535 : Int32))), .val (.int (p1 &&& (65535 : Int32))), .val (.int (p2 &&& (65535 : Int32))), .val (.ref x_12), .val (.int (1 : Int32))] [(.int (1 : Int32)), (.int (own_de (p0 &&& (65535 : Int32))))])) (fun _ k => XS.iload W14.here hx rfl (hb hby at_74) rfl  k) ?_
          refine Go.st (g' := (mkF m 79 #[.val (.int p0), .val (.int p1), .val (.int p2), .val (.int p3), .val (.int (1 : Int32)), .val (.int (p0 &&& (65535 : Int32))), .val (.int (p1 &&& (65535 : Int32))), .val (.int (p2 &&& (65535 : Int32))), .val (.ref x_12), .val (.int (1 : Int32))] [])) (fun _ k => XS.icmpNo W14.here hx rfl (hb hby at_76) rfl (teq (if_pos hc13)).2 k) ?_
          refine Go.st (g' := (mkF m 80 #[.val (.int p0), .val (.int p1), .val (.int p2), .val (.int p3), .val (.int (1 : Int32)), .val (.int (p0 &&& (65535 : Int32))), .val (.int (p1 &&& (65535 : Int32))), .val (.int (p2 &&& (65535 : Int32))), .val (.ref x_12), .val (.int (1 : Int32))] [(.int (1 : Int32))])) (fun _ k => XS.iconst W14.here hx rfl (hb hby at_79) k) ?_
          refine Go.st (g' := (mkF m 84 #[.val (.int p0), .val (.int p1), .val (.int p2), .val (.int p3), .val (.int (1 : Int32)), .val (.int (p0 &&& (65535 : Int32))), .val (.int (p1 &&& (65535 : Int32))), .val (.int (p2 &&& (65535 : Int32))), .val (.ref x_12), .val (.int (1 : Int32))] [(.int (1 : Int32))])) (fun _ k => XS.goto W14.here hx rfl (pc0 := 80) (pc' := 84) rfl (hb hby at_80) (by decide) (by decide) k) ?_
          exact W14.retN hx hEL hlk (t := .boolean) hret (by decide) (hb hby at_84) (by decide) (by decide) rfl
        · refine Go.st (g' := (mkF m 66 #[.val (.int p0), .val (.int p1), .val (.int p2), .val (.int p3), .val (.int (1 : Int32)), .val (.int (p0 &&& (65535 : Int32))), .val (.int (p1 &&& (65535 : Int32))), .val (.int (p2 &&& (65535 : Int32))), .val (.ref x_12), .unset] [])) (fun _ k => XS.icmpYes W12.here hx rfl (pc0 := 59) (pc' := 66) rfl (hb hby at_59) rfl (feq hc13).2 (by decide) (by decide) k) ?_
          refine Go.st (g' := (mkF m 67 #[.val (.int p0), .val (.int p1), .val (.int p2), .val (.int p3), .val (.int (1 : Int32)), .val (.int (p0 &&& (65535 : Int32))), .val (.int (p1 &&& (65535 : Int32))), .val (.int (p2 &&& (65535 : Int32))), .val (.ref x_12), .unset] [(.int (0 : Int32))])) (fun _ k => XS.iconst W12.here hx rfl (hb hby at_66) k) ?_
          refine Go.st (g' := (mkF m 69 #[.val (.int p0), .val (.int p1), .val (.int p2), .val (.int p3), .val (.int (1 : Int32)), .val (.int (p0 &&& (65535 : Int32))), .val (.int (p1 &&& (65535 : Int32))), .val (.int (p2 &&& (65535 : Int32))), .val (.ref x_12), .val (.int (0 : Int32))] [])) (fun _ k => XS.istore W12.here hx rfl (hb hby at_67) rfl (l' := #[.val (.int p0), .val (.int p1), .val (.int p2), .val (.int p3), .val (.int (1 : Int32)), .val (.int (p0 &&& (65535 : Int32))), .val (.int (p1 &&& (65535 : Int32))), .val (.int (p2 &&& (65535 : Int32))), .val (.ref x_12), .val (.int (0 : Int32))]) rfl k) ?_
          refine Go.st (g' := (mkF m 71 #[.val (.int p0), .val (.int p1), .val (.int p2), .val (.int p3), .val (.int (1 : Int32)), .val (.int (p0 &&& (65535 : Int32))), .val (.int (p1 &&& (65535 : Int32))), .val (.int (p2 &&& (65535 : Int32))), .val (.ref x_12), .val (.int (0 : Int32))] [(.ref x_12)])) (fun _ k => XS.aload W12.here hx rfl (hb hby at_69) rfl rfl  k) ?_
          obtain ⟨_, vm15, T15, h15, W15, Q15, z15, SF15, st15⟩ := W12.callS hx hEL (own_deL1 l hE W12.old (x0 := x_12) (t0 := t_12) (c1 := (p0 &&& (65535 : Int32))) ⟨(own_chr _).1, fun z => hc7 (z)⟩ f12_0.1 f12_0) (hw _ (List.mem_of_getElem? (i := 31) rfl)) (hw _ (List.mem_of_getElem? (i := 32) rfl)) (hw _ (List.mem_of_getElem? (i := 33) rfl)) (hw _ (List.mem_of_getElem? (i := 34) rfl)) (by decide) (Wd := 0) (by decide) (by decide) (by decide) (by decide) (g := (mkF m 71 #[.val (.int p0), .val (.int p1), .val (.int p2), .val (.int p3), .val (.int (1 : Int32)), .val (.int (p0 &&& (65535 : Int32))), .val (.int (p1 &&& (65535 : Int32))), .val (.int (p2 &&& (65535 : Int32))), .val (.ref x_12), .val (.int (0 : Int32))] [(.ref x_12)])) rfl (by rw [hml]; rfl) (argsL := [(.ref x_12)]) (rest := []) rfl (lenOf pd__Ljava_lang_String__Z rfl) rfl (by show 2 * 0 + _ ≤ _; exact Nat.le_of_eq rfl) (hb hby at_71)
          obtain ⟨rfl, eh15⟩ := Q15
          subst eh15
          refine Go.tr (g' := (mkF m 74 #[.val (.int p0), .val (.int p1), .val (.int p2), .val (.int p3), .val (.int (1 : Int32)), .val (.int (p0 &&& (65535 : Int32))), .val (.int (p1 &&& (65535 : Int32))), .val (.int (p2 &&& (65535 : Int32))), .val (.ref x_12), .val (.int (0 : Int32))] [(.int (own_de (p0 &&& (65535 : Int32))))])) st15 ?_
          refine Go.st (g' := (mkF m 76 #[.val (.int p0), .val (.int p1), .val (.int p2), .val (.int p3), .val (.int (1 : Int32)), .val (.int (p0 &&& (65535 : Int32))), .val (.int (p1 &&& (65535 : Int32))), .val (.int (p2 &&& (65535 : Int32))), .val (.ref x_12), .val (.int (0 : Int32))] [(.int (0 : Int32)), (.int (own_de (p0 &&& (65535 : Int32))))])) (fun _ k => XS.iload W15.here hx rfl (hb hby at_74) rfl  k) ?_
          refine Go.st (g' := (mkF m 79 #[.val (.int p0), .val (.int p1), .val (.int p2), .val (.int p3), .val (.int (1 : Int32)), .val (.int (p0 &&& (65535 : Int32))), .val (.int (p1 &&& (65535 : Int32))), .val (.int (p2 &&& (65535 : Int32))), .val (.ref x_12), .val (.int (0 : Int32))] [])) (fun _ k => XS.icmpNo W15.here hx rfl (hb hby at_76) rfl (teq (if_neg hc13)).2 k) ?_
          refine Go.st (g' := (mkF m 80 #[.val (.int p0), .val (.int p1), .val (.int p2), .val (.int p3), .val (.int (1 : Int32)), .val (.int (p0 &&& (65535 : Int32))), .val (.int (p1 &&& (65535 : Int32))), .val (.int (p2 &&& (65535 : Int32))), .val (.ref x_12), .val (.int (0 : Int32))] [(.int (1 : Int32))])) (fun _ k => XS.iconst W15.here hx rfl (hb hby at_79) k) ?_
          refine Go.st (g' := (mkF m 84 #[.val (.int p0), .val (.int p1), .val (.int p2), .val (.int p3), .val (.int (1 : Int32)), .val (.int (p0 &&& (65535 : Int32))), .val (.int (p1 &&& (65535 : Int32))), .val (.int (p2 &&& (65535 : Int32))), .val (.ref x_12), .val (.int (0 : Int32))] [(.int (1 : Int32))])) (fun _ k => XS.goto W15.here hx rfl (pc0 := 80) (pc' := 84) rfl (hb hby at_80) (by decide) (by decide) k) ?_
          exact W15.retN hx hEL hlk (t := .boolean) hret (by decide) (hb hby at_84) (by decide) (by decide) rfl
    · refine Go.st (g' := (mkF m 11 #[.val (.int p0), .val (.int p1), .val (.int p2), .val (.int p3), .val (.int (1 : Int32)), .unset, .unset, .unset, .unset, .unset] [])) (fun _ k => XS.ifNo W0.here hx rfl (hb hby at_8) rfl ((if0 _ _).trans (feq hc6).1) k) ?_
      refine Go.st (g' := (mkF m 13 #[.val (.int p0), .val (.int p1), .val (.int p2), .val (.int p3), .val (.int (1 : Int32)), .unset, .unset, .unset, .unset, .unset] [(.int (32 : Int32))])) (fun _ k => XS.bipush W0.here hx rfl (hb hby at_11) k) ?_
      refine Go.st (g' := (mkF m 21 #[.val (.int p0), .val (.int p1), .val (.int p2), .val (.int p3), .val (.int (1 : Int32)), .unset, .unset, .unset, .unset, .unset] [(.int (32 : Int32))])) (fun _ k => XS.goto W0.here hx rfl (pc0 := 13) (pc' := 21) rfl (hb hby at_13) (by decide) (by decide) k) ?_
      refine Go.st (g' := (mkF m 23 #[.val (.int p0), .val (.int p1), .val (.int p2), .val (.int p3), .val (.int (1 : Int32)), .val (.int (32 : Int32)), .unset, .unset, .unset, .unset] [])) (fun _ k => XS.istore W0.here hx rfl (hb hby at_21) rfl (l' := #[.val (.int p0), .val (.int p1), .val (.int p2), .val (.int p3), .val (.int (1 : Int32)), .val (.int (32 : Int32)), .unset, .unset, .unset, .unset]) rfl k) ?_
      refine Go.st (g' := (mkF m 24 #[.val (.int p0), .val (.int p1), .val (.int p2), .val (.int p3), .val (.int (1 : Int32)), .val (.int (32 : Int32)), .unset, .unset, .unset, .unset] [(.int p1)])) (fun _ k => XS.iloadN W0.here hx rfl (hb hby at_23) rfl  k) ?_
      refine Go.st (g' := (mkF m 26 #[.val (.int p0), .val (.int p1), .val (.int p2), .val (.int p3), .val (.int (1 : Int32)), .val (.int (32 : Int32)), .unset, .unset, .unset, .unset] [(.int (65535 : Int32)), (.int p1)])) (W0.ldcI hx (hw _ (List.mem_of_getElem? (i := 0) rfl)) (g := (mkF m 24 #[.val (.int p0), .val (.int p1), .val (.int p2), .val (.int p3), .val (.int (1 : Int32)), .val (.int (32 : Int32)), .unset, .unset, .unset, .unset] [(.int p1)])) rfl (hb hby at_24)) ?_
      refine Go.st (g' := (mkF m 27 #[.val (.int p0), .val (.int p1), .val (.int p2), .val (.int p3), .val (.int (1 : Int32)), .val (.int (32 : Int32)), .unset, .unset, .unset, .unset] [(.int (p1 &&& (65535 : Int32)))])) (fun _ k => XS.iand W0.here hx rfl (hb hby at_26) rfl k) ?_
      refine Go.st (g' := (mkF m 28 #[.val (.int p0), .val (.int p1), .val (.int p2), .val (.int p3), .val (.int (1 : Int32)), .val (.int (32 : Int32)), .unset, .unset, .unset, .unset] [(.int ((p1 &&& (65535 : Int32)).toUInt32.toUInt16.toUInt32.toInt32))])) (fun _ k => XS.i2c W0.here hx rfl (hb hby at_27) rfl k) ?_
      rw [own_i2c16]
      refine Go.st (g' := (mkF m 30 #[.val (.int p0), .val (.int p1), .val (.int p2), .val (.int p3), .val (.int (1 : Int32)), .val (.int (32 : Int32)), .val (.int (p1 &&& (65535 : Int32))), .unset, .unset, .unset] [])) (fun _ k => XS.istore W0.here hx rfl (hb hby at_28) rfl (l' := #[.val (.int p0), .val (.int p1), .val (.int p2), .val (.int p3), .val (.int (1 : Int32)), .val (.int (32 : Int32)), .val (.int (p1 &&& (65535 : Int32))), .unset, .unset, .unset]) rfl k) ?_
      refine Go.st (g' := (mkF m 31 #[.val (.int p0), .val (.int p1), .val (.int p2), .val (.int p3), .val (.int (1 : Int32)), .val (.int (32 : Int32)), .val (.int (p1 &&& (65535 : Int32))), .unset, .unset, .unset] [(.int p2)])) (fun _ k => XS.iloadN W0.here hx rfl (hb hby at_30) rfl  k) ?_
      refine Go.st (g' := (mkF m 33 #[.val (.int p0), .val (.int p1), .val (.int p2), .val (.int p3), .val (.int (1 : Int32)), .val (.int (32 : Int32)), .val (.int (p1 &&& (65535 : Int32))), .unset, .unset, .unset] [(.int (65535 : Int32)), (.int p2)])) (W0.ldcI hx (hw _ (List.mem_of_getElem? (i := 0) rfl)) (g := (mkF m 31 #[.val (.int p0), .val (.int p1), .val (.int p2), .val (.int p3), .val (.int (1 : Int32)), .val (.int (32 : Int32)), .val (.int (p1 &&& (65535 : Int32))), .unset, .unset, .unset] [(.int p2)])) rfl (hb hby at_31)) ?_
      refine Go.st (g' := (mkF m 34 #[.val (.int p0), .val (.int p1), .val (.int p2), .val (.int p3), .val (.int (1 : Int32)), .val (.int (32 : Int32)), .val (.int (p1 &&& (65535 : Int32))), .unset, .unset, .unset] [(.int (p2 &&& (65535 : Int32)))])) (fun _ k => XS.iand W0.here hx rfl (hb hby at_33) rfl k) ?_
      refine Go.st (g' := (mkF m 35 #[.val (.int p0), .val (.int p1), .val (.int p2), .val (.int p3), .val (.int (1 : Int32)), .val (.int (32 : Int32)), .val (.int (p1 &&& (65535 : Int32))), .unset, .unset, .unset] [(.int ((p2 &&& (65535 : Int32)).toUInt32.toUInt16.toUInt32.toInt32))])) (fun _ k => XS.i2c W0.here hx rfl (hb hby at_34) rfl k) ?_
      rw [own_i2c16]
      refine Go.st (g' := (mkF m 37 #[.val (.int p0), .val (.int p1), .val (.int p2), .val (.int p3), .val (.int (1 : Int32)), .val (.int (32 : Int32)), .val (.int (p1 &&& (65535 : Int32))), .val (.int (p2 &&& (65535 : Int32))), .unset, .unset] [])) (fun _ k => XS.istore W0.here hx rfl (hb hby at_35) rfl (l' := #[.val (.int p0), .val (.int p1), .val (.int p2), .val (.int p3), .val (.int (1 : Int32)), .val (.int (32 : Int32)), .val (.int (p1 &&& (65535 : Int32))), .val (.int (p2 &&& (65535 : Int32))), .unset, .unset]) rfl k) ?_
      refine Go.st (g' := (mkF m 39 #[.val (.int p0), .val (.int p1), .val (.int p2), .val (.int p3), .val (.int (1 : Int32)), .val (.int (32 : Int32)), .val (.int (p1 &&& (65535 : Int32))), .val (.int (p2 &&& (65535 : Int32))), .unset, .unset] [(.int (1 : Int32))])) (fun _ k => XS.iload W0.here hx rfl (hb hby at_37) rfl  k) ?_
      refine Go.st (g' := (mkF m 41 #[.val (.int p0), .val (.int p1), .val (.int p2), .val (.int p3), .val (.int (1 : Int32)), .val (.int (32 : Int32)), .val (.int (p1 &&& (65535 : Int32))), .val (.int (p2 &&& (65535 : Int32))), .unset, .unset] [(.int (32 : Int32)), (.int (1 : Int32))])) (fun _ k => XS.iload W0.here hx rfl (hb hby at_39) rfl  k) ?_
      refine Go.st (g' := (mkF m 43 #[.val (.int p0), .val (.int p1), .val (.int p2), .val (.int p3), .val (.int (1 : Int32)), .val (.int (32 : Int32)), .val (.int (p1 &&& (65535 : Int32))), .val (.int (p2 &&& (65535 : Int32))), .unset, .unset] [(.int (p1 &&& (65535 : Int32))), (.int (32 : Int32)), (.int (1 : Int32))])) (fun _ k => XS.iload W0.here hx rfl (hb hby at_41) rfl  k) ?_
      refine Go.st (g' := (mkF m 45 #[.val (.int p0), .val (.int p1), .val (.int p2), .val (.int p3), .val (.int (1 : Int32)), .val (.int (32 : Int32)), .val (.int (p1 &&& (65535 : Int32))), .val (.int (p2 &&& (65535 : Int32))), .unset, .unset] [(.int (p2 &&& (65535 : Int32))), (.int (p1 &&& (65535 : Int32))), (.int (32 : Int32)), (.int (1 : Int32))])) (fun _ k => XS.iload W0.here hx rfl (hb hby at_43) rfl  k) ?_
      by_cases hc16 : (255 : Int32) < (32 : Int32)
      · obtain ⟨_, vm17, T17, h17, W17, Q17, z17, SF17, st17⟩ := W0.callS hx hEL (own_makeW1 l hE W0.old (c1 := (32 : Int32)) (c2 := (p1 &&& (65535 : Int32))) (c3 := (p2 &&& (65535 : Int32))) own_chr32 (own_chr _) (own_chr _) hc16 ) (hw _ (List.mem_of_getElem? (i := 1) rfl)) (hw _ (List.mem_of_getElem? (i := 2) rfl)) (hw _ (List.mem_of_getElem? (i := 3) rfl)) (hw _ (List.mem_of_getElem? (i := 4) rfl)) (by decide) (Wd := 0) (by decide) (by decide) (by decide) (by decide) (g := (mkF m 45 #[.val (.int p0), .val (.int p1), .val (.int p2), .val (.int p3), .val (.int (1 : Int32)), .val (.int (32 : Int32)), .val (.int (p1 &&& (65535 : Int32))), .val (.int (p2 &&& (65535 : Int32))), .unset, .unset] [(.int (p2 &&& (65535 : Int32))), (.int (p1 &&& (65535 : Int32))), (.int (32 : Int32)), (.int (1 : Int32))])) rfl (by rw [hml]; rfl) (argsL := [(.int (1 : Int32)), (.int (32 : Int32)), (.int (p1 &&& (65535 : Int32))), (.int (p2 &&& (65535 : Int32)))]) (rest := []) rfl (lenOf pd__ICCC_Ljava_lang_String_ rfl) rfl (by show 2 * 0 + _ ≤ _; exact Nat.le_of_eq rfl) (hb hby at_45)
        obtain ⟨x_17, t_17, kt_17, rfl, p17_0, f17_0, f17_1, f17_2, f17_3, K17⟩ := Q17
        have yf17_0 : h17.size > x_17 := f17_0.lt
        have yf17_3 : h17.size > t_17 := f17_3.lt
        refine Go.tr (g' := (mkF m 48 #[.val (.int p0), .val (.int p1), .val (.int p2), .val (.int p3), .val (.int (1 : Int32)), .val (.int (32 : Int32)), .val (.int (p1 &&& (65535 : Int32))), .val (.int (p2 &&& (65535 : Int32))), .unset, .unset] [(.ref x_17)])) st17 ?_
        refine Go.st (g' := (mkF m 50 #[.val (.int p0), .val (.int p1), .val (.int p2), .val (.int p3), .val (.int (1 : Int32)), .val (.int (32 : Int32)), .val (.int (p1 &&& (65535 : Int32))), .val (.int (p2 &&& (65535 : Int32))), .val (.ref x_17), .unset] [])) (fun _ k => XS.astore W17.here hx rfl (hb hby at_48) rfl rfl (l' := #[.val (.int p0), .val (.int p1), .val (.int p2), .val (.int p3), .val (.int (1 : Int32)), .val (.int (32 : Int32)), .val (.int (p1 &&& (65535 : Int32))), .val (.int (p2 &&& (65535 : Int32))), .val (.ref x_17), .unset]) rfl k) ?_
        refine Go.st (g' := (mkF m 52 #[.val (.int p0), .val (.int p1), .val (.int p2), .val (.int p3), .val (.int (1 : Int32)), .val (.int (32 : Int32)), .val (.int (p1 &&& (65535 : Int32))), .val (.int (p2 &&& (65535 : Int32))), .val (.ref x_17), .unset] [(.int (1 : Int32))])) (fun _ k => XS.iload W17.here hx rfl (hb hby at_50) rfl  k) ?_
        refine Go.st (g' := (mkF m 55 #[.val (.int p0), .val (.int p1), .val (.int p2), .val (.int p3), .val (.int (1 : Int32)), .val (.int (32 : Int32)), .val (.int (p1 &&& (65535 : Int32))), .val (.int (p2 &&& (65535 : Int32))), .val (.ref x_17), .unset] [])) (fun _ k => XS.ifNo W17.here hx rfl (hb hby at_52) rfl ((if0 _ _).trans (tlt (by decide)).2.2.2) k) ?_
        refine Go.st (g' := (mkF m 57 #[.val (.int p0), .val (.int p1), .val (.int p2), .val (.int p3), .val (.int (1 : Int32)), .val (.int (32 : Int32)), .val (.int (p1 &&& (65535 : Int32))), .val (.int (p2 &&& (65535 : Int32))), .val (.ref x_17), .unset] [(.int (32 : Int32))])) (fun _ k => XS.iload W17.here hx rfl (hb hby at_55) rfl  k) ?_
        refine Go.st (g' := (mkF m 59 #[.val (.int p0), .val (.int p1), .val (.int p2), .val (.int p3), .val (.int (1 : Int32)), .val (.int (32 : Int32)), .val (.int (p1 &&& (65535 : Int32))), .val (.int (p2 &&& (65535 : Int32))), .val (.ref x_17), .unset] [(.int (32 : Int32)), (.int (32 : Int32))])) (fun _ k => XS.bipush W17.here hx rfl (hb hby at_57) k) ?_
        refine Go.st (g' := (mkF m 62 #[.val (.int p0), .val (.int p1), .val (.int p2), .val (.int p3), .val (.int (1 : Int32)), .val (.int (32 : Int32)), .val (.int (p1 &&& (65535 : Int32))), .val (.int (p2 &&& (65535 : Int32))), .val (.ref x_17), .unset] [])) (fun _ k => XS.icmpNo W17.here hx rfl (hb hby at_59) rfl (teq (by decide)).2 k) ?_
        refine Go.st (g' := (mkF m 63 #[.val (.int p0), .val (.int p1), .val (.int p2), .val (.int p3), .val (.int (1 : Int32)), .val (.int (32 : Int32)), .val (.int (p1 &&& (65535 : Int32))), .val (.int (p2 &&& (65535 : Int32))), .val (.ref x_17), .unset] [(.int (1 : Int32))])) (fun _ k => XS.iconst W17.here hx rfl (hb hby at_62) k) ?_
        refine Go.st (g' := (mkF m 67 #[.val (.int p0), .val (.int p1), .val (.int p2), .val (.int p3), .val (.int (1 : Int32)), .val (.int (32 : Int32)), .val (.int (p1 &&& (65535 : Int32))), .val (.int (p2 &&& (65535 : Int32))), .val (.ref x_17), .unset] [(.int (1 : Int32))])) (fun _ k => XS.goto W17.here hx rfl (pc0 := 63) (pc' := 67) rfl (hb hby at_63) (by decide) (by decide) k) ?_
        refine Go.st (g' := (mkF m 69 #[.val (.int p0), .val (.int p1), .val (.int p2), .val (.int p3), .val (.int (1 : Int32)), .val (.int (32 : Int32)), .val (.int (p1 &&& (65535 : Int32))), .val (.int (p2 &&& (65535 : Int32))), .val (.ref x_17), .val (.int (1 : Int32))] [])) (fun _ k => XS.istore W17.here hx rfl (hb hby at_67) rfl (l' := #[.val (.int p0), .val (.int p1), .val (.int p2), .val (.int p3), .val (.int (1 : Int32)), .val (.int (32 : Int32)), .val (.int (p1 &&& (65535 : Int32))), .val (.int (p2 &&& (65535 : Int32))), .val (.ref x_17), .val (.int (1 : Int32))]) rfl k) ?_
        refine Go.st (g' := (mkF m 71 #[.val (.int p0), .val (.int p1), .val (.int p2), .val (.int p3), .val (.int (1 : Int32)), .val (.int (32 : Int32)), .val (.int (p1 &&& (65535 : Int32))), .val (.int (p2 &&& (65535 : Int32))), .val (.ref x_17), .val (.int (1 : Int32))] [(.ref x_17)])) (fun _ k => XS.aload W17.here hx rfl (hb hby at_69) rfl rfl  k) ?_
        obtain ⟨_, vm18, T18, h18, W18, Q18, z18, SF18, st18⟩ := W17.callS hx hEL (own_deW1 l hE W17.old (x0 := x_17) (t0 := t_17) (kt := kt_17) (c1 := (32 : Int32)) own_chr32 f17_0 f17_1 f17_2 f17_3) (hw _ (List.mem_of_getElem? (i := 31) rfl)) (hw _ (List.mem_of_getElem? (i := 32) rfl)) (hw _ (List.mem_of_getElem? (i := 33) rfl)) (hw _ (List.mem_of_getElem? (i := 34) rfl)) (by decide) (Wd := 0) (by decide) (by decide) (by decide) (by decide) (g := (mkF m 71 #[.val (.int p0), .val (.int p1), .val (.int p2), .val (.int p3), .val (.int (1 : Int32)), .val (.int (32 : Int32)), .val (.int (p1 &&& (65535 : Int32))), .val (.int (p2 &&& (65535 : Int32))), .val (.ref x_17), .val (.int (1 : Int32))] [(.ref x_17)])) rfl (by rw [hml]; rfl) (argsL := [(.ref x_17)]) (rest := []) rfl (lenOf pd__Ljava_lang_String__Z rfl) rfl (by show 2 * 0 + _ ≤ _; exact Nat.le_of_eq rfl) (hb hby at_71)
        obtain ⟨rfl, eh18⟩ := Q18
        subst eh18
        refine Go.tr (g' := (mkF m 74 #[.val (.int p0), .val (.int p1), .val (.int p2), .val (.int p3), .val (.int (1 : Int32)), .val (.int (32 : Int32)), .val (.int (p1 &&& (65535 : Int32))), .val (.int (p2 &&& (65535 : Int32))), .val (.ref x_17), .val (.int (1 : Int32))] [(.int (own_de (32 : Int32)))])) st18 ?_
        refine Go.st (g' := (mkF m 76 #[.val (.int p0), .val (.int p1), .val (.int p2), .val (.int p3), .val (.int (1 : Int32)), .val (.int (32 : Int32)), .val (.int (p1 &&& (65535 : Int32))), .val (.int (p2 &&& (65535 : Int32))), .val (.ref x_17), .val (.int (1 : Int32))] [(.int (1 : Int32)), (.int (own_de (32 : Int32)))])) (fun _ k => XS.iload W18.here hx rfl (hb hby at_74) rfl  k) ?_
        refine Go.st (g' := (mkF m 79 #[.val (.int p0), .val (.int p1), .val (.int p2), .val (.int p3), .val (.int (1 : Int32)), .val (.int (32 : Int32)), .val (.int (p1 &&& (65535 : Int32))), .val (.int (p2 &&& (65535 : Int32))), .val (.ref x_17), .val (.int (1 : Int32))] [])) (fun _ k => XS.icmpNo W18.here hx rfl (hb hby at_76) rfl (teq (by unfold own_de; decide)).2 k) ?_
        refine Go.st (g' := (mkF m 80 #[.val (.int p0), .val (.int p1), .val (.int p2), .val (.int p3), .val (.int (1 : Int32)), .val (.int (32 : Int32)), .val (.int (p1 &&& (65535 : Int32))), .val (.int (p2 &&& (65535 : Int32))), .val (.ref x_17), .val (.int (1 : Int32))] [(.int (1 : Int32))])) (fun _ k => XS.iconst W18.here hx rfl (hb hby at_79) k) ?_
        refine Go.st (g' := (mkF m 84 #[.val (.int p0), .val (.int p1), .val (.int p2), .val (.int p3), .val (.int (1 : Int32)), .val (.int (32 : Int32)), .val (.int (p1 &&& (65535 : Int32))), .val (.int (p2 &&& (65535 : Int32))), .val (.ref x_17), .val (.int (1 : Int32))] [(.int (1 : Int32))])) (fun _ k => XS.goto W18.here hx rfl (pc0 := 80) (pc' := 84) rfl (hb hby at_80) (by decide) (by decide) k) ?_
        exact W18.retN hx hEL hlk (t := .boolean) hret (by decide) (hb hby at_84) (by decide) (by decide) rfl
      · obtain ⟨_, vm19, T19, h19, W19, Q19, z19, SF19, st19⟩ := W0.callS hx hEL (own_makeL1 l hE W0.old (c1 := (32 : Int32)) (c2 := (p1 &&& (65535 : Int32))) (c3 := (p2 &&& (65535 : Int32))) own_chr32 (own_chr _) (own_chr _) ⟨own_chr32.1, fun z => hc16 (z)⟩ ) (hw _ (List.mem_of_getElem? (i := 1) rfl)) (hw _ (List.mem_of_getElem? (i := 2) rfl)) (hw _ (List.mem_of_getElem? (i := 3) rfl)) (hw _ (List.mem_of_getElem? (i := 4) rfl)) (by decide) (Wd := 0) (by decide) (by decide) (by decide) (by decide) (g := (mkF m 45 #[.val (.int p0), .val (.int p1), .val (.int p2), .val (.int p3), .val (.int (1 : Int32)), .val (.int (32 : Int32)), .val (.int (p1 &&& (65535 : Int32))), .val (.int (p2 &&& (65535 : Int32))), .unset, .unset] [(.int (p2 &&& (65535 : Int32))), (.int (p1 &&& (65535 : Int32))), (.int (32 : Int32)), (.int (1 : Int32))])) rfl (by rw [hml]; rfl) (argsL := [(.int (1 : Int32)), (.int (32 : Int32)), (.int (p1 &&& (65535 : Int32))), (.int (p2 &&& (65535 : Int32)))]) (rest := []) rfl (lenOf pd__ICCC_Ljava_lang_String_ rfl) rfl (by show 2 * 0 + _ ≤ _; exact Nat.le_of_eq rfl) (hb hby at_45)
        obtain ⟨x_19, t_19, rfl, p19_0, f19_0, K19⟩ := Q19
        have yf19_0 : h19.size > x_19 ∧ h19.size > t_19 := f19_0.lt
        refine Go.tr (g' := (mkF m 48 #[.val (.int p0), .val (.int p1), .val (.int p2), .val (.int p3), .val (.int (1 : Int32)), .val (.int (32 : Int32)), .val (.int (p1 &&& (65535 : Int32))), .val (.int (p2 &&& (65535 : Int32))), .unset, .unset] [(.ref x_19)])) st19 ?_
        refine Go.st (g' := (mkF m 50 #[.val (.int p0), .val (.int p1), .val (.int p2), .val (.int p3), .val (.int (1 : Int32)), .val (.int (32 : Int32)), .val (.int (p1 &&& (65535 : Int32))), .val (.int (p2 &&& (65535 : Int32))), .val (.ref x_19), .unset] [])) (fun _ k => XS.astore W19.here hx rfl (hb hby at_48) rfl rfl (l' := #[.val (.int p0), .val (.int p1), .val (.int p2), .val (.int p3), .val (.int (1 : Int32)), .val (.int (32 : Int32)), .val (.int (p1 &&& (65535 : Int32))), .val (.int (p2 &&& (65535 : Int32))), .val (.ref x_19), .unset]) rfl k) ?_
        refine Go.st (g' := (mkF m 52 #[.val (.int p0), .val (.int p1), .val (.int p2), .val (.int p3), .val (.int (1 : Int32)), .val (.int (32 : Int32)), .val (.int (p1 &&& (65535 : Int32))), .val (.int (p2 &&& (65535 : Int32))), .val (.ref x_19), .unset] [(.int (1 : Int32))])) (fun _ k => XS.iload W19.here hx rfl (hb hby at_50) rfl  k) ?_
        refine Go.st (g' := (mkF m 55 #[.val (.int p0), .val (.int p1), .val (.int p2), .val (.int p3), .val (.int (1 : Int32)), .val (.int (32 : Int32)), .val (.int (p1 &&& (65535 : Int32))), .val (.int (p2 &&& (65535 : Int32))), .val (.ref x_19), .unset] [])) (fun _ k => XS.ifNo W19.here hx rfl (hb hby at_52) rfl ((if0 _ _).trans (tlt (by decide)).2.2.2) k) ?_
        refine Go.st (g' := (mkF m 57 #[.val (.int p0), .val (.int p1), .val (.int p2), .val (.int p3), .val (.int (1 : Int32)), .val (.int (32 : Int32)), .val (.int (p1 &&& (65535 : Int32))), .val (.int (p2 &&& (65535 : Int32))), .val (.ref x_19), .unset] [(.int (32 : Int32))])) (fun _ k => XS.iload W19.here hx rfl (hb hby at_55) rfl  k) ?_
        refine Go.st (g' := (mkF m 59 #[.val (.int p0), .val (.int p1), .val (.int p2), .val (.int p3), .val (.int (1 : Int32)), .val (.int (32 : Int32)), .val (.int (p1 &&& (65535 : Int32))), .val (.int (p2 &&& (65535 : Int32))), .val (.ref x_19), .unset] [(.int (32 : Int32)), (.int (32 : Int32))])) (fun _ k => XS.bipush W19.here hx rfl (hb hby at_57) k) ?_
        refine Go.st (g' := (mkF m 62 #[.val (.int p0), .val (.int p1), .val (.int p2), .val (.int p3), .val (.int (1 : Int32)), .val (.int (32 : Int32)), .val (.int (p1 &&& (65535 : Int32))), .val (.int (p2 &&& (65535 : Int32))), .val (.ref x_19), .unset] [])) (fun _ k => XS.icmpNo W19.here hx rfl (hb hby at_59) rfl (teq (by decide)).2 k) ?_
        refine Go.st (g' := (mkF m 63 #[.val (.int p0), .val (.int p1), .val (.int p2), .val (.int p3), .val (.int (1 : Int32)), .val (.int (32 : Int32)), .val (.int (p1 &&& (65535 : Int32))), .val (.int (p2 &&& (65535 : Int32))), .val (.ref x_19), .unset] [(.int (1 : Int32))])) (fun _ k => XS.iconst W19.here hx rfl (hb hby at_62) k) ?_
        refine Go.st (g' := (mkF m 67 #[.val (.int p0), .val (.int p1), .val (.int p2), .val (.int p3), .val (.int (1 : Int32)), .val (.int (32 : Int32)), .val (.int (p1 &&& (65535 : Int32))), .val (.int (p2 &&& (65535 : Int32))), .val (.ref x_19), .unset] [(.int (1 : Int32))])) (fun _ k => XS.goto W19.here hx rfl (pc0 := 63) (pc' := 67) rfl (hb hby at_63) (by decide) (by decide) k) ?_
        refine Go.st (g' := (mkF m 69 #[.val (.int p0), .val (.int p1), .val (.int p2), .val (.int p3), .val (.int (1 : Int32)), .val (.int (32 : Int32)), .val (.int (p1 &&& (65535 : Int32))), .val (.int (p2 &&& (65535 : Int32))), .val (.ref x_19), .val (.int (1 : Int32))] [])) (fun _ k => XS.istore W19.here hx rfl (hb hby at_67) rfl (l' := #[.val (.int p0), .val (.int p1), .val (.int p2), .val (.int p3), .val (.int (1 : Int32)), .val (.int (32 : Int32)), .val (.int (p1 &&& (65535 : Int32))), .val (.int (p2 &&& (65535 : Int32))), .val (.ref x_19), .val (.int (1 : Int32))]) rfl k) ?_
        refine Go.st (g' := (mkF m 71 #[.val (.int p0), .val (.int p1), .val (.int p2), .val (.int p3), .val (.int (1 : Int32)), .val (.int (32 : Int32)), .val (.int (p1 &&& (65535 : Int32))), .val (.int (p2 &&& (65535 : Int32))), .val (.ref x_19), .val (.int (1 : Int32))] [(.ref x_19)])) (fun _ k => XS.aload W19.here hx rfl (hb hby at_69) rfl rfl  k) ?_
        obtain ⟨_, vm20, T20, h20, W20, Q20, z20, SF20, st20⟩ := W19.callS hx hEL (own_deL1 l hE W19.old (x0 := x_19) (t0 := t_19) (c1 := (32 : Int32)) ⟨own_chr32.1, fun z => hc16 (z)⟩ f19_0.1 f19_0) (hw _ (List.mem_of_getElem? (i := 31) rfl)) (hw _ (List.mem_of_getElem? (i := 32) rfl)) (hw _ (List.mem_of_getElem? (i := 33) rfl)) (hw _ (List.mem_of_getElem? (i := 34) rfl)) (by decide) (Wd := 0) (by decide) (by decide) (by decide) (by decide) (g := (mkF m 71 #[.val (.int p0), .val (.int p1), .val (.int p2), .val (.int p3), .val (.int (1 : Int32)), .val (.int (32 : Int32)), .val (.int (p1 &&& (65535 : Int32))), .val (.int (p2 &&& (65535 : Int32))), .val (.ref x_19), .val (.int (1 : Int32))] [(.ref x_19)])) rfl (by rw [hml]; rfl) (argsL := [(.ref x_19)]) (rest := []) rfl (lenOf pd__Ljava_lang_String__Z rfl) rfl (by show 2 * 0 + _ ≤ _; exact Nat.le_of_eq rfl) (hb hby at_71)
        obtain ⟨rfl, eh20⟩ := Q20
        subst eh20
        refine Go.tr (g' := (mkF m 74 #[.val (.int p0), .val (.int p1), .val (.int p2), .val (.int p3), .val (.int (1 : Int32)), .val (.int (32 : Int32)), .val (.int (p1 &&& (65535 : Int32))), .val (.int (p2 &&& (65535 : Int32))), .val (.ref x_19), .val (.int (1 : Int32))] [(.int (own_de (32 : Int32)))])) st20 ?_
        refine Go.st (g' := (mkF m 76 #[.val (.int p0), .val (.int p1), .val (.int p2), .val (.int p3), .val (.int (1 : Int32)), .val (.int (32 : Int32)), .val (.int (p1 &&& (65535 : Int32))), .val (.int (p2 &&& (65535 : Int32))), .val (.ref x_19), .val (.int (1 : Int32))] [(.int (1 : Int32)), (.int (own_de (32 : Int32)))])) (fun _ k => XS.iload W20.here hx rfl (hb hby at_74) rfl  k) ?_
        refine Go.st (g' := (mkF m 79 #[.val (.int p0), .val (.int p1), .val (.int p2), .val (.int p3), .val (.int (1 : Int32)), .val (.int (32 : Int32)), .val (.int (p1 &&& (65535 : Int32))), .val (.int (p2 &&& (65535 : Int32))), .val (.ref x_19), .val (.int (1 : Int32))] [])) (fun _ k => XS.icmpNo W20.here hx rfl (hb hby at_76) rfl (teq (by unfold own_de; decide)).2 k) ?_
        refine Go.st (g' := (mkF m 80 #[.val (.int p0), .val (.int p1), .val (.int p2), .val (.int p3), .val (.int (1 : Int32)), .val (.int (32 : Int32)), .val (.int (p1 &&& (65535 : Int32))), .val (.int (p2 &&& (65535 : Int32))), .val (.ref x_19), .val (.int (1 : Int32))] [(.int (1 : Int32))])) (fun _ k => XS.iconst W20.here hx rfl (hb hby at_79) k) ?_
        refine Go.st (g' := (mkF m 84 #[.val (.int p0), .val (.int p1), .val (.int p2), .val (.int p3), .val (.int (1 : Int32)), .val (.int (32 : Int32)), .val (.int (p1 &&& (65535 : Int32))), .val (.int (p2 &&& (65535 : Int32))), .val (.ref x_19), .val (.int (1 : Int32))] [(.int (1 : Int32))])) (fun _ k => XS.goto W20.here hx rfl (pc0 := 80) (pc' := 84) rfl (hb hby at_80) (by decide) (by decide) k) ?_
        exact W20.retN hx hEL hlk (t := .boolean) hret (by decide) (hb hby at_84) (by decide) (by decide) rfl
  · rw [q]
    refine Go.st (g' := (mkF m 6 #[.val (.int p0), .val (.int p1), .val (.int p2), .val (.int p3), .val (.int (2 : Int32)), .unset, .unset, .unset, .unset, .unset] [(.int p3)])) (fun _ k => XS.iloadN W0.here hx rfl (hb hby at_5) rfl  k) ?_
    refine Go.st (g' := (mkF m 7 #[.val (.int p0), .val (.int p1), .val (.int p2), .val (.int p3), .val (.int (2 : Int32)), .unset, .unset, .unset, .unset, .unset] [(.int (4 : Int32)), (.int p3)])) (fun _ k => XS.iconst W0.here hx rfl (hb hby at_6) k) ?_
    refine Go.st (g' := (mkF m 8 #[.val (.int p0), .val (.int p1), .val (.int p2), .val (.int p3), .val (.int (2 : Int32)), .unset, .unset, .unset, .unset, .unset] [(.int (p3 &&& (4 : Int32)))])) (fun _ k => XS.iand W0.here hx rfl (hb hby at_7) rfl k) ?_
    by_cases hc21 : (p3 &&& (4 : Int32)) = (0 : Int32)
    · refine Go.st (g' := (mkF m 16 #[.val (.int p0), .val (.int p1), .val (.int p2), .val (.int p3), .val (.int (2 : Int32)), .unset, .unset, .unset, .unset, .unset] [])) (fun _ k => XS.ifYes W0.here hx rfl (pc0 := 8) (pc' := 16) rfl (hb hby at_8) rfl ((if0 _ _).trans (teq hc21).1) (by decide) (by decide) k) ?_
      refine Go.st (g' := (mkF m 17 #[.val (.int p0), .val (.int p1), .val (.int p2), .val (.int p3), .val (.int (2 : Int32)), .unset, .unset, .unset, .unset, .unset] [(.int p0)])) (fun _ k => XS.iloadN W0.here hx rfl (hb hby at_16) rfl  k) ?_
      refine Go.st (g' := (mkF m 19 #[.val (.int p0), .val (.int p1), .val (.int p2), .val (.int p3), .val (.int (2 : Int32)), .unset, .unset, .unset, .unset, .unset] [(.int (65535 : Int32)), (.int p0)])) (W0.ldcI hx (hw _ (List.mem_of_getElem? (i := 0) rfl)) (g := (mkF m 17 #[.val (.int p0), .val (.int p1), .val (.int p2), .val (.int p3), .val (.int (2 : Int32)), .unset, .unset, .unset, .unset, .unset] [(.int p0)])) rfl (hb hby at_17)) ?_
      refine Go.st (g' := (mkF m 20 #[.val (.int p0), .val (.int p1), .val (.int p2), .val (.int p3), .val (.int (2 : Int32)), .unset, .unset, .unset, .unset, .unset] [(.int (p0 &&& (65535 : Int32)))])) (fun _ k => XS.iand W0.here hx rfl (hb hby at_19) rfl k) ?_
      refine Go.st (g' := (mkF m 21 #[.val (.int p0), .val (.int p1), .val (.int p2), .val (.int p3), .val (.int (2 : Int32)), .unset, .unset, .unset, .unset, .unset] [(.int ((p0 &&& (65535 : Int32)).toUInt32.toUInt16.toUInt32.toInt32))])) (fun _ k => XS.i2c W0.here hx rfl (hb hby at_20) rfl k) ?_
      rw [own_i2c16]
      refine Go.st (g' := (mkF m 23 #[.val (.int p0), .val (.int p1), .val (.int p2), .val (.int p3), .val (.int (2 : Int32)), .val (.int (p0 &&& (65535 : Int32))), .unset, .unset, .unset, .unset] [])) (fun _ k => XS.istore W0.here hx rfl (hb hby at_21) rfl (l' := #[.val (.int p0), .val (.int p1), .val (.int p2), .val (.int p3), .val (.int (2 : Int32)), .val (.int (p0 &&& (65535 : Int32))), .unset, .unset, .unset, .unset]) rfl k) ?_
      refine Go.st (g' := (mkF m 24 #[.val (.int p0), .val (.int p1), .val (.int p2), .val (.int p3), .val (.int (2 : Int32)), .val (.int (p0 &&& (65535 : Int32))), .unset, .unset, .unset, .unset] [(.int p1)])) (fun _ k => XS.iloadN W0.here hx rfl (hb hby at_23) rfl  k) ?_
      refine Go.st (g' := (mkF m 26 #[.val (.int p0), .val (.int p1), .val (.int p2), .val (.int p3), .val (.int (2 : Int32)), .val (.int (p0 &&& (65535 : Int32))), .unset, .unset, .unset, .unset] [(.int (65535 : Int32)), (.int p1)])) (W0.ldcI hx (hw _ (List.mem_of_getElem? (i := 0) rfl)) (g := (mkF m 24 #[.val (.int p0), .val (.int p1), .val (.int p2), .val (.int p3), .val (.int (2 : Int32)), .val (.int (p0 &&& (65535 : Int32))), .unset, .unset, .unset, .unset] [(.int p1)])) rfl (hb hby at_24)) ?_
      refine Go.st (g' := (mkF m 27 #[.val (.int p0), .val (.int p1), .val (.int p2), .val (.int p3), .val (.int (2 : Int32)), .val (.int (p0 &&& (65535 : Int32))), .unset, .unset, .unset, .unset] [(.int (p1 &&& (65535 : Int32)))])) (fun _ k => XS.iand W0.here hx rfl (hb hby at_26) rfl k) ?_
      refine Go.st (g' := (mkF m 28 #[.val (.int p0), .val (.int p1), .val (.int p2), .val (.int p3), .val (.int (2 : Int32)), .val (.int (p0 &&& (65535 : Int32))), .unset, .unset, .unset, .unset] [(.int ((p1 &&& (65535 : Int32)).toUInt32.toUInt16.toUInt32.toInt32))])) (fun _ k => XS.i2c W0.here hx rfl (hb hby at_27) rfl k) ?_
      rw [own_i2c16]
      refine Go.st (g' := (mkF m 30 #[.val (.int p0), .val (.int p1), .val (.int p2), .val (.int p3), .val (.int (2 : Int32)), .val (.int (p0 &&& (65535 : Int32))), .val (.int (p1 &&& (65535 : Int32))), .unset, .unset, .unset] [])) (fun _ k => XS.istore W0.here hx rfl (hb hby at_28) rfl (l' := #[.val (.int p0), .val (.int p1), .val (.int p2), .val (.int p3), .val (.int (2 : Int32)), .val (.int (p0 &&& (65535 : Int32))), .val (.int (p1 &&& (65535 : Int32))), .unset, .unset, .unset]) rfl k) ?_
      refine Go.st (g' := (mkF m 31 #[.val (.int p0), .val (.int p1), .val (.int p2), .val (.int p3), .val (.int (2 : Int32)), .val (.int (p0 &&& (65535 : Int32))), .val (.int (p1 &&& (65535 : Int32))), .unset, .unset, .unset] [(.int p2)])) (fun _ k => XS.iloadN W0.here hx rfl (hb hby at_30) rfl  k) ?_
      refine Go.st (g' := (mkF m 33 #[.val (.int p0), .val (.int p1), .val (.int p2), .val (.int p3), .val (.int (2 : Int32)), .val (.int (p0 &&& (65535 : Int32))), .val (.int (p1 &&& (65535 : Int32))), .unset, .unset, .unset] [(.int (65535 : Int32)), (.int p2)])) (W0.ldcI hx (hw _ (List.mem_of_getElem? (i := 0) rfl)) (g := (mkF m 31 #[.val (.int p0), .val (.int p1), .val (.int p2), .val (.int p3), .val (.int (2 : Int32)), .val (.int (p0 &&& (65535 : Int32))), .val (.int (p1 &&& (65535 : Int32))), .unset, .unset, .unset] [(.int p2)])) rfl (hb hby at_31)) ?_
      refine Go.st (g' := (mkF m 34 #[.val (.int p0), .val (.int p1), .val (.int p2), .val (.int p3), .val (.int (2 : Int32)), .val (.int (p0 &&& (65535 : Int32))), .val (.int (p1 &&& (65535 : Int32))), .unset, .unset, .unset] [(.int (p2 &&& (65535 : Int32)))])) (fun _ k => XS.iand W0.here hx rfl (hb hby at_33) rfl k) ?_
      refine Go.st (g' := (mkF m 35 #[.val (.int p0), .val (.int p1), .val (.int p2), .val (.int p3), .val (.int (2 : Int32)), .val (.int (p0 &&& (65535 : Int32))), .val (.int (p1 &&& (65535 : Int32))), .unset, .unset, .unset] [(.int ((p2 &&& (65535 : Int32)).toUInt32.toUInt16.toUInt32.toInt32))])) (fun _ k => XS.i2c W0.here hx rfl (hb hby at_34) rfl k) ?_
      rw [own_i2c16]
      refine Go.st (g' := (mkF m 37 #[.val (.int p0), .val (.int p1), .val (.int p2), .val (.int p3), .val (.int (2 : Int32)), .val (.int (p0 &&& (65535 : Int32))), .val (.int (p1 &&& (65535 : Int32))), .val (.int (p2 &&& (65535 : Int32))), .unset, .unset] [])) (fun _ k => XS.istore W0.here hx rfl (hb hby at_35) rfl (l' := #[.val (.int p0), .val (.int p1), .val (.int p2), .val (.int p3), .val (.int (2 : Int32)), .val (.int (p0 &&& (65535 : Int32))), .val (.int (p1 &&& (65535 : Int32))), .val (.int (p2 &&& (65535 : Int32))), .unset, .unset]) rfl k) ?_
      refine Go.st (g' := (mkF m 39 #[.val (.int p0), .val (.int p1), .val (.int p2), .val (.int p3), .val (.int (2 : Int32)), .val (.int (p0 &&& (65535 : Int32))), .val (.int (p1 &&& (65535 : Int32))), .val (.int (p2 &&& (65535 : Int32))), .unset, .unset] [(.int (2 : Int32))])) (fun _ k => XS.iload W0.here hx rfl (hb hby at_37) rfl  k) ?_
      refine Go.st (g' := (mkF m 41 #[.val (.int p0), .val (.int p1), .val (.int p2), .val (.int p3), .val (.int (2 : Int32)), .val (.int (p0 &&& (65535 : Int32))), .val (.int (p1 &&& (65535 : Int32))), .val (.int (p2 &&& (65535 : Int32))), .unset, .unset] [(.int (p0 &&& (65535 : Int32))), (.int (2 : Int32))])) (fun _ k => XS.iload W0.here hx rfl (hb hby at_39) rfl  k) ?_
      refine Go.st (g' := (mkF m 43 #[.val (.int p0), .val (.int p1), .val (.int p2), .val (.int p3), .val (.int (2 : Int32)), .val (.int (p0 &&& (65535 : Int32))), .val (.int (p1 &&& (65535 : Int32))), .val (.int (p2 &&& (65535 : Int32))), .unset, .unset] [(.int (p1 &&& (65535 : Int32))), (.int (p0 &&& (65535 : Int32))), (.int (2 : Int32))])) (fun _ k => XS.iload W0.here hx rfl (hb hby at_41) rfl  k) ?_
      refine Go.st (g' := (mkF m 45 #[.val (.int p0), .val (.int p1), .val (.int p2), .val (.int p3), .val (.int (2 : Int32)), .val (.int (p0 &&& (65535 : Int32))), .val (.int (p1 &&& (65535 : Int32))), .val (.int (p2 &&& (65535 : Int32))), .unset, .unset] [(.int (p2 &&& (65535 : Int32))), (.int (p1 &&& (65535 : Int32))), (.int (p0 &&& (65535 : Int32))), (.int (2 : Int32))])) (fun _ k => XS.iload W0.here hx rfl (hb hby at_43) rfl  k) ?_
      by_cases hc22 : (255 : Int32) < (p0 &&& (65535 : Int32)) ∨ (255 : Int32) < (p1 &&& (65535 : Int32))
      · obtain ⟨_, vm23, T23, h23, W23, Q23, z23, SF23, st23⟩ := W0.callS hx hEL (own_makeW2 l hE W0.old (c1 := (p0 &&& (65535 : Int32))) (c2 := (p1 &&& (65535 : Int32))) (c3 := (p2 &&& (65535 : Int32))) (own_chr _) (own_chr _) (own_chr _) hc22 ) (hw _ (List.mem_of_getElem? (i := 1) rfl)) (hw _ (List.mem_of_getElem? (i := 2) rfl)) (hw _ (List.mem_of_getElem? (i := 3) rfl)) (hw _ (List.mem_of_getElem? (i := 4) rfl)) (by decide) (Wd := 0) (by decide) (by decide) (by decide) (by decide) (g := (mkF m 45 #[.val (.int p0), .val (.int p1), .val (.int p2), .val (.int p3), .val (.int (2 : Int32)), .val (.int (p0 &&& (65535 : Int32))), .val (.int (p1 &&& (65535 : Int32))), .val (.int (p2 &&& (65535 : Int32))), .unset, .unset] [(.int (p2 &&& (65535 : Int32))), (.int (p1 &&& (65535 : Int32))), (.int (p0 &&& (65535 : Int32))), (.int (2 : Int32))])) rfl (by rw [hml]; rfl) (argsL := [(.int (2 : Int32)), (.int (p0 &&& (65535 : Int32))), (.int (p1 &&& (65535 : Int32))), (.int (p2 &&& (65535 : Int32)))]) (rest := []) rfl (lenOf pd__ICCC_Ljava_lang_String_ rfl) rfl (by show 2 * 0 + _ ≤ _; exact Nat.le_of_eq rfl) (hb hby at_45)
        obtain ⟨x_23, t_23, kt_23, rfl, p23_0, f23_0, f23_1, f23_2, f23_3, K23⟩ := Q23
        have yf23_0 : h23.size > x_23 := f23_0.lt
        have yf23_3 : h23.size > t_23 := f23_3.lt
        refine Go.tr (g' := (mkF m 48 #[.val (.int p0), .val (.int p1), .val (.int p2), .val (.int p3), .val (.int (2 : Int32)), .val (.int (p0 &&& (65535 : Int32))), .val (.int (p1 &&& (65535 : Int32))), .val (.int (p2 &&& (65535 : Int32))), .unset, .unset] [(.ref x_23)])) st23 ?_
        refine Go.st (g' := (mkF m 50 #[.val (.int p0), .val (.int p1), .val (.int p2), .val (.int p3), .val (.int (2 : Int32)), .val (.int (p0 &&& (65535 : Int32))), .val (.int (p1 &&& (65535 : Int32))), .val (.int (p2 &&& (65535 : Int32))), .val (.ref x_23), .unset] [])) (fun _ k => XS.astore W23.here hx rfl (hb hby at_48) rfl rfl (l' := #[.val (.int p0), .val (.int p1), .val (.int p2), .val (.int p3), .val (.int (2 : Int32)), .val (.int (p0 &&& (65535 : Int32))), .val (.int (p1 &&& (65535 : Int32))), .val (.int (p2 &&& (65535 : Int32))), .val (.ref x_23), .unset]) rfl k) ?_
        refine Go.st (g' := (mkF m 52 #[.val (.int p0), .val (.int p1), .val (.int p2), .val (.int p3), .val (.int (2 : Int32)), .val (.int (p0 &&& (65535 : Int32))), .val (.int (p1 &&& (65535 : Int32))), .val (.int (p2 &&& (65535 : Int32))), .val (.ref x_23), .unset] [(.int (2 : Int32))])) (fun _ k => XS.iload W23.here hx rfl (hb hby at_50) rfl  k) ?_
        refine Go.st (g' := (mkF m 55 #[.val (.int p0), .val (.int p1), .val (.int p2), .val (.int p3), .val (.int (2 : Int32)), .val (.int (p0 &&& (65535 : Int32))), .val (.int (p1 &&& (65535 : Int32))), .val (.int (p2 &&& (65535 : Int32))), .val (.ref x_23), .unset] [])) (fun _ k => XS.ifNo W23.here hx rfl (hb hby at_52) rfl ((if0 _ _).trans (tlt (by decide)).2.2.2) k) ?_
        refine Go.st (g' := (mkF m 57 #[.val (.int p0), .val (.int p1), .val (.int p2), .val (.int p3), .val (.int (2 : Int32)), .val (.int (p0 &&& (65535 : Int32))), .val (.int (p1 &&& (65535 : Int32))), .val (.int (p2 &&& (65535 : Int32))), .val (.ref x_23), .unset] [(.int (p0 &&& (65535 : Int32)))])) (fun _ k => XS.iload W23.here hx rfl (hb hby at_55) rfl  k) ?_
        refine Go.st (g' := (mkF m 59 #[.val (.int p0), .val (.int p1), .val (.int p2), .val (.int p3), .val (.int (2 : Int32)), .val (.int (p0 &&& (65535 : Int32))), .val (.int (p1 &&& (65535 : Int32))), .val (.int (p2 &&& (65535 : Int32))), .val (.ref x_23), .unset] [(.int (32 : Int32)), (.int (p0 &&& (65535 : Int32)))])) (fun _ k => XS.bipush W23.here hx rfl (hb hby at_57) k) ?_
        by_cases hc24 : (p0 &&& (65535 : Int32)) = (32 : Int32)
        · refine Go.st (g' := (mkF m 62 #[.val (.int p0), .val (.int p1), .val (.int p2), .val (.int p3), .val (.int (2 : Int32)), .val (.int (p0 &&& (65535 : Int32))), .val (.int (p1 &&& (65535 : Int32))), .val (.int (p2 &&& (65535 : Int32))), .val (.ref x_23), .unset] [])) (fun _ k => XS.icmpNo W23.here hx rfl (hb hby at_59) rfl (teq hc24).2 k) ?_
          refine Go.st (g' := (mkF m 63 #[.val (.int p0), .val (.int p1), .val (.int p2), .val (.int p3), .val (.int (2 : Int32)), .val (.int (p0 &&& (65535 : Int32))), .val (.int (p1 &&& (65535 : Int32))), .val (.int (p2 &&& (65535 : Int32))), .val (.ref x_23), .unset] [(.int (1 : Int32))])) (fun _ k => XS.iconst W23.here hx rfl (hb hby at_62) k) ?_
          refine Go.st (g' := (mkF m 67 #[.val (.int p0), .val (.int p1), .val (.int p2), .val (.int p3), .val (.int (2 : Int32)), .val (.int (p0 &&& (65535 : Int32))), .val (.int (p1 &&& (65535 : Int32))), .val (.int (p2 &&& (65535 : Int32))), .val (.ref x_23), .unset] [(.int (1 : Int32))])) (fun _ k => XS.goto W23.here hx rfl (pc0 := 63) (pc' := 67) rfl (hb hby at_63) (by decide) (by decide) k) ?_
          refine Go.st (g' := (mkF m 69 #[.val (.int p0), .val (.int p1), .val (.int p2), .val (.int p3), .val (.int (2 : Int32)), .val (.int (p0 &&& (65535 : Int32))), .val (.int (p1 &&& (65535 : Int32))), .val (.int (p2 &&& (65535 : Int32))), .val (.ref x_23), .val (.int (1 : Int32))] [])) (fun _ k => XS.istore W23.here hx rfl (hb hby at_67) rfl (l' := #[.val (.int p0), .val (.int p1), .val (.int p2), .val (.int p3), .val (.int (2 : Int32)), .val (.int (p0 &&& (65535 : Int32))), .val (.int (p1 &&& (65535 : Int32))), .val (.int (p2 &&& (65535 : Int32))), .val (.ref x_23), .val (.int (1 : Int32))]) rfl k) ?_
          refine Go.st (g' := (mkF m 71 #[.val (.int p0), .val (.int p1), .val (.int p2), .val (.int p3), .val (.int (2 : Int32)), .val (.int (p0 &&& (65535 : Int32))), .val (.int (p1 &&& (65535 : Int32))), .val (.int (p2 &&& (65535 : Int32))), .val (.ref x_23), .val (.int (1 : Int32))] [(.ref x_23)])) (fun _ k => XS.aload W23.here hx rfl (hb hby at_69) rfl rfl  k) ?_
          obtain ⟨_, vm25, T25, h25, W25, Q25, z25, SF25, st25⟩ := W23.callS hx hEL (own_deW2 l hE W23.old (x0 := x_23) (t0 := t_23) (kt := kt_23) (c1 := (p0 &&& (65535 : Int32))) (c2 := (p1 &&& (65535 : Int32))) (own_chr _) f23_0 f23_1 f23_2 f23_3) (hw _ (List.mem_of_getElem? (i := 31) rfl)) (hw _ (List.mem_of_getElem? (i := 32) rfl)) (hw _ (List.mem_of_getElem? (i := 33) rfl)) (hw _ (List.mem_of_getElem? (i := 34) rfl)) (by decide) (Wd := 0) (by decide) (by decide) (by decide) (by decide) (g := (mkF m 71 #[.val (.int p0), .val (.int p1), .val (.int p2), .val (.int p3), .val (.int (2 : Int32)), .val (.int (p0 &&& (65535 : Int32))), .val (.int (p1 &&& (65535 : Int32))), .val (.int (p2 &&& (65535 : Int32))), .val (.ref x_23), .val (.int (1 : Int32))] [(.ref x_23)])) rfl (by rw [hml]; rfl) (argsL := [(.ref x_23)]) (rest := []) rfl (lenOf pd__Ljava_lang_String__Z rfl) rfl (by show 2 * 0 + _ ≤ _; exact Nat.le_of_eq rfl) (hb hby at_71)
          obtain ⟨rfl, eh25⟩ := Q25
          subst eh25
          refine Go.tr (g' := (mkF m 74 #[.val (.int p0), .val (.int p1), .val (.int p2), .val (.int p3), .val (.int (2 : Int32)), .val (.int (p0 &&& (65535 : Int32))), .val (.int (p1 &&& (65535 : Int32))), .val (.int (p2 &&& (65535 : Int32))), .val (.ref x_23), .val (.int (1 : Int32))] [(.int (own_de (p0 &&& (65535 : Int32))))])) st25 ?_
          refine Go.st (g' := (mkF m 76 #[.val (.int p0), .val (.int p1), .val (.int p2), .val (.int p3), .val (.int (2 : Int32)), .val (.int (p0 &&& (65535 : Int32))), .val (.int (p1 &&& (65535 : Int32))), .val (.int (p2 &&& (65535 : Int32))), .val (.ref x_23), .val (.int (1 : Int32))] [(.int (1 : Int32)), (.int (own_de (p0 &&& (65535 : Int32))))])) (fun _ k => XS.iload W25.here hx rfl (hb hby at_74) rfl  k) ?_
          refine Go.st (g' := (mkF m 79 #[.val (.int p0), .val (.int p1), .val (.int p2), .val (.int p3), .val (.int (2 : Int32)), .val (.int (p0 &&& (65535 : Int32))), .val (.int (p1 &&& (65535 : Int32))), .val (.int (p2 &&& (65535 : Int32))), .val (.ref x_23), .val (.int (1 : Int32))] [])) (fun _ k => XS.icmpNo W25.here hx rfl (hb hby at_76) rfl (teq (if_pos hc24)).2 k) ?_
          refine Go.st (g' := (mkF m 80 #[.val (.int p0), .val (.int p1), .val (.int p2), .val (.int p3), .val (.int (2 : Int32)), .val (.int (p0 &&& (65535 : Int32))), .val (.int (p1 &&& (65535 : Int32))), .val (.int (p2 &&& (65535 : Int32))), .val (.ref x_23), .val (.int (1 : Int32))] [(.int (1 : Int32))])) (fun _ k => XS.iconst W25.here hx rfl (hb hby at_79) k) ?_
          refine Go.st (g' := (mkF m 84 #[.val (.int p0), .val (.int p1), .val (.int p2), .val (.int p3), .val (.int (2 : Int32)), .val (.int (p0 &&& (65535 : Int32))), .val (.int (p1 &&& (65535 : Int32))), .val (.int (p2 &&& (65535 : Int32))), .val (.ref x_23), .val (.int (1 : Int32))] [(.int (1 : Int32))])) (fun _ k => XS.goto W25.here hx rfl (pc0 := 80) (pc' := 84) rfl (hb hby at_80) (by decide) (by decide) k) ?_
          exact W25.retN hx hEL hlk (t := .boolean) hret (by decide) (hb hby at_84) (by decide) (by decide) rfl
        · refine Go.st (g' := (mkF m 66 #[.val (.int p0), .val (.int p1), .val (.int p2), .val (.int p3), .val (.int (2 : Int32)), .val (.int (p0 &&& (65535 : Int32))), .val (.int (p1 &&& (65535 : Int32))), .val (.int (p2 &&& (65535 : Int32))), .val (.ref x_23), .unset] [])) (fun _ k => XS.icmpYes W23.here hx rfl (pc0 := 59) (pc' := 66) rfl (hb hby at_59) rfl (feq hc24).2 (by decide) (by decide) k) ?_
          refine Go.st (g' := (mkF m 67 #[.val (.int p0), .val (.int p1), .val (.int p2), .val (.int p3), .val (.int (2 : Int32)), .val (.int (p0 &&& (65535 : Int32))), .val (.int (p1 &&& (65535 : Int32))), .val (.int (p2 &&& (65535 : Int32))), .val (.ref x_23), .unset] [(.int (0 : Int32))])) (fun _ k => XS.iconst W23.here hx rfl (hb hby at_66) k) ?_
          refine Go.st (g' := (mkF m 69 #[.val (.int p0), .val (.int p1), .val (.int p2), .val (.int p3), .val (.int (2 : Int32)), .val (.int (p0 &&& (65535 : Int32))), .val (.int (p1 &&& (65535 : Int32))), .val (.int (p2 &&& (65535 : Int32))), .val (.ref x_23), .val (.int (0 : Int32))] [])) (fun _ k => XS.istore W23.here hx rfl (hb hby at_67) rfl (l' := #[.val (.int p0), .val (.int p1), .val (.int p2), .val (.int p3), .val (.int (2 : Int32)), .val (.int (p0 &&& (65535 : Int32))), .val (.int (p1 &&& (65535 : Int32))), .val (.int (p2 &&& (65535 : Int32))), .val (.ref x_23), .val (.int (0 : Int32))]) rfl k) ?_
          refine Go.st (g' := (mkF m 71 #[.val (.int p0), .val (.int p1), .val (.int p2), .val (.int p3), .val (.int (2 : Int32)), .val (.int (p0 &&& (65535 : Int32))), .val (.int (p1 &&& (65535 : Int32))), .val (.int (p2 &&& (65535 : Int32))), .val (.ref x_23), .val (.int (0 : Int32))] [(.ref x_23)])) (fun _ k => XS.aload W23.here hx rfl (hb hby at_69) rfl rfl  k) ?_
          obtain ⟨_, vm26, T26, h26, W26, Q26, z26, SF26, st26⟩ := W23.callS hx hEL (own_deW2 l hE W23.old (x0 := x_23) (t0 := t_23) (kt := kt_23) (c1 := (p0 &&& (65535 : Int32))) (c2 := (p1 &&& (65535 : Int32))) (own_chr _) f23_0 f23_1 f23_2 f23_3) (hw _ (List.mem_of_getElem? (i := 31) rfl)) (hw _ (List.mem_of_getElem? (i := 32) rfl)) (hw _ (List.mem_of_getElem? (i := 33) rfl)) (hw _ (List.mem_of_getElem? (i := 34) rfl)) (by decide) (Wd := 0) (by decide) (by decide) (by decide) (by decide) (g := (mkF m 71 #[.val (.int p0), .val (.int p1), .val (.int p2), .val (.int p3), .val (.int (2 : Int32)), .val (.int (p0 &&& (65535 : Int32))), .val (.int (p1 &&& (65535 : Int32))), .val (.int (p2 &&& (65535 : Int32))), .val (.ref x_23), .val (.int (0 : Int32))] [(.ref x_23)])) rfl (by rw [hml]; rfl) (argsL := [(.ref x_23)]) (rest := []) rfl (lenOf pd__Ljava_lang_String__Z rfl) rfl (by show 2 * 0 + _ ≤ _; exact Nat.le_of_eq rfl) (hb hby at_71)
          obtain ⟨rfl, eh26⟩ := Q26
          subst eh26
          refine Go.tr (g' := (mkF m 74 #[.val (.int p0), .val (.int p1), .val (.int p2), .val (.int p3), .val (.int (2 : Int32)), .val (.int (p0 &&& (65535 : Int32))), .val (.int (p1 &&& (65535 : Int32))), .val (.int (p2 &&& (65535 : Int32))), .val (.ref x_23), .val (.int (0 : Int32))] [(.int (own_de (p0 &&& (65535 : Int32))))])) st26 ?_
          refine Go.st (g' := (mkF m 76 #[.val (.int p0), .val (.int p1), .val (.int p2), .val (.int p3), .val (.int (2 : Int32)), .val (.int (p0 &&& (65535 : Int32))), .val (.int (p1 &&& (65535 : Int32))), .val (.int (p2 &&& (65535 : Int32))), .val (.ref x_23), .val (.int (0 : Int32))] [(.int (0 : Int32)), (.int (own_de (p0 &&& (65535 : Int32))))])) (fun _ k => XS.iload W26.here hx rfl (hb hby at_74) rfl  k) ?_
          refine Go.st (g' := (mkF m 79 #[.val (.int p0), .val (.int p1), .val (.int p2), .val (.int p3), .val (.int (2 : Int32)), .val (.int (p0 &&& (65535 : Int32))), .val (.int (p1 &&& (65535 : Int32))), .val (.int (p2 &&& (65535 : Int32))), .val (.ref x_23), .val (.int (0 : Int32))] [])) (fun _ k => XS.icmpNo W26.here hx rfl (hb hby at_76) rfl (teq (if_neg hc24)).2 k) ?_
          refine Go.st (g' := (mkF m 80 #[.val (.int p0), .val (.int p1), .val (.int p2), .val (.int p3), .val (.int (2 : Int32)), .val (.int (p0 &&& (65535 : Int32))), .val (.int (p1 &&& (65535 : Int32))), .val (.int (p2 &&& (65535 : Int32))), .val (.ref x_23), .val (.int (0 : Int32))] [(.int (1 : Int32))])) (fun _ k => XS.iconst W26.here hx rfl (hb hby at_79) k) ?_
          refine Go.st (g' := (mkF m 84 #[.val (.int p0), .val (.int p1), .val (.int p2), .val (.int p3), .val (.int (2 : Int32)), .val (.int (p0 &&& (65535 : Int32))), .val (.int (p1 &&& (65535 : Int32))), .val (.int (p2 &&& (65535 : Int32))), .val (.ref x_23), .val (.int (0 : Int32))] [(.int (1 : Int32))])) (fun _ k => XS.goto W26.here hx rfl (pc0 := 80) (pc' := 84) rfl (hb hby at_80) (by decide) (by decide) k) ?_
          exact W26.retN hx hEL hlk (t := .boolean) hret (by decide) (hb hby at_84) (by decide) (by decide) rfl
      · obtain ⟨_, vm27, T27, h27, W27, Q27, z27, SF27, st27⟩ := W0.callS hx hEL (own_makeL2 l hE W0.old (c1 := (p0 &&& (65535 : Int32))) (c2 := (p1 &&& (65535 : Int32))) (c3 := (p2 &&& (65535 : Int32))) (own_chr _) (own_chr _) (own_chr _) ⟨(own_chr _).1, fun z => hc22 (Or.inl z)⟩ ⟨(own_chr _).1, fun z => hc22 (Or.inr (z))⟩ ) (hw _ (List.mem_of_getElem? (i := 1) rfl)) (hw _ (List.mem_of_getElem? (i := 2) rfl)) (hw _ (List.mem_of_getElem? (i := 3) rfl)) (hw _ (List.mem_of_getElem? (i := 4) rfl)) (by decide) (Wd := 0) (by decide) (by decide) (by decide) (by decide) (g := (mkF m 45 #[.val (.int p0), .val (.int p1), .val (.int p2), .val (.int p3), .val (.int (2 : Int32)), .val (.int (p0 &&& (65535 : Int32))), .val (.int (p1 &&& (65535 : Int32))), .val (.int (p2 &&& (65535 : Int32))), .unset, .unset] [(.int (p2 &&& (65535 : Int32))), (.int (p1 &&& (65535 : Int32))), (.int (p0 &&& (65535 : Int32))), (.int (2 : Int32))])) rfl (by rw [hml]; rfl) (argsL := [(.int (2 : Int32)), (.int (p0 &&& (65535 : Int32))), (.int (p1 &&& (65535 : Int32))), (.int (p2 &&& (65535 : Int32)))]) (rest := []) rfl (lenOf pd__ICCC_Ljava_lang_String_ rfl) rfl (by show 2 * 0 + _ ≤ _; exact Nat.le_of_eq rfl) (hb hby at_45)
        obtain ⟨x_27, t_27, rfl, p27_0, f27_0, K27⟩ := Q27
        have yf27_0 : h27.size > x_27 ∧ h27.size > t_27 := f27_0.lt
        refine Go.tr (g' := (mkF m 48 #[.val (.int p0), .val (.int p1), .val (.int p2), .val (.int p3), .val (.int (2 : Int32)), .val (.int (p0 &&& (65535 : Int32))), .val (.int (p1 &&& (65535 : Int32))), .val (.int (p2 &&& (65535 : Int32))), .unset, .unset] [(.ref x_27)])) st27 ?_
        refine Go.st (g' := (mkF m 50 #[.val (.int p0), .val (.int p1), .val (.int p2), .val (.int p3), .val (.int (2 : Int32)), .val (.int (p0 &&& (65535 : Int32))), .val (.int (p1 &&& (65535 : Int32))), .val (.int (p2 &&& (65535 : Int32))), .val (.ref x_27), .unset] [])) (fun _ k => XS.astore W27.here hx rfl (hb hby at_48) rfl rfl (l' := #[.val (.int p0), .val (.int p1), .val (.int p2), .val (.int p3), .val (.int (2 : Int32)), .val (.int (p0 &&& (65535 : Int32))), .val (.int (p1 &&& (65535 : Int32))), .val (.int (p2 &&& (65535 : Int32))), .val (.ref x_27), .unset]) rfl k) ?_
        refine Go.st (g' := (mkF m 52 #[.val (.int p0), .val (.int p1), .val (.int p2), .val (.int p3), .val (.int (2 : Int32)), .val (.int (p0 &&& (65535 : Int32))), .val (.int (p1 &&& (65535 : Int32))), .val (.int (p2 &&& (65535 : Int32))), .val (.ref x_27), .unset] [(.int (2 : Int32))])) (fun _ k => XS.iload W27.here hx rfl (hb hby at_50) rfl  k) ?_
        refine Go.st (g' := (mkF m 55 #[.val (.int p0), .val (.int p1), .val (.int p2), .val (.int p3), .val (.int (2 : Int32)), .val (.int (p0 &&& (65535 : Int32))), .val (.int (p1 &&& (65535 : Int32))), .val (.int (p2 &&& (65535 : Int32))), .val (.ref x_27), .unset] [])) (fun _ k => XS.ifNo W27.here hx rfl (hb hby at_52) rfl ((if0 _ _).trans (tlt (by decide)).2.2.2) k) ?_
        refine Go.st (g' := (mkF m 57 #[.val (.int p0), .val (.int p1), .val (.int p2), .val (.int p3), .val (.int (2 : Int32)), .val (.int (p0 &&& (65535 : Int32))), .val (.int (p1 &&& (65535 : Int32))), .val (.int (p2 &&& (65535 : Int32))), .val (.ref x_27), .unset] [(.int (p0 &&& (65535 : Int32)))])) (fun _ k => XS.iload W27.here hx rfl (hb hby at_55) rfl  k) ?_
        refine Go.st (g' := (mkF m 59 #[.val (.int p0), .val (.int p1), .val (.int p2), .val (.int p3), .val (.int (2 : Int32)), .val (.int (p0 &&& (65535 : Int32))), .val (.int (p1 &&& (65535 : Int32))), .val (.int (p2 &&& (65535 : Int32))), .val (.ref x_27), .unset] [(.int (32 : Int32)), (.int (p0 &&& (65535 : Int32)))])) (fun _ k => XS.bipush W27.here hx rfl (hb hby at_57) k) ?_
        by_cases hc28 : (p0 &&& (65535 : Int32)) = (32 : Int32)
        · refine Go.st (g' := (mkF m 62 #[.val (.int p0), .val (.int p1), .val (.int p2), .val (.int p3), .val (.int (2 : Int32)), .val (.int (p0 &&& (65535 : Int32))), .val (.int (p1 &&& (65535 : Int32))), .val (.int (p2 &&& (65535 : Int32))), .val (.ref x_27), .unset] [])) (fun _ k => XS.icmpNo W27.here hx rfl (hb hby at_59) rfl (teq hc28).2 k) ?_
          refine Go.st (g' := (mkF m 63 #[.val (.int p0), .val (.int p1), .val (.int p2), .val (.int p3), .val (.int (2 : Int32)), .val (.int (p0 &&& (65535 : Int32))), .val (.int (p1 &&& (65535 : Int32))), .val (.int (p2 &&& (65535 : Int32))), .val (.ref x_27), .unset] [(.int (1 : Int32))])) (fun _ k => XS.iconst W27.here hx rfl (hb hby at_62) k) ?_
          refine Go.st (g' := (mkF m 67 #[.val (.int p0), .val (.int p1), .val (.int p2), .val (.int p3), .val (.int (2 : Int32)), .val (.int (p0 &&& (65535 : Int32))), .val (.int (p1 &&& (65535 : Int32))), .val (.int (p2 &&& (65535 : Int32))), .val (.ref x_27), .unset] [(.int (1 : Int32))])) (fun _ k => XS.goto W27.here hx rfl (pc0 := 63) (pc' := 67) rfl (hb hby at_63) (by decide) (by decide) k) ?_
          refine Go.st (g' := (mkF m 69 #[.val (.int p0), .val (.int p1), .val (.int p2), .val (.int p3), .val (.int (2 : Int32)), .val (.int (p0 &&& (65535 : Int32))), .val (.int (p1 &&& (65535 : Int32))), .val (.int (p2 &&& (65535 : Int32))), .val (.ref x_27), .val (.int (1 : Int32))] [])) (fun _ k => XS.istore W27.here hx rfl (hb hby at_67) rfl (l' := #[.val (.int p0), .val (.int p1), .val (.int p2), .val (.int p3), .val (.int (2 : Int32)), .val (.int (p0 &&& (65535 : Int32))), .val (.int (p1 &&& (65535 : Int32))), .val (.int (p2 &&& (65535 : Int32))), .val (.ref x_27), .val (.int (1 : Int32))]) rfl k) ?_
          refine Go.st (g' := (mkF m 71 #[.val (.int p0), .val (.int p1), .val (.int p2), .val (.int p3), .val (.int (2 : Int32)), .val (.int (p0 &&& (65535 : Int32))), .val (.int (p1 &&& (65535 : Int32))), .val (.int (p2 &&& (65535 : Int32))), .val (.ref x_27), .val (.int (1 : Int32))] [(.ref x_27)])) (fun _ k => XS.aload W27.here hx rfl (hb hby at_69) rfl rfl  k) ?_
          obtain ⟨_, vm29, T29, h29, W29, Q29, z29, SF29, st29⟩ := W27.callS hx hEL (own_deL2 l hE W27.old (x0 := x_27) (t0 := t_27) (c1 := (p0 &&& (65535 : Int32))) (c2 := (p1 &&& (65535 : Int32))) ⟨(own_chr _).1, fun z => hc22 (Or.inl z)⟩ ⟨(own_chr _).1, fun z => hc22 (Or.inr (z))⟩ f27_0.1 f27_0) (hw _ (List.mem_of_getElem? (i := 31) rfl)) (hw _ (List.mem_of_getElem? (i := 32) rfl)) (hw _ (List.mem_of_getElem? (i := 33) rfl)) (hw _ (List.mem_of_getElem? (i := 34) rfl)) (by decide) (Wd := 0) (by decide) (by decide) (by decide) (by decide) (g := (mkF m 71 #[.val (.int p0), .val (.int p1), .val (.int p2), .val (.int p3), .val (.int (2 : Int32)), .val (.int (p0 &&& (65535 : Int32))), .val (.int (p1 &&& (65535 : Int32))), .val (.int (p2 &&& (65535 : Int32))), .val (.ref x_27), .val (.int (1 : Int32))] [(.ref x_27)])) rfl (by rw [hml]; rfl) (argsL := [(.ref x_27)]) (rest := []) rfl (lenOf pd__Ljava_lang_String__Z rfl) rfl (by show 2 * 0 + _ ≤ _; exact Nat.le_of_eq rfl) (hb hby at_71)
          obtain ⟨rfl, eh29⟩ := Q29
          subst eh29
          refine Go.tr (g' := (mkF m 74 #[.val (.int p0), .val (.int p1), .val (.int p2), .val (.int p3), .val (.int (2 : Int32)), .val (.int (p0 &&& (65535 : Int32))), .val (.int (p1 &&& (65535 : Int32))), .val (.int (p2 &&& (65535 : Int32))), .val (.ref x_27), .val (.int (1 : Int32))] [(.int (own_de (p0 &&& (65535 : Int32))))])) st29 ?_
          refine Go.st (g' := (mkF m 76 #[.val (.int p0), .val (.int p1), .val (.int p2), .val (.int p3), .val (.int (2 : Int32)), .val (.int (p0 &&& (65535 : Int32))), .val (.int (p1 &&& (65535 : Int32))), .val (.int (p2 &&& (65535 : Int32))), .val (.ref x_27), .val (.int (1 : Int32))] [(.int (1 : Int32)), (.int (own_de (p0 &&& (65535 : Int32))))])) (fun _ k => XS.iload W29.here hx rfl (hb hby at_74) rfl  k) ?_
          refine Go.st (g' := (mkF m 79 #[.val (.int p0), .val (.int p1), .val (.int p2), .val (.int p3), .val (.int (2 : Int32)), .val (.int (p0 &&& (65535 : Int32))), .val (.int (p1 &&& (65535 : Int32))), .val (.int (p2 &&& (65535 : Int32))), .val (.ref x_27), .val (.int (1 : Int32))] [])) (fun _ k => XS.icmpNo W29.here hx rfl (hb hby at_76) rfl (teq (if_pos hc28)).2 k) ?_
          refine Go.st (g' := (mkF m 80 #[.val (.int p0), .val (.int p1), .val (.int p2), .val (.int p3), .val (.int (2 : Int32)), .val (.int (p0 &&& (65535 : Int32))), .val (.int (p1 &&& (65535 : Int32))), .val (.int (p2 &&& (65535 : Int32))), .val (.ref x_27), .val (.int (1 : Int32))] [(.int (1 : Int32))])) (fun _ k => XS.iconst W29.here hx rfl (hb hby at_79) k) ?_
          refine Go.st (g' := (mkF m 84 #[.val (.int p0), .val (.int p1), .val (.int p2), .val (.int p3), .val (.int (2 : Int32)), .val (.int (p0 &&& (65535 : Int32))), .val (.int (p1 &&& (65535 : Int32))), .val (.int (p2 &&& (65535 : Int32))), .val (.ref x_27), .val (.int (1 : Int32))] [(.int (1 : Int32))])) (fun _ k => XS.goto W29.here hx rfl (pc0 := 80) (pc' := 84) rfl (hb hby at_80) (by decide) (by decide) k) ?_
          exact W29.retN hx hEL hlk (t := .boolean) hret (by decide) (hb hby at_84) (by decide) (by decide) rfl
        · refine Go.st (g' := (mkF m 66 #[.val (.int p0), .val (.int p1), .val (.int p2), .val (.int p3), .val (.int (2 : Int32)), .val (.int (p0 &&& (65535 : Int32))), .val (.int (p1 &&& (65535 : Int32))), .val (.int (p2 &&& (65535 : Int32))), .val (.ref x_27), .unset] [])) (fun _ k => XS.icmpYes W27.here hx rfl (pc0 := 59) (pc' := 66) rfl (hb hby at_59) rfl (feq hc28).2 (by decide) (by decide) k) ?_
          refine Go.st (g' := (mkF m 67 #[.val (.int p0), .val (.int p1), .val (.int p2), .val (.int p3), .val (.int (2 : Int32)), .val (.int (p0 &&& (65535 : Int32))), .val (.int (p1 &&& (65535 : Int32))), .val (.int (p2 &&& (65535 : Int32))), .val (.ref x_27), .unset] [(.int (0 : Int32))])) (fun _ k => XS.iconst W27.here hx rfl (hb hby at_66) k) ?_
          refine Go.st (g' := (mkF m 69 #[.val (.int p0), .val (.int p1), .val (.int p2), .val (.int p3), .val (.int (2 : Int32)), .val (.int (p0 &&& (65535 : Int32))), .val (.int (p1 &&& (65535 : Int32))), .val (.int (p2 &&& (65535 : Int32))), .val (.ref x_27), .val (.int (0 : Int32))] [])) (fun _ k => XS.istore W27.here hx rfl (hb hby at_67) rfl (l' := #[.val (.int p0), .val (.int p1), .val (.int p2), .val (.int p3), .val (.int (2 : Int32)), .val (.int (p0 &&& (65535 : Int32))), .val (.int (p1 &&& (65535 : Int32))), .val (.int (p2 &&& (65535 : Int32))), .val (.ref x_27), .val (.int (0 : Int32))]) rfl k) ?_
          refine Go.st (g' := (mkF m 71 #[.val (.int p0), .val (.int p1), .val (.int p2), .val (.int p3), .val (.int (2 : Int32)), .val (.int (p0 &&& (65535 : Int32))), .val (.int (p1 &&& (65535 : Int32))), .val (.int (p2 &&& (65535 : Int32))), .val (.ref x_27), .val (.int (0 : Int32))] [(.ref x_27)])) (fun _ k => XS.aload W27.here hx rfl (hb hby at_69) rfl rfl  k) ?_
          obtain ⟨_, vm30, T30, h30, W30, Q30, z30, SF30, st30⟩ := W27.callS hx hEL (own_deL2 l hE W27.old (x0 := x_27) (t0 := t_27) (c1 := (p0 &&& (65535 : Int32))) (c2 := (p1 &&& (65535 : Int32))) ⟨(own_chr _).1, fun z => hc22 (Or.inl z)⟩ ⟨(own_chr _).1, fun z => hc22 (Or.inr (z))⟩ f27_0.1 f27_0) (hw _ (List.mem_of_getElem? (i := 31) rfl)) (hw _ (List.mem_of_getElem? (i := 32) rfl)) (hw _ (List.mem_of_getElem? (i := 33) rfl)) (hw _ (List.mem_of_getElem? (i := 34) rfl)) (by decide) (Wd := 0) (by decide) (by decide) (by decide) (by decide) (g := (mkF m 71 #[.val (.int p0), .val (.int p1), .val (.int p2), .val (.int p3), .val (.int (2 : Int32)), .val (.int (p0 &&& (65535 : Int32))), .val (.int (p1 &&& (65535 : Int32))), .val (.int (p2 &&& (65535 : Int32))), .val (.ref x_27), .val (.int (0 : Int32))] [(.ref x_27)])) rfl (by rw [hml]; rfl) (argsL := [(.ref x_27)]) (rest := []) rfl (lenOf pd__Ljava_lang_String__Z rfl) rfl (by show 2 * 0 + _ ≤ _; exact Nat.le_of_eq rfl) (hb hby at_71)
          obtain ⟨rfl, eh30⟩ := Q30
          subst eh30
          refine Go.tr (g' := (mkF m 74 #[.val (.int p0), .val (.int p1), .val (.int p2), .val (.int p3), .val (.int (2 : Int32)), .val (.int (p0 &&& (65535 : Int32))), .val (.int (p1 &&& (65535 : Int32))), .val (.int (p2 &&& (65535 : Int32))), .val (.ref x_27), .val (.int (0 : Int32))] [(.int (own_de (p0 &&& (65535 : Int32))))])) st30 ?_
          refine Go.st (g' := (mkF m 76 #[.val (.int p0), .val (.int p1), .val (.int p2), .val (.int p3), .val (.int (2 : Int32)), .val (.int (p0 &&& (65535 : Int32))), .val (.int (p1 &&& (65535 : Int32))), .val (.int (p2 &&& (65535 : Int32))), .val (.ref x_27), .val (.int (0 : Int32))] [(.int (0 : Int32)), (.int (own_de (p0 &&& (65535 : Int32))))])) (fun _ k => XS.iload W30.here hx rfl (hb hby at_74) rfl  k) ?_
          refine Go.st (g' := (mkF m 79 #[.val (.int p0), .val (.int p1), .val (.int p2), .val (.int p3), .val (.int (2 : Int32)), .val (.int (p0 &&& (65535 : Int32))), .val (.int (p1 &&& (65535 : Int32))), .val (.int (p2 &&& (65535 : Int32))), .val (.ref x_27), .val (.int (0 : Int32))] [])) (fun _ k => XS.icmpNo W30.here hx rfl (hb hby at_76) rfl (teq (if_neg hc28)).2 k) ?_
          refine Go.st (g' := (mkF m 80 #[.val (.int p0), .val (.int p1), .val (.int p2), .val (.int p3), .val (.int (2 : Int32)), .val (.int (p0 &&& (65535 : Int32))), .val (.int (p1 &&& (65535 : Int32))), .val (.int (p2 &&& (65535 : Int32))), .val (.ref x_27), .val (.int (0 : Int32))] [(.int (1 : Int32))])) (fun _ k => XS.iconst W30.here hx rfl (hb hby at_79) k) ?_
          refine Go.st (g' := (mkF m 84 #[.val (.int p0), .val (.int p1), .val (.int p2), .val (.int p3), .val (.int (2 : Int32)), .val (.int (p0 &&& (65535 : Int32))), .val (.int (p1 &&& (65535 : Int32))), .val (.int (p2 &&& (65535 : Int32))), .val (.ref x_27), .val (.int (0 : Int32))] [(.int (1 : Int32))])) (fun _ k => XS.goto W30.here hx rfl (pc0 := 80) (pc' := 84) rfl (hb hby at_80) (by decide) (by decide) k) ?_
          exact W30.retN hx hEL hlk (t := .boolean) hret (by decide) (hb hby at_84) (by decide) (by decide) rfl
    · refine Go.st (g' := (mkF m 11 #[.val (.int p0), .val (.int p1), .val (.int p2), .val (.int p3), .val (.int (2 : Int32)), .unset, .unset, .unset, .unset, .unset] [])) (fun _ k => XS.ifNo W0.here hx rfl (hb hby at_8) rfl ((if0 _ _).trans (feq hc21).1) k) ?_
      refine Go.st (g' := (mkF m 13 #[.val (.int p0), .val (.int p1), .val (.int p2), .val (.int p3), .val (.int (2 : Int32)), .unset, .unset, .unset, .unset, .unset] [(.int (32 : Int32))])) (fun _ k => XS.bipush W0.here hx rfl (hb hby at_11) k) ?_
      refine Go.st (g' := (mkF m 21 #[.val (.int p0), .val (.int p1), .val (.int p2), .val (.int p3), .val (.int (2 : Int32)), .unset, .unset, .unset, .unset, .unset] [(.int (32 : Int32))])) (fun _ k => XS.goto W0.here hx rfl (pc0 := 13) (pc' := 21) rfl (hb hby at_13) (by decide) (by decide) k) ?_
      refine Go.st (g' := (mkF m 23 #[.val (.int p0), .val (.int p1), .val (.int p2), .val (.int p3), .val (.int (2 : Int32)), .val (.int (32 : Int32)), .unset, .unset, .unset, .unset] [])) (fun _ k => XS.istore W0.here hx rfl (hb hby at_21) rfl (l' := #[.val (.int p0), .val (.int p1), .val (.int p2), .val (.int p3), .val (.int (2 : Int32)), .val (.int (32 : Int32)), .unset, .unset, .unset, .unset]) rfl k) ?_
      refine Go.st (g' := (mkF m 24 #[.val (.int p0), .val (.int p1), .val (.int p2), .val (.int p3), .val (.int (2 : Int32)), .val (.int (32 : Int32)), .unset, .unset, .unset, .unset] [(.int p1)])) (fun _ k => XS.iloadN W0.here hx rfl (hb hby at_23) rfl  k) ?_
      refine Go.st (g' := (mkF m 26 #[.val (.int p0), .val (.int p1), .val (.int p2), .val (.int p3), .val (.int (2 : Int32)), .val (.int (32 : Int32)), .unset, .unset, .unset, .unset] [(.int (65535 : Int32)), (.int p1)])) (W0.ldcI hx (hw _ (List.mem_of_getElem? (i := 0) rfl)) (g := (mkF m 24 #[.val (.int p0), .val (.int p1), .val (.int p2), .val (.int p3), .val (.int (2 : Int32)), .val (.int (32 : Int32)), .unset, .unset, .unset, .unset] [(.int p1)])) rfl (hb hby at_24)) ?_
      refine Go.st (g' := (mkF m 27 #[.val (.int p0), .val (.int p1), .val (.int p2), .val (.int p3), .val (.int (2 : Int32)), .val (.int (32 : Int32)), .unset, .unset, .unset, .unset] [(.int (p1 &&& (65535 : Int32)))])) (fun _ k => XS.iand W0.here hx rfl (hb hby at_26) rfl k) ?_
      refine Go.st (g' := (mkF m 28 #[.val (.int p0), .val (.int p1), .val (.int p2), .val (.int p3), .val (.int (2 : Int32)), .val (.int (32 : Int32)), .unset, .unset, .unset, .unset] [(.int ((p1 &&& (65535 : Int32)).toUInt32.toUInt16.toUInt32.toInt32))])) (fun _ k => XS.i2c W0.here hx rfl (hb hby at_27) rfl k) ?_
      rw [own_i2c16]
      refine Go.st (g' := (mkF m 30 #[.val (.int p0), .val (.int p1), .val (.int p2), .val (.int p3), .val (.int (2 : Int32)), .val (.int (32 : Int32)), .val (.int (p1 &&& (65535 : Int32))), .unset, .unset, .unset] [])) (fun _ k => XS.istore W0.here hx rfl (hb hby at_28) rfl (l' := #[.val (.int p0), .val (.int p1), .val (.int p2), .val (.int p3), .val (.int (2 : Int32)), .val (.int (32 : Int32)), .val (.int (p1 &&& (65535 : Int32))), .unset, .unset, .unset]) rfl k) ?_
      refine Go.st (g' := (mkF m 31 #[.val (.int p0), .val (.int p1), .val (.int p2), .val (.int p3), .val (.int (2 : Int32)), .val (.int (32 : Int32)), .val (.int (p1 &&& (65535 : Int32))), .unset, .unset, .unset] [(.int p2)])) (fun _ k => XS.iloadN W0.here hx rfl (hb hby at_30) rfl  k) ?_
      refine Go.st (g' := (mkF m 33 #[.val (.int p0), .val (.int p1), .val (.int p2), .val (.int p3), .val (.int (2 : Int32)), .val (.int (32 : Int32)), .val (.int (p1 &&& (65535 : Int32))), .unset, .unset, .unset] [(.int (65535 : Int32)), (.int p2)])) (W0.ldcI hx (hw _ (List.mem_of_getElem? (i := 0) rfl)) (g := (mkF m 31 #[.val (.int p0), .val (.int p1), .val (.int p2), .val (.int p3), .val (.int (2 : Int32)), .val (.int (32 : Int32)), .val (.int (p1 &&& (65535 : Int32))), .unset, .unset, .unset] [(.int p2)])) rfl (hb hby at_31)) ?_
      refine Go.st (g' := (mkF m 34 #[.val (.int p0), .val (.int p1), .val (.int p2), .val (.int p3), .val (.int (2 : Int32)), .val (.int (32 : Int32)), .val (.int (p1 &&& (65535 : Int32))), .unset, .unset, .unset] [(.int (p2 &&& (65535 : Int32)))])) (fun _ k => XS.iand W0.here hx rfl (hb hby at_33) rfl k) ?_
      refine Go.st (g' := (mkF m 35 #[.val (.int p0), .val (.int p1), .val (.int p2), .val (.int p3), .val (.int (2 : Int32)), .val (.int (32 : Int32)), .val (.int (p1 &&& (65535 : Int32))), .unset, .unset, .unset] [(.int ((p2 &&& (65535 : Int32)).toUInt32.toUInt16.toUInt32.toInt32))])) (fun _ k => XS.i2c W0.here hx rfl (hb hby at_34) rfl k) ?_
      rw [own_i2c16]
      refine Go.st (g' := (mkF m 37 #[.val (.int p0), .val (.int p1), .val (.int p2), .val (.int p3), .val (.int (2 : Int32)), .val (.int (32 : Int32)), .val (.int (p1 &&& (65535 : Int32))), .val (.int (p2 &&& (65535 : Int32))), .unset, .unset] [])) (fun _ k => XS.istore W0.here hx rfl (hb hby at_35) rfl (l' := #[.val (.int p0), .val (.int p1), .val (.int p2), .val (.int p3), .val (.int (2 : Int32)), .val (.int (32 : Int32)), .val (.int (p1 &&& (65535 : Int32))), .val (.int (p2 &&& (65535 : Int32))), .unset, .unset]) rfl k) ?_
      refine Go.st (g' := (mkF m 39 #[.val (.int p0), .val (.int p1), .val (.int p2), .val (.int p3), .val (.int (2 : Int32)), .val (.int (32 : Int32)), .val (.int (p1 &&& (65535 : Int32))), .val (.int (p2 &&& (65535 : Int32))), .unset, .unset] [(.int (2 : Int32))])) (fun _ k => XS.iload W0.here hx rfl (hb hby at_37) rfl  k) ?_
      refine Go.st (g' := (mkF m 41 #[.val (.int p0), .val (.int p1), .val (.int p2), .val (.int p3), .val (.int (2 : Int32)), .val (.int (32 : Int32)), .val (.int (p1 &&& (65535 : Int32))), .val (.int (p2 &&& (65535 : Int32))), .unset, .unset] [(.int (32 : Int32)), (.int (2 : Int32))])) (fun _ k => XS.iload W0.here hx rfl (hb hby at_39) rfl  k) ?_
      refine Go.st (g' := (mkF m 43 #[.val (.int p0), .val (.int p1), .val (.int p2), .val (.int p3), .val (.int (2 : Int32)), .val (.int (32 : Int32)), .val (.int (p1 &&& (65535 : Int32))), .val (.int (p2 &&& (65535 : Int32))), .unset, .unset] [(.int (p1 &&& (65535 : Int32))), (.int (32 : Int32)), (.int (2 : Int32))])) (fun _ k => XS.iload W0.here hx rfl (hb hby at_41) rfl  k) ?_
      refine Go.st (g' := (mkF m 45 #[.val (.int p0), .val (.int p1), .val (.int p2), .val (.int p3), .val (.int (2 : Int32)), .val (.int (32 : Int32)), .val (.int (p1 &&& (65535 : Int32))), .val (.int (p2 &&& (65535 : Int32))), .unset, .unset] [(.int (p2 &&& (65535 : Int32))), (.int (p1 &&& (65535 : Int32))), (.int (32 : Int32)), (.int (2 : Int32))])) (fun _ k => XS.iload W0.here hx rfl (hb hby at_43) rfl  k) ?_
      by_cases hc31 : (255 : Int32) < (32 : Int32) ∨ (255 : Int32) < (p1 &&& (65535 : Int32))
      · obtain ⟨_, vm32, T32, h32, W32, Q32, z32, SF32, st32⟩ := W0.callS hx hEL (own_makeW2 l hE W0.old (c1 := (32 : Int32)) (c2 := (p1 &&& (65535 : Int32))) (c3 := (p2 &&& (65535 : Int32))) own_chr32 (own_chr _) (own_chr _) hc31 ) (hw _ (List.mem_of_getElem? (i := 1) rfl)) (hw _ (List.mem_of_getElem? (i := 2) rfl)) (hw _ (List.mem_of_getElem? (i := 3) rfl)) (hw _ (List.mem_of_getElem? (i := 4) rfl)) (by decide) (Wd := 0) (by decide) (by decide) (by decide) (by decide) (g := (mkF m 45 #[.val (.int p0), .val (.int p1), .val (.int p2), .val (.int p3), .val (.int (2 : Int32)), .val (.int (32 : Int32)), .val (.int (p1 &&& (65535 : Int32))), .val (.int (p2 &&& (65535 : Int32))), .unset, .unset] [(.int (p2 &&& (65535 : Int32))), (.int (p1 &&& (65535 : Int32))), (.int (32 : Int32)), (.int (2 : Int32))])) rfl (by rw [hml]; rfl) (argsL := [(.int (2 : Int32)), (.int (32 : Int32)), (.int (p1 &&& (65535 : Int32))), (.int (p2 &&& (65535 : Int32)))]) (rest := []) rfl (lenOf pd__ICCC_Ljava_lang_String_ rfl) rfl (by show 2 * 0 + _ ≤ _; exact Nat.le_of_eq rfl) (hb hby at_45)
        obtain ⟨x_32, t_32, kt_32, rfl, p32_0, f32_0, f32_1, f32_2, f32_3, K32⟩ := Q32
        have yf32_0 : h32.size > x_32 := f32_0.lt
        have yf32_3 : h32.size > t_32 := f32_3.lt
        refine Go.tr (g' := (mkF m 48 #[.val (.int p0), .val (.int p1), .val (.int p2), .val (.int p3), .val (.int (2 : Int32)), .val (.int (32 : Int32)), .val (.int (p1 &&& (65535 : Int32))), .val (.int (p2 &&& (65535 : Int32))), .unset, .unset] [(.ref x_32)])) st32 ?_
        refine Go.st (g' := (mkF m 50 #[.val (.int p0), .val (.int p1), .val (.int p2), .val (.int p3), .val (.int (2 : Int32)), .val (.int (32 : Int32)), .val (.int (p1 &&& (65535 : Int32))), .val (.int (p2 &&& (65535 : Int32))), .val (.ref x_32), .unset] [])) (fun _ k => XS.astore W32.here hx rfl (hb hby at_48) rfl rfl (l' := #[.val (.int p0), .val (.int p1), .val (.int p2), .val (.int p3), .val (.int (2 : Int32)), .val (.int (32 : Int32)), .val (.int (p1 &&& (65535 : Int32))), .val (.int (p2 &&& (65535 : Int32))), .val (.ref x_32), .unset]) rfl k) ?_
        refine Go.st (g' := (mkF m 52 #[.val (.int p0), .val (.int p1), .val (.int p2), .val (.int p3), .val (.int (2 : Int32)), .val (.int (32 : Int32)), .val (.int (p1 &&& (65535 : Int32))), .val (.int (p2 &&& (65535 : Int32))), .val (.ref x_32), .unset] [(.int (2 : Int32))])) (fun _ k => XS.iload W32.here hx rfl (hb hby at_50) rfl  k) ?_
        refine Go.st (g' := (mkF m 55 #[.val (.int p0), .val (.int p1), .val (.int p2), .val (.int p3), .val (.int (2 : Int32)), .val (.int (32 : Int32)), .val (.int (p1 &&& (65535 : Int32))), .val (.int (p2 &&& (65535 : Int32))), .val (.ref x_32), .unset] [])) (fun _ k => XS.ifNo W32.here hx rfl (hb hby at_52) rfl ((if0 _ _).trans (tlt (by decide)).2.2.2) k) ?_
        refine Go.st (g' := (mkF m 57 #[.val (.int p0), .val (.int p1), .val (.int p2), .val (.int p3), .val (.int (2 : Int32)), .val (.int (32 : Int32)), .val (.int (p1 &&& (65535 : Int32))), .val (.int (p2 &&& (65535 : Int32))), .val (.ref x_32), .unset] [(.int (32 : Int32))])) (fun _ k => XS.iload W32.here hx rfl (hb hby at_55) rfl  k) ?_
        refine Go.st (g' := (mkF m 59 #[.val (.int p0), .val (.int p1), .val (.int p2), .val (.int p3), .val (.int (2 : Int32)), .val (.int (32 : Int32)), .val (.int (p1 &&& (65535 : Int32))), .val (.int (p2 &&& (65535 : Int32))), .val (.ref x_32), .unset] [(.int (32 : Int32)), (.int (32 : Int32))])) (fun _ k => XS.bipush W32.here hx rfl (hb hby at_57) k) ?_
        refine Go.st (g' := (mkF m 62 #[.val (.int p0), .val (.int p1), .val (.int p2), .val (.int p3), .val (.int (2 : Int32)), .val (.int (32 : Int32)), .val (.int (p1 &&& (65535 : Int32))), .val (.int (p2 &&& (65535 : Int32))), .val (.ref x_32), .unset] [])) (fun _ k => XS.icmpNo W32.here hx rfl (hb hby at_59) rfl (teq (by decide)).2 k) ?_
        refine Go.st (g' := (mkF m 63 #[.val (.int p0), .val (.int p1), .val (.int p2), .val (.int p3), .val (.int (2 : Int32)), .val (.int (32 : Int32)), .val (.int (p1 &&& (65535 : Int32))), .val (.int (p2 &&& (65535 : Int32))), .val (.ref x_32), .unset] [(.int (1 : Int32))])) (fun _ k => XS.iconst W32.here hx rfl (hb hby at_62) k) ?_
        refine Go.st (g' := (mkF m 67 #[.val (.int p0), .val (.int p1), .val (.int p2), .val (.int p3), .val (.int (2 : Int32)), .val (.int (32 : Int32)), .val (.int (p1 &&& (65535 : Int32))), .val (.int (p2 &&& (65535 : Int32))), .val (.ref x_32), .unset] [(.int (1 : Int32))])) (fun _ k => XS.goto W32.here hx rfl (pc0 := 63) (pc' := 67) rfl (hb hby at_63) (by decide) (by decide) k) ?_
        refine Go.st (g' := (mkF m 69 #[.val (.int p0), .val (.int p1), .val (.int p2), .val (.int p3), .val (.int (2 : Int32)), .val (.int (32 : Int32)), .val (.int (p1 &&& (65535 : Int32))), .val (.int (p2 &&& (65535 : Int32))), .val (.ref x_32), .val (.int (1 : Int32))] [])) (fun _ k => XS.istore W32.here hx rfl (hb hby at_67) rfl (l' := #[.val (.int p0), .val (.int p1), .val (.int p2), .val (.int p3), .val (.int (2 : Int32)), .val (.int (32 : Int32)), .val (.int (p1 &&& (65535 : Int32))), .val (.int (p2 &&& (65535 : Int32))), .val (.ref x_32), .val (.int (1 : Int32))]) rfl k) ?_
        refine Go.st (g' := (mkF m 71 #[.val (.int p0), .val (.int p1), .val (.int p2), .val (.int p3), .val (.int (2 : Int32)), .val (.int (32 : Int32)), .val (.int (p1 &&& (65535 : Int32))), .val (.int (p2 &&& (65535 : Int32))), .val (.ref x_32), .val (.int (1 : Int32))] [(.ref x_32)])) (fun _ k => XS.aload W32.here hx rfl (hb hby at_69) rfl rfl  k) ?_
        obtain ⟨_, vm33, T33, h33, W33, Q33, z33, SF33, st33⟩ := W32.callS hx hEL (own_deW2 l hE W32.old (x0 := x_32) (t0 := t_32) (kt := kt_32) (c1 := (32 : Int32)) (c2 := (p1 &&& (65535 : Int32))) own_chr32 f32_0 f32_1 f32_2 f32_3) (hw _ (List.mem_of_getElem? (i := 31) rfl)) (hw _ (List.mem_of_getElem? (i := 32) rfl)) (hw _ (List.mem_of_getElem? (i := 33) rfl)) (hw _ (List.mem_of_getElem? (i := 34) rfl)) (by decide) (Wd := 0) (by decide) (by decide) (by decide) (by decide) (g := (mkF m 71 #[.val (.int p0), .val (.int p1), .val (.int p2), .val (.int p3), .val (.int (2 : Int32)), .val (.int (32 : Int32)), .val (.int (p1 &&& (65535 : Int32))), .val (.int (p2 &&& (65535 : Int32))), .val (.ref x_32), .val (.int (1 : Int32))] [(.ref x_32)])) rfl (by rw [hml]; rfl) (argsL := [(.ref x_32)]) (rest := []) rfl (lenOf pd__Ljava_lang_String__Z rfl) rfl (by show 2 * 0 + _ ≤ _; exact Nat.le_of_eq rfl) (hb hby at_71)
        obtain ⟨rfl, eh33⟩ := Q33
        subst eh33
        refine Go.tr (g' := (mkF m 74 #[.val (.int p0), .val (.int p1), .val (.int p2), .val (.int p3), .val (.int (2 : Int32)), .val (.int (32 : Int32)), .val (.int (p1 &&& (65535 : Int32))), .val (.int (p2 &&& (65535 : Int32))), .val (.ref x_32), .val (.int (1 : Int32))] [(.int (own_de (32 : Int32)))])) st33 ?_
        refine Go.st (g' := (mkF m 76 #[.val (.int p0), .val (.int p1), .val (.int p2), .val (.int p3), .val (.int (2 : Int32)), .val (.int (32 : Int32)), .val (.int (p1 &&& (65535 : Int32))), .val (.int (p2 &&& (65535 : Int32))), .val (.ref x_32), .val (.int (1 : Int32))] [(.int (1 : Int32)), (.int (own_de (32 : Int32)))])) (fun _ k => XS.iload W33.here hx rfl (hb hby at_74) rfl  k) ?_
        refine Go.st (g' := (mkF m 79 #[.val (.int p0), .val (.int p1), .val (.int p2), .val (.int p3), .val (.int (2 : Int32)), .val (.int (32 : Int32)), .val (.int (p1 &&& (65535 : Int32))), .val (.int (p2 &&& (65535 : Int32))), .val (.ref x_32), .val (.int (1 : Int32))] [])) (fun _ k => XS.icmpNo W33.here hx rfl (hb hby at_76) rfl (teq (by unfold own_de; decide)).2 k) ?_
        refine Go.st (g' := (mkF m 80 #[.val (.int p0), .val (.int p1), .val (.int p2), .val (.int p3), .val (.int (2 : Int32)), .val (.int (32 : Int32)), .val (.int (p1 &&& (65535 : Int32))), .val (.int (p2 &&& (65535 : Int32))), .val (.ref x_32), .val (.int (1 : Int32))] [(.int (1 : Int32))])) (fun _ k => XS.iconst W33.here hx rfl (hb hby at_79) k) ?_
        refine Go.st (g' := (mkF m 84 #[.val (.int p0), .val (.int p1), .val (.int p2), .val (.int p3), .val (.int (2 : Int32)), .val (.int (32 : Int32)), .val (.int (p1 &&& (65535 : Int32))), .val (.int (p2 &&& (65535 : Int32))), .val (.ref x_32), .val (.int (1 : Int32))] [(.int (1 : Int32))])) (fun _ k => XS.goto W33.here hx rfl (pc0 := 80) (pc' := 84) rfl (hb hby at_80) (by decide) (by decide) k) ?_
        exact W33.retN hx hEL hlk (t := .boolean) hret (by decide) (hb hby at_84) (by decide) (by decide) rfl
      · obtain ⟨_, vm34, T34, h34, W34, Q34, z34, SF34, st34⟩ := W0.callS hx hEL (own_makeL2 l hE W0.old (c1 := (32 : Int32)) (c2 := (p1 &&& (65535 : Int32))) (c3 := (p2 &&& (65535 : Int32))) own_chr32 (own_chr _) (own_chr _) ⟨own_chr32.1, fun z => hc31 (Or.inl z)⟩ ⟨(own_chr _).1, fun z => hc31 (Or.inr (z))⟩ ) (hw _ (List.mem_of_getElem? (i := 1) rfl)) (hw _ (List.mem_of_getElem? (i := 2) rfl)) (hw _ (List.mem_of_getElem? (i := 3) rfl)) (hw _ (List.mem_of_getElem? (i := 4) rfl)) (by decide) (Wd := 0) (by decide) (by decide) (by decide) (by decide) (g := (mkF m 45 #[.val (.int p0), .val (.int p1), .val (.int p2), .val (.int p3), .val (.int (2 : Int32)), .val (.int (32 : Int32)), .val (.int (p1 &&& (65535 : Int32))), .val (.int (p2 &&& (65535 : Int32))), .unset, .unset] [(.int (p2 &&& (65535 : Int32))), (.int (p1 &&& (65535 : Int32))), (.int (32 : Int32)), (.int (2 : Int32))])) rfl (by rw [hml]; rfl) (argsL := [(.int (2 : Int32)), (.int (32 : Int32)), (.int (p1 &&& (65535 : Int32))), (.int (p2 &&& (65535 : Int32)))]) (rest := []) rfl (lenOf pd__ICCC_Ljava_lang_String_ rfl) rfl (by show 2 * 0 + _ ≤ _; exact Nat.le_of_eq rfl) (hb hby at_45)
        obtain ⟨x_34, t_34, rfl, p34_0, f34_0, K34⟩ := Q34
        have yf34_0 : h34.size > x_34 ∧ h34.size > t_34 := f34_0.lt
        refine Go.tr (g' := (mkF m 48 #[.val (.int p0), .val (.int p1), .val (.int p2), .val (.int p3), .val (.int (2 : Int32)), .val (.int (32 : Int32)), .val (.int (p1 &&& (65535 : Int32))), .val (.int (p2 &&& (65535 : Int32))), .unset, .unset] [(.ref x_34)])) st34 ?_
        refine Go.st (g' := (mkF m 50 #[.val (.int p0), .val (.int p1), .val (.int p2), .val (.int p3), .val (.int (2 : Int32)), .val (.int (32 : Int32)), .val (.int (p1 &&& (65535 : Int32))), .val (.int (p2 &&& (65535 : Int32))), .val (.ref x_34), .unset] [])) (fun _ k => XS.astore W34.here hx rfl (hb hby at_48) rfl rfl (l' := #[.val (.int p0), .val (.int p1), .val (.int p2), .val (.int p3), .val (.int (2 : Int32)), .val (.int (32 : Int32)), .val (.int (p1 &&& (65535 : Int32))), .val (.int (p2 &&& (65535 : Int32))), .val (.ref x_34), .unset]) rfl k) ?_
        refine Go.st (g' := (mkF m 52 #[.val (.int p0), .val (.int p1), .val (.int p2), .val (.int p3), .val (.int (2 : Int32)), .val (.int (32 : Int32)), .val (.int (p1 &&& (65535 : Int32))), .val (.int (p2 &&& (65535 : Int32))), .val (.ref x_34), .unset] [(.int (2 : Int32))])) (fun _ k => XS.iload W34.here hx rfl (hb hby at_50) rfl  k) ?_
        refine Go.st (g' := (mkF m 55 #[.val (.int p0), .val (.int p1), .val (.int p2), .val (.int p3), .val (.int (2 : Int32)), .val (.int (32 : Int32)), .val (.int (p1 &&& (65535 : Int32))), .val (.int (p2 &&& (65535 : Int32))), .val (.ref x_34), .unset] [])) (fun _ k => XS.ifNo W34.here hx rfl (hb hby at_52) rfl ((if0 _ _).trans (tlt (by decide)).2.2.2) k) ?_
        refine Go.st (g' := (mkF m 57 #[.val (.int p0), .val (.int p1), .val (.int p2), .val (.int p3), .val (.int (2 : Int32)), .val (.int (32 : Int32)), .val (.int (p1 &&& (65535 : Int32))), .val (.int (p2 &&& (65535 : Int32))), .val (.ref x_34), .unset] [(.int (32 : Int32))])) (fun _ k => XS.iload W34.here hx rfl (hb hby at_55) rfl  k) ?_
        refine Go.st (g' := (mkF m 59 #[.val (.int p0), .val (.int p1), .val (.int p2), .val (.int p3), .val (.int (2 : Int32)), .val (.int (32 : Int32)), .val (.int (p1 &&& (65535 : Int32))), .val (.int (p2 &&& (65535 : Int32))), .val (.ref x_34), .unset] [(.int (32 : Int32)), (.int (32 : Int32))])) (fun _ k => XS.bipush W34.here hx rfl (hb hby at_57) k) ?_
        refine Go.st (g' := (mkF m 62 #[.val (.int p0), .val (.int p1), .val (.int p2), .val (.int p3), .val (.int (2 : Int32)), .val (.int (32 : Int32)), .val (.int (p1 &&& (65535 : Int32))), .val (.int (p2 &&& (65535 : Int32))), .val (.ref x_34), .unset] [])) (fun _ k => XS.icmpNo W34.here hx rfl (hb hby at_59) rfl (teq (by decide)).2 k) ?_
        refine Go.st (g' := (mkF m 63 #[.val (.int p0), .val (.int p1), .val (.int p2), .val (.int p3), .val (.int (2 : Int32)), .val (.int (32 : Int32)), .val (.int (p1 &&& (65535 : Int32))), .val (.int (p2 &&& (65535 : Int32))), .val (.ref x_34), .unset] [(.int (1 : Int32))])) (fun _ k => XS.iconst W34.here hx rfl (hb hby at_62) k) ?_
        refine Go.st (g' := (mkF m 67 #[.val (.int p0), .val (.int p1), .val (.int p2), .val (.int p3), .val (.int (2 : Int32)), .val (.int (32 : Int32)), .val (.int (p1 &&& (65535 : Int32))), .val (.int (p2 &&& (65535 : Int32))), .val (.ref x_34), .unset] [(.int (1 : Int32))])) (fun _ k => XS.goto W34.here hx rfl (pc0 := 63) (pc' := 67) rfl (hb hby at_63) (by decide) (by decide) k) ?_
        refine Go.st (g' := (mkF m 69 #[.val (.int p0), .val (.int p1), .val (.int p2), .val (.int p3), .val (.int (2 : Int32)), .val (.int (32 : Int32)), .val (.int (p1 &&& (65535 : Int32))), .val (.int (p2 &&& (65535 : Int32))), .val (.ref x_34), .val (.int (1 : Int32))] [])) (fun _ k => XS.istore W34.here hx rfl (hb hby at_67) rfl (l' := #[.val (.int p0), .val (.int p1), .val (.int p2), .val (.int p3), .val (.int (2 : Int32)), .val (.int (32 : Int32)), .val (.int (p1 &&& (65535 : Int32))), .val (.int (p2 &&& (65535 : Int32))), .val (.ref x_34), .val (.int (1 : Int32))]) rfl k) ?_
        refine Go.st (g' := (mkF m 71 #[.val (.int p0), .val (.int p1), .val (.int p2), .val (.int p3), .val (.int (2 : Int32)), .val (.int (32 : Int32)), .val (.int (p1 &&& (65535 : Int32))), .val (.int (p2 &&& (65535 : Int32))), .val (.ref x_34), .val (.int (1 : Int32))] [(.ref x_34)])) (fun _ k => XS.aload W34.here hx rfl (hb hby at_69) rfl rfl  k) ?_
        obtain ⟨_, vm35, T35, h35, W35, Q35, z35, SF35, st35⟩ := W34.callS hx hEL (own_deL2 l hE W34.old (x0 := x_34) (t0 := t_34) (c1 := (32 : Int32)) (c2 := (p1 &&& (65535 : Int32))) ⟨own_chr32.1, fun z => hc31 (Or.inl z)⟩ ⟨(own_chr _).1, fun z => hc31 (Or.inr (z))⟩ f34_0.1 f34_0) (hw _ (List.mem_of_getElem? (i := 31) rfl)) (hw _ (List.mem_of_getElem? (i := 32) rfl)) (hw _ (List.mem_of_getElem? (i := 33) rfl)) (hw _ (List.mem_of_getElem? (i := 34) rfl)) (by decide) (Wd := 0) (by decide) (by decide) (by decide) (by decide) (g := (mkF m 71 #[.val (.int p0), .val (.int p1), .val (.int p2), .val (.int p3), .val (.int (2 : Int32)), .val (.int (32 : Int32)), .val (.int (p1 &&& (65535 : Int32))), .val (.int (p2 &&& (65535 : Int32))), .val (.ref x_34), .val (.int (1 : Int32))] [(.ref x_34)])) rfl (by rw [hml]; rfl) (argsL := [(.ref x_34)]) (rest := []) rfl (lenOf pd__Ljava_lang_String__Z rfl) rfl (by show 2 * 0 + _ ≤ _; exact Nat.le_of_eq rfl) (hb hby at_71)
        obtain ⟨rfl, eh35⟩ := Q35
        subst eh35
        refine Go.tr (g' := (mkF m 74 #[.val (.int p0), .val (.int p1), .val (.int p2), .val (.int p3), .val (.int (2 : Int32)), .val (.int (32 : Int32)), .val (.int (p1 &&& (65535 : Int32))), .val (.int (p2 &&& (65535 : Int32))), .val (.ref x_34), .val (.int (1 : Int32))] [(.int (own_de (32 : Int32)))])) st35 ?_
        refine Go.st (g' := (mkF m 76 #[.val (.int p0), .val (.int p1), .val (.int p2), .val (.int p3), .val (.int (2 : Int32)), .val (.int (32 : Int32)), .val (.int (p1 &&& (65535 : Int32))), .val (.int (p2 &&& (65535 : Int32))), .val (.ref x_34), .val (.int (1 : Int32))] [(.int (1 : Int32)), (.int (own_de (32 : Int32)))])) (fun _ k => XS.iload W35.here hx rfl (hb hby at_74) rfl  k) ?_
        refine Go.st (g' := (mkF m 79 #[.val (.int p0), .val (.int p1), .val (.int p2), .val (.int p3), .val (.int (2 : Int32)), .val (.int (32 : Int32)), .val (.int (p1 &&& (65535 : Int32))), .val (.int (p2 &&& (65535 : Int32))), .val (.ref x_34), .val (.int (1 : Int32))] [])) (fun _ k => XS.icmpNo W35.here hx rfl (hb hby at_76) rfl (teq (by unfold own_de; decide)).2 k) ?_
        refine Go.st (g' := (mkF m 80 #[.val (.int p0), .val (.int p1), .val (.int p2), .val (.int p3), .val (.int (2 : Int32)), .val (.int (32 : Int32)), .val (.int (p1 &&& (65535 : Int32))), .val (.int (p2 &&& (65535 : Int32))), .val (.ref x_34), .val (.int (1 : Int32))] [(.int (1 : Int32))])) (fun _ k => XS.iconst W35.here hx rfl (hb hby at_79) k) ?_
        refine Go.st (g' := (mkF m 84 #[.val (.int p0), .val (.int p1), .val (.int p2), .val (.int p3), .val (.int (2 : Int32)), .val (.int (32 : Int32)), .val (.int (p1 &&& (65535 : Int32))), .val (.int (p2 &&& (65535 : Int32))), .val (.ref x_34), .val (.int (1 : Int32))] [(.int (1 : Int32))])) (fun _ k => XS.goto W35.here hx rfl (pc0 := 80) (pc' := 84) rfl (hb hby at_80) (by decide) (by decide) k) ?_
        exact W35.retN hx hEL hlk (t := .boolean) hret (by decide) (hb hby at_84) (by decide) (by decide) rfl
  · rw [q]
    refine Go.st (g' := (mkF m 6 #[.val (.int p0), .val (.int p1), .val (.int p2), .val (.int p3), .val (.int (3 : Int32)), .unset, .unset, .unset, .unset, .unset] [(.int p3)])) (fun _ k => XS.iloadN W0.here hx rfl (hb hby at_5) rfl  k) ?_
    refine Go.st (g' := (mkF m 7 #[.val (.int p0), .val (.int p1), .val (.int p2), .val (.int p3), .val (.int (3 : Int32)), .unset, .unset, .unset, .unset, .unset] [(.int (4 : Int32)), (.int p3)])) (fun _ k => XS.iconst W0.here hx rfl (hb hby at_6) k) ?_
    refine Go.st (g' := (mkF m 8 #[.val (.int p0), .val (.int p1), .val (.int p2), .val (.int p3), .val (.int (3 : Int32)), .unset, .unset, .unset, .unset, .unset] [(.int (p3 &&& (4 : Int32)))])) (fun _ k => XS.iand W0.here hx rfl (hb hby at_7) rfl k) ?_
    by_cases hc36 : (p3 &&& (4 : Int32)) = (0 : Int32)
    · refine Go.st (g' := (mkF m 16 #[.val (.int p0), .val (.int p1), .val (.int p2), .val (.int p3), .val (.int (3 : Int32)), .unset, .unset, .unset, .unset, .unset] [])) (fun _ k => XS.ifYes W0.here hx rfl (pc0 := 8) (pc' := 16) rfl (hb hby at_8) rfl ((if0 _ _).trans (teq hc36).1) (by decide) (by decide) k) ?_
      refine Go.st (g' := (mkF m 17 #[.val (.int p0), .val (.int p1), .val (.int p2), .val (.int p3), .val (.int (3 : Int32)), .unset, .unset, .unset, .unset, .unset] [(.int p0)])) (fun _ k => XS.iloadN W0.here hx rfl (hb hby at_16) rfl  k) ?_
      refine Go.st (g' := (mkF m 19 #[.val (.int p0), .val (.int p1), .val (.int p2), .val (.int p3), .val (.int (3 : Int32)), .unset, .unset, .unset, .unset, .unset] [(.int (65535 : Int32)), (.int p0)])) (W0.ldcI hx (hw _ (List.mem_of_getElem? (i := 0) rfl)) (g := (mkF m 17 #[.val (.int p0), .val (.int p1), .val (.int p2), .val (.int p3), .val (.int (3 : Int32)), .unset, .unset, .unset, .unset, .unset] [(.int p0)])) rfl (hb hby at_17)) ?_
      refine Go.st (g' := (mkF m 20 #[.val (.int p0), .val (.int p1), .val (.int p2), .val (.int p3), .val (.int (3 : Int32)), .unset, .unset, .unset, .unset, .unset] [(.int (p0 &&& (65535 : Int32)))])) (fun _ k => XS.iand W0.here hx rfl (hb hby at_19) rfl k) ?_
      refine Go.st (g' := (mkF m 21 #[.val (.int p0), .val (.int p1), .val (.int p2), .val (.int p3), .val (.int (3 : Int32)), .unset, .unset, .unset, .unset, .unset] [(.int ((p0 &&& (65535 : Int32)).toUInt32.toUInt16.toUInt32.toInt32))])) (fun _ k => XS.i2c W0.here hx rfl (hb hby at_20) rfl k) ?_
      rw [own_i2c16]
      refine Go.st (g' := (mkF m 23 #[.val (.int p0), .val (.int p1), .val (.int p2), .val (.int p3), .val (.int (3 : Int32)), .val (.int (p0 &&& (65535 : Int32))), .unset, .unset, .unset, .unset] [])) (fun _ k => XS.istore W0.here hx rfl (hb hby at_21) rfl (l' := #[.val (.int p0), .val (.int p1), .val (.int p2), .val (.int p3), .val (.int (3 : Int32)), .val (.int (p0 &&& (65535 : Int32))), .unset, .unset, .unset, .unset]) rfl k) ?_
      refine Go.st (g' := (mkF m 24 #[.val (.int p0), .val (.int p1), .val (.int p2), .val (.int p3), .val (.int (3 : Int32)), .val (.int (p0 &&& (65535 : Int32))), .unset, .unset, .unset, .unset] [(.int p1)])) (fun _ k => XS.iloadN W0.here hx rfl (hb hby at_23) rfl  k) ?_
      refine Go.st (g' := (mkF m 26 #[.val (.int p0), .val (.int p1), .val (.int p2), .val (.int p3), .val (.int (3 : Int32)), .val (.int (p0 &&& (65535 : Int32))), .unset, .unset, .unset, .unset] [(.int (65535 : Int32)), (.int p1)])) (W0.ldcI hx (hw _ (List.mem_of_getElem? (i := 0) rfl)) (g := (mkF m 24 #[.val (.int p0), .val (.int p1), .val (.int p2), .val (.int p3), .val (.int (3 : Int32)), .val (.int (p0 &&& (65535 : Int32))), .unset, .unset, .unset, .unset] [(.int p1)])) rfl (hb hby at_24)) ?_
      refine Go.st (g' := (mkF m 27 #[.val (.int p0), .val (.int p1), .val (.int p2), .val (.int p3), .val (.int (3 : Int32)), .val (.int (p0 &&& (65535 : Int32))), .unset, .unset, .unset, .unset] [(.int (p1 &&& (65535 : Int32)))])) (fun _ k => XS.iand W0.here hx rfl (hb hby at_26) rfl k) ?_
      refine Go.st (g' := (mkF m 28 #[.val (.int p0), .val (.int p1), .val (.int p2), .val (.int p3), .val (.int (3 : Int32)), .val (.int (p0 &&& (65535 : Int32))), .unset, .unset, .unset, .unset] [(.int ((p1 &&& (65535 : Int32)).toUInt32.toUInt16.toUInt32.toInt32))])) (fun _ k => XS.i2c W0.here hx rfl (hb hby at_27) rfl k) ?_
      rw [own_i2c16]
      refine Go.st (g' := (mkF m 30 #[.val (.int p0), .val (.int p1), .val (.int p2), .val (.int p3), .val (.int (3 : Int32)), .val (.int (p0 &&& (65535 : Int32))), .val (.int (p1 &&& (65535 : Int32))), .unset, .unset, .unset] [])) (fun _ k => XS.istore W0.here hx rfl (hb hby at_28) rfl (l' := #[.val (.int p0), .val (.int p1), .val (.int p2), .val (.int p3), .val (.int (3 : Int32)), .val (.int (p0 &&& (65535 : Int32))), .val (.int (p1 &&& (65535 : Int32))), .unset, .unset, .unset]) rfl k) ?_
      refine Go.st (g' := (mkF m 31 #[.val (.int p0), .val (.int p1), .val (.int p2), .val (.int p3), .val (.int (3 : Int32)), .val (.int (p0 &&& (65535 : Int32))), .val (.int (p1 &&& (65535 : Int32))), .unset, .unset, .unset] [(.int p2)])) (fun _ k => XS.iloadN W0.here hx rfl (hb hby at_30) rfl  k) ?_
      refine Go.st (g' := (mkF m 33 #[.val (.int p0), .val (.int p1), .val (.int p2), .val (.int p3), .val (.int (3 : Int32)), .val (.int (p0 &&& (65535 : Int32))), .val (.int (p1 &&& (65535 : Int32))), .unset, .unset, .unset] [(.int (65535 : Int32)), (.int p2)])) (W0.ldcI hx (hw _ (List.mem_of_getElem? (i := 0) rfl)) (g := (mkF m 31 #[.val (.int p0), .val (.int p1), .val (.int p2), .val (.int p3), .val (.int (3 : Int32)), .val (.int (p0 &&& (65535 : Int32))), .val (.int (p1 &&& (65535 : Int32))), .unset, .unset, .unset] [(.int p2)])) rfl (hb hby at_31)) ?_
      refine Go.st (g' := (mkF m 34 #[.val (.int p0), .val (.int p1), .val (.int p2), .val (.int p3), .val (.int (3 : Int32)), .val (.int (p0 &&& (65535 : Int32))), .val (.int (p1 &&& (65535 : Int32))), .unset, .unset, .unset] [(.int (p2 &&& (65535 : Int32)))])) (fun _ k => XS.iand W0.here hx rfl (hb hby at_33) rfl k) ?_
      refine Go.st (g' := (mkF m 35 #[.val (.int p0), .val (.int p1), .val (.int p2), .val (.int p3), .val (.int (3 : Int32)), .val (.int (p0 &&& (65535 : Int32))), .val (.int (p1 &&& (65535 : Int32))), .unset, .unset, .unset] [(.int ((p2 &&& (65535 : Int32)).toUInt32.toUInt16.toUInt32.toInt32))])) (fun _ k => XS.i2c W0.here hx rfl (hb hby at_34) rfl k) ?_
      rw [own_i2c16]
      refine Go.st (g' := (mkF m 37 #[.val (.int p0), .val (.int p1), .val (.int p2), .val (.int p3), .val (.int (3 : Int32)), .val (.int (p0 &&& (65535 : Int32))), .val (.int (p1 &&& (65535 : Int32))), .val (.int (p2 &&& (65535 : Int32))), .unset, .unset] [])) (fun _ k => XS.istore W0.here hx rfl (hb hby at_35) rfl (l' := #[.val (.int p0), .val (.int p1), .val (.int p2), .val (.int p3), .val (.int (3 : Int32)), .val (.int (p0 &&& (65535 : Int32))), .val (.int (p1 &&& (65535 : Int32))), .val (.int (p2 &&& (65535 : Int32))), .unset, .unset]) rfl k) ?_
      refine Go.st (g' := (mkF m 39 #[.val (.int p0), .val (.int p1), .val (.int p2), .val (.int p3), .val (.int (3 : Int32)), .val (.int (p0 &&& (65535 : Int32))), .val (.int (p1 &&& (65535 : Int32))), .val (.int (p2 &&& (65535 : Int32))), .unset, .unset] [(.int (3 : Int32))])) (fun _ k => XS.iload W0.here hx rfl (hb hby at_37) rfl  k) ?_
      refine Go.st (g' := (mkF m 41 #[.val (.int p0), .val (.int p1), .val (.int p2), .val (.int p3), .val (.int (3 : Int32)), .val (.int (p0 &&& (65535 : Int32))), .val (.int (p1 &&& (65535 : Int32))), .val (.int (p2 &&& (65535 : Int32))), .unset, .unset] [(.int (p0 &&& (65535 : Int32))), (.int (3 : Int32))])) (fun _ k => XS.iload W0.here hx rfl (hb hby at_39) rfl  k) ?_
      refine Go.st (g' := (mkF m 43 #[.val (.int p0), .val (.int p1), .val (.int p2), .val (.int p3), .val (.int (3 : Int32)), .val (.int (p0 &&& (65535 : Int32))), .val (.int (p1 &&& (65535 : Int32))), .val (.int (p2 &&& (65535 : Int32))), .unset, .unset] [(.int (p1 &&& (65535 : Int32))), (.int (p0 &&& (65535 : Int32))), (.int (3 : Int32))])) (fun _ k => XS.iload W0.here hx rfl (hb hby at_41) rfl  k) ?_
      refine Go.st (g' := (mkF m 45 #[.val (.int p0), .val (.int p1), .val (.int p2), .val (.int p3), .val (.int (3 : Int32)), .val (.int (p0 &&& (65535 : Int32))), .val (.int (p1 &&& (65535 : Int32))), .val (.int (p2 &&& (65535 : Int32))), .unset, .unset] [(.int (p2 &&& (65535 : Int32))), (.int (p1 &&& (65535 : Int32))), (.int (p0 &&& (65535 : Int32))), (.int (3 : Int32))])) (fun _ k => XS.iload W0.here hx rfl (hb hby at_43) rfl  k) ?_
      by_cases hc37 : (255 : Int32) < (p0 &&& (65535 : Int32)) ∨ (255 : Int32) < (p1 &&& (65535 : Int32)) ∨ (255 : Int32) < (p2 &&& (65535 : Int32))
      · obtain ⟨_, vm38, T38, h38, W38, Q38, z38, SF38, st38⟩ := W0.callS hx hEL (own_makeW3 l hE W0.old (c1 := (p0 &&& (65535 : Int32))) (c2 := (p1 &&& (65535 : Int32))) (c3 := (p2 &&& (65535 : Int32))) (own_chr _) (own_chr _) (own_chr _) hc37 ) (hw _ (List.mem_of_getElem? (i := 1) rfl)) (hw _ (List.mem_of_getElem? (i := 2) rfl)) (hw _ (List.mem_of_getElem? (i := 3) rfl)) (hw _ (List.mem_of_getElem? (i := 4) rfl)) (by decide) (Wd := 0) (by decide) (by decide) (by decide) (by decide) (g := (mkF m 45 #[.val (.int p0), .val (.int p1), .val (.int p2), .val (.int p3), .val (.int (3 : Int32)), .val (.int (p0 &&& (65535 : Int32))), .val (.int (p1 &&& (65535 : Int32))), .val (.int (p2 &&& (65535 : Int32))), .unset, .unset] [(.int (p2 &&& (65535 : Int32))), (.int (p1 &&& (65535 : Int32))), (.int (p0 &&& (65535 : Int32))), (.int (3 : Int32))])) rfl (by rw [hml]; rfl) (argsL := [(.int (3 : Int32)), (.int (p0 &&& (65535 : Int32))), (.int (p1 &&& (65535 : Int32))), (.int (p2 &&& (65535 : Int32)))]) (rest := []) rfl (lenOf pd__ICCC_Ljava_lang_String_ rfl) rfl (by show 2 * 0 + _ ≤ _; exact Nat.le_of_eq rfl) (hb hby at_45)
        obtain ⟨x_38, t_38, kt_38, rfl, p38_0, f38_0, f38_1, f38_2, f38_3, K38⟩ := Q38
        have yf38_0 : h38.size > x_38 := f38_0.lt
        have yf38_3 : h38.size > t_38 := f38_3.lt
        refine Go.tr (g' := (mkF m 48 #[.val (.int p0), .val (.int p1), .val (.int p2), .val (.int p3), .val (.int (3 : Int32)), .val (.int (p0 &&& (65535 : Int32))), .val (.int (p1 &&& (65535 : Int32))), .val (.int (p2 &&& (65535 : Int32))), .unset, .unset] [(.ref x_38)])) st38 ?_
        refine Go.st (g' := (mkF m 50 #[.val (.int p0), .val (.int p1), .val (.int p2), .val (.int p3), .val (.int (3 : Int32)), .val (.int (p0 &&& (65535 : Int32))), .val (.int (p1 &&& (65535 : Int32))), .val (.int (p2 &&& (65535 : Int32))), .val (.ref x_38), .unset] [])) (fun _ k => XS.astore W38.here hx rfl (hb hby at_48) rfl rfl (l' := #[.val (.int p0), .val (.int p1), .val (.int p2), .val (.int p3), .val (.int (3 : Int32)), .val (.int (p0 &&& (65535 : Int32))), .val (.int (p1 &&& (65535 : Int32))), .val (.int (p2 &&& (65535 : Int32))), .val (.ref x_38), .unset]) rfl k) ?_
        refine Go.st (g' := (mkF m 52 #[.val (.int p0), .val (.int p1), .val (.int p2), .val (.int p3), .val (.int (3 : Int32)), .val (.int (p0 &&& (65535 : Int32))), .val (.int (p1 &&& (65535 : Int32))), .val (.int (p2 &&& (65535 : Int32))), .val (.ref x_38), .unset] [(.int (3 : Int32))])) (fun _ k => XS.iload W38.here hx rfl (hb hby at_50) rfl  k) ?_
        refine Go.st (g' := (mkF m 55 #[.val (.int p0), .val (.int p1), .val (.int p2), .val (.int p3), .val (.int (3 : Int32)), .val (.int (p0 &&& (65535 : Int32))), .val (.int (p1 &&& (65535 : Int32))), .val (.int (p2 &&& (65535 : Int32))), .val (.ref x_38), .unset] [])) (fun _ k => XS.ifNo W38.here hx rfl (hb hby at_52) rfl ((if0 _ _).trans (tlt (by decide)).2.2.2) k) ?_
        refine Go.st (g' := (mkF m 57 #[.val (.int p0), .val (.int p1), .val (.int p2), .val (.int p3), .val (.int (3 : Int32)), .val (.int (p0 &&& (65535 : Int32))), .val (.int (p1 &&& (65535 : Int32))), .val (.int (p2 &&& (65535 : Int32))), .val (.ref x_38), .unset] [(.int (p0 &&& (65535 : Int32)))])) (fun _ k => XS.iload W38.here hx rfl (hb hby at_55) rfl  k) ?_
        refine Go.st (g' := (mkF m 59 #[.val (.int p0), .val (.int p1), .val (.int p2), .val (.int p3), .val (.int (3 : Int32)), .val (.int (p0 &&& (65535 : Int32))), .val (.int (p1 &&& (65535 : Int32))), .val (.int (p2 &&& (65535 : Int32))), .val (.ref x_38), .unset] [(.int (32 : Int32)), (.int (p0 &&& (65535 : Int32)))])) (fun _ k => XS.bipush W38.here hx rfl (hb hby at_57) k) ?_
        by_cases hc39 : (p0 &&& (65535 : Int32)) = (32 : Int32)
        · refine Go.st (g' := (mkF m 62 #[.val (.int p0), .val (.int p1), .val (.int p2), .val (.int p3), .val (.int (3 : Int32)), .val (.int (p0 &&& (65535 : Int32))), .val (.int (p1 &&& (65535 : Int32))), .val (.int (p2 &&& (65535 : Int32))), .val (.ref x_38), .unset] [])) (fun _ k => XS.icmpNo W38.here hx rfl (hb hby at_59) rfl (teq hc39).2 k) ?_
          refine Go.st (g' := (mkF m 63 #[.val (.int p0), .val (.int p1), .val (.int p2), .val (.int p3), .val (.int (3 : Int32)), .val (.int (p0 &&& (65535 : Int32))), .val (.int (p1 &&& (65535 : Int32))), .val (.int (p2 &&& (65535 : Int32))), .val (.ref x_38), .unset] [(.int (1 : Int32))])) (fun _ k => XS.iconst W38.here hx rfl (hb hby at_62) k) ?_
          refine Go.st (g' := (mkF m 67 #[.val (.int p0), .val (.int p1), .val (.int p2), .val (.int p3), .val (.int (3 : Int32)), .val (.int (p0 &&& (65535 : Int32))), .val (.int (p1 &&& (65535 : Int32))), .val (.int (p2 &&& (65535 : Int32))), .val (.ref x_38), .unset] [(.int (1 : Int32))])) (fun _ k => XS.goto W38.here hx rfl (pc0 := 63) (pc' := 67) rfl (hb hby at_63) (by decide) (by decide) k) ?_
          refine Go.st (g' := (mkF m 69 #[.val (.int p0), .val (.int p1), .val (.int p2), .val (.int p3), .val (.int (3 : Int32)), .val (.int (p0 &&& (65535 : Int32))), .val (.int (p1 &&& (65535 : Int32))), .val (.int (p2 &&& (65535 : Int32))), .val (.ref x_38), .val (.int (1 : Int32))] [])) (fun _ k => XS.istore W38.here hx rfl (hb hby at_67) rfl (l' := #[.val (.int p0), .val (.int p1), .val (.int p2), .val (.int p3), .val (.int (3 : Int32)), .val (.int (p0 &&& (65535 : Int32))), .val (.int (p1 &&& (65535 : Int32))), .val (.int (p2 &&& (65535 : Int32))), .val (.ref x_38), .val (.int (1 : Int32))]) rfl k) ?_
          refine Go.st (g' := (mkF m 71 #[.val (.int p0), .val (.int p1), .val (.int p2), .val (.int p3), .val (.int (3 : Int32)), .val (.int (p0 &&& (65535 : Int32))), .val (.int (p1 &&& (65535 : Int32))), .val (.int (p2 &&& (65535 : Int32))), .val (.ref x_38), .val (.int (1 : Int32))] [(.ref x_38)])) (fun _ k => XS.aload W38.here hx rfl (hb hby at_69) rfl rfl  k) ?_
          obtain ⟨_, vm40, T40, h40, W40, Q40, z40, SF40, st40⟩ := W38.callS hx hEL (own_deW3 l hE W38.old (x0 := x_38) (t0 := t_38) (kt := kt_38) (c1 := (p0 &&& (65535 : Int32))) (c2 := (p1 &&& (65535 : Int32))) (c3 := (p2 &&& (65535 : Int32))) (own_chr _) f38_0 f38_1 f38_2 f38_3) (hw _ (List.mem_of_getElem? (i := 31) rfl)) (hw _ (List.mem_of_getElem? (i := 32) rfl)) (hw _ (List.mem_of_getElem? (i := 33) rfl)) (hw _ (List.mem_of_getElem? (i := 34) rfl)) (by decide) (Wd := 0) (by decide) (by decide) (by decide) (by decide) (g := (mkF m 71 #[.val (.int p0), .val (.int p1), .val (.int p2), .val (.int p3), .val (.int (3 : Int32)), .val (.int (p0 &&& (65535 : Int32))), .val (.int (p1 &&& (65535 : Int32))), .val (.int (p2 &&& (65535 : Int32))), .val (.ref x_38), .val (.int (1 : Int32))] [(.ref x_38)])) rfl (by rw [hml]; rfl) (argsL := [(.ref x_38)]) (rest := []) rfl (lenOf pd__Ljava_lang_String__Z rfl) rfl (by show 2 * 0 + _ ≤ _; exact Nat.le_of_eq rfl) (hb hby at_71)
          obtain ⟨rfl, eh40⟩ := Q40
          subst eh40
          refine Go.tr (g' := (mkF m 74 #[.val (.int p0), .val (.int p1), .val (.int p2), .val (.int p3), .val (.int (3 : Int32)), .val (.int (p0 &&& (65535 : Int32))), .val (.int (p1 &&& (65535 : Int32))), .val (.int (p2 &&& (65535 : Int32))), .val (.ref x_38), .val (.int (1 : Int32))] [(.int (own_de (p0 &&& (65535 : Int32))))])) st40 ?_
          refine Go.st (g' := (mkF m 76 #[.val (.int p0), .val (.int p1), .val (.int p2), .val (.int p3), .val (.int (3 : Int32)), .val (.int (p0 &&& (65535 : Int32))), .val (.int (p1 &&& (65535 : Int32))), .val (.int (p2 &&& (65535 : Int32))), .val (.ref x_38), .val (.int (1 : Int32))] [(.int (1 : Int32)), (.int (own_de (p0 &&& (65535 : Int32))))])) (fun _ k => XS.iload W40.here hx rfl (hb hby at_74) rfl  k) ?_
          refine Go.st (g' := (mkF m 79 #[.val (.int p0), .val (.int p1), .val (.int p2), .val (.int p3), .val (.int (3 : Int32)), .val (.int (p0 &&& (65535 : Int32))), .val (.int (p1 &&& (65535 : Int32))), .val (.int (p2 &&& (65535 : Int32))), .val (.ref x_38), .val (.int (1 : Int32))] [])) (fun _ k => XS.icmpNo W40.here hx rfl (hb hby at_76) rfl (teq (if_pos hc39)).2 k) ?_
          refine Go.st (g' := (mkF m 80 #[.val (.int p0), .val (.int p1), .val (.int p2), .val (.int p3), .val (.int (3 : Int32)), .val (.int (p0 &&& (65535 : Int32))), .val (.int (p1 &&& (65535 : Int32))), .val (.int (p2 &&& (65535 : Int32))), .val (.ref x_38), .val (.int (1 : Int32))] [(.int (1 : Int32))])) (fun _ k => XS.iconst W40.here hx rfl (hb hby at_79) k) ?_
          refine Go.st (g' := (mkF m 84 #[.val (.int p0), .val (.int p1), .val (.int p2), .val (.int p3), .val (.int (3 : Int32)), .val (.int (p0 &&& (65535 : Int32))), .val (.int (p1 &&& (65535 : Int32))), .val (.int (p2 &&& (65535 : Int32))), .val (.ref x_38), .val (.int (1 : Int32))] [(.int (1 : Int32))])) (fun _ k => XS.goto W40.here hx rfl (pc0 := 80) (pc' := 84) rfl (hb hby at_80) (by decide) (by decide) k) ?_
          exact W40.retN hx hEL hlk (t := .boolean) hret (by decide) (hb hby at_84) (by decide) (by decide) rfl
        · refine Go.st (g' := (mkF m 66 #[.val (.int p0), .val (.int p1), .val (.int p2), .val (.int p3), .val (.int (3 : Int32)), .val (.int (p0 &&& (65535 : Int32))), .val (.int (p1 &&& (65535 : Int32))), .val (.int (p2 &&& (65535 : Int32))), .val (.ref x_38), .unset] [])) (fun _ k => XS.icmpYes W38.here hx rfl (pc0 := 59) (pc' := 66) rfl (hb hby at_59) rfl (feq hc39).2 (by decide) (by decide) k) ?_
          refine Go.st (g' := (mkF m 67 #[.val (.int p0), .val (.int p1), .val (.int p2), .val (.int p3), .val (.int (3 : Int32)), .val (.int (p0 &&& (65535 : Int32))), .val (.int (p1 &&& (65535 : Int32))), .val (.int (p2 &&& (65535 : Int32))), .val (.ref x_38), .unset] [(.int (0 : Int32))])) (fun _ k => XS.iconst W38.here hx rfl (hb hby at_66) k) ?_
          refine Go.st (g' := (mkF m 69 #[.val (.int p0), .val (.int p1), .val (.int p2), .val (.int p3), .val (.int (3 : Int32)), .val (.int (p0 &&& (65535 : Int32))), .val (.int (p1 &&& (65535 : Int32))), .val (.int (p2 &&& (65535 : Int32))), .val (.ref x_38), .val (.int (0 : Int32))] [])) (fun _ k => XS.istore W38.here hx rfl (hb hby at_67) rfl (l' := #[.val (.int p0), .val (.int p1), .val (.int p2), .val (.int p3), .val (.int (3 : Int32)), .val (.int (p0 &&& (65535 : Int32))), .val (.int (p1 &&& (65535 : Int32))), .val (.int (p2 &&& (65535 : Int32))), .val (.ref x_38), .val (.int (0 : Int32))]) rfl k) ?_
          refine Go.st (g' := (mkF m 71 #[.val (.int p0), .val (.int p1), .val (.int p2), .val (.int p3), .val (.int (3 : Int32)), .val (.int (p0 &&& (65535 : Int32))), .val (.int (p1 &&& (65535 : Int32))), .val (.int (p2 &&& (65535 : Int32))), .val (.ref x_38), .val (.int (0 : Int32))] [(.ref x_38)])) (fun _ k => XS.aload W38.here hx rfl (hb hby at_69) rfl rfl  k) ?_
          obtain ⟨_, vm41, T41, h41, W41, Q41, z41, SF41, st41⟩ := W38.callS hx hEL (own_deW3 l hE W38.old (x0 := x_38) (t0 := t_38) (kt := kt_38) (c1 := (p0 &&& (65535 : Int32))) (c2 := (p1 &&& (65535 : Int32))) (c3 := (p2 &&& (65535 : Int32))) (own_chr _) f38_0 f38_1 f38_2 f38_3) (hw _ (List.mem_of_getElem? (i := 31) rfl)) (hw _ (List.mem_of_getElem? (i := 32) rfl)) (hw _ (List.mem_of_getElem? (i := 33) rfl)) (hw _ (List.mem_of_getElem? (i := 34) rfl)) (by decide) (Wd := 0) (by decide) (by decide) (by decide) (by decide) (g := (mkF m 71 #[.val (.int p0), .val (.int p1), .val (.int p2), .val (.int p3), .val (.int (3 : Int32)), .val (.int (p0 &&& (65535 : Int32))), .val (.int (p1 &&& (65535 : Int32))), .val (.int (p2 &&& (65535 : Int32))), .val (.ref x_38), .val (.int (0 : Int32))] [(.ref x_38)])) rfl (by rw [hml]; rfl) (argsL := [(.ref x_38)]) (rest := []) rfl (lenOf pd__Ljava_lang_String__Z rfl) rfl (by show 2 * 0 + _ ≤ _; exact Nat.le_of_eq rfl) (hb hby at_71)
          obtain ⟨rfl, eh41⟩ := Q41
          subst eh41
          refine Go.tr (g' := (mkF m 74 #[.val (.int p0), .val (.int p1), .val (.int p2), .val (.int p3), .val (.int (3 : Int32)), .val (.int (p0 &&& (65535 : Int32))), .val (.int (p1 &&& (65535 : Int32))), .val (.int (p2 &&& (65535 : Int32))), .val (.ref x_38), .val (.int (0 : Int32))] [(.int (own_de (p0 &&& (65535 : Int32))))])) st41 ?_
          refine Go.st (g' := (mkF m 76 #[.val (.int p0), .val (.int p1), .val (.int p2), .val (.int p3), .val (.int (3 : Int32)), .val (.int (p0 &&& (65535 : Int32))), .val (.int (p1 &&& (65535 : Int32))), .val (.int (p2 &&& (65535 : Int32))), .val (.ref x_38), .val (.int (0 : Int32))] [(.int (0 : Int32)), (.int (own_de (p0 &&& (65535 : Int32))))])) (fun _ k => XS.iload W41.here hx rfl (hb hby at_74) rfl  k) ?_
          refine Go.st (g' := (mkF m 79 #[.val (.int p0), .val (.int p1), .val (.int p2), .val (.int p3), .val (.int (3 : Int32)), .val (.int (p0 &&& (65535 : Int32))), .val (.int (p1 &&& (65535 : Int32))), .val (.int (p2 &&& (65535 : Int32))), .val (.ref x_38), .val (.int (0 : Int32))] [])) (fun _ k => XS.icmpNo W41.here hx rfl (hb hby at_76) rfl (teq (if_neg hc39)).2 k) ?_
          refine Go.st (g' := (mkF m 80 #[.val (.int p0), .val (.int p1), .val (.int p2), .val (.int p3), .val (.int (3 : Int32)), .val (.int (p0 &&& (65535 : Int32))), .val (.int (p1 &&& (65535 : Int32))), .val (.int (p2 &&& (65535 : Int32))), .val (.ref x_38), .val (.int (0 : Int32))] [(.int (1 : Int32))])) (fun _ k => XS.iconst W41.here hx rfl (hb hby at_79) k) ?_
          refine Go.st (g' := (mkF m 84 #[.val (.int p0), .val (.int p1), .val (.int p2), .val (.int p3), .val (.int (3 : Int32)), .val (.int (p0 &&& (65535 : Int32))), .val (.int (p1 &&& (65535 : Int32))), .val (.int (p2 &&& (65535 : Int32))), .val (.ref x_38), .val (.int (0 : Int32))] [(.int (1 : Int32))])) (fun _ k => XS.goto W41.here hx rfl (pc0 := 80) (pc' := 84) rfl (hb hby at_80) (by decide) (by decide) k) ?_
          exact W41.retN hx hEL hlk (t := .boolean) hret (by decide) (hb hby at_84) (by decide) (by decide) rfl
      · obtain ⟨_, vm42, T42, h42, W42, Q42, z42, SF42, st42⟩ := W0.callS hx hEL (own_makeL3 l hE W0.old (c1 := (p0 &&& (65535 : Int32))) (c2 := (p1 &&& (65535 : Int32))) (c3 := (p2 &&& (65535 : Int32))) (own_chr _) (own_chr _) (own_chr _) ⟨(own_chr _).1, fun z => hc37 (Or.inl z)⟩ ⟨(own_chr _).1, fun z => hc37 (Or.inr (Or.inl z))⟩ ⟨(own_chr _).1, fun z => hc37 (Or.inr (Or.inr (z)))⟩ ) (hw _ (List.mem_of_getElem? (i := 1) rfl)) (hw _ (List.mem_of_getElem? (i := 2) rfl)) (hw _ (List.mem_of_getElem? (i := 3) rfl)) (hw _ (List.mem_of_getElem? (i := 4) rfl)) (by decide) (Wd := 0) (by decide) (by decide) (by decide) (by decide) (g := (mkF m 45 #[.val (.int p0), .val (.int p1), .val (.int p2), .val (.int p3), .val (.int (3 : Int32)), .val (.int (p0 &&& (65535 : Int32))), .val (.int (p1 &&& (65535 : Int32))), .val (.int (p2 &&& (65535 : Int32))), .unset, .unset] [(.int (p2 &&& (65535 : Int32))), (.int (p1 &&& (65535 : Int32))), (.int (p0 &&& (65535 : Int32))), (.int (3 : Int32))])) rfl (by rw [hml]; rfl) (argsL := [(.int (3 : Int32)), (.int (p0 &&& (65535 : Int32))), (.int (p1 &&& (65535 : Int32))), (.int (p2 &&& (65535 : Int32)))]) (rest := []) rfl (lenOf pd__ICCC_Ljava_lang_String_ rfl) rfl (by show 2 * 0 + _ ≤ _; exact Nat.le_of_eq rfl) (hb hby at_45)
        obtain ⟨x_42, t_42, rfl, p42_0, f42_0, K42⟩ := Q42
        have yf42_0 : h42.size > x_42 ∧ h42.size > t_42 := f42_0.lt
        refine Go.tr (g' := (mkF m 48 #[.val (.int p0), .val (.int p1), .val (.int p2), .val (.int p3), .val (.int (3 : Int32)), .val (.int (p0 &&& (65535 : Int32))), .val (.int (p1 &&& (65535 : Int32))), .val (.int (p2 &&& (65535 : Int32))), .unset, .unset] [(.ref x_42)])) st42 ?_
        refine Go.st (g' := (mkF m 50 #[.val (.int p0), .val (.int p1), .val (.int p2), .val (.int p3), .val (.int (3 : Int32)), .val (.int (p0 &&& (65535 : Int32))), .val (.int (p1 &&& (65535 : Int32))), .val (.int (p2 &&& (65535 : Int32))), .val (.ref x_42), .unset] [])) (fun _ k => XS.astore W42.here hx rfl (hb hby at_48) rfl rfl (l' := #[.val (.int p0), .val (.int p1), .val (.int p2), .val (.int p3), .val (.int (3 : Int32)), .val (.int (p0 &&& (65535 : Int32))), .val (.int (p1 &&& (65535 : Int32))), .val (.int (p2 &&& (65535 : Int32))), .val (.ref x_42), .unset]) rfl k) ?_
        refine Go.st (g' := (mkF m 52 #[.val (.int p0), .val (.int p1), .val (.int p2), .val (.int p3), .val (.int (3 : Int32)), .val (.int (p0 &&& (65535 : Int32))), .val (.int (p1 &&& (65535 : Int32))), .val (.int (p2 &&& (65535 : Int32))), .val (.ref x_42), .unset] [(.int (3 : Int32))])) (fun _ k => XS.iload W42.here hx rfl (hb hby at_50) rfl  k) ?_
        refine Go.st (g' := (mkF m 55 #[.val (.int p0), .val (.int p1), .val (.int p2), .val (.int p3), .val (.int (3 : Int32)), .val (.int (p0 &&& (65535 : Int32))), .val (.int (p1 &&& (65535 : Int32))), .val (.int (p2 &&& (65535 : Int32))), .val (.ref x_42), .unset] [])) (fun _ k => XS.ifNo W42.here hx rfl (hb hby at_52) rfl ((if0 _ _).trans (tlt (by decide)).2.2.2) k) ?_
        refine Go.st (g' := (mkF m 57 #[.val (.int p0), .val (.int p1), .val (.int p2), .val (.int p3), .val (.int (3 : Int32)), .val (.int (p0 &&& (65535 : Int32))), .val (.int (p1 &&& (65535 : Int32))), .val (.int (p2 &&& (65535 : Int32))), .val (.ref x_42), .unset] [(.int (p0 &&& (65535 : Int32)))])) (fun _ k => XS.iload W42.here hx rfl (hb hby at_55) rfl  k) ?_
        refine Go.st (g' := (mkF m 59 #[.val (.int p0), .val (.int p1), .val (.int p2), .val (.int p3), .val (.int (3 : Int32)), .val (.int (p0 &&& (65535 : Int32))), .val (.int (p1 &&& (65535 : Int32))), .val (.int (p2 &&& (65535 : Int32))), .val (.ref x_42), .unset] [(.int (32 : Int32)), (.int (p0 &&& (65535 : Int32)))])) (fun _ k => XS.bipush W42.here hx rfl (hb hby at_57) k) ?_
        by_cases hc43 : (p0 &&& (65535 : Int32)) = (32 : Int32)
        · refine Go.st (g' := (mkF m 62 #[.val (.int p0), .val (.int p1), .val (.int p2), .val (.int p3), .val (.int (3 : Int32)), .val (.int (p0 &&& (65535 : Int32))), .val (.int (p1 &&& (65535 : Int32))), .val (.int (p2 &&& (65535 : Int32))), .val (.ref x_42), .unset] [])) (fun _ k => XS.icmpNo W42.here hx rfl (hb hby at_59) rfl (teq hc43).2 k) ?_
          refine Go.st (g' := (mkF m 63 #[.val (.int p0), .val (.int p1), .val (.int p2), .val (.int p3), .val (.int (3 : Int32)), .val (.int (p0 &&& (65535 : Int32))), .val (.int (p1 &&& (65535 : Int32))), .val (.int (p2 &&& (65535 : Int32))), .val (.ref x_42), .unset] [(.int (1 : Int32))])) (fun _ k => XS.iconst W42.here hx rfl (hb hby at_62) k) ?_
          refine Go.st (g' := (mkF m 67 #[.val (.int p0), .val (.int p1), .val (.int p2), .val (.int p3), .val (.int (3 : Int32)), .val (.int (p0 &&& (65535 : Int32))), .val (.int (p1 &&& (65535 : Int32))), .val (.int (p2 &&& (65535 : Int32))), .val (.ref x_42), .unset] [(.int (1 : Int32))])) (fun _ k => XS.goto W42.here hx rfl (pc0 := 63) (pc' := 67) rfl (hb hby at_63) (by decide) (by decide) k) ?_
          refine Go.st (g' := (mkF m 69 #[.val (.int p0), .val (.int p1), .val (.int p2), .val (.int p3), .val (.int (3 : Int32)), .val (.int (p0 &&& (65535 : Int32))), .val (.int (p1 &&& (65535 : Int32))), .val (.int (p2 &&& (65535 : Int32))), .val (.ref x_42), .val (.int (1 : Int32))] [])) (fun _ k => XS.istore W42.here hx rfl (hb hby at_67) rfl (l' := #[.val (.int p0), .val (.int p1), .val (.int p2), .val (.int p3), .val (.int (3 : Int32)), .val (.int (p0 &&& (65535 : Int32))), .val (.int (p1 &&& (65535 : Int32))), .val (.int (p2 &&& (65535 : Int32))), .val (.ref x_42), .val (.int (1 : Int32))]) rfl k) ?_
          refine Go.st (g' := (mkF m 71 #[.val (.int p0), .val (.int p1), .val (.int p2), .val (.int p3), .val (.int (3 : Int32)), .val (.int (p0 &&& (65535 : Int32))), .val (.int (p1 &&& (65535 : Int32))), .val (.int (p2 &&& (65535 : Int32))), .val (.ref x_42), .val (.int (1 : Int32))] [(.ref x_42)])) (fun _ k => XS.aload W42.here hx rfl (hb hby at_69) rfl rfl  k) ?_
          obtain ⟨_, vm44, T44, h44, W44, Q44, z44, SF44, st44⟩ := W42.callS hx hEL (own_deL3 l hE W42.old (x0 := x_42) (t0 := t_42) (c1 := (p0 &&& (65535 : Int32))) (c2 := (p1 &&& (65535 : Int32))) (c3 := (p2 &&& (65535 : Int32))) ⟨(own_chr _).1, fun z => hc37 (Or.inl z)⟩ ⟨(own_chr _).1, fun z => hc37 (Or.inr (Or.inl z))⟩ ⟨(own_chr _).1, fun z => hc37 (Or.inr (Or.inr (z)))⟩ f42_0.1 f42_0) (hw _ (List.mem_of_getElem? (i := 31) rfl)) (hw _ (List.mem_of_getElem? (i := 32) rfl)) (hw _ (List.mem_of_getElem? (i := 33) rfl)) (hw _ (List.mem_of_getElem? (i := 34) rfl)) (by decide) (Wd := 0) (by decide) (by decide) (by decide) (by decide) (g := (mkF m 71 #[.val (.int p0), .val (.int p1), .val (.int p2), .val (.int p3), .val (.int (3 : Int32)), .val (.int (p0 &&& (65535 : Int32))), .val (.int (p1 &&& (65535 : Int32))), .val (.int (p2 &&& (65535 : Int32))), .val (.ref x_42), .val (.int (1 : Int32))] [(.ref x_42)])) rfl (by rw [hml]; rfl) (argsL := [(.ref x_42)]) (rest := []) rfl (lenOf pd__Ljava_lang_String__Z rfl) rfl (by show 2 * 0 + _ ≤ _; exact Nat.le_of_eq rfl) (hb hby at_71)
          obtain ⟨rfl, eh44⟩ := Q44
          subst eh44
          refine Go.tr (g' := (mkF m 74 #[.val (.int p0), .val (.int p1), .val (.int p2), .val (.int p3), .val (.int (3 : Int32)), .val (.int (p0 &&& (65535 : Int32))), .val (.int (p1 &&& (65535 : Int32))), .val (.int (p2 &&& (65535 : Int32))), .val (.ref x_42), .val (.int (1 : Int32))] [(.int (own_de (p0 &&& (65535 : Int32))))])) st44 ?_
          refine Go.st (g' := (mkF m 76 #[.val (.int p0), .val (.int p1), .val (.int p2), .val (.int p3), .val (.int (3 : Int32)), .val (.int (p0 &&& (65535 : Int32))), .val (.int (p1 &&& (65535 : Int32))), .val (.int (p2 &&& (65535 : Int32))), .val (.ref x_42), .val (.int (1 : Int32))] [(.int (1 : Int32)), (.int (own_de (p0 &&& (65535 : Int32))))])) (fun _ k => XS.iload W44.here hx rfl (hb hby at_74) rfl  k) ?_
          refine Go.st (g' := (mkF m 79 #[.val (.int p0), .val (.int p1), .val (.int p2), .val (.int p3), .val (.int (3 : Int32)), .val (.int (p0 &&& (65535 : Int32))), .val (.int (p1 &&& (65535 : Int32))), .val (.int (p2 &&& (65535 : Int32))), .val (.ref x_42), .val (.int (1 : Int32))] [])) (fun _ k => XS.icmpNo W44.here hx rfl (hb hby at_76) rfl (teq (if_pos hc43)).2 k) ?_
          refine Go.st (g' := (mkF m 80 #[.val (.int p0), .val (.int p1), .val (.int p2), .val (.int p3), .val (.int (3 : Int32)), .val (.int (p0 &&& (65535 : Int32))), .val (.int (p1 &&& (65535 : Int32))), .val (.int (p2 &&& (65535 : Int32))), .val (.ref x_42), .val (.int (1 : Int32))] [(.int (1 : Int32))])) (fun _ k => XS.iconst W44.here hx rfl (hb hby at_79) k) ?_
          refine Go.st (g' := (mkF m 84 #[.val (.int p0), .val (.int p1), .val (.int p2), .val (.int p3), .val (.int (3 : Int32)), .val (.int (p0 &&& (65535 : Int32))), .val (.int (p1 &&& (65535 : Int32))), .val (.int (p2 &&& (65535 : Int32))), .val (.ref x_42), .val (.int (1 : Int32))] [(.int (1 : Int32))])) (fun _ k => XS.goto W44.here hx rfl (pc0 := 80) (pc' := 84) rfl (hb hby at_80) (by decide) (by decide) k) ?_
          exact W44.retN hx hEL hlk (t := .boolean) hret (by decide) (hb hby at_84) (by decide) (by decide) rfl
        · refine Go.st (g' := (mkF m 66 #[.val (.int p0), .val (.int p1), .val (.int p2), .val (.int p3), .val (.int (3 : Int32)), .val (.int (p0 &&& (65535 : Int32))), .val (.int (p1 &&& (65535 : Int32))), .val (.int (p2 &&& (65535 : Int32))), .val (.ref x_42), .unset] [])) (fun _ k => XS.icmpYes W42.here hx rfl (pc0 := 59) (pc' := 66) rfl (hb hby at_59) rfl (feq hc43).2 (by decide) (by decide) k) ?_
          refine Go.st (g' := (mkF m 67 #[.val (.int p0), .val (.int p1), .val (.int p2), .val (.int p3), .val (.int (3 : Int32)), .val (.int (p0 &&& (65535 : Int32))), .val (.int (p1 &&& (65535 : Int32))), .val (.int (p2 &&& (65535 : Int32))), .val (.ref x_42), .unset] [(.int (0 : Int32))])) (fun _ k => XS.iconst W42.here hx rfl (hb hby at_66) k) ?_
          refine Go.st (g' := (mkF m 69 #[.val (.int p0), .val (.int p1), .val (.int p2), .val (.int p3), .val (.int (3 : Int32)), .val (.int (p0 &&& (65535 : Int32))), .val (.int (p1 &&& (65535 : Int32))), .val (.int (p2 &&& (65535 : Int32))), .val (.ref x_42), .val (.int (0 : Int32))] [])) (fun _ k => XS.istore W42.here hx rfl (hb hby at_67) rfl (l' := #[.val (.int p0), .val (.int p1), .val (.int p2), .val (.int p3), .val (.int (3 : Int32)), .val (.int (p0 &&& (65535 : Int32))), .val (.int (p1 &&& (65535 : Int32))), .val (.int (p2 &&& (65535 : Int32))), .val (.ref x_42), .val (.int (0 : Int32))]) rfl k) ?_
          refine Go.st (g' := (mkF m 71 #[.val (.int p0), .val (.int p1), .val (.int p2), .val (.int p3), .val (.int (3 : Int32)), .val (.int (p0 &&& (65535 : Int32))), .val (.int (p1 &&& (65535 : Int32))), .val (.int (p2 &&& (65535 : Int32))), .val (.ref x_42), .val (.int (0 : Int32))] [(.ref x_42)])) (fun _ k => XS.aload W42.here hx rfl (hb hby at_69) rfl rfl  k) ?_
          obtain ⟨_, vm45, T45, h45, W45, Q45, z45, SF45, st45⟩ := W42.callS hx hEL (own_deL3 l hE W42.old (x0 := x_42) (t0 := t_42) (c1 := (p0 &&& (65535 : Int32))) (c2 := (p1 &&& (65535 : Int32))) (c3 := (p2 &&& (65535 : Int32))) ⟨(own_chr _).1, fun z => hc37 (Or.inl z)⟩ ⟨(own_chr _).1, fun z => hc37 (Or.inr (Or.inl z))⟩ ⟨(own_chr _).1, fun z => hc37 (Or.inr (Or.inr (z)))⟩ f42_0.1 f42_0) (hw _ (List.mem_of_getElem? (i := 31) rfl)) (hw _ (List.mem_of_getElem? (i := 32) rfl)) (hw _ (List.mem_of_getElem? (i := 33) rfl)) (hw _ (List.mem_of_getElem? (i := 34) rfl)) (by decide) (Wd := 0) (by decide) (by decide) (by decide) (by decide) (g := (mkF m 71 #[.val (.int p0), .val (.int p1), .val (.int p2), .val (.int p3), .val (.int (3 : Int32)), .val (.int (p0 &&& (65535 : Int32))), .val (.int (p1 &&& (65535 : Int32))), .val (.int (p2 &&& (65535 : Int32))), .val (.ref x_42), .val (.int (0 : Int32))] [(.ref x_42)])) rfl (by rw [hml]; rfl) (argsL := [(.ref x_42)]) (rest := []) rfl (lenOf pd__Ljava_lang_String__Z rfl) rfl (by show 2 * 0 + _ ≤ _; exact Nat.le_of_eq rfl) (hb hby at_71)
          obtain ⟨rfl, eh45⟩ := Q45
          subst eh45
          refine Go.tr (g' := (mkF m 74 #[.val (.int p0), .val (.int p1), .val (.int p2), .val (.int p3), .val (.int (3 : Int32)), .val (.int (p0 &&& (65535 : Int32))), .val (.int (p1 &&& (65535 : Int32))), .val (.int (p2 &&& (65535 : Int32))), .val (.ref x_42), .val (.int (0 : Int32))] [(.int (own_de (p0 &&& (65535 : Int32))))])) st45 ?_
          refine Go.st (g' := (mkF m 76 #[.val (.int p0), .val (.int p1), .val (.int p2), .val (.int p3), .val (.int (3 : Int32)), .val (.int (p0 &&& (65535 : Int32))), .val (.int (p1 &&& (65535 : Int32))), .val (.int (p2 &&& (65535 : Int32))), .val (.ref x_42), .val (.int (0 : Int32))] [(.int (0 : Int32)), (.int (own_de (p0 &&& (65535 : Int32))))])) (fun _ k => XS.iload W45.here hx rfl (hb hby at_74) rfl  k) ?_
          refine Go.st (g' := (mkF m 79 #[.val (.int p0), .val (.int p1), .val (.int p2), .val (.int p3), .val (.int (3 : Int32)), .val (.int (p0 &&& (65535 : Int32))), .val (.int (p1 &&& (65535 : Int32))), .val (.int (p2 &&& (65535 : Int32))), .val (.ref x_42), .val (.int (0 : Int32))] [])) (fun _ k => XS.icmpNo W45.here hx rfl (hb hby at_76) rfl (teq (if_neg hc43)).2 k) ?_
          refine Go.st (g' := (mkF m 80 #[.val (.int p0), .val (.int p1), .val (.int p2), .val (.int p3), .val (.int (3 : Int32)), .val (.int (p0 &&& (65535 : Int32))), .val (.int (p1 &&& (65535 : Int32))), .val (.int (p2 &&& (65535 : Int32))), .val (.ref x_42), .val (.int (0 : Int32))] [(.int (1 : Int32))])) (fun _ k => XS.iconst W45.here hx rfl (hb hby at_79) k) ?_
          refine Go.st (g' := (mkF m 84 #[.val (.int p0), .val (.int p1), .val (.int p2), .val (.int p3), .val (.int (3 : Int32)), .val (.int (p0 &&& (65535 : Int32))), .val (.int (p1 &&& (65535 : Int32))), .val (.int (p2 &&& (65535 : Int32))), .val (.ref x_42), .val (.int (0 : Int32))] [(.int (1 : Int32))])) (fun _ k => XS.goto W45.here hx rfl (pc0 := 80) (pc' := 84) rfl (hb hby at_80) (by decide) (by decide) k) ?_
          exact W45.retN hx hEL hlk (t := .boolean) hret (by decide) (hb hby at_84) (by decide) (by decide) rfl
    · refine Go.st (g' := (mkF m 11 #[.val (.int p0), .val (.int p1), .val (.int p2), .val (.int p3), .val (.int (3 : Int32)), .unset, .unset, .unset, .unset, .unset] [])) (fun _ k => XS.ifNo W0.here hx rfl (hb hby at_8) rfl ((if0 _ _).trans (feq hc36).1) k) ?_
      refine Go.st (g' := (mkF m 13 #[.val (.int p0), .val (.int p1), .val (.int p2), .val (.int p3), .val (.int (3 : Int32)), .unset, .unset, .unset, .unset, .unset] [(.int (32 : Int32))])) (fun _ k => XS.bipush W0.here hx rfl (hb hby at_11) k) ?_
      refine Go.st (g' := (mkF m 21 #[.val (.int p0), .val (.int p1), .val (.int p2), .val (.int p3), .val (.int (3 : Int32)), .unset, .unset, .unset, .unset, .unset] [(.int (32 : Int32))])) (fun _ k => XS.goto W0.here hx rfl (pc0 := 13) (pc' := 21) rfl (hb hby at_13) (by decide) (by decide) k) ?_
      refine Go.st (g' := (mkF m 23 #[.val (.int p0), .val (.int p1), .val (.int p2), .val (.int p3), .val (.int (3 : Int32)), .val (.int (32 : Int32)), .unset, .unset, .unset, .unset] [])) (fun _ k => XS.istore W0.here hx rfl (hb hby at_21) rfl (l' := #[.val (.int p0), .val (.int p1), .val (.int p2), .val (.int p3), .val (.int (3 : Int32)), .val (.int (32 : Int32)), .unset, .unset, .unset, .unset]) rfl k) ?_
      refine Go.st (g' := (mkF m 24 #[.val (.int p0), .val (.int p1), .val (.int p2), .val (.int p3), .val (.int (3 : Int32)), .val (.int (32 : Int32)), .unset, .unset, .unset, .unset] [(.int p1)])) (fun _ k => XS.iloadN W0.here hx rfl (hb hby at_23) rfl  k) ?_
      refine Go.st (g' := (mkF m 26 #[.val (.int p0), .val (.int p1), .val (.int p2), .val (.int p3), .val (.int (3 : Int32)), .val (.int (32 : Int32)), .unset, .unset, .unset, .unset] [(.int (65535 : Int32)), (.int p1)])) (W0.ldcI hx (hw _ (List.mem_of_getElem? (i := 0) rfl)) (g := (mkF m 24 #[.val (.int p0), .val (.int p1), .val (.int p2), .val (.int p3), .val (.int (3 : Int32)), .val (.int (32 : Int32)), .unset, .unset, .unset, .unset] [(.int p1)])) rfl (hb hby at_24)) ?_
      refine Go.st (g' := (mkF m 27 #[.val (.int p0), .val (.int p1), .val (.int p2), .val (.int p3), .val (.int (3 : Int32)), .val (.int (32 : Int32)), .unset, .unset, .unset, .unset] [(.int (p1 &&& (65535 : Int32)))])) (fun _ k => XS.iand W0.here hx rfl (hb hby at_26) rfl k) ?_
      refine Go.st (g' := (mkF m 28 #[.val (.int p0), .val (.int p1), .val (.int p2), .val (.int p3), .val (.int (3 : Int32)), .val (.int (32 : Int32)), .unset, .unset, .unset, .unset] [(.int ((p1 &&& (65535 : Int32)).toUInt32.toUInt16.toUInt32.toInt32))])) (fun _ k => XS.i2c W0.here hx rfl (hb hby at_27) rfl k) ?_
      rw [own_i2c16]
      refine Go.st (g' := (mkF m 30 #[.val (.int p0), .val (.int p1), .val (.int p2), .val (.int p3), .val (.int (3 : Int32)), .val (.int (32 : Int32)), .val (.int (p1 &&& (65535 : Int32))), .unset, .unset, .unset] [])) (fun _ k => XS.istore W0.here hx rfl (hb hby at_28) rfl (l' := #[.val (.int p0), .val (.int p1), .val (.int p2), .val (.int p3), .val (.int (3 : Int32)), .val (.int (32 : Int32)), .val (.int (p1 &&& (65535 : Int32))), .unset, .unset, .unset]) rfl k) ?_
      refine Go.st (g' := (mkF m 31 #[.val (.int p0), .val (.int p1), .val (.int p2), .val (.int p3), .val (.int (3 : Int32)), .val (.int (32 : Int32)), .val (.int (p1 &&& (65535 : Int32))), .unset, .unset, .unset] [(.int p2)])) (fun _ k => XS.iloadN W0.here hx rfl (hb hby at_30) rfl  k) ?_
      refine Go.st (g' := (mkF m 33 #[.val (.int p0), .val (.int p1), .val (.int p2), .val (.int p3), .val (.int (3 : Int32)), .val (.int (32 : Int32)), .val (.int (p1 &&& (65535 : Int32))), .unset, .unset, .unset] [(.int (65535 : Int32)), (.int p2)])) (W0.ldcI hx (hw _ (List.mem_of_getElem? (i := 0) rfl)) (g := (mkF m 31 #[.val (.int p0), .val (.int p1), .val (.int p2), .val (.int p3), .val (.int (3 : Int32)), .val (.int (32 : Int32)), .val (.int (p1 &&& (65535 : Int32))), .unset, .unset, .unset] [(.int p2)])) rfl (hb hby at_31)) ?_
      refine Go.st (g' := (mkF m 34 #[.val (.int p0), .val (.int p1), .val (.int p2), .val (.int p3), .val (.int (3 : Int32)), .val (.int (32 : Int32)), .val (.int (p1 &&& (65535 : Int32))), .unset, .unset, .unset] [(.int (p2 &&& (65535 : Int32)))])) (fun _ k => XS.iand W0.here hx rfl (hb hby at_33) rfl k) ?_
      refine Go.st (g' := (mkF m 35 #[.val (.int p0), .val (.int p1), .val (.int p2), .val (.int p3), .val (.int (3 : Int32)), .val (.int (32 : Int32)), .val (.int (p1 &&& (65535 : Int32))), .unset, .unset, .unset] [(.int ((p2 &&& (65535 : Int32)).toUInt32.toUInt16.toUInt32.toInt32))])) (fun _ k => XS.i2c W0.here hx rfl (hb hby at_34) rfl k) ?_
      rw [own_i2c16]
      refine Go.st (g' := (mkF m 37 #[.val (.int p0), .val (.int p1), .val (.int p2), .val (.int p3), .val (.int (3 : Int32)), .val (.int (32 : Int32)), .val (.int (p1 &&& (65535 : Int32))), .val (.int (p2 &&& (65535 : Int32))), .unset, .unset] [])) (fun _ k => XS.istore W0.here hx rfl (hb hby at_35) rfl (l' := #[.val (.int p0), .val (.int p1), .val (.int p2), .val (.int p3), .val (.int (3 : Int32)), .val (.int (32 : Int32)), .val (.int (p1 &&& (65535 : Int32))), .val (.int (p2 &&& (65535 : Int32))), .unset, .unset]) rfl k) ?_
      refine Go.st (g' := (mkF m 39 #[.val (.int p0), .val (.int p1), .val (.int p2), .val (.int p3), .val (.int (3 : Int32)), .val (.int (32 : Int32)), .val (.int (p1 &&& (65535 : Int32))), .val (.int (p2 &&& (65535 : Int32))), .unset, .unset] [(.int (3 : Int32))])) (fun _ k => XS.iload W0.here hx rfl (hb hby at_37) rfl  k) ?_
      refine Go.st (g' := (mkF m 41 #[.val (.int p0), .val (.int p1), .val (.int p2), .val (.int p3), .val (.int (3 : Int32)), .val (.int (32 : Int32)), .val (.int (p1 &&& (65535 : Int32))), .val (.int (p2 &&& (65535 : Int32))), .unset, .unset] [(.int (32 : Int32)), (.int (3 : Int32))])) (fun _ k => XS.iload W0.here hx rfl (hb hby at_39) rfl  k) ?_
      refine Go.st (g' := (mkF m 43 #[.val (.int p0), .val (.int p1), .val (.int p2), .val (.int p3), .val (.int (3 : Int32)), .val (.int (32 : Int32)), .val (.int (p1 &&& (65535 : Int32))), .val (.int (p2 &&& (65535 : Int32))), .unset, .unset] [(.int (p1 &&& (65535 : Int32))), (.int (32 : Int32)), (.int (3 : Int32))])) (fun _ k => XS.iload W0.here hx rfl (hb hby at_41) rfl  k) ?_
      refine Go.st (g' := (mkF m 45 #[.val (.int p0), .val (.int p1), .val (.int p2), .val (.int p3), .val (.int (3 : Int32)), .val (.int (32 : Int32)), .val (.int (p1 &&& (65535 : Int32))), .val (.int (p2 &&& (65535 : Int32))), .unset, .unset] [(.int (p2 &&& (65535 : Int32))), (.int (p1 &&& (65535 : Int32))), (.int (32 : Int32)), (.int (3 : Int32))])) (fun _ k => XS.iload W0.here hx rfl (hb hby at_43) rfl  k) ?_
      by_cases hc46 : (255 : Int32) < (32 : Int32) ∨ (255 : Int32) < (p1 &&& (65535 : Int32)) ∨ (255 : Int32) < (p2 &&& (65535 : Int32))
      · obtain ⟨_, vm47, T47, h47, W47, Q47, z47, SF47, st47⟩ := W0.callS hx hEL (own_makeW3 l hE W0.old (c1 := (32 : Int32)) (c2 := (p1 &&& (65535 : Int32))) (c3 := (p2 &&& (65535 : Int32))) own_chr32 (own_chr _) (own_chr _) hc46 ) (hw _ (List.mem_of_getElem? (i := 1) rfl)) (hw _ (List.mem_of_getElem? (i := 2) rfl)) (hw _ (List.mem_of_getElem? (i := 3) rfl)) (hw _ (List.mem_of_getElem? (i := 4) rfl)) (by decide) (Wd := 0) (by decide) (by decide) (by decide) (by decide) (g := (mkF m 45 #[.val (.int p0), .val (.int p1), .val (.int p2), .val (.int p3), .val (.int (3 : Int32)), .val (.int (32 : Int32)), .val (.int (p1 &&& (65535 : Int32))), .val (.int (p2 &&& (65535 : Int32))), .unset, .unset] [(.int (p2 &&& (65535 : Int32))), (.int (p1 &&& (65535 : Int32))), (.int (32 : Int32)), (.int (3 : Int32))])) rfl (by rw [hml]; rfl) (argsL := [(.int (3 : Int32)), (.int (32 : Int32)), (.int (p1 &&& (65535 : Int32))), (.int (p2 &&& (65535 : Int32)))]) (rest := []) rfl (lenOf pd__ICCC_Ljava_lang_String_ rfl) rfl (by show 2 * 0 + _ ≤ _; exact Nat.le_of_eq rfl) (hb hby at_45)
        obtain ⟨x_47, t_47, kt_47, rfl, p47_0, f47_0, f47_1, f47_2, f47_3, K47⟩ := Q47
        have yf47_0 : h47.size > x_47 := f47_0.lt
        have yf47_3 : h47.size > t_47 := f47_3.lt
        refine Go.tr (g' := (mkF m 48 #[.val (.int p0), .val (.int p1), .val (.int p2), .val (.int p3), .val (.int (3 : Int32)), .val (.int (32 : Int32)), .val (.int (p1 &&& (65535 : Int32))), .val (.int (p2 &&& (65535 : Int32))), .unset, .unset] [(.ref x_47)])) st47 ?_
        refine Go.st (g' := (mkF m 50 #[.val (.int p0), .val (.int p1), .val (.int p2), .val (.int p3), .val (.int (3 : Int32)), .val (.int (32 : Int32)), .val (.int (p1 &&& (65535 : Int32))), .val (.int (p2 &&& (65535 : Int32))), .val (.ref x_47), .unset] [])) (fun _ k => XS.astore W47.here hx rfl (hb hby at_48) rfl rfl (l' := #[.val (.int p0), .val (.int p1), .val (.int p2), .val (.int p3), .val (.int (3 : Int32)), .val (.int (32 : Int32)), .val (.int (p1 &&& (65535 : Int32))), .val (.int (p2 &&& (65535 : Int32))), .val (.ref x_47), .unset]) rfl k) ?_
        refine Go.st (g' := (mkF m 52 #[.val (.int p0), .val (.int p1), .val (.int p2), .val (.int p3), .val (.int (3 : Int32)), .val (.int (32 : Int32)), .val (.int (p1 &&& (65535 : Int32))), .val (.int (p2 &&& (65535 : Int32))), .val (.ref x_47), .unset] [(.int (3 : Int32))])) (fun _ k => XS.iload W47.here hx rfl (hb hby at_50) rfl  k) ?_
        refine Go.st (g' := (mkF m 55 #[.val (.int p0), .val (.int p1), .val (.int p2), .val (.int p3), .val (.int (3 : Int32)), .val (.int (32 : Int32)), .val (.int (p1 &&& (65535 : Int32))), .val (.int (p2 &&& (65535 : Int32))), .val (.ref x_47), .unset] [])) (fun _ k => XS.ifNo W47.here hx rfl (hb hby at_52) rfl ((if0 _ _).trans (tlt (by decide)).2.2.2) k) ?_
        refine Go.st (g' := (mkF m 57 #[.val (.int p0), .val (.int p1), .val (.int p2), .val (.int p3), .val (.int (3 : Int32)), .val (.int (32 : Int32)), .val (.int (p1 &&& (65535 : Int32))), .val (.int (p2 &&& (65535 : Int32))), .val (.ref x_47), .unset] [(.int (32 : Int32))])) (fun _ k => XS.iload W47.here hx rfl (hb hby at_55) rfl  k) ?_
        refine Go.st (g' := (mkF m 59 #[.val (.int p0), .val (.int p1), .val (.int p2), .val (.int p3), .val (.int (3 : Int32)), .val (.int (32 : Int32)), .val (.int (p1 &&& (65535 : Int32))), .val (.int (p2 &&& (65535 : Int32))), .val (.ref x_47), .unset] [(.int (32 : Int32)), (.int (32 : Int32))])) (fun _ k => XS.bipush W47.here hx rfl (hb hby at_57) k) ?_
        refine Go.st (g' := (mkF m 62 #[.val (.int p0), .val (.int p1), .val (.int p2), .val (.int p3), .val (.int (3 : Int32)), .val (.int (32 : Int32)), .val (.int (p1 &&& (65535 : Int32))), .val (.int (p2 &&& (65535 : Int32))), .val (.ref x_47), .unset] [])) (fun _ k => XS.icmpNo W47.here hx rfl (hb hby at_59) rfl (teq (by decide)).2 k) ?_
        refine Go.st (g' := (mkF m 63 #[.val (.int p0), .val (.int p1), .val (.int p2), .val (.int p3), .val (.int (3 : Int32)), .val (.int (32 : Int32)), .val (.int (p1 &&& (65535 : Int32))), .val (.int (p2 &&& (65535 : Int32))), .val (.ref x_47), .unset] [(.int (1 : Int32))])) (fun _ k => XS.iconst W47.here hx rfl (hb hby at_62) k) ?_
        refine Go.st (g' := (mkF m 67 #[.val (.int p0), .val (.int p1), .val (.int p2), .val (.int p3), .val (.int (3 : Int32)), .val (.int (32 : Int32)), .val (.int (p1 &&& (65535 : Int32))), .val (.int (p2 &&& (65535 : Int32))), .val (.ref x_47), .unset] [(.int (1 : Int32))])) (fun _ k => XS.goto W47.here hx rfl (pc0 := 63) (pc' := 67) rfl (hb hby at_63) (by decide) (by decide) k) ?_
        refine Go.st (g' := (mkF m 69 #[.val (.int p0), .val (.int p1), .val (.int p2), .val (.int p3), .val (.int (3 : Int32)), .val (.int (32 : Int32)), .val (.int (p1 &&& (65535 : Int32))), .val (.int (p2 &&& (65535 : Int32))), .val (.ref x_47), .val (.int (1 : Int32))] [])) (fun _ k => XS.istore W47.here hx rfl (hb hby at_67) rfl (l' := #[.val (.int p0), .val (.int p1), .val (.int p2), .val (.int p3), .val (.int (3 : Int32)), .val (.int (32 : Int32)), .val (.int (p1 &&& (65535 : Int32))), .val (.int (p2 &&& (65535 : Int32))), .val (.ref x_47), .val (.int (1 : Int32))]) rfl k) ?_
        refine Go.st (g' := (mkF m 71 #[.val (.int p0), .val (.int p1), .val (.int p2), .val (.int p3), .val (.int (3 : Int32)), .val (.int (32 : Int32)), .val (.int (p1 &&& (65535 : Int32))), .val (.int (p2 &&& (65535 : Int32))), .val (.ref x_47), .val (.int (1 : Int32))] [(.ref x_47)])) (fun _ k => XS.aload W47.here hx rfl (hb hby at_69) rfl rfl  k) ?_
        obtain ⟨_, vm48, T48, h48, W48, Q48, z48, SF48, st48⟩ := W47.callS hx hEL (own_deW3 l hE W47.old (x0 := x_47) (t0 := t_47) (kt := kt_47) (c1 := (32 : Int32)) (c2 := (p1 &&& (65535 : Int32))) (c3 := (p2 &&& (65535 : Int32))) own_chr32 f47_0 f47_1 f47_2 f47_3) (hw _ (List.mem_of_getElem? (i := 31) rfl)) (hw _ (List.mem_of_getElem? (i := 32) rfl)) (hw _ (List.mem_of_getElem? (i := 33) rfl)) (hw _ (List.mem_of_getElem? (i := 34) rfl)) (by decide) (Wd := 0) (by decide) (by decide) (by decide) (by decide) (g := (mkF m 71 #[.val (.int p0), .val (.int p1), .val (.int p2), .val (.int p3), .val (.int (3 : Int32)), .val (.int (32 : Int32)), .val (.int (p1 &&& (65535 : Int32))), .val (.int (p2 &&& (65535 : Int32))), .val (.ref x_47), .val (.int (1 : Int32))] [(.ref x_47)])) rfl (by rw [hml]; rfl) (argsL := [(.ref x_47)]) (rest := []) rfl (lenOf pd__Ljava_lang_String__Z rfl) rfl (by show 2 * 0 + _ ≤ _; exact Nat.le_of_eq rfl) (hb hby at_71)
        obtain ⟨rfl, eh48⟩ := Q48
        subst eh48
        refine Go.tr (g' := (mkF m 74 #[.val (.int p0), .val (.int p1), .val (.int p2), .val (.int p3), .val (.int (3 : Int32)), .val (.int (32 : Int32)), .val (.int (p1 &&& (65535 : Int32))), .val (.int (p2 &&& (65535 : Int32))), .val (.ref x_47), .val (.int (1 : Int32))] [(.int (own_de (32 : Int32)))])) st48 ?_
        refine Go.st (g' := (mkF m 76 #[.val (.int p0), .val (.int p1), .val (.int p2), .val (.int p3), .val (.int (3 : Int32)), .val (.int (32 : Int32)), .val (.int (p1 &&& (65535 : Int32))), .val (.int (p2 &&& (65535 : Int32))), .val (.ref x_47), .val (.int (1 : Int32))] [(.int (1 : Int32)), (.int (own_de (32 : Int32)))])) (fun _ k => XS.iload W48.here hx rfl (hb hby at_74) rfl  k) ?_
        refine Go.st (g' := (mkF m 79 #[.val (.int p0), .val (.int p1), .val (.int p2), .val (.int p3), .val (.int (3 : Int32)), .val (.int (32 : Int32)), .val (.int (p1 &&& (65535 : Int32))), .val (.int (p2 &&& (65535 : Int32))), .val (.ref x_47), .val (.int (1 : Int32))] [])) (fun _ k => XS.icmpNo W48.here hx rfl (hb hby at_76) rfl (teq (by unfold own_de; decide)).2 k) ?_
        refine Go.st (g' := (mkF m 80 #[.val (.int p0), .val (.int p1), .val (.int p2), .val (.int p3), .val (.int (3 : Int32)), .val (.int (32 : Int32)), .val (.int (p1 &&& (65535 : Int32))), .val (.int (p2 &&& (65535 : Int32))), .val (.ref x_47), .val (.int (1 : Int32))] [(.int (1 : Int32))])) (fun _ k => XS.iconst W48.here hx rfl (hb hby at_79) k) ?_
        refine Go.st (g' := (mkF m 84 #[.val (.int p0), .val (.int p1), .val (.int p2), .val (.int p3), .val (.int (3 : Int32)), .val (.int (32 : Int32)), .val (.int (p1 &&& (65535 : Int32))), .val (.int (p2 &&& (65535 : Int32))), .val (.ref x_47), .val (.int (1 : Int32))] [(.int (1 : Int32))])) (fun _ k => XS.goto W48.here hx rfl (pc0 := 80) (pc' := 84) rfl (hb hby at_80) (by decide) (by decide) k) ?_
        exact W48.retN hx hEL hlk (t := .boolean) hret (by decide) (hb hby at_84) (by decide) (by decide) rfl
      · obtain ⟨_, vm49, T49, h49, W49, Q49, z49, SF49, st49⟩ := W0.callS hx hEL (own_makeL3 l hE W0.old (c1 := (32 : Int32)) (c2 := (p1 &&& (65535 : Int32))) (c3 := (p2 &&& (65535 : Int32))) own_chr32 (own_chr _) (own_chr _) ⟨own_chr32.1, fun z => hc46 (Or.inl z)⟩ ⟨(own_chr _).1, fun z => hc46 (Or.inr (Or.inl z))⟩ ⟨(own_chr _).1, fun z => hc46 (Or.inr (Or.inr (z)))⟩ ) (hw _ (List.mem_of_getElem? (i := 1) rfl)) (hw _ (List.mem_of_getElem? (i := 2) rfl)) (hw _ (List.mem_of_getElem? (i := 3) rfl)) (hw _ (List.mem_of_getElem? (i := 4) rfl)) (by decide) (Wd := 0) (by decide) (by decide) (by decide) (by decide) (g := (mkF m 45 #[.val (.int p0), .val (.int p1), .val (.int p2), .val (.int p3), .val (.int (3 : Int32)), .val (.int (32 : Int32)), .val (.int (p1 &&& (65535 : Int32))), .val (.int (p2 &&& (65535 : Int32))), .unset, .unset] [(.int (p2 &&& (65535 : Int32))), (.int (p1 &&& (65535 : Int32))), (.int (32 : Int32)), (.int (3 : Int32))])) rfl (by rw [hml]; rfl) (argsL := [(.int (3 : Int32)), (.int (32 : Int32)), (.int (p1 &&& (65535 : Int32))), (.int (p2 &&& (65535 : Int32)))]) (rest := []) rfl (lenOf pd__ICCC_Ljava_lang_String_ rfl) rfl (by show 2 * 0 + _ ≤ _; exact Nat.le_of_eq rfl) (hb hby at_45)
        obtain ⟨x_49, t_49, rfl, p49_0, f49_0, K49⟩ := Q49
        have yf49_0 : h49.size > x_49 ∧ h49.size > t_49 := f49_0.lt
        refine Go.tr (g' := (mkF m 48 #[.val (.int p0), .val (.int p1), .val (.int p2), .val (.int p3), .val (.int (3 : Int32)), .val (.int (32 : Int32)), .val (.int (p1 &&& (65535 : Int32))), .val (.int (p2 &&& (65535 : Int32))), .unset, .unset] [(.ref x_49)])) st49 ?_
        refine Go.st (g' := (mkF m 50 #[.val (.int p0), .val (.int p1), .val (.int p2), .val (.int p3), .val (.int (3 : Int32)), .val (.int (32 : Int32)), .val (.int (p1 &&& (65535 : Int32))), .val (.int (p2 &&& (65535 : Int32))), .val (.ref x_49), .unset] [])) (fun _ k => XS.astore W49.here hx rfl (hb hby at_48) rfl rfl (l' := #[.val (.int p0), .val (.int p1), .val (.int p2), .val (.int p3), .val (.int (3 : Int32)), .val (.int (32 : Int32)), .val (.int (p1 &&& (65535 : Int32))), .val (.int (p2 &&& (65535 : Int32))), .val (.ref x_49), .unset]) rfl k) ?_
        refine Go.st (g' := (mkF m 52 #[.val (.int p0), .val (.int p1), .val (.int p2), .val (.int p3), .val (.int (3 : Int32)), .val (.int (32 : Int32)), .val (.int (p1 &&& (65535 : Int32))), .val (.int (p2 &&& (65535 : Int32))), .val (.ref x_49), .unset] [(.int (3 : Int32))])) (fun _ k => XS.iload W49.here hx rfl (hb hby at_50) rfl  k) ?_
        refine Go.st (g' := (mkF m 55 #[.val (.int p0), .val (.int p1), .val (.int p2), .val (.int p3), .val (.int (3 : Int32)), .val (.int (32 : Int32)), .val (.int (p1 &&& (65535 : Int32))), .val (.int (p2 &&& (65535 : Int32))), .val (.ref x_49), .unset] [])) (fun _ k => XS.ifNo W49.here hx rfl (hb hby at_52) rfl ((if0 _ _).trans (tlt (by decide)).2.2.2) k) ?_
        refine Go.st (g' := (mkF m 57 #[.val (.int p0), .val (.int p1), .val (.int p2), .val (.int p3), .val (.int (3 : Int32)), .val (.int (32 : Int32)), .val (.int (p1 &&& (65535 : Int32))), .val (.int (p2 &&& (65535 : Int32))), .val (.ref x_49), .unset] [(.int (32 : Int32))])) (fun _ k => XS.iload W49.here hx rfl (hb hby at_55) rfl  k) ?_
        refine Go.st (g' := (mkF m 59 #[.val (.int p0), .val (.int p1), .val (.int p2), .val (.int p3), .val (.int (3 : Int32)), .val (.int (32 : Int32)), .val (.int (p1 &&& (65535 : Int32))), .val (.int (p2 &&& (65535 : Int32))), .val (.ref x_49), .unset] [(.int (32 : Int32)), (.int (32 : Int32))])) (fun _ k => XS.bipush W49.here hx rfl (hb hby at_57) k) ?_
        refine Go.st (g' := (mkF m 62 #[.val (.int p0), .val (.int p1), .val (.int p2), .val (.int p3), .val (.int (3 : Int32)), .val (.int (32 : Int32)), .val (.int (p1 &&& (65535 : Int32))), .val (.int (p2 &&& (65535 : Int32))), .val (.ref x_49), .unset] [])) (fun _ k => XS.icmpNo W49.here hx rfl (hb hby at_59) rfl (teq (by decide)).2 k) ?_
        refine Go.st (g' := (mkF m 63 #[.val (.int p0), .val (.int p1), .val (.int p2), .val (.int p3), .val (.int (3 : Int32)), .val (.int (32 : Int32)), .val (.int (p1 &&& (65535 : Int32))), .val (.int (p2 &&& (65535 : Int32))), .val (.ref x_49), .unset] [(.int (1 : Int32))])) (fun _ k => XS.iconst W49.here hx rfl (hb hby at_62) k) ?_
        refine Go.st (g' := (mkF m 67 #[.val (.int p0), .val (.int p1), .val (.int p2), .val (.int p3), .val (.int (3 : Int32)), .val (.int (32 : Int32)), .val (.int (p1 &&& (65535 : Int32))), .val (.int (p2 &&& (65535 : Int32))), .val (.ref x_49), .unset] [(.int (1 : Int32))])) (fun _ k => XS.goto W49.here hx rfl (pc0 := 63) (pc' := 67) rfl (hb hby at_63) (by decide) (by decide) k) ?_
        refine Go.st (g' := (mkF m 69 #[.val (.int p0), .val (.int p1), .val (.int p2), .val (.int p3), .val (.int (3 : Int32)), .val (.int (32 : Int32)), .val (.int (p1 &&& (65535 : Int32))), .val (.int (p2 &&& (65535 : Int32))), .val (.ref x_49), .val (.int (1 : Int32))] [])) (fun _ k => XS.istore W49.here hx rfl (hb hby at_67) rfl (l' := #[.val (.int p0), .val (.int p1), .val (.int p2), .val (.int p3), .val (.int (3 : Int32)), .val (.int (32 : Int32)), .val (.int (p1 &&& (65535 : Int32))), .val (.int (p2 &&& (65535 : Int32))), .val (.ref x_49), .val (.int (1 : Int32))]) rfl k) ?_
        refine Go.st (g' := (mkF m 71 #[.val (.int p0), .val (.int p1), .val (.int p2), .val (.int p3), .val (.int (3 : Int32)), .val (.int (32 : Int32)), .val (.int (p1 &&& (65535 : Int32))), .val (.int (p2 &&& (65535 : Int32))), .val (.ref x_49), .val (.int (1 : Int32))] [(.ref x_49)])) (fun _ k => XS.aload W49.here hx rfl (hb hby at_69) rfl rfl  k) ?_
        obtain ⟨_, vm50, T50, h50, W50, Q50, z50, SF50, st50⟩ := W49.callS hx hEL (own_deL3 l hE W49.old (x0 := x_49) (t0 := t_49) (c1 := (32 : Int32)) (c2 := (p1 &&& (65535 : Int32))) (c3 := (p2 &&& (65535 : Int32))) ⟨own_chr32.1, fun z => hc46 (Or.inl z)⟩ ⟨(own_chr _).1, fun z => hc46 (Or.inr (Or.inl z))⟩ ⟨(own_chr _).1, fun z => hc46 (Or.inr (Or.inr (z)))⟩ f49_0.1 f49_0) (hw _ (List.mem_of_getElem? (i := 31) rfl)) (hw _ (List.mem_of_getElem? (i := 32) rfl)) (hw _ (List.mem_of_getElem? (i := 33) rfl)) (hw _ (List.mem_of_getElem? (i := 34) rfl)) (by decide) (Wd := 0) (by decide) (by decide) (by decide) (by decide) (g := (mkF m 71 #[.val (.int p0), .val (.int p1), .val (.int p2), .val (.int p3), .val (.int (3 : Int32)), .val (.int (32 : Int32)), .val (.int (p1 &&& (65535 : Int32))), .val (.int (p2 &&& (65535 : Int32))), .val (.ref x_49), .val (.int (1 : Int32))] [(.ref x_49)])) rfl (by rw [hml]; rfl) (argsL := [(.ref x_49)]) (rest := []) rfl (lenOf pd__Ljava_lang_String__Z rfl) rfl (by show 2 * 0 + _ ≤ _; exact Nat.le_of_eq rfl) (hb hby at_71)
        obtain ⟨rfl, eh50⟩ := Q50
        subst eh50
        refine Go.tr (g' := (mkF m 74 #[.val (.int p0), .val (.int p1), .val (.int p2), .val (.int p3), .val (.int (3 : Int32)), .val (.int (32 : Int32)), .val (.int (p1 &&& (65535 : Int32))), .val (.int (p2 &&& (65535 : Int32))), .val (.ref x_49), .val (.int (1 : Int32))] [(.int (own_de (32 : Int32)))])) st50 ?_
        refine Go.st (g' := (mkF m 76 #[.val (.int p0), .val (.int p1), .val (.int p2), .val (.int p3), .val (.int (3 : Int32)), .val (.int (32 : Int32)), .val (.int (p1 &&& (65535 : Int32))), .val (.int (p2 &&& (65535 : Int32))), .val (.ref x_49), .val (.int (1 : Int32))] [(.int (1 : Int32)), (.int (own_de (32 : Int32)))])) (fun _ k => XS.iload W50.here hx rfl (hb hby at_74) rfl  k) ?_
        refine Go.st (g' := (mkF m 79 #[.val (.int p0), .val (.int p1), .val (.int p2), .val (.int p3), .val (.int (3 : Int32)), .val (.int (32 : Int32)), .val (.int (p1 &&& (65535 : Int32))), .val (.int (p2 &&& (65535 : Int32))), .val (.ref x_49), .val (.int (1 : Int32))] [])) (fun _ k => XS.icmpNo W50.here hx rfl (hb hby at_76) rfl (teq (by unfold own_de; decide)).2 k) ?_
        refine Go.st (g' := (mkF m 80 #[.val (.int p0), .val (.int p1), .val (.int p2), .val (.int p3), .val (.int (3 : Int32)), .val (.int (32 : Int32)), .val (.int (p1 &&& (65535 : Int32))), .val (.int (p2 &&& (65535 : Int32))), .val (.ref x_49), .val (.int (1 : Int32))] [(.int (1 : Int32))])) (fun _ k => XS.iconst W50.here hx rfl (hb hby at_79) k) ?_
        refine Go.st (g' := (mkF m 84 #[.val (.int p0), .val (.int p1), .val (.int p2), .val (.int p3), .val (.int (3 : Int32)), .val (.int (32 : Int32)), .val (.int (p1 &&& (65535 : Int32))), .val (.int (p2 &&& (65535 : Int32))), .val (.ref x_49), .val (.int (1 : Int32))] [(.int (1 : Int32))])) (fun _ k => XS.goto W50.here hx rfl (pc0 := 80) (pc' := 84) rfl (hb hby at_80) (by decide) (by decide) k) ?_
        exact W50.retN hx hEL hlk (t := .boolean) hret (by decide) (hb hby at_84) (by decide) (by decide) rfl
theorem own_compact {s : State} {a : Array Value} (hsets : ∀ d ∈ jdkStatics_1, d.before a s = true) : ∃ zc : Int32, Sta s s.heap "java/lang/String" "COMPACT_STRINGS" "Z" (.int zc) ∧ ¬ zc = 0 := by
  have n3 := not_v (Cond.before_iff.mp (hsets _ (List.mem_of_getElem? (i := 2) rfl)))
  obtain ⟨i7, e6⟩ := is_v (Cond.before_iff.mp (hsets _ (List.mem_of_getElem? (i := 1) rfl)))
  exact ⟨i7, Sta.start e6 (Or.inl (hsets _ (List.mem_of_getElem? (i := 0) rfl))), gotF (Cond.eq_ints e6 (Term.int_eval (0))) n3⟩
theorem own_sioobe {s : State} {a : Array Value} (hsets : ∀ d ∈ jdkStatics_1, d.before a s = true) : ∃ fm : Value, Sta s s.heap "jdk/internal/util/Preconditions" "SIOOBE_FORMATTER" "Ljava/util/function/BiFunction;" fm ∧ fm.isRef = true := by
  obtain ⟨v9, e10, r11⟩ := isR_v (Cond.before_iff.mp (hsets _ (List.mem_of_getElem? (i := 8) rfl)))
  exact ⟨v9, Sta.start e10 (Or.inl (hsets _ (List.mem_of_getElem? (i := 7) rfl))), r11⟩
set_option maxRecDepth 65536 in
set_option maxHeartbeats 4000000 in
theorem comes_1 {Post : Tables → Env → Array Value → State → Outcome → State → Prop} (hpost : ∀ tb e args s v u, (limb_1_1.after args s (.returned v) u = true ∧ limb_1_2.after args s (.returned v) u = true ∧ True) → FramedW s (.returned v) u (Jvm.fieldLocs frame_1_writes args s ++ Jvm.arrayLocs frame_1_arrays args s ++ Jvm.staticLocs frame_1_statics s) 24 1152 → Post tb e args s (.returned v) u) :
    ArmFor flags0 classFile x code maxLocals ret World_1 tables_1 room_1 Calls_1 rest_1 Pre_1 Post := by
  intro l hfl _ _ p e ha hc hk s m args below hf hA hF happ hP
  obtain ⟨hcalls, hrest, hpre⟩ := hP
  obtain ⟨-, -, -, hnamed, -, -, -, hat⟩ := (Spec.applies_iff hf).mp happ
  obtain ⟨hg, hn⟩ := and_e (Cond.before_iff.mp (show (Jvm.Cond.and given_1 narrow_1).before args s = true from hpre))
  obtain ⟨h1, h2⟩ := and_e hg
  obtain ⟨w0, w1, w2, w3, rfl⟩ : ∃ w0 w1 w2 w3 : Value, args = #[w0, w1, w2, w3] := by
    have hs : args.size = 4 := by simpa [Cond.value, given_1] using h1
    obtain ⟨L⟩ := args
    match L, hs with
    | [w0, w1, w2, w3], _ => exact ⟨w0, w1, w2, w3, rfl⟩
  have hw := fun d (hd : d ∈ tables_1) => atoms_spec (ws := Jvm.Cond.code x code maxLocals ret :: tables_1) hat d (List.mem_cons_of_mem _ hd)
  obtain ⟨hsets, hown0⟩ := atoms_of _ (rest_1_c_eq ▸ (show rest_1_c.before _ s = true from hrest))
  obtain ⟨q0, h2⟩ := and_e h2
  obtain ⟨i0, e0⟩ := is_v q0
  obtain rfl : w0 = (.int i0) := Option.some.inj e0
  obtain ⟨q1, h2⟩ := and_e h2
  obtain ⟨i1, e1⟩ := is_v q1
  obtain rfl : w1 = (.int i1) := Option.some.inj e1
  obtain ⟨q2, h2⟩ := and_e h2
  obtain ⟨i2, e2⟩ := is_v q2
  obtain rfl : w2 = (.int i2) := Option.some.inj e2
  have q3 := h2
  obtain ⟨i3, e3⟩ := is_v q3
  obtain rfl : w3 = (.int i3) := Option.some.inj e3
  have hE : Ctx s #[(.int i0), (.int i1), (.int i2), (.int i3)] := ⟨hw, own_compact hsets, own_sioobe hsets, Sta.start (own_eqI (Cond.before_iff.mp (hsets _ (List.mem_of_getElem? (i := 12) rfl)))) (Or.inl (hsets _ (List.mem_of_getElem? (i := 11) rfl))), Sta.start (own_eqI (Cond.before_iff.mp (hsets _ (List.mem_of_getElem? (i := 15) rfl)))) (Or.inl (hsets _ (List.mem_of_getElem? (i := 14) rfl))), Sta.start (own_eqI (Cond.before_iff.mp (hsets _ (List.mem_of_getElem? (i := 18) rfl)))) (Or.inl (hsets _ (List.mem_of_getElem? (i := 17) rfl)))⟩
  have hCH : CHv s consts_1 s.vm s.heap := CHv.start (own_EW hw) hcalls.1 (hsets _ (List.mem_of_getElem? (i := 2) rfl)) (hw _ (List.mem_of_getElem? (i := 19) rfl)) (hw _ (List.mem_of_getElem? (i := 15) rfl))
  obtain ⟨n, o, h1, h2, h3, _, L, rfl, ⟨rfl, N, -⟩, -, hq⟩ := own_law l hE (Old.start s)  p e ha hc hk s m _ below hf ((Spec.applies_iff_loose hf).mp happ).1 ⟨rfl, State.Warmed39.refl s, rfl, hCH⟩ trivial
  refine ⟨n, _, h1, h2, h3, hpost _ _ _ _ _ _ ⟨Cond.after_iff.mpr rfl, Cond.after_iff.mpr (eq_i res_at (Term.int_eval (1)) rfl), trivial⟩ ⟨hq.1, hq.2.1, hq.2.2.1, (hq.2.2.2.sift fun y hy => Or.inr (N y hy)).mono (by decide) (by decide)⟩⟩
theorem main_1_1 : Claimed_1_1 := comes_1 fun _ _ _ _ _ _ h hF => ⟨h.1, hF⟩
theorem main_1_2 : Claimed_1_2 := comes_1 fun _ _ _ _ _ _ h hF => ⟨h.2.1, hF⟩
end Jvm.Pilot.@@N@@
namespace Jvm.Pilot.@@N@@
open Jvm Jvm.ClassFile Sem Op Lib Jvm.Free Jvm.Stand Jvm.Pilot.@@N@@.Jvm.D
/-! MADE BY PROGRAM (witnessworld.py) out of the Statement's table words and the real class files: 20 classes; the members and pool entries that the words name. The judged class is class 1, her method 1. -/
namespace start1
open Jvm.ClassFile
def u (s : String) : CpInfo := .utf8 (stringToUtf16 s)
/-- a pool by its gaps: so many unusable entries, then the entry; so many at the end -/
def gap : Nat → List CpInfo → List CpInfo
  | 0, r => r
  | n + 1, r => .unusable :: gap n r
def poolList (es : List (Nat × CpInfo)) (last : Nat) : List CpInfo := es.foldr (fun e r => gap e.1 (e.2 :: r)) (gap last [])
def pool (es : List (Nat × CpInfo)) (last : Nat) : Array CpInfo := ⟨poolList es last⟩
def fileOf (pool : Array CpInfo) (this : Nat) (attrs : Array Attribute := #[]) (ms : Array MethodInfo := #[]) (fl : Nat := 33) (sup : Nat := 0) (ifs : Array Nat := #[]) (fds : Array FieldInfo := #[]) : ClassFile where
  minorVersion := 0
  majorVersion := 65
  constantPool := pool
  accessFlags := fl
  thisClass := this
  superClass := sup
  interfaces := ifs
  fields := fds
  methods := ms
  attributes := attrs
def plain (name : String) (sup : Option ClassId) : Class where
  name := name
  kind := .ordinary
  loader := none
  accessFlags := 33
  super := sup
  interfaces := #[]
  cf := none
  fields := #[]
  methods := #[]
  instanceTypes := #[]
  staticTypes := #[]
  resolved := #[]
  callSites := []
  init := .initialized
  statics := none
  mirror := none

def pool0 : Array CpInfo := pool [(5, u "<init>"), (0, u "()V"), (1, .class_ 10), (1, u "java/lang/Object")] 113

def k0c0 : Code := { maxStack := 0, maxLocals := 1, code := object_method_1_code, exceptionTable := #[], attributes := #[] }
def k0m0 : Method := { name := "<init>", desc := "()V", sig := { parameters := [], returnType := none }, accessFlags := 1, code := some k0c0 }
/-- java/lang/Object -/
def k0 : Class := { plain "java/lang/Object" none with
  accessFlags := 33
  interfaces := #[]
  cf := some (fileOf pool0 8 #[] #[{ accessFlags := 1, nameIndex := 5, descriptorIndex := 6, attributes := #[] }] 33 0 #[] #[])
  fields := #[]
  methods := #[k0m0]
  instanceTypes := #[]
  staticTypes := #[]
  resolved := Array.replicate 124 none
  statics := none }

def pool1 : Array CpInfo := pool [(2, .class_ 4), (1, u "java/lang/Object"), (0, u "<init>"), (0, u "()V"), (0, .class_ 8), (0, u "com/example/ontoloom/ontoloom/sql/Iri"), (0, .integer 65535), (0, .methodref 11 12), (0, .class_ 13), (0, .nameAndType 14 15), (0, u "com/example/ontoloom/ontoloom/sql/IriIsDataErrorPinLaw"), (0, u "make"), (0, u "(ICCC)Ljava/lang/String;"), (0, .methodref 7 17), (0, .nameAndType 18 19), (0, u "isDataError"), (0, u "(Ljava/lang/String;)Z"), (0, .class_ 21), (0, u "java/lang/String"), (0, .methodref 20 23), (0, .nameAndType 5 24), (0, u "([C)V"), (0, .methodref 20 26), (0, .nameAndType 27 28), (0, u "valueOf"), (0, u "(C)Ljava/lang/String;"), (2, u "law"), (0, u "(IIII)Z")] 3

def k1m0 : Method := { name := "<init>", desc := "()V", sig := { parameters := [], returnType := none }, accessFlags := 1, code := none }
def k1c1 : Code := { maxStack := 4, maxLocals := 10, code := code, exceptionTable := #[], attributes := #[] }
def k1m1 : Method := { name := "law", desc := "(IIII)Z", sig := { parameters := [.int, .int, .int, .int], returnType := some .boolean }, accessFlags := 9, code := some k1c1 }
def k1c2 : Code := { maxStack := 6, maxLocals := 4, code := method_3_code, exceptionTable := #[], attributes := #[] }
def k1m2 : Method := { name := "make", desc := "(ICCC)Ljava/lang/String;", sig := { parameters := [.int, .char, .char, .char], returnType := some (.object "java/lang/String") }, accessFlags := 10, code := some k1c2 }
/-- com/example/ontoloom/ontoloom/sql/IriIsDataErrorPinLaw -/
def k1 : Class := { plain "com/example/ontoloom/ontoloom/sql/IriIsDataErrorPinLaw" (some 0) with
  accessFlags := 49
  interfaces := #[]
  cf := some (fileOf pool1 11 #[] #[{ accessFlags := 1, nameIndex := 5, descriptorIndex := 6, attributes := #[] }, { accessFlags := 9, nameIndex := 31, descriptorIndex := 32, attributes := #[] }, { accessFlags := 10, nameIndex := 14, descriptorIndex := 15, attributes := #[] }] 49 2 #[] #[])
  fields := #[]
  methods := #[k1m0, k1m1, k1m2]
  instanceTypes := #[]
  staticTypes := #[]
  resolved := Array.replicate 36 none
  statics := none }

def pool2 : Array CpInfo := pool [(1, .class_ 2), (0, u "java/io/Serializable"), (0, .class_ 4), (0, u "java/lang/Object")] 2

/-- java/io/Serializable -/
def k2 : Class := { plain "java/io/Serializable" (some 0) with
  accessFlags := 1537
  interfaces := #[]
  cf := some (fileOf pool2 1 #[] #[] 1537 3 #[] #[])
  fields := #[]
  methods := #[]
  instanceTypes := #[]
  staticTypes := #[]
  resolved := Array.replicate 7 none
  statics := none }

def pool3 : Array CpInfo := pool [(1, .class_ 2), (0, u "java/lang/Comparable"), (0, .class_ 4), (0, u "java/lang/Object")] 7

/-- java/lang/Comparable -/
def k3 : Class := { plain "java/lang/Comparable" (some 0) with
  accessFlags := 1537
  interfaces := #[]
  cf := some (fileOf pool3 1 #[] #[] 1537 3 #[] #[])
  fields := #[]
  methods := #[]
  instanceTypes := #[]
  staticTypes := #[]
  resolved := Array.replicate 12 none
  statics := none }

def pool4 : Array CpInfo := pool [(2, .class_ 4), (1, u "java/lang/CharSequence"), (42, .class_ 48), (0, u "java/lang/CharSequence$1CodePointIterator"), (10, .class_ 60), (0, u "java/lang/CharSequence$1CharIterator"), (5, .class_ 67), (0, u "java/lang/Object")] 63

/-- java/lang/CharSequence -/
def k4 : Class := { plain "java/lang/CharSequence" (some 0) with
  accessFlags := 1537
  interfaces := #[]
  cf := some (fileOf pool4 2 #[.nestMembers #[47, 59]] #[] 1537 66 #[] #[])
  fields := #[]
  methods := #[]
  instanceTypes := #[]
  staticTypes := #[]
  resolved := Array.replicate 131 none
  statics := none }

def pool5 : Array CpInfo := pool [(1, .class_ 2), (0, u "java/lang/constant/Constable"), (0, .class_ 4), (0, u "java/lang/Object")] 6

/-- java/lang/constant/Constable -/
def k5 : Class := { plain "java/lang/constant/Constable" (some 0) with
  accessFlags := 1537
  interfaces := #[]
  cf := some (fileOf pool5 1 #[] #[] 1537 3 #[] #[])
  fields := #[]
  methods := #[]
  instanceTypes := #[]
  staticTypes := #[]
  resolved := Array.replicate 11 none
  statics := none }

def pool6 : Array CpInfo := pool [(1, .class_ 2), (0, u "java/lang/constant/ConstantDesc"), (0, .class_ 4), (0, u "java/lang/Object")] 32

/-- java/lang/constant/ConstantDesc -/
def k6 : Class := { plain "java/lang/constant/ConstantDesc" (some 0) with
  accessFlags := 1537
  interfaces := #[]
  cf := some (fileOf pool6 1 #[] #[] 1537 3 #[] #[])
  fields := #[]
  methods := #[]
  instanceTypes := #[]
  staticTypes := #[]
  resolved := Array.replicate 37 none
  statics := none }

def pool7 : Array CpInfo := pool [(1, .methodref 2 3), (0, .class_ 4), (0, .nameAndType 5 6), (0, u "java/lang/Object"), (0, u "<init>"), (0, u "()V"), (0, .string 8), (0, u ""), (0, .fieldref 10 11), (0, .class_ 12), (0, .nameAndType 13 14), (0, u "java/lang/String"), (0, u "value"), (0, u "[B"), (0, .fieldref 10 16), (0, .nameAndType 17 18), (0, u "coder"), (0, u "B"), (2, u "hash"), (0, u "I"), (2, u "hashIsZero"), (0, u "Z"), (0, .methodref 10 28), (0, .nameAndType 5 29), (0, u "([CIILjava/lang/Void;)V"), (8, .fieldref 10 39), (0, .nameAndType 40 26), (0, u "COMPACT_STRINGS"), (1, .class_ 44), (1, u "java/lang/StringUTF16"), (0, u "compress"), (1, .methodref 42 48), (0, .nameAndType 49 50), (0, u "coderFromArrayLen"), (0, u "([BI)B"), (2, u "toBytes"), (53, .class_ 109), (1, u "java/lang/StringLatin1"), (32, u "()Z"), (34, .methodref 42 178), (0, .nameAndType 45 179), (0, u "([CII)[B"), (29, .methodref 10 210), (0, .nameAndType 5 211), (0, u "([BB)V"), (151, u "([BI)C"), (5, u "(C)Z"), (21, u "(II)V"), (35, u "(I)C"), (64, .methodref 10 493), (0, .nameAndType 494 142), (0, u "isLatin1"), (0, .methodref 107 496), (0, .nameAndType 497 363), (0, u "charAt"), (0, .methodref 42 496), (2, u "checkIndex"), (73, .class_ 576), (0, u "java/lang/CharSequence"), (22, u "CASE_INSENSITIVE_ORDER"), (0, u "Ljava/util/Comparator;"), (91, u "isEmpty"), (89, u "valueOf"), (0, u "(C)Ljava/lang/String;"), (226, u "([C)V"), (4, .methodref 107 1016), (0, .nameAndType 1017 369), (0, u "canEncode"), (0, .methodref 107 1019), (0, .nameAndType 53 1020), (0, u "(C)[B"), (0, .methodref 42 1019), (31, .fieldref 1054 1055), (0, .class_ 1056), (0, .nameAndType 1057 1058), (0, u "jdk/internal/util/Preconditions"), (0, u "SIOOBE_FORMATTER"), (0, u "Ljava/util/function/BiFunction;"), (0, .methodref 1054 1060), (0, .nameAndType 501 1061), (0, u "(IILjava/util/function/BiFunction;)I"), (39, u "serialPersistentFields"), (0, u "[Ljava/io/ObjectStreamField;"), (0, .class_ 1104), (0, u "java/lang/String$CaseInsensitiveComparator"), (1, .class_ 1107), (0, u "java/io/Serializable"), (0, .class_ 1109), (0, u "java/lang/Comparable"), (0, .class_ 1111), (0, u "java/lang/constant/Constable"), (0, .class_ 1113), (0, u "java/lang/constant/ConstantDesc"), (2, u "serialVersionUID"), (0, u "J"), (3, u "REPL"), (0, u "C"), (2, u "LATIN1"), (1, u "UTF16")] 323

def k7m0 : Method := { name := "<init>", desc := "()V", sig := { parameters := [], returnType := none }, accessFlags := 1, code := none }
def k7c1 : Code := { maxStack := 5, maxLocals := 2, code := jdk_42_method_3_code, exceptionTable := #[], attributes := #[] }
def k7m1 : Method := { name := "<init>", desc := "([C)V", sig := { parameters := [(.array .char)], returnType := none }, accessFlags := 1, code := some k7c1 }
def k7c2 : Code := { maxStack := 1, maxLocals := 1, code := jdk_42_method_55_code, exceptionTable := #[], attributes := #[] }
def k7m2 : Method := { name := "isEmpty", desc := "()Z", sig := { parameters := [], returnType := some .boolean }, accessFlags := 1, code := some k7c2 }
def k7c3 : Code := { maxStack := 2, maxLocals := 2, code := jdk_42_method_56_code, exceptionTable := #[], attributes := #[] }
def k7m3 : Method := { name := "charAt", desc := "(I)C", sig := { parameters := [.int], returnType := some .char }, accessFlags := 1, code := some k7c3 }
def k7c4 : Code := { maxStack := 4, maxLocals := 1, code := jdk_42_method_139_code, exceptionTable := #[], attributes := #[] }
def k7m4 : Method := { name := "valueOf", desc := "(C)Ljava/lang/String;", sig := { parameters := [.char], returnType := some (.object "java/lang/String") }, accessFlags := 9, code := some k7c4 }
def k7c5 : Code := { maxStack := 4, maxLocals := 6, code := jdk_42_method_149_code, exceptionTable := #[], attributes := #[] }
def k7m5 : Method := { name := "<init>", desc := "([CIILjava/lang/Void;)V", sig := { parameters := [(.array .char), .int, .int, (.object "java/lang/Void")], returnType := none }, accessFlags := 2, code := some k7c5 }
def k7c6 : Code := { maxStack := 2, maxLocals := 3, code := jdk_42_method_151_code, exceptionTable := #[], attributes := #[] }
def k7m6 : Method := { name := "<init>", desc := "([BB)V", sig := { parameters := [(.array .byte), .byte], returnType := none }, accessFlags := 0, code := some k7c6 }
def k7c7 : Code := { maxStack := 1, maxLocals := 1, code := jdk_42_method_154_code, exceptionTable := #[], attributes := #[] }
def k7m7 : Method := { name := "isLatin1", desc := "()Z", sig := { parameters := [], returnType := some .boolean }, accessFlags := 0, code := some k7c7 }
def k7c8 : Code := { maxStack := 3, maxLocals := 2, code := jdk_42_method_155_code, exceptionTable := #[], attributes := #[] }
def k7m8 : Method := { name := "checkIndex", desc := "(II)V", sig := { parameters := [.int, .int], returnType := none }, accessFlags := 8, code := some k7c8 }
/-- java/lang/String -/
def k7 : Class := { plain "java/lang/String" (some 0) with
  accessFlags := 49
  interfaces := #[2, 3, 4, 5, 6]
  cf := some (fileOf pool7 10 #[.nestMembers #[1103]] #[{ accessFlags := 1, nameIndex := 5, descriptorIndex := 6, attributes := #[] }, { accessFlags := 1, nameIndex := 5, descriptorIndex := 1010, attributes := #[] }, { accessFlags := 1, nameIndex := 692, descriptorIndex := 142, attributes := #[] }, { accessFlags := 1, nameIndex := 497, descriptorIndex := 427, attributes := #[] }, { accessFlags := 9, nameIndex := 782, descriptorIndex := 783, attributes := #[] }, { accessFlags := 2, nameIndex := 5, descriptorIndex := 29, attributes := #[] }, { accessFlags := 0, nameIndex := 5, descriptorIndex := 211, attributes := #[] }, { accessFlags := 0, nameIndex := 494, descriptorIndex := 142, attributes := #[] }, { accessFlags := 8, nameIndex := 501, descriptorIndex := 391, attributes := #[] }] 49 2 #[1106, 1108, 575, 1110, 1112] #[{ accessFlags := 18, nameIndex := 13, descriptorIndex := 14, attributes := #[] }, { accessFlags := 18, nameIndex := 17, descriptorIndex := 18, attributes := #[] }, { accessFlags := 2, nameIndex := 21, descriptorIndex := 22, attributes := #[] }, { accessFlags := 2, nameIndex := 25, descriptorIndex := 26, attributes := #[] }, { accessFlags := 26, nameIndex := 1116, descriptorIndex := 1117, attributes := #[] }, { accessFlags := 24, nameIndex := 40, descriptorIndex := 26, attributes := #[] }, { accessFlags := 26, nameIndex := 1101, descriptorIndex := 1102, attributes := #[] }, { accessFlags := 26, nameIndex := 1121, descriptorIndex := 1122, attributes := #[] }, { accessFlags := 25, nameIndex := 599, descriptorIndex := 600, attributes := #[] }, { accessFlags := 24, nameIndex := 1125, descriptorIndex := 18, attributes := #[] }, { accessFlags := 24, nameIndex := 1127, descriptorIndex := 18, attributes := #[] }])
  fields := #[{ name := "value", type := (.array .byte), accessFlags := 18, slot := 0, constantValue := 0 }, { name := "coder", type := .byte, accessFlags := 18, slot := 1, constantValue := 0 }, { name := "hash", type := .int, accessFlags := 2, slot := 2, constantValue := 0 }, { name := "hashIsZero", type := .boolean, accessFlags := 2, slot := 3, constantValue := 0 }, { name := "serialVersionUID", type := .long, accessFlags := 26, slot := 0, constantValue := 0 }, { name := "COMPACT_STRINGS", type := .boolean, accessFlags := 24, slot := 1, constantValue := 0 }, { name := "serialPersistentFields", type := (.array (.object "java/io/ObjectStreamField")), accessFlags := 26, slot := 2, constantValue := 0 }, { name := "REPL", type := .char, accessFlags := 26, slot := 3, constantValue := 0 }, { name := "CASE_INSENSITIVE_ORDER", type := (.object "java/util/Comparator"), accessFlags := 25, slot := 4, constantValue := 0 }, { name := "LATIN1", type := .byte, accessFlags := 24, slot := 5, constantValue := 0 }, { name := "UTF16", type := .byte, accessFlags := 24, slot := 6, constantValue := 0 }]
  methods := #[k7m0, k7m1, k7m2, k7m3, k7m4, k7m5, k7m6, k7m7, k7m8]
  instanceTypes := #[(.array .byte), .byte, .int, .boolean]
  staticTypes := #[.long, .boolean, (.array (.object "java/io/ObjectStreamField")), .char, (.object "java/util/Comparator"), .byte, .byte]
  resolved := Array.replicate 1451 none
  statics := some 0 }

def pool8 : Array CpInfo := pool [(1, .class_ 2), (0, u "java/lang/String"), (1, .class_ 6), (1, u "java/lang/Object"), (0, u "<init>"), (0, u "()V"), (0, .methodref 1 10), (0, .nameAndType 11 12), (0, u "checkIndex"), (0, u "(II)V"), (1, .class_ 16), (1, u "java/lang/StringLatin1"), (36, u "([BI)C"), (36, u "canEncode"), (14, u "(C)Z"), (15, u "$assertionsDisabled"), (0, u "Z"), (98, .class_ 223), (1, u "java/lang/StringLatin1$LinesSpliterator"), (28, u "charAt"), (127, u "toBytes"), (1, u "(C)[B"), (7, .class_ 391), (0, u "java/lang/StringLatin1$CharsSpliterator")] 3

def k8m0 : Method := { name := "<init>", desc := "()V", sig := { parameters := [], returnType := none }, accessFlags := 0, code := none }
def k8c1 : Code := { maxStack := 2, maxLocals := 2, code := jdk_43_method_2_code, exceptionTable := #[], attributes := #[] }
def k8m1 : Method := { name := "charAt", desc := "([BI)C", sig := { parameters := [(.array .byte), .int], returnType := some .char }, accessFlags := 9, code := some k8c1 }
def k8c2 : Code := { maxStack := 2, maxLocals := 1, code := jdk_43_method_3_code, exceptionTable := #[], attributes := #[] }
def k8m2 : Method := { name := "canEncode", desc := "(C)Z", sig := { parameters := [.char], returnType := some .boolean }, accessFlags := 9, code := some k8c2 }
def k8c3 : Code := { maxStack := 4, maxLocals := 1, code := jdk_43_method_46_code, exceptionTable := #[], attributes := #[] }
def k8m3 : Method := { name := "toBytes", desc := "(C)[B", sig := { parameters := [.char], returnType := some (.array .byte) }, accessFlags := 9, code := some k8c3 }
/-- java/lang/StringLatin1 -/
def k8 : Class := { plain "java/lang/StringLatin1" (some 0) with
  accessFlags := 48
  interfaces := #[]
  cf := some (fileOf pool8 14 #[.nestMembers #[390, 221]] #[{ accessFlags := 0, nameIndex := 7, descriptorIndex := 8, attributes := #[] }, { accessFlags := 9, nameIndex := 252, descriptorIndex := 53, attributes := #[] }, { accessFlags := 9, nameIndex := 90, descriptorIndex := 105, attributes := #[] }, { accessFlags := 9, nameIndex := 380, descriptorIndex := 382, attributes := #[] }] 48 4 #[] #[{ accessFlags := 4120, nameIndex := 121, descriptorIndex := 122, attributes := #[] }])
  fields := #[{ name := "$assertionsDisabled", type := .boolean, accessFlags := 4120, slot := 0, constantValue := 0 }]
  methods := #[k8m0, k8m1, k8m2, k8m3]
  instanceTypes := #[]
  staticTypes := #[.boolean]
  resolved := Array.replicate 395 none
  statics := none }

def pool9 : Array CpInfo := pool [(2, .class_ 4), (1, u "java/lang/Object"), (0, u "<init>"), (0, u "()V"), (1, .class_ 10), (1, u "com/example/ontoloom/ontoloom/sql/Iri"), (0, u "VALID"), (0, u "Ljava/util/regex/Pattern;"), (11, u "()Z"), (8, .nameAndType 35 24), (1, u "isEmpty"), (2, u "ABSOLUTE_START"), (13, .class_ 54), (1, u "java/lang/String"), (5, u "(Ljava/lang/String;)Z"), (10, u "POSTGRESQL"), (0, u "Ljava/lang/String;"), (41, .methodref 52 33), (0, .methodref 52 116), (0, .nameAndType 117 118), (0, u "charAt"), (0, u "(I)C"), (17, u "WIDE_UCSCHAR"), (0, u "Ljava/util/List;"), (7, u "WIDE_IPRIVATE"), (106, u "DATA_ERROR"), (0, u "C"), (2, u "SYNTAX"), (0, u "UNRESERVED"), (0, u "PERCENT_ENCODED"), (14, u "isDataError")] 37

def k9m0 : Method := { name := "<init>", desc := "()V", sig := { parameters := [], returnType := none }, accessFlags := 2, code := none }
def k9c1 : Code := { maxStack := 2, maxLocals := 1, code := prog_6_method_6_code, exceptionTable := #[], attributes := #[] }
def k9m1 : Method := { name := "isDataError", desc := "(Ljava/lang/String;)Z", sig := { parameters := [(.object "java/lang/String")], returnType := some .boolean }, accessFlags := 8, code := some k9c1 }
/-- com/example/ontoloom/ontoloom/sql/Iri -/
def k9 : Class := { plain "com/example/ontoloom/ontoloom/sql/Iri" (some 0) with
  accessFlags := 48
  interfaces := #[]
  cf := some (fileOf pool9 8 #[] #[{ accessFlags := 2, nameIndex := 5, descriptorIndex := 6, attributes := #[] }, { accessFlags := 8, nameIndex := 273, descriptorIndex := 60, attributes := #[] }] 48 2 #[] #[{ accessFlags := 24, nameIndex := 252, descriptorIndex := 253, attributes := #[] }, { accessFlags := 26, nameIndex := 256, descriptorIndex := 72, attributes := #[] }, { accessFlags := 26, nameIndex := 257, descriptorIndex := 72, attributes := #[] }, { accessFlags := 26, nameIndex := 258, descriptorIndex := 72, attributes := #[] }, { accessFlags := 26, nameIndex := 136, descriptorIndex := 137, attributes := #[] }, { accessFlags := 26, nameIndex := 145, descriptorIndex := 137, attributes := #[] }, { accessFlags := 26, nameIndex := 11, descriptorIndex := 12, attributes := #[] }, { accessFlags := 26, nameIndex := 71, descriptorIndex := 72, attributes := #[] }, { accessFlags := 26, nameIndex := 38, descriptorIndex := 12, attributes := #[] }])
  fields := #[{ name := "DATA_ERROR", type := .char, accessFlags := 24, slot := 0, constantValue := 0 }, { name := "SYNTAX", type := (.object "java/lang/String"), accessFlags := 26, slot := 1, constantValue := 0 }, { name := "UNRESERVED", type := (.object "java/lang/String"), accessFlags := 26, slot := 2, constantValue := 0 }, { name := "PERCENT_ENCODED", type := (.object "java/lang/String"), accessFlags := 26, slot := 3, constantValue := 0 }, { name := "WIDE_UCSCHAR", type := (.object "java/util/List"), accessFlags := 26, slot := 4, constantValue := 0 }, { name := "WIDE_IPRIVATE", type := (.object "java/util/List"), accessFlags := 26, slot := 5, constantValue := 0 }, { name := "VALID", type := (.object "java/util/regex/Pattern"), accessFlags := 26, slot := 6, constantValue := 0 }, { name := "POSTGRESQL", type := (.object "java/lang/String"), accessFlags := 26, slot := 7, constantValue := 0 }, { name := "ABSOLUTE_START", type := (.object "java/util/regex/Pattern"), accessFlags := 26, slot := 8, constantValue := 0 }]
  methods := #[k9m0, k9m1]
  instanceTypes := #[]
  staticTypes := #[.char, (.object "java/lang/String"), (.object "java/lang/String"), (.object "java/lang/String"), (.object "java/util/List"), (.object "java/util/List"), (.object "java/util/regex/Pattern"), (.object "java/lang/String"), (.object "java/util/regex/Pattern")]
  resolved := Array.replicate 311 none
  statics := none }

def pool10 : Array CpInfo := pool [(2, .class_ 4), (1, u "java/lang/Object"), (0, u "<init>"), (0, u "()V"), (17, .class_ 26), (1, u "jdk/internal/util/Preconditions"), (6, u "checkIndex"), (21, .class_ 56), (0, u "jdk/internal/util/Preconditions$4"), (57, .class_ 115), (0, u "jdk/internal/util/Preconditions$1"), (7, u "SIOOBE_FORMATTER"), (0, u "Ljava/util/function/BiFunction;"), (0, .class_ 126), (0, u "jdk/internal/util/Preconditions$2"), (3, u "AIOOBE_FORMATTER"), (0, .class_ 132), (0, u "jdk/internal/util/Preconditions$3"), (3, u "IOOBE_FORMATTER"), (41, u "(IILjava/util/function/BiFunction;)I")] 15

def k10m0 : Method := { name := "<init>", desc := "()V", sig := { parameters := [], returnType := none }, accessFlags := 1, code := none }
def k10c1 : Code := { maxStack := 3, maxLocals := 3, code := jdk_41_method_11_code, exceptionTable := #[], attributes := #[] }
def k10m1 : Method := { name := "checkIndex", desc := "(IILjava/util/function/BiFunction;)I", sig := { parameters := [.int, .int, (.object "java/util/function/BiFunction")], returnType := some .int }, accessFlags := 9, code := some k10c1 }
/-- jdk/internal/util/Preconditions -/
def k10 : Class := { plain "jdk/internal/util/Preconditions" (some 0) with
  accessFlags := 33
  interfaces := #[]
  cf := some (fileOf pool10 24 #[.nestMembers #[55, 131, 125, 114]] #[{ accessFlags := 1, nameIndex := 5, descriptorIndex := 6, attributes := #[] }, { accessFlags := 9, nameIndex := 33, descriptorIndex := 178, attributes := #[] }] 33 2 #[] #[{ accessFlags := 25, nameIndex := 123, descriptorIndex := 124, attributes := #[] }, { accessFlags := 25, nameIndex := 130, descriptorIndex := 124, attributes := #[] }, { accessFlags := 25, nameIndex := 136, descriptorIndex := 124, attributes := #[] }])
  fields := #[{ name := "SIOOBE_FORMATTER", type := (.object "java/util/function/BiFunction"), accessFlags := 25, slot := 0, constantValue := 0 }, { name := "AIOOBE_FORMATTER", type := (.object "java/util/function/BiFunction"), accessFlags := 25, slot := 1, constantValue := 0 }, { name := "IOOBE_FORMATTER", type := (.object "java/util/function/BiFunction"), accessFlags := 25, slot := 2, constantValue := 0 }]
  methods := #[k10m0, k10m1]
  instanceTypes := #[]
  staticTypes := #[(.object "java/util/function/BiFunction"), (.object "java/util/function/BiFunction"), (.object "java/util/function/BiFunction")]
  resolved := Array.replicate 194 none
  statics := some 1 }

def pool11 : Array CpInfo := pool [(3, .class_ 4), (0, u "java/lang/String"), (1, .class_ 8), (1, u "java/lang/Object"), (0, u "<init>"), (0, u "()V"), (0, .methodref 12 13), (0, .class_ 14), (0, .nameAndType 15 16), (0, u "java/lang/StringUTF16"), (0, u "newBytesLength"), (0, u "(I)I"), (3, .integer 1073741823), (23, .fieldref 12 45), (0, .nameAndType 46 47), (0, u "$assertionsDisabled"), (0, u "Z"), (0, .methodref 12 49), (0, .nameAndType 50 51), (0, u "length"), (0, u "([B)I"), (7, .fieldref 12 60), (0, .nameAndType 61 62), (0, u "HI_BYTE_SHIFT"), (0, u "I"), (0, .fieldref 12 64), (0, .nameAndType 65 62), (0, u "LO_BYTE_SHIFT"), (1, .methodref 12 68), (0, .nameAndType 69 70), (0, u "checkIndex"), (0, u "(I[B)V"), (0, .methodref 12 72), (0, .nameAndType 73 74), (0, u "getChar"), (0, u "([BI)C"), (32, .methodref 12 108), (0, .nameAndType 109 110), (0, u "newBytesFor"), (0, u "(I)[B"), (0, .methodref 12 112), (0, .nameAndType 113 114), (0, u "putChar"), (0, u "([BII)V"), (0, .methodref 12 116), (0, .nameAndType 117 118), (0, u "compress"), (0, u "([CI[BII)I"), (0, .methodref 12 120), (0, .nameAndType 121 122), (0, u "toBytes"), (0, u "([CII)[B"), (138, u "coderFromArrayLen"), (0, u "([BI)B"), (106, .class_ 371), (1, u "java/lang/StringUTF16$LinesSpliterator"), (20, u "charAt"), (21, .methodref 3 415), (0, .nameAndType 69 416), (0, u "(II)V"), (13, u "MAX_LENGTH"), (44, u "(C)[B"), (151, .class_ 628), (0, u "java/lang/StringUTF16$CodePointsSpliterator"), (0, .class_ 630), (0, u "java/lang/StringUTF16$CharsSpliterator")] 4

def k11m0 : Method := { name := "<init>", desc := "()V", sig := { parameters := [], returnType := none }, accessFlags := 0, code := none }
def k11c1 : Code := { maxStack := 1, maxLocals := 1, code := jdk_52_method_2_code, exceptionTable := #[], attributes := #[] }
def k11m1 : Method := { name := "newBytesFor", desc := "(I)[B", sig := { parameters := [.int], returnType := some (.array .byte) }, accessFlags := 9, code := some k11c1 }
def k11c2 : Code := { maxStack := 4, maxLocals := 1, code := jdk_52_method_3_code, exceptionTable := #[], attributes := #[] }
def k11m2 : Method := { name := "newBytesLength", desc := "(I)I", sig := { parameters := [.int], returnType := some .int }, accessFlags := 9, code := some k11c2 }
def k11c3 : Code := { maxStack := 4, maxLocals := 3, code := jdk_52_method_4_code, exceptionTable := #[], attributes := #[] }
def k11m3 : Method := { name := "putChar", desc := "([BII)V", sig := { parameters := [(.array .byte), .int, .int], returnType := none }, accessFlags := 8, code := some k11c3 }
def k11c4 : Code := { maxStack := 3, maxLocals := 2, code := jdk_52_method_5_code, exceptionTable := #[], attributes := #[] }
def k11m4 : Method := { name := "getChar", desc := "([BI)C", sig := { parameters := [(.array .byte), .int], returnType := some .char }, accessFlags := 8, code := some k11c4 }
def k11c5 : Code := { maxStack := 2, maxLocals := 1, code := jdk_52_method_6_code, exceptionTable := #[], attributes := #[] }
def k11m5 : Method := { name := "length", desc := "([B)I", sig := { parameters := [(.array .byte)], returnType := some .int }, accessFlags := 9, code := some k11c5 }
def k11c6 : Code := { maxStack := 4, maxLocals := 5, code := jdk_52_method_14_code, exceptionTable := #[], attributes := #[] }
def k11m6 : Method := { name := "toBytes", desc := "([CII)[B", sig := { parameters := [(.array .char), .int, .int], returnType := some (.array .byte) }, accessFlags := 9, code := some k11c6 }
def k11c7 : Code := { maxStack := 2, maxLocals := 2, code := jdk_52_method_15_code, exceptionTable := #[], attributes := #[] }
def k11m7 : Method := { name := "coderFromArrayLen", desc := "([BI)B", sig := { parameters := [(.array .byte), .int], returnType := some .byte }, accessFlags := 8, code := some k11c7 }
def k11c8 : Code := { maxStack := 5, maxLocals := 6, code := jdk_52_method_16_code, exceptionTable := #[], attributes := #[] }
def k11m8 : Method := { name := "compress", desc := "([CII)[B", sig := { parameters := [(.array .char), .int, .int], returnType := some (.array .byte) }, accessFlags := 9, code := some k11c8 }
def k11c9 : Code := { maxStack := 3, maxLocals := 7, code := jdk_52_method_21_code, exceptionTable := #[], attributes := #[] }
def k11m9 : Method := { name := "compress", desc := "([CI[BII)I", sig := { parameters := [(.array .char), .int, (.array .byte), .int, .int], returnType := some .int }, accessFlags := 9, code := some k11c9 }
def k11c10 : Code := { maxStack := 3, maxLocals := 2, code := jdk_52_method_24_code, exceptionTable := #[], attributes := #[] }
def k11m10 : Method := { name := "toBytes", desc := "(C)[B", sig := { parameters := [.char], returnType := some (.array .byte) }, accessFlags := 9, code := some k11c10 }
def k11c11 : Code := { maxStack := 2, maxLocals := 2, code := jdk_52_method_83_code, exceptionTable := #[], attributes := #[] }
def k11m11 : Method := { name := "charAt", desc := "([BI)C", sig := { parameters := [(.array .byte), .int], returnType := some .char }, accessFlags := 9, code := some k11c11 }
def k11c12 : Code := { maxStack := 2, maxLocals := 2, code := jdk_52_method_91_code, exceptionTable := #[], attributes := #[] }
def k11m12 : Method := { name := "checkIndex", desc := "(I[B)V", sig := { parameters := [.int, (.array .byte)], returnType := none }, accessFlags := 9, code := some k11c12 }
/-- java/lang/StringUTF16 -/
def k11 : Class := { plain "java/lang/StringUTF16" (some 0) with
  accessFlags := 48
  interfaces := #[]
  cf := some (fileOf pool11 12 #[.nestMembers #[627, 629, 369]] #[{ accessFlags := 0, nameIndex := 9, descriptorIndex := 10, attributes := #[] }, { accessFlags := 9, nameIndex := 109, descriptorIndex := 110, attributes := #[] }, { accessFlags := 9, nameIndex := 15, descriptorIndex := 16, attributes := #[] }, { accessFlags := 8, nameIndex := 113, descriptorIndex := 114, attributes := #[] }, { accessFlags := 8, nameIndex := 73, descriptorIndex := 74, attributes := #[] }, { accessFlags := 9, nameIndex := 50, descriptorIndex := 51, attributes := #[] }, { accessFlags := 9, nameIndex := 121, descriptorIndex := 122, attributes := #[] }, { accessFlags := 8, nameIndex := 261, descriptorIndex := 262, attributes := #[] }, { accessFlags := 9, nameIndex := 117, descriptorIndex := 122, attributes := #[] }, { accessFlags := 9, nameIndex := 117, descriptorIndex := 118, attributes := #[] }, { accessFlags := 9, nameIndex := 121, descriptorIndex := 475, attributes := #[] }, { accessFlags := 9, nameIndex := 392, descriptorIndex := 74, attributes := #[] }, { accessFlags := 9, nameIndex := 69, descriptorIndex := 70, attributes := #[] }] 48 6 #[] #[{ accessFlags := 26, nameIndex := 61, descriptorIndex := 62, attributes := #[] }, { accessFlags := 26, nameIndex := 65, descriptorIndex := 62, attributes := #[] }, { accessFlags := 24, nameIndex := 430, descriptorIndex := 62, attributes := #[] }, { accessFlags := 4120, nameIndex := 46, descriptorIndex := 47, attributes := #[] }])
  fields := #[{ name := "HI_BYTE_SHIFT", type := .int, accessFlags := 26, slot := 0, constantValue := 0 }, { name := "LO_BYTE_SHIFT", type := .int, accessFlags := 26, slot := 1, constantValue := 0 }, { name := "MAX_LENGTH", type := .int, accessFlags := 24, slot := 2, constantValue := 0 }, { name := "$assertionsDisabled", type := .boolean, accessFlags := 4120, slot := 3, constantValue := 0 }]
  methods := #[k11m0, k11m1, k11m2, k11m3, k11m4, k11m5, k11m6, k11m7, k11m8, k11m9, k11m10, k11m11, k11m12]
  instanceTypes := #[]
  staticTypes := #[.int, .int, .int, .boolean]
  resolved := Array.replicate 635 none
  statics := some 2 }

def pool12 : Array CpInfo := pool [(9, u "<init>"), (6, .class_ 18), (1, u "java/lang/Object"), (0, u "()V"), (1, .class_ 23), (1, u "jdk/internal/util/ArraysSupport"), (0, u "LOG2_ARRAY_LONG_INDEX_SCALE"), (0, u "I"), (2, u "U"), (0, u "Ljdk/internal/misc/Unsafe;"), (8, u "BIG_ENDIAN"), (0, u "Z"), (8, u "LOG2_BYTE_BIT_SIZE"), (4, u "LOG2_ARRAY_INT_INDEX_SCALE"), (54, u "JLA"), (0, u "Ljdk/internal/access/JavaLangAccess;"), (11, u "LOG2_ARRAY_BOOLEAN_INDEX_SCALE"), (9, u "LOG2_ARRAY_BYTE_INDEX_SCALE"), (5, u "LOG2_ARRAY_CHAR_INDEX_SCALE"), (5, u "LOG2_ARRAY_SHORT_INDEX_SCALE"), (18, u "LOG2_ARRAY_FLOAT_INDEX_SCALE"), (24, u "LOG2_ARRAY_DOUBLE_INDEX_SCALE"), (89, u "T_BOOLEAN"), (2, u "T_CHAR"), (1, u "T_FLOAT"), (1, u "T_DOUBLE"), (1, u "T_BYTE"), (1, u "T_SHORT"), (1, u "T_INT"), (1, u "T_LONG"), (1, u "SOFT_MAX_ARRAY_LENGTH")] 83

def k12m0 : Method := { name := "<init>", desc := "()V", sig := { parameters := [], returnType := none }, accessFlags := 2, code := none }
/-- jdk/internal/util/ArraysSupport -/
def k12 : Class := { plain "jdk/internal/util/ArraysSupport" (some 0) with
  accessFlags := 33
  interfaces := #[]
  cf := some (fileOf pool12 21 #[] #[{ accessFlags := 2, nameIndex := 9, descriptorIndex := 19, attributes := #[] }] 33 16 #[] #[{ accessFlags := 24, nameIndex := 28, descriptorIndex := 29, attributes := #[] }, { accessFlags := 26, nameIndex := 38, descriptorIndex := 39, attributes := #[] }, { accessFlags := 25, nameIndex := 121, descriptorIndex := 25, attributes := #[] }, { accessFlags := 25, nameIndex := 131, descriptorIndex := 25, attributes := #[] }, { accessFlags := 25, nameIndex := 137, descriptorIndex := 25, attributes := #[] }, { accessFlags := 25, nameIndex := 143, descriptorIndex := 25, attributes := #[] }, { accessFlags := 25, nameIndex := 53, descriptorIndex := 25, attributes := #[] }, { accessFlags := 25, nameIndex := 24, descriptorIndex := 25, attributes := #[] }, { accessFlags := 25, nameIndex := 162, descriptorIndex := 25, attributes := #[] }, { accessFlags := 25, nameIndex := 187, descriptorIndex := 25, attributes := #[] }, { accessFlags := 26, nameIndex := 48, descriptorIndex := 25, attributes := #[] }, { accessFlags := 25, nameIndex := 277, descriptorIndex := 25, attributes := #[] }, { accessFlags := 25, nameIndex := 280, descriptorIndex := 25, attributes := #[] }, { accessFlags := 25, nameIndex := 282, descriptorIndex := 25, attributes := #[] }, { accessFlags := 25, nameIndex := 284, descriptorIndex := 25, attributes := #[] }, { accessFlags := 25, nameIndex := 286, descriptorIndex := 25, attributes := #[] }, { accessFlags := 25, nameIndex := 288, descriptorIndex := 25, attributes := #[] }, { accessFlags := 25, nameIndex := 290, descriptorIndex := 25, attributes := #[] }, { accessFlags := 25, nameIndex := 292, descriptorIndex := 25, attributes := #[] }, { accessFlags := 26, nameIndex := 108, descriptorIndex := 109, attributes := #[] }, { accessFlags := 25, nameIndex := 294, descriptorIndex := 25, attributes := #[] }])
  fields := #[{ name := "U", type := (.object "jdk/internal/misc/Unsafe"), accessFlags := 24, slot := 0, constantValue := 0 }, { name := "BIG_ENDIAN", type := .boolean, accessFlags := 26, slot := 1, constantValue := 0 }, { name := "LOG2_ARRAY_BOOLEAN_INDEX_SCALE", type := .int, accessFlags := 25, slot := 2, constantValue := 0 }, { name := "LOG2_ARRAY_BYTE_INDEX_SCALE", type := .int, accessFlags := 25, slot := 3, constantValue := 0 }, { name := "LOG2_ARRAY_CHAR_INDEX_SCALE", type := .int, accessFlags := 25, slot := 4, constantValue := 0 }, { name := "LOG2_ARRAY_SHORT_INDEX_SCALE", type := .int, accessFlags := 25, slot := 5, constantValue := 0 }, { name := "LOG2_ARRAY_INT_INDEX_SCALE", type := .int, accessFlags := 25, slot := 6, constantValue := 0 }, { name := "LOG2_ARRAY_LONG_INDEX_SCALE", type := .int, accessFlags := 25, slot := 7, constantValue := 0 }, { name := "LOG2_ARRAY_FLOAT_INDEX_SCALE", type := .int, accessFlags := 25, slot := 8, constantValue := 0 }, { name := "LOG2_ARRAY_DOUBLE_INDEX_SCALE", type := .int, accessFlags := 25, slot := 9, constantValue := 0 }, { name := "LOG2_BYTE_BIT_SIZE", type := .int, accessFlags := 26, slot := 10, constantValue := 0 }, { name := "T_BOOLEAN", type := .int, accessFlags := 25, slot := 11, constantValue := 0 }, { name := "T_CHAR", type := .int, accessFlags := 25, slot := 12, constantValue := 0 }, { name := "T_FLOAT", type := .int, accessFlags := 25, slot := 13, constantValue := 0 }, { name := "T_DOUBLE", type := .int, accessFlags := 25, slot := 14, constantValue := 0 }, { name := "T_BYTE", type := .int, accessFlags := 25, slot := 15, constantValue := 0 }, { name := "T_SHORT", type := .int, accessFlags := 25, slot := 16, constantValue := 0 }, { name := "T_INT", type := .int, accessFlags := 25, slot := 17, constantValue := 0 }, { name := "T_LONG", type := .int, accessFlags := 25, slot := 18, constantValue := 0 }, { name := "JLA", type := (.object "jdk/internal/access/JavaLangAccess"), accessFlags := 26, slot := 19, constantValue := 0 }, { name := "SOFT_MAX_ARRAY_LENGTH", type := .int, accessFlags := 25, slot := 20, constantValue := 0 }]
  methods := #[k12m0]
  instanceTypes := #[]
  staticTypes := #[(.object "jdk/internal/misc/Unsafe"), .boolean, .int, .int, .int, .int, .int, .int, .int, .int, .int, .int, .int, .int, .int, .int, .int, .int, .int, (.object "jdk/internal/access/JavaLangAccess"), .int]
  resolved := Array.replicate 378 none
  statics := none }

def pool13 : Array CpInfo := pool [(1, u "java/lang/Cloneable"), (0, .class_ 1), (0, u "java/lang/Object"), (0, .class_ 3)] 3

/-- java/lang/Cloneable -/
def k13 : Class := { plain "java/lang/Cloneable" (some 0) with
  accessFlags := 1537
  interfaces := #[]
  cf := some (fileOf pool13 2 #[] #[] 1537 4 #[] #[])
  fields := #[]
  methods := #[]
  instanceTypes := #[]
  staticTypes := #[]
  resolved := Array.replicate 8 none
  statics := none }

/-- the primitive byte -/
def k14 : Class := { plain "byte" none with kind := .primitive 'B', accessFlags := 0x411 }
/-- [B -/
def k15 : Class := { plain "[B" (some 0) with kind := .array 14 .byte, interfaces := #[13, 2], accessFlags := 1041 }

/-- the primitive char -/
def k16 : Class := { plain "char" none with kind := .primitive 'C', accessFlags := 0x411 }
/-- [C -/
def k17 : Class := { plain "[C" (some 0) with kind := .array 16 .char, interfaces := #[13, 2], accessFlags := 1041 }

/-- the primitive int -/
def k18 : Class := { plain "int" none with kind := .primitive 'I', accessFlags := 0x411 }
/-- [I -/
def k19 : Class := { plain "[I" (some 0) with kind := .array 18 .int, interfaces := #[13, 2], accessFlags := 1041 }

def heap : Heap := #[{ cls := 7, slots := #[.long 0, .int 1, .null, .int 0, .null, .int 0, .int 0], vm := .statics 7 },
  { cls := 10, slots := #[.null, .null, .null], vm := .statics 10 },
  { cls := 11, slots := #[.int 0, .int 8, .int 0, .int 1], vm := .statics 11 }]
def classes : Array Class := #[k0, k1, k2, k3, k4, k5, k6, k7, k8, k9, k10, k11, k12, k13, k14, k15, k16, k17, k18, k19]
def interned : List (Array UInt16 × Addr) := []
def slotsUsed : Nat := 14
def theMethod : MethodId := ⟨1, 1⟩
def args0 : Array Value := #[.int 5, .int 65, .int 6, .int 7]
def aboutOver (below : List Frame) : State where
  vm := { classes := classes, interned := interned.toArray }
  heap := heap
  slotsUsed := slotsUsed
  threads := #[{ frames := .invoking theMethod args0 :: below }]
def below0 : List Frame := [.native { method := ⟨0, 0⟩, args := #[] }]
def about1 : State := aboutOver below0
def p0 : Program := .bare "" "" ""
def e0 : Env := launch0.env 0 0 0
theorem w_frames : about1.frames = Frame.invoking theMethod args0 :: below0 := rfl
set_option maxRecDepth 65536 in
theorem w_args : argsFit about1.vm theMethod args0 = true := by decide +kernel
set_option maxRecDepth 65536 in
theorem w_heap : heapFits about1 = true := by decide +kernel
set_option maxRecDepth 65536 in
theorem w_runnable : about1.curStatus? = some .runnable := by decide +kernel
set_option maxRecDepth 65536 in
theorem w_alone : about1.alone = true := by decide +kernel
set_option maxRecDepth 65536 in
theorem w_named : about1.methodNamed? x = some theMethod := by decide +kernel
set_option maxRecDepth 65536 in
theorem w_hears : about1.hears theMethod below0 = true := by decide +kernel
set_option maxRecDepth 65536 in
theorem w_ripe : about1.ripe theMethod args0 below0 = true := by decide +kernel
theorem w_running : about1.status = .running := rfl
set_option maxRecDepth 65536 in
theorem w_room : about1.hasRoom e0.platform room_1 = true :=
  launch0.hasRoom_least _ room_1 (by decide +kernel) (by decide +kernel) (by decide +kernel) (by decide +kernel) (by decide +kernel) (by decide +kernel)
theorem allAtoms_all (ts : List Jvm.Cond) (a : Array Jvm.Value) (st : Jvm.State) : (allAtoms ts).before a st = ts.all (fun c => c.before a st) := by
  induction ts with
  | nil => rfl
  | cons c t ih =>
    show (Jvm.Cond.and c (allAtoms t)).before a st = _
    rw [Jvm.Cond.before_and, ih, List.all_cons]
def words1 : List Jvm.Cond := Jvm.Cond.code x code maxLocals ret :: tables_1
/-- a 'code' word, met by the world's own term for the bytes: nothing is compared byte by byte -/
theorem code_word {y : MethodName} {bytes : ByteArray} {mx : Nat} {rt : Option FieldType} {a : Array Value} {s : State} {m : MethodId} {meth : Method} {c : Code} (h1 : s.methodNamed? y = some m) (h2 : s.vm.method? m = some meth) (h3 : meth.code = some c) (h4 : c.code = bytes)
    (h5 : (c.maxLocals == mx && c.exceptionTable.isEmpty && decide (c.maxStack ≤ mostOperands) && decide (meth.sig.returnType = rt) && !meth.locks && decide (parseMethodDescriptor y.desc = some meth.sig)) = true) : (Jvm.Cond.code y bytes mx rt).before a s = true := by
  simp only [Bool.and_eq_true, beq_iff_eq, Bool.not_eq_true', decide_eq_true_eq] at h5
  obtain ⟨⟨⟨⟨⟨g1, g2⟩, g3⟩, g4⟩, g5⟩, g6⟩ := h5
  simp [Cond.before, Cond.holds, Cond.value, h1, h2, h3, h4, g1, g2, g3, g4, g5, g6]
def isCode : Jvm.Cond → Bool
  | .code _ _ _ _ => true
  | _ => false
theorem all_split {L : List Jvm.Cond} {P : Jvm.Cond → Bool} (h1 : L.all (fun c => isCode c || P c) = true) (h2 : ∀ c ∈ L.filter isCode, P c = true) : L.all P = true := by
  refine List.all_eq_true.mpr fun c hc => ?_
  have h := List.all_eq_true.mp h1 c hc
  rcases Bool.eq_false_or_eq_true (isCode c) with hi | hi
  · exact h2 c (List.mem_filter.mpr ⟨hc, hi⟩)
  · simpa [hi] using h
set_option maxRecDepth 65536 in
theorem w_c0 : (Jvm.Cond.code x code maxLocals ret).before args0 about1 = true := code_word (m := ⟨1, 1⟩) (meth := k1m1) (c := k1c1) (by decide +kernel) rfl rfl rfl (by decide +kernel)
set_option maxRecDepth 65536 in
theorem w_c1 : (Jvm.Cond.code ({ cls := "com/example/ontoloom/ontoloom/sql/IriIsDataErrorPinLaw", name := "make", desc := "(ICCC)Ljava/lang/String;" } : Jvm.MethodName) method_3_code (4 : Nat) (Option.some (Jvm.ClassFile.FieldType.object "java/lang/String"))).before args0 about1 = true := code_word (m := ⟨1, 2⟩) (meth := k1m2) (c := k1c2) (by decide +kernel) rfl rfl rfl (by decide +kernel)
set_option maxRecDepth 65536 in
theorem w_c2 : (Jvm.Cond.code ({ cls := "java/lang/String", name := "valueOf", desc := "(C)Ljava/lang/String;" } : Jvm.MethodName) jdk_42_method_139_code (1 : Nat) (Option.some (Jvm.ClassFile.FieldType.object "java/lang/String"))).before args0 about1 = true := code_word (m := ⟨7, 4⟩) (meth := k7m4) (c := k7c4) (by decide +kernel) rfl rfl rfl (by decide +kernel)
set_option maxRecDepth 65536 in
theorem w_c3 : (Jvm.Cond.code ({ cls := "java/lang/StringLatin1", name := "canEncode", desc := "(C)Z" } : Jvm.MethodName) jdk_43_method_3_code (1 : Nat) (Option.some Jvm.ClassFile.FieldType.boolean)).before args0 about1 = true := code_word (m := ⟨8, 2⟩) (meth := k8m2) (c := k8c2) (by decide +kernel) rfl rfl rfl (by decide +kernel)
set_option maxRecDepth 65536 in
theorem w_c4 : (Jvm.Cond.code ({ cls := "java/lang/StringLatin1", name := "toBytes", desc := "(C)[B" } : Jvm.MethodName) jdk_43_method_46_code (1 : Nat) (Option.some (Jvm.ClassFile.FieldType.array Jvm.ClassFile.FieldType.byte))).before args0 about1 = true := code_word (m := ⟨8, 3⟩) (meth := k8m3) (c := k8c3) (by decide +kernel) rfl rfl rfl (by decide +kernel)
set_option maxRecDepth 65536 in
theorem w_c5 : (Jvm.Cond.code ({ cls := "java/lang/String", name := "<init>", desc := "([BB)V" } : Jvm.MethodName) jdk_42_method_151_code (3 : Nat) (Option.none : Option Jvm.ClassFile.FieldType)).before args0 about1 = true := code_word (m := ⟨7, 6⟩) (meth := k7m6) (c := k7c6) (by decide +kernel) rfl rfl rfl (by decide +kernel)
set_option maxRecDepth 65536 in
theorem w_c6 : (Jvm.Cond.code ({ cls := "java/lang/Object", name := "<init>", desc := "()V" } : Jvm.MethodName) object_method_1_code (1 : Nat) (Option.none : Option Jvm.ClassFile.FieldType)).before args0 about1 = true := code_word (m := ⟨0, 0⟩) (meth := k0m0) (c := k0c0) (by decide +kernel) rfl rfl rfl (by decide +kernel)
set_option maxRecDepth 65536 in
theorem w_c7 : (Jvm.Cond.code ({ cls := "com/example/ontoloom/ontoloom/sql/Iri", name := "isDataError", desc := "(Ljava/lang/String;)Z" } : Jvm.MethodName) prog_6_method_6_code (1 : Nat) (Option.some Jvm.ClassFile.FieldType.boolean)).before args0 about1 = true := code_word (m := ⟨9, 1⟩) (meth := k9m1) (c := k9c1) (by decide +kernel) rfl rfl rfl (by decide +kernel)
set_option maxRecDepth 65536 in
theorem w_c8 : (Jvm.Cond.code ({ cls := "java/lang/String", name := "isEmpty", desc := "()Z" } : Jvm.MethodName) jdk_42_method_55_code (1 : Nat) (Option.some Jvm.ClassFile.FieldType.boolean)).before args0 about1 = true := code_word (m := ⟨7, 2⟩) (meth := k7m2) (c := k7c2) (by decide +kernel) rfl rfl rfl (by decide +kernel)
set_option maxRecDepth 65536 in
theorem w_c9 : (Jvm.Cond.code ({ cls := "java/lang/String", name := "charAt", desc := "(I)C" } : Jvm.MethodName) jdk_42_method_56_code (2 : Nat) (Option.some Jvm.ClassFile.FieldType.char)).before args0 about1 = true := code_word (m := ⟨7, 3⟩) (meth := k7m3) (c := k7c3) (by decide +kernel) rfl rfl rfl (by decide +kernel)
set_option maxRecDepth 65536 in
theorem w_c10 : (Jvm.Cond.code ({ cls := "java/lang/String", name := "isLatin1", desc := "()Z" } : Jvm.MethodName) jdk_42_method_154_code (1 : Nat) (Option.some Jvm.ClassFile.FieldType.boolean)).before args0 about1 = true := code_word (m := ⟨7, 7⟩) (meth := k7m7) (c := k7c7) (by decide +kernel) rfl rfl rfl (by decide +kernel)
set_option maxRecDepth 65536 in
theorem w_c11 : (Jvm.Cond.code ({ cls := "java/lang/StringLatin1", name := "charAt", desc := "([BI)C" } : Jvm.MethodName) jdk_43_method_2_code (2 : Nat) (Option.some Jvm.ClassFile.FieldType.char)).before args0 about1 = true := code_word (m := ⟨8, 1⟩) (meth := k8m1) (c := k8c1) (by decide +kernel) rfl rfl rfl (by decide +kernel)
set_option maxRecDepth 65536 in
theorem w_c12 : (Jvm.Cond.code ({ cls := "java/lang/String", name := "checkIndex", desc := "(II)V" } : Jvm.MethodName) jdk_42_method_155_code (2 : Nat) (Option.none : Option Jvm.ClassFile.FieldType)).before args0 about1 = true := code_word (m := ⟨7, 8⟩) (meth := k7m8) (c := k7c8) (by decide +kernel) rfl rfl rfl (by decide +kernel)
set_option maxRecDepth 65536 in
theorem w_c13 : (Jvm.Cond.code ({ cls := "jdk/internal/util/Preconditions", name := "checkIndex", desc := "(IILjava/util/function/BiFunction;)I" } : Jvm.MethodName) jdk_41_method_11_code (3 : Nat) (Option.some Jvm.ClassFile.FieldType.int)).before args0 about1 = true := code_word (m := ⟨10, 1⟩) (meth := k10m1) (c := k10c1) (by decide +kernel) rfl rfl rfl (by decide +kernel)
set_option maxRecDepth 65536 in
theorem w_c14 : (Jvm.Cond.code ({ cls := "java/lang/String", name := "<init>", desc := "([C)V" } : Jvm.MethodName) jdk_42_method_3_code (2 : Nat) (Option.none : Option Jvm.ClassFile.FieldType)).before args0 about1 = true := code_word (m := ⟨7, 1⟩) (meth := k7m1) (c := k7c1) (by decide +kernel) rfl rfl rfl (by decide +kernel)
set_option maxRecDepth 65536 in
theorem w_c15 : (Jvm.Cond.code ({ cls := "java/lang/String", name := "<init>", desc := "([CIILjava/lang/Void;)V" } : Jvm.MethodName) jdk_42_method_149_code (6 : Nat) (Option.none : Option Jvm.ClassFile.FieldType)).before args0 about1 = true := code_word (m := ⟨7, 5⟩) (meth := k7m5) (c := k7c5) (by decide +kernel) rfl rfl rfl (by decide +kernel)
set_option maxRecDepth 65536 in
theorem w_c16 : (Jvm.Cond.code ({ cls := "java/lang/StringUTF16", name := "compress", desc := "([CII)[B" } : Jvm.MethodName) jdk_52_method_16_code (6 : Nat) (Option.some (Jvm.ClassFile.FieldType.array Jvm.ClassFile.FieldType.byte))).before args0 about1 = true := code_word (m := ⟨11, 8⟩) (meth := k11m8) (c := k11c8) (by decide +kernel) rfl rfl rfl (by decide +kernel)
set_option maxRecDepth 65536 in
theorem w_c17 : (Jvm.Cond.code ({ cls := "java/lang/StringUTF16", name := "compress", desc := "([CI[BII)I" } : Jvm.MethodName) jdk_52_method_21_code (7 : Nat) (Option.some Jvm.ClassFile.FieldType.int)).before args0 about1 = true := code_word (m := ⟨11, 9⟩) (meth := k11m9) (c := k11c9) (by decide +kernel) rfl rfl rfl (by decide +kernel)
set_option maxRecDepth 65536 in
theorem w_c18 : (Jvm.Cond.code ({ cls := "java/lang/StringUTF16", name := "coderFromArrayLen", desc := "([BI)B" } : Jvm.MethodName) jdk_52_method_15_code (2 : Nat) (Option.some Jvm.ClassFile.FieldType.byte)).before args0 about1 = true := code_word (m := ⟨11, 7⟩) (meth := k11m7) (c := k11c7) (by decide +kernel) rfl rfl rfl (by decide +kernel)
set_option maxRecDepth 65536 in
theorem w_c19 : (Jvm.Cond.code ({ cls := "java/lang/StringUTF16", name := "toBytes", desc := "([CII)[B" } : Jvm.MethodName) jdk_52_method_14_code (5 : Nat) (Option.some (Jvm.ClassFile.FieldType.array Jvm.ClassFile.FieldType.byte))).before args0 about1 = true := code_word (m := ⟨11, 6⟩) (meth := k11m6) (c := k11c6) (by decide +kernel) rfl rfl rfl (by decide +kernel)
set_option maxRecDepth 65536 in
theorem w_c20 : (Jvm.Cond.code ({ cls := "java/lang/StringUTF16", name := "newBytesFor", desc := "(I)[B" } : Jvm.MethodName) jdk_52_method_2_code (1 : Nat) (Option.some (Jvm.ClassFile.FieldType.array Jvm.ClassFile.FieldType.byte))).before args0 about1 = true := code_word (m := ⟨11, 1⟩) (meth := k11m1) (c := k11c1) (by decide +kernel) rfl rfl rfl (by decide +kernel)
set_option maxRecDepth 65536 in
theorem w_c21 : (Jvm.Cond.code ({ cls := "java/lang/StringUTF16", name := "newBytesLength", desc := "(I)I" } : Jvm.MethodName) jdk_52_method_3_code (1 : Nat) (Option.some Jvm.ClassFile.FieldType.int)).before args0 about1 = true := code_word (m := ⟨11, 2⟩) (meth := k11m2) (c := k11c2) (by decide +kernel) rfl rfl rfl (by decide +kernel)
set_option maxRecDepth 65536 in
theorem w_c22 : (Jvm.Cond.code ({ cls := "java/lang/StringUTF16", name := "putChar", desc := "([BII)V" } : Jvm.MethodName) jdk_52_method_4_code (3 : Nat) (Option.none : Option Jvm.ClassFile.FieldType)).before args0 about1 = true := code_word (m := ⟨11, 3⟩) (meth := k11m3) (c := k11c3) (by decide +kernel) rfl rfl rfl (by decide +kernel)
set_option maxRecDepth 65536 in
theorem w_c23 : (Jvm.Cond.code ({ cls := "java/lang/StringUTF16", name := "getChar", desc := "([BI)C" } : Jvm.MethodName) jdk_52_method_5_code (2 : Nat) (Option.some Jvm.ClassFile.FieldType.char)).before args0 about1 = true := code_word (m := ⟨11, 4⟩) (meth := k11m4) (c := k11c4) (by decide +kernel) rfl rfl rfl (by decide +kernel)
set_option maxRecDepth 65536 in
theorem w_c24 : (Jvm.Cond.code ({ cls := "java/lang/StringUTF16", name := "charAt", desc := "([BI)C" } : Jvm.MethodName) jdk_52_method_83_code (2 : Nat) (Option.some Jvm.ClassFile.FieldType.char)).before args0 about1 = true := code_word (m := ⟨11, 11⟩) (meth := k11m11) (c := k11c11) (by decide +kernel) rfl rfl rfl (by decide +kernel)
set_option maxRecDepth 65536 in
theorem w_c25 : (Jvm.Cond.code ({ cls := "java/lang/StringUTF16", name := "checkIndex", desc := "(I[B)V" } : Jvm.MethodName) jdk_52_method_91_code (2 : Nat) (Option.none : Option Jvm.ClassFile.FieldType)).before args0 about1 = true := code_word (m := ⟨11, 12⟩) (meth := k11m12) (c := k11c12) (by decide +kernel) rfl rfl rfl (by decide +kernel)
set_option maxRecDepth 65536 in
theorem w_c26 : (Jvm.Cond.code ({ cls := "java/lang/StringUTF16", name := "length", desc := "([B)I" } : Jvm.MethodName) jdk_52_method_6_code (1 : Nat) (Option.some Jvm.ClassFile.FieldType.int)).before args0 about1 = true := code_word (m := ⟨11, 5⟩) (meth := k11m5) (c := k11c5) (by decide +kernel) rfl rfl rfl (by decide +kernel)
set_option maxRecDepth 65536 in
theorem w_c27 : (Jvm.Cond.code ({ cls := "java/lang/StringUTF16", name := "toBytes", desc := "(C)[B" } : Jvm.MethodName) jdk_52_method_24_code (2 : Nat) (Option.some (Jvm.ClassFile.FieldType.array Jvm.ClassFile.FieldType.byte))).before args0 about1 = true := code_word (m := ⟨11, 10⟩) (meth := k11m10) (c := k11c10) (by decide +kernel) rfl rfl rfl (by decide +kernel)
def codes1 : List Jvm.Cond := [Jvm.Cond.code x code maxLocals ret, Jvm.Cond.code ({ cls := "com/example/ontoloom/ontoloom/sql/IriIsDataErrorPinLaw", name := "make", desc := "(ICCC)Ljava/lang/String;" } : Jvm.MethodName) method_3_code (4 : Nat) (Option.some (Jvm.ClassFile.FieldType.object "java/lang/String")), Jvm.Cond.code ({ cls := "java/lang/String", name := "valueOf", desc := "(C)Ljava/lang/String;" } : Jvm.MethodName) jdk_42_method_139_code (1 : Nat) (Option.some (Jvm.ClassFile.FieldType.object "java/lang/String")), Jvm.Cond.code ({ cls := "java/lang/StringLatin1", name := "canEncode", desc := "(C)Z" } : Jvm.MethodName) jdk_43_method_3_code (1 : Nat) (Option.some Jvm.ClassFile.FieldType.boolean), Jvm.Cond.code ({ cls := "java/lang/StringLatin1", name := "toBytes", desc := "(C)[B" } : Jvm.MethodName) jdk_43_method_46_code (1 : Nat) (Option.some (Jvm.ClassFile.FieldType.array Jvm.ClassFile.FieldType.byte)), Jvm.Cond.code ({ cls := "java/lang/String", name := "<init>", desc := "([BB)V" } : Jvm.MethodName) jdk_42_method_151_code (3 : Nat) (Option.none : Option Jvm.ClassFile.FieldType), Jvm.Cond.code ({ cls := "java/lang/Object", name := "<init>", desc := "()V" } : Jvm.MethodName) object_method_1_code (1 : Nat) (Option.none : Option Jvm.ClassFile.FieldType), Jvm.Cond.code ({ cls := "com/example/ontoloom/ontoloom/sql/Iri", name := "isDataError", desc := "(Ljava/lang/String;)Z" } : Jvm.MethodName) prog_6_method_6_code (1 : Nat) (Option.some Jvm.ClassFile.FieldType.boolean), Jvm.Cond.code ({ cls := "java/lang/String", name := "isEmpty", desc := "()Z" } : Jvm.MethodName) jdk_42_method_55_code (1 : Nat) (Option.some Jvm.ClassFile.FieldType.boolean), Jvm.Cond.code ({ cls := "java/lang/String", name := "charAt", desc := "(I)C" } : Jvm.MethodName) jdk_42_method_56_code (2 : Nat) (Option.some Jvm.ClassFile.FieldType.char), Jvm.Cond.code ({ cls := "java/lang/String", name := "isLatin1", desc := "()Z" } : Jvm.MethodName) jdk_42_method_154_code (1 : Nat) (Option.some Jvm.ClassFile.FieldType.boolean), Jvm.Cond.code ({ cls := "java/lang/StringLatin1", name := "charAt", desc := "([BI)C" } : Jvm.MethodName) jdk_43_method_2_code (2 : Nat) (Option.some Jvm.ClassFile.FieldType.char), Jvm.Cond.code ({ cls := "java/lang/String", name := "checkIndex", desc := "(II)V" } : Jvm.MethodName) jdk_42_method_155_code (2 : Nat) (Option.none : Option Jvm.ClassFile.FieldType), Jvm.Cond.code ({ cls := "jdk/internal/util/Preconditions", name := "checkIndex", desc := "(IILjava/util/function/BiFunction;)I" } : Jvm.MethodName) jdk_41_method_11_code (3 : Nat) (Option.some Jvm.ClassFile.FieldType.int), Jvm.Cond.code ({ cls := "java/lang/String", name := "<init>", desc := "([C)V" } : Jvm.MethodName) jdk_42_method_3_code (2 : Nat) (Option.none : Option Jvm.ClassFile.FieldType), Jvm.Cond.code ({ cls := "java/lang/String", name := "<init>", desc := "([CIILjava/lang/Void;)V" } : Jvm.MethodName) jdk_42_method_149_code (6 : Nat) (Option.none : Option Jvm.ClassFile.FieldType), Jvm.Cond.code ({ cls := "java/lang/StringUTF16", name := "compress", desc := "([CII)[B" } : Jvm.MethodName) jdk_52_method_16_code (6 : Nat) (Option.some (Jvm.ClassFile.FieldType.array Jvm.ClassFile.FieldType.byte)), Jvm.Cond.code ({ cls := "java/lang/StringUTF16", name := "compress", desc := "([CI[BII)I" } : Jvm.MethodName) jdk_52_method_21_code (7 : Nat) (Option.some Jvm.ClassFile.FieldType.int), Jvm.Cond.code ({ cls := "java/lang/StringUTF16", name := "coderFromArrayLen", desc := "([BI)B" } : Jvm.MethodName) jdk_52_method_15_code (2 : Nat) (Option.some Jvm.ClassFile.FieldType.byte), Jvm.Cond.code ({ cls := "java/lang/StringUTF16", name := "toBytes", desc := "([CII)[B" } : Jvm.MethodName) jdk_52_method_14_code (5 : Nat) (Option.some (Jvm.ClassFile.FieldType.array Jvm.ClassFile.FieldType.byte)), Jvm.Cond.code ({ cls := "java/lang/StringUTF16", name := "newBytesFor", desc := "(I)[B" } : Jvm.MethodName) jdk_52_method_2_code (1 : Nat) (Option.some (Jvm.ClassFile.FieldType.array Jvm.ClassFile.FieldType.byte)), Jvm.Cond.code ({ cls := "java/lang/StringUTF16", name := "newBytesLength", desc := "(I)I" } : Jvm.MethodName) jdk_52_method_3_code (1 : Nat) (Option.some Jvm.ClassFile.FieldType.int), Jvm.Cond.code ({ cls := "java/lang/StringUTF16", name := "putChar", desc := "([BII)V" } : Jvm.MethodName) jdk_52_method_4_code (3 : Nat) (Option.none : Option Jvm.ClassFile.FieldType), Jvm.Cond.code ({ cls := "java/lang/StringUTF16", name := "getChar", desc := "([BI)C" } : Jvm.MethodName) jdk_52_method_5_code (2 : Nat) (Option.some Jvm.ClassFile.FieldType.char), Jvm.Cond.code ({ cls := "java/lang/StringUTF16", name := "charAt", desc := "([BI)C" } : Jvm.MethodName) jdk_52_method_83_code (2 : Nat) (Option.some Jvm.ClassFile.FieldType.char), Jvm.Cond.code ({ cls := "java/lang/StringUTF16", name := "checkIndex", desc := "(I[B)V" } : Jvm.MethodName) jdk_52_method_91_code (2 : Nat) (Option.none : Option Jvm.ClassFile.FieldType), Jvm.Cond.code ({ cls := "java/lang/StringUTF16", name := "length", desc := "([B)I" } : Jvm.MethodName) jdk_52_method_6_code (1 : Nat) (Option.some Jvm.ClassFile.FieldType.int), Jvm.Cond.code ({ cls := "java/lang/StringUTF16", name := "toBytes", desc := "(C)[B" } : Jvm.MethodName) jdk_52_method_24_code (2 : Nat) (Option.some (Jvm.ClassFile.FieldType.array Jvm.ClassFile.FieldType.byte))]
set_option maxRecDepth 65536 in
theorem codes_eq : words1.filter isCode = codes1 := rfl
theorem w_codes : ∀ c ∈ words1.filter isCode, c.before args0 about1 = true := by
  rw [codes_eq]
  intro c hc
  simp only [codes1, List.mem_cons, List.not_mem_nil, or_false] at hc
  rcases hc with rfl | rfl | rfl | rfl | rfl | rfl | rfl | rfl | rfl | rfl | rfl | rfl | rfl | rfl | rfl | rfl | rfl | rfl | rfl | rfl | rfl | rfl | rfl | rfl | rfl | rfl | rfl | rfl
  · exact w_c0
  · exact w_c1
  · exact w_c2
  · exact w_c3
  · exact w_c4
  · exact w_c5
  · exact w_c6
  · exact w_c7
  · exact w_c8
  · exact w_c9
  · exact w_c10
  · exact w_c11
  · exact w_c12
  · exact w_c13
  · exact w_c14
  · exact w_c15
  · exact w_c16
  · exact w_c17
  · exact w_c18
  · exact w_c19
  · exact w_c20
  · exact w_c21
  · exact w_c22
  · exact w_c23
  · exact w_c24
  · exact w_c25
  · exact w_c26
  · exact w_c27
set_option maxRecDepth 65536 in
theorem w_t1 : (words1.take 24).all (fun c => isCode c || c.before args0 about1) = true := by decide +kernel
set_option maxRecDepth 65536 in
theorem w_t2 : ((words1.drop 24).take 24).all (fun c => isCode c || c.before args0 about1) = true := by decide +kernel
set_option maxRecDepth 65536 in
theorem w_t3 : (((words1.drop 24).drop 24).take 24).all (fun c => isCode c || c.before args0 about1) = true := by decide +kernel
set_option maxRecDepth 65536 in
theorem w_t4 : ((((words1.drop 24).drop 24).drop 24).take 24).all (fun c => isCode c || c.before args0 about1) = true := by decide +kernel
set_option maxRecDepth 65536 in
theorem w_t5 : ((((words1.drop 24).drop 24).drop 24).drop 24).all (fun c => isCode c || c.before args0 about1) = true := by decide +kernel
theorem w_tables : (allAtoms (Jvm.Cond.code x code maxLocals ret :: tables_1)).before args0 about1 = true := by
  rw [allAtoms_all]
  show words1.all (fun c => c.before args0 about1) = true
  refine all_split ?_ w_codes
  rw [← List.take_append_drop 24 words1, List.all_append, w_t1, ← List.take_append_drop 24 (words1.drop 24), List.all_append, w_t2, ← List.take_append_drop 24 ((words1.drop 24).drop 24), List.all_append, w_t3, ← List.take_append_drop 24 (((words1.drop 24).drop 24).drop 24), List.all_append, w_t4, w_t5]
  rfl
set_option maxRecDepth 65536 in
theorem w_rest : rest_1_c.before args0 about1 = true := by decide +kernel
set_option maxRecDepth 65536 in
theorem w_case : (Jvm.Cond.and given_1 narrow_1).before args0 about1 = true := by decide +kernel
set_option maxRecDepth 65536 in
theorem w_consts : constsHeld consts_1 about1 := Jvm.Lit.constsHeldB_iff.mp (by decide +kernel)
theorem w_applies : (headSpec (Jvm.Cond.code x code maxLocals ret :: tables_1) room_1).applies x e0.platform about1 = true :=
  (Spec.applies_iff w_frames).mpr ⟨w_running, w_runnable, w_alone, w_named, w_hears, w_ripe, w_room, w_tables⟩
theorem atStart : AtStart classFile x code maxLocals ret World_1 tables_1 room_1 Calls_1 rest_1 Pre_1 launch0 p0 e0 about1 theMethod args0 below0 :=
  ⟨lists_1, trivial, launch0.admits_env _ _ _, launch0.least_env, fairChoices_fair.cas, fairChoices_fair.clock, w_frames, w_args, w_heap, w_applies, ⟨w_consts, trivial⟩, w_rest, w_case⟩
end start1
theorem witness_1 : WitnessClaimed_1 := ⟨start1.p0, start1.e0, start1.about1, start1.theMethod, start1.args0, start1.below0, start1.atStart⟩
end Jvm.Pilot.@@N@@
