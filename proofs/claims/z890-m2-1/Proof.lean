import JvmDerived
import JvmDerived.Pilot.@@N@@Statement
import JvmDerived.Pilot.@@N@@Code
set_option linter.unusedVariables false
set_option linter.unusedSimpArgs false
/- laws to paste: Road.backV, Road.codOf, Road.lenW, Road.chN (cut by pick.py; bodies as the Statement names them) -/
namespace Jvm.Pilot.@@N@@
namespace StrChars
open Jvm Sem ClassFile Op Lib Jvm.Stand Jvm.Free.XT Jvm.Free.ALB Jvm.Free.JM Jvm.Free
open Jvm.Lib.Cold (StaticIs)
/-- a char array whose places are chars -/
def Ch (a : Addr) (A : Cell) (U : State) : Prop := Arr .char a A U ∧ Typed .char A
theorem Ch.mv {a : Addr} {A : Cell} {U U' : State} (h : Ch a A U) (hal : U.vm.Alike U'.vm) (hh : U'.heap = U.heap) : Ch a A U' := ⟨h.1.mv hal hh, h.2⟩
theorem Ch.keep {a : Addr} {A : Cell} {U U' : State} (h : Ch a A U) (hal : U.vm.Alike U'.vm) (hk : U'.heap[a]? = some A) : Ch a A U' := ⟨h.1.keep hal hk, h.2⟩
/-- what place i of a char[]'s cell holds -/
def cv (A : Cell) (i : Nat) : Int32 := match A.slots[i]? with | some (.int x) => x | _ => 0
theorem Ch.get {a : Addr} {A : Cell} {U : State} (h : Ch a A U) {i : Nat} (hi : i < A.slots.size) : A.slots[i]? = some (.int (cv A i)) := by
  have e := Array.getElem?_eq_getElem hi
  have f := h.2 i _ e
  unfold cv; rw [e]
  generalize A.slots[i] = v at f
  cases v <;> simp [fits] at f ⊢
/-- the byte that i2b leaves of a char -/
def lo8 (x : Int32) : Int32 := x.toInt8.toInt32
theorem fits_lo8 (y : Int32) : fits .byte (.int (lo8 y)) = true := by
  have h1 := y.toInt8.le_toInt
  have h2 := y.toInt8.toInt_lt
  simp only [lo8, fits, Bool.and_eq_true, decide_eq_true_eq, Int32.le_iff_toInt_le, Int8.toInt_toInt32, show (-128 : Int32).toInt = -128 from by decide, show (127 : Int32).toInt = 127 from by decide]
  omega
/-- A' is A but that each place j of lo .. hi - 1 holds f j -/
def Laid (A A' : Cell) (lo hi : Nat) (f : Nat → Value) : Prop := A'.cls = A.cls ∧ A'.vm = A.vm ∧ A'.slots.size = A.slots.size ∧ ∀ i, A'.slots[i]? = if lo ≤ i ∧ i < hi then some (f i) else A.slots[i]?
theorem Laid.zero (A : Cell) (lo : Nat) (f : Nat → Value) : Laid A A lo (lo + 0) f := ⟨rfl, rfl, rfl, fun i => by rw [if_neg (by omega)]⟩
theorem Laid.step {A Ak : Cell} {lo k : Nat} {f : Nat → Value} {v : Value} (h : Laid A Ak lo k f) (hlo : lo ≤ k) (hk : k < Ak.slots.size) (hv : v = f k) : Laid A (Ak.setSlot k v) lo (k + 1) f := by
  refine ⟨h.1, h.2.1, by simpa [Cell.setSlot] using h.2.2.1, fun i => ?_⟩
  by_cases e : k = i
  · subst e; rw [Cell.slots_setSlot_self v hk, if_pos (by omega), hv]
  · rw [Cell.slots_setSlot_ne v e, h.2.2.2 i]
    by_cases q : lo ≤ i ∧ i < k
    · rw [if_pos q, if_pos (by omega)]
    · rw [if_neg q, if_neg (by omega)]
def U16 : String := "java/lang/StringUTF16"
namespace Cmp5
def yN : MethodName := ⟨"java/lang/StringUTF16", "compress", "([CI[BII)I"⟩
abbrev yB : ByteArray := jdk_52_method_21_code
theorem d0 : decode yB 0 = .ok (.iconst 0, 1) := by decide +kernel
theorem d1 : decode yB 1 = .ok (.istore 5, 2) := by decide +kernel
theorem d3 : decode yB 3 = .ok (.iload 5, 2) := by decide +kernel
theorem d5 : decode yB 5 = .ok (.iload 4, 2) := by decide +kernel
theorem d7 : decode yB 7 = .ok (.if_icmp (.ge) 37, 3) := by decide +kernel
theorem d10 : decode yB 10 = .ok (.aload_n 0, 1) := by decide +kernel
theorem d11 : decode yB 11 = .ok (.iload_n 1, 1) := by decide +kernel
theorem d12 : decode yB 12 = .ok (.caload, 1) := by decide +kernel
theorem d13 : decode yB 13 = .ok (.istore 6, 2) := by decide +kernel
theorem d15 : decode yB 15 = .ok (.iload 6, 2) := by decide +kernel
theorem d17 : decode yB 17 = .ok (.sipush 255, 3) := by decide +kernel
theorem d20 : decode yB 20 = .ok (.if_icmp (.le) 6, 3) := by decide +kernel
theorem d26 : decode yB 26 = .ok (.aload_n 2, 1) := by decide +kernel
theorem d27 : decode yB 27 = .ok (.iload_n 3, 1) := by decide +kernel
theorem d28 : decode yB 28 = .ok (.iload 6, 2) := by decide +kernel
theorem d30 : decode yB 30 = .ok (.i2b, 1) := by decide +kernel
theorem d31 : decode yB 31 = .ok (.bastore, 1) := by decide +kernel
theorem d32 : decode yB 32 = .ok (.iinc 1 1, 3) := by decide +kernel
theorem d35 : decode yB 35 = .ok (.iinc 3 1, 3) := by decide +kernel
theorem d38 : decode yB 38 = .ok (.iinc 5 1, 3) := by decide +kernel
theorem d41 : decode yB 41 = .ok (.goto (-38), 3) := by decide +kernel
theorem d44 : decode yB 44 = .ok (.iload 4, 2) := by decide +kernel
theorem d46 : decode yB 46 = .ok (.ireturn, 1) := by decide +kernel
def site : List Cond := []
def tab : Cond := tabOf yN yB 7 (some .int) site
def P (b : Addr) (A : Cell) (d : Addr) (B : Cell) (o q len : Nat) (args : Array Value) (s : State) : Prop := args = #[.ref b, .int (Int32.ofNat o), .ref d, .int (Int32.ofNat q), .int (Int32.ofNat len)] ∧ Ch b A s ∧ Arr .byte d B s ∧ b ≠ d ∧ o + len ≤ A.slots.size ∧ q + len ≤ B.slots.size ∧ ∀ i, i < len → ¬ 255 < cv A (o + i)
def E (b : Addr) (A : Cell) (d : Addr) (B : Cell) (o q len : Nat) (r : Option Value) (s u : State) : Prop := r = some (.int (Int32.ofNat len)) ∧ ∃ B', Put d B' s u ∧ Laid B B' q (q + len) (fun j => Value.int (lo8 (cv A (o + (j - q)))))
/-- no char of the range above 255: len; the places written hold each char's low byte -/
theorem law (l : Launch) (b : Addr) (A : Cell) (d : Addr) (B : Cell) (o q len : Nat) : Law l yN 5 5 0 0 yB 7 (some .int) site (P b A d B o q len) (E b A d B o q len) (copyLocs d q len) 0 0 := by
  refine Law.of_walk (plainFor_of_name (by decide +kernel)) (by decide +kernel) (by decide +kernel) (by decide) (fun _ _ h => by rw [h.1]; rfl) (fun _ U U' hal hh h => ⟨h.1, h.2.1.mv hal hh, h.2.2.1.mv hal hh, h.2.2.2⟩) (fun r U U' V V' h1 hal h2 h => ⟨h.1, h.2.elim fun B' q => ⟨B', q.1.mv h1 h2, q.2⟩⟩) ?_
  intro p e s m args below meth c s₁ X0 hexec hbytes hml hret hlk hnm hown hh0 W hP
  obtain ⟨rfl, hA, hB, hne, l1, l2, hp⟩ := hP
  have c1 : Steps p.tables e below (s₁.setTop (entryFrame m #[.ref b, .int (Int32.ofNat o), .ref d, .int (Int32.ofNat q), .int (Int32.ofNat len)] 7)) (s₁.setTop (mkF m 0 #[.val (.ref b), .val (.int (Int32.ofNat o)), .val (.ref d), .val (.int (Int32.ofNat q)), .val (.int (Int32.ofNat len)), .unset, .unset] [])) := entry rfl
  have hA0 := hA.1.mv X0.warmed.alike hh0
  have hB0 := hB.mv X0.warmed.alike hh0
  have a31 := hA.1.2.2.2
  have c2 : Steps p.tables e below (s₁.setTop (entryFrame m #[.ref b, .int (Int32.ofNat o), .ref d, .int (Int32.ofNat q), .int (Int32.ofNat len)] 7)) (s₁.setTop (mkF m 3 #[.val (.ref b), .val (.int (Int32.ofNat o)), .val (.ref d), .val (.int (Int32.ofNat q)), .val (.int (Int32.ofNat len)), .val (.int 0), .unset] [])) := c1.trans (by
    refine iconstV X0.here hexec rfl 0 (hb hbytes d0) (by decide) ?_
    refine XS.istore X0.here hexec rfl (hb hbytes d1) rfl rfl ?_
    exact Steps.refl _)
  have loop : ∀ (r i : Nat), i + r = len → ∀ (z : Slot), (z = .unset ∨ ∃ w, z = .val w ∧ w.category = 1) → ∀ (Tl : State) (Bk : Cell), Stand p l e { frames := 0, locals := 0, cells := 0, slots := 0 } s m #[.ref b, .int (Int32.ofNat o), .ref d, .int (Int32.ofNat q), .int (Int32.ofNat len)] below meth c Tl ([] ++ copyLocs d q i) 0 0 → Put d Bk s₁ Tl → Laid B Bk q (q + i) (fun j => Value.int (lo8 (cv A (o + (j - q))))) →
      Steps p.tables e below (s₁.setTop (entryFrame m #[.ref b, .int (Int32.ofNat o), .ref d, .int (Int32.ofNat q), .int (Int32.ofNat len)] 7)) (Tl.setTop (mkF m 3 #[.val (.ref b), .val (.int (Int32.ofNat (o + i))), .val (.ref d), .val (.int (Int32.ofNat (q + i))), .val (.int (Int32.ofNat len)), .val (.int (Int32.ofNat i)), z] [])) → ∃ (T' : State) (B' : Cell) (z' : Slot), Stand p l e { frames := 0, locals := 0, cells := 0, slots := 0 } s m #[.ref b, .int (Int32.ofNat o), .ref d, .int (Int32.ofNat q), .int (Int32.ofNat len)] below meth c T' ([] ++ copyLocs d q len) 0 0 ∧ Put d B' s₁ T' ∧ Laid B B' q (q + len) (fun j => Value.int (lo8 (cv A (o + (j - q))))) ∧
      Steps p.tables e below (s₁.setTop (entryFrame m #[.ref b, .int (Int32.ofNat o), .ref d, .int (Int32.ofNat q), .int (Int32.ofNat len)] 7)) (T'.setTop (mkF m 3 #[.val (.ref b), .val (.int (Int32.ofNat (o + len))), .val (.ref d), .val (.int (Int32.ofNat (q + len))), .val (.int (Int32.ofNat len)), .val (.int (Int32.ofNat len)), z'] [])) := by
    intro r
    induction r with
    | zero =>
      intro i hi z hz Tl Bk Xl pl fl cl
      have hil : i = len := by omega
      rw [hil] at Xl fl cl
      exact ⟨Tl, Bk, z, Xl, pl, fl, cl⟩
    | succ r ih =>
      intro i hi z hz Tl Bk Xl pl fl cl
      have all := X0.warmed.alike.symm.trans Xl.warmed.alike
      have hAl := hA0.keep all (pl.other hne hA0.1)
      have hBk := hB0.like all pl.1 fl.1 fl.2.1 fl.2.2.1
      have hlt : q + i < Bk.slots.size := by rw [fl.2.2.1]; omega
      have c3 : Steps p.tables e below (s₁.setTop (entryFrame m #[.ref b, .int (Int32.ofNat o), .ref d, .int (Int32.ofNat q), .int (Int32.ofNat len)] 7)) (Tl.setTop (mkF m 12 #[.val (.ref b), .val (.int (Int32.ofNat (o + i))), .val (.ref d), .val (.int (Int32.ofNat (q + i))), .val (.int (Int32.ofNat len)), .val (.int (Int32.ofNat i)), z] [.int (Int32.ofNat (o + i)), .ref b])) := cl.trans (by
        refine XS.iload Xl.here hexec rfl (hb hbytes d3) rfl ?_
        refine XS.iload Xl.here hexec rfl (hb hbytes d5) rfl ?_
        refine XS.icmpNo Xl.here hexec rfl (hb hbytes d7) rfl (ii_ge_f (lt32 (by omega) (by omega))) ?_
        refine XS.aloadN Xl.here hexec rfl (hb hbytes d10) rfl rfl ?_
        refine XS.iloadN Xl.here hexec rfl (hb hbytes d11) rfl ?_
        exact Steps.refl _)
      have c4 : Steps p.tables e below (s₁.setTop (entryFrame m #[.ref b, .int (Int32.ofNat o), .ref d, .int (Int32.ofNat q), .int (Int32.ofNat len)] 7)) (Tl.setTop (mkF m 13 #[.val (.ref b), .val (.int (Int32.ofNat (o + i))), .val (.ref d), .val (.int (Int32.ofNat (q + i))), .val (.int (Int32.ofNat len)), .val (.int (Int32.ofNat i)), z] [.int (cv A (o + i))])) := c3.trans (by
        refine Xl.aget hexec hAl rfl (hA.get (i := o + i) (by omega)) rfl rfl (hb hbytes d12) ?_
        exact Steps.refl _)
      have c5 : Steps p.tables e below (s₁.setTop (entryFrame m #[.ref b, .int (Int32.ofNat o), .ref d, .int (Int32.ofNat q), .int (Int32.ofNat len)] 7)) (Tl.setTop (mkF m 15 #[.val (.ref b), .val (.int (Int32.ofNat (o + i))), .val (.ref d), .val (.int (Int32.ofNat (q + i))), .val (.int (Int32.ofNat len)), .val (.int (Int32.ofNat i)), .val (.int (cv A (o + i)))] [])) := c4.trans (by
        refine XS.istoreS Xl.here hexec rfl (hb hbytes d13) rfl rfl hz ?_
        exact Steps.refl _)
      have c6 : Steps p.tables e below (s₁.setTop (entryFrame m #[.ref b, .int (Int32.ofNat o), .ref d, .int (Int32.ofNat q), .int (Int32.ofNat len)] 7)) (Tl.setTop (mkF m 31 #[.val (.ref b), .val (.int (Int32.ofNat (o + i))), .val (.ref d), .val (.int (Int32.ofNat (q + i))), .val (.int (Int32.ofNat len)), .val (.int (Int32.ofNat i)), .val (.int (cv A (o + i)))] [.int (lo8 (cv A (o + i))), .int (Int32.ofNat (q + i)), .ref d])) := c5.trans (by
        refine XS.iload Xl.here hexec rfl (hb hbytes d15) rfl ?_
        refine sipushV Xl.here hexec rfl 255 (hb hbytes d17) (by decide) ?_
        refine XS.icmpYes Xl.here hexec rfl (pc0 := 20) rfl (hb hbytes d20) rfl (ii_le_t (hp i (by omega))) (by decide) rfl ?_
        refine XS.aloadN Xl.here hexec rfl (hb hbytes d26) rfl rfl ?_
        refine XS.iloadN Xl.here hexec rfl (hb hbytes d27) rfl ?_
        refine XS.iload Xl.here hexec rfl (hb hbytes d28) rfl ?_
        refine i2b Xl.here hexec rfl (hb hbytes d30) rfl ?_
        exact Steps.refl _)
      obtain ⟨T7, X7, p7, st7⟩ := Xl.aput hexec hBk rfl hlt rfl (fits_lo8 (cv A (o + i))) (g := (mkF m 31 #[.val (.ref b), .val (.int (Int32.ofNat (o + i))), .val (.ref d), .val (.int (Int32.ofNat (q + i))), .val (.int (Int32.ofNat len)), .val (.int (Int32.ofNat i)), .val (.int (cv A (o + i)))] [.int (lo8 (cv A (o + i))), .int (Int32.ofNat (q + i)), .ref d])) rfl (rest := []) rfl (hb hbytes d31)
      have c8 : Steps p.tables e below (s₁.setTop (entryFrame m #[.ref b, .int (Int32.ofNat o), .ref d, .int (Int32.ofNat q), .int (Int32.ofNat len)] 7)) (T7.setTop (mkF m 32 #[.val (.ref b), .val (.int (Int32.ofNat (o + i))), .val (.ref d), .val (.int (Int32.ofNat (q + i))), .val (.int (Int32.ofNat len)), .val (.int (Int32.ofNat i)), .val (.int (cv A (o + i)))] [])) := c6.trans (st7 _ (Steps.refl _))
      have c9 : Steps p.tables e below (s₁.setTop (entryFrame m #[.ref b, .int (Int32.ofNat o), .ref d, .int (Int32.ofNat q), .int (Int32.ofNat len)] 7)) (T7.setTop (mkF m 3 #[.val (.ref b), .val (.int (Int32.ofNat (o + i) + 1)), .val (.ref d), .val (.int (Int32.ofNat (q + i) + 1)), .val (.int (Int32.ofNat len)), .val (.int (Int32.ofNat i + 1)), .val (.int (cv A (o + i)))] [])) := c8.trans (by
        refine iincV X7.here hexec rfl 1 (hb hbytes d32) (by decide) rfl rfl ?_
        refine iincV X7.here hexec rfl 1 (hb hbytes d35) (by decide) rfl rfl ?_
        refine iincV X7.here hexec rfl 1 (hb hbytes d38) (by decide) rfl rfl ?_
        refine XS.goto X7.here hexec rfl (pc0 := 41) rfl (hb hbytes d41) (by decide) rfl ?_
        exact Steps.refl _)
      have c10 : Steps p.tables e below (s₁.setTop (entryFrame m #[.ref b, .int (Int32.ofNat o), .ref d, .int (Int32.ofNat q), .int (Int32.ofNat len)] 7)) (T7.setTop (mkF m 3 #[.val (.ref b), .val (.int (Int32.ofNat (o + (i + 1)))), .val (.ref d), .val (.int (Int32.ofNat (q + (i + 1)))), .val (.int (Int32.ofNat len)), .val (.int (Int32.ofNat (i + 1))), .val (.int (cv A (o + i)))] [])) := by
        have := c9
        rw [succ32, succ32, succ32] at this
        exact this
      exact ih (i + 1) (by omega) _ (Or.inr ⟨_, rfl, rfl⟩) T7 _ (by rw [copyLocs_step, ← List.append_assoc]; exact X7) (pl.trans p7) (fl.step (by omega) hlt (by simp)) c10
  obtain ⟨T9, B9, z9, X9, p9, f9, g9⟩ := loop len 0 (by omega) .unset (Or.inl rfl) s₁ B (by simpa [copyLocs] using X0) ⟨hB0.1, fun _ _ => rfl, rfl⟩ (Laid.zero _ _ _) c2
  have c11 : Steps p.tables e below (s₁.setTop (entryFrame m #[.ref b, .int (Int32.ofNat o), .ref d, .int (Int32.ofNat q), .int (Int32.ofNat len)] 7)) (T9.setTop (mkF m 46 #[.val (.ref b), .val (.int (Int32.ofNat (o + len))), .val (.ref d), .val (.int (Int32.ofNat (q + len))), .val (.int (Int32.ofNat len)), .val (.int (Int32.ofNat len)), z9] [.int (Int32.ofNat len)])) := g9.trans (by
    refine XS.iload X9.here hexec rfl (hb hbytes d3) rfl ?_
    refine XS.iload X9.here hexec rfl (hb hbytes d5) rfl ?_
    refine XS.icmpYes X9.here hexec rfl (pc0 := 7) rfl (hb hbytes d7) rfl (ii_ge_t (nlt32 (by omega) (Nat.le_refl _))) (by decide) rfl ?_
    refine XS.iload X9.here hexec rfl (hb hbytes d44) rfl ?_
    exact Steps.refl _)
  exact ⟨T9, some (.int (Int32.ofNat len)), _, _, _, X9, by simp, rfl, rfl, (fun h => by cases h), ⟨rfl, B9, p9.from hh0, f9⟩, fun fs hl => c11.trans (X9.ireturnOut hexec hret rfl (Or.inl rfl) (hb hbytes d46) hl)⟩
end Cmp5
namespace Cmp3
def yN : MethodName := ⟨"java/lang/StringUTF16", "compress", "([CII)[B"⟩
abbrev yB : ByteArray := jdk_52_method_16_code
theorem d0 : decode yB 0 = .ok (.iload_n 2, 1) := by decide +kernel
theorem d1 : decode yB 1 = .ok (.newarray .byte, 2) := by decide +kernel
theorem d3 : decode yB 3 = .ok (.astore_n 3, 1) := by decide +kernel
theorem d4 : decode yB 4 = .ok (.aload_n 0, 1) := by decide +kernel
theorem d5 : decode yB 5 = .ok (.iload_n 1, 1) := by decide +kernel
theorem d6 : decode yB 6 = .ok (.aload_n 3, 1) := by decide +kernel
theorem d7 : decode yB 7 = .ok (.iconst 0, 1) := by decide +kernel
theorem d8 : decode yB 8 = .ok (.iload_n 2, 1) := by decide +kernel
theorem d9 : decode yB 9 = .ok (.invokestatic 115, 3) := by decide +kernel
theorem d12 : decode yB 12 = .ok (.istore 4, 2) := by decide +kernel
theorem d14 : decode yB 14 = .ok (.iload 4, 2) := by decide +kernel
theorem d16 : decode yB 16 = .ok (.iload_n 2, 1) := by decide +kernel
theorem d17 : decode yB 17 = .ok (.if_icmp (.eq) 40, 3) := by decide +kernel
theorem d57 : decode yB 57 = .ok (.aload_n 3, 1) := by decide +kernel
theorem d58 : decode yB 58 = .ok (.areturn, 1) := by decide +kernel
def site : List Cond := [.arrayClass .byte, Cmp5.tab] ++ staticW U16 115 Cmp5.yN
def tab : Cond := tabOf yN yB 6 (some (.array .byte)) site
def P (b : Addr) (A : Cell) (o len : Nat) (args : Array Value) (s : State) : Prop := args = #[.ref b, .int (Int32.ofNat o), .int (Int32.ofNat len)] ∧ Ch b A s ∧ o + len ≤ A.slots.size ∧ len ≤ 536870912 ∧ ∀ i, i < len → ¬ 255 < cv A (o + i)
def E (b : Addr) (A : Cell) (o len : Nat) (r : Option Value) (s u : State) : Prop := NewArr .byte "[B" len (fun j => .int (lo8 (cv A (o + j)))) r s u ∧ u.heap.size = s.heap.size + 1
/-- no char of the range above 255: a new byte[] of their low bytes -/
theorem law (l : Launch) (b : Addr) (A : Cell) (o len : Nat) : Law l yN 3 3 1 18 yB 6 (some (.array .byte)) site (P b A o len) (E b A o len) [] 1 len := by
  refine Law.of_walk (plainFor_of_name (by decide +kernel)) (by decide +kernel) (by decide +kernel) (by decide) (fun _ _ h => by rw [h.1]; rfl) (fun _ U U' hal hh h => ⟨h.1, h.2.1.mv hal hh, h.2.2⟩) (fun r U U' V V' h1 hal h2 h => ⟨NewArr.mv r U U' V V' h1 hal h2 h.1, by rw [h1, h2]; exact h.2⟩) ?_
  intro p e s m args below meth c s₁ X0 hexec hbytes hml hret hlk hnm hown hh0 W hP
  obtain ⟨rfl, hA, l1, l2, hp⟩ := hP
  have a31 := hA.1.2.2.2
  have c1 : Steps p.tables e below (s₁.setTop (entryFrame m #[.ref b, .int (Int32.ofNat o), .int (Int32.ofNat len)] 6)) (s₁.setTop (mkF m 0 #[.val (.ref b), .val (.int (Int32.ofNat o)), .val (.int (Int32.ofNat len)), .unset, .unset, .unset] [])) := entry rfl
  have c2 : Steps p.tables e below (s₁.setTop (entryFrame m #[.ref b, .int (Int32.ofNat o), .int (Int32.ofNat len)] 6)) (s₁.setTop (mkF m 1 #[.val (.ref b), .val (.int (Int32.ofNat o)), .val (.int (Int32.ofNat len)), .unset, .unset, .unset] [.int (Int32.ofNat len)])) := c1.trans (by
    refine XS.iloadN X0.here hexec rfl (hb hbytes d0) rfl ?_
    exact Steps.refl _)
  obtain ⟨T3, B3, X3, ba3, bs3, bv3, bh3, bf3, st3⟩ := X0.anew hexec (atype := .byte) (wk W (.arrayClass .byte)) rfl (by show len * 1 ≤ _; omega) (by omega) (g := (mkF m 1 #[.val (.ref b), .val (.int (Int32.ofNat o)), .val (.int (Int32.ofNat len)), .unset, .unset, .unset] [.int (Int32.ofNat len)])) rfl (hb hbytes d1) (rest := []) rfl (Nat.le_refl _) (by show 0 + len ≤ len; omega)
  rw [hh0] at ba3 st3
  have kp3 : XT.Kept s T3 := (XT.Kept.of_eq hh0).push bh3
  have hA3 := hA.keep X3.warmed.alike (kp3 _ _ hA.1.1)
  have hne : b ≠ s.heap.size := hA.1.ne
  have c4 : Steps p.tables e below (s₁.setTop (entryFrame m #[.ref b, .int (Int32.ofNat o), .int (Int32.ofNat len)] 6)) (T3.setTop (mkF m 3 #[.val (.ref b), .val (.int (Int32.ofNat o)), .val (.int (Int32.ofNat len)), .unset, .unset, .unset] [.ref s.heap.size])) := c2.trans (st3 _ (Steps.refl _))
  have c5 : Steps p.tables e below (s₁.setTop (entryFrame m #[.ref b, .int (Int32.ofNat o), .int (Int32.ofNat len)] 6)) (T3.setTop (mkF m 9 #[.val (.ref b), .val (.int (Int32.ofNat o)), .val (.int (Int32.ofNat len)), .val (.ref s.heap.size), .unset, .unset] [.int (Int32.ofNat len), .int 0, .ref s.heap.size, .int (Int32.ofNat o), .ref b])) := c4.trans (by
    refine XS.astoreN X3.here hexec rfl (hb hbytes d3) rfl rfl rfl ?_
    refine XS.aloadN X3.here hexec rfl (hb hbytes d4) rfl rfl ?_
    refine XS.iloadN X3.here hexec rfl (hb hbytes d5) rfl ?_
    refine XS.aloadN X3.here hexec rfl (hb hbytes d6) rfl rfl ?_
    refine iconstV X3.here hexec rfl 0 (hb hbytes d7) (by decide) ?_
    refine XS.iloadN X3.here hexec rfl (hb hbytes d8) rfl ?_
    exact Steps.refl _)
  obtain ⟨v6, T6, X6, E6, g6⟩ := X3.callS hexec (Cmp5.law l b A s.heap.size B3 o 0 len) hown (wks W (staticW U16 115 Cmp5.yN)) (wk W Cmp5.tab) (W := 0) (Nat.le_of_ble_eq_true rfl) (Nat.le_of_ble_eq_true rfl) (Nat.le_refl _) (by show 0 + len + 0 ≤ len; omega) (g := (mkF m 9 #[.val (.ref b), .val (.int (Int32.ofNat o)), .val (.int (Int32.ofNat len)), .val (.ref s.heap.size), .unset, .unset] [.int (Int32.ofNat len), .int (Int32.ofNat 0), .ref s.heap.size, .int (Int32.ofNat o), .ref b])) rfl (by rw [hml]; rfl) c5 (argsL := [.ref b, .int (Int32.ofNat o), .ref s.heap.size, .int (Int32.ofNat 0), .int (Int32.ofNat len)]) (rest := []) rfl rfl (by show 2 * 0 + 0 ≤ _; decide) (hb hbytes d9) (⟨rfl, hA3, ba3, hne, l1, by rw [bs3]; simp, hp⟩)
  obtain ⟨rfl, B6, p6, f6⟩ := E6
  have c7 : Steps p.tables e below (s₁.setTop (entryFrame m #[.ref b, .int (Int32.ofNat o), .int (Int32.ofNat len)] 6)) (T6.setTop (mkF m 12 #[.val (.ref b), .val (.int (Int32.ofNat o)), .val (.int (Int32.ofNat len)), .val (.ref s.heap.size), .unset, .unset] [.int (Int32.ofNat len)])) := g6
  have c8 : Steps p.tables e below (s₁.setTop (entryFrame m #[.ref b, .int (Int32.ofNat o), .int (Int32.ofNat len)] 6)) (T6.setTop (mkF m 58 #[.val (.ref b), .val (.int (Int32.ofNat o)), .val (.int (Int32.ofNat len)), .val (.ref s.heap.size), .val (.int (Int32.ofNat len)), .unset] [.ref s.heap.size])) := c7.trans (by
    refine XS.istore X6.here hexec rfl (hb hbytes d12) rfl rfl ?_
    refine XS.iload X6.here hexec rfl (hb hbytes d14) rfl ?_
    refine XS.iloadN X6.here hexec rfl (hb hbytes d16) rfl ?_
    refine XS.icmpYes X6.here hexec rfl (pc0 := 17) rfl (hb hbytes d17) rfl (ii_eq_t rfl) (by decide) rfl ?_
    refine XS.aloadN X6.here hexec rfl (hb hbytes d57) rfl rfl ?_
    exact Steps.refl _)
  have X8 := X6.wide (L' := []) (cells' := 1) (slots' := len) (fun x hx hlt => by
    simp only [List.nil_append, copyLocs, List.mem_map, List.mem_range] at hx
    obtain ⟨i, -, rfl⟩ := hx
    exact absurd hlt (Nat.lt_irrefl _)) (Nat.le_refl _) (by omega)
  exact ⟨T6, some (.ref s.heap.size), _, _, _, X8, rfl, rfl, rfl, (fun h => by cases h), ⟨⟨rfl, B6, ba3.like (X3.warmed.alike.symm.trans X6.warmed.alike) p6.1 f6.1 f6.2.1 f6.2.2.1, f6.2.1.trans bv3, by rw [X6.warmed.alike.findClass, f6.1]; exact bf3, by rw [f6.2.2.1, bs3]; simp, fun j hj => by rw [f6.2.2.2 j, if_pos (by omega)]; rfl, kp3.put p6 (Nat.le_refl _)⟩, by rw [p6.2.2, bh3, hh0]; simp⟩, fun fs hl => c8.trans (X8.areturnOut hexec rfl hret rfl (hb hbytes d58) hl)⟩
end Cmp3
namespace CodL
def yN : MethodName := ⟨"java/lang/StringUTF16", "coderFromArrayLen", "([BI)B"⟩
abbrev yB : ByteArray := jdk_52_method_15_code
theorem d0 : decode yB 0 = .ok (.iload_n 1, 1) := by decide +kernel
theorem d1 : decode yB 1 = .ok (.aload_n 0, 1) := by decide +kernel
theorem d2 : decode yB 2 = .ok (.arraylength, 1) := by decide +kernel
theorem d3 : decode yB 3 = .ok (.isub, 1) := by decide +kernel
theorem d4 : decode yB 4 = .ok (.bipush 31, 2) := by decide +kernel
theorem d6 : decode yB 6 = .ok (.iushr, 1) := by decide +kernel
theorem d7 : decode yB 7 = .ok (.i2b, 1) := by decide +kernel
theorem d8 : decode yB 8 = .ok (.ireturn, 1) := by decide +kernel
def site : List Cond := []
def tab : Cond := tabOf yN yB 2 (some .byte) site
def P (d : Addr) (B : Cell) (args : Array Value) (s : State) : Prop := args = #[.ref d, .int (Int32.ofNat B.slots.size)] ∧ Arr .byte d B s
def E (r : Option Value) (s u : State) : Prop := XT.PureE (some (.int 0)) r s u
/-- an array as long as the number of chars: LATIN1 -/
theorem law (l : Launch) (d : Addr) (B : Cell) : Law l yN 2 2 0 0 yB 2 (some .byte) site (P d B) E [] 0 0 := by
  refine Law.of_walk (plainFor_of_name (by decide +kernel)) (by decide +kernel) (by decide +kernel) (by decide) (fun _ _ h => by rw [h.1]; rfl) (fun _ U U' hal hh h => ⟨h.1, h.2.mv hal hh⟩) (fun r U U' V V' h1 hal h2 h => XT.PureE.mv r U U' V V' h1 hal h2 h) ?_
  intro p e s m args below meth c s₁ X0 hexec hbytes hml hret hlk hnm hown hh0 W hP
  obtain ⟨rfl, hB⟩ := hP
  have hB0 := hB.mv X0.warmed.alike hh0
  have c1 : Steps p.tables e below (s₁.setTop (entryFrame m #[.ref d, .int (Int32.ofNat B.slots.size)] 2)) (s₁.setTop (mkF m 0 #[.val (.ref d), .val (.int (Int32.ofNat B.slots.size))] [])) := entry rfl
  have c2 : Steps p.tables e below (s₁.setTop (entryFrame m #[.ref d, .int (Int32.ofNat B.slots.size)] 2)) (s₁.setTop (mkF m 2 #[.val (.ref d), .val (.int (Int32.ofNat B.slots.size))] [.ref d, .int (Int32.ofNat B.slots.size)])) := c1.trans (by
    refine XS.iloadN X0.here hexec rfl (hb hbytes d0) rfl ?_
    refine XS.aloadN X0.here hexec rfl (hb hbytes d1) rfl rfl ?_
    exact Steps.refl _)
  have c3 : Steps p.tables e below (s₁.setTop (entryFrame m #[.ref d, .int (Int32.ofNat B.slots.size)] 2)) (s₁.setTop (mkF m 8 #[.val (.ref d), .val (.int (Int32.ofNat B.slots.size))] [.int (lo8 (ushr (Int32.ofNat B.slots.size - Int32.ofNat B.slots.size) 31))])) := c2.trans (by
    refine X0.alen hexec hB0 rfl rfl (hb hbytes d2) ?_
    refine XS.isub X0.here hexec rfl (hb hbytes d3) rfl ?_
    refine bipushV X0.here hexec rfl 31 (hb hbytes d4) (by decide) ?_
    refine iushr X0.here hexec rfl (hb hbytes d6) rfl ?_
    refine i2b X0.here hexec rfl (hb hbytes d7) rfl ?_
    exact Steps.refl _)
  have e0 : lo8 (ushr (Int32.ofNat B.slots.size - Int32.ofNat B.slots.size) 31) = 0 := by rw [Int32.sub_self]; decide
  rw [e0] at c3
  exact ⟨s₁, some (.int 0), _, _, _, X0, rfl, rfl, rfl, (fun h => by cases h), ⟨rfl, hh0⟩, fun fs hl => c3.trans (X0.ireturnOut hexec hret rfl (Or.inr (Or.inr (Or.inl rfl))) (hb hbytes d8) hl)⟩
end CodL
/-- the String at a is Latin-1 over a new byte[] (the heap's one new cell): the low bytes of the len chars of A from o on; every cell but a is kept -/
def Got (a : Addr) (D : Cell) (fV fC : Field) (A : Cell) (o len : Nat) (r : Option Value) (s u : State) : Prop := r = none ∧ ∃ D' V : Cell, Blank "java/lang/String" a D' u ∧ Same D D' [fV.slot, fC.slot] ∧ D'.slots[fV.slot]? = some (.ref s.heap.size) ∧ D'.slots[fC.slot]? = some (.int 0) ∧ Arr .byte s.heap.size V u ∧ V.vm = .none ∧ u.vm.findClass "[B" = some V.cls ∧ V.slots.size = len ∧ (∀ j, j < len → V.slots[j]? = some (.int (lo8 (cv A (o + j))))) ∧ (∀ (y : Addr) (c : Cell), y ≠ a → s.heap[y]? = some c → u.heap[y]? = some c) ∧ u.heap.size = s.heap.size + 1
theorem Got.mv {a : Addr} {D A : Cell} {fV fC : Field} {o len : Nat} : ∀ r (U U' V V' : State), U'.heap = U.heap → V.vm.Alike V'.vm → V'.heap = V.heap → Got a D fV fC A o len r U V → Got a D fV fC A o len r U' V' :=
  fun r U U' V V' h1 hal h2 ⟨e0, D', X, a1, a2, a3, a4, a5, a6, a7, a8, a9, a10, a11⟩ => ⟨e0, D', X, a1.mv hal h2, a2, by rw [h1]; exact a3, a4, by rw [h1]; exact a5.mv hal h2, a6, by rw [hal.findClass]; exact a7, a8, a9, by rw [h1, h2]; exact a10, by rw [h1, h2]; exact a11⟩
namespace New4
def yN : MethodName := ⟨"java/lang/String", "<init>", "([CIILjava/lang/Void;)V"⟩
abbrev yB : ByteArray := jdk_42_method_149_code
theorem d0 : decode yB 0 = .ok (.aload_n 0, 1) := by decide +kernel
theorem d1 : decode yB 1 = .ok (.invokespecial 1, 3) := by decide +kernel
theorem d4 : decode yB 4 = .ok (.iload_n 3, 1) := by decide +kernel
theorem d5 : decode yB 5 = .ok (.ifCond (.ne) 22, 3) := by decide +kernel
theorem d27 : decode yB 27 = .ok (.getstatic 38, 3) := by decide +kernel
theorem d30 : decode yB 30 = .ok (.ifCond (.eq) 28, 3) := by decide +kernel
theorem d33 : decode yB 33 = .ok (.aload_n 1, 1) := by decide +kernel
theorem d34 : decode yB 34 = .ok (.iload_n 2, 1) := by decide +kernel
theorem d35 : decode yB 35 = .ok (.iload_n 3, 1) := by decide +kernel
theorem d36 : decode yB 36 = .ok (.invokestatic 177, 3) := by decide +kernel
theorem d39 : decode yB 39 = .ok (.astore 5, 2) := by decide +kernel
theorem d41 : decode yB 41 = .ok (.aload_n 0, 1) := by decide +kernel
theorem d42 : decode yB 42 = .ok (.aload 5, 2) := by decide +kernel
theorem d44 : decode yB 44 = .ok (.iload_n 3, 1) := by decide +kernel
theorem d45 : decode yB 45 = .ok (.invokestatic 47, 3) := by decide +kernel
theorem d48 : decode yB 48 = .ok (.putfield 15, 3) := by decide +kernel
theorem d51 : decode yB 51 = .ok (.aload_n 0, 1) := by decide +kernel
theorem d52 : decode yB 52 = .ok (.aload 5, 2) := by decide +kernel
theorem d54 : decode yB 54 = .ok (.putfield 9, 3) := by decide +kernel
theorem d57 : decode yB 57 = .ok (.return_, 1) := by decide +kernel
def site : List Cond := [.fieldLink "java/lang/String" 38 "java/lang/String" "COMPACT_STRINGS" "Z", Cmp3.tab, CodL.tab, .laysFinal "java/lang/String" "java/lang/String" "value" "[B", .fieldLink "java/lang/String" 9 "java/lang/String" "value" "[B", .laysFinal "java/lang/String" "java/lang/String" "coder" "B", .fieldLink "java/lang/String" 15 "java/lang/String" "coder" "B"] ++ objW "java/lang/String" 1 ++ staticW "java/lang/String" 177 Cmp3.yN ++ staticW "java/lang/String" 47 CodL.yN
def tab : Cond := tabOf yN yB 6 none site
def P (a : Addr) (D : Cell) (fV fC : Field) (b : Addr) (A : Cell) (z : Int32) (o len : Nat) (args : Array Value) (s : State) : Prop := args = #[.ref a, .ref b, .int (Int32.ofNat o), .int (Int32.ofNat len), .null] ∧ Blank "java/lang/String" a D s ∧ Found "java/lang/String" "value" "[B" fV s ∧ Found "java/lang/String" "coder" "B" fC s ∧ Ch b A s ∧ StaticIs s "java/lang/String" "COMPACT_STRINGS" "Z" (.int z) ∧ ¬ z = 0 ∧ 0 < len ∧ o + len ≤ A.slots.size ∧ len ≤ 536870912 ∧ ∀ i, i < len → ¬ 255 < cv A (o + i)
def E (a : Addr) (D : Cell) (fV fC : Field) (A : Cell) (o len : Nat) (r : Option Value) (s u : State) : Prop := Got a D fV fC A o len r s u
/-- len > 0, no char of the range above 255: a Latin-1 String of their low bytes -/
theorem law (l : Launch) (a : Addr) (D : Cell) (fV fC : Field) (b : Addr) (A : Cell) (z : Int32) (o len : Nat) : Law l yN 5 4 2 35 yB 6 none site (P a D fV fC b A z o len) (E a D fV fC A o len) [⟨a, fC.slot⟩, ⟨a, fV.slot⟩] 1 len := by
  refine Law.of_walk (plainFor_of_name (by decide +kernel)) (by decide +kernel) (by decide +kernel) (by decide) (fun _ _ h => by rw [h.1]; rfl) (fun _ U U' hal hh h => ⟨h.1, h.2.1.mv hal hh, h.2.2.1.al hal, h.2.2.2.1.al hal, h.2.2.2.2.1.mv hal hh, h.2.2.2.2.2.1.there hal hh, h.2.2.2.2.2.2⟩) (fun r U U' V V' h1 hal h2 h => Got.mv r U U' V V' h1 hal h2 h) ?_
  intro p e s m args below meth c s₁ X0 hexec hbytes hml hret hlk hnm hown hh0 W hP
  obtain ⟨rfl, hB, f1, f2, hA, s1, hz, l0, l1, l2, hp⟩ := hP
  have a31 := hA.1.2.2.2
  have c1 : Steps p.tables e below (s₁.setTop (entryFrame m #[.ref a, .ref b, .int (Int32.ofNat o), .int (Int32.ofNat len), .null] 6)) (s₁.setTop (mkF m 0 #[.val (.ref a), .val (.ref b), .val (.int (Int32.ofNat o)), .val (.int (Int32.ofNat len)), .val .null, .unset] [])) := entry rfl
  have c2 : Steps p.tables e below (s₁.setTop (entryFrame m #[.ref a, .ref b, .int (Int32.ofNat o), .int (Int32.ofNat len), .null] 6)) (s₁.setTop (mkF m 1 #[.val (.ref a), .val (.ref b), .val (.int (Int32.ofNat o)), .val (.int (Int32.ofNat len)), .val .null, .unset] [.ref a])) := c1.trans (by
    refine XS.aloadN X0.here hexec rfl (hb hbytes d0) rfl rfl ?_
    exact Steps.refl _)
  obtain ⟨T3, X3, q3, st3⟩ := X0.oinit hexec hown (wks W (objW "java/lang/String" 1)) (g := (mkF m 1 #[.val (.ref a), .val (.ref b), .val (.int (Int32.ofNat o)), .val (.int (Int32.ofNat len)), .val .null, .unset] [.ref a])) rfl (by rw [hml]; rfl) (rest := []) rfl (hb hbytes d1) (W := 0) (by show 2 * 0 + 0 ≤ _; decide) (Nat.le_of_ble_eq_true rfl) (Nat.le_of_ble_eq_true rfl)
  have hh3 := q3.trans hh0
  have c4 : Steps p.tables e below (s₁.setTop (entryFrame m #[.ref a, .ref b, .int (Int32.ofNat o), .int (Int32.ofNat len), .null] 6)) (T3.setTop (mkF m 27 #[.val (.ref a), .val (.ref b), .val (.int (Int32.ofNat o)), .val (.int (Int32.ofNat len)), .val .null, .unset] [])) := (c2.trans (st3 _ (Steps.refl _))).trans (by
    refine XS.iloadN X3.here hexec rfl (hb hbytes d4) rfl ?_
    refine XS.ifYes X3.here hexec rfl (pc0 := 5) rfl (hb hbytes d5) rfl (i0_ne_t (nz32 (by omega) l0)) (by decide) rfl ?_
    exact Steps.refl _)
  obtain ⟨T5, X5, q5, st5⟩ := X3.sget hexec hown (wk W (.fieldLink "java/lang/String" 38 "java/lang/String" "COMPACT_STRINGS" "Z")) s1 (fun _ _ h => by rw [hh3]; exact h) (g := (mkF m 27 #[.val (.ref a), .val (.ref b), .val (.int (Int32.ofNat o)), .val (.int (Int32.ofNat len)), .val .null, .unset] [])) rfl (hb hbytes d27)
  have hh5 := q5.trans hh3
  have c6 : Steps p.tables e below (s₁.setTop (entryFrame m #[.ref a, .ref b, .int (Int32.ofNat o), .int (Int32.ofNat len), .null] 6)) (T5.setTop (mkF m 30 #[.val (.ref a), .val (.ref b), .val (.int (Int32.ofNat o)), .val (.int (Int32.ofNat len)), .val .null, .unset] [.int z])) := c4.trans (st5 _ (Steps.refl _))
  have c7 : Steps p.tables e below (s₁.setTop (entryFrame m #[.ref a, .ref b, .int (Int32.ofNat o), .int (Int32.ofNat len), .null] 6)) (T5.setTop (mkF m 36 #[.val (.ref a), .val (.ref b), .val (.int (Int32.ofNat o)), .val (.int (Int32.ofNat len)), .val .null, .unset] [.int (Int32.ofNat len), .int (Int32.ofNat o), .ref b])) := c6.trans (by
    refine XS.ifNo X5.here hexec rfl (hb hbytes d30) rfl (i0_eq_f hz) ?_
    refine XS.aloadN X5.here hexec rfl (hb hbytes d33) rfl rfl ?_
    refine XS.iloadN X5.here hexec rfl (hb hbytes d34) rfl ?_
    refine XS.iloadN X5.here hexec rfl (hb hbytes d35) rfl ?_
    exact Steps.refl _)
  obtain ⟨v8, T8, X8, E8, g8⟩ := X5.callS hexec (Cmp3.law l b A o len) hown (wks W (staticW "java/lang/String" 177 Cmp3.yN)) (wk W Cmp3.tab) (W := 0) (Nat.le_of_ble_eq_true rfl) (Nat.le_of_ble_eq_true rfl) (Nat.le_refl _) (by show 0 + len ≤ len; omega) (g := (mkF m 36 #[.val (.ref a), .val (.ref b), .val (.int (Int32.ofNat o)), .val (.int (Int32.ofNat len)), .val .null, .unset] [.int (Int32.ofNat len), .int (Int32.ofNat o), .ref b])) rfl (by rw [hml]; rfl) c7 (argsL := [.ref b, .int (Int32.ofNat o), .int (Int32.ofNat len)]) (rest := []) rfl rfl (by show 2 * 0 + 0 ≤ _; decide) (hb hbytes d36) (⟨rfl, hA.mv X5.warmed.alike hh5, l1, l2, hp⟩)
  obtain ⟨e8, z8⟩ := E8
  obtain ⟨rfl, N, n1, n2, n3, n4, n5, n6⟩ := NewArr.mv _ T5 s _ _ hh5.symm (Vm.Alike.refl _) rfl e8
  rw [hh5] at z8
  have hB1 := hB.keep X8.warmed.alike (n6 _ _ hB.1)
  have hne : s.heap.size ≠ a := (Nat.ne_of_lt (Array.getElem?_eq_some_iff.mp hB.1).1).symm
  have c9 : Steps p.tables e below (s₁.setTop (entryFrame m #[.ref a, .ref b, .int (Int32.ofNat o), .int (Int32.ofNat len), .null] 6)) (T8.setTop (mkF m 39 #[.val (.ref a), .val (.ref b), .val (.int (Int32.ofNat o)), .val (.int (Int32.ofNat len)), .val .null, .unset] [.ref s.heap.size])) := g8
  have c10 : Steps p.tables e below (s₁.setTop (entryFrame m #[.ref a, .ref b, .int (Int32.ofNat o), .int (Int32.ofNat len), .null] 6)) (T8.setTop (mkF m 45 #[.val (.ref a), .val (.ref b), .val (.int (Int32.ofNat o)), .val (.int (Int32.ofNat len)), .val .null, .val (.ref s.heap.size)] [.int (Int32.ofNat N.slots.size), .ref s.heap.size, .ref a])) := by
    have hc : Steps p.tables e below (s₁.setTop (entryFrame m #[.ref a, .ref b, .int (Int32.ofNat o), .int (Int32.ofNat len), .null] 6)) (T8.setTop (mkF m 45 #[.val (.ref a), .val (.ref b), .val (.int (Int32.ofNat o)), .val (.int (Int32.ofNat len)), .val .null, .val (.ref s.heap.size)] [.int (Int32.ofNat len), .ref s.heap.size, .ref a])) := c9.trans (by
      refine XS.astore X8.here hexec rfl (hb hbytes d39) rfl rfl rfl ?_
      refine XS.aloadN X8.here hexec rfl (hb hbytes d41) rfl rfl ?_
      refine XS.aload X8.here hexec rfl (hb hbytes d42) rfl rfl ?_
      refine XS.iloadN X8.here hexec rfl (hb hbytes d44) rfl ?_
      exact Steps.refl _)
    rw [n4]; exact hc
  obtain ⟨v11, T11, X11, E11, g11⟩ := X8.callS hexec (CodL.law l s.heap.size N) hown (wks W (staticW "java/lang/String" 47 CodL.yN)) (wk W CodL.tab) (W := 1) (Nat.le_of_ble_eq_true rfl) (Nat.le_of_ble_eq_true rfl) (Nat.le_refl _) (by show 0 + len + 0 ≤ len; omega) (g := (mkF m 45 #[.val (.ref a), .val (.ref b), .val (.int (Int32.ofNat o)), .val (.int (Int32.ofNat len)), .val .null, .val (.ref s.heap.size)] [.int (Int32.ofNat N.slots.size), .ref s.heap.size, .ref a])) rfl (by rw [hml]; rfl) c10 (argsL := [.ref s.heap.size, .int (Int32.ofNat N.slots.size)]) (rest := [.ref a]) rfl rfl (by show 2 * 0 + (1 + 0) ≤ _; decide) (hb hbytes d45) (⟨rfl, n1⟩)
  obtain ⟨rfl, q11⟩ := E11
  have hB11 := hB1.mv (X8.warmed.alike.symm.trans X11.warmed.alike) q11
  have c12 : Steps p.tables e below (s₁.setTop (entryFrame m #[.ref a, .ref b, .int (Int32.ofNat o), .int (Int32.ofNat len), .null] 6)) (T11.setTop (mkF m 48 #[.val (.ref a), .val (.ref b), .val (.int (Int32.ofNat o)), .val (.int (Int32.ofNat len)), .val .null, .val (.ref s.heap.size)] [.int 0, .ref a])) := g11
  obtain ⟨T13, X13, p13, bl13, sl13, st13⟩ := X11.finit hexec hown (wk W (.fieldLink "java/lang/String" 15 "java/lang/String" "coder" "B")) (Or.inr ⟨_, (wk W (.laysFinal "java/lang/String" "java/lang/String" "coder" "B"))⟩) (Or.inl ⟨rfl, hnm⟩) f2 (Or.inl rfl) hB11 (t := .byte) (by decide +kernel) rfl (g := (mkF m 48 #[.val (.ref a), .val (.ref b), .val (.int (Int32.ofNat o)), .val (.int (Int32.ofNat len)), .val .null, .val (.ref s.heap.size)] [.int 0, .ref a])) rfl (rest := []) rfl (hb hbytes d48)
  have c14 : Steps p.tables e below (s₁.setTop (entryFrame m #[.ref a, .ref b, .int (Int32.ofNat o), .int (Int32.ofNat len), .null] 6)) (T13.setTop (mkF m 54 #[.val (.ref a), .val (.ref b), .val (.int (Int32.ofNat o)), .val (.int (Int32.ofNat len)), .val .null, .val (.ref s.heap.size)] [.ref s.heap.size, .ref a])) := (c12.trans (st13 _ (Steps.refl _))).trans (by
    refine XS.aloadN X13.here hexec rfl (hb hbytes d51) rfl rfl ?_
    refine XS.aload X13.here hexec rfl (hb hbytes d52) rfl rfl ?_
    exact Steps.refl _)
  obtain ⟨T15, X15, p15, bl15, sl15, st15⟩ := X13.finit hexec hown (wk W (.fieldLink "java/lang/String" 9 "java/lang/String" "value" "[B")) (Or.inr ⟨_, (wk W (.laysFinal "java/lang/String" "java/lang/String" "value" "[B"))⟩) (Or.inl ⟨rfl, hnm⟩) f1 (Or.inl rfl) bl13 (t := (.array .byte)) (by decide +kernel) rfl (g := (mkF m 54 #[.val (.ref a), .val (.ref b), .val (.int (Int32.ofNat o)), .val (.int (Int32.ofNat len)), .val .null, .val (.ref s.heap.size)] [.ref s.heap.size, .ref a])) rfl (rest := []) rfl (hb hbytes d54)
  have c16 : Steps p.tables e below (s₁.setTop (entryFrame m #[.ref a, .ref b, .int (Int32.ofNat o), .int (Int32.ofNat len), .null] 6)) (T15.setTop (mkF m 57 #[.val (.ref a), .val (.ref b), .val (.int (Int32.ofNat o)), .val (.int (Int32.ofNat len)), .val .null, .val (.ref s.heap.size)] [])) := c14.trans (st15 _ (Steps.refl _))
  have ap := apart (Or.inr ⟨_, (wk W (.laysFinal "java/lang/String" "java/lang/String" "value" "[B"))⟩) (Or.inr ⟨_, (wk W (.laysFinal "java/lang/String" "java/lang/String" "coder" "B"))⟩) f1 f2 (t₁ := .array .byte) (t₂ := .byte) (by decide +kernel) (by decide +kernel) (by decide)
  have al := X8.warmed.alike.symm.trans X15.warmed.alike
  have n7 : T11.heap[s.heap.size]? = some N := by rw [q11]; exact n1.1
  exact ⟨T15, none, _, _, _, X15, by simp, rfl, by omega, (fun _ => rfl), ⟨rfl, _, N, bl15, ((Same.refl D _).set _ (by simp)).set _ (by simp), sl15, (Cell.slots_setSlot_ne _ ap).trans sl13, n1.keep al (p15.other hne (p13.other hne n7)), n2, by rw [al.findClass]; exact n3, n4, n5, fun y c h1 h2 => p15.other h1 (p13.other h1 (by rw [q11]; exact n6 y c h2)), by rw [p15.2.2, p13.2.2, q11]; exact z8⟩, fun fs hl => c16.trans (X15.returnOut hexec hret (hb hbytes d57) hl)⟩
end New4
namespace New1
def yN : MethodName := ⟨"java/lang/String", "<init>", "([C)V"⟩
abbrev yB : ByteArray := jdk_42_method_3_code
theorem d0 : decode yB 0 = .ok (.aload_n 0, 1) := by decide +kernel
theorem d1 : decode yB 1 = .ok (.aload_n 1, 1) := by decide +kernel
theorem d2 : decode yB 2 = .ok (.iconst 0, 1) := by decide +kernel
theorem d3 : decode yB 3 = .ok (.aload_n 1, 1) := by decide +kernel
theorem d4 : decode yB 4 = .ok (.arraylength, 1) := by decide +kernel
theorem d5 : decode yB 5 = .ok (.aconst_null, 1) := by decide +kernel
theorem d6 : decode yB 6 = .ok (.invokespecial 27, 3) := by decide +kernel
theorem d9 : decode yB 9 = .ok (.return_, 1) := by decide +kernel
def site : List Cond := [New4.tab] ++ initW "java/lang/String" 27 New4.yN
def tab : Cond := tabOf yN yB 2 none site
def P (a : Addr) (D : Cell) (fV fC : Field) (b : Addr) (A : Cell) (z : Int32) (args : Array Value) (s : State) : Prop := args = #[.ref a, .ref b] ∧ Blank "java/lang/String" a D s ∧ Found "java/lang/String" "value" "[B" fV s ∧ Found "java/lang/String" "coder" "B" fC s ∧ Ch b A s ∧ StaticIs s "java/lang/String" "COMPACT_STRINGS" "Z" (.int z) ∧ ¬ z = 0 ∧ 0 < A.slots.size ∧ A.slots.size ≤ 536870912 ∧ ∀ i, i < A.slots.size → ¬ 255 < cv A i
def E (a : Addr) (D : Cell) (fV fC : Field) (A : Cell) (r : Option Value) (s u : State) : Prop := Got a D fV fC A 0 A.slots.size r s u
/-- new String(chars), not empty, no char above 255: a Latin-1 String of their low bytes -/
theorem law (l : Launch) (a : Addr) (D : Cell) (fV fC : Field) (b : Addr) (A : Cell) (z : Int32) : Law l yN 2 1 3 52 yB 2 none site (P a D fV fC b A z) (E a D fV fC A) [⟨a, fC.slot⟩, ⟨a, fV.slot⟩] 1 A.slots.size := by
  refine Law.of_walk (plainFor_of_name (by decide +kernel)) (by decide +kernel) (by decide +kernel) (by decide) (fun _ _ h => by rw [h.1]; rfl) (fun _ U U' hal hh h => ⟨h.1, h.2.1.mv hal hh, h.2.2.1.al hal, h.2.2.2.1.al hal, h.2.2.2.2.1.mv hal hh, h.2.2.2.2.2.1.there hal hh, h.2.2.2.2.2.2⟩) (fun r U U' V V' h1 hal h2 h => Got.mv r U U' V V' h1 hal h2 h) ?_
  intro p e s m args below meth c s₁ X0 hexec hbytes hml hret hlk hnm hown hh0 W hP
  obtain ⟨rfl, hB, f1, f2, hA, s1, hz, l0, l2, hp⟩ := hP
  have c1 : Steps p.tables e below (s₁.setTop (entryFrame m #[.ref a, .ref b] 2)) (s₁.setTop (mkF m 0 #[.val (.ref a), .val (.ref b)] [])) := entry rfl
  have c2 : Steps p.tables e below (s₁.setTop (entryFrame m #[.ref a, .ref b] 2)) (s₁.setTop (mkF m 6 #[.val (.ref a), .val (.ref b)] [.null, .int (Int32.ofNat A.slots.size), .int 0, .ref b, .ref a])) := c1.trans (by
    refine XS.aloadN X0.here hexec rfl (hb hbytes d0) rfl rfl ?_
    refine XS.aloadN X0.here hexec rfl (hb hbytes d1) rfl rfl ?_
    refine iconstV X0.here hexec rfl 0 (hb hbytes d2) (by decide) ?_
    refine XS.aloadN X0.here hexec rfl (hb hbytes d3) rfl rfl ?_
    refine X0.alen hexec (hA.1.mv X0.warmed.alike hh0) rfl rfl (hb hbytes d4) ?_
    refine XS.aconstNull X0.here hexec rfl (hb hbytes d5) ?_
    exact Steps.refl _)
  obtain ⟨v3, T3, X3, E3, g3⟩ := X0.callN hexec (New4.law l a D fV fC b A z 0 A.slots.size) rfl hown (wks W (initW "java/lang/String" 27 New4.yN)) (W New4.tab (by simp only [site, List.mem_cons, List.mem_append, true_or, or_true])) (W := 0) (Nat.le_of_ble_eq_true rfl) (Nat.le_of_ble_eq_true rfl) (Nat.le_refl _) (by show 0 + A.slots.size ≤ A.slots.size; omega) (g := (mkF m 6 #[.val (.ref a), .val (.ref b)] [.null, .int (Int32.ofNat A.slots.size), .int (Int32.ofNat 0), .ref b, .ref a])) rfl (by rw [hml]; rfl) c2 (argsL := [.ref b, .int (Int32.ofNat 0), .int (Int32.ofNat A.slots.size), .null]) (rest := []) rfl rfl (by show 2 * 0 + 0 ≤ _; decide) (hb hbytes d6) (⟨rfl, hB.mv X0.warmed.alike hh0, f1.al X0.warmed.alike, f2.al X0.warmed.alike, hA.mv X0.warmed.alike hh0, s1.there X0.warmed.alike hh0, hz, l0, by omega, l2, fun i hi => by rw [Nat.zero_add]; exact hp i hi⟩)
  have e0 := Got.mv _ s₁ s _ _ hh0.symm (Vm.Alike.refl _) rfl E3
  obtain rfl := e0.1
  have c4 : Steps p.tables e below (s₁.setTop (entryFrame m #[.ref a, .ref b] 2)) (T3.setTop (mkF m 9 #[.val (.ref a), .val (.ref b)] [])) := g3
  exact ⟨T3, none, _, _, _, X3, by simp, rfl, by omega, (fun _ => rfl), e0, fun fs hl => c4.trans (X3.returnOut hexec hret (hb hbytes d9) hl)⟩
theorem pays {l : Launch} {R : Room} {p : Program} {e : Env} {below : List Frame} {s : State} {sargs : Array Value} {len W : Nat} (a : Addr) (D : Cell) (fV fC : Field) (b : Addr) (A : Cell) (z : Int32) (htab : tab.before sargs s = true) (hfr : 4 ≤ R.frames) (hlo : W + 65 ≤ R.locals) :
    Back l R p e below s sargs yN len W (fun A₁ a₁ => A₁.cells + 1 ≤ R.cells ∧ A₁.slots + A.slots.size ≤ R.slots ∧ P a D fV fC b A z a₁ A₁.U) (fun A₁ _ v₁ B₁ => E a D fV fC A v₁ A₁.U B₁.U ∧ B₁.locs = A₁.locs ++ [⟨a, fC.slot⟩, ⟨a, fV.slot⟩] ∧ B₁.cells = A₁.cells + 1 ∧ B₁.slots = A₁.slots + A.slots.size) :=
  (law l a D fV fC b A z).pays htab hfr (by omega)
end New1
/-- the byte, read back as charAt reads it, is the char -/
theorem lo8_mask {x : Int32} (h0 : ¬ x < 0) (h1 : ¬ 255 < x) : lo8 x &&& 255 = x := by
  have t : ∀ k : Fin 256, lo8 (Int32.ofNat k.val) &&& 255 = Int32.ofNat k.val := by decide +kernel
  rw [Int32.lt_iff_toInt_lt] at h0 h1
  have e0 : (0 : Int32).toInt = 0 := rfl
  have e1 : (255 : Int32).toInt = 255 := rfl
  obtain ⟨k, hk⟩ : ∃ k : Nat, x.toInt = k := ⟨x.toInt.toNat, by omega⟩
  have hx : x = Int32.ofNat k := Int32.toInt_inj.mp (by rw [hk, Int32.toInt_ofNat_small (by omega)])
  rw [hx]
  exact t ⟨k, by omega⟩
end StrChars
namespace StrChars.Road
open Jvm Sem ClassFile Op Lib Jvm.Stand Jvm.Free Jvm.Free.XT
open Jvm.Lib.Cold (StaticIs)
abbrev ST : String := "java/lang/String"
/-- every table word that New1's law asks, flat -/
abbrev words : List Jvm.Cond := [.code New1.yN New1.yB 2 none, .initialized ST, .methodLink ST 27 New4.yN, .instanceMethod New4.yN,
  .code New4.yN New4.yB 6 none, .fieldLink ST 38 ST "COMPACT_STRINGS" "Z", .laysFinal ST ST "value" "[B", .fieldLink ST 9 ST "value" "[B", .laysFinal ST ST "coder" "B", .fieldLink ST 15 ST "coder" "B",
  .methodLink ST 1 Lib.objectInit, .instanceMethod Lib.objectInit, .code Lib.objectInit ⟨#[0xb1]⟩ 1 none, .methodLink ST 177 Cmp3.yN, .static Cmp3.yN, .methodLink ST 47 CodL.yN, .static CodL.yN,
  .code Cmp3.yN Cmp3.yB 6 (some (.array .byte)), .initialized U16, .arrayClass .byte, .methodLink U16 115 Cmp5.yN, .static Cmp5.yN, .code Cmp5.yN Cmp5.yB 7 (some .int), .code CodL.yN CodL.yB 2 (some .byte)]
theorem tab_of {a : Array Value} {s : State} (h : ∀ w ∈ words, w.before a s = true) : New1.tab.before a s = true := by
  have h5 : Cmp5.tab.before a s = true := unparts (wk h (.code Cmp5.yN Cmp5.yB 7 (some .int))) (wks h (.initialized Cmp5.yN.cls :: Cmp5.site))
  have hc : CodL.tab.before a s = true := unparts (wk h (.code CodL.yN CodL.yB 2 (some .byte))) (wks h (.initialized CodL.yN.cls :: CodL.site))
  have q5 : ∀ w ∈ Cmp5.tab :: words, w.before a s = true := fun w hw => (List.mem_cons.mp hw).elim (fun e => e ▸ h5) (h w)
  have h3 : Cmp3.tab.before a s = true := unparts (wk q5 (.code Cmp3.yN Cmp3.yB 6 (some (.array .byte)))) (wks q5 (.initialized Cmp3.yN.cls :: Cmp3.site))
  have q3 : ∀ w ∈ Cmp3.tab :: CodL.tab :: words, w.before a s = true := fun w hw => (List.mem_cons.mp hw).elim (fun e => e ▸ h3) fun hw => (List.mem_cons.mp hw).elim (fun e => e ▸ hc) (h w)
  have h4 : New4.tab.before a s = true := unparts (wk q3 (.code New4.yN New4.yB 6 none)) (wks q3 (.initialized New4.yN.cls :: New4.site))
  have q4 : ∀ w ∈ New4.tab :: words, w.before a s = true := fun w hw => (List.mem_cons.mp hw).elim (fun e => e ▸ h4) (h w)
  exact unparts (wk q4 (.code New1.yN New1.yB 2 none)) (wks q4 (.initialized New1.yN.cls :: New1.site))
/-- the words ride from the start Z to the walk's own state -/
theorem moved {Z s : State} {a0 args : Array Value} (hZ : Z.Warmed39 s.vm) (hw : ∀ d ∈ words, d.before a0 Z = true) : ∀ d ∈ words, d.before args s = true := fun d hd => by
  have q := hw d hd
  have t : ∀ d ∈ words, d = .arrayClass .byte ∨ (d.onTables && d.keepsFace) = true := by decide +kernel
  rcases t d hd with rfl | t
  · exact RoadKit.mvA hZ q
  · exact RoadKit.mv hZ q t
/-- WHAT COMES BACK, over the tables of the start Z: h the heap at the call, h' behind it -/
def Q (Z : State) (x : Addr) (A : Cell) (h : Heap) (v : Option Value) (h' : Heap) (L : List Loc) : Prop := v = none ∧ (∀ y ∈ L, y.base = x) ∧ RoadKit.Keep h h' [x] ∧ h'.size = h.size + 1 ∧ RoadKit.Exa Z h' x ST ∧ RoadKit.Fld Z h' x ST "value" "[B" (.ref h.size) ∧ RoadKit.Fld Z h' x ST "coder" "B" (.int 0) ∧
  (∃ V : Cell, RoadKit.Arr Z h' h.size V .byte ∧ V.vm = .none ∧ Z.vm.findClass "[B" = some V.cls ∧ V.slots.size = A.slots.size ∧ ∀ j, j < A.slots.size → V.slots[j]? = some (.int (lo8 (cv A j)))) ∧
  ∀ (O n d : String) (w : Value), RoadKit.Fld Z h x O n d w → RoadKit.slotOf Z O n d ≠ RoadKit.slotOf Z ST "value" "[B" → RoadKit.slotOf Z O n d ≠ RoadKit.slotOf Z ST "coder" "B" → RoadKit.Fld Z h' x O n d w
/-- **new String(chars) AT A CALL, IN THE ROAD'S FORM**: for specialBack behind newO: x the fresh String, b the char[] with the cell A -/
theorem back {p : Program} {l : Launch} {e : Env} {R : Room} {s : State} {args : Array Value} {below : List Frame} {len W : Nat} {Z : State} {a0 : Array Value} {h : Heap} (hZ : Z.Warmed39 s.vm) (hw : ∀ d ∈ words, d.before a0 Z = true) {kI : Nat} (wi : (Jvm.Cond.instantiable ST kI).before a0 Z = true)
    {x b : Addr} {A : Cell} {z : Int32} {v0 c0 : Value} (E : RoadKit.Exa Z h x ST) (V : RoadKit.Fld Z h x ST "value" "[B" v0) (C : RoadKit.Fld Z h x ST "coder" "B" c0) (K : RoadKit.Arr Z h b A .char) (hty : Typed .char A) (S : RoadKit.Sta Z h ST "COMPACT_STRINGS" "Z" (.int z)) (hz : ¬ z = 0)
    (l0 : 0 < A.slots.size) (l2 : A.slots.size ≤ 536870912) (hp : ∀ i, i < A.slots.size → ¬ 255 < cv A i) (hfr : 4 ≤ R.frames) (hlo : W + 65 ≤ R.locals) :
    Back l R p e below s args New1.yN len W (fun P a => a = #[.ref x, .ref b] ∧ P.U.heap = h ∧ P.cells + 1 ≤ R.cells ∧ P.slots + A.slots.size ≤ R.slots)
      (fun P _ v B => ∃ L, Q Z x A h v B.U.heap L ∧ B.locs = P.locs ++ L ∧ B.cells = P.cells + 1 ∧ B.slots = P.slots + A.slots.size) := by
  intro m meth c P g ig mk a X hg hsize hdg hW hn hp'
  obtain ⟨rfl, rfl, r1, r2⟩ := hp'
  have al : Z.vm.Alike P.U.vm := hZ.alike.trans X.warmed.alike
  obtain ⟨D, cfV, kV, iV, fV, hD, gV, stV, knV, obV, asV, slV⟩ := id V
  obtain ⟨D', cfC, kC, iC, fC, hD', gC, stC, -, -, asC, slC⟩ := id C
  cases hD.symm.trans hD'
  obtain ⟨D2, kD, e1, e2, e3, e4, e5⟩ := id E
  cases hD.symm.trans e1
  obtain ⟨c2, k2, i1, i2, i3, -⟩ := Cond.instantiable_spec wi
  cases e2.symm.trans i1
  cases e3.symm.trans i2
  obtain ⟨kU, u1, u2⟩ := al.2.2 _ _ e3
  have hB : Blank ST x D P.U := ⟨hD, ⟨knV, fun q hq => by rw [hq] at obV; cases obV⟩, by rw [al.findClass]; exact e2, kU, u1, by rw [u2]; exact i3, by rw [u2]; exact e5 i3⟩
  have F1 : Found ST "value" "[B" fV P.U := ⟨SBG.found_only al ⟨cfV, kV, iV, gV⟩, stV⟩
  have F2 : Found ST "coder" "B" fC P.U := ⟨SBG.found_only al ⟨cfC, kC, iC, gC⟩, stC⟩
  have hA : Ch b A P.U := ⟨⟨K.1, State.isArrayOf_alike al K.2.1, K.2.2, by omega⟩, hty⟩
  have hS : StaticIs P.U ST "COMPACT_STRINGS" "Z" (.int z) := by
    obtain ⟨cfS, iS, kS, fS, st, cS, t1, t2, t3, t4, t5, t6, t7⟩ := S
    exact StaticIs.there (s := { Z with heap := P.U.heap }) ⟨cfS, iS, kS, fS, st, cS, t1, t2, t3, t4, t5, (fun q => by rw [q] at t6; cases t6), t7⟩ al rfl
  obtain ⟨v, B, X', ⟨⟨hv, E', V', q1, q2, q3, q4, q5, q6, q7, q8, q9, q10, q11⟩, hl, hc, hs⟩, st⟩ := New1.pays x D fV fC b A z (tab_of (moved hZ hw)) hfr hlo m meth c P g ig mk _ X hg hsize hdg hW hn ⟨r1, r2, rfl, hB, F1, F2, hA, hS, hz, l0, l2, hp⟩
  have al' : Z.vm.Alike B.U.vm := hZ.alike.trans X'.warmed.alike
  have hsz : E'.slots.size = D.slots.size := by
    obtain ⟨-, -, -, kB, w1, w2, w3⟩ := q1
    obtain ⟨kB', y1, y2⟩ := al'.2.2 _ _ e3
    rw [q2.2.1] at w1
    cases w1.symm.trans y1
    rw [w3, e5 i3, y2]
  refine ⟨v, B, X', ⟨_, ⟨hv, ?_, ⟨by omega, fun y cy hy hn' => q10 y cy (by simpa using hn') hy, fun y cy hy => ?_⟩, q11, ⟨E', _, q1.1, by rw [q2.2.1]; exact e2, by rw [q2.2.1]; exact e3, by rw [q2.1]; exact obV, fun _ => by rw [hsz]; exact e5 i3⟩,
    ⟨E', cfV, kV, iV, fV, q1.1, gV, stV, by rw [q2.1]; exact knV, by rw [q2.1]; exact obV, by rw [q2.2.1]; exact asV, q3⟩, ⟨E', cfC, kC, iC, fC, q1.1, gC, stC, by rw [q2.1]; exact knV, by rw [q2.1]; exact obV, by rw [q2.2.1]; exact asC, q4⟩,
    ⟨V', ⟨q5.1, State.isArrayOf_alike al'.symm q5.2.1, q5.2.2.1⟩, q6, by rw [← al'.findClass]; exact q7, q8, fun j hj => by have := q9 j hj; rwa [Nat.zero_add] at this⟩, fun O n d w F n1 n2 => ?_⟩, hl, hc, hs⟩, st⟩
  · intro y hy
    simp only [List.mem_cons, List.not_mem_nil, or_false] at hy
    rcases hy with rfl | rfl <;> rfl
  · by_cases q : y = x
    · subst q
      cases hD.symm.trans hy
      exact ⟨E', q1.1, q2.2.1, q2.1, hsz⟩
    · exact ⟨cy, q10 y cy q hy, rfl, rfl, rfl⟩
  · obtain ⟨D3, cf, k, i, f, g1, g2, g3, g4, g5, g6, g7⟩ := F
    cases hD.symm.trans g1
    simp only [RoadKit.slotOf, g2, gV, gC, Option.map_some, Option.getD_some] at n1 n2
    exact ⟨E', cf, k, i, f, q1.1, g2, g3, by rw [q2.1]; exact g4, by rw [q2.1]; exact g5, by rw [q2.2.1]; exact g6, by rw [q2.2.2 f.slot (by simp [n1, n2])]; exact g7⟩
end StrChars.Road
namespace StrChars.Road
open Jvm Sem ClassFile Op Lib Jvm.Stand Jvm.Free Jvm.Free.XT
/-- WHAT COMES BACK, the byte[] as a list of values -/
def QA (Z : State) (x : Addr) (zn : Int32) (cs : List Int32) (h : Heap) (v : Option Value) (h' : Heap) (L : List Loc) : Prop := v = none ∧ (∀ y ∈ L, y.base = x) ∧ RoadKit.Keep h h' [x] ∧ h'.size = h.size + 1 ∧ RoadKit.Exa Z h' x ST ∧ RoadKit.Fld Z h' x ST "value" "[B" (.ref h.size) ∧ RoadKit.Fld Z h' x ST "coder" "B" (.int 0) ∧
  (∃ kb, Z.vm.findClass "[B" = some kb ∧ RoadKit.Arv Z h' h.size kb .byte zn (cs.map fun c => .int (lo8 c)) (.int 0)) ∧
  ∀ (O n d : String) (w : Value), RoadKit.Fld Z h x O n d w → RoadKit.slotOf Z O n d ≠ RoadKit.slotOf Z ST "value" "[B" → RoadKit.slotOf Z O n d ≠ RoadKit.slotOf Z ST "coder" "B" → RoadKit.Fld Z h' x O n d w
/-- **new String(chars) AT A CALL, THE ARRAYS AS LISTS**: the char[] at b holds cs, not empty, no char above 255 -/
theorem backArv {p : Program} {l : Launch} {e : Env} {R : Room} {s : State} {args : Array Value} {below : List Frame} {len W : Nat} {Z : State} {a0 : Array Value} {h : Heap} (hZ : Z.Warmed39 s.vm) (hw : ∀ d ∈ words, d.before a0 Z = true) {kI : Nat} (wi : (Jvm.Cond.instantiable ST kI).before a0 Z = true)
    {x b : Addr} {k : ClassId} {zn z : Int32} {cs : List Int32} {dv v0 c0 : Value} (E : RoadKit.Exa Z h x ST) (V : RoadKit.Fld Z h x ST "value" "[B" v0) (C : RoadKit.Fld Z h x ST "coder" "B" c0) (K : RoadKit.Arv Z h b k .char zn (cs.map Value.int) dv) (S : RoadKit.Sta Z h ST "COMPACT_STRINGS" "Z" (.int z)) (hz : ¬ z = 0)
    (hlen : zn.toNatClampNeg = cs.length) (h0 : 0 < cs.length) (hbig : cs.length ≤ 536870912) (hall : ∀ c ∈ cs, ¬ 255 < c) (hfr : 4 ≤ R.frames) (hlo : W + 65 ≤ R.locals) :
    Back l R p e below s args New1.yN len W (fun P a => a = #[.ref x, .ref b] ∧ P.U.heap = h ∧ P.cells + 1 ≤ R.cells ∧ P.slots + cs.length ≤ R.slots)
      (fun P _ v B => ∃ L, QA Z x zn cs h v B.U.heap L ∧ B.locs = P.locs ++ L ∧ B.cells = P.cells + 1 ∧ B.slots = P.slots + cs.length) := by
  obtain ⟨A, K1, K2, K3, K4, K5, K6⟩ := K
  have e : A.slots.size = cs.length := K3.trans hlen
  have hat : ∀ (i : Nat) (hi : i < cs.length), A.slots[i]? = some (.int cs[i]) := fun i hi => by rw [K5 i (by omega)]; simp [List.getD_eq_getElem?_getD, hi]
  have hcv : ∀ (i : Nat) (hi : i < cs.length), cv A i = cs[i] := fun i hi => by unfold cv; rw [hat i hi]
  have hty : Typed .char A := fun i v hv => by
    have hi : i < A.slots.size := (Array.getElem?_eq_some_iff.mp hv).1
    have q := K5 i hi
    rw [hv] at q
    rw [Option.some.inj q]
    exact K6 i hi
  refine Back.mono (back hZ hw wi E V C K1 hty S hz (by omega) (by omega) (fun i hi => by rw [hcv i (by omega)]; exact hall _ (List.getElem_mem _)) hfr hlo) (fun P a hp => ⟨hp.1, hp.2.1, hp.2.2.1, by rw [e]; exact hp.2.2.2⟩) (fun P a v B hp hq => ?_)
  obtain ⟨L, ⟨q1, q2, q3, q4, q5, q6, q7, ⟨V', v1, v2, v3, v4, v5⟩, q9⟩, hl, hc, hs⟩ := hq
  refine ⟨L, ⟨q1, q2, q3, q4, q5, q6, q7, ⟨V'.cls, v3, V', v1, rfl, by rw [v4, e, hlen], K4, fun i hi => ?_, fun i hi => ?_⟩, q9⟩, hl, hc, by rw [hs, e]⟩
  · have hi' : i < cs.length := by omega
    rw [v5 i (by omega), hcv i hi']; simp [List.getD_eq_getElem?_getD, hi']
  · have hi' : i < cs.length := by omega
    simp only [List.getD_eq_getElem?_getD, List.getElem?_map, List.getElem?_eq_getElem hi', Option.map_some, Option.getD_some]
    exact fits_lo8 _
end StrChars.Road
namespace StrChars.Road
open Jvm Sem ClassFile Op Lib Jvm.Stand Jvm.Free Jvm.Free.XT
/-- WHAT COMES BACK, in the writer's own shape -/
def QV (Z : State) (x : Addr) (N : Int32) (bs : List Int32) (h : Heap) (n0 : Nat) (v : Option Value) (h' : Heap) (L : List Loc) : Prop := v = none ∧ RoadKit.Fr n0 L ∧ RoadKit.Keep h h' [x] ∧ RoadKit.Exa Z h' x ST ∧ RoadKit.Fld Z h' x ST "coder" "B" (.int 0) ∧
  ∃ (t : Addr) (kb : ClassId), n0 ≤ t ∧ h.size ≤ t ∧ ¬ t = x ∧ RoadKit.Fld Z h' x ST "value" "[B" (.ref t) ∧ RoadKit.Arv Z h' t kb .byte N (bs.map Value.int) (.int 0)
/-- **new String(chars) AT A CALL, FOR THE WRITER**: a char[] of n known ints, each 0 to 255 -/
theorem backV {p : Program} {l : Launch} {e : Env} {R : Room} {s : State} {args : Array Value} {below : List Frame} {len W : Nat} {Z : State} {a0 : Array Value} {h : Heap} (hZ : Z.Warmed39 s.vm) (hw : ∀ d ∈ words, d.before a0 Z = true) {kI : Nat} (wi : (Jvm.Cond.instantiable ST kI).before a0 Z = true)
    {x b : Addr} {kC : ClassId} {cs bs : List Int32} {d v0 c0 : Value} {z N : Int32} {n n0 : Nat} (hx0 : n0 ≤ x) (hh0 : n0 ≤ h.size) (E : RoadKit.Exa Z h x ST) (V : RoadKit.Fld Z h x ST "value" "[B" v0) (C : RoadKit.Fld Z h x ST "coder" "B" c0) (K : RoadKit.Arv Z h b kC .char N (cs.map Value.int) d) (S : RoadKit.Sta Z h ST "COMPACT_STRINGS" "Z" (.int z)) (hz : ¬ z = 0)
    (hn : cs.length = n) (hN : N = Int32.ofNat n) (l0 : 0 < n) (l2 : n ≤ 4000) (hp : ∀ c ∈ cs, ¬ c < 0 ∧ ¬ (255 : Int32) < c) (hb : bs = cs.map (fun c => c.toInt8.toInt32)) (hfr : 4 ≤ R.frames) (hlo : W + 65 ≤ R.locals) :
    Back l R p e below s args (⟨"java/lang/String", "<init>", "([C)V"⟩ : MethodName) len W (fun P a => a = #[.ref x, .ref b] ∧ P.U.heap = h ∧ P.cells + 1 ≤ R.cells ∧ P.slots + n ≤ R.slots)
      (fun P _ v B => ∃ L, QV Z x N bs h n0 v B.U.heap L ∧ B.locs = P.locs ++ L ∧ B.cells = P.cells + 1 ∧ B.slots = P.slots + n) := by
  subst hn hN hb
  refine Back.mono (backArv hZ hw wi E V C K S hz (n32 (by omega)) l0 (by omega) (fun c hc => (hp c hc).2) hfr hlo) (fun P a hp => hp) (fun P a v B hp hq => ?_)
  obtain ⟨L, ⟨q1, q2, q3, q4, q5, q6, q7, ⟨kb, v1, v2⟩, q9⟩, hl, hc, hs⟩ := hq
  exact ⟨L, ⟨q1, fun y hy => by rw [q2 y hy]; exact hx0, q3, q5, q7, h.size, kb, hh0, Nat.le_refl _, Nat.ne_of_gt E.lt, q6, by rw [List.map_map]; exact v2⟩, hl, hc, hs⟩
end StrChars.Road
namespace StrChars
open Jvm Sem ClassFile Op Lib Jvm.Stand Jvm.Free.XT Jvm.Free.ALB Jvm.Free.JM Jvm.Free
open Jvm.Lib.Cold (StaticIs)
def hi8 (x : Int32) : Int32 := lo8 (x >>> ((8 : Int32) &&& 31))
/-- what StringUTF16.getChar makes of two bytes -/
def pairCh (u v : Int32) : Int32 := (((u &&& 255) <<< ((0 : Int32) &&& 31)) ||| ((v &&& 255) <<< ((8 : Int32) &&& 31))).toUInt32.toUInt16.toUInt32.toInt32
theorem shr0 (c : Int32) : c >>> ((0 : Int32) &&& 31) = c := by
  have e : ((0 : Int32) &&& 31) = 0 := by decide
  rw [e]
  apply Int32.toBitVec_inj.mp
  rw [Int32.toBitVec_shiftRight]
  have e1 : ((0 : Int32).toBitVec.smod 32) = 0#32 := by decide
  rw [e1, BitVec.sshiftRight_eq']
  exact BitVec.sshiftRight_zero
theorem lo8_and (x : Int32) : (lo8 x &&& 255).toBitVec.toNat = x.toBitVec.toNat % 256 := by
  have h : (lo8 x).toBitVec = (x.toBitVec.signExtend 8).signExtend 32 := by rw [lo8, Int8.toBitVec_toInt32, Int32.toBitVec_toInt8]
  rw [Int32.toBitVec_and, BitVec.toNat_and, h]
  have e : ((x.toBitVec.signExtend 8).signExtend 32).toNat % 256 = x.toBitVec.toNat % 256 := by
    rw [BitVec.toNat_signExtend]
    have hlt := x.toBitVec.isLt
    simp only [BitVec.toNat_setWidth, BitVec.toNat_signExtend]
    split <;> split <;> omega
  rw [← e]
  exact Nat.and_two_pow_sub_one_eq_mod _ 8
theorem pair_says {c : Int32} (h0 : ¬ c < 0) (h1 : ¬ 65535 < c) : pairCh (lo8 c) (hi8 c) = c := by
  rw [Int32.lt_iff_toInt_lt] at h0 h1
  have e0 : (0 : Int32).toInt = 0 := rfl
  have e1 : (65535 : Int32).toInt = 65535 := rfl
  have hc : c.toInt = c.toBitVec.toNat := by
    have := c.toBitVec.isLt
    have e : c.toInt = c.toBitVec.toInt := rfl
    rw [e] at h0 h1
    rw [e]
    rw [BitVec.toInt_eq_toNat_cond] at h0 h1 ⊢
    split at h0 <;> split <;> omega
  have hn : c.toBitVec.toNat < 65536 := by omega
  have a1 := lo8_and c
  have a2 : (hi8 c &&& 255).toBitVec.toNat = c.toBitVec.toNat / 256 := by
    rw [hi8, lo8_and]
    have e : ((8 : Int32) &&& 31) = 8 := by decide
    rw [e, Int32.toBitVec_shiftRight]
    have e2 : ((8 : Int32).toBitVec.smod 32) = 8#32 := by decide
    rw [e2, BitVec.sshiftRight_eq', BitVec.toNat_sshiftRight_of_msb_false (by rw [BitVec.msb_eq_false_iff_two_mul_lt]; omega)]
    show c.toBitVec.toNat >>> 8 % 256 = _
    rw [Nat.shiftRight_eq_div_pow]
    omega
  unfold pairCh
  apply Int32.toBitVec_inj.mp
  apply BitVec.eq_of_toNat_eq
  have f0 : ((0 : Int32) &&& 31) = 0 := by decide
  have f8 : ((8 : Int32) &&& 31) = 8 := by decide
  rw [f0, f8]
  have g : (((lo8 c &&& 255) <<< (0 : Int32)) ||| ((hi8 c &&& 255) <<< (8 : Int32))).toBitVec.toNat = c.toBitVec.toNat := by
    rw [Int32.toBitVec_or, Int32.toBitVec_shiftLeft, Int32.toBitVec_shiftLeft]
    have s0 : ((0 : Int32).toBitVec.smod 32) = 0#32 := by decide
    have s8 : ((8 : Int32).toBitVec.smod 32) = 8#32 := by decide
    rw [s0, s8, BitVec.toNat_or]
    simp only [BitVec.shiftLeft_eq', BitVec.toNat_shiftLeft, a1, a2]
    show (c.toBitVec.toNat % 256) <<< 0 % 2 ^ 32 ||| (c.toBitVec.toNat / 256) <<< 8 % 2 ^ 32 = _
    rw [Nat.shiftLeft_zero, Nat.mod_eq_of_lt (show c.toBitVec.toNat % 256 < 2 ^ 32 by omega), Nat.mod_eq_of_lt (show (c.toBitVec.toNat / 256) <<< 8 < 2 ^ 32 by rw [Nat.shiftLeft_eq]; omega), Nat.or_comm, ← Nat.shiftLeft_add_eq_or_of_lt (by omega), Nat.shiftLeft_eq]
    omega
  show BitVec.toNat (((((lo8 c &&& 255) <<< (0 : Int32)) ||| ((hi8 c &&& 255) <<< (8 : Int32))).toBitVec.setWidth 16).setWidth 32) = _
  rw [BitVec.toNat_setWidth, BitVec.toNat_setWidth, g]
  omega
end StrChars
namespace StrChars
open Jvm Sem ClassFile Op Lib Jvm.Stand Jvm.Free.XT Jvm.Free.ALB Jvm.Free.JM Jvm.Free
open Jvm.Lib.Cold (StaticIs)
theorem shr1 {n : Nat} (h : 2 * n < 2 ^ 31) : Int32.ofNat (2 * n) >>> ((1 : Int32) &&& 31) = Int32.ofNat n := by
  have e : ((1 : Int32) &&& 31) = 1 := by decide
  rw [e]
  apply Int32.toBitVec_inj.mp
  rw [Int32.toBitVec_shiftRight]
  have e1 : ((1 : Int32).toBitVec.smod 32) = 1#32 := by decide
  have hm : (BitVec.ofNat 32 (2 * n)).toNat = 2 * n := by rw [BitVec.toNat_ofNat, Nat.mod_eq_of_lt (by omega)]
  rw [e1, BitVec.sshiftRight_eq']
  apply BitVec.eq_of_toNat_eq
  show ((BitVec.ofNat 32 (2 * n)).sshiftRight 1).toNat = (BitVec.ofNat 32 n).toNat
  rw [BitVec.toNat_sshiftRight_of_msb_false (by rw [BitVec.msb_eq_false_iff_two_mul_lt, hm]; omega), hm, BitVec.toNat_ofNat, Nat.shiftRight_eq_div_pow]
  omega
/-- charAt's cast of a byte read back -/
def chr8 (u : Int32) : Int32 := (u &&& 255).toUInt32.toUInt16.toUInt32.toInt32
theorem chr8_lo8 {c : Int32} (h0 : ¬ c < 0) (h1 : ¬ 255 < c) : chr8 (lo8 c) = c := by
  have t : ∀ k : Fin 256, (Int32.ofNat k.val).toUInt32.toUInt16.toUInt32.toInt32 = Int32.ofNat k.val := by decide +kernel
  unfold chr8
  rw [lo8_mask h0 h1]
  rw [Int32.lt_iff_toInt_lt] at h0 h1
  have e0 : (0 : Int32).toInt = 0 := rfl
  have e1 : (255 : Int32).toInt = 255 := rfl
  obtain ⟨k, hk⟩ : ∃ k : Nat, c.toInt = k := ⟨c.toInt.toNat, by omega⟩
  have hx : c = Int32.ofNat k := Int32.toInt_inj.mp (by rw [hk, Int32.toInt_ofNat_small (by omega)])
  rw [hx]
  exact t ⟨k, by omega⟩
theorem narrow_ch {c : Int32} (h0 : ¬ c < 0) (h1 : ¬ 65535 < c) : narrow .char (.int c) = .int c := by
  have q : narrow .char (.int (pairCh (lo8 c) (hi8 c))) = .int (pairCh (lo8 c) (hi8 c)) := narrow_c _
  rwa [pair_says h0 h1] at q
/-- the array's cell V codes the n chars f 0 .. f (n - 1) by the coder cd, as the JDK does: coder 1 just where some char is above 255 -/
def Cod (cd : Int32) (n : Nat) (f : Nat → Int32) (V : Cell) : Prop := (cd = 0 ∧ V.slots.size = n ∧ ∀ j, j < n → V.slots[j]? = some (.int (lo8 (f j))) ∧ ¬ 255 < f j) ∨ (cd = 1 ∧ V.slots.size = 2 * n ∧ (∀ j, j < n → V.slots[2 * j]? = some (.int (lo8 (f j))) ∧ V.slots[2 * j + 1]? = some (.int (hi8 (f j)))) ∧ ∃ j, j < n ∧ 255 < f j)
theorem Cod.cd {cd : Int32} {n : Nat} {f : Nat → Int32} {V : Cell} (h : Cod cd n f V) : cd = 0 ∨ cd = 1 := h.imp (fun q => q.1) fun q => q.1
theorem Cod.len {cd : Int32} {n : Nat} {f : Nat → Int32} {V : Cell} (h : Cod cd n f V) (hs : V.slots.size < 2 ^ 31) : Int32.ofNat V.slots.size >>> (cd &&& 31) = Int32.ofNat n := by
  rcases h with ⟨rfl, h, -⟩ | ⟨rfl, h, -⟩
  · rw [shr0, h]
  · rw [h, shr1 (by omega)]
/-- **x is a String of the n chars f 0 .. f (n - 1)**, Latin-1 or UTF-16; its array at t has the cell V -/
def Txt (x t : Addr) (V : Cell) (cd : Int32) (n : Nat) (f : Nat → Int32) (U : State) : Prop := Exact "java/lang/String" x U ∧ Has x "java/lang/String" "value" "[B" (.ref t) U ∧ Has x "java/lang/String" "coder" "B" (.int cd) U ∧ XT.Arr .byte t V U ∧ Cod cd n f V ∧ ∀ j, j < n → ¬ f j < 0 ∧ ¬ 65535 < f j
theorem Txt.mv {x t : Addr} {V : Cell} {cd : Int32} {n : Nat} {f : Nat → Int32} {U U' : State} (h : Txt x t V cd n f U) (hal : U.vm.Alike U'.vm) (hh : U'.heap = U.heap) : Txt x t V cd n f U' := ⟨h.1.mv hal hh, h.2.1.mv hal hh, h.2.2.1.mv hal hh, h.2.2.2.1.mv hal hh, h.2.2.2.2⟩
namespace Cdr
def yN : MethodName := ⟨"java/lang/String", "coder", "()B"⟩
abbrev yB : ByteArray := jdk_42_method_152_code
theorem d0 : decode yB 0 = .ok (.getstatic 38, 3) := by decide +kernel
theorem d3 : decode yB 3 = .ok (.ifCond (.eq) 10, 3) := by decide +kernel
theorem d6 : decode yB 6 = .ok (.aload_n 0, 1) := by decide +kernel
theorem d7 : decode yB 7 = .ok (.getfield 15, 3) := by decide +kernel
theorem d10 : decode yB 10 = .ok (.goto 4, 3) := by decide +kernel
theorem d14 : decode yB 14 = .ok (.ireturn, 1) := by decide +kernel
def site : List Cond := [.fieldLink "java/lang/String" 38 "java/lang/String" "COMPACT_STRINGS" "Z", .fieldLink "java/lang/String" 15 "java/lang/String" "coder" "B"]
def tab : Cond := tabOf yN yB 1 (some .byte) site
def P (x : Addr) (cd z : Int32) (args : Array Value) (s : State) : Prop := args = #[.ref x] ∧ Has x "java/lang/String" "coder" "B" (.int cd) s ∧ (cd = 0 ∨ cd = 1) ∧ StaticIs s "java/lang/String" "COMPACT_STRINGS" "Z" (.int z) ∧ ¬ z = 0
def E (cd : Int32) (r : Option Value) (s u : State) : Prop := XT.PureE (some (.int cd)) r s u
theorem law (l : Launch) (x : Addr) (cd z : Int32) : Law l yN 1 0 0 0 yB 1 (some .byte) site (P x cd z) (E cd) [] 0 0 := by
  refine Law.of_walk (plainFor_of_name (by decide +kernel)) (by decide +kernel) (by decide +kernel) (by decide) (fun _ _ h => by rw [h.1]; rfl) (fun _ U U' hal hh h => ⟨h.1, h.2.1.mv hal hh, h.2.2.1, h.2.2.2.1.there hal hh, h.2.2.2.2⟩) (fun r U U' V V' h1 hal h2 h => XT.PureE.mv r U U' V V' h1 hal h2 h) ?_
  intro p e s m args below meth c s₁ X0 hexec hbytes hml hret hlk hnm hown hh0 W hP
  obtain ⟨rfl, hx, hc, s1, hz⟩ := hP
  have c1 : Steps p.tables e below (s₁.setTop (entryFrame m #[.ref x] 1)) (s₁.setTop (mkF m 0 #[.val (.ref x)] [])) := entry rfl
  obtain ⟨T2, X2, q2, st2⟩ := X0.sget hexec hown (wk W (.fieldLink "java/lang/String" 38 "java/lang/String" "COMPACT_STRINGS" "Z")) s1 (fun _ _ h => by rw [hh0]; exact h) (g := (mkF m 0 #[.val (.ref x)] [])) rfl (hb hbytes d0)
  have hh2 := q2.trans hh0
  have c3 : Steps p.tables e below (s₁.setTop (entryFrame m #[.ref x] 1)) (T2.setTop (mkF m 7 #[.val (.ref x)] [.ref x])) := (c1.trans (st2 _ (Steps.refl _))).trans (by
    refine XS.ifNo X2.here hexec rfl (hb hbytes d3) rfl (i0_eq_f hz) ?_
    refine XS.aloadN X2.here hexec rfl (hb hbytes d6) rfl rfl ?_
    exact Steps.refl _)
  obtain ⟨T4, X4, q4, st4⟩ := X2.hget hexec hown (wk W (.fieldLink "java/lang/String" 15 "java/lang/String" "coder" "B")) (hx.mv X2.warmed.alike hh2) (g := (mkF m 7 #[.val (.ref x)] [.ref x])) rfl (rest := []) rfl (hb hbytes d7)
  have c5 : Steps p.tables e below (s₁.setTop (entryFrame m #[.ref x] 1)) (T4.setTop (mkF m 14 #[.val (.ref x)] [.int cd])) := (c3.trans (st4 _ (Steps.refl _))).trans (by
    refine XS.goto X4.here hexec rfl (pc0 := 10) rfl (hb hbytes d10) (by decide) rfl ?_
    exact Steps.refl _)
  exact ⟨T4, some (.int cd), _, _, _, X4, rfl, rfl, rfl, (fun h => by cases h), ⟨rfl, q4.trans hh2⟩, fun fs hl => c5.trans (X4.ireturnOut hexec hret (by rcases hc with rfl | rfl <;> rfl) (Or.inr (Or.inr (Or.inl rfl))) (hb hbytes d14) hl)⟩
end Cdr
namespace Len
def yN : MethodName := ⟨"java/lang/String", "length", "()I"⟩
abbrev yB : ByteArray := jdk_42_method_54_code
theorem d0 : decode yB 0 = .ok (.aload_n 0, 1) := by decide +kernel
theorem d1 : decode yB 1 = .ok (.getfield 9, 3) := by decide +kernel
theorem d4 : decode yB 4 = .ok (.arraylength, 1) := by decide +kernel
theorem d5 : decode yB 5 = .ok (.aload_n 0, 1) := by decide +kernel
theorem d6 : decode yB 6 = .ok (.invokevirtual 335, 3) := by decide +kernel
theorem d9 : decode yB 9 = .ok (.ishr, 1) := by decide +kernel
theorem d10 : decode yB 10 = .ok (.ireturn, 1) := by decide +kernel
def site : List Cond := [.fieldLink "java/lang/String" 9 "java/lang/String" "value" "[B", Cdr.tab] ++ virtW "java/lang/String" 335 "java/lang/String" Cdr.yN Cdr.yN
def tab : Cond := tabOf yN yB 1 (some .int) site
def P (x t : Addr) (V : Cell) (cd : Int32) (n : Nat) (f : Nat → Int32) (z : Int32) (args : Array Value) (s : State) : Prop := args = #[.ref x] ∧ Txt x t V cd n f s ∧ StaticIs s "java/lang/String" "COMPACT_STRINGS" "Z" (.int z) ∧ ¬ z = 0
def E (n : Nat) (r : Option Value) (s u : State) : Prop := XT.PureE (some (.int (Int32.ofNat n))) r s u
/-- length() of a String of n chars, in either coding -/
theorem law (l : Launch) (x t : Addr) (V : Cell) (cd : Int32) (n : Nat) (f : Nat → Int32) (z : Int32) : Law l yN 1 0 1 13 yB 1 (some .int) site (P x t V cd n f z) (E n) [] 0 0 := by
  refine Law.of_walk (plainFor_of_name (by decide +kernel)) (by decide +kernel) (by decide +kernel) (by decide) (fun _ _ h => by rw [h.1]; rfl) (fun _ U U' hal hh h => ⟨h.1, h.2.1.mv hal hh, h.2.2.1.there hal hh, h.2.2.2⟩) (fun r U U' V V' h1 hal h2 h => XT.PureE.mv r U U' V V' h1 hal h2 h) ?_
  intro p e s m args below meth c s₁ X0 hexec hbytes hml hret hlk hnm hown hh0 W hP
  obtain ⟨rfl, hx, s1, hz⟩ := hP
  have v31 := hx.2.2.2.1.2.2.2
  have c1 : Steps p.tables e below (s₁.setTop (entryFrame m #[.ref x] 1)) (s₁.setTop (mkF m 1 #[.val (.ref x)] [.ref x])) := Steps.trans (entry rfl) (by
    show Steps p.tables e below (s₁.setTop (mkF m 0 #[.val (.ref x)] [])) _
    refine XS.aloadN X0.here hexec rfl (hb hbytes d0) rfl rfl ?_
    exact Steps.refl _)
  obtain ⟨T2, X2, q2, st2⟩ := X0.hget hexec hown (wk W (.fieldLink "java/lang/String" 9 "java/lang/String" "value" "[B")) (hx.mv X0.warmed.alike hh0).2.1 (g := (mkF m 1 #[.val (.ref x)] [.ref x])) rfl (rest := []) rfl (hb hbytes d1)
  have hh2 := q2.trans hh0
  have hx2 := hx.mv X2.warmed.alike hh2
  have c3 : Steps p.tables e below (s₁.setTop (entryFrame m #[.ref x] 1)) (T2.setTop (mkF m 6 #[.val (.ref x)] [.ref x, .int (Int32.ofNat V.slots.size)])) := (c1.trans (st2 _ (Steps.refl _))).trans (by
    refine X2.alen hexec hx2.2.2.2.1 rfl rfl (hb hbytes d4) ?_
    refine XS.aloadN X2.here hexec rfl (hb hbytes d5) rfl rfl ?_
    exact Steps.refl _)
  obtain ⟨v4, T4, X4, E4, g4⟩ := X2.callV hexec (Cdr.law l x cd z) hown (wks W (virtW "java/lang/String" 335 "java/lang/String" Cdr.yN Cdr.yN)) rfl (by decide) (wk W Cdr.tab) (W := 1) (Nat.le_of_ble_eq_true rfl) (Nat.le_of_ble_eq_true rfl) (Nat.le_refl _) (Nat.le_refl _) (hx2.1.fc X2.warmed.alike) hx2.1.is (g := (mkF m 6 #[.val (.ref x)] [.ref x, .int (Int32.ofNat V.slots.size)])) rfl (by rw [hml]; rfl) c3 (argsL := []) (rest := [.int (Int32.ofNat V.slots.size)]) rfl rfl (by show 2 * 0 + (1 + 0) ≤ _; decide) (hb hbytes d6) (⟨rfl, hx2.2.2.1, hx.2.2.2.2.1.cd, s1.there X2.warmed.alike hh2, hz⟩)
  obtain ⟨rfl, q4⟩ := E4
  have c5 : Steps p.tables e below (s₁.setTop (entryFrame m #[.ref x] 1)) (T4.setTop (mkF m 10 #[.val (.ref x)] [.int (Int32.ofNat V.slots.size >>> (cd &&& 31))])) := Steps.trans g4 (by
    refine ishr X4.here hexec rfl (hb hbytes d9) rfl ?_
    exact Steps.refl _)
  rw [hx.2.2.2.2.1.len v31] at c5
  exact ⟨T4, some (.int (Int32.ofNat n)), _, _, _, X4, rfl, rfl, rfl, (fun h => by cases h), ⟨rfl, q4.trans hh2⟩, fun fs hl => c5.trans (X4.ireturnOut hexec hret rfl (Or.inl rfl) (hb hbytes d10) hl)⟩
theorem pays {l : Launch} {R : Room} {p : Program} {e : Env} {below : List Frame} {s : State} {sargs : Array Value} {len W : Nat} (x t : Addr) (V : Cell) (cd : Int32) (n : Nat) (f : Nat → Int32) (z : Int32) (htab : tab.before sargs s = true) (hfr : 2 ≤ R.frames) (hlo : W + 25 ≤ R.locals) :
    Back l R p e below s sargs yN len W (fun A₁ a₁ => A₁.cells + 0 ≤ R.cells ∧ A₁.slots + 0 ≤ R.slots ∧ P x t V cd n f z a₁ A₁.U) (fun A₁ _ v₁ B₁ => E n v₁ A₁.U B₁.U ∧ B₁.locs = A₁.locs ++ [] ∧ B₁.cells = A₁.cells + 0 ∧ B₁.slots = A₁.slots + 0) :=
  (law l x t V cd n f z).pays htab hfr (by omega)
end Len
namespace IsL
def yN : MethodName := ⟨"java/lang/String", "isLatin1", "()Z"⟩
abbrev yB : ByteArray := jdk_42_method_154_code
theorem d0 : decode yB 0 = .ok (.getstatic 38, 3) := by decide +kernel
theorem d3 : decode yB 3 = .ok (.ifCond (.eq) 14, 3) := by decide +kernel
theorem d6 : decode yB 6 = .ok (.aload_n 0, 1) := by decide +kernel
theorem d7 : decode yB 7 = .ok (.getfield 15, 3) := by decide +kernel
theorem d10 : decode yB 10 = .ok (.ifCond (.ne) 7, 3) := by decide +kernel
theorem d13 : decode yB 13 = .ok (.iconst 1, 1) := by decide +kernel
theorem d14 : decode yB 14 = .ok (.goto 4, 3) := by decide +kernel
theorem d17 : decode yB 17 = .ok (.iconst 0, 1) := by decide +kernel
theorem d18 : decode yB 18 = .ok (.ireturn, 1) := by decide +kernel
def site : List Cond := [.fieldLink "java/lang/String" 38 "java/lang/String" "COMPACT_STRINGS" "Z", .fieldLink "java/lang/String" 15 "java/lang/String" "coder" "B"]
def tab : Cond := tabOf yN yB 1 (some .boolean) site
def P (x : Addr) (cd z : Int32) (args : Array Value) (s : State) : Prop := args = #[.ref x] ∧ Has x "java/lang/String" "coder" "B" (.int cd) s ∧ (cd = 0 ∨ cd = 1) ∧ StaticIs s "java/lang/String" "COMPACT_STRINGS" "Z" (.int z) ∧ ¬ z = 0
def E (cd : Int32) (r : Option Value) (s u : State) : Prop := XT.PureE (some (.int (1 - cd))) r s u
theorem law (l : Launch) (x : Addr) (cd z : Int32) : Law l yN 1 0 0 0 yB 1 (some .boolean) site (P x cd z) (E cd) [] 0 0 := by
  refine Law.of_walk (plainFor_of_name (by decide +kernel)) (by decide +kernel) (by decide +kernel) (by decide) (fun _ _ h => by rw [h.1]; rfl) (fun _ U U' hal hh h => ⟨h.1, h.2.1.mv hal hh, h.2.2.1, h.2.2.2.1.there hal hh, h.2.2.2.2⟩) (fun r U U' V V' h1 hal h2 h => XT.PureE.mv r U U' V V' h1 hal h2 h) ?_
  intro p e s m args below meth c s₁ X0 hexec hbytes hml hret hlk hnm hown hh0 W hP
  obtain ⟨rfl, hx, hc, s1, hz⟩ := hP
  have c1 : Steps p.tables e below (s₁.setTop (entryFrame m #[.ref x] 1)) (s₁.setTop (mkF m 0 #[.val (.ref x)] [])) := entry rfl
  obtain ⟨T2, X2, q2, st2⟩ := X0.sget hexec hown (wk W (.fieldLink "java/lang/String" 38 "java/lang/String" "COMPACT_STRINGS" "Z")) s1 (fun _ _ h => by rw [hh0]; exact h) (g := (mkF m 0 #[.val (.ref x)] [])) rfl (hb hbytes d0)
  have hh2 := q2.trans hh0
  have c3 : Steps p.tables e below (s₁.setTop (entryFrame m #[.ref x] 1)) (T2.setTop (mkF m 7 #[.val (.ref x)] [.ref x])) := (c1.trans (st2 _ (Steps.refl _))).trans (by
    refine XS.ifNo X2.here hexec rfl (hb hbytes d3) rfl (i0_eq_f hz) ?_
    refine XS.aloadN X2.here hexec rfl (hb hbytes d6) rfl rfl ?_
    exact Steps.refl _)
  obtain ⟨T4, X4, q4, st4⟩ := X2.hget hexec hown (wk W (.fieldLink "java/lang/String" 15 "java/lang/String" "coder" "B")) (hx.mv X2.warmed.alike hh2) (g := (mkF m 7 #[.val (.ref x)] [.ref x])) rfl (rest := []) rfl (hb hbytes d7)
  have c5 : Steps p.tables e below (s₁.setTop (entryFrame m #[.ref x] 1)) (T4.setTop (mkF m 10 #[.val (.ref x)] [.int cd])) := c3.trans (st4 _ (Steps.refl _))
  have c6 : Steps p.tables e below (s₁.setTop (entryFrame m #[.ref x] 1)) (T4.setTop (mkF m 18 #[.val (.ref x)] [.int (1 - cd)])) := by
    rcases hc with rfl | rfl
    · exact c5.trans (by
        refine XS.ifNo X4.here hexec rfl (hb hbytes d10) rfl (i0_ne_f rfl) ?_
        refine iconstV X4.here hexec rfl 1 (hb hbytes d13) (by decide) ?_
        refine XS.goto X4.here hexec rfl (pc0 := 14) rfl (hb hbytes d14) (by decide) rfl ?_
        exact Steps.refl _)
    · exact c5.trans (by
        refine XS.ifYes X4.here hexec rfl (pc0 := 10) rfl (hb hbytes d10) rfl (i0_ne_t (by decide)) (by decide) rfl ?_
        refine iconstV X4.here hexec rfl 0 (hb hbytes d17) (by decide) ?_
        exact Steps.refl _)
  exact ⟨T4, some (.int (1 - cd)), _, _, _, X4, rfl, rfl, rfl, (fun h => by cases h), ⟨rfl, q4.trans hh2⟩, fun fs hl => c6.trans (X4.ireturnOut hexec hret (by rcases hc with rfl | rfl <;> rfl) (Or.inr (Or.inl rfl)) (hb hbytes d18) hl)⟩
end IsL
namespace LChA
def yN : MethodName := ⟨"java/lang/StringLatin1", "charAt", "([BI)C"⟩
abbrev yB : ByteArray := jdk_43_method_2_code
theorem d0 : decode yB 0 = .ok (.iload_n 1, 1) := by decide +kernel
theorem d1 : decode yB 1 = .ok (.aload_n 0, 1) := by decide +kernel
theorem d2 : decode yB 2 = .ok (.arraylength, 1) := by decide +kernel
theorem d3 : decode yB 3 = .ok (.invokestatic 9, 3) := by decide +kernel
theorem d6 : decode yB 6 = .ok (.aload_n 0, 1) := by decide +kernel
theorem d7 : decode yB 7 = .ok (.iload_n 1, 1) := by decide +kernel
theorem d8 : decode yB 8 = .ok (.baload, 1) := by decide +kernel
theorem d9 : decode yB 9 = .ok (.sipush 255, 3) := by decide +kernel
theorem d12 : decode yB 12 = .ok (.iand, 1) := by decide +kernel
theorem d13 : decode yB 13 = .ok (.i2c, 1) := by decide +kernel
theorem d14 : decode yB 14 = .ok (.ireturn, 1) := by decide +kernel
def site : List Cond := [JO.Str_checkIndex.tab] ++ staticW "java/lang/StringLatin1" 9 JO.Str_checkIndex.yN
def tab : Cond := tabOf yN yB 2 (some .char) site
def P (t : Addr) (V : Cell) (i : Nat) (u : Int32) (fm : Value) (args : Array Value) (s : State) : Prop := args = #[.ref t, .int (Int32.ofNat i)] ∧ XT.Arr .byte t V s ∧ V.slots[i]? = some (.int u) ∧ (StaticIs s "jdk/internal/util/Preconditions" "SIOOBE_FORMATTER" "Ljava/util/function/BiFunction;" fm ∧ fm.isRef = true)
def E (u : Int32) (r : Option Value) (s w : State) : Prop := XT.PureE (some (.int (chr8 u))) r s w
theorem law (l : Launch) (t : Addr) (V : Cell) (i : Nat) (u : Int32) (fm : Value) : Law l yN 2 2 2 27 yB 2 (some .char) site (P t V i u fm) (E u) [] 0 0 := by
  refine Law.of_walk (plainFor_of_name (by decide +kernel)) (by decide +kernel) (by decide +kernel) (by decide) (fun _ _ h => by rw [h.1]; rfl) (fun _ U U' hal hh h => ⟨h.1, h.2.1.mv hal hh, h.2.2.1, h.2.2.2.1.there hal hh, h.2.2.2.2⟩) (fun r U U' V V' h1 hal h2 h => XT.PureE.mv r U U' V V' h1 hal h2 h) ?_
  intro p e s m args below meth c s₁ X0 hexec hbytes hml hret hlk hnm hown hh0 W hP
  obtain ⟨rfl, hV, hu, s1, rf⟩ := hP
  have v31 := hV.2.2.2
  have hi : i < V.slots.size := (Array.getElem?_eq_some_iff.mp hu).1
  have c1 : Steps p.tables e below (s₁.setTop (entryFrame m #[.ref t, .int (Int32.ofNat i)] 2)) (s₁.setTop (mkF m 0 #[.val (.ref t), .val (.int (Int32.ofNat i))] [])) := entry rfl
  have c2 : Steps p.tables e below (s₁.setTop (entryFrame m #[.ref t, .int (Int32.ofNat i)] 2)) (s₁.setTop (mkF m 3 #[.val (.ref t), .val (.int (Int32.ofNat i))] [.int (Int32.ofNat V.slots.size), .int (Int32.ofNat i)])) := c1.trans (by
    refine XS.iloadN X0.here hexec rfl (hb hbytes d0) rfl ?_
    refine XS.aloadN X0.here hexec rfl (hb hbytes d1) rfl rfl ?_
    refine X0.alen hexec (hV.mv X0.warmed.alike hh0) rfl rfl (hb hbytes d2) ?_
    exact Steps.refl _)
  obtain ⟨v3, T3, X3, E3, g3⟩ := X0.callS hexec (JO.Str_checkIndex.law l (Int32.ofNat i) (Int32.ofNat V.slots.size) fm) hown (wks W (staticW "java/lang/StringLatin1" 9 JO.Str_checkIndex.yN)) (wk W JO.Str_checkIndex.tab) (W := 0) (Nat.le_of_ble_eq_true rfl) (Nat.le_of_ble_eq_true rfl) (Nat.le_refl _) (Nat.le_refl _) (g := (mkF m 3 #[.val (.ref t), .val (.int (Int32.ofNat i))] [.int (Int32.ofNat V.slots.size), .int (Int32.ofNat i)])) rfl (by rw [hml]; rfl) c2 (argsL := [.int (Int32.ofNat i), .int (Int32.ofNat V.slots.size)]) (rest := []) rfl rfl (by show 2 * 0 + 0 ≤ _; decide) (hb hbytes d3) (⟨rfl, rf, s1.there X0.warmed.alike hh0, Int32.ofNat_not_neg (by omega), lt32 v31 hi⟩)
  obtain ⟨rfl, q3⟩ := E3
  have hh3 := q3.trans hh0
  have c4 : Steps p.tables e below (s₁.setTop (entryFrame m #[.ref t, .int (Int32.ofNat i)] 2)) (T3.setTop (mkF m 14 #[.val (.ref t), .val (.int (Int32.ofNat i))] [.int (chr8 u)])) := Steps.trans g3 (by
    refine XS.aloadN X3.here hexec rfl (hb hbytes d6) rfl rfl ?_
    refine XS.iloadN X3.here hexec rfl (hb hbytes d7) rfl ?_
    refine X3.aget hexec (hV.mv X3.warmed.alike hh3) rfl hu rfl rfl (hb hbytes d8) ?_
    refine sipushV X3.here hexec rfl 255 (hb hbytes d9) (by decide) ?_
    refine XS.iand X3.here hexec rfl (hb hbytes d12) rfl ?_
    refine i2c X3.here hexec rfl (hb hbytes d13) rfl ?_
    exact Steps.refl _)
  exact ⟨T3, some (.int (chr8 u)), _, _, _, X3, rfl, rfl, rfl, (fun h => by cases h), ⟨rfl, hh3⟩, fun fs hl => c4.trans (X3.ireturnOut hexec hret (narrow_c _) (Or.inr (Or.inr (Or.inr (Or.inl rfl)))) (hb hbytes d14) hl)⟩
end LChA
end StrChars
namespace StrChars.Road
open Jvm Sem ClassFile Op Lib Jvm.Stand Jvm.Free Jvm.Free.XT
open Jvm.Lib.Cold (StaticIs)
theorem consq {a : Array Value} {s : State} {c : Jvm.Cond} {L : List Jvm.Cond} (h0 : c.before a s = true) (h : ∀ w ∈ L, w.before a s = true) : ∀ w ∈ c :: L, w.before a s = true := fun w hw => (List.mem_cons.mp hw).elim (fun e => e ▸ h0) (h w)
/-- the words of String.length(), either coding -/
abbrev wordsLen : List Jvm.Cond := [.code Len.yN Len.yB 1 (some .int), .initialized ST, .fieldLink ST 9 ST "value" "[B", .fieldLink ST 38 ST "COMPACT_STRINGS" "Z", .fieldLink ST 15 ST "coder" "B", .code Cdr.yN Cdr.yB 1 (some .byte), .methodLink ST 335 Cdr.yN, .declares Cdr.yN, .selects ST Cdr.yN Cdr.yN, .instanceMethod Cdr.yN]
theorem tabLen_of {a : Array Value} {s : State} (h : ∀ w ∈ wordsLen, w.before a s = true) : Len.tab.before a s = true := by
  have hc : Cdr.tab.before a s = true := unparts (wk h (.code Cdr.yN Cdr.yB 1 (some .byte))) (wks h (.initialized Cdr.yN.cls :: Cdr.site))
  have q := consq hc h
  exact unparts (wk q (.code Len.yN Len.yB 1 (some .int))) (wks q (.initialized Len.yN.cls :: Len.site))
theorem movedLen {Z s : State} {a0 args : Array Value} (hZ : Z.Warmed39 s.vm) (hw : ∀ d ∈ wordsLen, d.before a0 Z = true) : ∀ d ∈ wordsLen, d.before args s = true := fun d hd => by
  have q := hw d hd
  have t : ∀ d ∈ wordsLen, d = .arrayClass .byte ∨ (d.onTables && d.keepsFace) = true := by decide +kernel
  rcases t d hd with rfl | t
  · exact RoadKit.mvA hZ q
  · exact RoadKit.mv hZ q t
/-- the bytes of the chars cs, low before high -/
def wideBytes : List Int32 → List Value
  | [] => []
  | c :: cs => .int (lo8 c) :: .int (hi8 c) :: wideBytes cs
theorem wide_lo (d : Value) : ∀ (cs : List Int32) (j : Nat), j < cs.length → (wideBytes cs).getD (2 * j) d = .int (lo8 (cs.getD j 0))
  | [], j, h => absurd h (Nat.not_lt_zero j)
  | c :: cs, 0, _ => rfl
  | c :: cs, j + 1, h => by
    have q := wide_lo d cs j (by simpa using h)
    rw [show 2 * (j + 1) = 2 * j + 1 + 1 from by omega]
    simpa [wideBytes] using q
theorem wide_hi (d : Value) : ∀ (cs : List Int32) (j : Nat), j < cs.length → (wideBytes cs).getD (2 * j + 1) d = .int (hi8 (cs.getD j 0))
  | [], j, h => absurd h (Nat.not_lt_zero j)
  | c :: cs, 0, _ => rfl
  | c :: cs, j + 1, h => by
    have q := wide_hi d cs j (by simpa using h)
    rw [show 2 * (j + 1) + 1 = 2 * j + 1 + 1 + 1 from by omega]
    simpa [wideBytes] using q
theorem low_at (d : Value) (cs : List Int32) (j : Nat) (h : j < cs.length) : (cs.map fun c => Value.int (lo8 c)).getD j d = .int (lo8 (cs.getD j 0)) := by
  simp [List.getD_eq_getElem?_getD, h]
/-- an array of N2 bytes vs codes the chars cs by the coder cd -/
def CodA (cs : List Int32) (cd N2 : Int32) (vs : List Value) : Prop := (cd = 0 ∧ N2 = Int32.ofNat cs.length ∧ vs = (cs.map fun c => Value.int (lo8 c)) ∧ ∀ c ∈ cs, ¬ 255 < c) ∨ (cd = 1 ∧ N2 = Int32.ofNat (2 * cs.length) ∧ vs = wideBytes cs ∧ ∃ c ∈ cs, 255 < c)
theorem CodA.cod {cs : List Int32} {cd N2 : Int32} {vs : List Value} {V : Cell} (h : CodA cs cd N2 vs) (hn : 2 * cs.length < 2 ^ 31) (hs : V.slots.size = N2.toNatClampNeg) (hv : RoadKit.Has V vs (.int 0)) : Cod cd cs.length (fun j => cs.getD j 0) V := by
  rcases h with ⟨rfl, rfl, rfl, h⟩ | ⟨rfl, rfl, rfl, c, hc, hw⟩
  · rw [n32 (by omega)] at hs
    exact Or.inl ⟨rfl, hs, fun j hj => ⟨by rw [hv j (by omega), low_at _ _ _ hj], by
      have e : cs.getD j 0 = cs[j] := by simp [List.getD_eq_getElem?_getD, hj]
      show ¬ 255 < cs.getD j 0
      rw [e]; exact h _ (List.getElem_mem _)⟩⟩
  · rw [n32 (by omega)] at hs
    obtain ⟨j, hj, rfl⟩ := List.getElem_of_mem hc
    exact Or.inr ⟨rfl, hs, fun j hj => ⟨by rw [hv _ (by omega), wide_lo _ _ _ hj], by rw [hv _ (by omega), wide_hi _ _ _ hj]⟩, j, hj, by
      have e : cs.getD j 0 = cs[j] := by simp [List.getD_eq_getElem?_getD, hj]
      show 255 < cs.getD j 0
      rw [e]; exact hw⟩
/-- an object of exactly java/lang/String, its two fields found: as the laws ask it -/
theorem strObj {Z U : State} {a0 : Array Value} {kI : Nat} (wi : (Jvm.Cond.instantiable ST kI).before a0 Z = true) (al : Z.vm.Alike U.vm) {x : Addr} {v0 c0 : Value} (E : RoadKit.Exa Z U.heap x ST) (V : RoadKit.Fld Z U.heap x ST "value" "[B" v0) (C : RoadKit.Fld Z U.heap x ST "coder" "B" c0) :
    ∃ (D : Cell) (fV fC : Field), Blank ST x D U ∧ Found ST "value" "[B" fV U ∧ Found ST "coder" "B" fC U ∧ D.slots[fV.slot]? = some v0 ∧ D.slots[fC.slot]? = some c0 ∧ RoadKit.slotOf Z ST "value" "[B" = fV.slot ∧ RoadKit.slotOf Z ST "coder" "B" = fC.slot := by
  obtain ⟨D, cfV, kV, iV, fV, hD, gV, stV, knV, obV, asV, slV⟩ := V
  obtain ⟨D', cfC, kC, iC, fC, hD', gC, stC, -, -, asC, slC⟩ := C
  cases hD.symm.trans hD'
  obtain ⟨D2, kD, e1, e2, e3, e4, e5⟩ := E
  cases hD.symm.trans e1
  obtain ⟨c2, k2, i1, i2, i3, -⟩ := Cond.instantiable_spec wi
  cases e2.symm.trans i1
  cases e3.symm.trans i2
  obtain ⟨kU, u1, u2⟩ := al.2.2 _ _ e3
  exact ⟨D, fV, fC, ⟨hD, ⟨knV, fun q hq => by rw [hq] at obV; cases obV⟩, by rw [al.findClass]; exact e2, kU, u1, by rw [u2]; exact i3, by rw [u2]; exact e5 i3⟩, ⟨SBG.found_only al ⟨cfV, kV, iV, gV⟩, stV⟩, ⟨SBG.found_only al ⟨cfC, kC, iC, gC⟩, stC⟩, slV, slC, by simp [RoadKit.slotOf, gV], by simp [RoadKit.slotOf, gC]⟩
theorem sta_is {Z U : State} (al : Z.vm.Alike U.vm) {C n d : String} {v : Value} (S : RoadKit.Sta Z U.heap C n d v) : StaticIs U C n d v := by
  obtain ⟨cfS, iS, kS, fS, st, cS, t1, t2, t3, t4, t5, t6, t7⟩ := S
  exact StaticIs.there (s := { Z with heap := U.heap }) ⟨cfS, iS, kS, fS, st, cS, t1, t2, t3, t4, t5, (fun q => by rw [q] at t6; cases t6), t7⟩ al rfl
/-- **length() OF SUCH A STRING** -/
theorem lenW {p : Program} {l : Launch} {e : Env} {R : Room} {s : State} {args : Array Value} {below : List Frame} {len W : Nat} {Z : State} {a0 : Array Value} {h : Heap} (hZ : Z.Warmed39 s.vm) (hw : ∀ d ∈ wordsLen, d.before a0 Z = true) {kI : Nat} (wi : (Jvm.Cond.instantiable ST kI).before a0 Z = true)
    {x t : Addr} {kb : ClassId} {cs : List Int32} {cd N2 z : Int32} {vs : List Value} (E : RoadKit.Exa Z h x ST) (V : RoadKit.Fld Z h x ST "value" "[B" (.ref t)) (C : RoadKit.Fld Z h x ST "coder" "B" (.int cd)) (K : RoadKit.Arv Z h t kb .byte N2 vs (.int 0)) (hc : CodA cs cd N2 vs) (hb : ∀ c ∈ cs, ¬ c < 0 ∧ ¬ (65535 : Int32) < c)
    (S : RoadKit.Sta Z h ST "COMPACT_STRINGS" "Z" (.int z)) (hz : ¬ z = 0) (l2 : cs.length ≤ 4000) (hfr : 2 ≤ R.frames) (hlo : W + 25 ≤ R.locals) :
    Back l R p e below s args (⟨"java/lang/String", "length", "()I"⟩ : MethodName) len W (fun P a => a = #[.ref x] ∧ P.U.heap = h ∧ P.cells + 0 ≤ R.cells ∧ P.slots + 0 ≤ R.slots)
      (fun P _ v B => ∃ L, (v = some (.int (Int32.ofNat cs.length)) ∧ L = [] ∧ B.U.heap = h) ∧ B.locs = P.locs ++ L ∧ B.cells = P.cells + 0 ∧ B.slots = P.slots + 0) := by
  obtain ⟨A, K1, K2, K3, K4, K5, K6⟩ := K
  have hcod := hc.cod (by omega) K3 K5
  intro m meth c P g ig mk a X hg hsize hdg hW hn hp'
  obtain ⟨rfl, rfl, r1, r2⟩ := hp'
  have al : Z.vm.Alike P.U.vm := hZ.alike.trans X.warmed.alike
  obtain ⟨D, fV, fC, hB, F1, F2, g1, g2, -, -⟩ := strObj wi al E V C
  have hx : Txt x t A cd cs.length (fun j => cs.getD j 0) P.U := ⟨⟨_, hB.2.2.1, D, hB.1, rfl, by cases q : D.vm <;> first | rfl | exact absurd q (hB.2.1.2 _)⟩, Has.of hB F1 g1, Has.of hB F2 g2, ⟨K1.1, State.isArrayOf_alike al K1.2.1, K1.2.2, by rcases hcod with ⟨-, q, -⟩ | ⟨-, q, -⟩ <;> omega⟩, hcod, fun j hj => by
    have e : cs.getD j 0 = cs[j] := by simp [List.getD_eq_getElem?_getD, hj]
    show ¬ cs.getD j 0 < 0 ∧ ¬ 65535 < cs.getD j 0
    rw [e]; exact hb _ (List.getElem_mem _)⟩
  obtain ⟨v, B, X', ⟨⟨hv, hh⟩, hl, hk, hs⟩, st⟩ := Len.pays x t A cd cs.length (fun j => cs.getD j 0) z (tabLen_of (movedLen hZ hw)) hfr hlo m meth c P g ig mk _ X hg hsize hdg hW hn ⟨r1, r2, rfl, hx, sta_is al S, hz⟩
  exact ⟨v, B, X', ⟨[], ⟨hv, rfl, hh⟩, hl, hk, hs⟩, st⟩
end StrChars.Road
namespace StrChars.Road
open Jvm Sem ClassFile Op Lib Jvm.Stand Jvm.Free Jvm.Free.XT
open Jvm.Lib.Cold (StaticIs)
/-- the road's facts of a String, as the laws ask it -/
theorem txt_of {Z U : State} {a0 : Array Value} {kI : Nat} (wi : (Jvm.Cond.instantiable ST kI).before a0 Z = true) (al : Z.vm.Alike U.vm) {x t : Addr} {kb : ClassId} {cs : List Int32} {cd N2 : Int32} {vs : List Value} (E : RoadKit.Exa Z U.heap x ST) (V : RoadKit.Fld Z U.heap x ST "value" "[B" (.ref t)) (C : RoadKit.Fld Z U.heap x ST "coder" "B" (.int cd)) (K : RoadKit.Arv Z U.heap t kb .byte N2 vs (.int 0)) (hc : CodA cs cd N2 vs) (hb : ∀ c ∈ cs, ¬ c < 0 ∧ ¬ (65535 : Int32) < c) (l2 : cs.length ≤ 4000) :
    ∃ A, Txt x t A cd cs.length (fun j => cs.getD j 0) U := by
  obtain ⟨A, K1, K2, K3, K4, K5, K6⟩ := K
  have hcod := hc.cod (by omega) K3 K5
  obtain ⟨D, fV, fC, hB, F1, F2, g1, g2, -, -⟩ := strObj wi al E V C
  exact ⟨A, ⟨_, hB.2.2.1, D, hB.1, rfl, by cases q : D.vm <;> first | rfl | exact absurd q (hB.2.1.2 _)⟩, Has.of hB F1 g1, Has.of hB F2 g2, ⟨K1.1, State.isArrayOf_alike al K1.2.1, K1.2.2, by rcases hcod with ⟨-, q, -⟩ | ⟨-, q, -⟩ <;> omega⟩, hcod, fun j hj => by
    have e : cs.getD j 0 = cs[j] := by simp [List.getD_eq_getElem?_getD, hj]
    show ¬ cs.getD j 0 < 0 ∧ ¬ 65535 < cs.getD j 0
    rw [e]; exact hb _ (List.getElem_mem _)⟩
end StrChars.Road
namespace StrChars
open Jvm Sem ClassFile Op Lib Jvm.Stand Jvm.Free.XT Jvm.Free.ALB Jvm.Free.JM Jvm.Free
open Jvm.Lib.Cold (StaticIs)
namespace ChN
def yN : MethodName := ⟨"java/lang/String", "charAt", "(I)C"⟩
abbrev yB : ByteArray := jdk_42_method_56_code
theorem d0 : decode yB 0 = .ok (.aload_n 0, 1) := by decide +kernel
theorem d1 : decode yB 1 = .ok (.invokevirtual 492, 3) := by decide +kernel
theorem d4 : decode yB 4 = .ok (.ifCond (.eq) 12, 3) := by decide +kernel
theorem d7 : decode yB 7 = .ok (.aload_n 0, 1) := by decide +kernel
theorem d8 : decode yB 8 = .ok (.getfield 9, 3) := by decide +kernel
theorem d11 : decode yB 11 = .ok (.iload_n 1, 1) := by decide +kernel
theorem d12 : decode yB 12 = .ok (.invokestatic 495, 3) := by decide +kernel
theorem d15 : decode yB 15 = .ok (.ireturn, 1) := by decide +kernel
def site : List Cond := [.fieldLink "java/lang/String" 9 "java/lang/String" "value" "[B", IsL.tab, LChA.tab] ++ virtW "java/lang/String" 492 "java/lang/String" IsL.yN IsL.yN ++ staticW "java/lang/String" 495 LChA.yN
def tab : Cond := tabOf yN yB 2 (some .char) site
def P (x t : Addr) (V : Cell) (n : Nat) (f : Nat → Int32) (z : Int32) (fm : Value) (i : Nat) (args : Array Value) (s : State) : Prop := args = #[.ref x, .int (Int32.ofNat i)] ∧ Txt x t V 0 n f s ∧ i < n ∧ StaticIs s "java/lang/String" "COMPACT_STRINGS" "Z" (.int z) ∧ ¬ z = 0 ∧ StaticIs s "jdk/internal/util/Preconditions" "SIOOBE_FORMATTER" "Ljava/util/function/BiFunction;" fm ∧ fm.isRef = true
def E (f : Nat → Int32) (i : Nat) (r : Option Value) (s u : State) : Prop := XT.PureE (some (.int (f i))) r s u
/-- charAt(i) of a Latin-1 String of n chars, i < n: f i -/
theorem law (l : Launch) (x t : Addr) (V : Cell) (n : Nat) (f : Nat → Int32) (z : Int32) (fm : Value) (i : Nat) : Law l yN 2 1 3 40 yB 2 (some .char) site (P x t V n f z fm i) (E f i) [] 0 0 := by
  refine Law.of_walk (plainFor_of_name (by decide +kernel)) (by decide +kernel) (by decide +kernel) (by decide) (fun _ _ h => by rw [h.1]; rfl) (fun _ U U' hal hh h => ⟨h.1, h.2.1.mv hal hh, h.2.2.1, h.2.2.2.1.there hal hh, h.2.2.2.2.1, h.2.2.2.2.2.1.there hal hh, h.2.2.2.2.2.2⟩) (fun r U U' V V' h1 hal h2 h => XT.PureE.mv r U U' V V' h1 hal h2 h) ?_
  intro p e s m args below meth c s₁ X0 hexec hbytes hml hret hlk hnm hown hh0 W hP
  obtain ⟨rfl, hx, hi, s1, hz, s3, rf⟩ := hP
  have v31 := hx.2.2.2.1.2.2.2
  have hr := hx.2.2.2.2.2 i hi
  have hx0 := hx.mv X0.warmed.alike hh0
  have c1 : Steps p.tables e below (s₁.setTop (entryFrame m #[.ref x, .int (Int32.ofNat i)] 2)) (s₁.setTop (mkF m 1 #[.val (.ref x), .val (.int (Int32.ofNat i))] [.ref x])) := Steps.trans (entry rfl) (by
    show Steps p.tables e below (s₁.setTop (mkF m 0 #[.val (.ref x), .val (.int (Int32.ofNat i))] [])) _
    refine XS.aloadN X0.here hexec rfl (hb hbytes d0) rfl rfl ?_
    exact Steps.refl _)
  obtain ⟨v2, T2, X2, E2, g2⟩ := X0.callV hexec (IsL.law l x 0 z) hown (wks W (virtW "java/lang/String" 492 "java/lang/String" IsL.yN IsL.yN)) rfl (by decide) (wk W IsL.tab) (W := 0) (Nat.le_of_ble_eq_true rfl) (Nat.le_of_ble_eq_true rfl) (Nat.le_refl _) (Nat.le_refl _) (hx0.1.fc X0.warmed.alike) hx0.1.is (g := (mkF m 1 #[.val (.ref x), .val (.int (Int32.ofNat i))] [.ref x])) rfl (by rw [hml]; rfl) c1 (argsL := []) (rest := []) rfl rfl (by show 2 * 0 + 0 ≤ _; decide) (hb hbytes d1) (⟨rfl, hx0.2.2.1, hx.2.2.2.2.1.cd, s1.there X0.warmed.alike hh0, hz⟩)
  obtain ⟨rfl, q2⟩ := E2
  have hh2 := q2.trans hh0
  have hx2 := hx.mv X2.warmed.alike hh2
  obtain ⟨-, k1, k2⟩ | ⟨k0, -⟩ := hx.2.2.2.2.1
  · have c3 : Steps p.tables e below (s₁.setTop (entryFrame m #[.ref x, .int (Int32.ofNat i)] 2)) (T2.setTop (mkF m 8 #[.val (.ref x), .val (.int (Int32.ofNat i))] [.ref x])) := Steps.trans g2 (by
      refine XS.ifNo X2.here hexec rfl (hb hbytes d4) rfl (i0_eq_f (by decide)) ?_
      refine XS.aloadN X2.here hexec rfl (hb hbytes d7) rfl rfl ?_
      exact Steps.refl _)
    obtain ⟨T4, X4, q4, st4⟩ := X2.hget hexec hown (wk W (.fieldLink "java/lang/String" 9 "java/lang/String" "value" "[B")) hx2.2.1 (g := (mkF m 8 #[.val (.ref x), .val (.int (Int32.ofNat i))] [.ref x])) rfl (rest := []) rfl (hb hbytes d8)
    have hh4 := q4.trans hh2
    have c5 : Steps p.tables e below (s₁.setTop (entryFrame m #[.ref x, .int (Int32.ofNat i)] 2)) (T4.setTop (mkF m 12 #[.val (.ref x), .val (.int (Int32.ofNat i))] [.int (Int32.ofNat i), .ref t])) := (c3.trans (st4 _ (Steps.refl _))).trans (by
      refine XS.iloadN X4.here hexec rfl (hb hbytes d11) rfl ?_
      exact Steps.refl _)
    obtain ⟨v6, T6, X6, E6, g6⟩ := X4.callS hexec (LChA.law l t V i (lo8 (f i)) fm) hown (wks W (staticW "java/lang/String" 495 LChA.yN)) (wk W LChA.tab) (W := 0) (Nat.le_of_ble_eq_true rfl) (Nat.le_of_ble_eq_true rfl) (Nat.le_refl _) (Nat.le_refl _) (g := (mkF m 12 #[.val (.ref x), .val (.int (Int32.ofNat i))] [.int (Int32.ofNat i), .ref t])) rfl (by rw [hml]; rfl) c5 (argsL := [.ref t, .int (Int32.ofNat i)]) (rest := []) rfl rfl (by show 2 * 0 + 0 ≤ _; decide) (hb hbytes d12) (⟨rfl, hx.2.2.2.1.mv X4.warmed.alike hh4, (k2 i hi).1, s3.there X4.warmed.alike hh4, rf⟩)
    obtain ⟨rfl, q6⟩ := E6
    rw [chr8_lo8 hr.1 (k2 i hi).2] at g6
    exact ⟨T6, some (.int (f i)), _, _, _, X6, rfl, rfl, rfl, (fun h => by cases h), ⟨rfl, q6.trans hh4⟩, fun fs hl => Steps.trans g6 (X6.ireturnOut hexec hret (narrow_ch hr.1 hr.2) (Or.inr (Or.inr (Or.inr (Or.inl rfl)))) (hb hbytes d15) hl)⟩
  · exact absurd k0 (by decide)
theorem pays {l : Launch} {R : Room} {p : Program} {e : Env} {below : List Frame} {s : State} {sargs : Array Value} {len W : Nat} (x t : Addr) (V : Cell) (n : Nat) (f : Nat → Int32) (z : Int32) (fm : Value) (i : Nat) (htab : tab.before sargs s = true) (hfr : 4 ≤ R.frames) (hlo : W + 53 ≤ R.locals) :
    Back l R p e below s sargs yN len W (fun A₁ a₁ => A₁.cells + 0 ≤ R.cells ∧ A₁.slots + 0 ≤ R.slots ∧ P x t V n f z fm i a₁ A₁.U) (fun A₁ _ v₁ B₁ => E f i v₁ A₁.U B₁.U ∧ B₁.locs = A₁.locs ++ [] ∧ B₁.cells = A₁.cells + 0 ∧ B₁.slots = A₁.slots + 0) :=
  (law l x t V n f z fm i).pays htab hfr (by omega)
end ChN
end StrChars
namespace StrChars.Road
open Jvm Sem ClassFile Op Lib Jvm.Stand Jvm.Free Jvm.Free.XT
open Jvm.Lib.Cold (StaticIs)
/-- the words of String.charAt(int), the Latin-1 road alone -/
abbrev wordsChN : List Jvm.Cond := [.code ChN.yN ChN.yB 2 (some .char), .initialized ST, .fieldLink ST 9 ST "value" "[B", .fieldLink ST 38 ST "COMPACT_STRINGS" "Z", .fieldLink ST 15 ST "coder" "B", .code IsL.yN IsL.yB 1 (some .boolean), .methodLink ST 492 IsL.yN, .declares IsL.yN, .selects ST IsL.yN IsL.yN, .instanceMethod IsL.yN,
  .methodLink ST 495 LChA.yN, .static LChA.yN, .code LChA.yN LChA.yB 2 (some .char), .initialized "java/lang/StringLatin1", .methodLink "java/lang/StringLatin1" 9 JO.Str_checkIndex.yN, .static JO.Str_checkIndex.yN, .code JO.Str_checkIndex.yN JO.Str_checkIndex.yB 2 none,
  .fieldLink ST 1053 "jdk/internal/util/Preconditions" "SIOOBE_FORMATTER" "Ljava/util/function/BiFunction;", .methodLink ST 1059 JC.PreCheck.yN, .static JC.PreCheck.yN, .code JC.PreCheck.yN JC.PreCheck.yB 3 (some .int), .initialized "jdk/internal/util/Preconditions"]
theorem tabChN_of {a : Array Value} {s : State} (h : ∀ w ∈ wordsChN, w.before a s = true) : ChN.tab.before a s = true := by
  have hp : JC.PreCheck.tab.before a s = true := unparts (wk h (.code JC.PreCheck.yN JC.PreCheck.yB 3 (some .int))) (wks h (.initialized JC.PreCheck.yN.cls :: JC.PreCheck.site))
  have qk := consq hp h
  have hk : JO.Str_checkIndex.tab.before a s = true := unparts (wk qk (.code JO.Str_checkIndex.yN JO.Str_checkIndex.yB 2 none)) (wks qk (.initialized JO.Str_checkIndex.yN.cls :: JO.Str_checkIndex.site))
  have ql := consq hk h
  have hl : LChA.tab.before a s = true := unparts (wk ql (.code LChA.yN LChA.yB 2 (some .char))) (wks ql (.initialized LChA.yN.cls :: LChA.site))
  have hi : IsL.tab.before a s = true := unparts (wk h (.code IsL.yN IsL.yB 1 (some .boolean))) (wks h (.initialized IsL.yN.cls :: IsL.site))
  have q := consq hi (consq hl h)
  exact unparts (wk q (.code ChN.yN ChN.yB 2 (some .char))) (wks q (.initialized ChN.yN.cls :: ChN.site))
theorem movedChN {Z s : State} {a0 args : Array Value} (hZ : Z.Warmed39 s.vm) (hw : ∀ d ∈ wordsChN, d.before a0 Z = true) : ∀ d ∈ wordsChN, d.before args s = true := fun d hd => by
  have t : ∀ d ∈ wordsChN, (d.onTables && d.keepsFace) = true := by decide +kernel
  exact RoadKit.mv hZ (hw d hd) (t d hd)
/-- **charAt(i) OF A LATIN-1 STRING**, i < n: the char -/
theorem chN {p : Program} {l : Launch} {e : Env} {R : Room} {s : State} {args : Array Value} {below : List Frame} {len W : Nat} {Z : State} {a0 : Array Value} {h : Heap} (hZ : Z.Warmed39 s.vm) (hw : ∀ d ∈ wordsChN, d.before a0 Z = true) {kI : Nat} (wi : (Jvm.Cond.instantiable ST kI).before a0 Z = true)
    {x t : Addr} {kb : ClassId} {cs : List Int32} {N2 z : Int32} {vs : List Value} {fm : Value} {i : Nat} {j : Int32} (E : RoadKit.Exa Z h x ST) (V : RoadKit.Fld Z h x ST "value" "[B" (.ref t)) (C : RoadKit.Fld Z h x ST "coder" "B" (.int 0)) (K : RoadKit.Arv Z h t kb .byte N2 vs (.int 0)) (hc : CodA cs 0 N2 vs) (hb : ∀ c ∈ cs, ¬ c < 0 ∧ ¬ (65535 : Int32) < c)
    (S : RoadKit.Sta Z h ST "COMPACT_STRINGS" "Z" (.int z)) (hz : ¬ z = 0) (F : RoadKit.Sta Z h "jdk/internal/util/Preconditions" "SIOOBE_FORMATTER" "Ljava/util/function/BiFunction;" fm) (rf : fm.isRef = true) (l2 : cs.length ≤ 4000) (hi : i < cs.length) (hj : j = Int32.ofNat i) (hfr : 4 ≤ R.frames) (hlo : W + 53 ≤ R.locals) :
    Back l R p e below s args (⟨"java/lang/String", "charAt", "(I)C"⟩ : MethodName) len W (fun P a => a = #[.ref x, .int j] ∧ P.U.heap = h ∧ P.cells + 0 ≤ R.cells ∧ P.slots + 0 ≤ R.slots)
      (fun P _ v B => ∃ L, (v = some (.int (cs.getD i 0)) ∧ L = [] ∧ B.U.heap = h) ∧ B.locs = P.locs ++ L ∧ B.cells = P.cells + 0 ∧ B.slots = P.slots + 0) := by
  subst hj
  intro m meth c P g ig mk a X hg hsize hdg hW hn hp'
  obtain ⟨rfl, rfl, r1, r2⟩ := hp'
  have al : Z.vm.Alike P.U.vm := hZ.alike.trans X.warmed.alike
  obtain ⟨A, hx⟩ := txt_of wi al E V C K hc hb l2
  obtain ⟨v, B, X', ⟨⟨hv, hh⟩, hl, hk, hs⟩, st⟩ := ChN.pays x t A cs.length (fun j => cs.getD j 0) z fm i (tabChN_of (movedChN hZ hw)) hfr hlo m meth c P g ig mk _ X hg hsize hdg hW hn ⟨r1, r2, rfl, hx, hi, sta_is al S, hz, sta_is al F, rf⟩
  exact ⟨v, B, X', ⟨[], ⟨hv, rfl, hh⟩, hl, hk, hs⟩, st⟩
/-- what backV says of its String, as the contracts of this text ask it: cs's low bytes, coder 0 -/
theorem codOf {cs : List Int32} {n : Nat} (hn : cs.length = n) (hb : ∀ c ∈ cs, ¬ 255 < c) : CodA cs 0 (Int32.ofNat n) ((cs.map lo8).map Value.int) := Or.inl ⟨rfl, by rw [hn], by simp [List.map_map, Function.comp_def], hb⟩
end StrChars.Road
end Jvm.Pilot.@@N@@
namespace Jvm.Pilot.@@N@@
open Jvm Jvm.ClassFile Sem Op Lib Jvm.Free Jvm.Stand Jvm.LawKit Jvm.RoadKit Bundle Jvm.Pilot.@@N@@.Jvm.D
section OwnKit
variable {p : Program} {l : Launch} {e : Env} {R : Room} {s : State} {m : MethodId} {args : Array Value} {below : List Frame} {meth : Method} {c : Code} {T T' : State} {cells slots : Nat} {Z : State} {a0 : Array Value} {EL : List (String × Nat)} {vm0 : Vm} {h h' : Heap} {own : String} {n0 : Nat} {Q : Outcome → State → Prop} {g g' : JFrame}
/-- from this frame the run comes to an end of which Q holds -/
def Go (p : Program) (e : Env) (below : List Frame) (Q : Outcome → State → Prop) (T : State) (g : JFrame) : Prop :=
  ∃ s₂ o, Steps p.tables e below (T.setTop g) s₂ ∧ s₂.status = .running ∧ Ended s₂ below o ∧ Q o s₂
theorem Go.st (st : ∀ t, Steps p.tables e below (T'.setTop g') t → Steps p.tables e below (T.setTop g) t) (k : Go p e below Q T' g') : Go p e below Q T g := by
  obtain ⟨s₂, o, h1, h2⟩ := k
  exact ⟨s₂, o, st _ h1, h2⟩
theorem Go.tr (st : Steps p.tables e below (T.setTop g) (T'.setTop g')) (k : Go p e below Q T' g') : Go p e below Q T g := by
  obtain ⟨s₂, o, h1, h2⟩ := k
  exact ⟨s₂, o, st.trans h1, h2⟩
theorem own_ne {x y : Nat} (h : ¬ @Eq Nat x y) : @Ne Addr x y := h
theorem own_nn {x y : Addr} (h : x ≠ y) : ¬ @Eq Nat x y := h
theorem own_cat {v : Value} (h : v.isRef = true) : v.category = 1 := by cases v <;> simp [Value.isRef] at h <;> rfl
theorem own_catI (x : Int32) : (Value.int x).category = 1 := rfl
theorem own_catJ (x : Int64) : (Value.long x).category = 2 := rfl
theorem own_catD (x : UInt64) : (Value.double x).category = 2 := rfl
theorem own_catA (x : Addr) : (Value.ref x).category = 1 := rfl
theorem own_catN : Value.null.category = 1 := rfl
theorem own_safe0 {vm : Vm} {x : Addr} (hE : EL = []) : Safe Z EL vm h x := fun B => by
  obtain ⟨q, hq, -⟩ := B
  rw [hE] at hq; cases hq
/-- where the walk stands -/
def Wk (p : Program) (l : Launch) (e : Env) (R : Room) (s : State) (m : MethodId) (args : Array Value) (below : List Frame) (meth : Method) (c : Code) (Z : State) (EL : List (String × Nat)) (own : String) (n0 : Nat) (vm0 : Vm) (T : State) (h : Heap) (cells slots : Nat) : Prop :=
  ∃ (locs : List Loc) (k0 : Nat), Stand p l e R (s.setVm vm0) m args below meth c T locs cells slots ∧ T.heap = h ∧ s.Since vm0 k0 ∧ k0 ≤ h.size ∧ Z.Warmed39 vm0 ∧ vm0.findClass own = some m.cls ∧ CHr Z EL s.vm s.heap vm0 h ∧ Fr n0 locs ∧ Old Z n0 h ∧ True
theorem Wk.here (W : Wk p l e R s m args below meth c Z EL own n0 vm0 T h cells slots) : At T m c below := by
  obtain ⟨locs, k0, X, eT, hS, hk, hZ, hown, hC, N, O, hKK⟩ := W
  exact X.here
theorem Wk.warm (W : Wk p l e R s m args below meth c Z EL own n0 vm0 T h cells slots) : Z.Warmed39 vm0 := by
  obtain ⟨locs, k0, X, eT, hS, hk, hZ, hown, hC, N, O, hKK⟩ := W
  exact hZ
theorem Wk.warmS (W : Wk p l e R s m args below meth c Z EL own n0 vm0 T h cells slots) : Z.Warmed39 (s.setVm vm0).vm := by
  obtain ⟨locs, k0, X, eT, hS, hk, hZ, hown, hC, N, O, hKK⟩ := W
  exact hZ
theorem Wk.old (W : Wk p l e R s m args below meth c Z EL own n0 vm0 T h cells slots) : Old Z n0 h := by
  obtain ⟨locs, k0, X, eT, hS, hk, hZ, hown, hC, N, O, hKK⟩ := W
  exact O
theorem Wk.ge (W : Wk p l e R s m args below meth c Z EL own n0 vm0 T h cells slots) : n0 ≤ h.size := by have q := W.old; exact q.1 ▸ q.2.1
theorem Wk.stand (W : Wk p l e R s m args below meth c Z EL own n0 vm0 T h cells slots) : ∃ locs, Stand p l e R (s.setVm vm0) m args below meth c T locs cells slots := by
  obtain ⟨locs, k0, X, eT, hS, hk, hZ, hown, hC, N, O, hKK⟩ := W
  exact ⟨_, X⟩
theorem Wk.heap (W : Wk p l e R s m args below meth c Z EL own n0 vm0 T h cells slots) : T.heap = h := by
  obtain ⟨locs, k0, X, eT, hS, hk, hZ, hown, hC, N, O, hKK⟩ := W
  exact eT
theorem Wk.owns (W : Wk p l e R s m args below meth c Z EL own n0 vm0 T h cells slots) : (s.setVm vm0).vm.findClass own = some m.cls := by
  obtain ⟨locs, k0, X, eT, hS, hk, hZ, hown, hC, N, O, hKK⟩ := W
  exact hown
theorem Wk.chv (W : Wk p l e R s m args below meth c Z EL own n0 vm0 T h cells slots) : CHv Z EL vm0 h := by
  obtain ⟨locs, k0, X, eT, hS, hk, hZ, hown, hC, N, O, hKK⟩ := W
  exact hC.1
theorem Wk.sta {C n d : String} {v : Value} (W : Wk p l e R s m args below meth c Z EL own n0 vm0 T h cells slots) (S : Sta Z Z.heap C n d v) : Sta Z h C n d v := S.ext W.old.2
theorem Wk.safeArv {x : Addr} {k : ClassId} {ty : FieldType} {z : Int32} {vs : List Value} {d : Value} (W : Wk p l e R s m args below meth c Z EL own n0 vm0 T h cells slots) (A : Arv Z h x k ty z vs d) (ht : ty ≠ .byte) : Safe Z EL vm0 h x := Safe.arv W.warm.alike A ht
theorem Wk.safeExa {x : Addr} {C : String} (W : Wk p l e R s m args below meth c Z EL own n0 vm0 T h cells slots) (E : Exa Z h x C) (h1 : C ≠ "java/lang/String") (h2 : C ≠ "[B") : Safe Z EL vm0 h x := Safe.exa W.warm.alike E h1 h2
theorem Wk.more {cells' slots' : Nat} (W : Wk p l e R s m args below meth c Z EL own n0 vm0 T h cells slots) (h1 : cells ≤ cells') (h2 : slots ≤ slots') : Wk p l e R s m args below meth c Z EL own n0 vm0 T h cells' slots' := by
  obtain ⟨locs, r⟩ := W
  obtain ⟨k0, X, r⟩ := r
  exact ⟨locs, k0, X.more h1 h2, r⟩
theorem Wk.newO (W : Wk p l e R s m args below meth c Z EL own n0 vm0 T h cells slots) (hx : p.tables.exec = Jvm.exec) {C : String} {index n : Nat} (w : (Cond.classLink own index C).before a0 Z = true) (wi : (Cond.instantiable C n).before a0 Z = true) (wz : (Cond.initialized C).before a0 Z = true)
    (hg : g.method = m) (hd : decode c.code g.pc = .ok (.new index, 3)) (hc : cells + 1 ≤ R.cells) (hl : slots + n ≤ R.slots) :
    ∃ T' h' a, a = h.size ∧ Wk p l e R s m args below meth c Z EL own n0 vm0 T' h' (cells + 1) (slots + n) ∧ Ext h h' ∧ h.size < h'.size ∧ Exa Z h' a C ∧ (∀ {O nm d : String} {ty : FieldType}, Laid Z a0 C O nm d → parseFieldDescriptor d = some ty → Fld Z h' a O nm d (defaultValue ty)) ∧ Safe Z EL vm0 h' a ∧ (∀ x, x < h.size → Safe Z EL vm0 h x → Safe Z EL vm0 h' x) ∧ (∃ cell : Cell, h'[a]? = some cell ∧ cell.vm = .none ∧ cell.monitor = {}) ∧
      ∀ target, Steps p.tables e below (T'.setTop { g with pc := g.pc + 3, stack := .ref a :: g.stack }) target → Steps p.tables e below (T.setTop g) target := by
  obtain ⟨locs, k0, X, eT, hS, hk, hZ, hown, hC, N, O, hKK⟩ := W
  obtain ⟨T', h', X', e', E, A, D, U, st⟩ := RoadKit.newO X hx hZ hown w wi wz eT hg hd hc hl
  exact ⟨T', h', h.size, rfl, ⟨_, k0, X', e', hS, Nat.le_trans hk E.1, hZ, hown, hC.trans (CHr.ext E hC.1), N, O.ext E, hKK⟩, E, A.lt, A, D, Safe.ext E hC.1 (Safe.new (Nat.le_refl _)), fun x _ q => Safe.ext E hC.1 q, U, st⟩
theorem Wk.newP (W : Wk p l e R s m args below meth c Z EL own n0 vm0 T h cells slots) (hx : p.tables.exec = Jvm.exec) {aty : ArrayType} {ty : FieldType} (hty : newarray.typeOf aty = ty) (w : (Cond.arrayClass ty).before a0 Z = true)
    (hg : g.method = m) (hd : decode c.code g.pc = .ok (.newarray aty, 2)) {n : Int32} {rest : List Value} (hs : g.stack = .int n :: rest) (hn : ¬ n < 0) {cap : Nat} (hcap : n.toNatClampNeg ≤ cap) (hb : cap * 8 ≤ 536870912) (hc : cells + 1 ≤ R.cells) (hl : slots + cap ≤ R.slots) (NN : Nat) :
    ∃ T' h' a k, a = h.size ∧ Wk p l e R s m args below meth c Z EL own n0 vm0 T' h' (cells + 1) (slots + cap) ∧ Ext h h' ∧ h.size < h'.size ∧ Arv Z h' a k ty n (List.replicate NN (defaultValue ty)) (defaultValue ty) ∧ Safe Z EL vm0 h' a ∧ (∀ x, x < h.size → Safe Z EL vm0 h x → Safe Z EL vm0 h' x) ∧
      ∀ target, Steps p.tables e below (T'.setTop { g with pc := g.pc + 2, stack := .ref a :: rest }) target → Steps p.tables e below (T.setTop g) target := by
  subst hty
  obtain ⟨locs, k0, X, eT, hS, hk, hZ, hown, hC, N, O, hKK⟩ := W
  obtain ⟨T', h', cA, X', e', E, A, st⟩ := RoadKit.newP X hx hZ w eT hg hd hs hn hcap hb hc hl
  exact ⟨T', h', h.size, cA, rfl, ⟨_, k0, X', e', hS, Nat.le_trans hk E.1, hZ, hown, hC.trans (CHr.ext E hC.1), N, O.ext E, hKK⟩, E, A.lt, (Arv.new A hn).pad (pad_rep [] _ NN), Safe.ext E hC.1 (Safe.new (Nat.le_refl _)), fun x _ q => Safe.ext E hC.1 q, st⟩
theorem Wk.stC (W : Wk p l e R s m args below meth c Z EL own n0 vm0 T h cells slots) (hx : p.tables.exec = Jvm.exec) {a : Addr} {k : ClassId} {z j : Int32} {x : Int32} {vs : List Value} {d : Value} (A : Arv Z h a k .char z vs d) (hj : ¬ j < 0 ∧ j < z) (i : Nat) (hi : j.toNatClampNeg = i) (hlen : i < vs.length) (ha : n0 ≤ a)
    (hg : g.method = m) {rest : List Value} (hs : g.stack = .int x :: .int j :: .ref a :: rest) (hd : decode c.code g.pc = .ok (.castore, 1)) :
    ∃ T' h', Wk p l e R s m args below meth c Z EL own n0 vm0 T' h' cells slots ∧ Wr h h' a i (.int (nar .char x)) ∧ h'.size = h.size ∧ Arv Z h' a k .char z (vs.set i (.int (nar .char x))) d ∧ (∀ x, x < h.size → Safe Z EL vm0 h x → Safe Z EL vm0 h' x) ∧
      ∀ target, Steps p.tables e below (T'.setTop { g with pc := g.pc + 1, stack := rest }) target → Steps p.tables e below (T.setTop g) target := by
  have S := W.safeArv A (by decide)
  obtain ⟨locs, k0, X, eT, hS, hk, hZ, hown, hC, N, O, hKK⟩ := W
  obtain ⟨cl, A1, q1, q2, q3, q4, q5⟩ := A
  obtain ⟨T', h', X', e', Wr', st⟩ := RoadKit.stC X hx hZ eT A1 (inb_of q2 hj) hg hs hd
  have Wr2 := Wr'
  rw [hi] at Wr2
  exact ⟨T', h', ⟨_, k0, X', e', hS, (by rw [Wr'.size]; exact hk), hZ, hown, hC.trans (CHr.wr Wr' S hC.1), Fr.snoc X' N ha, O.wr Wr' ha, hKK⟩, Wr2, Wr'.size, Arv.set A1 q1 q2 q3 q4 q5 (fits_nar_char _) Wr' i hi hlen, fun x _ q => Safe.wr Wr' S hC.1 q, st⟩
theorem Wk.stB (W : Wk p l e R s m args below meth c Z EL own n0 vm0 T h cells slots) (hx : p.tables.exec = Jvm.exec) {a : Addr} {k : ClassId} {z j : Int32} {x : Int32} {vs : List Value} {d : Value} (A : Arv Z h a k .byte z vs d) (S : Safe Z EL vm0 h a) (hj : ¬ j < 0 ∧ j < z) (i : Nat) (hi : j.toNatClampNeg = i) (hlen : i < vs.length) (ha : n0 ≤ a)
    (hg : g.method = m) {rest : List Value} (hs : g.stack = .int x :: .int j :: .ref a :: rest) (hd : decode c.code g.pc = .ok (.bastore, 1)) :
    ∃ T' h', Wk p l e R s m args below meth c Z EL own n0 vm0 T' h' cells slots ∧ Wr h h' a i (.int (nar .byte x)) ∧ h'.size = h.size ∧ Arv Z h' a k .byte z (vs.set i (.int (nar .byte x))) d ∧ (∀ x, x < h.size → Safe Z EL vm0 h x → Safe Z EL vm0 h' x) ∧
      ∀ target, Steps p.tables e below (T'.setTop { g with pc := g.pc + 1, stack := rest }) target → Steps p.tables e below (T.setTop g) target := by
  obtain ⟨locs, k0, X, eT, hS, hk, hZ, hown, hC, N, O, hKK⟩ := W
  obtain ⟨cl, A1, q1, q2, q3, q4, q5⟩ := A
  obtain ⟨T', h', X', e', Wr', st⟩ := RoadKit.stB X hx hZ eT A1 (inb_of q2 hj) hg hs hd
  have Wr2 := Wr'
  rw [hi] at Wr2
  exact ⟨T', h', ⟨_, k0, X', e', hS, (by rw [Wr'.size]; exact hk), hZ, hown, hC.trans (CHr.wr Wr' S hC.1), Fr.snoc X' N ha, O.wr Wr' ha, hKK⟩, Wr2, Wr'.size, Arv.set A1 q1 q2 q3 q4 q5 (fits_nar_byte _) Wr' i hi hlen, fun x _ q => Safe.wr Wr' S hC.1 q, st⟩
theorem Wk.stI (W : Wk p l e R s m args below meth c Z EL own n0 vm0 T h cells slots) (hx : p.tables.exec = Jvm.exec) {a : Addr} {k : ClassId} {z j : Int32} {x : Int32} {vs : List Value} {d : Value} (A : Arv Z h a k .int z vs d) (hj : ¬ j < 0 ∧ j < z) (i : Nat) (hi : j.toNatClampNeg = i) (hlen : i < vs.length) (ha : n0 ≤ a)
    (hg : g.method = m) {rest : List Value} (hs : g.stack = .int x :: .int j :: .ref a :: rest) (hd : decode c.code g.pc = .ok (.iastore, 1)) :
    ∃ T' h', Wk p l e R s m args below meth c Z EL own n0 vm0 T' h' cells slots ∧ Wr h h' a i (.int x) ∧ h'.size = h.size ∧ Arv Z h' a k .int z (vs.set i (.int x)) d ∧ (∀ x, x < h.size → Safe Z EL vm0 h x → Safe Z EL vm0 h' x) ∧
      ∀ target, Steps p.tables e below (T'.setTop { g with pc := g.pc + 1, stack := rest }) target → Steps p.tables e below (T.setTop g) target := by
  have S := W.safeArv A (by decide)
  obtain ⟨locs, k0, X, eT, hS, hk, hZ, hown, hC, N, O, hKK⟩ := W
  obtain ⟨cl, A1, q1, q2, q3, q4, q5⟩ := A
  obtain ⟨T', h', X', e', Wr', st⟩ := RoadKit.stI X hx hZ eT A1 (inb_of q2 hj) hg hs hd
  have Wr2 := Wr'
  rw [hi] at Wr2
  exact ⟨T', h', ⟨_, k0, X', e', hS, (by rw [Wr'.size]; exact hk), hZ, hown, hC.trans (CHr.wr Wr' S hC.1), Fr.snoc X' N ha, O.wr Wr' ha, hKK⟩, Wr2, Wr'.size, Arv.set A1 q1 q2 q3 q4 q5 rfl Wr' i hi hlen, fun x _ q => Safe.wr Wr' S hC.1 q, st⟩
theorem Wk.stJ (W : Wk p l e R s m args below meth c Z EL own n0 vm0 T h cells slots) (hx : p.tables.exec = Jvm.exec) {a : Addr} {k : ClassId} {z j : Int32} {x : Int64} {vs : List Value} {d : Value} (A : Arv Z h a k .long z vs d) (hj : ¬ j < 0 ∧ j < z) (i : Nat) (hi : j.toNatClampNeg = i) (hlen : i < vs.length) (ha : n0 ≤ a)
    (hg : g.method = m) {rest : List Value} (hs : g.stack = .long x :: .int j :: .ref a :: rest) (hd : decode c.code g.pc = .ok (.lastore, 1)) :
    ∃ T' h', Wk p l e R s m args below meth c Z EL own n0 vm0 T' h' cells slots ∧ Wr h h' a i (.long x) ∧ h'.size = h.size ∧ Arv Z h' a k .long z (vs.set i (.long x)) d ∧ (∀ x, x < h.size → Safe Z EL vm0 h x → Safe Z EL vm0 h' x) ∧
      ∀ target, Steps p.tables e below (T'.setTop { g with pc := g.pc + 1, stack := rest }) target → Steps p.tables e below (T.setTop g) target := by
  have S := W.safeArv A (by decide)
  obtain ⟨locs, k0, X, eT, hS, hk, hZ, hown, hC, N, O, hKK⟩ := W
  obtain ⟨cl, A1, q1, q2, q3, q4, q5⟩ := A
  obtain ⟨T', h', X', e', Wr', st⟩ := RoadKit.stJ X hx hZ eT A1 (inb_of q2 hj) hg hs hd
  have Wr2 := Wr'
  rw [hi] at Wr2
  exact ⟨T', h', ⟨_, k0, X', e', hS, (by rw [Wr'.size]; exact hk), hZ, hown, hC.trans (CHr.wr Wr' S hC.1), Fr.snoc X' N ha, O.wr Wr' ha, hKK⟩, Wr2, Wr'.size, Arv.set A1 q1 q2 q3 q4 q5 rfl Wr' i hi hlen, fun x _ q => Safe.wr Wr' S hC.1 q, st⟩
theorem Wk.putF (W : Wk p l e R s m args below meth c Z EL own n0 vm0 T h cells slots) (hx : p.tables.exec = Jvm.exec) {R0 O n d C : String} {index kk : Nat} {ty : FieldType} (w : (Cond.fieldLink own index R0 n d).before a0 Z = true) (via : Via Z R0 O n d)
    {a : Addr} {v old : Value} (F : Fld Z h a O n d old) (E : Exa Z h a C) (L : (Cond.lays C O n d).before a0 Z = true ∨ ((Cond.laysFinal C O n d).before a0 Z = true ∧ own = O ∧ meth.name = "<init>")) (wi : (Cond.instantiable C kk).before a0 Z = true)
    (hty : parseFieldDescriptor d = some ty) (hn : narrow ty v = v) (hf : fits ty v = true) (S : Safe Z EL vm0 h a) (ha : n0 ≤ a) (hg : g.method = m) {rest : List Value} (hs : g.stack = v :: .ref a :: rest) (hd : decode c.code g.pc = .ok (.putfield index, 3)) :
    ∃ T' h', Wk p l e R s m args below meth c Z EL own n0 vm0 T' h' cells slots ∧ Wr h h' a (RoadKit.slotOf Z O n d) v ∧ h'.size = h.size ∧ Fld Z h' a O n d v ∧ (∀ x, x < h.size → Safe Z EL vm0 h x → Safe Z EL vm0 h' x) ∧
      ∀ target, Steps p.tables e below (T'.setTop { g with pc := g.pc + 3, stack := rest }) target → Steps p.tables e below (T.setTop g) target := by
  obtain ⟨locs, k0, X, eT, hS, hk, hZ, hown, hC, N, O', hKK⟩ := W
  obtain ⟨T', h', X', e', Wr', st⟩ := RoadKit.putF X hx hZ hown (host := "") (Or.inl w) via eT F E L wi hty hn hf hg hs hd
  exact ⟨T', h', ⟨_, k0, X', e', hS, (by rw [Wr'.size]; exact hk), hZ, hown, hC.trans (CHr.wr Wr' S hC.1), Fr.snoc X' N ha, O'.wr Wr' ha, hKK⟩, Wr', Wr'.size, F.same Wr', fun x _ q => Safe.wr Wr' S hC.1 q, st⟩
theorem Wk.getF (W : Wk p l e R s m args below meth c Z EL own n0 vm0 T h cells slots) (hx : p.tables.exec = Jvm.exec) {R0 O n d : String} {index : Nat} (w : (Cond.fieldLink own index R0 n d).before a0 Z = true) (via : Via Z R0 O n d) {a : Addr} {v : Value} (F : Fld Z h a O n d v) (hg : g.method = m) {rest : List Value} (hs : g.stack = .ref a :: rest) (hd : decode c.code g.pc = .ok (.getfield index, 3)) :
    ∃ T', Wk p l e R s m args below meth c Z EL own n0 vm0 T' h cells slots ∧ ∀ target, Steps p.tables e below (T'.setTop { g with pc := g.pc + 3, stack := v :: rest }) target → Steps p.tables e below (T.setTop g) target := by
  obtain ⟨locs, k0, X, eT, hS, hk, hZ, hown, hC, N, O', hKK⟩ := W
  obtain ⟨T', X', e', st⟩ := RoadKit.getF X hx hZ hown (host := "") (Or.inl w) via eT F hg hs hd
  exact ⟨T', ⟨_, k0, X', e', hS, hk, hZ, hown, hC.trans (CHr.refl hC.1), N, O', hKK⟩, st⟩
theorem Wk.getS (W : Wk p l e R s m args below meth c Z EL own n0 vm0 T h cells slots) (hx : p.tables.exec = Jvm.exec) {R0 O n d : String} {index : Nat} (w : (Cond.fieldLink own index R0 n d).before a0 Z = true) (via : Via Z R0 O n d) {v : Value} (F : Sta Z h O n d v) (hg : g.method = m) (hd : decode c.code g.pc = .ok (.getstatic index, 3)) :
    ∃ T', Wk p l e R s m args below meth c Z EL own n0 vm0 T' h cells slots ∧ ∀ target, Steps p.tables e below (T'.setTop { g with pc := g.pc + 3, stack := v :: g.stack }) target → Steps p.tables e below (T.setTop g) target := by
  obtain ⟨locs, k0, X, eT, hS, hk, hZ, hown, hC, N, O', hKK⟩ := W
  obtain ⟨T', X', e', st⟩ := RoadKit.getS (host := "") X hx hZ hown w via eT F hg hd
  exact ⟨T', ⟨_, k0, X', e', hS, hk, hZ, hown, hC.trans (CHr.refl hC.1), N, O', hKK⟩, st⟩
theorem Wk.initO (W : Wk p l e R s m args below meth c Z EL own n0 vm0 T h cells slots) (hx : p.tables.exec = Jvm.exec) {idx : Nat} (w1 : (Cond.methodLink own idx Lib.objectInit).before a0 Z = true) (w2 : (Cond.instanceMethod Lib.objectInit).before a0 Z = true) (w3 : (Cond.code Lib.objectInit ⟨#[0xb1]⟩ 1 none).before a0 Z = true) (hg : g.method = m) (hsize : g.locals.size = c.maxLocals) {a : Addr} {rest : List Value} (hs : g.stack = .ref a :: rest) (hd : decode c.code g.pc = .ok (.invokespecial idx, 3)) (hf : 1 ≤ R.frames) {Wd : Nat} (hW : 2 * g.monitorRoom + (rest.map fun v => v.category).sum ≤ Wd) (hl : Wd + 12 ≤ R.locals) :
    ∃ T', Wk p l e R s m args below meth c Z EL own n0 vm0 T' h cells slots ∧ ∀ target, Steps p.tables e below (T'.setTop { g with pc := g.pc + 3, stack := rest }) target → Steps p.tables e below (T.setTop g) target := by
  obtain ⟨locs, k0, X, eT, hS, hk, hZ, hown, hC, N, O', hKK⟩ := W
  obtain ⟨T', X', e', st⟩ := RoadKit.initO X hx hZ hown w1 w2 w3 eT hg hsize hs hd hf hW hl
  exact ⟨T', ⟨_, k0, X', e', hS, hk, hZ, hown, hC.trans (CHr.refl hC.1), N, O', hKK⟩, st⟩
theorem Wk.cast (W : Wk p l e R s m args below meth c Z EL own n0 vm0 T h cells slots) (hx : p.tables.exec = Jvm.exec) {K : String} {index : Nat} (w : (Cond.classLink own index K).before a0 Z = true) {a : Addr} (F : Ins Z h a K true) (hg : g.method = m) {rest : List Value} (hs : g.stack = .ref a :: rest) (hd : decode c.code g.pc = .ok (.checkcast index, 3)) :
    ∃ T', Wk p l e R s m args below meth c Z EL own n0 vm0 T' h cells slots ∧ ∀ target, Steps p.tables e below (T'.setTop { g with pc := g.pc + 3 }) target → Steps p.tables e below (T.setTop g) target := by
  obtain ⟨locs, k0, X, eT, hS, hk, hZ, hown, hC, N, O', hKK⟩ := W
  obtain ⟨T', X', e', st⟩ := RoadKit.castY X hx hZ hown w eT F hg hs hd
  exact ⟨T', ⟨_, k0, X', e', hS, hk, hZ, hown, hC.trans (CHr.refl hC.1), N, O', hKK⟩, st⟩
theorem Wk.instY (W : Wk p l e R s m args below meth c Z EL own n0 vm0 T h cells slots) (hx : p.tables.exec = Jvm.exec) {K : String} {index : Nat} (w : (Cond.classLink own index K).before a0 Z = true) {a : Addr} (F : Ins Z h a K true) (hg : g.method = m) {rest : List Value} (hs : g.stack = .ref a :: rest) (hd : decode c.code g.pc = .ok (.instanceof index, 3)) :
    ∃ T', Wk p l e R s m args below meth c Z EL own n0 vm0 T' h cells slots ∧ ∀ target, Steps p.tables e below (T'.setTop { g with pc := g.pc + 3, stack := .int 1 :: rest }) target → Steps p.tables e below (T.setTop g) target := by
  obtain ⟨locs, k0, X, eT, hS, hk, hZ, hown, hC, N, O', hKK⟩ := W
  obtain ⟨T', X', e', st⟩ := RoadKit.instY X hx hZ hown w eT F hg hs hd
  exact ⟨T', ⟨_, k0, X', e', hS, hk, hZ, hown, hC.trans (CHr.refl hC.1), N, O', hKK⟩, st⟩
/-- ldc of a String constant of EL, read -/
theorem Wk.ldc (W : Wk p l e R s m args below meth c Z EL own n0 vm0 T h cells slots) (hx : p.tables.exec = Jvm.exec) {index : Nat} {text : String} (w : (Cond.stringLink own index text).before a0 Z = true) (wS : ∀ a ∈ Bundle.stringAtoms, a.before a0 Z = true) (hEL : EW Z a0 EL) (hmem : (own, index) ∈ EL)
    {vs : List Value} {z : Int32} (ht : (∀ c ∈ text.toList, c.toNat < 256) ∧ text.toList.map (fun c => Value.int (Jvm.Lit.byteI c.toNat.toUInt16)) = vs) (hz : ¬ z < 0) (hl : z.toNatClampNeg = vs.length)
    (hg : g.method = m) (hd : decode c.code g.pc = .ok (.ldc index, 2)) {n : Nat} (hn : 4 * text.toList.length ≤ n) (hbig : n ≤ 536870912) (hc : cells + 2 ≤ R.cells) (hl' : slots + (n + 4) ≤ R.slots) :
    ∃ (a : Addr) (vm1 : Vm) (T' : State) (h' : Heap) (b : Addr) (k : ClassId), Wk p l e R s m args below meth c Z EL own n0 vm1 T' h' (cells + 2) (slots + (n + 4)) ∧ Ext h h' ∧
      Exa Z h' a "java/lang/String" ∧ Fld Z h' a "java/lang/String" "coder" "B" (.int 0) ∧ Fld Z h' a "java/lang/String" "value" "[B" (.ref b) ∧ Arv Z h' b k .byte z vs (.int 0) ∧ (∀ x, x < h.size → Safe Z EL vm0 h x → Safe Z EL vm1 h' x) ∧ (∀ x, Safe Z EL vm1 h' x → x ≠ a ∧ x ≠ b) ∧
      ∀ target, Steps p.tables e below (T'.setTop { g with pc := g.pc + 2, stack := .ref a :: g.stack }) target → Steps p.tables e below (T.setTop g) target := by
  obtain ⟨locs, k0, X, eT, hS, hk, hZ, hown, hC, N, O, hKK⟩ := W
  obtain ⟨a, T', h', k1, b, k, X', e', E, hS', hk', hZ', hown', E1, F1, F2, A1, -, -, hR, -, hne, st⟩ := RoadKit.ldcCH X hx hZ hown w wS eT hS hk hEL hmem hC.1 ht hz hl hg hd hn hbig hc hl'
  exact ⟨a, T'.vm, T', h', b, k, ⟨locs, k1, X', e', hS', hk', hZ', hown', hC.trans hR, N, O.ext E, trivial⟩, E, E1, F1, F2, A1, fun x q r => hR.safe q r, hne, st⟩
/-- ldc of a String constant, not read -/
theorem Wk.ldcO (W : Wk p l e R s m args below meth c Z EL own n0 vm0 T h cells slots) (hx : p.tables.exec = Jvm.exec) {index : Nat} {text : String} (w : (Cond.stringLink own index text).before a0 Z = true) (wS : ∀ a ∈ Bundle.stringAtoms, a.before a0 Z = true) (hEL : EW Z a0 EL)
    (hg : g.method = m) (hd : decode c.code g.pc = .ok (.ldc index, 2)) {n : Nat} (hn : 4 * text.toList.length ≤ n) (hbig : n ≤ 536870912) (hc : cells + 2 ≤ R.cells) (hl' : slots + (n + 4) ≤ R.slots) :
    ∃ (a : Addr) (vm1 : Vm) (T' : State) (h' : Heap), Wk p l e R s m args below meth c Z EL own n0 vm1 T' h' (cells + 2) (slots + (n + 4)) ∧ Ext h h' ∧ (∀ x, x < h.size → Safe Z EL vm0 h x → Safe Z EL vm1 h' x) ∧
      ∀ target, Steps p.tables e below (T'.setTop { g with pc := g.pc + 2, stack := .ref a :: g.stack }) target → Steps p.tables e below (T.setTop g) target := by
  obtain ⟨locs, k0, X, eT, hS, hk, hZ, hown, hC, N, O, hKK⟩ := W
  obtain ⟨a, T', h', k1, X', e', E, hS', hk', hZ', hown', hR, -, st⟩ := RoadKit.ldcOH X hx hZ hown w wS eT hS hk hEL hC.1 hg hd hn hbig hc hl'
  exact ⟨a, T'.vm, T', h', ⟨locs, k1, X', e', hS', hk', hZ', hown', hC.trans hR, N, O.ext E, trivial⟩, E, fun x q r => hR.safe q r, st⟩
/-- the contract of a callee -/
def Met (l : Launch) (y : MethodName) (bytes : ByteArray) (maxL : Nat) (ret : Option FieldType) (rm : Room) (Z : State) (EL : List (String × Nat)) (n0 : Nat) (ws : List Jvm.Cond) (as' : Array Value) (h : Heap) (Q : Option Value → Heap → Prop) : Prop :=
  MetFree l y (head1 (Jvm.Cond.code y bytes maxL ret :: ws) rm) (fun a U => a = as' ∧ Z.Warmed39 U.vm ∧ U.heap = h ∧ CHv Z EL U.vm h) (fun _ _ _ _ _ => True) (fun _ U o U' => ∃ v L, o = .returned v ∧ (Q v U'.heap ∧ Fr n0 L ∧ Old Z n0 U'.heap) ∧ CHr Z EL U.vm U.heap U'.vm U'.heap ∧ ReturnedEndW U o U' L rm.cells rm.slots)
/-- the end that a contract asks, as the walk's goal has it -/
def Fin (s : State) (rm : Room) (Z : State) (EL : List (String × Nat)) (n0 : Nat) (Q : Option Value → Heap → Prop) (o : Outcome) (u : State) : Prop := ∃ v L, o = .returned v ∧ (Q v u.heap ∧ Fr n0 L ∧ Old Z n0 u.heap) ∧ CHr Z EL s.vm s.heap u.vm u.heap ∧ ReturnedEndW s o u L rm.cells rm.slots
theorem Met.of {y : MethodName} {bytes : ByteArray} {maxL : Nat} {ret : Option FieldType} {rm : Room} {ws : List Jvm.Cond} {as' : Array Value} {Qb : Option Value → Heap → Prop} (hpl : plainFor y = true) (O : Old Z n0 h)
    (body : ∀ (p : Program) (e : Env) (s : State) (m : MethodId) (below : List Frame) (meth : Method) (c : Code) (T : State), p.tables.exec = Jvm.exec → c.code = bytes → c.maxLocals = maxL → meth.sig.returnType = ret → meth.locks = false → meth.name = y.name → s.heap = h →
      Wk p l e rm s m as' below meth c Z EL y.cls n0 s.vm T h 0 0 → Go p e below (Fin s rm Z EL n0 Qb) T (entryFrame m as' maxL)) :
    Met l y bytes maxL ret rm Z EL n0 ws as' h Qb := by
  refine MetFree.of_bodySF hpl hisR ?_
  intro p e s m args below meth c s₁ Bd hml hP hK
  obtain ⟨rfl, hZ, hh, hC⟩ := hP
  have hown : s.vm.findClass y.cls = some m.cls := findClass_of_methodNamed Bd.named
  have X0 : Stand p l e rm s m args below meth c s₁ [] 0 0 := Stand.of_body Bd
  have e0 : s₁.heap = h := by rw [← hh, Bd.state]; rfl
  refine body p e s m below meth c s₁ Bd.exec Bd.bytes hml Bd.returns Bd.notSynchronized (name_of_methodNamed Bd.named Bd.method).1 hh ?_
  refine ⟨[], 0, X0, e0, (State.WarmedH.refl s).since 0, Nat.zero_le _, hZ, hown, ?_, Fr.nil _, O, trivial⟩
  rw [hh]; exact CHr.refl hC
/-- the end of a walk -/
theorem Wk.fin {rm : Room} {Qb : Option Value → Heap → Prop} (W : Wk p l e R s m args below meth c Z EL own n0 vm0 T h cells slots) (hEL : EW Z a0 EL) (hlk : meth.locks = false) {v : Option Value} (hv : meth.sig.returnType = none → v = none) (hc : cells ≤ rm.cells) (hs : slots ≤ rm.slots) (hq : Qb v h)
    (st : ∀ fs, (∀ (f : JFrame) (acts : List Action), f.method = m → f.locked = none → f.entered = [] → (doReturn e (T.setTop f) acts v).1 = T.setFrames fs) → Steps p.tables e below (T.setTop g) (T.setFrames fs)) : Go p e below (Fin s rm Z EL n0 Qb) T g := by
  obtain ⟨locs, k0, X, eT, hS, hk, hZ, hown, hC, N, O, hKK⟩ := W
  subst eT
  obtain ⟨fs, hr, hrun, hended, hend⟩ := Stand.leaveW X hS hk (v := v) hv hlk
  have hA := CHv.at X hZ hEL hC.1
  refine ⟨T.setFrames fs, .returned v, st fs hr, hrun, hended, v, locs, rfl, ⟨hq, N, O⟩, hC.trans hA, ?_⟩
  obtain ⟨q1, q2, q3, q4⟩ := hend
  exact ⟨q1, q2, q3, q4.mono hc hs⟩
theorem Wk.retN {rm : Room} {Qb : Option Value → Heap → Prop} (W : Wk p l e R s m args below meth c Z EL own n0 vm0 T h cells slots) (hx : p.tables.exec = Jvm.exec) (hEL : EW Z a0 EL) (hlk : meth.locks = false) {pc : Nat} {Ls : Array Slot} {z : Int32} {t : FieldType} {rest : List Value} (hret : meth.sig.returnType = some t) (ht : t = .boolean ∨ t = .byte ∨ t = .char ∨ t = .short)
    (hd : decode c.code pc = .ok (.ireturn, 1)) (hc : cells ≤ rm.cells) (hs : slots ≤ rm.slots) (hq : Qb (some (.int (nar t z))) h) : Go p e below (Fin s rm Z EL n0 Qb) T (mkF m pc Ls (.int z :: rest)) := by
  obtain ⟨locs, X⟩ := W.stand
  exact W.fin hEL hlk (v := some (.int (nar t z))) (fun q => by first | rfl | (rw [hret] at q; cases q)) hc hs hq fun fs hr => RoadKit.retN X hx hret ht hd hr
theorem Wk.retI {rm : Room} {Qb : Option Value → Heap → Prop} (W : Wk p l e R s m args below meth c Z EL own n0 vm0 T h cells slots) (hx : p.tables.exec = Jvm.exec) (hEL : EW Z a0 EL) (hlk : meth.locks = false) {pc : Nat} {Ls : Array Slot} {z : Int32} {rest : List Value} (hret : meth.sig.returnType = some .int)
    (hd : decode c.code pc = .ok (.ireturn, 1)) (hc : cells ≤ rm.cells) (hs : slots ≤ rm.slots) (hq : Qb (some (.int z)) h) : Go p e below (Fin s rm Z EL n0 Qb) T (mkF m pc Ls (.int z :: rest)) := by
  obtain ⟨locs, X⟩ := W.stand
  exact W.fin hEL hlk (v := some (.int z)) (fun q => by first | rfl | (rw [hret] at q; cases q)) hc hs hq fun fs hr => RoadKit.retOut X hx hret rfl (Or.inl ⟨rfl, Or.inl rfl, _, rfl⟩) hd hr
theorem Wk.retJ {rm : Room} {Qb : Option Value → Heap → Prop} (W : Wk p l e R s m args below meth c Z EL own n0 vm0 T h cells slots) (hx : p.tables.exec = Jvm.exec) (hEL : EW Z a0 EL) (hlk : meth.locks = false) {pc : Nat} {Ls : Array Slot} {z : Int64} {rest : List Value} (hret : meth.sig.returnType = some .long)
    (hd : decode c.code pc = .ok (.lreturn, 1)) (hc : cells ≤ rm.cells) (hs : slots ≤ rm.slots) (hq : Qb (some (.long z)) h) : Go p e below (Fin s rm Z EL n0 Qb) T (mkF m pc Ls (.long z :: rest)) := by
  obtain ⟨locs, X⟩ := W.stand
  exact W.fin hEL hlk (v := some (.long z)) (fun q => by first | rfl | (rw [hret] at q; cases q)) hc hs hq fun fs hr => RoadKit.retOut X hx hret rfl (Or.inr (Or.inl ⟨rfl, rfl, _, rfl⟩)) hd hr
theorem Wk.retD {rm : Room} {Qb : Option Value → Heap → Prop} (W : Wk p l e R s m args below meth c Z EL own n0 vm0 T h cells slots) (hx : p.tables.exec = Jvm.exec) (hEL : EW Z a0 EL) (hlk : meth.locks = false) {pc : Nat} {Ls : Array Slot} {z : UInt64} {rest : List Value} (hret : meth.sig.returnType = some .double)
    (hd : decode c.code pc = .ok (.dreturn, 1)) (hc : cells ≤ rm.cells) (hs : slots ≤ rm.slots) (hq : Qb (some (.double z)) h) : Go p e below (Fin s rm Z EL n0 Qb) T (mkF m pc Ls (.double z :: rest)) := by
  obtain ⟨locs, X⟩ := W.stand
  exact W.fin hEL hlk (v := some (.double z)) (fun q => by first | rfl | (rw [hret] at q; cases q)) hc hs hq fun fs hr => RoadKit.retOut X hx hret rfl (Or.inr (Or.inr (Or.inl ⟨rfl, rfl, _, rfl⟩))) hd hr
theorem Wk.retA {rm : Room} {Qb : Option Value → Heap → Prop} (W : Wk p l e R s m args below meth c Z EL own n0 vm0 T h cells slots) (hx : p.tables.exec = Jvm.exec) (hEL : EW Z a0 EL) (hlk : meth.locks = false) {pc : Nat} {Ls : Array Slot} {v : Value} {t : FieldType} {rest : List Value} (hret : meth.sig.returnType = some t) (ht : t.isReference = true) (hn : narrow t v = v) (hv : v.isRef = true)
    (hd : decode c.code pc = .ok (.areturn, 1)) (hc : cells ≤ rm.cells) (hs : slots ≤ rm.slots) (hq : Qb (some v) h) : Go p e below (Fin s rm Z EL n0 Qb) T (mkF m pc Ls (v :: rest)) := by
  obtain ⟨locs, X⟩ := W.stand
  exact W.fin hEL hlk (v := some v) (fun q => by first | rfl | (rw [hret] at q; cases q)) hc hs hq fun fs hr => RoadKit.retOut X hx hret hn (Or.inr (Or.inr (Or.inr (Or.inr ⟨rfl, ht, hv⟩)))) hd hr
theorem Wk.retV {rm : Room} {Qb : Option Value → Heap → Prop} (W : Wk p l e R s m args below meth c Z EL own n0 vm0 T h cells slots) (hx : p.tables.exec = Jvm.exec) (hEL : EW Z a0 EL) (hlk : meth.locks = false) {pc : Nat} {Ls : Array Slot} (hret : meth.sig.returnType = none)
    (hd : decode c.code pc = .ok (.return_, 1)) (hc : cells ≤ rm.cells) (hs : slots ≤ rm.slots) (hq : Qb (none) h) : Go p e below (Fin s rm Z EL n0 Qb) T (mkF m pc Ls []) := by
  obtain ⟨locs, X⟩ := W.stand
  exact W.fin hEL hlk (v := none) (fun q => by first | rfl | (rw [hret] at q; cases q)) hc hs hq fun fs hr => X.returnOut hx hret hd hr
theorem Wk.back {y : MethodName} {rm : Room} {as' : Array Value} {Qb : Option Value → Heap → Prop} {bytes : ByteArray} {maxL : Nat} {ret : Option FieldType} {len Wd : Nat} (W : Wk p l e R s m args below meth c Z EL own n0 vm0 T h cells slots) (hEL : EW Z a0 EL) (hM : Met l y bytes maxL ret rm Z EL n0 [] as' h Qb)
    (wc : (Cond.code y bytes maxL ret).before a0 Z = true) (wz : (Cond.initialized y.cls).before a0 Z = true) (hf : rm.frames + 1 ≤ R.frames) (hl : Wd + (maxL + 11) + rm.locals ≤ R.locals) :
    BackS l R p e below (s.setVm vm0) args y len Wd (fun A a => a = as' ∧ A.U.heap = h ∧ A.cells + rm.cells ≤ R.cells ∧ A.slots + rm.slots ≤ R.slots)
      (fun A _ v B => ∃ L, (Qb v B.U.heap ∧ Fr n0 L ∧ Old Z n0 B.U.heap) ∧ B.locs = A.locs ++ L ∧ B.cells = A.cells + rm.cells ∧ B.slots = A.slots + rm.slots ∧ CHr Z EL vm0 h B.U.vm B.U.heap) :=
  backOfSH (Q := fun v h' L => Qb v h' ∧ Fr n0 L ∧ Old Z n0 h') hM W.warm wc wz hf hl hEL W.chv
theorem Wk.behind {B : Pt} {rm : Room} {Qb : Option Value → Heap → Prop} {v : Option Value} {locs L : List Loc} {k0 : Nat} (hS : s.Since vm0 k0) (hk : k0 ≤ h.size) (hZ : Z.Warmed39 vm0) (hown : vm0.findClass own = some m.cls) (hC : CHr Z EL s.vm s.heap vm0 h) (N : Fr n0 locs) (eT : T.heap = h) (hKK : True)
    (X : Stand p l e R ((s.setVm vm0).setVm B.U.vm) m args below meth c B.U B.locs B.cells B.slots) (h2 : (s.setVm vm0).Since B.U.vm B.U.heap.size) (hg : T.heap.size ≤ B.U.heap.size)
    (hq : Qb v B.U.heap ∧ Fr n0 L ∧ Old Z n0 B.U.heap) (hl : B.locs = locs ++ L) (hc : B.cells = cells + rm.cells) (hs : B.slots = slots + rm.slots) (hR : CHr Z EL vm0 h B.U.vm B.U.heap) :
    Wk p l e R s m args below meth c Z EL own n0 B.U.vm B.U B.U.heap (cells + rm.cells) (slots + rm.slots) := by
  subst eT
  obtain ⟨X', hS', hZ', hown'⟩ := rebS hS hk X h2 hg hZ hown
  exact ⟨B.locs, _, hc ▸ hs ▸ X', rfl, hS', Nat.le_refl _, hZ', hown', hC.trans hR, hl ▸ N.app hq.2.1, hq.2.2, trivial⟩
theorem Wk.callS {y : MethodName} {rm : Room} {as' : Array Value} {Qb : Option Value → Heap → Prop} {bytes : ByteArray} {maxL index : Nat} {ret : Option FieldType} (W : Wk p l e R s m args below meth c Z EL own n0 vm0 T h cells slots) (hx : p.tables.exec = Jvm.exec) (hEL : EW Z a0 EL) (hM : Met l y bytes maxL ret rm Z EL n0 [] as' h Qb)
    (w1 : (Cond.methodLink own index y).before a0 Z = true) (w2 : (Cond.static y).before a0 Z = true) (wz : (Cond.initialized y.cls).before a0 Z = true) (wc : (Cond.code y bytes maxL ret).before a0 Z = true) (hy : y.cls ≠ "java/lang/invoke/MethodHandle" ∧ y.cls ≠ "java/lang/invoke/VarHandle")
    {Wd : Nat} (hf : rm.frames + 1 ≤ R.frames) (hl : Wd + (maxL + 11) + rm.locals ≤ R.locals) (hc : cells + rm.cells ≤ R.cells) (hs : slots + rm.slots ≤ R.slots)
    (hg : g.method = m) (hsize : g.locals.size = c.maxLocals) {argsL rest : List Value} (has : argsL.toArray = as') (hlen : ∀ sig, parseMethodDescriptor y.desc = some sig → argsL.length = sig.parameters.length) (hstack : g.stack = argsL.reverse ++ rest) (hW : 2 * g.monitorRoom + (rest.map fun v => v.category).sum ≤ Wd) (hdg : decode c.code g.pc = .ok (.invokestatic index, 3)) :
    ∃ (v : Option Value) (vm1 : Vm) (T' : State) (h' : Heap), Wk p l e R s m args below meth c Z EL own n0 vm1 T' h' (cells + rm.cells) (slots + rm.slots) ∧ Qb v h' ∧ h.size ≤ h'.size ∧ (∀ x, x < h.size → Safe Z EL vm0 h x → Safe Z EL vm1 h' x) ∧
      Steps p.tables e below (T.setTop g) (T'.setTop { g with pc := g.pc + 3, stack := v.toList ++ rest }) := by
  have hB := W.back (len := 3) (Wd := Wd) hEL hM wc wz hf hl
  obtain ⟨locs, k0, X, eT, hS, hk, hZ, hown, hC, N, O, hKK⟩ := W
  have hZ' : Z.Warmed39 (s.setVm vm0).vm := hZ
  obtain ⟨v, vm1, B, -, X', h2, hgr, ⟨L, hq, q1, q2, q3, q4⟩, st⟩ := RoadKit.callSS X hx hown (mvT hZ' w1) (mvT hZ' w2) (mvT hZ' wz) (mvT hZ' wc) hy hB hg hsize hlen hstack hW hdg (fun _ _ => ⟨has, eT, hc, hs⟩)
  exact ⟨v, B.U.vm, B.U, B.U.heap, Wk.behind hS hk hZ hown hC N eT hKK X' h2 hgr hq q1 q2 q3 q4, hq.1, q4.2.1, fun x q r => q4.safe q r, st⟩
theorem Wk.callI {y : MethodName} {rm : Room} {as' : Array Value} {Qb : Option Value → Heap → Prop} {bytes : ByteArray} {maxL index : Nat} (W : Wk p l e R s m args below meth c Z EL own n0 vm0 T h cells slots) (hx : p.tables.exec = Jvm.exec) (hEL : EW Z a0 EL) (hM : Met l y bytes maxL none rm Z EL n0 [] as' h Qb) (hy1 : y.name = "<init>")
    (w1 : (Cond.methodLink own index y).before a0 Z = true) (w2 : (Cond.instanceMethod y).before a0 Z = true) (wz : (Cond.initialized y.cls).before a0 Z = true) (wc : (Cond.code y bytes maxL none).before a0 Z = true) (hy : y.cls ≠ "java/lang/invoke/MethodHandle" ∧ y.cls ≠ "java/lang/invoke/VarHandle")
    {Wd : Nat} (hf : rm.frames + 1 ≤ R.frames) (hl : Wd + (maxL + 11) + rm.locals ≤ R.locals) (hc : cells + rm.cells ≤ R.cells) (hs : slots + rm.slots ≤ R.slots)
    (hg : g.method = m) (hsize : g.locals.size = c.maxLocals) {a : Addr} {argsL rest : List Value} (has : (.ref a :: argsL).toArray = as') (hlen : ∀ sig, parseMethodDescriptor y.desc = some sig → argsL.length = sig.parameters.length) (hstack : g.stack = argsL.reverse ++ .ref a :: rest) (hW : 2 * g.monitorRoom + (rest.map fun v => v.category).sum ≤ Wd) (hdg : decode c.code g.pc = .ok (.invokespecial index, 3)) :
    ∃ (v : Option Value) (vm1 : Vm) (T' : State) (h' : Heap), Wk p l e R s m args below meth c Z EL own n0 vm1 T' h' (cells + rm.cells) (slots + rm.slots) ∧ Qb v h' ∧ h.size ≤ h'.size ∧ (∀ x, x < h.size → Safe Z EL vm0 h x → Safe Z EL vm1 h' x) ∧
      Steps p.tables e below (T.setTop g) (T'.setTop { g with pc := g.pc + 3, stack := v.toList ++ rest }) := by
  have hB := W.back (len := 3) (Wd := Wd) hEL hM wc wz hf hl
  obtain ⟨locs, k0, X, eT, hS, hk, hZ, hown, hC, N, O, hKK⟩ := W
  have hZ' : Z.Warmed39 (s.setVm vm0).vm := hZ
  obtain ⟨v, vm1, B, -, X', h2, hgr, ⟨L, hq, q1, q2, q3, q4⟩, st⟩ := Stand.specialBackS X hx hy1 hown (mvT hZ' w1) (mvT hZ' w2) (mvT hZ' wc) hy hB hg hsize (Steps.refl _) hlen hstack hW hdg (fun _ _ => ⟨has, eT, hc, hs⟩)
  exact ⟨v, B.U.vm, B.U, B.U.heap, Wk.behind hS hk hZ hown hC N eT hKK X' h2 hgr hq q1 q2 q3 q4, hq.1, q4.2.1, fun x q r => q4.safe q r, st⟩
theorem Wk.callV {y : MethodName} {C : String} {rm : Room} {as' : Array Value} {Qb : Option Value → Heap → Prop} {bytes : ByteArray} {maxL index : Nat} {ret : Option FieldType} (W : Wk p l e R s m args below meth c Z EL own n0 vm0 T h cells slots) (hx : p.tables.exec = Jvm.exec) (hEL : EW Z a0 EL) (hM : Met l y bytes maxL ret rm Z EL n0 [] as' h Qb)
    (w1 : (Cond.methodLink own index y).before a0 Z = true) (w2 : (Cond.declares y).before a0 Z = true) (w3 : (Cond.selects C y y).before a0 Z = true) (w4 : (Cond.instanceMethod y).before a0 Z = true) (wz : (Cond.initialized y.cls).before a0 Z = true) (wc : (Cond.code y bytes maxL ret).before a0 Z = true) (hy : y.cls ≠ "java/lang/invoke/MethodHandle" ∧ y.cls ≠ "java/lang/invoke/VarHandle")
    {Wd : Nat} (hf : rm.frames + 1 ≤ R.frames) (hl : Wd + (maxL + 11) + rm.locals ≤ R.locals) (hc : cells + rm.cells ≤ R.cells) (hs : slots + rm.slots ≤ R.slots)
    (hg : g.method = m) (hsize : g.locals.size = c.maxLocals) {a : Addr} (E : Exa Z h a C) {argsL rest : List Value} (has : (.ref a :: argsL).toArray = as') (hlen : ∀ sig, parseMethodDescriptor y.desc = some sig → argsL.length = sig.parameters.length) (hstack : g.stack = argsL.reverse ++ .ref a :: rest) (hW : 2 * g.monitorRoom + (rest.map fun v => v.category).sum ≤ Wd) (hdg : decode c.code g.pc = .ok (.invokevirtual index, 3)) :
    ∃ (v : Option Value) (vm1 : Vm) (T' : State) (h' : Heap), Wk p l e R s m args below meth c Z EL own n0 vm1 T' h' (cells + rm.cells) (slots + rm.slots) ∧ Qb v h' ∧ h.size ≤ h'.size ∧ (∀ x, x < h.size → Safe Z EL vm0 h x → Safe Z EL vm1 h' x) ∧
      Steps p.tables e below (T.setTop g) (T'.setTop { g with pc := g.pc + 3, stack := v.toList ++ rest }) := by
  have hB := W.back (len := 3) (Wd := Wd) hEL hM wc wz hf hl
  obtain ⟨locs, k0, X, eT, hS, hk, hZ, hown, hC, N, O, hKK⟩ := W
  have hZ' : Z.Warmed39 (s.setVm vm0).vm := hZ
  obtain ⟨cB, kB, i1, i2, i3⟩ := isOf (s := (s.setVm vm0)) hZ' eT E
  obtain ⟨v, vm1, B, -, X', h2, hgr, ⟨L, hq, q1, q2, q3, q4⟩, st⟩ := Stand.virtualBackS X hx hown (mvT hZ' w1) (mvT hZ' w2) (notFace_of_selects (args := #[]) (mvT hZ' w3)) (mvT hZ' w3) (mvT hZ' w4) hy hB i1 i3 hg hsize (Steps.refl _) hlen hstack hW hdg (fun _ _ => ⟨has, eT, hc, hs⟩)
  exact ⟨v, B.U.vm, B.U, B.U.heap, Wk.behind hS hk hZ hown hC N eT hKK X' h2 hgr hq q1 q2 q3 q4, hq.1, q4.2.1, fun x q r => q4.safe q r, st⟩
theorem Wk.callU {y : MethodName} {z : MethodName} {C owner : String} {rm : Room} {as' : Array Value} {Qb : Option Value → Heap → Prop} {bytes : ByteArray} {maxL index : Nat} {ret : Option FieldType} (W : Wk p l e R s m args below meth c Z EL own n0 vm0 T h cells slots) (hx : p.tables.exec = Jvm.exec) (hEL : EW Z a0 EL) (hM : Met l z bytes maxL ret rm Z EL n0 [] as' h Qb)
    (w1 : (Cond.methodLink own index y).before a0 Z = true) (wsm : (Cond.sameMethod y.cls owner y.name y.desc).before a0 Z = true) (w2 : (Cond.declares ⟨owner, y.name, y.desc⟩).before a0 Z = true) (ho : owner ≠ "java/lang/invoke/MethodHandle" ∧ owner ≠ "java/lang/invoke/VarHandle") (w3 : (Cond.selects C y z).before a0 Z = true) (w4 : (Cond.instanceMethod z).before a0 Z = true) (wz : (Cond.initialized z.cls).before a0 Z = true) (wc : (Cond.code z bytes maxL ret).before a0 Z = true)
    {Wd : Nat} (hf : rm.frames + 1 ≤ R.frames) (hl : Wd + (maxL + 11) + rm.locals ≤ R.locals) (hc : cells + rm.cells ≤ R.cells) (hs : slots + rm.slots ≤ R.slots)
    (hg : g.method = m) (hsize : g.locals.size = c.maxLocals) {a : Addr} (E : Exa Z h a C) {argsL rest : List Value} (has : (.ref a :: argsL).toArray = as') (hlen : ∀ sig, parseMethodDescriptor y.desc = some sig → argsL.length = sig.parameters.length) (hstack : g.stack = argsL.reverse ++ .ref a :: rest) (hW : 2 * g.monitorRoom + (rest.map fun v => v.category).sum ≤ Wd) (hdg : decode c.code g.pc = .ok (.invokevirtual index, 3)) :
    ∃ (v : Option Value) (vm1 : Vm) (T' : State) (h' : Heap), Wk p l e R s m args below meth c Z EL own n0 vm1 T' h' (cells + rm.cells) (slots + rm.slots) ∧ Qb v h' ∧ h.size ≤ h'.size ∧ (∀ x, x < h.size → Safe Z EL vm0 h x → Safe Z EL vm1 h' x) ∧
      Steps p.tables e below (T.setTop g) (T'.setTop { g with pc := g.pc + 3, stack := v.toList ++ rest }) := by
  have hB := W.back (len := 3) (Wd := Wd) hEL hM wc wz hf hl
  obtain ⟨locs, k0, X, eT, hS, hk, hZ, hown, hC, N, O, hKK⟩ := W
  have hZ' : Z.Warmed39 (s.setVm vm0).vm := hZ
  obtain ⟨cB, kB, i1, i2, i3⟩ := isOf (s := (s.setVm vm0)) hZ' eT E
  obtain ⟨v, vm1, B, -, X', h2, hgr, ⟨L, hq, q1, q2, q3, q4⟩, st⟩ := X.virtualBackUpS hx hown (mvT hZ' w1) (mvT hZ' wsm) (mvT hZ' w2) ho (mvT hZ' w3) (mvT hZ' w4) hB i1 i3 hg hsize (Steps.refl _) hlen hstack hW hdg (fun _ _ => ⟨has, eT, hc, hs⟩)
  exact ⟨v, B.U.vm, B.U, B.U.heap, Wk.behind hS hk hZ hown hC N eT hKK X' h2 hgr hq q1 q2 q3 q4, hq.1, q4.2.1, fun x q r => q4.safe q r, st⟩
theorem Wk.behindN {B : Pt} {k n : Nat} {ws : List Addr} {locs L : List Loc} {k0 : Nat} (hS : s.Since vm0 k0) (hk : k0 ≤ h.size) (hZ : Z.Warmed39 vm0) (hown : vm0.findClass own = some m.cls) (hC : CHr Z EL s.vm s.heap vm0 h) (N : Fr n0 locs) (O : Old Z n0 h) (hKK : True)
    (X : Stand p l e R (s.setVm vm0) m args below meth c B.U B.locs B.cells B.slots) (K : Keep h B.U.heap ws) (NL : Fr n0 L) (sf : ∀ x ∈ ws, Safe Z EL vm0 h x) (sn : ∀ x ∈ ws, n0 ≤ x) (hl : B.locs = locs ++ L) (hc : B.cells = cells + k) (hs : B.slots = slots + n) :
    Wk p l e R s m args below meth c Z EL own n0 vm0 B.U B.U.heap (cells + k) (slots + n) ∧ ∀ x, x < h.size → Safe Z EL vm0 h x → Safe Z EL vm0 B.U.heap x :=
  ⟨⟨B.locs, k0, hc ▸ hs ▸ X, rfl, hS, Nat.le_trans hk K.1, hZ, hown, hC.trans (CHr.keep K sf hC.1), hl ▸ N.app NL, O.keep K sn, hKK⟩, fun x _ q => Safe.keep K sf hC.1 q⟩
theorem Wk.paySt {y : MethodName} {as' : Array Value} {Qb : Option Value → Heap → List Loc → Prop} {bytes : ByteArray} {maxL : Nat} {ret : Option FieldType} {k n index : Nat} {ws : List Addr} (W : Wk p l e R s m args below meth c Z EL own n0 vm0 T h cells slots) (hx : p.tables.exec = Jvm.exec)
    (w1 : (Cond.methodLink own index y).before a0 Z = true) (w2 : (Cond.static y).before a0 Z = true) (wz : (Cond.initialized y.cls).before a0 Z = true) (wc : (Cond.code y bytes maxL ret).before a0 Z = true) (hy : y.cls ≠ "java/lang/invoke/MethodHandle" ∧ y.cls ≠ "java/lang/invoke/VarHandle")
    {Wd : Nat} (hB : Back l R p e below (s.setVm vm0) args y 3 Wd (fun A a => a = as' ∧ A.U.heap = h ∧ A.cells + k ≤ R.cells ∧ A.slots + n ≤ R.slots) (fun A _ v B => ∃ L, Qb v B.U.heap L ∧ B.locs = A.locs ++ L ∧ B.cells = A.cells + k ∧ B.slots = A.slots + n))
    (hQ : ∀ v h' L, Qb v h' L → Keep h h' ws ∧ Fr n0 L) (sf : ∀ x ∈ ws, Safe Z EL vm0 h x) (sn : ∀ x ∈ ws, n0 ≤ x) (hc : cells + k ≤ R.cells) (hs : slots + n ≤ R.slots)
    (hg : g.method = m) (hsize : g.locals.size = c.maxLocals) {argsL rest : List Value} (has : argsL.toArray = as') (hlen : ∀ sig, parseMethodDescriptor y.desc = some sig → argsL.length = sig.parameters.length) (hstack : g.stack = argsL.reverse ++ rest) (hW : 2 * g.monitorRoom + (rest.map fun v => v.category).sum ≤ Wd) (hdg : decode c.code g.pc = .ok (.invokestatic index, 3)) :
    ∃ (v : Option Value) (T' : State) (h' : Heap) (L : List Loc), Wk p l e R s m args below meth c Z EL own n0 vm0 T' h' (cells + k) (slots + n) ∧ Qb v h' L ∧ h.size ≤ h'.size ∧ (∀ x, x < h.size → Safe Z EL vm0 h x → Safe Z EL vm0 h' x) ∧
      Steps p.tables e below (T.setTop g) (T'.setTop { g with pc := g.pc + 3, stack := v.toList ++ rest }) := by
  obtain ⟨locs, k0, X, eT, hS, hk, hZ, hown, hC, N, O, hKK⟩ := W
  have hZ' : Z.Warmed39 (s.setVm vm0).vm := hZ
  obtain ⟨v, vm1, B, -, X', ⟨L, hq, q1, q2, q3⟩, st⟩ := Jvm.LawKit.callS X hx hown (mvT hZ' w1) (mvT hZ' w2) (mvT hZ' wz) (mvT hZ' wc) hy hB hg hsize hlen hstack hW hdg (fun _ _ => ⟨has, eT, hc, hs⟩)
  obtain ⟨K, NL⟩ := hQ _ _ _ hq
  obtain ⟨W', sf'⟩ := Wk.behindN hS hk hZ hown hC N O hKK X' K NL sf sn q1 q2 q3
  exact ⟨v, B.U, B.U.heap, L, W', hq, K.1, sf', st _ (Steps.refl _)⟩
theorem Wk.paySp {y : MethodName} {as' : Array Value} {Qb : Option Value → Heap → List Loc → Prop} {bytes : ByteArray} {maxL : Nat} {k n index : Nat} {ws : List Addr} (W : Wk p l e R s m args below meth c Z EL own n0 vm0 T h cells slots) (hx : p.tables.exec = Jvm.exec) (hy1 : y.name = "<init>")
    (w1 : (Cond.methodLink own index y).before a0 Z = true) (w2 : (Cond.instanceMethod y).before a0 Z = true) (wc : (Cond.code y bytes maxL none).before a0 Z = true) (hy : y.cls ≠ "java/lang/invoke/MethodHandle" ∧ y.cls ≠ "java/lang/invoke/VarHandle")
    {Wd : Nat} (hB : Back l R p e below (s.setVm vm0) args y 3 Wd (fun A a => a = as' ∧ A.U.heap = h ∧ A.cells + k ≤ R.cells ∧ A.slots + n ≤ R.slots) (fun A _ v B => ∃ L, Qb v B.U.heap L ∧ B.locs = A.locs ++ L ∧ B.cells = A.cells + k ∧ B.slots = A.slots + n))
    (hQ : ∀ v h' L, Qb v h' L → Keep h h' ws ∧ Fr n0 L) (sf : ∀ x ∈ ws, Safe Z EL vm0 h x) (sn : ∀ x ∈ ws, n0 ≤ x) (hc : cells + k ≤ R.cells) (hs : slots + n ≤ R.slots)
    (hg : g.method = m) (hsize : g.locals.size = c.maxLocals) {a : Addr} {argsL rest : List Value} (has : (.ref a :: argsL).toArray = as') (hlen : ∀ sig, parseMethodDescriptor y.desc = some sig → argsL.length = sig.parameters.length) (hstack : g.stack = argsL.reverse ++ .ref a :: rest) (hW : 2 * g.monitorRoom + (rest.map fun v => v.category).sum ≤ Wd) (hdg : decode c.code g.pc = .ok (.invokespecial index, 3)) :
    ∃ (v : Option Value) (T' : State) (h' : Heap) (L : List Loc), Wk p l e R s m args below meth c Z EL own n0 vm0 T' h' (cells + k) (slots + n) ∧ Qb v h' L ∧ h.size ≤ h'.size ∧ (∀ x, x < h.size → Safe Z EL vm0 h x → Safe Z EL vm0 h' x) ∧
      Steps p.tables e below (T.setTop g) (T'.setTop { g with pc := g.pc + 3, stack := v.toList ++ rest }) := by
  obtain ⟨locs, k0, X, eT, hS, hk, hZ, hown, hC, N, O, hKK⟩ := W
  have hZ' : Z.Warmed39 (s.setVm vm0).vm := hZ
  obtain ⟨v, vm1, B, -, X', ⟨L, hq, q1, q2, q3⟩, st⟩ := Stand.specialBack X hx hy1 hown (mvT hZ' w1) (mvT hZ' w2) (mvT hZ' wc) hy hB hg hsize (Steps.refl _) hlen hstack hW hdg (fun _ _ => ⟨has, eT, hc, hs⟩)
  obtain ⟨K, NL⟩ := hQ _ _ _ hq
  obtain ⟨W', sf'⟩ := Wk.behindN hS hk hZ hown hC N O hKK X' K NL sf sn q1 q2 q3
  exact ⟨v, B.U, B.U.heap, L, W', hq, K.1, sf', st⟩
theorem Wk.payVi {y : MethodName} {C : String} {as' : Array Value} {Qb : Option Value → Heap → List Loc → Prop} {k n index : Nat} {ws : List Addr} (W : Wk p l e R s m args below meth c Z EL own n0 vm0 T h cells slots) (hx : p.tables.exec = Jvm.exec)
    (w1 : (Cond.methodLink own index y).before a0 Z = true) (w2 : (Cond.declares y).before a0 Z = true) (w3 : (Cond.selects C y y).before a0 Z = true) (w4 : (Cond.instanceMethod y).before a0 Z = true) (hy : y.cls ≠ "java/lang/invoke/MethodHandle" ∧ y.cls ≠ "java/lang/invoke/VarHandle")
    {Wd : Nat} (hB : Back l R p e below (s.setVm vm0) args y 3 Wd (fun A a => a = as' ∧ A.U.heap = h ∧ A.cells + k ≤ R.cells ∧ A.slots + n ≤ R.slots) (fun A _ v B => ∃ L, Qb v B.U.heap L ∧ B.locs = A.locs ++ L ∧ B.cells = A.cells + k ∧ B.slots = A.slots + n))
    (hQ : ∀ v h' L, Qb v h' L → Keep h h' ws ∧ Fr n0 L) (sf : ∀ x ∈ ws, Safe Z EL vm0 h x) (sn : ∀ x ∈ ws, n0 ≤ x) (hc : cells + k ≤ R.cells) (hs : slots + n ≤ R.slots)
    (hg : g.method = m) (hsize : g.locals.size = c.maxLocals) {a : Addr} (E : Exa Z h a C) {argsL rest : List Value} (has : (.ref a :: argsL).toArray = as') (hlen : ∀ sig, parseMethodDescriptor y.desc = some sig → argsL.length = sig.parameters.length) (hstack : g.stack = argsL.reverse ++ .ref a :: rest) (hW : 2 * g.monitorRoom + (rest.map fun v => v.category).sum ≤ Wd) (hdg : decode c.code g.pc = .ok (.invokevirtual index, 3)) :
    ∃ (v : Option Value) (T' : State) (h' : Heap) (L : List Loc), Wk p l e R s m args below meth c Z EL own n0 vm0 T' h' (cells + k) (slots + n) ∧ Qb v h' L ∧ h.size ≤ h'.size ∧ (∀ x, x < h.size → Safe Z EL vm0 h x → Safe Z EL vm0 h' x) ∧
      Steps p.tables e below (T.setTop g) (T'.setTop { g with pc := g.pc + 3, stack := v.toList ++ rest }) := by
  obtain ⟨locs, k0, X, eT, hS, hk, hZ, hown, hC, N, O, hKK⟩ := W
  have hZ' : Z.Warmed39 (s.setVm vm0).vm := hZ
  obtain ⟨cB, kB, i1, i2, i3⟩ := isOf (s := (s.setVm vm0)) hZ' eT E
  obtain ⟨v, vm1, B, -, X', ⟨L, hq, q1, q2, q3⟩, st⟩ := Stand.virtualBack X hx hown (mvT hZ' w1) (mvT hZ' w2) (notFace_of_selects (args := #[]) (mvT hZ' w3)) (mvT hZ' w3) (mvT hZ' w4) hy hB i1 i3 hg hsize (Steps.refl _) hlen hstack hW hdg (fun _ _ => ⟨has, eT, hc, hs⟩)
  obtain ⟨K, NL⟩ := hQ _ _ _ hq
  obtain ⟨W', sf'⟩ := Wk.behindN hS hk hZ hown hC N O hKK X' K NL sf sn q1 q2 q3
  exact ⟨v, B.U, B.U.heap, L, W', hq, K.1, sf', st⟩
theorem Wk.payUp {y z : MethodName} {C owner : String} {as' : Array Value} {Qb : Option Value → Heap → List Loc → Prop} {k n index : Nat} {ws : List Addr} (W : Wk p l e R s m args below meth c Z EL own n0 vm0 T h cells slots) (hx : p.tables.exec = Jvm.exec)
    (w1 : (Cond.methodLink own index y).before a0 Z = true) (wsm : (Cond.sameMethod y.cls owner y.name y.desc).before a0 Z = true) (w2 : (Cond.declares ⟨owner, y.name, y.desc⟩).before a0 Z = true) (ho : owner ≠ "java/lang/invoke/MethodHandle" ∧ owner ≠ "java/lang/invoke/VarHandle") (w3 : (Cond.selects C y z).before a0 Z = true) (w4 : (Cond.instanceMethod z).before a0 Z = true) (hy : y.cls ≠ "java/lang/invoke/MethodHandle" ∧ y.cls ≠ "java/lang/invoke/VarHandle")
    {Wd : Nat} (hB : Back l R p e below (s.setVm vm0) args z 3 Wd (fun A a => a = as' ∧ A.U.heap = h ∧ A.cells + k ≤ R.cells ∧ A.slots + n ≤ R.slots) (fun A _ v B => ∃ L, Qb v B.U.heap L ∧ B.locs = A.locs ++ L ∧ B.cells = A.cells + k ∧ B.slots = A.slots + n))
    (hQ : ∀ v h' L, Qb v h' L → Keep h h' ws ∧ Fr n0 L) (sf : ∀ x ∈ ws, Safe Z EL vm0 h x) (sn : ∀ x ∈ ws, n0 ≤ x) (hc : cells + k ≤ R.cells) (hs : slots + n ≤ R.slots)
    (hg : g.method = m) (hsize : g.locals.size = c.maxLocals) {a : Addr} (E : Exa Z h a C) {argsL rest : List Value} (has : (.ref a :: argsL).toArray = as') (hlen : ∀ sig, parseMethodDescriptor y.desc = some sig → argsL.length = sig.parameters.length) (hstack : g.stack = argsL.reverse ++ .ref a :: rest) (hW : 2 * g.monitorRoom + (rest.map fun v => v.category).sum ≤ Wd) (hdg : decode c.code g.pc = .ok (.invokevirtual index, 3)) :
    ∃ (v : Option Value) (T' : State) (h' : Heap) (L : List Loc), Wk p l e R s m args below meth c Z EL own n0 vm0 T' h' (cells + k) (slots + n) ∧ Qb v h' L ∧ h.size ≤ h'.size ∧ (∀ x, x < h.size → Safe Z EL vm0 h x → Safe Z EL vm0 h' x) ∧
      Steps p.tables e below (T.setTop g) (T'.setTop { g with pc := g.pc + 3, stack := v.toList ++ rest }) := by
  obtain ⟨locs, k0, X, eT, hS, hk, hZ, hown, hC, N, O, hKK⟩ := W
  have hZ' : Z.Warmed39 (s.setVm vm0).vm := hZ
  obtain ⟨cB, kB, i1, i2, i3⟩ := isOf (s := (s.setVm vm0)) hZ' eT E
  obtain ⟨v, vm1, B, -, X', ⟨L, hq, q1, q2, q3⟩, st⟩ := X.virtualBackUp hx hown (mvT hZ' w1) (mvT hZ' wsm) (mvT hZ' w2) ho (mvT hZ' w3) (mvT hZ' w4) hB i1 i3 hg hsize (Steps.refl _) hlen hstack hW hdg (fun _ _ => ⟨has, eT, hc, hs⟩)
  obtain ⟨K, NL⟩ := hQ _ _ _ hq
  obtain ⟨W', sf'⟩ := Wk.behindN hS hk hZ hown hC N O hKK X' K NL sf sn q1 q2 q3
  exact ⟨v, B.U, B.U.heap, L, W', hq, K.1, sf', st⟩
theorem Wk.len (W : Wk p l e R s m args below meth c Z EL own n0 vm0 T h cells slots) (hx : p.tables.exec = Jvm.exec) {a : Addr} {k : ClassId} {ty : FieldType} {z : Int32} {vs : List Value} {d : Value} (A : Arv Z h a k ty z vs d)
    (hg : g.method = m) {rest : List Value} (hs : g.stack = .ref a :: rest) (hd : decode c.code g.pc = .ok (.arraylength, 1)) :
    ∀ target, Steps p.tables e below (T.setTop { g with pc := g.pc + 1, stack := .int z :: rest }) target → Steps p.tables e below (T.setTop g) target := fun target k => by
  obtain ⟨locs, X⟩ := W.stand
  obtain ⟨cl, A1, q1, q2, q3, -⟩ := A
  refine X.arraylength hx (by rw [W.heap]; exact A1.1) (State.isArrayOf_alike W.warmS.alike A1.2.1) (g := g) hg hs hd _ ?_
  rw [len_of q2 q3]; exact k
theorem Wk.ldC (W : Wk p l e R s m args below meth c Z EL own n0 vm0 T h cells slots) (hx : p.tables.exec = Jvm.exec) {a : Addr} {k : ClassId} {z j : Int32} {vs : List Value} {d : Value} (A : Arv Z h a k .char z vs d) (hj : ¬ j < 0 ∧ j < z) {v : Value} (hv : vs.getD j.toNatClampNeg d = v)
    (hg : g.method = m) {rest : List Value} (hs : g.stack = .int j :: .ref a :: rest) (hd : decode c.code g.pc = .ok (.caload, 1)) :
    ∀ target, Steps p.tables e below (T.setTop { g with pc := g.pc + 1, stack := v :: rest }) target → Steps p.tables e below (T.setTop g) target := fun target k => by
  obtain ⟨locs, X⟩ := W.stand
  obtain ⟨cl, A1, q1, q2, q3, q4, -⟩ := A
  exact X.caload hx (by rw [W.heap]; exact A1.1) (State.isArrayOf_alike W.warmS.alike A1.2.1) A1.2.2 (inb_of q2 hj) (q4.at (inb_of q2 hj) hv) hg hs hd _ k
theorem Wk.ldB (W : Wk p l e R s m args below meth c Z EL own n0 vm0 T h cells slots) (hx : p.tables.exec = Jvm.exec) {a : Addr} {k : ClassId} {z j : Int32} {vs : List Value} {d : Value} (A : Arv Z h a k .byte z vs d) (hj : ¬ j < 0 ∧ j < z) {v : Value} (hv : vs.getD j.toNatClampNeg d = v)
    (hg : g.method = m) {rest : List Value} (hs : g.stack = .int j :: .ref a :: rest) (hd : decode c.code g.pc = .ok (.baload, 1)) :
    ∀ target, Steps p.tables e below (T.setTop { g with pc := g.pc + 1, stack := v :: rest }) target → Steps p.tables e below (T.setTop g) target := fun target k => by
  obtain ⟨locs, X⟩ := W.stand
  obtain ⟨cl, A1, q1, q2, q3, q4, -⟩ := A
  exact X.baloadBytes hx (by rw [W.heap]; exact A1.1) (State.isArrayOf_alike W.warmS.alike A1.2.1) A1.2.2 (inb_of q2 hj) (q4.at (inb_of q2 hj) hv) hg hs hd _ k
theorem Wk.ldI (W : Wk p l e R s m args below meth c Z EL own n0 vm0 T h cells slots) (hx : p.tables.exec = Jvm.exec) {a : Addr} {k : ClassId} {z j : Int32} {vs : List Value} {d : Value} (A : Arv Z h a k .int z vs d) (hj : ¬ j < 0 ∧ j < z) {v : Value} (hv : vs.getD j.toNatClampNeg d = v)
    (hg : g.method = m) {rest : List Value} (hs : g.stack = .int j :: .ref a :: rest) (hd : decode c.code g.pc = .ok (.iaload, 1)) :
    ∀ target, Steps p.tables e below (T.setTop { g with pc := g.pc + 1, stack := v :: rest }) target → Steps p.tables e below (T.setTop g) target := fun target k => by
  obtain ⟨locs, X⟩ := W.stand
  obtain ⟨cl, A1, q1, q2, q3, q4, -⟩ := A
  exact X.iaload hx (by rw [W.heap]; exact A1.1) (State.isArrayOf_alike W.warmS.alike A1.2.1) A1.2.2 (inb_of q2 hj) (q4.at (inb_of q2 hj) hv) hg hs hd _ k
theorem Wk.ldcI (W : Wk p l e R s m args below meth c Z EL own n0 vm0 T h cells slots) (hx : p.tables.exec = Jvm.exec) {index : Nat} {v : Int32} (w : (Cond.constant own index v).before a0 Z = true) (hg : g.method = m) (hd : decode c.code g.pc = .ok (.ldc index, 2)) :
    ∀ target, Steps p.tables e below (T.setTop { g with pc := g.pc + 2, stack := .int v :: g.stack }) target → Steps p.tables e below (T.setTop g) target := by
  obtain ⟨locs, X⟩ := W.stand
  exact X.ldcInt hx W.owns (mvT W.warmS w) hg hd
theorem Wk.acmp {target : State} (W : Wk p l e R s m args below meth c Z EL own n0 vm0 T h cells slots) (hx : p.tables.exec = Jvm.exec) (hg : g.method = m) {cd : ACond} {x y : Value} (h1 : x.isRef = true) (h2 : y.isRef = true) {rest : List Value} {o : Int} {pc0 pc' : Nat} {same : Bool} (hpc : g.pc = pc0)
    (hd : decode c.code g.pc = .ok (.if_acmp cd o, 3)) (hs : g.stack = y :: x :: rest) (hq : decide (x = y) = same) (ho : 0 ≤ (pc0 : Int) + o) (hp : pc' = if acV cd same = true then ((pc0 : Int) + o).toNat else pc0 + 3)
    (hr : Steps p.tables e below (T.setTop { g with pc := pc', stack := rest }) target) : Steps p.tables e below (T.setTop g) target := by
  obtain ⟨locs, X⟩ := W.stand
  exact RoadKit.acmp X hx hg h1 h2 hpc hd hs hq ho hp hr
theorem Wk.irem {target : State} (W : Wk p l e R s m args below meth c Z EL own n0 vm0 T h cells slots) (hx : p.tables.exec = Jvm.exec) (hg : g.method = m) {x y : Int32} {rest : List Value} (hd : decode c.code g.pc = .ok (.irem, 1)) (hs : g.stack = .int y :: .int x :: rest) (hy : y ≠ 0)
    (hr : Steps p.tables e below (T.setTop { g with pc := g.pc + 1, stack := .int (x % y) :: rest }) target) : Steps p.tables e below (T.setTop g) target := by
  obtain ⟨locs, X⟩ := W.stand
  exact RoadKit.iremM X hx hg hd hs hy hr
end OwnKit
end Jvm.Pilot.@@N@@
namespace Jvm.Pilot.@@N@@
open Jvm Jvm.ClassFile Sem Op Lib Jvm.Free Jvm.Stand Jvm.LawKit Jvm.RoadKit Bundle Jvm.Pilot.@@N@@.Jvm.D
section OwnKit2
variable {p : Program} {l : Launch} {e : Env} {R : Room} {s : State} {m : MethodId} {args : Array Value} {below : List Frame} {meth : Method} {c : Code} {T T' : State} {cells slots : Nat} {Z : State} {a0 : Array Value} {EL : List (String × Nat)} {vm0 : Vm} {h h' : Heap} {own : String} {n0 : Nat} {Q : Outcome → State → Prop} {g g' : JFrame}
theorem own_fitsR {v : Value} {C : String} (h : v.isRef = true) : fits (.object C) v = true := by cases v <;> simp [Value.isRef, fits] at h ⊢
theorem own_fitsA {v : Value} {t : FieldType} (h : v.isRef = true) : fits (.array t) v = true := by cases v <;> simp [Value.isRef, fits] at h ⊢
/-- a String whose value is null yet is no booked constant -/
theorem own_safe_blank {x : Addr} {vm : Vm} (hal : Z.vm.Alike vm) (E : Exa Z h x "java/lang/String") (F : Fld Z h x "java/lang/String" "value" "[B" .null) : Safe Z EL vm h x := fun B => by
  obtain ⟨pe, -, u, a, -, q, -, F', rfl | rfl⟩ := B
  · obtain ⟨cell, cf, k, i, f, f1, f2, f3, f4, f5, f6, f7⟩ := F
    obtain ⟨cS, ⟨⟨s1, s2, s3, ⟨c1, k1, i1, g1, -⟩, -, s6, s7, v1, -⟩, -⟩, -⟩ := F'
    obtain ⟨k3, e3, -⟩ := State.fieldFound?_setVm (s := Z) hal f2
    have e4 := (show (Wst Z vm h).fieldFound? _ _ _ = _ from e3).symm.trans g1
    simp only [Option.some.injEq, Prod.mk.injEq] at e4
    cases (show h[q.sa]? = some q.sC from s1).symm.trans f1
    rw [← e4.2.2.2, f7] at v1
    cases v1
  · obtain ⟨cell, k, e1, e2, e3, -, -⟩ := E
    have hd := F'.hd
    obtain ⟨cS, -, -, f, -⟩ := F'
    cases (show h[q.sd]? = some q.SA from hd).symm.trans e1
    have f' : vm.findClass "[B" = some q.SA.cls := f
    rw [hal.findClass] at f'
    obtain ⟨k1, q1, q2⟩ := Vm.findClass_spec f'
    obtain ⟨k2, q3, q4⟩ := Vm.findClass_spec e2
    cases q1.symm.trans q3
    have := q2.symm.trans q4
    exact absurd this (by decide)
/-- a String of these chars; t is its byte[] -/
def Str (Z : State) (h : Heap) (x t : Addr) (cs : List Int32) : Prop := Exa Z h x "java/lang/String" ∧ Fld Z h x "java/lang/String" "value" "[B" (.ref t) ∧ ∃ (kb : ClassId) (cd N2 : Int32) (vs : List Value), Fld Z h x "java/lang/String" "coder" "B" (.int cd) ∧ Arv Z h t kb .byte N2 vs (.int 0) ∧ StrChars.Road.CodA cs cd N2 vs ∧ (∀ c ∈ cs, ¬ c < 0 ∧ ¬ (65535 : Int32) < c) ∧ cs.length ≤ 4000
theorem Str.lt {x t : Addr} {cs : List Int32} (F : Str Z h x t cs) : x < h.size ∧ t < h.size := by obtain ⟨E, -, _, _, _, _, -, A, -⟩ := F; exact ⟨E.lt, A.lt⟩
theorem Str.ext {x t : Addr} {cs : List Int32} (F : Str Z h x t cs) (E : Ext h h') : Str Z h' x t cs := by obtain ⟨E1, F1, kb, cd, N2, vs, F2, A, r⟩ := F; exact ⟨E1.ext E, F1.ext E, kb, cd, N2, vs, F2.ext E, A.ext E, r⟩
theorem Str.other {x t a : Addr} {sl : Nat} {v : Value} {cs : List Int32} (F : Str Z h x t cs) (W : Wr h h' a sl v) (n1 : x ≠ a) (n2 : t ≠ a) : Str Z h' x t cs := by obtain ⟨E1, F1, kb, cd, N2, vs, F2, A, r⟩ := F; exact ⟨E1.wr W, F1.other W (Or.inl n1), kb, cd, N2, vs, F2.other W (Or.inl n1), A.other W n2, r⟩
theorem Str.keep {x t : Addr} {ws : List Addr} {cs : List Int32} (F : Str Z h x t cs) (K : Keep h h' ws) (n1 : x ∉ ws) (n2 : t ∉ ws) : Str Z h' x t cs := by obtain ⟨E1, F1, kb, cd, N2, vs, F2, A, r⟩ := F; exact ⟨E1.keep K, F1.keep K n1, kb, cd, N2, vs, F2.keep K n1, A.keep K n2, r⟩
/-- Latin-1: out of the pieces -/
theorem Str.lat {x t : Addr} {kb : ClassId} {N2 : Int32} {vs : List Value} {cs : List Int32} (E : Exa Z h x "java/lang/String") (F : Fld Z h x "java/lang/String" "value" "[B" (.ref t)) (C : Fld Z h x "java/lang/String" "coder" "B" (.int 0)) (A : Arv Z h t kb .byte N2 vs (.int 0)) (hN : N2 = Int32.ofNat cs.length) (hv : vs = cs.map fun c => Value.int (StrChars.lo8 c)) (hc : ∀ c ∈ cs, ¬ c < 0 ∧ ¬ (255 : Int32) < c) (hl : cs.length ≤ 4000) : Str Z h x t cs :=
  ⟨E, F, kb, 0, N2, vs, C, A, Or.inl ⟨rfl, hN, hv, fun c q => (hc c q).2⟩, fun c q => ⟨(hc c q).1, fun z => (hc c q).2 (by
    have h1 := (Int32.lt_iff_toInt_lt).mp z
    rw [Int32.lt_iff_toInt_lt]
    simp at h1 ⊢; omega)⟩, hl⟩
end OwnKit2
end Jvm.Pilot.@@N@@
namespace Jvm.Pilot.@@N@@
open Jvm Jvm.ClassFile Sem Op Lib Jvm.Free Jvm.Stand Jvm.LawKit Jvm.RoadKit Bundle Jvm.Pilot.@@N@@.Jvm.D
theorem Wk.strLen {p : Program} {l : Launch} {e : Env} {R : Room} {s : State} {m : MethodId} {args : Array Value} {below : List Frame} {meth : Method} {c : Code} {T : State} {cells slots : Nat} {Z : State} {a0 : Array Value} {EL : List (String × Nat)} {vm0 : Vm} {h : Heap} {own : String} {n0 : Nat} {g : JFrame} (W : Wk p l e R s m args below meth c Z EL own n0 vm0 T h cells slots) (hx : p.tables.exec = Jvm.exec) (hws : ∀ d ∈ StrChars.Road.wordsLen, d.before a0 Z = true) {kI : Nat} (wi : (Jvm.Cond.instantiable "java/lang/String" kI).before a0 Z = true) {x t : Addr} {cs : List Int32} (S : Str Z h x t cs) {z : Int32} (hz : Sta Z Z.heap "java/lang/String" "COMPACT_STRINGS" "Z" (.int z)) (hz0 : ¬ z = 0)
    {index : Nat} (w1 : (Jvm.Cond.methodLink own index ⟨"java/lang/String", "length", "()I"⟩).before a0 Z = true) (w2 : (Jvm.Cond.declares ⟨"java/lang/String", "length", "()I"⟩).before a0 Z = true) (w3 : (Jvm.Cond.selects "java/lang/String" ⟨"java/lang/String", "length", "()I"⟩ ⟨"java/lang/String", "length", "()I"⟩).before a0 Z = true) (w4 : (Jvm.Cond.instanceMethod ⟨"java/lang/String", "length", "()I"⟩).before a0 Z = true)
    {Wd : Nat} (hf : 2 ≤ R.frames) (hl : Wd + 25 ≤ R.locals) (hc : cells ≤ R.cells) (hs : slots ≤ R.slots) (hg : g.method = m) (hsize : g.locals.size = c.maxLocals) {rest : List Value} (hstack : g.stack = .ref x :: rest) (hW : 2 * g.monitorRoom + (rest.map fun v => v.category).sum ≤ Wd) (hdg : decode c.code g.pc = .ok (.invokevirtual index, 3)) :
    ∃ T' , Wk p l e R s m args below meth c Z EL own n0 vm0 T' h cells slots ∧ Steps p.tables e below (T.setTop g) (T'.setTop { g with pc := g.pc + 3, stack := .int (Int32.ofNat cs.length) :: rest }) := by
  obtain ⟨E, V, kb, cd, N2, vs, C, A, hcd, hb, hl2⟩ := S
  have hB := StrChars.Road.lenW (l := l) (R := R) (p := p) (e := e) (below := below) (args := args) (len := 3) (W := Wd) W.warmS hws wi E V C A hcd hb (W.sta hz) hz0 hl2 hf hl
  obtain ⟨v, T', h', L, W', q, -, -, st⟩ := W.payVi hx w1 w2 w3 w4 (by decide) (Qb := fun v h' L => v = some (.int (Int32.ofNat cs.length)) ∧ L = [] ∧ h' = h) (k := 0) (n := 0) (Wd := Wd) (ws := []) hB (fun v h' L q => ⟨q.2.2 ▸ Keep.refl _ _, q.2.1 ▸ Fr.nil _⟩) sf0 all0 hc hs hg hsize (a := x) E (argsL := []) (rest := rest) rfl (lenOf (by decide +kernel : parseMethodDescriptor "()I" = some ⟨[], some .int⟩) rfl) hstack hW hdg
  obtain ⟨rfl, rfl, rfl⟩ := q
  exact ⟨T', W', st⟩
end Jvm.Pilot.@@N@@
namespace Jvm.Pilot.@@N@@
open Jvm Jvm.ClassFile Sem Op Lib Jvm.Free Jvm.Stand Jvm.LawKit Jvm.RoadKit Bundle Jvm.Pilot.@@N@@.Jvm.D
theorem Wk.strChr {p : Program} {l : Launch} {e : Env} {R : Room} {s : State} {m : MethodId} {args : Array Value} {below : List Frame} {meth : Method} {c : Code} {T : State} {cells slots : Nat} {Z : State} {a0 : Array Value} {EL : List (String × Nat)} {vm0 : Vm} {h : Heap} {own : String} {n0 : Nat} {g : JFrame} (W : Wk p l e R s m args below meth c Z EL own n0 vm0 T h cells slots) (hx : p.tables.exec = Jvm.exec) (hws : ∀ d ∈ StrChars.Road.wordsChN, d.before a0 Z = true) {kI : Nat} (wi : (Jvm.Cond.instantiable "java/lang/String" kI).before a0 Z = true) {x t : Addr} {cs : List Int32} (S : Str Z h x t cs) (h255 : ∀ c ∈ cs, ¬ (255 : Int32) < c) {z : Int32} (hz : Sta Z Z.heap "java/lang/String" "COMPACT_STRINGS" "Z" (.int z)) (hz0 : ¬ z = 0) {fm : Value} (hfm : Sta Z Z.heap "jdk/internal/util/Preconditions" "SIOOBE_FORMATTER" "Ljava/util/function/BiFunction;" fm) (rfm : fm.isRef = true) {i : Nat} {j : Int32} (hi : i < cs.length) (hj : j = Int32.ofNat i)
    {index : Nat} (w1 : (Jvm.Cond.methodLink own index ⟨"java/lang/String", "charAt", "(I)C"⟩).before a0 Z = true) (w2 : (Jvm.Cond.declares ⟨"java/lang/String", "charAt", "(I)C"⟩).before a0 Z = true) (w3 : (Jvm.Cond.selects "java/lang/String" ⟨"java/lang/String", "charAt", "(I)C"⟩ ⟨"java/lang/String", "charAt", "(I)C"⟩).before a0 Z = true) (w4 : (Jvm.Cond.instanceMethod ⟨"java/lang/String", "charAt", "(I)C"⟩).before a0 Z = true)
    {Wd : Nat} (hf : 4 ≤ R.frames) (hl : Wd + 53 ≤ R.locals) (hc : cells ≤ R.cells) (hs : slots ≤ R.slots) (hg : g.method = m) (hsize : g.locals.size = c.maxLocals) {rest : List Value} (hstack : g.stack = .int j :: .ref x :: rest) (hW : 2 * g.monitorRoom + (rest.map fun v => v.category).sum ≤ Wd) (hdg : decode c.code g.pc = .ok (.invokevirtual index, 3)) :
    ∃ T' , Wk p l e R s m args below meth c Z EL own n0 vm0 T' h cells slots ∧ Steps p.tables e below (T.setTop g) (T'.setTop { g with pc := g.pc + 3, stack := .int (cs.getD i 0) :: rest }) := by
  obtain ⟨E, V, kb, cd, N2, vs, C, A, hcd, hb, hl2⟩ := S
  obtain rfl : cd = 0 := by
    rcases hcd with ⟨q, -⟩ | ⟨-, -, -, c, q1, q2⟩
    · exact q
    · exact absurd q2 (h255 c q1)
  have hB := StrChars.Road.chN (l := l) (R := R) (p := p) (e := e) (below := below) (args := args) (len := 3) (W := Wd) W.warmS hws wi E V C A hcd hb (W.sta hz) hz0 (W.sta hfm) rfm hl2 hi hj hf hl
  obtain ⟨v, T', h', L, W', q, -, -, st⟩ := W.payVi hx w1 w2 w3 w4 (by decide) (Qb := fun v h' L => v = some (.int (cs.getD i 0)) ∧ L = [] ∧ h' = h) (k := 0) (n := 0) (Wd := Wd) (ws := []) hB (fun v h' L q => ⟨q.2.2 ▸ Keep.refl _ _, q.2.1 ▸ Fr.nil _⟩) sf0 all0 hc hs hg hsize (a := x) E (argsL := [.int j]) (rest := rest) rfl (lenOf (by decide +kernel : parseMethodDescriptor "(I)C" = some ⟨[.int], some .char⟩) rfl) hstack hW hdg
  obtain ⟨rfl, rfl, rfl⟩ := q
  exact ⟨T', W', st⟩
end Jvm.Pilot.@@N@@
namespace Jvm.Pilot.@@N@@
open Jvm Jvm.ClassFile Sem Op Lib Jvm.Free Jvm.Stand Jvm.LawKit Jvm.RoadKit Bundle Jvm.Pilot.@@N@@.Jvm.D
/-- what every walk of this claim rests on -/
def Ctx (Z : State) (a0 : Array Value) : Prop := (∀ d ∈ tables_1, d.before a0 Z = true) ∧ (∃ zc : Int32, Sta Z Z.heap "java/lang/String" "COMPACT_STRINGS" "Z" (.int zc) ∧ ¬ zc = 0) ∧ (∃ fm : Value, Sta Z Z.heap "jdk/internal/util/Preconditions" "SIOOBE_FORMATTER" "Ljava/util/function/BiFunction;" fm ∧ fm.isRef = true) ∧ (∃ zp : Value, Sta Z Z.heap "com/example/fanoutd/fanoutd/subscription/SinkCredential$Type" "PLAIN" "Lcom/example/fanoutd/fanoutd/subscription/SinkCredential$Type;" zp ∧ zp.isRef = true) ∧ True
theorem own_EW {Z : State} {a0 : Array Value} (hw : ∀ d ∈ tables_1, d.before a0 Z = true) : EW Z a0 consts_1 := (EW.cons (hw _ (List.mem_of_getElem? (i := 46) rfl)) (by decide) (EW.cons (hw _ (List.mem_of_getElem? (i := 52) rfl)) (by decide) (EW.cons (hw _ (List.mem_of_getElem? (i := 34) rfl)) (by decide) EW.nil)))
theorem own_stringAtoms {Z : State} {a0 : Array Value} (hw : ∀ d ∈ tables_1, d.before a0 Z = true) : ∀ d ∈ Bundle.stringAtoms, d.before a0 Z = true := fun d hd => hw d ((by decide +kernel : ∀ d ∈ Bundle.stringAtoms, d ∈ tables_1) d hd)
theorem own_eqI {args : Array Value} {s : State} {t : Term} {n : Int32} (h : (Jvm.Cond.eq t (Jvm.Term.int n)).value args s none s [] = some true) : t.eval args s none [] s = some (.int n) := by
  obtain ⟨x, y, e1, e2, k1, k2⟩ := cmp_v (Or.inl h)
  rw [Term.int_eval] at e2
  cases e2
  obtain ⟨z, rfl⟩ := k2
  have q := gotT (Cond.eq_ints e1 (Term.int_eval n)) h
  rw [e1, q]
theorem own_eqJ {args : Array Value} {s : State} {t : Term} {n : Int64} (h : (Jvm.Cond.eq t (Jvm.Term.long n)).value args s none s [] = some true) : t.eval args s none [] s = some (.long n) := by
  obtain ⟨x, y, e1, e2, k1, k2⟩ := cmp_v (Or.inl h)
  have e3 : (Jvm.Term.long n).eval args s none [] s = some (.long n) := rfl
  rw [e3] at e2
  cases e2
  obtain ⟨z, rfl⟩ := k2
  have q := gotT (eq_L e1 e3) h
  rw [e1, q]
theorem own_exa {args : Array Value} {s : State} {t : Term} {C : String} (h : (Jvm.Cond.exactly t C).value args s none s [] = some true) : ∃ x, t.eval args s none [] s = some (.ref x) := exa_v h
theorem own_all0 {α : Type} {P : α → Prop} : ∀ x ∈ ([] : List α), P x := fun _ q => nomatch q
theorem own_allS {α : Type} {P : α → Prop} {y : α} {L : List α} (q : P y) (r : ∀ x ∈ L, P x) : ∀ x ∈ y :: L, P x := fun x z => (List.mem_cons.mp z).elim (fun u => u ▸ q) (r x)
theorem own_and255 (x : Int32) : ¬ (x &&& (255 : Int32)) < 0 ∧ ¬ (255 : Int32) < (x &&& (255 : Int32)) := by
  have q := c_and x 255 (by decide)
  have e : (255 : Int32).toInt = 255 := rfl
  simp only [Int32.lt_iff_toInt_lt, Int32.reduceToInt, e] at q ⊢
  omega
theorem own_narB (x : Int32) : nar .byte (x.toInt8.toInt32) = x.toInt8.toInt32 := by simp [nar]
theorem own_nochar (x : Int32) : nar .char (x &&& (255 : Int32)) = x &&& (255 : Int32) := i2c_mask x
def own_mkL (a l : Int32) : List Int32 := if l = (0 : Int32) then [] else if l = (1 : Int32) then [(a &&& (255 : Int32))] else [(a &&& (255 : Int32)), (((a.toUInt32 >>> ((8 : Int32) &&& 31).toUInt32).toInt32) &&& (255 : Int32))]
theorem own_mod3 (x : Int32) : ((x &&& (3 : Int32)) % (3 : Int32)) = 0 ∨ ((x &&& (3 : Int32)) % (3 : Int32)) = 1 ∨ ((x &&& (3 : Int32)) % (3 : Int32)) = 2 := by
  have h1 := c_mask x 3 2 (by decide) (by decide)
  have h2 := (c_irem (x &&& 3) 3 3 (by decide)).1
  have e : ∀ y z : Int32, y.toInt = z.toInt → y = z := fun y z q => Int32.toInt_inj.mp q
  rcases (show (x &&& 3).toInt % 3 = 0 ∨ (x &&& 3).toInt % 3 = 1 ∨ (x &&& 3).toInt % 3 = 2 by omega) with q | q | q
  · exact Or.inl (e _ _ (by rw [h2 (by omega), q]; rfl))
  · exact Or.inr (Or.inl (e _ _ (by rw [h2 (by omega), q]; rfl)))
  · exact Or.inr (Or.inr (e _ _ (by rw [h2 (by omega), q]; rfl)))
theorem dd_jdk_31_method_11_code_0 : decode jdk_31_method_11_code 0 = .ok (.aload_n 0, 1) := by decide +kernel
theorem dd_jdk_31_method_11_code_1 : decode jdk_31_method_11_code 1 = .ok (.ifnonnull 12, 3) := by decide +kernel
theorem dd_jdk_31_method_11_code_13 : decode jdk_31_method_11_code 13 = .ok (.aload_n 0, 1) := by decide +kernel
theorem dd_jdk_31_method_11_code_14 : decode jdk_31_method_11_code 14 = .ok (.areturn, 1) := by decide +kernel
theorem dd_jdk_42_method_149_code_0 : decode jdk_42_method_149_code 0 = .ok (.aload_n 0, 1) := by decide +kernel
theorem dd_jdk_42_method_149_code_1 : decode jdk_42_method_149_code 1 = .ok (.invokespecial 1, 3) := by decide +kernel
theorem dd_jdk_42_method_149_code_4 : decode jdk_42_method_149_code 4 = .ok (.iload_n 3, 1) := by decide +kernel
theorem dd_jdk_42_method_149_code_5 : decode jdk_42_method_149_code 5 = .ok (.ifCond .ne 22, 3) := by decide +kernel
theorem dd_jdk_42_method_149_code_8 : decode jdk_42_method_149_code 8 = .ok (.aload_n 0, 1) := by decide +kernel
theorem dd_jdk_42_method_149_code_9 : decode jdk_42_method_149_code 9 = .ok (.ldc 7, 2) := by decide +kernel
theorem dd_jdk_42_method_149_code_11 : decode jdk_42_method_149_code 11 = .ok (.getfield 9, 3) := by decide +kernel
theorem dd_jdk_42_method_149_code_14 : decode jdk_42_method_149_code 14 = .ok (.putfield 9, 3) := by decide +kernel
theorem dd_jdk_42_method_149_code_17 : decode jdk_42_method_149_code 17 = .ok (.aload_n 0, 1) := by decide +kernel
theorem dd_jdk_42_method_149_code_18 : decode jdk_42_method_149_code 18 = .ok (.ldc 7, 2) := by decide +kernel
theorem dd_jdk_42_method_149_code_20 : decode jdk_42_method_149_code 20 = .ok (.getfield 15, 3) := by decide +kernel
theorem dd_jdk_42_method_149_code_23 : decode jdk_42_method_149_code 23 = .ok (.putfield 15, 3) := by decide +kernel
theorem dd_jdk_42_method_149_code_26 : decode jdk_42_method_149_code 26 = .ok (.return_, 1) := by decide +kernel
theorem dd_jdk_42_method_3_code_0 : decode jdk_42_method_3_code 0 = .ok (.aload_n 0, 1) := by decide +kernel
theorem dd_jdk_42_method_3_code_1 : decode jdk_42_method_3_code 1 = .ok (.aload_n 1, 1) := by decide +kernel
theorem dd_jdk_42_method_3_code_2 : decode jdk_42_method_3_code 2 = .ok (.iconst 0, 1) := by decide +kernel
theorem dd_jdk_42_method_3_code_3 : decode jdk_42_method_3_code 3 = .ok (.aload_n 1, 1) := by decide +kernel
theorem dd_jdk_42_method_3_code_4 : decode jdk_42_method_3_code 4 = .ok (.arraylength, 1) := by decide +kernel
theorem dd_jdk_42_method_3_code_5 : decode jdk_42_method_3_code 5 = .ok (.aconst_null, 1) := by decide +kernel
theorem dd_jdk_42_method_3_code_6 : decode jdk_42_method_3_code 6 = .ok (.invokespecial 27, 3) := by decide +kernel
theorem dd_jdk_42_method_3_code_9 : decode jdk_42_method_3_code 9 = .ok (.return_, 1) := by decide +kernel
theorem dd_method_2_code_0 : decode method_2_code 0 = .ok (.iconst 0, 1) := by decide +kernel
theorem dd_method_2_code_1 : decode method_2_code 1 = .ok (.newarray .char, 2) := by decide +kernel
theorem dd_method_2_code_3 : decode method_2_code 3 = .ok (.astore_n 2, 1) := by decide +kernel
theorem dd_method_2_code_4 : decode method_2_code 4 = .ok (.iconst 1, 1) := by decide +kernel
theorem dd_method_2_code_5 : decode method_2_code 5 = .ok (.newarray .char, 2) := by decide +kernel
theorem dd_method_2_code_7 : decode method_2_code 7 = .ok (.astore_n 3, 1) := by decide +kernel
theorem dd_method_2_code_8 : decode method_2_code 8 = .ok (.iconst 2, 1) := by decide +kernel
theorem dd_method_2_code_9 : decode method_2_code 9 = .ok (.newarray .char, 2) := by decide +kernel
theorem dd_method_2_code_11 : decode method_2_code 11 = .ok (.astore 4, 2) := by decide +kernel
theorem dd_method_2_code_13 : decode method_2_code 13 = .ok (.aload_n 3, 1) := by decide +kernel
theorem dd_method_2_code_14 : decode method_2_code 14 = .ok (.iconst 0, 1) := by decide +kernel
theorem dd_method_2_code_15 : decode method_2_code 15 = .ok (.iload_n 0, 1) := by decide +kernel
theorem dd_method_2_code_16 : decode method_2_code 16 = .ok (.sipush 255, 3) := by decide +kernel
theorem dd_method_2_code_19 : decode method_2_code 19 = .ok (.iand, 1) := by decide +kernel
theorem dd_method_2_code_20 : decode method_2_code 20 = .ok (.i2c, 1) := by decide +kernel
theorem dd_method_2_code_21 : decode method_2_code 21 = .ok (.castore, 1) := by decide +kernel
theorem dd_method_2_code_22 : decode method_2_code 22 = .ok (.aload 4, 2) := by decide +kernel
theorem dd_method_2_code_24 : decode method_2_code 24 = .ok (.iconst 0, 1) := by decide +kernel
theorem dd_method_2_code_25 : decode method_2_code 25 = .ok (.iload_n 0, 1) := by decide +kernel
theorem dd_method_2_code_26 : decode method_2_code 26 = .ok (.sipush 255, 3) := by decide +kernel
theorem dd_method_2_code_29 : decode method_2_code 29 = .ok (.iand, 1) := by decide +kernel
theorem dd_method_2_code_30 : decode method_2_code 30 = .ok (.i2c, 1) := by decide +kernel
theorem dd_method_2_code_31 : decode method_2_code 31 = .ok (.castore, 1) := by decide +kernel
theorem dd_method_2_code_32 : decode method_2_code 32 = .ok (.aload 4, 2) := by decide +kernel
theorem dd_method_2_code_34 : decode method_2_code 34 = .ok (.iconst 1, 1) := by decide +kernel
theorem dd_method_2_code_35 : decode method_2_code 35 = .ok (.iload_n 0, 1) := by decide +kernel
theorem dd_method_2_code_36 : decode method_2_code 36 = .ok (.bipush 8, 2) := by decide +kernel
theorem dd_method_2_code_38 : decode method_2_code 38 = .ok (.iushr, 1) := by decide +kernel
theorem dd_method_2_code_39 : decode method_2_code 39 = .ok (.sipush 255, 3) := by decide +kernel
theorem dd_method_2_code_42 : decode method_2_code 42 = .ok (.iand, 1) := by decide +kernel
theorem dd_method_2_code_43 : decode method_2_code 43 = .ok (.i2c, 1) := by decide +kernel
theorem dd_method_2_code_44 : decode method_2_code 44 = .ok (.castore, 1) := by decide +kernel
theorem dd_method_2_code_45 : decode method_2_code 45 = .ok (.iload_n 1, 1) := by decide +kernel
theorem dd_method_2_code_46 : decode method_2_code 46 = .ok (.ifCond .ne 12, 3) := by decide +kernel
theorem dd_method_2_code_49 : decode method_2_code 49 = .ok (.new 7, 3) := by decide +kernel
theorem dd_method_2_code_52 : decode method_2_code 52 = .ok (.dup, 1) := by decide +kernel
theorem dd_method_2_code_53 : decode method_2_code 53 = .ok (.aload_n 2, 1) := by decide +kernel
theorem dd_method_2_code_54 : decode method_2_code 54 = .ok (.invokespecial 9, 3) := by decide +kernel
theorem dd_method_2_code_57 : decode method_2_code 57 = .ok (.areturn, 1) := by decide +kernel
theorem dd_method_2_code_58 : decode method_2_code 58 = .ok (.iload_n 1, 1) := by decide +kernel
theorem dd_method_2_code_59 : decode method_2_code 59 = .ok (.iconst 1, 1) := by decide +kernel
theorem dd_method_2_code_60 : decode method_2_code 60 = .ok (.if_icmp .ne 12, 3) := by decide +kernel
theorem dd_method_2_code_63 : decode method_2_code 63 = .ok (.new 7, 3) := by decide +kernel
theorem dd_method_2_code_66 : decode method_2_code 66 = .ok (.dup, 1) := by decide +kernel
theorem dd_method_2_code_67 : decode method_2_code 67 = .ok (.aload_n 3, 1) := by decide +kernel
theorem dd_method_2_code_68 : decode method_2_code 68 = .ok (.invokespecial 9, 3) := by decide +kernel
theorem dd_method_2_code_71 : decode method_2_code 71 = .ok (.areturn, 1) := by decide +kernel
theorem dd_method_2_code_72 : decode method_2_code 72 = .ok (.new 7, 3) := by decide +kernel
theorem dd_method_2_code_75 : decode method_2_code 75 = .ok (.dup, 1) := by decide +kernel
theorem dd_method_2_code_76 : decode method_2_code 76 = .ok (.aload 4, 2) := by decide +kernel
theorem dd_method_2_code_78 : decode method_2_code 78 = .ok (.invokespecial 9, 3) := by decide +kernel
theorem dd_method_2_code_81 : decode method_2_code 81 = .ok (.areturn, 1) := by decide +kernel
theorem dd_method_3_code_0 : decode method_3_code 0 = .ok (.aload_n 0, 1) := by decide +kernel
theorem dd_method_3_code_1 : decode method_3_code 1 = .ok (.ifnonnull 5, 3) := by decide +kernel
theorem dd_method_3_code_6 : decode method_3_code 6 = .ok (.aload_n 0, 1) := by decide +kernel
theorem dd_method_3_code_7 : decode method_3_code 7 = .ok (.invokevirtual 12, 3) := by decide +kernel
theorem dd_method_3_code_10 : decode method_3_code 10 = .ok (.iload_n 2, 1) := by decide +kernel
theorem dd_method_3_code_11 : decode method_3_code 11 = .ok (.if_icmp .eq 5, 3) := by decide +kernel
theorem dd_method_3_code_16 : decode method_3_code 16 = .ok (.iload_n 2, 1) := by decide +kernel
theorem dd_method_3_code_17 : decode method_3_code 17 = .ok (.iconst 1, 1) := by decide +kernel
theorem dd_method_3_code_18 : decode method_3_code 18 = .ok (.if_icmp .lt 19, 3) := by decide +kernel
theorem dd_method_3_code_21 : decode method_3_code 21 = .ok (.aload_n 0, 1) := by decide +kernel
theorem dd_method_3_code_22 : decode method_3_code 22 = .ok (.iconst 0, 1) := by decide +kernel
theorem dd_method_3_code_23 : decode method_3_code 23 = .ok (.invokevirtual 16, 3) := by decide +kernel
theorem dd_method_3_code_26 : decode method_3_code 26 = .ok (.iload_n 1, 1) := by decide +kernel
theorem dd_method_3_code_27 : decode method_3_code 27 = .ok (.sipush 255, 3) := by decide +kernel
theorem dd_method_3_code_30 : decode method_3_code 30 = .ok (.iand, 1) := by decide +kernel
theorem dd_method_3_code_31 : decode method_3_code 31 = .ok (.i2c, 1) := by decide +kernel
theorem dd_method_3_code_32 : decode method_3_code 32 = .ok (.if_icmp .eq 5, 3) := by decide +kernel
theorem dd_method_3_code_37 : decode method_3_code 37 = .ok (.iload_n 2, 1) := by decide +kernel
theorem dd_method_3_code_38 : decode method_3_code 38 = .ok (.iconst 2, 1) := by decide +kernel
theorem dd_method_3_code_39 : decode method_3_code 39 = .ok (.if_icmp .lt 22, 3) := by decide +kernel
theorem dd_method_3_code_42 : decode method_3_code 42 = .ok (.aload_n 0, 1) := by decide +kernel
theorem dd_method_3_code_43 : decode method_3_code 43 = .ok (.iconst 1, 1) := by decide +kernel
theorem dd_method_3_code_44 : decode method_3_code 44 = .ok (.invokevirtual 16, 3) := by decide +kernel
theorem dd_method_3_code_47 : decode method_3_code 47 = .ok (.iload_n 1, 1) := by decide +kernel
theorem dd_method_3_code_48 : decode method_3_code 48 = .ok (.bipush 8, 2) := by decide +kernel
theorem dd_method_3_code_50 : decode method_3_code 50 = .ok (.iushr, 1) := by decide +kernel
theorem dd_method_3_code_51 : decode method_3_code 51 = .ok (.sipush 255, 3) := by decide +kernel
theorem dd_method_3_code_54 : decode method_3_code 54 = .ok (.iand, 1) := by decide +kernel
theorem dd_method_3_code_55 : decode method_3_code 55 = .ok (.i2c, 1) := by decide +kernel
theorem dd_method_3_code_56 : decode method_3_code 56 = .ok (.if_icmp .eq 5, 3) := by decide +kernel
theorem dd_method_3_code_61 : decode method_3_code 61 = .ok (.iconst 1, 1) := by decide +kernel
theorem dd_method_3_code_62 : decode method_3_code 62 = .ok (.ireturn, 1) := by decide +kernel
theorem dd_prog_36_method_10_code_0 : decode prog_36_method_10_code 0 = .ok (.aload_n 0, 1) := by decide +kernel
theorem dd_prog_36_method_10_code_1 : decode prog_36_method_10_code 1 = .ok (.getfield 23, 3) := by decide +kernel
theorem dd_prog_36_method_10_code_4 : decode prog_36_method_10_code 4 = .ok (.areturn, 1) := by decide +kernel
theorem dd_prog_36_method_11_code_0 : decode prog_36_method_11_code 0 = .ok (.aload_n 0, 1) := by decide +kernel
theorem dd_prog_36_method_11_code_1 : decode prog_36_method_11_code 1 = .ok (.getfield 26, 3) := by decide +kernel
theorem dd_prog_36_method_11_code_4 : decode prog_36_method_11_code 4 = .ok (.areturn, 1) := by decide +kernel
theorem dd_prog_36_method_12_code_0 : decode prog_36_method_12_code 0 = .ok (.aload_n 0, 1) := by decide +kernel
theorem dd_prog_36_method_12_code_1 : decode prog_36_method_12_code 1 = .ok (.getfield 30, 3) := by decide +kernel
theorem dd_prog_36_method_12_code_4 : decode prog_36_method_12_code 4 = .ok (.areturn, 1) := by decide +kernel
theorem dd_prog_36_method_13_code_0 : decode prog_36_method_13_code 0 = .ok (.aload_n 0, 1) := by decide +kernel
theorem dd_prog_36_method_13_code_1 : decode prog_36_method_13_code 1 = .ok (.getfield 33, 3) := by decide +kernel
theorem dd_prog_36_method_13_code_4 : decode prog_36_method_13_code 4 = .ok (.areturn, 1) := by decide +kernel
theorem dd_prog_36_method_1_code_0 : decode prog_36_method_1_code 0 = .ok (.aload_n 0, 1) := by decide +kernel
theorem dd_prog_36_method_1_code_1 : decode prog_36_method_1_code 1 = .ok (.invokespecial 1, 3) := by decide +kernel
theorem dd_prog_36_method_1_code_4 : decode prog_36_method_1_code 4 = .ok (.aload_n 0, 1) := by decide +kernel
theorem dd_prog_36_method_1_code_5 : decode prog_36_method_1_code 5 = .ok (.aload_n 1, 1) := by decide +kernel
theorem dd_prog_36_method_1_code_6 : decode prog_36_method_1_code 6 = .ok (.putfield 7, 3) := by decide +kernel
theorem dd_prog_36_method_1_code_9 : decode prog_36_method_1_code 9 = .ok (.aload_n 0, 1) := by decide +kernel
theorem dd_prog_36_method_1_code_10 : decode prog_36_method_1_code 10 = .ok (.aload_n 2, 1) := by decide +kernel
theorem dd_prog_36_method_1_code_11 : decode prog_36_method_1_code 11 = .ok (.putfield 13, 3) := by decide +kernel
theorem dd_prog_36_method_1_code_14 : decode prog_36_method_1_code 14 = .ok (.aload_n 0, 1) := by decide +kernel
theorem dd_prog_36_method_1_code_15 : decode prog_36_method_1_code 15 = .ok (.aload_n 3, 1) := by decide +kernel
theorem dd_prog_36_method_1_code_16 : decode prog_36_method_1_code 16 = .ok (.putfield 17, 3) := by decide +kernel
theorem dd_prog_36_method_1_code_19 : decode prog_36_method_1_code 19 = .ok (.aload_n 0, 1) := by decide +kernel
theorem dd_prog_36_method_1_code_20 : decode prog_36_method_1_code 20 = .ok (.aload 4, 2) := by decide +kernel
theorem dd_prog_36_method_1_code_22 : decode prog_36_method_1_code 22 = .ok (.putfield 20, 3) := by decide +kernel
theorem dd_prog_36_method_1_code_25 : decode prog_36_method_1_code 25 = .ok (.aload_n 0, 1) := by decide +kernel
theorem dd_prog_36_method_1_code_26 : decode prog_36_method_1_code 26 = .ok (.aload 5, 2) := by decide +kernel
theorem dd_prog_36_method_1_code_28 : decode prog_36_method_1_code 28 = .ok (.putfield 23, 3) := by decide +kernel
theorem dd_prog_36_method_1_code_31 : decode prog_36_method_1_code 31 = .ok (.aload_n 0, 1) := by decide +kernel
theorem dd_prog_36_method_1_code_32 : decode prog_36_method_1_code 32 = .ok (.aload 6, 2) := by decide +kernel
theorem dd_prog_36_method_1_code_34 : decode prog_36_method_1_code 34 = .ok (.putfield 26, 3) := by decide +kernel
theorem dd_prog_36_method_1_code_37 : decode prog_36_method_1_code 37 = .ok (.aload_n 0, 1) := by decide +kernel
theorem dd_prog_36_method_1_code_38 : decode prog_36_method_1_code 38 = .ok (.aload 7, 2) := by decide +kernel
theorem dd_prog_36_method_1_code_40 : decode prog_36_method_1_code 40 = .ok (.putfield 30, 3) := by decide +kernel
theorem dd_prog_36_method_1_code_43 : decode prog_36_method_1_code 43 = .ok (.aload_n 0, 1) := by decide +kernel
theorem dd_prog_36_method_1_code_44 : decode prog_36_method_1_code 44 = .ok (.aload 8, 2) := by decide +kernel
theorem dd_prog_36_method_1_code_46 : decode prog_36_method_1_code 46 = .ok (.putfield 33, 3) := by decide +kernel
theorem dd_prog_36_method_1_code_49 : decode prog_36_method_1_code 49 = .ok (.return_, 1) := by decide +kernel
theorem dd_prog_36_method_2_code_0 : decode prog_36_method_2_code 0 = .ok (.new 8, 3) := by decide +kernel
theorem dd_prog_36_method_2_code_3 : decode prog_36_method_2_code 3 = .ok (.dup, 1) := by decide +kernel
theorem dd_prog_36_method_2_code_4 : decode prog_36_method_2_code 4 = .ok (.getstatic 37, 3) := by decide +kernel
theorem dd_prog_36_method_2_code_7 : decode prog_36_method_2_code 7 = .ok (.aload_n 0, 1) := by decide +kernel
theorem dd_prog_36_method_2_code_8 : decode prog_36_method_2_code 8 = .ok (.ldc 42, 2) := by decide +kernel
theorem dd_prog_36_method_2_code_10 : decode prog_36_method_2_code 10 = .ok (.invokestatic 43, 3) := by decide +kernel
theorem dd_prog_36_method_2_code_13 : decode prog_36_method_2_code 13 = .ok (.checkcast 49, 3) := by decide +kernel
theorem dd_prog_36_method_2_code_16 : decode prog_36_method_2_code 16 = .ok (.aload_n 1, 1) := by decide +kernel
theorem dd_prog_36_method_2_code_17 : decode prog_36_method_2_code 17 = .ok (.ldc 51, 2) := by decide +kernel
theorem dd_prog_36_method_2_code_19 : decode prog_36_method_2_code 19 = .ok (.invokestatic 43, 3) := by decide +kernel
theorem dd_prog_36_method_2_code_22 : decode prog_36_method_2_code 22 = .ok (.checkcast 49, 3) := by decide +kernel
theorem dd_prog_36_method_2_code_25 : decode prog_36_method_2_code 25 = .ok (.aconst_null, 1) := by decide +kernel
theorem dd_prog_36_method_2_code_26 : decode prog_36_method_2_code 26 = .ok (.aconst_null, 1) := by decide +kernel
theorem dd_prog_36_method_2_code_27 : decode prog_36_method_2_code 27 = .ok (.aconst_null, 1) := by decide +kernel
theorem dd_prog_36_method_2_code_28 : decode prog_36_method_2_code 28 = .ok (.aconst_null, 1) := by decide +kernel
theorem dd_prog_36_method_2_code_29 : decode prog_36_method_2_code 29 = .ok (.aconst_null, 1) := by decide +kernel
theorem dd_prog_36_method_2_code_30 : decode prog_36_method_2_code 30 = .ok (.invokespecial 52, 3) := by decide +kernel
theorem dd_prog_36_method_2_code_33 : decode prog_36_method_2_code 33 = .ok (.areturn, 1) := by decide +kernel
theorem dd_prog_36_method_6_code_0 : decode prog_36_method_6_code 0 = .ok (.aload_n 0, 1) := by decide +kernel
theorem dd_prog_36_method_6_code_1 : decode prog_36_method_6_code 1 = .ok (.getfield 7, 3) := by decide +kernel
theorem dd_prog_36_method_6_code_4 : decode prog_36_method_6_code 4 = .ok (.areturn, 1) := by decide +kernel
theorem dd_prog_36_method_7_code_0 : decode prog_36_method_7_code 0 = .ok (.aload_n 0, 1) := by decide +kernel
theorem dd_prog_36_method_7_code_1 : decode prog_36_method_7_code 1 = .ok (.getfield 13, 3) := by decide +kernel
theorem dd_prog_36_method_7_code_4 : decode prog_36_method_7_code 4 = .ok (.areturn, 1) := by decide +kernel
theorem dd_prog_36_method_8_code_0 : decode prog_36_method_8_code 0 = .ok (.aload_n 0, 1) := by decide +kernel
theorem dd_prog_36_method_8_code_1 : decode prog_36_method_8_code 1 = .ok (.getfield 17, 3) := by decide +kernel
theorem dd_prog_36_method_8_code_4 : decode prog_36_method_8_code 4 = .ok (.areturn, 1) := by decide +kernel
theorem dd_prog_36_method_9_code_0 : decode prog_36_method_9_code 0 = .ok (.aload_n 0, 1) := by decide +kernel
theorem dd_prog_36_method_9_code_1 : decode prog_36_method_9_code 1 = .ok (.getfield 20, 3) := by decide +kernel
theorem dd_prog_36_method_9_code_4 : decode prog_36_method_9_code 4 = .ok (.areturn, 1) := by decide +kernel
theorem pd___CIILjava_lang_Void__V : parseMethodDescriptor "([CIILjava/lang/Void;)V" = some ⟨[(.array .char), .int, .int, (.object "java/lang/Void")], none⟩ := by decide +kernel
theorem pd___C_V : parseMethodDescriptor "([C)V" = some ⟨[(.array .char)], none⟩ := by decide +kernel
theorem pd__Ljava_lang_Object_Ljava_lang_String__Ljava_lang_Object_ : parseMethodDescriptor "(Ljava/lang/Object;Ljava/lang/String;)Ljava/lang/Object;" = some ⟨[(.object "java/lang/Object"), (.object "java/lang/String")], some (.object "java/lang/Object")⟩ := by decide +kernel
theorem pd__Lcom_example_fanoutd_fanoutd_subscription_SinkCredential_Type_Ljava_lang_String_Ljava_lang_String_Ljava_lang_String_Ljava_lang_String_Ljava_time_Instant_Ljava_lang_String_Ljava_net_URI__V : parseMethodDescriptor "(Lcom/example/fanoutd/fanoutd/subscription/SinkCredential$Type;Ljava/lang/String;Ljava/lang/String;Ljava/lang/String;Ljava/lang/String;Ljava/time/Instant;Ljava/lang/String;Ljava/net/URI;)V" = some ⟨[(.object "com/example/fanoutd/fanoutd/subscription/SinkCredential$Type"), (.object "java/lang/String"), (.object "java/lang/String"), (.object "java/lang/String"), (.object "java/lang/String"), (.object "java/time/Instant"), (.object "java/lang/String"), (.object "java/net/URI")], none⟩ := by decide +kernel
theorem pd__II_Ljava_lang_String_ : parseMethodDescriptor "(II)Ljava/lang/String;" = some ⟨[.int, .int], some (.object "java/lang/String")⟩ := by decide +kernel
theorem pd__Ljava_lang_String_Ljava_lang_String__Lcom_example_fanoutd_fanoutd_subscription_SinkCredential_ : parseMethodDescriptor "(Ljava/lang/String;Ljava/lang/String;)Lcom/example/fanoutd/fanoutd/subscription/SinkCredential;" = some ⟨[(.object "java/lang/String"), (.object "java/lang/String")], some (.object "com/example/fanoutd/fanoutd/subscription/SinkCredential")⟩ := by decide +kernel
theorem pd___Lcom_example_fanoutd_fanoutd_subscription_SinkCredential_Type_ : parseMethodDescriptor "()Lcom/example/fanoutd/fanoutd/subscription/SinkCredential$Type;" = some ⟨[], some (.object "com/example/fanoutd/fanoutd/subscription/SinkCredential$Type")⟩ := by decide +kernel
theorem pd___Ljava_lang_String_ : parseMethodDescriptor "()Ljava/lang/String;" = some ⟨[], some (.object "java/lang/String")⟩ := by decide +kernel
theorem pd__Ljava_lang_String_II_Z : parseMethodDescriptor "(Ljava/lang/String;II)Z" = some ⟨[(.object "java/lang/String"), .int, .int], some .boolean⟩ := by decide +kernel
theorem pd___Ljava_time_Instant_ : parseMethodDescriptor "()Ljava/time/Instant;" = some ⟨[], some (.object "java/time/Instant")⟩ := by decide +kernel
theorem pd___Ljava_net_URI_ : parseMethodDescriptor "()Ljava/net/URI;" = some ⟨[], some (.object "java/net/URI")⟩ := by decide +kernel
set_option maxRecDepth 65536 in
set_option maxHeartbeats 4000000 in
theorem own_init4E (l : Launch) {Z : State} {a0 : Array Value} (hE : Ctx Z a0) {n0 : Nat} {h0 : Heap} (O : Old Z n0 h0) {x0 : Addr} {b0 : Addr} (hx0 : n0 ≤ x0) (P0 : Exa Z h0 x0 "java/lang/String") (P1 : Fld Z h0 x0 "java/lang/String" "value" "[B" .null) (P2 : Fld Z h0 x0 "java/lang/String" "coder" "B" (.int (0 : Int32))) :
    Met l (⟨"java/lang/String", "<init>", "([CIILjava/lang/Void;)V"⟩ : MethodName) jdk_42_method_149_code 6 (Option.none : Option Jvm.ClassFile.FieldType) ({ frames := 1, cells := 4, slots := 8, locals := 12 } : Room) Z consts_1 n0 [] #[(.ref x0), (.ref b0), (.int (0 : Int32)), (.int (0 : Int32)), .null] h0 (fun v h => ∃ (t : Addr), v = none ∧ Str Z h x0 t [] ∧ Keep h0 h [x0]) := by
  have hw := hE.1
  have hEL := own_EW hw
  have own_wS := own_stringAtoms hw
  refine Met.of (by first | (refine plainFor_of_name ?_; simp [plainName, overriddenIn]; done) | decide +kernel) O ?_
  intro p e s m below meth c T0 hx hby hml hret hlk hnm hh0 W0
  have z0 := W0.ge
  have yP0 : h0.size > x0 := P0.lt
  refine Go.st (g' := (mkF m 0 #[.val (.ref x0), .val (.ref b0), .val (.int (0 : Int32)), .val (.int (0 : Int32)), .val .null, .unset] [])) (fun _ k => castTop (by first | rfl | (simp [entryFrame, mkF, argsToLocals, maxLocals, own_catI, own_catJ, own_catD, own_catA, own_catN]; done)) k) ?_
  refine Go.st (g' := (mkF m 1 #[.val (.ref x0), .val (.ref b0), .val (.int (0 : Int32)), .val (.int (0 : Int32)), .val .null, .unset] [(.ref x0)])) (fun _ k => XS.aloadN W0.here hx rfl (hb hby dd_jdk_42_method_149_code_0) rfl rfl  k) ?_
  obtain ⟨T1, W1, st1⟩ := W0.initO hx (hw _ (List.mem_of_getElem? (i := 15) rfl)) (hw _ (List.mem_of_getElem? (i := 16) rfl)) (hw _ (List.mem_of_getElem? (i := 17) rfl)) (g := (mkF m 1 #[.val (.ref x0), .val (.ref b0), .val (.int (0 : Int32)), .val (.int (0 : Int32)), .val .null, .unset] [(.ref x0)])) rfl (by rw [hml]; rfl) rfl (hb hby dd_jdk_42_method_149_code_1) (by decide) (Wd := 0) (by show 2 * 0 + _ ≤ _; exact Nat.le_of_eq rfl) (by decide)
  refine Go.st (g' := (mkF m 4 #[.val (.ref x0), .val (.ref b0), .val (.int (0 : Int32)), .val (.int (0 : Int32)), .val .null, .unset] [])) st1 ?_
  refine Go.st (g' := (mkF m 5 #[.val (.ref x0), .val (.ref b0), .val (.int (0 : Int32)), .val (.int (0 : Int32)), .val .null, .unset] [(.int (0 : Int32))])) (fun _ k => XS.iloadN W1.here hx rfl (hb hby dd_jdk_42_method_149_code_4) rfl  k) ?_
  refine Go.st (g' := (mkF m 8 #[.val (.ref x0), .val (.ref b0), .val (.int (0 : Int32)), .val (.int (0 : Int32)), .val .null, .unset] [])) (fun _ k => XS.ifNo W1.here hx rfl (hb hby dd_jdk_42_method_149_code_5) rfl ((if0 _ _).trans (teq (by decide)).2) k) ?_
  refine Go.st (g' := (mkF m 9 #[.val (.ref x0), .val (.ref b0), .val (.int (0 : Int32)), .val (.int (0 : Int32)), .val .null, .unset] [(.ref x0)])) (fun _ k => XS.aloadN W1.here hx rfl (hb hby dd_jdk_42_method_149_code_8) rfl rfl  k) ?_
  have S2 : Safe Z consts_1 s.vm h0 x0 := own_safe_blank W1.warm.alike P0 P1
  obtain ⟨a3, vm3, T3, h3, b3, k3, W3, E3, X3, Fc3, Fv3, A3, SF3, ne3, st3⟩ := W1.ldc hx (hw _ (List.mem_of_getElem? (i := 34) rfl)) own_wS hEL (by decide) (vs := []) (z := (0 : Int32)) (by decide) (by decide) (by decide) (g := (mkF m 9 #[.val (.ref x0), .val (.ref b0), .val (.int (0 : Int32)), .val (.int (0 : Int32)), .val .null, .unset] [(.ref x0)])) rfl (hb hby dd_jdk_42_method_149_code_9) (n := 0) (by decide) (by decide) (by decide) (by decide)
  have z3 := E3.1
  have zl3 : h3.size > a3 := X3.lt
  have zm3 : h3.size > b3 := A3.lt
  have F4 : Safe Z consts_1 vm3 h3 x0 := (SF3 _ (by omega) S2)
  have nn3_x0 := own_nn (ne3 _ F4).1
  have nm3_x0 := own_nn (ne3 _ F4).2
  refine Go.st (g' := (mkF m 11 #[.val (.ref x0), .val (.ref b0), .val (.int (0 : Int32)), .val (.int (0 : Int32)), .val .null, .unset] [(.ref a3), (.ref x0)])) st3 ?_
  obtain ⟨T5, W5, st5⟩ := W3.getF hx (hw _ (List.mem_of_getElem? (i := 32) rfl)) Via.refl Fv3 (g := (mkF m 11 #[.val (.ref x0), .val (.ref b0), .val (.int (0 : Int32)), .val (.int (0 : Int32)), .val .null, .unset] [(.ref a3), (.ref x0)])) rfl rfl (hb hby dd_jdk_42_method_149_code_11)
  refine Go.st (g' := (mkF m 14 #[.val (.ref x0), .val (.ref b0), .val (.int (0 : Int32)), .val (.int (0 : Int32)), .val .null, .unset] [(.ref b3), (.ref x0)])) st5 ?_
  have F7 : Fld Z h3 x0 "java/lang/String" "value" "[B" .null := (P1.ext E3)
  have F8 : Exa Z h3 x0 "java/lang/String" := (P0.ext E3)
  obtain ⟨T6, h6, W6, R6, z6, X6, SF6, st6⟩ := W5.putF hx (hw _ (List.mem_of_getElem? (i := 32) rfl)) Via.refl F7 F8 (Or.inr ⟨(hw _ (List.mem_of_getElem? (i := 33) rfl)), rfl, hnm⟩) (hw _ (List.mem_of_getElem? (i := 6) rfl)) (ty := (.array .byte)) (by decide) rfl rfl F4 (by omega) (g := (mkF m 14 #[.val (.ref x0), .val (.ref b0), .val (.int (0 : Int32)), .val (.int (0 : Int32)), .val .null, .unset] [(.ref b3), (.ref x0)])) rfl rfl (hb hby dd_jdk_42_method_149_code_14)
  refine Go.st (g' := (mkF m 17 #[.val (.ref x0), .val (.ref b0), .val (.int (0 : Int32)), .val (.int (0 : Int32)), .val .null, .unset] [])) st6 ?_
  refine Go.st (g' := (mkF m 18 #[.val (.ref x0), .val (.ref b0), .val (.int (0 : Int32)), .val (.int (0 : Int32)), .val .null, .unset] [(.ref x0)])) (fun _ k => XS.aloadN W6.here hx rfl (hb hby dd_jdk_42_method_149_code_17) rfl rfl  k) ?_
  obtain ⟨a9, vm9, T9, h9, b9, k9, W9, E9, X9, Fc9, Fv9, A9, SF9, ne9, st9⟩ := W6.ldc hx (hw _ (List.mem_of_getElem? (i := 34) rfl)) own_wS hEL (by decide) (vs := []) (z := (0 : Int32)) (by decide) (by decide) (by decide) (g := (mkF m 18 #[.val (.ref x0), .val (.ref b0), .val (.int (0 : Int32)), .val (.int (0 : Int32)), .val .null, .unset] [(.ref x0)])) rfl (hb hby dd_jdk_42_method_149_code_18) (n := 0) (by decide) (by decide) (by decide) (by decide)
  have z9 := E9.1
  have zl9 : h9.size > a9 := X9.lt
  have zm9 : h9.size > b9 := A9.lt
  have F10 : Safe Z consts_1 vm9 h9 x0 := (SF9 _ (by omega) (SF6 _ (by omega) F4))
  have nn9_x0 := own_nn (ne9 _ F10).1
  have nm9_x0 := own_nn (ne9 _ F10).2
  refine Go.st (g' := (mkF m 20 #[.val (.ref x0), .val (.ref b0), .val (.int (0 : Int32)), .val (.int (0 : Int32)), .val .null, .unset] [(.ref a9), (.ref x0)])) st9 ?_
  obtain ⟨T11, W11, st11⟩ := W9.getF hx (hw _ (List.mem_of_getElem? (i := 30) rfl)) Via.refl Fc9 (g := (mkF m 20 #[.val (.ref x0), .val (.ref b0), .val (.int (0 : Int32)), .val (.int (0 : Int32)), .val .null, .unset] [(.ref a9), (.ref x0)])) rfl rfl (hb hby dd_jdk_42_method_149_code_20)
  refine Go.st (g' := (mkF m 23 #[.val (.ref x0), .val (.ref b0), .val (.int (0 : Int32)), .val (.int (0 : Int32)), .val .null, .unset] [(.int (0 : Int32)), (.ref x0)])) st11 ?_
  have F13 : Fld Z h9 x0 "java/lang/String" "coder" "B" (.int (0 : Int32)) := (((P2.ext E3).other R6 (Or.inr (slot_ne (Or.inr (hw _ (List.mem_of_getElem? (i := 31) rfl))) (Or.inr (hw _ (List.mem_of_getElem? (i := 33) rfl))) (by decide) (t := .byte) (t' := (.array .byte)) (by decide) (by decide)))).ext E9)
  have F14 : Exa Z h9 x0 "java/lang/String" := ((F8.wr R6).ext E9)
  obtain ⟨T12, h12, W12, R12, z12, X12, SF12, st12⟩ := W11.putF hx (hw _ (List.mem_of_getElem? (i := 30) rfl)) Via.refl F13 F14 (Or.inr ⟨(hw _ (List.mem_of_getElem? (i := 31) rfl)), rfl, hnm⟩) (hw _ (List.mem_of_getElem? (i := 6) rfl)) (ty := .byte) (by decide) rfl rfl F10 (by omega) (g := (mkF m 23 #[.val (.ref x0), .val (.ref b0), .val (.int (0 : Int32)), .val (.int (0 : Int32)), .val .null, .unset] [(.int (0 : Int32)), (.ref x0)])) rfl rfl (hb hby dd_jdk_42_method_149_code_23)
  refine Go.st (g' := (mkF m 26 #[.val (.ref x0), .val (.ref b0), .val (.int (0 : Int32)), .val (.int (0 : Int32)), .val .null, .unset] [])) st12 ?_
  have F15 : Exa Z h12 x0 "java/lang/String" := (F14.wr R12)
  have F16 : Fld Z h12 x0 "java/lang/String" "value" "[B" (.ref b3) := ((X6.ext E9).other R12 (Or.inr (slot_ne (Or.inr (hw _ (List.mem_of_getElem? (i := 33) rfl))) (Or.inr (hw _ (List.mem_of_getElem? (i := 31) rfl))) (by decide) (t := (.array .byte)) (t' := .byte) (by decide) (by decide))))
  have F17 : Arv Z h12 b3 k3 .byte (0 : Int32) [] (.int (0 : Int32)) := (((A3.other R6 (own_ne (by omega))).ext E9).other R12 (own_ne (by omega)))
  have F18 : Str Z h12 x0 b3 [] := Str.lat F15 F16 X12 F17 rfl rfl own_all0 (Nat.le_of_ble_eq_true rfl)
  exact W12.retV hx hEL hlk hret (hb hby dd_jdk_42_method_149_code_26) (by decide) (by decide) ⟨b3, rfl, F18, (((((Keep.refl h0 [x0]).ext E3).wr R6 (Or.inl (List.mem_of_getElem? (i := 0) rfl))).ext E9).wr R12 (Or.inl (List.mem_of_getElem? (i := 0) rfl)))⟩
set_option maxRecDepth 65536 in
set_option maxHeartbeats 4000000 in
theorem own_init1E (l : Launch) {Z : State} {a0 : Array Value} (hE : Ctx Z a0) {n0 : Nat} {h0 : Heap} (O : Old Z n0 h0) {x0 : Addr} {b0 : Addr} {kb : ClassId} {vs0 : List Value} {d0 : Value} (hx0 : n0 ≤ x0) (P0 : Exa Z h0 x0 "java/lang/String") (P1 : Fld Z h0 x0 "java/lang/String" "value" "[B" .null) (P2 : Fld Z h0 x0 "java/lang/String" "coder" "B" (.int (0 : Int32))) (P3 : Arv Z h0 b0 kb .char (0 : Int32) vs0 d0) :
    Met l (⟨"java/lang/String", "<init>", "([C)V"⟩ : MethodName) jdk_42_method_3_code 2 (Option.none : Option Jvm.ClassFile.FieldType) ({ frames := 2, cells := 4, slots := 8, locals := 29 } : Room) Z consts_1 n0 [] #[(.ref x0), (.ref b0)] h0 (fun v h => ∃ (t : Addr), v = none ∧ Str Z h x0 t [] ∧ Keep h0 h [x0]) := by
  have hw := hE.1
  have hEL := own_EW hw
  have own_wS := own_stringAtoms hw
  refine Met.of (by first | (refine plainFor_of_name ?_; simp [plainName, overriddenIn]; done) | decide +kernel) O ?_
  intro p e s m below meth c T0 hx hby hml hret hlk hnm hh0 W0
  have z0 := W0.ge
  have yP0 : h0.size > x0 := P0.lt
  have yP3 : h0.size > b0 := P3.lt
  refine Go.st (g' := (mkF m 0 #[.val (.ref x0), .val (.ref b0)] [])) (fun _ k => castTop (by first | rfl | (simp [entryFrame, mkF, argsToLocals, maxLocals, own_catI, own_catJ, own_catD, own_catA, own_catN]; done)) k) ?_
  refine Go.st (g' := (mkF m 1 #[.val (.ref x0), .val (.ref b0)] [(.ref x0)])) (fun _ k => XS.aloadN W0.here hx rfl (hb hby dd_jdk_42_method_3_code_0) rfl rfl  k) ?_
  refine Go.st (g' := (mkF m 2 #[.val (.ref x0), .val (.ref b0)] [(.ref b0), (.ref x0)])) (fun _ k => XS.aloadN W0.here hx rfl (hb hby dd_jdk_42_method_3_code_1) rfl rfl  k) ?_
  refine Go.st (g' := (mkF m 3 #[.val (.ref x0), .val (.ref b0)] [(.int (0 : Int32)), (.ref b0), (.ref x0)])) (fun _ k => XS.iconst W0.here hx rfl (hb hby dd_jdk_42_method_3_code_2) k) ?_
  refine Go.st (g' := (mkF m 4 #[.val (.ref x0), .val (.ref b0)] [(.ref b0), (.int (0 : Int32)), (.ref b0), (.ref x0)])) (fun _ k => XS.aloadN W0.here hx rfl (hb hby dd_jdk_42_method_3_code_3) rfl rfl  k) ?_
  refine Go.st (g' := (mkF m 5 #[.val (.ref x0), .val (.ref b0)] [(.int (0 : Int32)), (.int (0 : Int32)), (.ref b0), (.ref x0)])) (W0.len hx P3 (g := (mkF m 4 #[.val (.ref x0), .val (.ref b0)] [(.ref b0), (.int (0 : Int32)), (.ref b0), (.ref x0)])) rfl rfl (hb hby dd_jdk_42_method_3_code_4)) ?_
  refine Go.st (g' := (mkF m 6 #[.val (.ref x0), .val (.ref b0)] [.null, (.int (0 : Int32)), (.int (0 : Int32)), (.ref b0), (.ref x0)])) (fun _ k => XS.aconstNull W0.here hx rfl (hb hby dd_jdk_42_method_3_code_5) k) ?_
  obtain ⟨_, vm1, T1, h1, W1, Q1, z1, SF1, st1⟩ := W0.callI hx hEL (own_init4E l hE W0.old (x0 := x0) (b0 := b0) (by omega) P0 P1 P2) rfl (hw _ (List.mem_of_getElem? (i := 11) rfl)) (hw _ (List.mem_of_getElem? (i := 12) rfl)) (hw _ (List.mem_of_getElem? (i := 7) rfl)) (hw _ (List.mem_of_getElem? (i := 14) rfl)) (by decide) (Wd := 0) (by decide) (by decide) (by decide) (by decide) (g := (mkF m 6 #[.val (.ref x0), .val (.ref b0)] [.null, (.int (0 : Int32)), (.int (0 : Int32)), (.ref b0), (.ref x0)])) rfl (by rw [hml]; rfl) (a := x0) (argsL := [(.ref b0), (.int (0 : Int32)), (.int (0 : Int32)), .null]) (rest := []) rfl (lenOf pd___CIILjava_lang_Void__V rfl) rfl (by show 2 * 0 + _ ≤ _; exact Nat.le_of_eq rfl) (hb hby dd_jdk_42_method_3_code_6)
  obtain ⟨t_1, rfl, f1_0, K1⟩ := Q1
  have yf1_0 : h1.size > x0 ∧ h1.size > t_1 := f1_0.lt
  refine Go.tr (g' := (mkF m 9 #[.val (.ref x0), .val (.ref b0)] [])) st1 ?_
  exact W1.retV hx hEL hlk hret (hb hby dd_jdk_42_method_3_code_9) (by decide) (by decide) ⟨t_1, rfl, f1_0, ((Keep.refl h0 [x0]).trans K1 (allS (Or.inl (List.mem_of_getElem? (i := 0) rfl)) all0))⟩
set_option maxRecDepth 65536 in
set_option maxHeartbeats 4000000 in
theorem own_mk (l : Launch) {Z : State} {a0 : Array Value} (hE : Ctx Z a0) {n0 : Nat} {h0 : Heap} (O : Old Z n0 h0) {a : Int32} {l0 : Int32}   :
    Met l (⟨"com/example/fanoutd/fanoutd/subscription/SinkCredentialPlainPinLaw", "mk", "(II)Ljava/lang/String;"⟩ : MethodName) method_2_code 5 (Option.some (Jvm.ClassFile.FieldType.object "java/lang/String")) ({ frames := 4, cells := 8, slots := 15, locals := 66 } : Room) Z consts_1 n0 [] #[(.int a), (.int l0)] h0 (fun v h => ∃ (x : Addr), ∃ (t : Addr), v = some (.ref x) ∧ h0.size ≤ x ∧ Str Z h x t (own_mkL a l0) ∧ Keep h0 h []) := by
  have hw := hE.1
  have hEL := own_EW hw
  have own_wS := own_stringAtoms hw
  obtain ⟨zc, hzc, hzc0⟩ := hE.2.1
  have hws : ∀ d ∈ StrChars.Road.words, d.before a0 Z = true := fun d hd => hw d ((by decide +kernel : ∀ d ∈ StrChars.Road.words, d ∈ tables_1) d hd)
  refine Met.of (by first | (refine plainFor_of_name ?_; simp [plainName, overriddenIn]; done) | decide +kernel) O ?_
  intro p e s m below meth c T0 hx hby hml hret hlk hnm hh0 W0
  have z0 := W0.ge
  refine Go.st (g' := (mkF m 0 #[.val (.int a), .val (.int l0), .unset, .unset, .unset] [])) (fun _ k => castTop (by first | rfl | (simp [entryFrame, mkF, argsToLocals, maxLocals, own_catI, own_catJ, own_catD, own_catA, own_catN]; done)) k) ?_
  refine Go.st (g' := (mkF m 1 #[.val (.int a), .val (.int l0), .unset, .unset, .unset] [(.int (0 : Int32))])) (fun _ k => XS.iconst W0.here hx rfl (hb hby dd_method_2_code_0) k) ?_
  obtain ⟨T1, h1, a1, k1, g1, W1, E1, z1, X1, S1, SF1, st1⟩ := W0.newP hx (ty := .char) rfl (hw _ (List.mem_of_getElem? (i := 4) rfl)) (g := (mkF m 1 #[.val (.int a), .val (.int l0), .unset, .unset, .unset] [(.int (0 : Int32))])) rfl (hb hby dd_method_2_code_1) rfl (by decide) (cap := 0) (by decide) (by decide) (by decide) (by decide) 0
  have F2 : Arv Z h1 a1 k1 .char (0 : Int32) [] (.int (0 : Int32)) := X1
  refine Go.st (g' := (mkF m 3 #[.val (.int a), .val (.int l0), .unset, .unset, .unset] [(.ref a1)])) st1 ?_
  refine Go.st (g' := (mkF m 4 #[.val (.int a), .val (.int l0), .val (.ref a1), .unset, .unset] [])) (fun _ k => XS.astoreN W1.here hx rfl (hb hby dd_method_2_code_3) rfl rfl (l' := #[.val (.int a), .val (.int l0), .val (.ref a1), .unset, .unset]) rfl k) ?_
  refine Go.st (g' := (mkF m 5 #[.val (.int a), .val (.int l0), .val (.ref a1), .unset, .unset] [(.int (1 : Int32))])) (fun _ k => XS.iconst W1.here hx rfl (hb hby dd_method_2_code_4) k) ?_
  obtain ⟨T3, h3, a3, k3, g3, W3, E3, z3, X3, S3, SF3, st3⟩ := W1.newP hx (ty := .char) rfl (hw _ (List.mem_of_getElem? (i := 4) rfl)) (g := (mkF m 5 #[.val (.int a), .val (.int l0), .val (.ref a1), .unset, .unset] [(.int (1 : Int32))])) rfl (hb hby dd_method_2_code_5) rfl (by decide) (cap := 1) (by decide) (by decide) (by decide) (by decide) 1
  have F4 : Arv Z h3 a3 k3 .char (1 : Int32) [(.int (0 : Int32))] (.int (0 : Int32)) := X3
  refine Go.st (g' := (mkF m 7 #[.val (.int a), .val (.int l0), .val (.ref a1), .unset, .unset] [(.ref a3)])) st3 ?_
  refine Go.st (g' := (mkF m 8 #[.val (.int a), .val (.int l0), .val (.ref a1), .val (.ref a3), .unset] [])) (fun _ k => XS.astoreN W3.here hx rfl (hb hby dd_method_2_code_7) rfl rfl (l' := #[.val (.int a), .val (.int l0), .val (.ref a1), .val (.ref a3), .unset]) rfl k) ?_
  refine Go.st (g' := (mkF m 9 #[.val (.int a), .val (.int l0), .val (.ref a1), .val (.ref a3), .unset] [(.int (2 : Int32))])) (fun _ k => XS.iconst W3.here hx rfl (hb hby dd_method_2_code_8) k) ?_
  obtain ⟨T5, h5, a5, k5, g5, W5, E5, z5, X5, S5, SF5, st5⟩ := W3.newP hx (ty := .char) rfl (hw _ (List.mem_of_getElem? (i := 4) rfl)) (g := (mkF m 9 #[.val (.int a), .val (.int l0), .val (.ref a1), .val (.ref a3), .unset] [(.int (2 : Int32))])) rfl (hb hby dd_method_2_code_9) rfl (by decide) (cap := 2) (by decide) (by decide) (by decide) (by decide) 2
  have F6 : Arv Z h5 a5 k5 .char (2 : Int32) [(.int (0 : Int32)), (.int (0 : Int32))] (.int (0 : Int32)) := X5
  refine Go.st (g' := (mkF m 11 #[.val (.int a), .val (.int l0), .val (.ref a1), .val (.ref a3), .unset] [(.ref a5)])) st5 ?_
  refine Go.st (g' := (mkF m 13 #[.val (.int a), .val (.int l0), .val (.ref a1), .val (.ref a3), .val (.ref a5)] [])) (fun _ k => XS.astore W5.here hx rfl (hb hby dd_method_2_code_11) rfl rfl (l' := #[.val (.int a), .val (.int l0), .val (.ref a1), .val (.ref a3), .val (.ref a5)]) rfl k) ?_
  refine Go.st (g' := (mkF m 14 #[.val (.int a), .val (.int l0), .val (.ref a1), .val (.ref a3), .val (.ref a5)] [(.ref a3)])) (fun _ k => XS.aloadN W5.here hx rfl (hb hby dd_method_2_code_13) rfl rfl  k) ?_
  refine Go.st (g' := (mkF m 15 #[.val (.int a), .val (.int l0), .val (.ref a1), .val (.ref a3), .val (.ref a5)] [(.int (0 : Int32)), (.ref a3)])) (fun _ k => XS.iconst W5.here hx rfl (hb hby dd_method_2_code_14) k) ?_
  refine Go.st (g' := (mkF m 16 #[.val (.int a), .val (.int l0), .val (.ref a1), .val (.ref a3), .val (.ref a5)] [(.int a), (.int (0 : Int32)), (.ref a3)])) (fun _ k => XS.iloadN W5.here hx rfl (hb hby dd_method_2_code_15) rfl  k) ?_
  refine Go.st (g' := (mkF m 19 #[.val (.int a), .val (.int l0), .val (.ref a1), .val (.ref a3), .val (.ref a5)] [(.int (255 : Int32)), (.int a), (.int (0 : Int32)), (.ref a3)])) (fun _ k => XS.sipush W5.here hx rfl (hb hby dd_method_2_code_16) k) ?_
  refine Go.st (g' := (mkF m 20 #[.val (.int a), .val (.int l0), .val (.ref a1), .val (.ref a3), .val (.ref a5)] [(.int (a &&& (255 : Int32))), (.int (0 : Int32)), (.ref a3)])) (fun _ k => XS.iand W5.here hx rfl (hb hby dd_method_2_code_19) rfl k) ?_
  refine Go.st (g' := (mkF m 21 #[.val (.int a), .val (.int l0), .val (.ref a1), .val (.ref a3), .val (.ref a5)] [(.int ((a &&& (255 : Int32)).toUInt32.toUInt16.toUInt32.toInt32)), (.int (0 : Int32)), (.ref a3)])) (fun _ k => XS.i2c W5.here hx rfl (hb hby dd_method_2_code_20) rfl k) ?_
  rw [i2c_mask]
  have F7 : Arv Z h5 a3 k3 .char (1 : Int32) [(.int (0 : Int32))] (.int (0 : Int32)) := (F4.ext E5)
  obtain ⟨T8, h8, W8, R8, z8, X8, SF8, st8⟩ := W5.stC hx F7  ⟨by decide, by decide⟩ 0 rfl (Nat.le_of_ble_eq_true rfl) (by omega) (g := (mkF m 21 #[.val (.int a), .val (.int l0), .val (.ref a1), .val (.ref a3), .val (.ref a5)] [(.int (a &&& (255 : Int32))), (.int (0 : Int32)), (.ref a3)])) rfl rfl (hb hby dd_method_2_code_21)
  have F9 : Arv Z h8 a3 k3 .char (1 : Int32) [(.int (a &&& (255 : Int32)))] (.int (0 : Int32)) := (by have q := X8; rw [show nar .char (a &&& (255 : Int32)) = (a &&& (255 : Int32)) from i2c_mask _] at q; exact q)
  refine Go.st (g' := (mkF m 22 #[.val (.int a), .val (.int l0), .val (.ref a1), .val (.ref a3), .val (.ref a5)] [])) st8 ?_
  refine Go.st (g' := (mkF m 24 #[.val (.int a), .val (.int l0), .val (.ref a1), .val (.ref a3), .val (.ref a5)] [(.ref a5)])) (fun _ k => XS.aload W8.here hx rfl (hb hby dd_method_2_code_22) rfl rfl  k) ?_
  refine Go.st (g' := (mkF m 25 #[.val (.int a), .val (.int l0), .val (.ref a1), .val (.ref a3), .val (.ref a5)] [(.int (0 : Int32)), (.ref a5)])) (fun _ k => XS.iconst W8.here hx rfl (hb hby dd_method_2_code_24) k) ?_
  refine Go.st (g' := (mkF m 26 #[.val (.int a), .val (.int l0), .val (.ref a1), .val (.ref a3), .val (.ref a5)] [(.int a), (.int (0 : Int32)), (.ref a5)])) (fun _ k => XS.iloadN W8.here hx rfl (hb hby dd_method_2_code_25) rfl  k) ?_
  refine Go.st (g' := (mkF m 29 #[.val (.int a), .val (.int l0), .val (.ref a1), .val (.ref a3), .val (.ref a5)] [(.int (255 : Int32)), (.int a), (.int (0 : Int32)), (.ref a5)])) (fun _ k => XS.sipush W8.here hx rfl (hb hby dd_method_2_code_26) k) ?_
  refine Go.st (g' := (mkF m 30 #[.val (.int a), .val (.int l0), .val (.ref a1), .val (.ref a3), .val (.ref a5)] [(.int (a &&& (255 : Int32))), (.int (0 : Int32)), (.ref a5)])) (fun _ k => XS.iand W8.here hx rfl (hb hby dd_method_2_code_29) rfl k) ?_
  refine Go.st (g' := (mkF m 31 #[.val (.int a), .val (.int l0), .val (.ref a1), .val (.ref a3), .val (.ref a5)] [(.int ((a &&& (255 : Int32)).toUInt32.toUInt16.toUInt32.toInt32)), (.int (0 : Int32)), (.ref a5)])) (fun _ k => XS.i2c W8.here hx rfl (hb hby dd_method_2_code_30) rfl k) ?_
  rw [i2c_mask]
  have F10 : Arv Z h8 a5 k5 .char (2 : Int32) [(.int (0 : Int32)), (.int (0 : Int32))] (.int (0 : Int32)) := (F6.other R8 (own_ne (by omega)))
  obtain ⟨T11, h11, W11, R11, z11, X11, SF11, st11⟩ := W8.stC hx F10  ⟨by decide, by decide⟩ 0 rfl (Nat.le_of_ble_eq_true rfl) (by omega) (g := (mkF m 31 #[.val (.int a), .val (.int l0), .val (.ref a1), .val (.ref a3), .val (.ref a5)] [(.int (a &&& (255 : Int32))), (.int (0 : Int32)), (.ref a5)])) rfl rfl (hb hby dd_method_2_code_31)
  have F12 : Arv Z h11 a5 k5 .char (2 : Int32) [(.int (a &&& (255 : Int32))), (.int (0 : Int32))] (.int (0 : Int32)) := (by have q := X11; rw [show nar .char (a &&& (255 : Int32)) = (a &&& (255 : Int32)) from i2c_mask _] at q; exact q)
  refine Go.st (g' := (mkF m 32 #[.val (.int a), .val (.int l0), .val (.ref a1), .val (.ref a3), .val (.ref a5)] [])) st11 ?_
  refine Go.st (g' := (mkF m 34 #[.val (.int a), .val (.int l0), .val (.ref a1), .val (.ref a3), .val (.ref a5)] [(.ref a5)])) (fun _ k => XS.aload W11.here hx rfl (hb hby dd_method_2_code_32) rfl rfl  k) ?_
  refine Go.st (g' := (mkF m 35 #[.val (.int a), .val (.int l0), .val (.ref a1), .val (.ref a3), .val (.ref a5)] [(.int (1 : Int32)), (.ref a5)])) (fun _ k => XS.iconst W11.here hx rfl (hb hby dd_method_2_code_34) k) ?_
  refine Go.st (g' := (mkF m 36 #[.val (.int a), .val (.int l0), .val (.ref a1), .val (.ref a3), .val (.ref a5)] [(.int a), (.int (1 : Int32)), (.ref a5)])) (fun _ k => XS.iloadN W11.here hx rfl (hb hby dd_method_2_code_35) rfl  k) ?_
  refine Go.st (g' := (mkF m 38 #[.val (.int a), .val (.int l0), .val (.ref a1), .val (.ref a3), .val (.ref a5)] [(.int (8 : Int32)), (.int a), (.int (1 : Int32)), (.ref a5)])) (fun _ k => XS.bipush W11.here hx rfl (hb hby dd_method_2_code_36) k) ?_
  refine Go.st (g' := (mkF m 39 #[.val (.int a), .val (.int l0), .val (.ref a1), .val (.ref a3), .val (.ref a5)] [(.int ((a.toUInt32 >>> ((8 : Int32) &&& 31).toUInt32).toInt32)), (.int (1 : Int32)), (.ref a5)])) (fun _ k => XS.iushr W11.here hx rfl (hb hby dd_method_2_code_38) rfl k) ?_
  refine Go.st (g' := (mkF m 42 #[.val (.int a), .val (.int l0), .val (.ref a1), .val (.ref a3), .val (.ref a5)] [(.int (255 : Int32)), (.int ((a.toUInt32 >>> ((8 : Int32) &&& 31).toUInt32).toInt32)), (.int (1 : Int32)), (.ref a5)])) (fun _ k => XS.sipush W11.here hx rfl (hb hby dd_method_2_code_39) k) ?_
  refine Go.st (g' := (mkF m 43 #[.val (.int a), .val (.int l0), .val (.ref a1), .val (.ref a3), .val (.ref a5)] [(.int (((a.toUInt32 >>> ((8 : Int32) &&& 31).toUInt32).toInt32) &&& (255 : Int32))), (.int (1 : Int32)), (.ref a5)])) (fun _ k => XS.iand W11.here hx rfl (hb hby dd_method_2_code_42) rfl k) ?_
  refine Go.st (g' := (mkF m 44 #[.val (.int a), .val (.int l0), .val (.ref a1), .val (.ref a3), .val (.ref a5)] [(.int ((((a.toUInt32 >>> ((8 : Int32) &&& 31).toUInt32).toInt32) &&& (255 : Int32)).toUInt32.toUInt16.toUInt32.toInt32)), (.int (1 : Int32)), (.ref a5)])) (fun _ k => XS.i2c W11.here hx rfl (hb hby dd_method_2_code_43) rfl k) ?_
  rw [i2c_mask]
  obtain ⟨T13, h13, W13, R13, z13, X13, SF13, st13⟩ := W11.stC hx F12  ⟨by decide, by decide⟩ 1 rfl (Nat.le_of_ble_eq_true rfl) (by omega) (g := (mkF m 44 #[.val (.int a), .val (.int l0), .val (.ref a1), .val (.ref a3), .val (.ref a5)] [(.int (((a.toUInt32 >>> ((8 : Int32) &&& 31).toUInt32).toInt32) &&& (255 : Int32))), (.int (1 : Int32)), (.ref a5)])) rfl rfl (hb hby dd_method_2_code_44)
  have F14 : Arv Z h13 a5 k5 .char (2 : Int32) [(.int (a &&& (255 : Int32))), (.int (((a.toUInt32 >>> ((8 : Int32) &&& 31).toUInt32).toInt32) &&& (255 : Int32)))] (.int (0 : Int32)) := (by have q := X13; rw [show nar .char (((a.toUInt32 >>> ((8 : Int32) &&& 31).toUInt32).toInt32) &&& (255 : Int32)) = (((a.toUInt32 >>> ((8 : Int32) &&& 31).toUInt32).toInt32) &&& (255 : Int32)) from i2c_mask _] at q; exact q)
  refine Go.st (g' := (mkF m 45 #[.val (.int a), .val (.int l0), .val (.ref a1), .val (.ref a3), .val (.ref a5)] [])) st13 ?_
  refine Go.st (g' := (mkF m 46 #[.val (.int a), .val (.int l0), .val (.ref a1), .val (.ref a3), .val (.ref a5)] [(.int l0)])) (fun _ k => XS.iloadN W13.here hx rfl (hb hby dd_method_2_code_45) rfl  k) ?_
  by_cases hc15 : l0 = (0 : Int32)
  · refine Go.st (g' := (mkF m 49 #[.val (.int a), .val (.int l0), .val (.ref a1), .val (.ref a3), .val (.ref a5)] [])) (fun _ k => XS.ifNo W13.here hx rfl (hb hby dd_method_2_code_46) rfl ((if0 _ _).trans (teq hc15).2) k) ?_
    obtain ⟨T16, h16, a16, g16, W16, E16, z16, X16, D16, S16, SF16, U16, st16⟩ := W13.newO hx (hw _ (List.mem_of_getElem? (i := 5) rfl)) (hw _ (List.mem_of_getElem? (i := 6) rfl)) (hw _ (List.mem_of_getElem? (i := 7) rfl)) (g := (mkF m 49 #[.val (.int a), .val (.int l0), .val (.ref a1), .val (.ref a3), .val (.ref a5)] [])) rfl (hb hby dd_method_2_code_49) (by decide) (by decide)
    have F17 : Fld Z h16 a16 "java/lang/String" "coder" "B" (.int (0 : Int32)) := D16 (Or.inr (hw _ (List.mem_of_getElem? (i := 31) rfl))) (ty := .byte) (by decide)
    have F18 : Fld Z h16 a16 "java/lang/String" "value" "[B" .null := D16 (Or.inr (hw _ (List.mem_of_getElem? (i := 33) rfl))) (ty := (.array .byte)) (by decide)
    refine Go.st (g' := (mkF m 52 #[.val (.int a), .val (.int l0), .val (.ref a1), .val (.ref a3), .val (.ref a5)] [(.ref a16)])) st16 ?_
    refine Go.st (g' := (mkF m 53 #[.val (.int a), .val (.int l0), .val (.ref a1), .val (.ref a3), .val (.ref a5)] [(.ref a16), (.ref a16)])) (fun _ k => XS.dup W16.here hx rfl (hb hby dd_method_2_code_52) rfl rfl k) ?_
    refine Go.st (g' := (mkF m 54 #[.val (.int a), .val (.int l0), .val (.ref a1), .val (.ref a3), .val (.ref a5)] [(.ref a1), (.ref a16), (.ref a16)])) (fun _ k => XS.aloadN W16.here hx rfl (hb hby dd_method_2_code_53) rfl rfl  k) ?_
    have F19 : Arv Z h16 a1 k1 .char (0 : Int32) [] (.int (0 : Int32)) := ((((((F2.ext E3).ext E5).other R8 (own_ne (by omega))).other R11 (own_ne (by omega))).other R13 (own_ne (by omega))).ext E16)
    obtain ⟨_, vm20, T20, h20, W20, Q20, z20, SF20, st20⟩ := W16.callI hx hEL (own_init1E l hE W16.old (x0 := a16) (b0 := a1) (kb := k1) (vs0 := []) (d0 := (.int (0 : Int32))) (by omega) X16 F18 F17 F19) rfl (hw _ (List.mem_of_getElem? (i := 8) rfl)) (hw _ (List.mem_of_getElem? (i := 9) rfl)) (hw _ (List.mem_of_getElem? (i := 7) rfl)) (hw _ (List.mem_of_getElem? (i := 10) rfl)) (by decide) (Wd := 1) (by decide) (by decide) (by decide) (by decide) (g := (mkF m 54 #[.val (.int a), .val (.int l0), .val (.ref a1), .val (.ref a3), .val (.ref a5)] [(.ref a1), (.ref a16), (.ref a16)])) rfl (by rw [hml]; rfl) (a := a16) (argsL := [(.ref a1)]) (rest := [(.ref a16)]) rfl (lenOf pd___C_V rfl) rfl (by show 2 * 0 + _ ≤ _; exact Nat.le_of_eq rfl) (hb hby dd_method_2_code_54)
    obtain ⟨t_20, rfl, f20_0, K20⟩ := Q20
    have yf20_0 : h20.size > a16 ∧ h20.size > t_20 := f20_0.lt
    refine Go.tr (g' := (mkF m 57 #[.val (.int a), .val (.int l0), .val (.ref a1), .val (.ref a3), .val (.ref a5)] [(.ref a16)])) st20 ?_
    exact W20.retA hx hEL hlk hret rfl rfl rfl (hb hby dd_method_2_code_57) (by decide) (by decide) ⟨a16, t_20, rfl, (by omega), (by unfold own_mkL; rw [if_pos hc15]; exact f20_0), (((((((((Keep.refl h0 []).ext E1).ext E3).ext E5).wr R8 (Or.inr (by omega))).wr R11 (Or.inr (by omega))).wr R13 (Or.inr (by omega))).ext E16).trans K20 (allS (Or.inr (by omega)) all0))⟩
  · refine Go.st (g' := (mkF m 58 #[.val (.int a), .val (.int l0), .val (.ref a1), .val (.ref a3), .val (.ref a5)] [])) (fun _ k => XS.ifYes W13.here hx rfl (pc0 := 46) (pc' := 58) rfl (hb hby dd_method_2_code_46) rfl ((if0 _ _).trans (feq hc15).2) (by decide) (by decide) k) ?_
    refine Go.st (g' := (mkF m 59 #[.val (.int a), .val (.int l0), .val (.ref a1), .val (.ref a3), .val (.ref a5)] [(.int l0)])) (fun _ k => XS.iloadN W13.here hx rfl (hb hby dd_method_2_code_58) rfl  k) ?_
    refine Go.st (g' := (mkF m 60 #[.val (.int a), .val (.int l0), .val (.ref a1), .val (.ref a3), .val (.ref a5)] [(.int (1 : Int32)), (.int l0)])) (fun _ k => XS.iconst W13.here hx rfl (hb hby dd_method_2_code_59) k) ?_
    by_cases hc21 : l0 = (1 : Int32)
    · refine Go.st (g' := (mkF m 63 #[.val (.int a), .val (.int l0), .val (.ref a1), .val (.ref a3), .val (.ref a5)] [])) (fun _ k => XS.icmpNo W13.here hx rfl (hb hby dd_method_2_code_60) rfl (teq hc21).2 k) ?_
      obtain ⟨T22, h22, a22, g22, W22, E22, z22, X22, D22, S22, SF22, U22, st22⟩ := W13.newO hx (hw _ (List.mem_of_getElem? (i := 5) rfl)) (hw _ (List.mem_of_getElem? (i := 6) rfl)) (hw _ (List.mem_of_getElem? (i := 7) rfl)) (g := (mkF m 63 #[.val (.int a), .val (.int l0), .val (.ref a1), .val (.ref a3), .val (.ref a5)] [])) rfl (hb hby dd_method_2_code_63) (by decide) (by decide)
      have F23 : Fld Z h22 a22 "java/lang/String" "coder" "B" (.int (0 : Int32)) := D22 (Or.inr (hw _ (List.mem_of_getElem? (i := 31) rfl))) (ty := .byte) (by decide)
      have F24 : Fld Z h22 a22 "java/lang/String" "value" "[B" .null := D22 (Or.inr (hw _ (List.mem_of_getElem? (i := 33) rfl))) (ty := (.array .byte)) (by decide)
      refine Go.st (g' := (mkF m 66 #[.val (.int a), .val (.int l0), .val (.ref a1), .val (.ref a3), .val (.ref a5)] [(.ref a22)])) st22 ?_
      refine Go.st (g' := (mkF m 67 #[.val (.int a), .val (.int l0), .val (.ref a1), .val (.ref a3), .val (.ref a5)] [(.ref a22), (.ref a22)])) (fun _ k => XS.dup W22.here hx rfl (hb hby dd_method_2_code_66) rfl rfl k) ?_
      refine Go.st (g' := (mkF m 68 #[.val (.int a), .val (.int l0), .val (.ref a1), .val (.ref a3), .val (.ref a5)] [(.ref a3), (.ref a22), (.ref a22)])) (fun _ k => XS.aloadN W22.here hx rfl (hb hby dd_method_2_code_67) rfl rfl  k) ?_
      have F25 : Arv Z h22 a3 k3 .char (1 : Int32) [(.int (a &&& (255 : Int32)))] (.int (0 : Int32)) := (((F9.other R11 (own_ne (by omega))).other R13 (own_ne (by omega))).ext E22)
      have hp26 : ∀ c ∈ ([(a &&& (255 : Int32))] : List Int32), ¬ c < 0 ∧ ¬ (255 : Int32) < c := (own_allS (own_and255 _) own_all0)
      obtain ⟨_, T26, h26, L26, W26, Q26, z26, SF26, st26⟩ := W22.paySp hx rfl (hw _ (List.mem_of_getElem? (i := 8) rfl)) (hw _ (List.mem_of_getElem? (i := 9) rfl)) (hw _ (List.mem_of_getElem? (i := 10) rfl)) (by decide) (Wd := 1) (ws := [a22]) (StrChars.Road.backV (W := 1) W22.warmS hws (kI := 4) (hw _ (List.mem_of_getElem? (i := 6) rfl)) (cs := ([(a &&& (255 : Int32))] : List Int32)) (bs := ([(a &&& (255 : Int32))] : List Int32).map (fun c => c.toInt8.toInt32)) (n := 1) (n0 := n0) (by omega) W22.ge X22 F24 F23 F25 (W22.sta hzc) hzc0 rfl rfl (by decide) (by decide) hp26 rfl (by decide) (by decide)) (fun v h' L q => ⟨q.2.2.1, q.2.1⟩) (allS S22 all0) (allS (by omega) all0) (by decide) (by decide) (g := (mkF m 68 #[.val (.int a), .val (.int l0), .val (.ref a1), .val (.ref a3), .val (.ref a5)] [(.ref a3), (.ref a22), (.ref a22)])) rfl (by rw [hml]; rfl) (a := a22) (argsL := [(.ref a3)]) (rest := [(.ref a22)]) rfl (lenOf pd___C_V rfl) rfl (by show 2 * 0 + _ ≤ _; exact Nat.le_of_eq rfl) (hb hby dd_method_2_code_68)
      obtain ⟨rfl, -, K26, X26, C26, t26, k26, -, y26, u26, V26, A26⟩ := Q26
      have ya26 : h26.size > t26 := A26.lt
      have F26 : Str Z h26 a22 t26 [(a &&& (255 : Int32))] := Str.lat X26 V26 C26 A26 rfl rfl hp26 (Nat.le_of_ble_eq_true rfl)
      refine Go.tr (g' := (mkF m 71 #[.val (.int a), .val (.int l0), .val (.ref a1), .val (.ref a3), .val (.ref a5)] [(.ref a22)])) st26 ?_
      exact W26.retA hx hEL hlk hret rfl rfl rfl (hb hby dd_method_2_code_71) (by decide) (by decide) ⟨a22, t26, rfl, (by omega), (by unfold own_mkL; rw [if_neg hc15, if_pos hc21]; exact F26), (((((((((Keep.refl h0 []).ext E1).ext E3).ext E5).wr R8 (Or.inr (by omega))).wr R11 (Or.inr (by omega))).wr R13 (Or.inr (by omega))).ext E22).trans K26 (allS (Or.inr (by omega)) all0))⟩
    · refine Go.st (g' := (mkF m 72 #[.val (.int a), .val (.int l0), .val (.ref a1), .val (.ref a3), .val (.ref a5)] [])) (fun _ k => XS.icmpYes W13.here hx rfl (pc0 := 60) (pc' := 72) rfl (hb hby dd_method_2_code_60) rfl (feq hc21).2 (by decide) (by decide) k) ?_
      obtain ⟨T27, h27, a27, g27, W27, E27, z27, X27, D27, S27, SF27, U27, st27⟩ := W13.newO hx (hw _ (List.mem_of_getElem? (i := 5) rfl)) (hw _ (List.mem_of_getElem? (i := 6) rfl)) (hw _ (List.mem_of_getElem? (i := 7) rfl)) (g := (mkF m 72 #[.val (.int a), .val (.int l0), .val (.ref a1), .val (.ref a3), .val (.ref a5)] [])) rfl (hb hby dd_method_2_code_72) (by decide) (by decide)
      have F28 : Fld Z h27 a27 "java/lang/String" "coder" "B" (.int (0 : Int32)) := D27 (Or.inr (hw _ (List.mem_of_getElem? (i := 31) rfl))) (ty := .byte) (by decide)
      have F29 : Fld Z h27 a27 "java/lang/String" "value" "[B" .null := D27 (Or.inr (hw _ (List.mem_of_getElem? (i := 33) rfl))) (ty := (.array .byte)) (by decide)
      refine Go.st (g' := (mkF m 75 #[.val (.int a), .val (.int l0), .val (.ref a1), .val (.ref a3), .val (.ref a5)] [(.ref a27)])) st27 ?_
      refine Go.st (g' := (mkF m 76 #[.val (.int a), .val (.int l0), .val (.ref a1), .val (.ref a3), .val (.ref a5)] [(.ref a27), (.ref a27)])) (fun _ k => XS.dup W27.here hx rfl (hb hby dd_method_2_code_75) rfl rfl k) ?_
      refine Go.st (g' := (mkF m 78 #[.val (.int a), .val (.int l0), .val (.ref a1), .val (.ref a3), .val (.ref a5)] [(.ref a5), (.ref a27), (.ref a27)])) (fun _ k => XS.aload W27.here hx rfl (hb hby dd_method_2_code_76) rfl rfl  k) ?_
      have F30 : Arv Z h27 a5 k5 .char (2 : Int32) [(.int (a &&& (255 : Int32))), (.int (((a.toUInt32 >>> ((8 : Int32) &&& 31).toUInt32).toInt32) &&& (255 : Int32)))] (.int (0 : Int32)) := (F14.ext E27)
      have hp31 : ∀ c ∈ ([(a &&& (255 : Int32)), (((a.toUInt32 >>> ((8 : Int32) &&& 31).toUInt32).toInt32) &&& (255 : Int32))] : List Int32), ¬ c < 0 ∧ ¬ (255 : Int32) < c := (own_allS (own_and255 _) (own_allS (own_and255 _) own_all0))
      obtain ⟨_, T31, h31, L31, W31, Q31, z31, SF31, st31⟩ := W27.paySp hx rfl (hw _ (List.mem_of_getElem? (i := 8) rfl)) (hw _ (List.mem_of_getElem? (i := 9) rfl)) (hw _ (List.mem_of_getElem? (i := 10) rfl)) (by decide) (Wd := 1) (ws := [a27]) (StrChars.Road.backV (W := 1) W27.warmS hws (kI := 4) (hw _ (List.mem_of_getElem? (i := 6) rfl)) (cs := ([(a &&& (255 : Int32)), (((a.toUInt32 >>> ((8 : Int32) &&& 31).toUInt32).toInt32) &&& (255 : Int32))] : List Int32)) (bs := ([(a &&& (255 : Int32)), (((a.toUInt32 >>> ((8 : Int32) &&& 31).toUInt32).toInt32) &&& (255 : Int32))] : List Int32).map (fun c => c.toInt8.toInt32)) (n := 2) (n0 := n0) (by omega) W27.ge X27 F29 F28 F30 (W27.sta hzc) hzc0 rfl rfl (by decide) (by decide) hp31 rfl (by decide) (by decide)) (fun v h' L q => ⟨q.2.2.1, q.2.1⟩) (allS S27 all0) (allS (by omega) all0) (by decide) (by decide) (g := (mkF m 78 #[.val (.int a), .val (.int l0), .val (.ref a1), .val (.ref a3), .val (.ref a5)] [(.ref a5), (.ref a27), (.ref a27)])) rfl (by rw [hml]; rfl) (a := a27) (argsL := [(.ref a5)]) (rest := [(.ref a27)]) rfl (lenOf pd___C_V rfl) rfl (by show 2 * 0 + _ ≤ _; exact Nat.le_of_eq rfl) (hb hby dd_method_2_code_78)
      obtain ⟨rfl, -, K31, X31, C31, t31, k31, -, y31, u31, V31, A31⟩ := Q31
      have ya31 : h31.size > t31 := A31.lt
      have F31 : Str Z h31 a27 t31 [(a &&& (255 : Int32)), (((a.toUInt32 >>> ((8 : Int32) &&& 31).toUInt32).toInt32) &&& (255 : Int32))] := Str.lat X31 V31 C31 A31 rfl rfl hp31 (Nat.le_of_ble_eq_true rfl)
      refine Go.tr (g' := (mkF m 81 #[.val (.int a), .val (.int l0), .val (.ref a1), .val (.ref a3), .val (.ref a5)] [(.ref a27)])) st31 ?_
      exact W31.retA hx hEL hlk hret rfl rfl rfl (hb hby dd_method_2_code_81) (by decide) (by decide) ⟨a27, t31, rfl, (by omega), (by unfold own_mkL; rw [if_neg hc15, if_neg hc21]; exact F31), (((((((((Keep.refl h0 []).ext E1).ext E3).ext E5).wr R8 (Or.inr (by omega))).wr R11 (Or.inr (by omega))).wr R13 (Or.inr (by omega))).ext E27).trans K31 (allS (Or.inr (by omega)) all0))⟩
set_option maxRecDepth 65536 in
set_option maxHeartbeats 4000000 in
theorem own_rnn (l : Launch) {Z : State} {a0 : Array Value} (hE : Ctx Z a0) {n0 : Nat} {h0 : Heap} (O : Old Z n0 h0) {x0 : Addr} {m0 : Addr}   :
    Met l (⟨"java/util/Objects", "requireNonNull", "(Ljava/lang/Object;Ljava/lang/String;)Ljava/lang/Object;"⟩ : MethodName) jdk_31_method_11_code 2 (Option.some (Jvm.ClassFile.FieldType.object "java/lang/Object")) ({ frames := 0, cells := 0, slots := 0, locals := 0 } : Room) Z consts_1 n0 [] #[(.ref x0), (.ref m0)] h0 (fun v h => v = some (.ref x0) ∧ h0 = h) := by
  have hw := hE.1
  have hEL := own_EW hw
  have own_wS := own_stringAtoms hw
  refine Met.of (by first | (refine plainFor_of_name ?_; simp [plainName, overriddenIn]; done) | decide +kernel) O ?_
  intro p e s m below meth c T0 hx hby hml hret hlk hnm hh0 W0
  have z0 := W0.ge
  refine Go.st (g' := (mkF m 0 #[.val (.ref x0), .val (.ref m0)] [])) (fun _ k => castTop (by first | rfl | (simp [entryFrame, mkF, argsToLocals, maxLocals, own_catI, own_catJ, own_catD, own_catA, own_catN]; done)) k) ?_
  refine Go.st (g' := (mkF m 1 #[.val (.ref x0), .val (.ref m0)] [(.ref x0)])) (fun _ k => XS.aloadN W0.here hx rfl (hb hby dd_jdk_31_method_11_code_0) rfl rfl  k) ?_
  refine Go.st (g' := (mkF m 13 #[.val (.ref x0), .val (.ref m0)] [])) (fun _ k => XS.ifnonnullYes W0.here hx rfl (pc0 := 1) (pc' := 13) rfl (hb hby dd_jdk_31_method_11_code_1) rfl (by decide) (by decide) k) ?_
  refine Go.st (g' := (mkF m 14 #[.val (.ref x0), .val (.ref m0)] [(.ref x0)])) (fun _ k => XS.aloadN W0.here hx rfl (hb hby dd_jdk_31_method_11_code_13) rfl rfl  k) ?_
  exact W0.retA hx hEL hlk hret rfl rfl rfl (hb hby dd_jdk_31_method_11_code_14) (by decide) (by decide) ⟨rfl, rfl⟩
set_option maxRecDepth 65536 in
set_option maxHeartbeats 4000000 in
theorem own_initSC (l : Launch) {Z : State} {a0 : Array Value} (hE : Ctx Z a0) {n0 : Nat} {h0 : Heap} (O : Old Z n0 h0) {x0 : Addr} {v0 : Value} {v1 : Value} {v2 : Value} {v3 : Value} {v4 : Value} {v5 : Value} {v6 : Value} {v7 : Value} (hx0 : n0 ≤ x0) (rv0 : v0.isRef = true) (rv1 : v1.isRef = true) (rv2 : v2.isRef = true) (rv3 : v3.isRef = true) (rv4 : v4.isRef = true) (rv5 : v5.isRef = true) (rv6 : v6.isRef = true) (rv7 : v7.isRef = true) (P0 : Exa Z h0 x0 "com/example/fanoutd/fanoutd/subscription/SinkCredential") (P1 : Fld Z h0 x0 "com/example/fanoutd/fanoutd/subscription/SinkCredential" "type" "Lcom/example/fanoutd/fanoutd/subscription/SinkCredential$Type;" .null) (P2 : Fld Z h0 x0 "com/example/fanoutd/fanoutd/subscription/SinkCredential" "identifier" "Ljava/lang/String;" .null) (P3 : Fld Z h0 x0 "com/example/fanoutd/fanoutd/subscription/SinkCredential" "secret" "Ljava/lang/String;" .null) (P4 : Fld Z h0 x0 "com/example/fanoutd/fanoutd/subscription/SinkCredential" "accessToken" "Ljava/lang/String;" .null) (P5 : Fld Z h0 x0 "com/example/fanoutd/fanoutd/subscription/SinkCredential" "accessTokenType" "Ljava/lang/String;" .null) (P6 : Fld Z h0 x0 "com/example/fanoutd/fanoutd/subscription/SinkCredential" "accessTokenExpires" "Ljava/time/Instant;" .null) (P7 : Fld Z h0 x0 "com/example/fanoutd/fanoutd/subscription/SinkCredential" "refreshToken" "Ljava/lang/String;" .null) (P8 : Fld Z h0 x0 "com/example/fanoutd/fanoutd/subscription/SinkCredential" "refreshTokenEndpoint" "Ljava/net/URI;" .null) :
    Met l (⟨"com/example/fanoutd/fanoutd/subscription/SinkCredential", "<init>", "(Lcom/example/fanoutd/fanoutd/subscription/SinkCredential$Type;Ljava/lang/String;Ljava/lang/String;Ljava/lang/String;Ljava/lang/String;Ljava/time/Instant;Ljava/lang/String;Ljava/net/URI;)V"⟩ : MethodName) prog_36_method_1_code 9 (Option.none : Option Jvm.ClassFile.FieldType) ({ frames := 1, cells := 0, slots := 0, locals := 12 } : Room) Z consts_1 n0 [] #[(.ref x0), v0, v1, v2, v3, v4, v5, v6, v7] h0 (fun v h => v = none ∧ Fld Z h x0 "com/example/fanoutd/fanoutd/subscription/SinkCredential" "type" "Lcom/example/fanoutd/fanoutd/subscription/SinkCredential$Type;" v0 ∧ Fld Z h x0 "com/example/fanoutd/fanoutd/subscription/SinkCredential" "identifier" "Ljava/lang/String;" v1 ∧ Fld Z h x0 "com/example/fanoutd/fanoutd/subscription/SinkCredential" "secret" "Ljava/lang/String;" v2 ∧ Fld Z h x0 "com/example/fanoutd/fanoutd/subscription/SinkCredential" "accessToken" "Ljava/lang/String;" v3 ∧ Fld Z h x0 "com/example/fanoutd/fanoutd/subscription/SinkCredential" "accessTokenType" "Ljava/lang/String;" v4 ∧ Fld Z h x0 "com/example/fanoutd/fanoutd/subscription/SinkCredential" "accessTokenExpires" "Ljava/time/Instant;" v5 ∧ Fld Z h x0 "com/example/fanoutd/fanoutd/subscription/SinkCredential" "refreshToken" "Ljava/lang/String;" v6 ∧ Fld Z h x0 "com/example/fanoutd/fanoutd/subscription/SinkCredential" "refreshTokenEndpoint" "Ljava/net/URI;" v7 ∧ Keep h0 h [x0]) := by
  have hw := hE.1
  have hEL := own_EW hw
  have own_wS := own_stringAtoms hw
  refine Met.of (by first | (refine plainFor_of_name ?_; simp [plainName, overriddenIn]; done) | decide +kernel) O ?_
  intro p e s m below meth c T0 hx hby hml hret hlk hnm hh0 W0
  have z0 := W0.ge
  have yP0 : h0.size > x0 := P0.lt
  refine Go.st (g' := (mkF m 0 #[.val (.ref x0), .val v0, .val v1, .val v2, .val v3, .val v4, .val v5, .val v6, .val v7] [])) (fun _ k => castTop (by first | rfl | (simp [entryFrame, mkF, argsToLocals, maxLocals, own_catI, own_catJ, own_catD, own_catA, own_catN, own_cat rv0, own_cat rv1, own_cat rv2, own_cat rv3, own_cat rv4, own_cat rv5, own_cat rv6, own_cat rv7]; done)) k) ?_
  refine Go.st (g' := (mkF m 1 #[.val (.ref x0), .val v0, .val v1, .val v2, .val v3, .val v4, .val v5, .val v6, .val v7] [(.ref x0)])) (fun _ k => XS.aloadN W0.here hx rfl (hb hby dd_prog_36_method_1_code_0) rfl rfl  k) ?_
  obtain ⟨T1, W1, st1⟩ := W0.initO hx (hw _ (List.mem_of_getElem? (i := 56) rfl)) (hw _ (List.mem_of_getElem? (i := 16) rfl)) (hw _ (List.mem_of_getElem? (i := 17) rfl)) (g := (mkF m 1 #[.val (.ref x0), .val v0, .val v1, .val v2, .val v3, .val v4, .val v5, .val v6, .val v7] [(.ref x0)])) rfl (by rw [hml]; rfl) rfl (hb hby dd_prog_36_method_1_code_1) (by decide) (Wd := 0) (by show 2 * 0 + _ ≤ _; exact Nat.le_of_eq rfl) (by decide)
  refine Go.st (g' := (mkF m 4 #[.val (.ref x0), .val v0, .val v1, .val v2, .val v3, .val v4, .val v5, .val v6, .val v7] [])) st1 ?_
  refine Go.st (g' := (mkF m 5 #[.val (.ref x0), .val v0, .val v1, .val v2, .val v3, .val v4, .val v5, .val v6, .val v7] [(.ref x0)])) (fun _ k => XS.aloadN W1.here hx rfl (hb hby dd_prog_36_method_1_code_4) rfl rfl  k) ?_
  refine Go.st (g' := (mkF m 6 #[.val (.ref x0), .val v0, .val v1, .val v2, .val v3, .val v4, .val v5, .val v6, .val v7] [v0, (.ref x0)])) (fun _ k => XS.aloadN W1.here hx rfl (hb hby dd_prog_36_method_1_code_5) rfl rv0  k) ?_
  obtain ⟨T2, h2, W2, R2, z2, X2, SF2, st2⟩ := W1.putF hx (hw _ (List.mem_of_getElem? (i := 57) rfl)) Via.refl P1 P0 (Or.inr ⟨(hw _ (List.mem_of_getElem? (i := 58) rfl)), rfl, hnm⟩) (hw _ (List.mem_of_getElem? (i := 42) rfl)) (ty := (.object "com/example/fanoutd/fanoutd/subscription/SinkCredential$Type")) (by decide) rfl (own_fitsR rv0) (W1.safeExa P0 (by decide) (by decide)) (by omega) (g := (mkF m 6 #[.val (.ref x0), .val v0, .val v1, .val v2, .val v3, .val v4, .val v5, .val v6, .val v7] [v0, (.ref x0)])) rfl rfl (hb hby dd_prog_36_method_1_code_6)
  refine Go.st (g' := (mkF m 9 #[.val (.ref x0), .val v0, .val v1, .val v2, .val v3, .val v4, .val v5, .val v6, .val v7] [])) st2 ?_
  refine Go.st (g' := (mkF m 10 #[.val (.ref x0), .val v0, .val v1, .val v2, .val v3, .val v4, .val v5, .val v6, .val v7] [(.ref x0)])) (fun _ k => XS.aloadN W2.here hx rfl (hb hby dd_prog_36_method_1_code_9) rfl rfl  k) ?_
  refine Go.st (g' := (mkF m 11 #[.val (.ref x0), .val v0, .val v1, .val v2, .val v3, .val v4, .val v5, .val v6, .val v7] [v1, (.ref x0)])) (fun _ k => XS.aloadN W2.here hx rfl (hb hby dd_prog_36_method_1_code_10) rfl rv1  k) ?_
  have F4 : Fld Z h2 x0 "com/example/fanoutd/fanoutd/subscription/SinkCredential" "identifier" "Ljava/lang/String;" .null := (P2.other R2 (Or.inr (slot_ne (Or.inr (hw _ (List.mem_of_getElem? (i := 60) rfl))) (Or.inr (hw _ (List.mem_of_getElem? (i := 58) rfl))) (by decide) (t := (.object "java/lang/String")) (t' := (.object "com/example/fanoutd/fanoutd/subscription/SinkCredential$Type")) (by decide) (by decide))))
  have F5 : Exa Z h2 x0 "com/example/fanoutd/fanoutd/subscription/SinkCredential" := (P0.wr R2)
  obtain ⟨T3, h3, W3, R3, z3, X3, SF3, st3⟩ := W2.putF hx (hw _ (List.mem_of_getElem? (i := 59) rfl)) Via.refl F4 F5 (Or.inr ⟨(hw _ (List.mem_of_getElem? (i := 60) rfl)), rfl, hnm⟩) (hw _ (List.mem_of_getElem? (i := 42) rfl)) (ty := (.object "java/lang/String")) (by decide) rfl (own_fitsR rv1) (W2.safeExa F5 (by decide) (by decide)) (by omega) (g := (mkF m 11 #[.val (.ref x0), .val v0, .val v1, .val v2, .val v3, .val v4, .val v5, .val v6, .val v7] [v1, (.ref x0)])) rfl rfl (hb hby dd_prog_36_method_1_code_11)
  refine Go.st (g' := (mkF m 14 #[.val (.ref x0), .val v0, .val v1, .val v2, .val v3, .val v4, .val v5, .val v6, .val v7] [])) st3 ?_
  refine Go.st (g' := (mkF m 15 #[.val (.ref x0), .val v0, .val v1, .val v2, .val v3, .val v4, .val v5, .val v6, .val v7] [(.ref x0)])) (fun _ k => XS.aloadN W3.here hx rfl (hb hby dd_prog_36_method_1_code_14) rfl rfl  k) ?_
  refine Go.st (g' := (mkF m 16 #[.val (.ref x0), .val v0, .val v1, .val v2, .val v3, .val v4, .val v5, .val v6, .val v7] [v2, (.ref x0)])) (fun _ k => XS.aloadN W3.here hx rfl (hb hby dd_prog_36_method_1_code_15) rfl rv2  k) ?_
  have F7 : Fld Z h3 x0 "com/example/fanoutd/fanoutd/subscription/SinkCredential" "secret" "Ljava/lang/String;" .null := ((P3.other R2 (Or.inr (slot_ne (Or.inr (hw _ (List.mem_of_getElem? (i := 62) rfl))) (Or.inr (hw _ (List.mem_of_getElem? (i := 58) rfl))) (by decide) (t := (.object "java/lang/String")) (t' := (.object "com/example/fanoutd/fanoutd/subscription/SinkCredential$Type")) (by decide) (by decide)))).other R3 (Or.inr (slot_ne (Or.inr (hw _ (List.mem_of_getElem? (i := 62) rfl))) (Or.inr (hw _ (List.mem_of_getElem? (i := 60) rfl))) (by decide) (t := (.object "java/lang/String")) (t' := (.object "java/lang/String")) (by decide) (by decide))))
  have F8 : Exa Z h3 x0 "com/example/fanoutd/fanoutd/subscription/SinkCredential" := (F5.wr R3)
  obtain ⟨T6, h6, W6, R6, z6, X6, SF6, st6⟩ := W3.putF hx (hw _ (List.mem_of_getElem? (i := 61) rfl)) Via.refl F7 F8 (Or.inr ⟨(hw _ (List.mem_of_getElem? (i := 62) rfl)), rfl, hnm⟩) (hw _ (List.mem_of_getElem? (i := 42) rfl)) (ty := (.object "java/lang/String")) (by decide) rfl (own_fitsR rv2) (W3.safeExa F8 (by decide) (by decide)) (by omega) (g := (mkF m 16 #[.val (.ref x0), .val v0, .val v1, .val v2, .val v3, .val v4, .val v5, .val v6, .val v7] [v2, (.ref x0)])) rfl rfl (hb hby dd_prog_36_method_1_code_16)
  refine Go.st (g' := (mkF m 19 #[.val (.ref x0), .val v0, .val v1, .val v2, .val v3, .val v4, .val v5, .val v6, .val v7] [])) st6 ?_
  refine Go.st (g' := (mkF m 20 #[.val (.ref x0), .val v0, .val v1, .val v2, .val v3, .val v4, .val v5, .val v6, .val v7] [(.ref x0)])) (fun _ k => XS.aloadN W6.here hx rfl (hb hby dd_prog_36_method_1_code_19) rfl rfl  k) ?_
  refine Go.st (g' := (mkF m 22 #[.val (.ref x0), .val v0, .val v1, .val v2, .val v3, .val v4, .val v5, .val v6, .val v7] [v3, (.ref x0)])) (fun _ k => XS.aload W6.here hx rfl (hb hby dd_prog_36_method_1_code_20) rfl rv3  k) ?_
  have F10 : Fld Z h6 x0 "com/example/fanoutd/fanoutd/subscription/SinkCredential" "accessToken" "Ljava/lang/String;" .null := (((P4.other R2 (Or.inr (slot_ne (Or.inr (hw _ (List.mem_of_getElem? (i := 64) rfl))) (Or.inr (hw _ (List.mem_of_getElem? (i := 58) rfl))) (by decide) (t := (.object "java/lang/String")) (t' := (.object "com/example/fanoutd/fanoutd/subscription/SinkCredential$Type")) (by decide) (by decide)))).other R3 (Or.inr (slot_ne (Or.inr (hw _ (List.mem_of_getElem? (i := 64) rfl))) (Or.inr (hw _ (List.mem_of_getElem? (i := 60) rfl))) (by decide) (t := (.object "java/lang/String")) (t' := (.object "java/lang/String")) (by decide) (by decide)))).other R6 (Or.inr (slot_ne (Or.inr (hw _ (List.mem_of_getElem? (i := 64) rfl))) (Or.inr (hw _ (List.mem_of_getElem? (i := 62) rfl))) (by decide) (t := (.object "java/lang/String")) (t' := (.object "java/lang/String")) (by decide) (by decide))))
  have F11 : Exa Z h6 x0 "com/example/fanoutd/fanoutd/subscription/SinkCredential" := (F8.wr R6)
  obtain ⟨T9, h9, W9, R9, z9, X9, SF9, st9⟩ := W6.putF hx (hw _ (List.mem_of_getElem? (i := 63) rfl)) Via.refl F10 F11 (Or.inr ⟨(hw _ (List.mem_of_getElem? (i := 64) rfl)), rfl, hnm⟩) (hw _ (List.mem_of_getElem? (i := 42) rfl)) (ty := (.object "java/lang/String")) (by decide) rfl (own_fitsR rv3) (W6.safeExa F11 (by decide) (by decide)) (by omega) (g := (mkF m 22 #[.val (.ref x0), .val v0, .val v1, .val v2, .val v3, .val v4, .val v5, .val v6, .val v7] [v3, (.ref x0)])) rfl rfl (hb hby dd_prog_36_method_1_code_22)
  refine Go.st (g' := (mkF m 25 #[.val (.ref x0), .val v0, .val v1, .val v2, .val v3, .val v4, .val v5, .val v6, .val v7] [])) st9 ?_
  refine Go.st (g' := (mkF m 26 #[.val (.ref x0), .val v0, .val v1, .val v2, .val v3, .val v4, .val v5, .val v6, .val v7] [(.ref x0)])) (fun _ k => XS.aloadN W9.here hx rfl (hb hby dd_prog_36_method_1_code_25) rfl rfl  k) ?_
  refine Go.st (g' := (mkF m 28 #[.val (.ref x0), .val v0, .val v1, .val v2, .val v3, .val v4, .val v5, .val v6, .val v7] [v4, (.ref x0)])) (fun _ k => XS.aload W9.here hx rfl (hb hby dd_prog_36_method_1_code_26) rfl rv4  k) ?_
  have F13 : Fld Z h9 x0 "com/example/fanoutd/fanoutd/subscription/SinkCredential" "accessTokenType" "Ljava/lang/String;" .null := ((((P5.other R2 (Or.inr (slot_ne (Or.inr (hw _ (List.mem_of_getElem? (i := 66) rfl))) (Or.inr (hw _ (List.mem_of_getElem? (i := 58) rfl))) (by decide) (t := (.object "java/lang/String")) (t' := (.object "com/example/fanoutd/fanoutd/subscription/SinkCredential$Type")) (by decide) (by decide)))).other R3 (Or.inr (slot_ne (Or.inr (hw _ (List.mem_of_getElem? (i := 66) rfl))) (Or.inr (hw _ (List.mem_of_getElem? (i := 60) rfl))) (by decide) (t := (.object "java/lang/String")) (t' := (.object "java/lang/String")) (by decide) (by decide)))).other R6 (Or.inr (slot_ne (Or.inr (hw _ (List.mem_of_getElem? (i := 66) rfl))) (Or.inr (hw _ (List.mem_of_getElem? (i := 62) rfl))) (by decide) (t := (.object "java/lang/String")) (t' := (.object "java/lang/String")) (by decide) (by decide)))).other R9 (Or.inr (slot_ne (Or.inr (hw _ (List.mem_of_getElem? (i := 66) rfl))) (Or.inr (hw _ (List.mem_of_getElem? (i := 64) rfl))) (by decide) (t := (.object "java/lang/String")) (t' := (.object "java/lang/String")) (by decide) (by decide))))
  have F14 : Exa Z h9 x0 "com/example/fanoutd/fanoutd/subscription/SinkCredential" := (F11.wr R9)
  obtain ⟨T12, h12, W12, R12, z12, X12, SF12, st12⟩ := W9.putF hx (hw _ (List.mem_of_getElem? (i := 65) rfl)) Via.refl F13 F14 (Or.inr ⟨(hw _ (List.mem_of_getElem? (i := 66) rfl)), rfl, hnm⟩) (hw _ (List.mem_of_getElem? (i := 42) rfl)) (ty := (.object "java/lang/String")) (by decide) rfl (own_fitsR rv4) (W9.safeExa F14 (by decide) (by decide)) (by omega) (g := (mkF m 28 #[.val (.ref x0), .val v0, .val v1, .val v2, .val v3, .val v4, .val v5, .val v6, .val v7] [v4, (.ref x0)])) rfl rfl (hb hby dd_prog_36_method_1_code_28)
  refine Go.st (g' := (mkF m 31 #[.val (.ref x0), .val v0, .val v1, .val v2, .val v3, .val v4, .val v5, .val v6, .val v7] [])) st12 ?_
  refine Go.st (g' := (mkF m 32 #[.val (.ref x0), .val v0, .val v1, .val v2, .val v3, .val v4, .val v5, .val v6, .val v7] [(.ref x0)])) (fun _ k => XS.aloadN W12.here hx rfl (hb hby dd_prog_36_method_1_code_31) rfl rfl  k) ?_
  refine Go.st (g' := (mkF m 34 #[.val (.ref x0), .val v0, .val v1, .val v2, .val v3, .val v4, .val v5, .val v6, .val v7] [v5, (.ref x0)])) (fun _ k => XS.aload W12.here hx rfl (hb hby dd_prog_36_method_1_code_32) rfl rv5  k) ?_
  have F16 : Fld Z h12 x0 "com/example/fanoutd/fanoutd/subscription/SinkCredential" "accessTokenExpires" "Ljava/time/Instant;" .null := (((((P6.other R2 (Or.inr (slot_ne (Or.inr (hw _ (List.mem_of_getElem? (i := 68) rfl))) (Or.inr (hw _ (List.mem_of_getElem? (i := 58) rfl))) (by decide) (t := (.object "java/time/Instant")) (t' := (.object "com/example/fanoutd/fanoutd/subscription/SinkCredential$Type")) (by decide) (by decide)))).other R3 (Or.inr (slot_ne (Or.inr (hw _ (List.mem_of_getElem? (i := 68) rfl))) (Or.inr (hw _ (List.mem_of_getElem? (i := 60) rfl))) (by decide) (t := (.object "java/time/Instant")) (t' := (.object "java/lang/String")) (by decide) (by decide)))).other R6 (Or.inr (slot_ne (Or.inr (hw _ (List.mem_of_getElem? (i := 68) rfl))) (Or.inr (hw _ (List.mem_of_getElem? (i := 62) rfl))) (by decide) (t := (.object "java/time/Instant")) (t' := (.object "java/lang/String")) (by decide) (by decide)))).other R9 (Or.inr (slot_ne (Or.inr (hw _ (List.mem_of_getElem? (i := 68) rfl))) (Or.inr (hw _ (List.mem_of_getElem? (i := 64) rfl))) (by decide) (t := (.object "java/time/Instant")) (t' := (.object "java/lang/String")) (by decide) (by decide)))).other R12 (Or.inr (slot_ne (Or.inr (hw _ (List.mem_of_getElem? (i := 68) rfl))) (Or.inr (hw _ (List.mem_of_getElem? (i := 66) rfl))) (by decide) (t := (.object "java/time/Instant")) (t' := (.object "java/lang/String")) (by decide) (by decide))))
  have F17 : Exa Z h12 x0 "com/example/fanoutd/fanoutd/subscription/SinkCredential" := (F14.wr R12)
  obtain ⟨T15, h15, W15, R15, z15, X15, SF15, st15⟩ := W12.putF hx (hw _ (List.mem_of_getElem? (i := 67) rfl)) Via.refl F16 F17 (Or.inr ⟨(hw _ (List.mem_of_getElem? (i := 68) rfl)), rfl, hnm⟩) (hw _ (List.mem_of_getElem? (i := 42) rfl)) (ty := (.object "java/time/Instant")) (by decide) rfl (own_fitsR rv5) (W12.safeExa F17 (by decide) (by decide)) (by omega) (g := (mkF m 34 #[.val (.ref x0), .val v0, .val v1, .val v2, .val v3, .val v4, .val v5, .val v6, .val v7] [v5, (.ref x0)])) rfl rfl (hb hby dd_prog_36_method_1_code_34)
  refine Go.st (g' := (mkF m 37 #[.val (.ref x0), .val v0, .val v1, .val v2, .val v3, .val v4, .val v5, .val v6, .val v7] [])) st15 ?_
  refine Go.st (g' := (mkF m 38 #[.val (.ref x0), .val v0, .val v1, .val v2, .val v3, .val v4, .val v5, .val v6, .val v7] [(.ref x0)])) (fun _ k => XS.aloadN W15.here hx rfl (hb hby dd_prog_36_method_1_code_37) rfl rfl  k) ?_
  refine Go.st (g' := (mkF m 40 #[.val (.ref x0), .val v0, .val v1, .val v2, .val v3, .val v4, .val v5, .val v6, .val v7] [v6, (.ref x0)])) (fun _ k => XS.aload W15.here hx rfl (hb hby dd_prog_36_method_1_code_38) rfl rv6  k) ?_
  have F19 : Fld Z h15 x0 "com/example/fanoutd/fanoutd/subscription/SinkCredential" "refreshToken" "Ljava/lang/String;" .null := ((((((P7.other R2 (Or.inr (slot_ne (Or.inr (hw _ (List.mem_of_getElem? (i := 70) rfl))) (Or.inr (hw _ (List.mem_of_getElem? (i := 58) rfl))) (by decide) (t := (.object "java/lang/String")) (t' := (.object "com/example/fanoutd/fanoutd/subscription/SinkCredential$Type")) (by decide) (by decide)))).other R3 (Or.inr (slot_ne (Or.inr (hw _ (List.mem_of_getElem? (i := 70) rfl))) (Or.inr (hw _ (List.mem_of_getElem? (i := 60) rfl))) (by decide) (t := (.object "java/lang/String")) (t' := (.object "java/lang/String")) (by decide) (by decide)))).other R6 (Or.inr (slot_ne (Or.inr (hw _ (List.mem_of_getElem? (i := 70) rfl))) (Or.inr (hw _ (List.mem_of_getElem? (i := 62) rfl))) (by decide) (t := (.object "java/lang/String")) (t' := (.object "java/lang/String")) (by decide) (by decide)))).other R9 (Or.inr (slot_ne (Or.inr (hw _ (List.mem_of_getElem? (i := 70) rfl))) (Or.inr (hw _ (List.mem_of_getElem? (i := 64) rfl))) (by decide) (t := (.object "java/lang/String")) (t' := (.object "java/lang/String")) (by decide) (by decide)))).other R12 (Or.inr (slot_ne (Or.inr (hw _ (List.mem_of_getElem? (i := 70) rfl))) (Or.inr (hw _ (List.mem_of_getElem? (i := 66) rfl))) (by decide) (t := (.object "java/lang/String")) (t' := (.object "java/lang/String")) (by decide) (by decide)))).other R15 (Or.inr (slot_ne (Or.inr (hw _ (List.mem_of_getElem? (i := 70) rfl))) (Or.inr (hw _ (List.mem_of_getElem? (i := 68) rfl))) (by decide) (t := (.object "java/lang/String")) (t' := (.object "java/time/Instant")) (by decide) (by decide))))
  have F20 : Exa Z h15 x0 "com/example/fanoutd/fanoutd/subscription/SinkCredential" := (F17.wr R15)
  obtain ⟨T18, h18, W18, R18, z18, X18, SF18, st18⟩ := W15.putF hx (hw _ (List.mem_of_getElem? (i := 69) rfl)) Via.refl F19 F20 (Or.inr ⟨(hw _ (List.mem_of_getElem? (i := 70) rfl)), rfl, hnm⟩) (hw _ (List.mem_of_getElem? (i := 42) rfl)) (ty := (.object "java/lang/String")) (by decide) rfl (own_fitsR rv6) (W15.safeExa F20 (by decide) (by decide)) (by omega) (g := (mkF m 40 #[.val (.ref x0), .val v0, .val v1, .val v2, .val v3, .val v4, .val v5, .val v6, .val v7] [v6, (.ref x0)])) rfl rfl (hb hby dd_prog_36_method_1_code_40)
  refine Go.st (g' := (mkF m 43 #[.val (.ref x0), .val v0, .val v1, .val v2, .val v3, .val v4, .val v5, .val v6, .val v7] [])) st18 ?_
  refine Go.st (g' := (mkF m 44 #[.val (.ref x0), .val v0, .val v1, .val v2, .val v3, .val v4, .val v5, .val v6, .val v7] [(.ref x0)])) (fun _ k => XS.aloadN W18.here hx rfl (hb hby dd_prog_36_method_1_code_43) rfl rfl  k) ?_
  refine Go.st (g' := (mkF m 46 #[.val (.ref x0), .val v0, .val v1, .val v2, .val v3, .val v4, .val v5, .val v6, .val v7] [v7, (.ref x0)])) (fun _ k => XS.aload W18.here hx rfl (hb hby dd_prog_36_method_1_code_44) rfl rv7  k) ?_
  have F22 : Fld Z h18 x0 "com/example/fanoutd/fanoutd/subscription/SinkCredential" "refreshTokenEndpoint" "Ljava/net/URI;" .null := (((((((P8.other R2 (Or.inr (slot_ne (Or.inr (hw _ (List.mem_of_getElem? (i := 72) rfl))) (Or.inr (hw _ (List.mem_of_getElem? (i := 58) rfl))) (by decide) (t := (.object "java/net/URI")) (t' := (.object "com/example/fanoutd/fanoutd/subscription/SinkCredential$Type")) (by decide) (by decide)))).other R3 (Or.inr (slot_ne (Or.inr (hw _ (List.mem_of_getElem? (i := 72) rfl))) (Or.inr (hw _ (List.mem_of_getElem? (i := 60) rfl))) (by decide) (t := (.object "java/net/URI")) (t' := (.object "java/lang/String")) (by decide) (by decide)))).other R6 (Or.inr (slot_ne (Or.inr (hw _ (List.mem_of_getElem? (i := 72) rfl))) (Or.inr (hw _ (List.mem_of_getElem? (i := 62) rfl))) (by decide) (t := (.object "java/net/URI")) (t' := (.object "java/lang/String")) (by decide) (by decide)))).other R9 (Or.inr (slot_ne (Or.inr (hw _ (List.mem_of_getElem? (i := 72) rfl))) (Or.inr (hw _ (List.mem_of_getElem? (i := 64) rfl))) (by decide) (t := (.object "java/net/URI")) (t' := (.object "java/lang/String")) (by decide) (by decide)))).other R12 (Or.inr (slot_ne (Or.inr (hw _ (List.mem_of_getElem? (i := 72) rfl))) (Or.inr (hw _ (List.mem_of_getElem? (i := 66) rfl))) (by decide) (t := (.object "java/net/URI")) (t' := (.object "java/lang/String")) (by decide) (by decide)))).other R15 (Or.inr (slot_ne (Or.inr (hw _ (List.mem_of_getElem? (i := 72) rfl))) (Or.inr (hw _ (List.mem_of_getElem? (i := 68) rfl))) (by decide) (t := (.object "java/net/URI")) (t' := (.object "java/time/Instant")) (by decide) (by decide)))).other R18 (Or.inr (slot_ne (Or.inr (hw _ (List.mem_of_getElem? (i := 72) rfl))) (Or.inr (hw _ (List.mem_of_getElem? (i := 70) rfl))) (by decide) (t := (.object "java/net/URI")) (t' := (.object "java/lang/String")) (by decide) (by decide))))
  have F23 : Exa Z h18 x0 "com/example/fanoutd/fanoutd/subscription/SinkCredential" := (F20.wr R18)
  obtain ⟨T21, h21, W21, R21, z21, X21, SF21, st21⟩ := W18.putF hx (hw _ (List.mem_of_getElem? (i := 71) rfl)) Via.refl F22 F23 (Or.inr ⟨(hw _ (List.mem_of_getElem? (i := 72) rfl)), rfl, hnm⟩) (hw _ (List.mem_of_getElem? (i := 42) rfl)) (ty := (.object "java/net/URI")) (by decide) rfl (own_fitsR rv7) (W18.safeExa F23 (by decide) (by decide)) (by omega) (g := (mkF m 46 #[.val (.ref x0), .val v0, .val v1, .val v2, .val v3, .val v4, .val v5, .val v6, .val v7] [v7, (.ref x0)])) rfl rfl (hb hby dd_prog_36_method_1_code_46)
  refine Go.st (g' := (mkF m 49 #[.val (.ref x0), .val v0, .val v1, .val v2, .val v3, .val v4, .val v5, .val v6, .val v7] [])) st21 ?_
  have F24 : Fld Z h21 x0 "com/example/fanoutd/fanoutd/subscription/SinkCredential" "type" "Lcom/example/fanoutd/fanoutd/subscription/SinkCredential$Type;" v0 := (((((((X2.other R3 (Or.inr (slot_ne (Or.inr (hw _ (List.mem_of_getElem? (i := 58) rfl))) (Or.inr (hw _ (List.mem_of_getElem? (i := 60) rfl))) (by decide) (t := (.object "com/example/fanoutd/fanoutd/subscription/SinkCredential$Type")) (t' := (.object "java/lang/String")) (by decide) (by decide)))).other R6 (Or.inr (slot_ne (Or.inr (hw _ (List.mem_of_getElem? (i := 58) rfl))) (Or.inr (hw _ (List.mem_of_getElem? (i := 62) rfl))) (by decide) (t := (.object "com/example/fanoutd/fanoutd/subscription/SinkCredential$Type")) (t' := (.object "java/lang/String")) (by decide) (by decide)))).other R9 (Or.inr (slot_ne (Or.inr (hw _ (List.mem_of_getElem? (i := 58) rfl))) (Or.inr (hw _ (List.mem_of_getElem? (i := 64) rfl))) (by decide) (t := (.object "com/example/fanoutd/fanoutd/subscription/SinkCredential$Type")) (t' := (.object "java/lang/String")) (by decide) (by decide)))).other R12 (Or.inr (slot_ne (Or.inr (hw _ (List.mem_of_getElem? (i := 58) rfl))) (Or.inr (hw _ (List.mem_of_getElem? (i := 66) rfl))) (by decide) (t := (.object "com/example/fanoutd/fanoutd/subscription/SinkCredential$Type")) (t' := (.object "java/lang/String")) (by decide) (by decide)))).other R15 (Or.inr (slot_ne (Or.inr (hw _ (List.mem_of_getElem? (i := 58) rfl))) (Or.inr (hw _ (List.mem_of_getElem? (i := 68) rfl))) (by decide) (t := (.object "com/example/fanoutd/fanoutd/subscription/SinkCredential$Type")) (t' := (.object "java/time/Instant")) (by decide) (by decide)))).other R18 (Or.inr (slot_ne (Or.inr (hw _ (List.mem_of_getElem? (i := 58) rfl))) (Or.inr (hw _ (List.mem_of_getElem? (i := 70) rfl))) (by decide) (t := (.object "com/example/fanoutd/fanoutd/subscription/SinkCredential$Type")) (t' := (.object "java/lang/String")) (by decide) (by decide)))).other R21 (Or.inr (slot_ne (Or.inr (hw _ (List.mem_of_getElem? (i := 58) rfl))) (Or.inr (hw _ (List.mem_of_getElem? (i := 72) rfl))) (by decide) (t := (.object "com/example/fanoutd/fanoutd/subscription/SinkCredential$Type")) (t' := (.object "java/net/URI")) (by decide) (by decide))))
  have F25 : Fld Z h21 x0 "com/example/fanoutd/fanoutd/subscription/SinkCredential" "identifier" "Ljava/lang/String;" v1 := ((((((X3.other R6 (Or.inr (slot_ne (Or.inr (hw _ (List.mem_of_getElem? (i := 60) rfl))) (Or.inr (hw _ (List.mem_of_getElem? (i := 62) rfl))) (by decide) (t := (.object "java/lang/String")) (t' := (.object "java/lang/String")) (by decide) (by decide)))).other R9 (Or.inr (slot_ne (Or.inr (hw _ (List.mem_of_getElem? (i := 60) rfl))) (Or.inr (hw _ (List.mem_of_getElem? (i := 64) rfl))) (by decide) (t := (.object "java/lang/String")) (t' := (.object "java/lang/String")) (by decide) (by decide)))).other R12 (Or.inr (slot_ne (Or.inr (hw _ (List.mem_of_getElem? (i := 60) rfl))) (Or.inr (hw _ (List.mem_of_getElem? (i := 66) rfl))) (by decide) (t := (.object "java/lang/String")) (t' := (.object "java/lang/String")) (by decide) (by decide)))).other R15 (Or.inr (slot_ne (Or.inr (hw _ (List.mem_of_getElem? (i := 60) rfl))) (Or.inr (hw _ (List.mem_of_getElem? (i := 68) rfl))) (by decide) (t := (.object "java/lang/String")) (t' := (.object "java/time/Instant")) (by decide) (by decide)))).other R18 (Or.inr (slot_ne (Or.inr (hw _ (List.mem_of_getElem? (i := 60) rfl))) (Or.inr (hw _ (List.mem_of_getElem? (i := 70) rfl))) (by decide) (t := (.object "java/lang/String")) (t' := (.object "java/lang/String")) (by decide) (by decide)))).other R21 (Or.inr (slot_ne (Or.inr (hw _ (List.mem_of_getElem? (i := 60) rfl))) (Or.inr (hw _ (List.mem_of_getElem? (i := 72) rfl))) (by decide) (t := (.object "java/lang/String")) (t' := (.object "java/net/URI")) (by decide) (by decide))))
  have F26 : Fld Z h21 x0 "com/example/fanoutd/fanoutd/subscription/SinkCredential" "secret" "Ljava/lang/String;" v2 := (((((X6.other R9 (Or.inr (slot_ne (Or.inr (hw _ (List.mem_of_getElem? (i := 62) rfl))) (Or.inr (hw _ (List.mem_of_getElem? (i := 64) rfl))) (by decide) (t := (.object "java/lang/String")) (t' := (.object "java/lang/String")) (by decide) (by decide)))).other R12 (Or.inr (slot_ne (Or.inr (hw _ (List.mem_of_getElem? (i := 62) rfl))) (Or.inr (hw _ (List.mem_of_getElem? (i := 66) rfl))) (by decide) (t := (.object "java/lang/String")) (t' := (.object "java/lang/String")) (by decide) (by decide)))).other R15 (Or.inr (slot_ne (Or.inr (hw _ (List.mem_of_getElem? (i := 62) rfl))) (Or.inr (hw _ (List.mem_of_getElem? (i := 68) rfl))) (by decide) (t := (.object "java/lang/String")) (t' := (.object "java/time/Instant")) (by decide) (by decide)))).other R18 (Or.inr (slot_ne (Or.inr (hw _ (List.mem_of_getElem? (i := 62) rfl))) (Or.inr (hw _ (List.mem_of_getElem? (i := 70) rfl))) (by decide) (t := (.object "java/lang/String")) (t' := (.object "java/lang/String")) (by decide) (by decide)))).other R21 (Or.inr (slot_ne (Or.inr (hw _ (List.mem_of_getElem? (i := 62) rfl))) (Or.inr (hw _ (List.mem_of_getElem? (i := 72) rfl))) (by decide) (t := (.object "java/lang/String")) (t' := (.object "java/net/URI")) (by decide) (by decide))))
  have F27 : Fld Z h21 x0 "com/example/fanoutd/fanoutd/subscription/SinkCredential" "accessToken" "Ljava/lang/String;" v3 := ((((X9.other R12 (Or.inr (slot_ne (Or.inr (hw _ (List.mem_of_getElem? (i := 64) rfl))) (Or.inr (hw _ (List.mem_of_getElem? (i := 66) rfl))) (by decide) (t := (.object "java/lang/String")) (t' := (.object "java/lang/String")) (by decide) (by decide)))).other R15 (Or.inr (slot_ne (Or.inr (hw _ (List.mem_of_getElem? (i := 64) rfl))) (Or.inr (hw _ (List.mem_of_getElem? (i := 68) rfl))) (by decide) (t := (.object "java/lang/String")) (t' := (.object "java/time/Instant")) (by decide) (by decide)))).other R18 (Or.inr (slot_ne (Or.inr (hw _ (List.mem_of_getElem? (i := 64) rfl))) (Or.inr (hw _ (List.mem_of_getElem? (i := 70) rfl))) (by decide) (t := (.object "java/lang/String")) (t' := (.object "java/lang/String")) (by decide) (by decide)))).other R21 (Or.inr (slot_ne (Or.inr (hw _ (List.mem_of_getElem? (i := 64) rfl))) (Or.inr (hw _ (List.mem_of_getElem? (i := 72) rfl))) (by decide) (t := (.object "java/lang/String")) (t' := (.object "java/net/URI")) (by decide) (by decide))))
  have F28 : Fld Z h21 x0 "com/example/fanoutd/fanoutd/subscription/SinkCredential" "accessTokenType" "Ljava/lang/String;" v4 := (((X12.other R15 (Or.inr (slot_ne (Or.inr (hw _ (List.mem_of_getElem? (i := 66) rfl))) (Or.inr (hw _ (List.mem_of_getElem? (i := 68) rfl))) (by decide) (t := (.object "java/lang/String")) (t' := (.object "java/time/Instant")) (by decide) (by decide)))).other R18 (Or.inr (slot_ne (Or.inr (hw _ (List.mem_of_getElem? (i := 66) rfl))) (Or.inr (hw _ (List.mem_of_getElem? (i := 70) rfl))) (by decide) (t := (.object "java/lang/String")) (t' := (.object "java/lang/String")) (by decide) (by decide)))).other R21 (Or.inr (slot_ne (Or.inr (hw _ (List.mem_of_getElem? (i := 66) rfl))) (Or.inr (hw _ (List.mem_of_getElem? (i := 72) rfl))) (by decide) (t := (.object "java/lang/String")) (t' := (.object "java/net/URI")) (by decide) (by decide))))
  have F29 : Fld Z h21 x0 "com/example/fanoutd/fanoutd/subscription/SinkCredential" "accessTokenExpires" "Ljava/time/Instant;" v5 := ((X15.other R18 (Or.inr (slot_ne (Or.inr (hw _ (List.mem_of_getElem? (i := 68) rfl))) (Or.inr (hw _ (List.mem_of_getElem? (i := 70) rfl))) (by decide) (t := (.object "java/time/Instant")) (t' := (.object "java/lang/String")) (by decide) (by decide)))).other R21 (Or.inr (slot_ne (Or.inr (hw _ (List.mem_of_getElem? (i := 68) rfl))) (Or.inr (hw _ (List.mem_of_getElem? (i := 72) rfl))) (by decide) (t := (.object "java/time/Instant")) (t' := (.object "java/net/URI")) (by decide) (by decide))))
  have F30 : Fld Z h21 x0 "com/example/fanoutd/fanoutd/subscription/SinkCredential" "refreshToken" "Ljava/lang/String;" v6 := (X18.other R21 (Or.inr (slot_ne (Or.inr (hw _ (List.mem_of_getElem? (i := 70) rfl))) (Or.inr (hw _ (List.mem_of_getElem? (i := 72) rfl))) (by decide) (t := (.object "java/lang/String")) (t' := (.object "java/net/URI")) (by decide) (by decide))))
  exact W21.retV hx hEL hlk hret (hb hby dd_prog_36_method_1_code_49) (by decide) (by decide) ⟨rfl, F24, F25, F26, F27, F28, F29, F30, X21, (((((((((Keep.refl h0 [x0]).wr R2 (Or.inl (List.mem_of_getElem? (i := 0) rfl))).wr R3 (Or.inl (List.mem_of_getElem? (i := 0) rfl))).wr R6 (Or.inl (List.mem_of_getElem? (i := 0) rfl))).wr R9 (Or.inl (List.mem_of_getElem? (i := 0) rfl))).wr R12 (Or.inl (List.mem_of_getElem? (i := 0) rfl))).wr R15 (Or.inl (List.mem_of_getElem? (i := 0) rfl))).wr R18 (Or.inl (List.mem_of_getElem? (i := 0) rfl))).wr R21 (Or.inl (List.mem_of_getElem? (i := 0) rfl)))⟩
set_option maxRecDepth 65536 in
set_option maxHeartbeats 4000000 in
theorem own_plain (l : Launch) {Z : State} {a0 : Array Value} (hE : Ctx Z a0) {n0 : Nat} {h0 : Heap} (O : Old Z n0 h0) {zp : Value} {s1 : Addr} {s2 : Addr} (hzp : Sta Z Z.heap "com/example/fanoutd/fanoutd/subscription/SinkCredential$Type" "PLAIN" "Lcom/example/fanoutd/fanoutd/subscription/SinkCredential$Type;" zp) (rzp : zp.isRef = true) (P0 : Exa Z h0 s1 "java/lang/String") (P1 : Exa Z h0 s2 "java/lang/String") :
    Met l (⟨"com/example/fanoutd/fanoutd/subscription/SinkCredential", "plain", "(Ljava/lang/String;Ljava/lang/String;)Lcom/example/fanoutd/fanoutd/subscription/SinkCredential;"⟩ : MethodName) prog_36_method_2_code 2 (Option.some (Jvm.ClassFile.FieldType.object "com/example/fanoutd/fanoutd/subscription/SinkCredential")) ({ frames := 2, cells := 5, slots := 80, locals := 33 } : Room) Z consts_1 n0 [] #[(.ref s1), (.ref s2)] h0 (fun v h => ∃ (x : Addr), v = some (.ref x) ∧ Exa Z h x "com/example/fanoutd/fanoutd/subscription/SinkCredential" ∧ Fld Z h x "com/example/fanoutd/fanoutd/subscription/SinkCredential" "type" "Lcom/example/fanoutd/fanoutd/subscription/SinkCredential$Type;" zp ∧ Fld Z h x "com/example/fanoutd/fanoutd/subscription/SinkCredential" "identifier" "Ljava/lang/String;" (.ref s1) ∧ Fld Z h x "com/example/fanoutd/fanoutd/subscription/SinkCredential" "secret" "Ljava/lang/String;" (.ref s2) ∧ Fld Z h x "com/example/fanoutd/fanoutd/subscription/SinkCredential" "accessToken" "Ljava/lang/String;" .null ∧ Fld Z h x "com/example/fanoutd/fanoutd/subscription/SinkCredential" "accessTokenType" "Ljava/lang/String;" .null ∧ Fld Z h x "com/example/fanoutd/fanoutd/subscription/SinkCredential" "accessTokenExpires" "Ljava/time/Instant;" .null ∧ Fld Z h x "com/example/fanoutd/fanoutd/subscription/SinkCredential" "refreshToken" "Ljava/lang/String;" .null ∧ Fld Z h x "com/example/fanoutd/fanoutd/subscription/SinkCredential" "refreshTokenEndpoint" "Ljava/net/URI;" .null ∧ Keep h0 h []) := by
  have hw := hE.1
  have hEL := own_EW hw
  have own_wS := own_stringAtoms hw
  refine Met.of (by first | (refine plainFor_of_name ?_; simp [plainName, overriddenIn]; done) | decide +kernel) O ?_
  intro p e s m below meth c T0 hx hby hml hret hlk hnm hh0 W0
  have z0 := W0.ge
  have yP0 : h0.size > s1 := P0.lt
  have yP1 : h0.size > s2 := P1.lt
  refine Go.st (g' := (mkF m 0 #[.val (.ref s1), .val (.ref s2)] [])) (fun _ k => castTop (by first | rfl | (simp [entryFrame, mkF, argsToLocals, maxLocals, own_catI, own_catJ, own_catD, own_catA, own_catN]; done)) k) ?_
  obtain ⟨T1, h1, a1, g1, W1, E1, z1, X1, D1, S1, SF1, U1, st1⟩ := W0.newO hx (hw _ (List.mem_of_getElem? (i := 41) rfl)) (hw _ (List.mem_of_getElem? (i := 42) rfl)) (hw _ (List.mem_of_getElem? (i := 39) rfl)) (g := (mkF m 0 #[.val (.ref s1), .val (.ref s2)] [])) rfl (hb hby dd_prog_36_method_2_code_0) (by decide) (by decide)
  have F2 : Fld Z h1 a1 "com/example/fanoutd/fanoutd/subscription/SinkCredential" "type" "Lcom/example/fanoutd/fanoutd/subscription/SinkCredential$Type;" .null := D1 (Or.inr (hw _ (List.mem_of_getElem? (i := 58) rfl))) (ty := (.object "com/example/fanoutd/fanoutd/subscription/SinkCredential$Type")) (by decide)
  have F3 : Fld Z h1 a1 "com/example/fanoutd/fanoutd/subscription/SinkCredential" "identifier" "Ljava/lang/String;" .null := D1 (Or.inr (hw _ (List.mem_of_getElem? (i := 60) rfl))) (ty := (.object "java/lang/String")) (by decide)
  have F4 : Fld Z h1 a1 "com/example/fanoutd/fanoutd/subscription/SinkCredential" "secret" "Ljava/lang/String;" .null := D1 (Or.inr (hw _ (List.mem_of_getElem? (i := 62) rfl))) (ty := (.object "java/lang/String")) (by decide)
  have F5 : Fld Z h1 a1 "com/example/fanoutd/fanoutd/subscription/SinkCredential" "accessToken" "Ljava/lang/String;" .null := D1 (Or.inr (hw _ (List.mem_of_getElem? (i := 64) rfl))) (ty := (.object "java/lang/String")) (by decide)
  have F6 : Fld Z h1 a1 "com/example/fanoutd/fanoutd/subscription/SinkCredential" "accessTokenType" "Ljava/lang/String;" .null := D1 (Or.inr (hw _ (List.mem_of_getElem? (i := 66) rfl))) (ty := (.object "java/lang/String")) (by decide)
  have F7 : Fld Z h1 a1 "com/example/fanoutd/fanoutd/subscription/SinkCredential" "accessTokenExpires" "Ljava/time/Instant;" .null := D1 (Or.inr (hw _ (List.mem_of_getElem? (i := 68) rfl))) (ty := (.object "java/time/Instant")) (by decide)
  have F8 : Fld Z h1 a1 "com/example/fanoutd/fanoutd/subscription/SinkCredential" "refreshToken" "Ljava/lang/String;" .null := D1 (Or.inr (hw _ (List.mem_of_getElem? (i := 70) rfl))) (ty := (.object "java/lang/String")) (by decide)
  have F9 : Fld Z h1 a1 "com/example/fanoutd/fanoutd/subscription/SinkCredential" "refreshTokenEndpoint" "Ljava/net/URI;" .null := D1 (Or.inr (hw _ (List.mem_of_getElem? (i := 72) rfl))) (ty := (.object "java/net/URI")) (by decide)
  refine Go.st (g' := (mkF m 3 #[.val (.ref s1), .val (.ref s2)] [(.ref a1)])) st1 ?_
  refine Go.st (g' := (mkF m 4 #[.val (.ref s1), .val (.ref s2)] [(.ref a1), (.ref a1)])) (fun _ k => XS.dup W1.here hx rfl (hb hby dd_prog_36_method_2_code_3) rfl rfl k) ?_
  obtain ⟨T10, W10, st10⟩ := W1.getS hx (hw _ (List.mem_of_getElem? (i := 43) rfl)) Via.refl (W1.sta hzp) (g := (mkF m 4 #[.val (.ref s1), .val (.ref s2)] [(.ref a1), (.ref a1)])) rfl (hb hby dd_prog_36_method_2_code_4)
  refine Go.st (g' := (mkF m 7 #[.val (.ref s1), .val (.ref s2)] [zp, (.ref a1), (.ref a1)])) st10 ?_
  refine Go.st (g' := (mkF m 8 #[.val (.ref s1), .val (.ref s2)] [(.ref s1), zp, (.ref a1), (.ref a1)])) (fun _ k => XS.aloadN W10.here hx rfl (hb hby dd_prog_36_method_2_code_7) rfl rfl  k) ?_
  obtain ⟨a11, vm11, T11, h11, W11, E11, SF11, st11⟩ := W10.ldcO hx (hw _ (List.mem_of_getElem? (i := 46) rfl)) own_wS hEL (g := (mkF m 8 #[.val (.ref s1), .val (.ref s2)] [(.ref s1), zp, (.ref a1), (.ref a1)])) rfl (hb hby dd_prog_36_method_2_code_8) (n := 40) (by decide) (by decide) (by decide) (by decide)
  have z11 := E11.1
  refine Go.st (g' := (mkF m 10 #[.val (.ref s1), .val (.ref s2)] [(.ref a11), (.ref s1), zp, (.ref a1), (.ref a1)])) st11 ?_
  obtain ⟨_, vm12, T12, h12, W12, Q12, z12, SF12, st12⟩ := W11.callS hx hEL (own_rnn l hE W11.old (x0 := s1) (m0 := a11)  ) (hw _ (List.mem_of_getElem? (i := 47) rfl)) (hw _ (List.mem_of_getElem? (i := 48) rfl)) (hw _ (List.mem_of_getElem? (i := 49) rfl)) (hw _ (List.mem_of_getElem? (i := 50) rfl)) (by decide) (Wd := 3) (by decide) (by decide) (by decide) (by decide) (g := (mkF m 10 #[.val (.ref s1), .val (.ref s2)] [(.ref a11), (.ref s1), zp, (.ref a1), (.ref a1)])) rfl (by rw [hml]; rfl) (argsL := [(.ref s1), (.ref a11)]) (rest := [zp, (.ref a1), (.ref a1)]) rfl (lenOf pd__Ljava_lang_Object_Ljava_lang_String__Ljava_lang_Object_ rfl) rfl (by show 2 * 0 + _ ≤ _; simp [own_catI, own_catJ, own_catD, own_catA, own_catN, own_cat rzp]) (hb hby dd_prog_36_method_2_code_10)
  obtain ⟨rfl, eh12⟩ := Q12
  subst eh12
  refine Go.tr (g' := (mkF m 13 #[.val (.ref s1), .val (.ref s2)] [(.ref s1), zp, (.ref a1), (.ref a1)])) st12 ?_
  have F14 : Exa Z h11 s1 "java/lang/String" := ((P0.ext E1).ext E11)
  obtain ⟨T13, W13, st13⟩ := W12.cast hx (hw _ (List.mem_of_getElem? (i := 51) rfl)) (Ins.self F14) (g := (mkF m 13 #[.val (.ref s1), .val (.ref s2)] [(.ref s1), zp, (.ref a1), (.ref a1)])) rfl rfl (hb hby dd_prog_36_method_2_code_13)
  refine Go.st (g' := (mkF m 16 #[.val (.ref s1), .val (.ref s2)] [(.ref s1), zp, (.ref a1), (.ref a1)])) st13 ?_
  refine Go.st (g' := (mkF m 17 #[.val (.ref s1), .val (.ref s2)] [(.ref s2), (.ref s1), zp, (.ref a1), (.ref a1)])) (fun _ k => XS.aloadN W13.here hx rfl (hb hby dd_prog_36_method_2_code_16) rfl rfl  k) ?_
  obtain ⟨a15, vm15, T15, h15, W15, E15, SF15, st15⟩ := W13.ldcO hx (hw _ (List.mem_of_getElem? (i := 52) rfl)) own_wS hEL (g := (mkF m 17 #[.val (.ref s1), .val (.ref s2)] [(.ref s2), (.ref s1), zp, (.ref a1), (.ref a1)])) rfl (hb hby dd_prog_36_method_2_code_17) (n := 24) (by decide) (by decide) (by decide) (by decide)
  have z15 := E15.1
  refine Go.st (g' := (mkF m 19 #[.val (.ref s1), .val (.ref s2)] [(.ref a15), (.ref s2), (.ref s1), zp, (.ref a1), (.ref a1)])) st15 ?_
  obtain ⟨_, vm16, T16, h16, W16, Q16, z16, SF16, st16⟩ := W15.callS hx hEL (own_rnn l hE W15.old (x0 := s2) (m0 := a15)  ) (hw _ (List.mem_of_getElem? (i := 47) rfl)) (hw _ (List.mem_of_getElem? (i := 48) rfl)) (hw _ (List.mem_of_getElem? (i := 49) rfl)) (hw _ (List.mem_of_getElem? (i := 50) rfl)) (by decide) (Wd := 4) (by decide) (by decide) (by decide) (by decide) (g := (mkF m 19 #[.val (.ref s1), .val (.ref s2)] [(.ref a15), (.ref s2), (.ref s1), zp, (.ref a1), (.ref a1)])) rfl (by rw [hml]; rfl) (argsL := [(.ref s2), (.ref a15)]) (rest := [(.ref s1), zp, (.ref a1), (.ref a1)]) rfl (lenOf pd__Ljava_lang_Object_Ljava_lang_String__Ljava_lang_Object_ rfl) rfl (by show 2 * 0 + _ ≤ _; simp [own_catI, own_catJ, own_catD, own_catA, own_catN, own_cat rzp]) (hb hby dd_prog_36_method_2_code_19)
  obtain ⟨rfl, eh16⟩ := Q16
  subst eh16
  refine Go.tr (g' := (mkF m 22 #[.val (.ref s1), .val (.ref s2)] [(.ref s2), (.ref s1), zp, (.ref a1), (.ref a1)])) st16 ?_
  have F18 : Exa Z h15 s2 "java/lang/String" := (((P1.ext E1).ext E11).ext E15)
  obtain ⟨T17, W17, st17⟩ := W16.cast hx (hw _ (List.mem_of_getElem? (i := 51) rfl)) (Ins.self F18) (g := (mkF m 22 #[.val (.ref s1), .val (.ref s2)] [(.ref s2), (.ref s1), zp, (.ref a1), (.ref a1)])) rfl rfl (hb hby dd_prog_36_method_2_code_22)
  refine Go.st (g' := (mkF m 25 #[.val (.ref s1), .val (.ref s2)] [(.ref s2), (.ref s1), zp, (.ref a1), (.ref a1)])) st17 ?_
  refine Go.st (g' := (mkF m 26 #[.val (.ref s1), .val (.ref s2)] [.null, (.ref s2), (.ref s1), zp, (.ref a1), (.ref a1)])) (fun _ k => XS.aconstNull W17.here hx rfl (hb hby dd_prog_36_method_2_code_25) k) ?_
  refine Go.st (g' := (mkF m 27 #[.val (.ref s1), .val (.ref s2)] [.null, .null, (.ref s2), (.ref s1), zp, (.ref a1), (.ref a1)])) (fun _ k => XS.aconstNull W17.here hx rfl (hb hby dd_prog_36_method_2_code_26) k) ?_
  refine Go.st (g' := (mkF m 28 #[.val (.ref s1), .val (.ref s2)] [.null, .null, .null, (.ref s2), (.ref s1), zp, (.ref a1), (.ref a1)])) (fun _ k => XS.aconstNull W17.here hx rfl (hb hby dd_prog_36_method_2_code_27) k) ?_
  refine Go.st (g' := (mkF m 29 #[.val (.ref s1), .val (.ref s2)] [.null, .null, .null, .null, (.ref s2), (.ref s1), zp, (.ref a1), (.ref a1)])) (fun _ k => XS.aconstNull W17.here hx rfl (hb hby dd_prog_36_method_2_code_28) k) ?_
  refine Go.st (g' := (mkF m 30 #[.val (.ref s1), .val (.ref s2)] [.null, .null, .null, .null, .null, (.ref s2), (.ref s1), zp, (.ref a1), (.ref a1)])) (fun _ k => XS.aconstNull W17.here hx rfl (hb hby dd_prog_36_method_2_code_29) k) ?_
  have F20 : Exa Z h15 a1 "com/example/fanoutd/fanoutd/subscription/SinkCredential" := ((X1.ext E11).ext E15)
  have F21 : Fld Z h15 a1 "com/example/fanoutd/fanoutd/subscription/SinkCredential" "type" "Lcom/example/fanoutd/fanoutd/subscription/SinkCredential$Type;" .null := ((F2.ext E11).ext E15)
  have F22 : Fld Z h15 a1 "com/example/fanoutd/fanoutd/subscription/SinkCredential" "identifier" "Ljava/lang/String;" .null := ((F3.ext E11).ext E15)
  have F23 : Fld Z h15 a1 "com/example/fanoutd/fanoutd/subscription/SinkCredential" "secret" "Ljava/lang/String;" .null := ((F4.ext E11).ext E15)
  have F24 : Fld Z h15 a1 "com/example/fanoutd/fanoutd/subscription/SinkCredential" "accessToken" "Ljava/lang/String;" .null := ((F5.ext E11).ext E15)
  have F25 : Fld Z h15 a1 "com/example/fanoutd/fanoutd/subscription/SinkCredential" "accessTokenType" "Ljava/lang/String;" .null := ((F6.ext E11).ext E15)
  have F26 : Fld Z h15 a1 "com/example/fanoutd/fanoutd/subscription/SinkCredential" "accessTokenExpires" "Ljava/time/Instant;" .null := ((F7.ext E11).ext E15)
  have F27 : Fld Z h15 a1 "com/example/fanoutd/fanoutd/subscription/SinkCredential" "refreshToken" "Ljava/lang/String;" .null := ((F8.ext E11).ext E15)
  have F28 : Fld Z h15 a1 "com/example/fanoutd/fanoutd/subscription/SinkCredential" "refreshTokenEndpoint" "Ljava/net/URI;" .null := ((F9.ext E11).ext E15)
  obtain ⟨_, vm19, T19, h19, W19, Q19, z19, SF19, st19⟩ := W17.callI hx hEL (own_initSC l hE W17.old (x0 := a1) (v0 := zp) (v1 := (.ref s1)) (v2 := (.ref s2)) (v3 := .null) (v4 := .null) (v5 := .null) (v6 := .null) (v7 := .null) (by omega) rzp rfl rfl rfl rfl rfl rfl rfl F20 F21 F22 F23 F24 F25 F26 F27 F28) rfl (hw _ (List.mem_of_getElem? (i := 53) rfl)) (hw _ (List.mem_of_getElem? (i := 54) rfl)) (hw _ (List.mem_of_getElem? (i := 39) rfl)) (hw _ (List.mem_of_getElem? (i := 55) rfl)) (by decide) (Wd := 1) (by decide) (by decide) (by decide) (by decide) (g := (mkF m 30 #[.val (.ref s1), .val (.ref s2)] [.null, .null, .null, .null, .null, (.ref s2), (.ref s1), zp, (.ref a1), (.ref a1)])) rfl (by rw [hml]; rfl) (a := a1) (argsL := [zp, (.ref s1), (.ref s2), .null, .null, .null, .null, .null]) (rest := [(.ref a1)]) rfl (lenOf pd__Lcom_example_fanoutd_fanoutd_subscription_SinkCredential_Type_Ljava_lang_String_Ljava_lang_String_Ljava_lang_String_Ljava_lang_String_Ljava_time_Instant_Ljava_lang_String_Ljava_net_URI__V rfl) rfl (by show 2 * 0 + _ ≤ _; exact Nat.le_of_eq rfl) (hb hby dd_prog_36_method_2_code_30)
  obtain ⟨rfl, f19_0, f19_1, f19_2, f19_3, f19_4, f19_5, f19_6, f19_7, K19⟩ := Q19
  refine Go.tr (g' := (mkF m 33 #[.val (.ref s1), .val (.ref s2)] [(.ref a1)])) st19 ?_
  have F29 : Exa Z h19 a1 "com/example/fanoutd/fanoutd/subscription/SinkCredential" := (F20.keep K19)
  exact W19.retA hx hEL hlk hret rfl rfl rfl (hb hby dd_prog_36_method_2_code_33) (by decide) (by decide) ⟨a1, rfl, F29, f19_0, f19_1, f19_2, f19_3, f19_4, f19_5, f19_6, f19_7, (((((Keep.refl h0 []).ext E1).ext E11).ext E15).trans K19 (allS (Or.inr (by omega)) all0))⟩
set_option maxRecDepth 65536 in
set_option maxHeartbeats 4000000 in
theorem own_get_type (l : Launch) {Z : State} {a0 : Array Value} (hE : Ctx Z a0) {n0 : Nat} {h0 : Heap} (O : Old Z n0 h0) {x0 : Addr} {v0 : Value} (r0 : v0.isRef = true) (P0 : Fld Z h0 x0 "com/example/fanoutd/fanoutd/subscription/SinkCredential" "type" "Lcom/example/fanoutd/fanoutd/subscription/SinkCredential$Type;" v0) :
    Met l (⟨"com/example/fanoutd/fanoutd/subscription/SinkCredential", "type", "()Lcom/example/fanoutd/fanoutd/subscription/SinkCredential$Type;"⟩ : MethodName) prog_36_method_6_code 1 (Option.some (Jvm.ClassFile.FieldType.object "com/example/fanoutd/fanoutd/subscription/SinkCredential$Type")) ({ frames := 0, cells := 0, slots := 0, locals := 0 } : Room) Z consts_1 n0 [] #[(.ref x0)] h0 (fun v h => v = some v0 ∧ h0 = h) := by
  have hw := hE.1
  have hEL := own_EW hw
  have own_wS := own_stringAtoms hw
  refine Met.of (by first | (refine plainFor_of_name ?_; simp [plainName, overriddenIn]; done) | decide +kernel) O ?_
  intro p e s m below meth c T0 hx hby hml hret hlk hnm hh0 W0
  have z0 := W0.ge
  refine Go.st (g' := (mkF m 0 #[.val (.ref x0)] [])) (fun _ k => castTop (by first | rfl | (simp [entryFrame, mkF, argsToLocals, maxLocals, own_catI, own_catJ, own_catD, own_catA, own_catN]; done)) k) ?_
  refine Go.st (g' := (mkF m 1 #[.val (.ref x0)] [(.ref x0)])) (fun _ k => XS.aloadN W0.here hx rfl (hb hby dd_prog_36_method_6_code_0) rfl rfl  k) ?_
  obtain ⟨T1, W1, st1⟩ := W0.getF hx (hw _ (List.mem_of_getElem? (i := 57) rfl)) Via.refl P0 (g := (mkF m 1 #[.val (.ref x0)] [(.ref x0)])) rfl rfl (hb hby dd_prog_36_method_6_code_1)
  refine Go.st (g' := (mkF m 4 #[.val (.ref x0)] [v0])) st1 ?_
  exact W1.retA hx hEL hlk hret rfl rfl r0 (hb hby dd_prog_36_method_6_code_4) (by decide) (by decide) ⟨rfl, rfl⟩
set_option maxRecDepth 65536 in
set_option maxHeartbeats 4000000 in
theorem own_get_identifier (l : Launch) {Z : State} {a0 : Array Value} (hE : Ctx Z a0) {n0 : Nat} {h0 : Heap} (O : Old Z n0 h0) {x0 : Addr} {v0 : Value} (r0 : v0.isRef = true) (P0 : Fld Z h0 x0 "com/example/fanoutd/fanoutd/subscription/SinkCredential" "identifier" "Ljava/lang/String;" v0) :
    Met l (⟨"com/example/fanoutd/fanoutd/subscription/SinkCredential", "identifier", "()Ljava/lang/String;"⟩ : MethodName) prog_36_method_7_code 1 (Option.some (Jvm.ClassFile.FieldType.object "java/lang/String")) ({ frames := 0, cells := 0, slots := 0, locals := 0 } : Room) Z consts_1 n0 [] #[(.ref x0)] h0 (fun v h => v = some v0 ∧ h0 = h) := by
  have hw := hE.1
  have hEL := own_EW hw
  have own_wS := own_stringAtoms hw
  refine Met.of (by first | (refine plainFor_of_name ?_; simp [plainName, overriddenIn]; done) | decide +kernel) O ?_
  intro p e s m below meth c T0 hx hby hml hret hlk hnm hh0 W0
  have z0 := W0.ge
  refine Go.st (g' := (mkF m 0 #[.val (.ref x0)] [])) (fun _ k => castTop (by first | rfl | (simp [entryFrame, mkF, argsToLocals, maxLocals, own_catI, own_catJ, own_catD, own_catA, own_catN]; done)) k) ?_
  refine Go.st (g' := (mkF m 1 #[.val (.ref x0)] [(.ref x0)])) (fun _ k => XS.aloadN W0.here hx rfl (hb hby dd_prog_36_method_7_code_0) rfl rfl  k) ?_
  obtain ⟨T1, W1, st1⟩ := W0.getF hx (hw _ (List.mem_of_getElem? (i := 59) rfl)) Via.refl P0 (g := (mkF m 1 #[.val (.ref x0)] [(.ref x0)])) rfl rfl (hb hby dd_prog_36_method_7_code_1)
  refine Go.st (g' := (mkF m 4 #[.val (.ref x0)] [v0])) st1 ?_
  exact W1.retA hx hEL hlk hret rfl rfl r0 (hb hby dd_prog_36_method_7_code_4) (by decide) (by decide) ⟨rfl, rfl⟩
set_option maxRecDepth 65536 in
set_option maxHeartbeats 4000000 in
theorem own_get_secret (l : Launch) {Z : State} {a0 : Array Value} (hE : Ctx Z a0) {n0 : Nat} {h0 : Heap} (O : Old Z n0 h0) {x0 : Addr} {v0 : Value} (r0 : v0.isRef = true) (P0 : Fld Z h0 x0 "com/example/fanoutd/fanoutd/subscription/SinkCredential" "secret" "Ljava/lang/String;" v0) :
    Met l (⟨"com/example/fanoutd/fanoutd/subscription/SinkCredential", "secret", "()Ljava/lang/String;"⟩ : MethodName) prog_36_method_8_code 1 (Option.some (Jvm.ClassFile.FieldType.object "java/lang/String")) ({ frames := 0, cells := 0, slots := 0, locals := 0 } : Room) Z consts_1 n0 [] #[(.ref x0)] h0 (fun v h => v = some v0 ∧ h0 = h) := by
  have hw := hE.1
  have hEL := own_EW hw
  have own_wS := own_stringAtoms hw
  refine Met.of (by first | (refine plainFor_of_name ?_; simp [plainName, overriddenIn]; done) | decide +kernel) O ?_
  intro p e s m below meth c T0 hx hby hml hret hlk hnm hh0 W0
  have z0 := W0.ge
  refine Go.st (g' := (mkF m 0 #[.val (.ref x0)] [])) (fun _ k => castTop (by first | rfl | (simp [entryFrame, mkF, argsToLocals, maxLocals, own_catI, own_catJ, own_catD, own_catA, own_catN]; done)) k) ?_
  refine Go.st (g' := (mkF m 1 #[.val (.ref x0)] [(.ref x0)])) (fun _ k => XS.aloadN W0.here hx rfl (hb hby dd_prog_36_method_8_code_0) rfl rfl  k) ?_
  obtain ⟨T1, W1, st1⟩ := W0.getF hx (hw _ (List.mem_of_getElem? (i := 61) rfl)) Via.refl P0 (g := (mkF m 1 #[.val (.ref x0)] [(.ref x0)])) rfl rfl (hb hby dd_prog_36_method_8_code_1)
  refine Go.st (g' := (mkF m 4 #[.val (.ref x0)] [v0])) st1 ?_
  exact W1.retA hx hEL hlk hret rfl rfl r0 (hb hby dd_prog_36_method_8_code_4) (by decide) (by decide) ⟨rfl, rfl⟩
set_option maxRecDepth 65536 in
set_option maxHeartbeats 4000000 in
theorem own_get_accessToken (l : Launch) {Z : State} {a0 : Array Value} (hE : Ctx Z a0) {n0 : Nat} {h0 : Heap} (O : Old Z n0 h0) {x0 : Addr} {v0 : Value} (r0 : v0.isRef = true) (P0 : Fld Z h0 x0 "com/example/fanoutd/fanoutd/subscription/SinkCredential" "accessToken" "Ljava/lang/String;" v0) :
    Met l (⟨"com/example/fanoutd/fanoutd/subscription/SinkCredential", "accessToken", "()Ljava/lang/String;"⟩ : MethodName) prog_36_method_9_code 1 (Option.some (Jvm.ClassFile.FieldType.object "java/lang/String")) ({ frames := 0, cells := 0, slots := 0, locals := 0 } : Room) Z consts_1 n0 [] #[(.ref x0)] h0 (fun v h => v = some v0 ∧ h0 = h) := by
  have hw := hE.1
  have hEL := own_EW hw
  have own_wS := own_stringAtoms hw
  refine Met.of (by first | (refine plainFor_of_name ?_; simp [plainName, overriddenIn]; done) | decide +kernel) O ?_
  intro p e s m below meth c T0 hx hby hml hret hlk hnm hh0 W0
  have z0 := W0.ge
  refine Go.st (g' := (mkF m 0 #[.val (.ref x0)] [])) (fun _ k => castTop (by first | rfl | (simp [entryFrame, mkF, argsToLocals, maxLocals, own_catI, own_catJ, own_catD, own_catA, own_catN]; done)) k) ?_
  refine Go.st (g' := (mkF m 1 #[.val (.ref x0)] [(.ref x0)])) (fun _ k => XS.aloadN W0.here hx rfl (hb hby dd_prog_36_method_9_code_0) rfl rfl  k) ?_
  obtain ⟨T1, W1, st1⟩ := W0.getF hx (hw _ (List.mem_of_getElem? (i := 63) rfl)) Via.refl P0 (g := (mkF m 1 #[.val (.ref x0)] [(.ref x0)])) rfl rfl (hb hby dd_prog_36_method_9_code_1)
  refine Go.st (g' := (mkF m 4 #[.val (.ref x0)] [v0])) st1 ?_
  exact W1.retA hx hEL hlk hret rfl rfl r0 (hb hby dd_prog_36_method_9_code_4) (by decide) (by decide) ⟨rfl, rfl⟩
set_option maxRecDepth 65536 in
set_option maxHeartbeats 4000000 in
theorem own_get_accessTokenType (l : Launch) {Z : State} {a0 : Array Value} (hE : Ctx Z a0) {n0 : Nat} {h0 : Heap} (O : Old Z n0 h0) {x0 : Addr} {v0 : Value} (r0 : v0.isRef = true) (P0 : Fld Z h0 x0 "com/example/fanoutd/fanoutd/subscription/SinkCredential" "accessTokenType" "Ljava/lang/String;" v0) :
    Met l (⟨"com/example/fanoutd/fanoutd/subscription/SinkCredential", "accessTokenType", "()Ljava/lang/String;"⟩ : MethodName) prog_36_method_10_code 1 (Option.some (Jvm.ClassFile.FieldType.object "java/lang/String")) ({ frames := 0, cells := 0, slots := 0, locals := 0 } : Room) Z consts_1 n0 [] #[(.ref x0)] h0 (fun v h => v = some v0 ∧ h0 = h) := by
  have hw := hE.1
  have hEL := own_EW hw
  have own_wS := own_stringAtoms hw
  refine Met.of (by first | (refine plainFor_of_name ?_; simp [plainName, overriddenIn]; done) | decide +kernel) O ?_
  intro p e s m below meth c T0 hx hby hml hret hlk hnm hh0 W0
  have z0 := W0.ge
  refine Go.st (g' := (mkF m 0 #[.val (.ref x0)] [])) (fun _ k => castTop (by first | rfl | (simp [entryFrame, mkF, argsToLocals, maxLocals, own_catI, own_catJ, own_catD, own_catA, own_catN]; done)) k) ?_
  refine Go.st (g' := (mkF m 1 #[.val (.ref x0)] [(.ref x0)])) (fun _ k => XS.aloadN W0.here hx rfl (hb hby dd_prog_36_method_10_code_0) rfl rfl  k) ?_
  obtain ⟨T1, W1, st1⟩ := W0.getF hx (hw _ (List.mem_of_getElem? (i := 65) rfl)) Via.refl P0 (g := (mkF m 1 #[.val (.ref x0)] [(.ref x0)])) rfl rfl (hb hby dd_prog_36_method_10_code_1)
  refine Go.st (g' := (mkF m 4 #[.val (.ref x0)] [v0])) st1 ?_
  exact W1.retA hx hEL hlk hret rfl rfl r0 (hb hby dd_prog_36_method_10_code_4) (by decide) (by decide) ⟨rfl, rfl⟩
set_option maxRecDepth 65536 in
set_option maxHeartbeats 4000000 in
theorem own_get_accessTokenExpires (l : Launch) {Z : State} {a0 : Array Value} (hE : Ctx Z a0) {n0 : Nat} {h0 : Heap} (O : Old Z n0 h0) {x0 : Addr} {v0 : Value} (r0 : v0.isRef = true) (P0 : Fld Z h0 x0 "com/example/fanoutd/fanoutd/subscription/SinkCredential" "accessTokenExpires" "Ljava/time/Instant;" v0) :
    Met l (⟨"com/example/fanoutd/fanoutd/subscription/SinkCredential", "accessTokenExpires", "()Ljava/time/Instant;"⟩ : MethodName) prog_36_method_11_code 1 (Option.some (Jvm.ClassFile.FieldType.object "java/time/Instant")) ({ frames := 0, cells := 0, slots := 0, locals := 0 } : Room) Z consts_1 n0 [] #[(.ref x0)] h0 (fun v h => v = some v0 ∧ h0 = h) := by
  have hw := hE.1
  have hEL := own_EW hw
  have own_wS := own_stringAtoms hw
  refine Met.of (by first | (refine plainFor_of_name ?_; simp [plainName, overriddenIn]; done) | decide +kernel) O ?_
  intro p e s m below meth c T0 hx hby hml hret hlk hnm hh0 W0
  have z0 := W0.ge
  refine Go.st (g' := (mkF m 0 #[.val (.ref x0)] [])) (fun _ k => castTop (by first | rfl | (simp [entryFrame, mkF, argsToLocals, maxLocals, own_catI, own_catJ, own_catD, own_catA, own_catN]; done)) k) ?_
  refine Go.st (g' := (mkF m 1 #[.val (.ref x0)] [(.ref x0)])) (fun _ k => XS.aloadN W0.here hx rfl (hb hby dd_prog_36_method_11_code_0) rfl rfl  k) ?_
  obtain ⟨T1, W1, st1⟩ := W0.getF hx (hw _ (List.mem_of_getElem? (i := 67) rfl)) Via.refl P0 (g := (mkF m 1 #[.val (.ref x0)] [(.ref x0)])) rfl rfl (hb hby dd_prog_36_method_11_code_1)
  refine Go.st (g' := (mkF m 4 #[.val (.ref x0)] [v0])) st1 ?_
  exact W1.retA hx hEL hlk hret rfl rfl r0 (hb hby dd_prog_36_method_11_code_4) (by decide) (by decide) ⟨rfl, rfl⟩
set_option maxRecDepth 65536 in
set_option maxHeartbeats 4000000 in
theorem own_get_refreshToken (l : Launch) {Z : State} {a0 : Array Value} (hE : Ctx Z a0) {n0 : Nat} {h0 : Heap} (O : Old Z n0 h0) {x0 : Addr} {v0 : Value} (r0 : v0.isRef = true) (P0 : Fld Z h0 x0 "com/example/fanoutd/fanoutd/subscription/SinkCredential" "refreshToken" "Ljava/lang/String;" v0) :
    Met l (⟨"com/example/fanoutd/fanoutd/subscription/SinkCredential", "refreshToken", "()Ljava/lang/String;"⟩ : MethodName) prog_36_method_12_code 1 (Option.some (Jvm.ClassFile.FieldType.object "java/lang/String")) ({ frames := 0, cells := 0, slots := 0, locals := 0 } : Room) Z consts_1 n0 [] #[(.ref x0)] h0 (fun v h => v = some v0 ∧ h0 = h) := by
  have hw := hE.1
  have hEL := own_EW hw
  have own_wS := own_stringAtoms hw
  refine Met.of (by first | (refine plainFor_of_name ?_; simp [plainName, overriddenIn]; done) | decide +kernel) O ?_
  intro p e s m below meth c T0 hx hby hml hret hlk hnm hh0 W0
  have z0 := W0.ge
  refine Go.st (g' := (mkF m 0 #[.val (.ref x0)] [])) (fun _ k => castTop (by first | rfl | (simp [entryFrame, mkF, argsToLocals, maxLocals, own_catI, own_catJ, own_catD, own_catA, own_catN]; done)) k) ?_
  refine Go.st (g' := (mkF m 1 #[.val (.ref x0)] [(.ref x0)])) (fun _ k => XS.aloadN W0.here hx rfl (hb hby dd_prog_36_method_12_code_0) rfl rfl  k) ?_
  obtain ⟨T1, W1, st1⟩ := W0.getF hx (hw _ (List.mem_of_getElem? (i := 69) rfl)) Via.refl P0 (g := (mkF m 1 #[.val (.ref x0)] [(.ref x0)])) rfl rfl (hb hby dd_prog_36_method_12_code_1)
  refine Go.st (g' := (mkF m 4 #[.val (.ref x0)] [v0])) st1 ?_
  exact W1.retA hx hEL hlk hret rfl rfl r0 (hb hby dd_prog_36_method_12_code_4) (by decide) (by decide) ⟨rfl, rfl⟩
set_option maxRecDepth 65536 in
set_option maxHeartbeats 4000000 in
theorem own_get_refreshTokenEndpoint (l : Launch) {Z : State} {a0 : Array Value} (hE : Ctx Z a0) {n0 : Nat} {h0 : Heap} (O : Old Z n0 h0) {x0 : Addr} {v0 : Value} (r0 : v0.isRef = true) (P0 : Fld Z h0 x0 "com/example/fanoutd/fanoutd/subscription/SinkCredential" "refreshTokenEndpoint" "Ljava/net/URI;" v0) :
    Met l (⟨"com/example/fanoutd/fanoutd/subscription/SinkCredential", "refreshTokenEndpoint", "()Ljava/net/URI;"⟩ : MethodName) prog_36_method_13_code 1 (Option.some (Jvm.ClassFile.FieldType.object "java/net/URI")) ({ frames := 0, cells := 0, slots := 0, locals := 0 } : Room) Z consts_1 n0 [] #[(.ref x0)] h0 (fun v h => v = some v0 ∧ h0 = h) := by
  have hw := hE.1
  have hEL := own_EW hw
  have own_wS := own_stringAtoms hw
  refine Met.of (by first | (refine plainFor_of_name ?_; simp [plainName, overriddenIn]; done) | decide +kernel) O ?_
  intro p e s m below meth c T0 hx hby hml hret hlk hnm hh0 W0
  have z0 := W0.ge
  refine Go.st (g' := (mkF m 0 #[.val (.ref x0)] [])) (fun _ k => castTop (by first | rfl | (simp [entryFrame, mkF, argsToLocals, maxLocals, own_catI, own_catJ, own_catD, own_catA, own_catN]; done)) k) ?_
  refine Go.st (g' := (mkF m 1 #[.val (.ref x0)] [(.ref x0)])) (fun _ k => XS.aloadN W0.here hx rfl (hb hby dd_prog_36_method_13_code_0) rfl rfl  k) ?_
  obtain ⟨T1, W1, st1⟩ := W0.getF hx (hw _ (List.mem_of_getElem? (i := 71) rfl)) Via.refl P0 (g := (mkF m 1 #[.val (.ref x0)] [(.ref x0)])) rfl rfl (hb hby dd_prog_36_method_13_code_1)
  refine Go.st (g' := (mkF m 4 #[.val (.ref x0)] [v0])) st1 ?_
  exact W1.retA hx hEL hlk hret rfl rfl r0 (hb hby dd_prog_36_method_13_code_4) (by decide) (by decide) ⟨rfl, rfl⟩
set_option maxRecDepth 65536 in
set_option maxHeartbeats 4000000 in
theorem own_matches0 (l : Launch) {Z : State} {a0 : Array Value} (hE : Ctx Z a0) {n0 : Nat} {h0 : Heap} (O : Old Z n0 h0) {x0 : Addr} {t0 : Addr} {a : Int32}  (P0 : Exa Z h0 x0 "java/lang/String") (P1 : Str Z h0 x0 t0 []) :
    Met l (⟨"com/example/fanoutd/fanoutd/subscription/SinkCredentialPlainPinLaw", "matches", "(Ljava/lang/String;II)Z"⟩ : MethodName) method_3_code 3 (Option.some Jvm.ClassFile.FieldType.boolean) ({ frames := 5, cells := 0, slots := 0, locals := 70 } : Room) Z consts_1 n0 [] #[(.ref x0), (.int a), (.int (0 : Int32))] h0 (fun v h => v = some (.int (1 : Int32)) ∧ h0 = h) := by
  have hw := hE.1
  have hEL := own_EW hw
  have own_wS := own_stringAtoms hw
  obtain ⟨zc, hzc, hzc0⟩ := hE.2.1
  obtain ⟨fm, hfm, rfm⟩ := hE.2.2.1
  have hln : ∀ d ∈ StrChars.Road.wordsLen, d.before a0 Z = true := fun d hd => hw d ((by decide +kernel : ∀ d ∈ StrChars.Road.wordsLen, d ∈ tables_1) d hd)
  have hch : ∀ d ∈ StrChars.Road.wordsChN, d.before a0 Z = true := fun d hd => hw d ((by decide +kernel : ∀ d ∈ StrChars.Road.wordsChN, d ∈ tables_1) d hd)
  refine Met.of (by first | (refine plainFor_of_name ?_; simp [plainName, overriddenIn]; done) | decide +kernel) O ?_
  intro p e s m below meth c T0 hx hby hml hret hlk hnm hh0 W0
  have z0 := W0.ge
  have yP0 : h0.size > x0 := P0.lt
  have yP1 : h0.size > x0 ∧ h0.size > t0 := P1.lt
  refine Go.st (g' := (mkF m 0 #[.val (.ref x0), .val (.int a), .val (.int (0 : Int32))] [])) (fun _ k => castTop (by first | rfl | (simp [entryFrame, mkF, argsToLocals, maxLocals, own_catI, own_catJ, own_catD, own_catA, own_catN]; done)) k) ?_
  refine Go.st (g' := (mkF m 1 #[.val (.ref x0), .val (.int a), .val (.int (0 : Int32))] [(.ref x0)])) (fun _ k => XS.aloadN W0.here hx rfl (hb hby dd_method_3_code_0) rfl rfl  k) ?_
  refine Go.st (g' := (mkF m 6 #[.val (.ref x0), .val (.int a), .val (.int (0 : Int32))] [])) (fun _ k => XS.ifnonnullYes W0.here hx rfl (pc0 := 1) (pc' := 6) rfl (hb hby dd_method_3_code_1) rfl (by decide) (by decide) k) ?_
  refine Go.st (g' := (mkF m 7 #[.val (.ref x0), .val (.int a), .val (.int (0 : Int32))] [(.ref x0)])) (fun _ k => XS.aloadN W0.here hx rfl (hb hby dd_method_3_code_6) rfl rfl  k) ?_
  obtain ⟨T1, W1, st1⟩ := W0.strLen hx hln (hw _ (List.mem_of_getElem? (i := 6) rfl)) P1 hzc hzc0 (hw _ (List.mem_of_getElem? (i := 87) rfl)) (hw _ (List.mem_of_getElem? (i := 88) rfl)) (hw _ (List.mem_of_getElem? (i := 90) rfl)) (hw _ (List.mem_of_getElem? (i := 89) rfl)) (Wd := 0) (by decide) (by decide) (by decide) (by decide) (g := (mkF m 7 #[.val (.ref x0), .val (.int a), .val (.int (0 : Int32))] [(.ref x0)])) rfl (by rw [hml]; rfl) (rest := []) rfl (by show 2 * 0 + _ ≤ _; exact Nat.le_of_eq rfl) (hb hby dd_method_3_code_7)
  refine Go.tr (g' := (mkF m 10 #[.val (.ref x0), .val (.int a), .val (.int (0 : Int32))] [(.int (0 : Int32))])) st1 ?_
  refine Go.st (g' := (mkF m 11 #[.val (.ref x0), .val (.int a), .val (.int (0 : Int32))] [(.int (0 : Int32)), (.int (0 : Int32))])) (fun _ k => XS.iloadN W1.here hx rfl (hb hby dd_method_3_code_10) rfl  k) ?_
  refine Go.st (g' := (mkF m 16 #[.val (.ref x0), .val (.int a), .val (.int (0 : Int32))] [])) (fun _ k => XS.icmpYes W1.here hx rfl (pc0 := 11) (pc' := 16) rfl (hb hby dd_method_3_code_11) rfl (teq (by decide)).1 (by decide) (by decide) k) ?_
  refine Go.st (g' := (mkF m 17 #[.val (.ref x0), .val (.int a), .val (.int (0 : Int32))] [(.int (0 : Int32))])) (fun _ k => XS.iloadN W1.here hx rfl (hb hby dd_method_3_code_16) rfl  k) ?_
  refine Go.st (g' := (mkF m 18 #[.val (.ref x0), .val (.int a), .val (.int (0 : Int32))] [(.int (1 : Int32)), (.int (0 : Int32))])) (fun _ k => XS.iconst W1.here hx rfl (hb hby dd_method_3_code_17) k) ?_
  refine Go.st (g' := (mkF m 37 #[.val (.ref x0), .val (.int a), .val (.int (0 : Int32))] [])) (fun _ k => XS.icmpYes W1.here hx rfl (pc0 := 18) (pc' := 37) rfl (hb hby dd_method_3_code_18) rfl (tlt (by decide)).1 (by decide) (by decide) k) ?_
  refine Go.st (g' := (mkF m 38 #[.val (.ref x0), .val (.int a), .val (.int (0 : Int32))] [(.int (0 : Int32))])) (fun _ k => XS.iloadN W1.here hx rfl (hb hby dd_method_3_code_37) rfl  k) ?_
  refine Go.st (g' := (mkF m 39 #[.val (.ref x0), .val (.int a), .val (.int (0 : Int32))] [(.int (2 : Int32)), (.int (0 : Int32))])) (fun _ k => XS.iconst W1.here hx rfl (hb hby dd_method_3_code_38) k) ?_
  refine Go.st (g' := (mkF m 61 #[.val (.ref x0), .val (.int a), .val (.int (0 : Int32))] [])) (fun _ k => XS.icmpYes W1.here hx rfl (pc0 := 39) (pc' := 61) rfl (hb hby dd_method_3_code_39) rfl (tlt (by decide)).1 (by decide) (by decide) k) ?_
  refine Go.st (g' := (mkF m 62 #[.val (.ref x0), .val (.int a), .val (.int (0 : Int32))] [(.int (1 : Int32))])) (fun _ k => XS.iconst W1.here hx rfl (hb hby dd_method_3_code_61) k) ?_
  exact W1.retN hx hEL hlk (t := .boolean) hret (by decide) (hb hby dd_method_3_code_62) (by decide) (by decide) ⟨rfl, rfl⟩
set_option maxRecDepth 65536 in
set_option maxHeartbeats 4000000 in
theorem own_matches1 (l : Launch) {Z : State} {a0 : Array Value} (hE : Ctx Z a0) {n0 : Nat} {h0 : Heap} (O : Old Z n0 h0) {x0 : Addr} {t0 : Addr} {a : Int32}  (P0 : Exa Z h0 x0 "java/lang/String") (P1 : Str Z h0 x0 t0 [(a &&& (255 : Int32))]) :
    Met l (⟨"com/example/fanoutd/fanoutd/subscription/SinkCredentialPlainPinLaw", "matches", "(Ljava/lang/String;II)Z"⟩ : MethodName) method_3_code 3 (Option.some Jvm.ClassFile.FieldType.boolean) ({ frames := 5, cells := 0, slots := 0, locals := 70 } : Room) Z consts_1 n0 [] #[(.ref x0), (.int a), (.int (1 : Int32))] h0 (fun v h => v = some (.int (1 : Int32)) ∧ h0 = h) := by
  have hw := hE.1
  have hEL := own_EW hw
  have own_wS := own_stringAtoms hw
  obtain ⟨zc, hzc, hzc0⟩ := hE.2.1
  obtain ⟨fm, hfm, rfm⟩ := hE.2.2.1
  have hln : ∀ d ∈ StrChars.Road.wordsLen, d.before a0 Z = true := fun d hd => hw d ((by decide +kernel : ∀ d ∈ StrChars.Road.wordsLen, d ∈ tables_1) d hd)
  have hch : ∀ d ∈ StrChars.Road.wordsChN, d.before a0 Z = true := fun d hd => hw d ((by decide +kernel : ∀ d ∈ StrChars.Road.wordsChN, d ∈ tables_1) d hd)
  refine Met.of (by first | (refine plainFor_of_name ?_; simp [plainName, overriddenIn]; done) | decide +kernel) O ?_
  intro p e s m below meth c T0 hx hby hml hret hlk hnm hh0 W0
  have z0 := W0.ge
  have yP0 : h0.size > x0 := P0.lt
  have yP1 : h0.size > x0 ∧ h0.size > t0 := P1.lt
  refine Go.st (g' := (mkF m 0 #[.val (.ref x0), .val (.int a), .val (.int (1 : Int32))] [])) (fun _ k => castTop (by first | rfl | (simp [entryFrame, mkF, argsToLocals, maxLocals, own_catI, own_catJ, own_catD, own_catA, own_catN]; done)) k) ?_
  refine Go.st (g' := (mkF m 1 #[.val (.ref x0), .val (.int a), .val (.int (1 : Int32))] [(.ref x0)])) (fun _ k => XS.aloadN W0.here hx rfl (hb hby dd_method_3_code_0) rfl rfl  k) ?_
  refine Go.st (g' := (mkF m 6 #[.val (.ref x0), .val (.int a), .val (.int (1 : Int32))] [])) (fun _ k => XS.ifnonnullYes W0.here hx rfl (pc0 := 1) (pc' := 6) rfl (hb hby dd_method_3_code_1) rfl (by decide) (by decide) k) ?_
  refine Go.st (g' := (mkF m 7 #[.val (.ref x0), .val (.int a), .val (.int (1 : Int32))] [(.ref x0)])) (fun _ k => XS.aloadN W0.here hx rfl (hb hby dd_method_3_code_6) rfl rfl  k) ?_
  obtain ⟨T1, W1, st1⟩ := W0.strLen hx hln (hw _ (List.mem_of_getElem? (i := 6) rfl)) P1 hzc hzc0 (hw _ (List.mem_of_getElem? (i := 87) rfl)) (hw _ (List.mem_of_getElem? (i := 88) rfl)) (hw _ (List.mem_of_getElem? (i := 90) rfl)) (hw _ (List.mem_of_getElem? (i := 89) rfl)) (Wd := 0) (by decide) (by decide) (by decide) (by decide) (g := (mkF m 7 #[.val (.ref x0), .val (.int a), .val (.int (1 : Int32))] [(.ref x0)])) rfl (by rw [hml]; rfl) (rest := []) rfl (by show 2 * 0 + _ ≤ _; exact Nat.le_of_eq rfl) (hb hby dd_method_3_code_7)
  refine Go.tr (g' := (mkF m 10 #[.val (.ref x0), .val (.int a), .val (.int (1 : Int32))] [(.int (1 : Int32))])) st1 ?_
  refine Go.st (g' := (mkF m 11 #[.val (.ref x0), .val (.int a), .val (.int (1 : Int32))] [(.int (1 : Int32)), (.int (1 : Int32))])) (fun _ k => XS.iloadN W1.here hx rfl (hb hby dd_method_3_code_10) rfl  k) ?_
  refine Go.st (g' := (mkF m 16 #[.val (.ref x0), .val (.int a), .val (.int (1 : Int32))] [])) (fun _ k => XS.icmpYes W1.here hx rfl (pc0 := 11) (pc' := 16) rfl (hb hby dd_method_3_code_11) rfl (teq (by decide)).1 (by decide) (by decide) k) ?_
  refine Go.st (g' := (mkF m 17 #[.val (.ref x0), .val (.int a), .val (.int (1 : Int32))] [(.int (1 : Int32))])) (fun _ k => XS.iloadN W1.here hx rfl (hb hby dd_method_3_code_16) rfl  k) ?_
  refine Go.st (g' := (mkF m 18 #[.val (.ref x0), .val (.int a), .val (.int (1 : Int32))] [(.int (1 : Int32)), (.int (1 : Int32))])) (fun _ k => XS.iconst W1.here hx rfl (hb hby dd_method_3_code_17) k) ?_
  refine Go.st (g' := (mkF m 21 #[.val (.ref x0), .val (.int a), .val (.int (1 : Int32))] [])) (fun _ k => XS.icmpNo W1.here hx rfl (hb hby dd_method_3_code_18) rfl (flt (by decide)).1 k) ?_
  refine Go.st (g' := (mkF m 22 #[.val (.ref x0), .val (.int a), .val (.int (1 : Int32))] [(.ref x0)])) (fun _ k => XS.aloadN W1.here hx rfl (hb hby dd_method_3_code_21) rfl rfl  k) ?_
  refine Go.st (g' := (mkF m 23 #[.val (.ref x0), .val (.int a), .val (.int (1 : Int32))] [(.int (0 : Int32)), (.ref x0)])) (fun _ k => XS.iconst W1.here hx rfl (hb hby dd_method_3_code_22) k) ?_
  obtain ⟨T2, W2, st2⟩ := W1.strChr hx hch (hw _ (List.mem_of_getElem? (i := 6) rfl)) P1 (own_allS (own_and255 _).2 own_all0) hzc hzc0 hfm rfm (i := 0) (j := (0 : Int32)) (Nat.le_of_ble_eq_true rfl) (by decide) (hw _ (List.mem_of_getElem? (i := 97) rfl)) (hw _ (List.mem_of_getElem? (i := 98) rfl)) (hw _ (List.mem_of_getElem? (i := 100) rfl)) (hw _ (List.mem_of_getElem? (i := 99) rfl)) (Wd := 0) (by decide) (by decide) (by decide) (by decide) (g := (mkF m 23 #[.val (.ref x0), .val (.int a), .val (.int (1 : Int32))] [(.int (0 : Int32)), (.ref x0)])) rfl (by rw [hml]; rfl) (rest := []) rfl (by show 2 * 0 + _ ≤ _; exact Nat.le_of_eq rfl) (hb hby dd_method_3_code_23)
  refine Go.tr (g' := (mkF m 26 #[.val (.ref x0), .val (.int a), .val (.int (1 : Int32))] [(.int (a &&& (255 : Int32)))])) st2 ?_
  refine Go.st (g' := (mkF m 27 #[.val (.ref x0), .val (.int a), .val (.int (1 : Int32))] [(.int a), (.int (a &&& (255 : Int32)))])) (fun _ k => XS.iloadN W2.here hx rfl (hb hby dd_method_3_code_26) rfl  k) ?_
  refine Go.st (g' := (mkF m 30 #[.val (.ref x0), .val (.int a), .val (.int (1 : Int32))] [(.int (255 : Int32)), (.int a), (.int (a &&& (255 : Int32)))])) (fun _ k => XS.sipush W2.here hx rfl (hb hby dd_method_3_code_27) k) ?_
  refine Go.st (g' := (mkF m 31 #[.val (.ref x0), .val (.int a), .val (.int (1 : Int32))] [(.int (a &&& (255 : Int32))), (.int (a &&& (255 : Int32)))])) (fun _ k => XS.iand W2.here hx rfl (hb hby dd_method_3_code_30) rfl k) ?_
  refine Go.st (g' := (mkF m 32 #[.val (.ref x0), .val (.int a), .val (.int (1 : Int32))] [(.int ((a &&& (255 : Int32)).toUInt32.toUInt16.toUInt32.toInt32)), (.int (a &&& (255 : Int32)))])) (fun _ k => XS.i2c W2.here hx rfl (hb hby dd_method_3_code_31) rfl k) ?_
  rw [i2c_mask]
  refine Go.st (g' := (mkF m 37 #[.val (.ref x0), .val (.int a), .val (.int (1 : Int32))] [])) (fun _ k => XS.icmpYes W2.here hx rfl (pc0 := 32) (pc' := 37) rfl (hb hby dd_method_3_code_32) rfl (teq rfl).1 (by decide) (by decide) k) ?_
  refine Go.st (g' := (mkF m 38 #[.val (.ref x0), .val (.int a), .val (.int (1 : Int32))] [(.int (1 : Int32))])) (fun _ k => XS.iloadN W2.here hx rfl (hb hby dd_method_3_code_37) rfl  k) ?_
  refine Go.st (g' := (mkF m 39 #[.val (.ref x0), .val (.int a), .val (.int (1 : Int32))] [(.int (2 : Int32)), (.int (1 : Int32))])) (fun _ k => XS.iconst W2.here hx rfl (hb hby dd_method_3_code_38) k) ?_
  refine Go.st (g' := (mkF m 61 #[.val (.ref x0), .val (.int a), .val (.int (1 : Int32))] [])) (fun _ k => XS.icmpYes W2.here hx rfl (pc0 := 39) (pc' := 61) rfl (hb hby dd_method_3_code_39) rfl (tlt (by decide)).1 (by decide) (by decide) k) ?_
  refine Go.st (g' := (mkF m 62 #[.val (.ref x0), .val (.int a), .val (.int (1 : Int32))] [(.int (1 : Int32))])) (fun _ k => XS.iconst W2.here hx rfl (hb hby dd_method_3_code_61) k) ?_
  exact W2.retN hx hEL hlk (t := .boolean) hret (by decide) (hb hby dd_method_3_code_62) (by decide) (by decide) ⟨rfl, rfl⟩
set_option maxRecDepth 65536 in
set_option maxHeartbeats 4000000 in
theorem own_matches2 (l : Launch) {Z : State} {a0 : Array Value} (hE : Ctx Z a0) {n0 : Nat} {h0 : Heap} (O : Old Z n0 h0) {x0 : Addr} {t0 : Addr} {a : Int32}  (P0 : Exa Z h0 x0 "java/lang/String") (P1 : Str Z h0 x0 t0 [(a &&& (255 : Int32)), (((a.toUInt32 >>> ((8 : Int32) &&& 31).toUInt32).toInt32) &&& (255 : Int32))]) :
    Met l (⟨"com/example/fanoutd/fanoutd/subscription/SinkCredentialPlainPinLaw", "matches", "(Ljava/lang/String;II)Z"⟩ : MethodName) method_3_code 3 (Option.some Jvm.ClassFile.FieldType.boolean) ({ frames := 5, cells := 0, slots := 0, locals := 70 } : Room) Z consts_1 n0 [] #[(.ref x0), (.int a), (.int (2 : Int32))] h0 (fun v h => v = some (.int (1 : Int32)) ∧ h0 = h) := by
  have hw := hE.1
  have hEL := own_EW hw
  have own_wS := own_stringAtoms hw
  obtain ⟨zc, hzc, hzc0⟩ := hE.2.1
  obtain ⟨fm, hfm, rfm⟩ := hE.2.2.1
  have hln : ∀ d ∈ StrChars.Road.wordsLen, d.before a0 Z = true := fun d hd => hw d ((by decide +kernel : ∀ d ∈ StrChars.Road.wordsLen, d ∈ tables_1) d hd)
  have hch : ∀ d ∈ StrChars.Road.wordsChN, d.before a0 Z = true := fun d hd => hw d ((by decide +kernel : ∀ d ∈ StrChars.Road.wordsChN, d ∈ tables_1) d hd)
  refine Met.of (by first | (refine plainFor_of_name ?_; simp [plainName, overriddenIn]; done) | decide +kernel) O ?_
  intro p e s m below meth c T0 hx hby hml hret hlk hnm hh0 W0
  have z0 := W0.ge
  have yP0 : h0.size > x0 := P0.lt
  have yP1 : h0.size > x0 ∧ h0.size > t0 := P1.lt
  refine Go.st (g' := (mkF m 0 #[.val (.ref x0), .val (.int a), .val (.int (2 : Int32))] [])) (fun _ k => castTop (by first | rfl | (simp [entryFrame, mkF, argsToLocals, maxLocals, own_catI, own_catJ, own_catD, own_catA, own_catN]; done)) k) ?_
  refine Go.st (g' := (mkF m 1 #[.val (.ref x0), .val (.int a), .val (.int (2 : Int32))] [(.ref x0)])) (fun _ k => XS.aloadN W0.here hx rfl (hb hby dd_method_3_code_0) rfl rfl  k) ?_
  refine Go.st (g' := (mkF m 6 #[.val (.ref x0), .val (.int a), .val (.int (2 : Int32))] [])) (fun _ k => XS.ifnonnullYes W0.here hx rfl (pc0 := 1) (pc' := 6) rfl (hb hby dd_method_3_code_1) rfl (by decide) (by decide) k) ?_
  refine Go.st (g' := (mkF m 7 #[.val (.ref x0), .val (.int a), .val (.int (2 : Int32))] [(.ref x0)])) (fun _ k => XS.aloadN W0.here hx rfl (hb hby dd_method_3_code_6) rfl rfl  k) ?_
  obtain ⟨T1, W1, st1⟩ := W0.strLen hx hln (hw _ (List.mem_of_getElem? (i := 6) rfl)) P1 hzc hzc0 (hw _ (List.mem_of_getElem? (i := 87) rfl)) (hw _ (List.mem_of_getElem? (i := 88) rfl)) (hw _ (List.mem_of_getElem? (i := 90) rfl)) (hw _ (List.mem_of_getElem? (i := 89) rfl)) (Wd := 0) (by decide) (by decide) (by decide) (by decide) (g := (mkF m 7 #[.val (.ref x0), .val (.int a), .val (.int (2 : Int32))] [(.ref x0)])) rfl (by rw [hml]; rfl) (rest := []) rfl (by show 2 * 0 + _ ≤ _; exact Nat.le_of_eq rfl) (hb hby dd_method_3_code_7)
  refine Go.tr (g' := (mkF m 10 #[.val (.ref x0), .val (.int a), .val (.int (2 : Int32))] [(.int (2 : Int32))])) st1 ?_
  refine Go.st (g' := (mkF m 11 #[.val (.ref x0), .val (.int a), .val (.int (2 : Int32))] [(.int (2 : Int32)), (.int (2 : Int32))])) (fun _ k => XS.iloadN W1.here hx rfl (hb hby dd_method_3_code_10) rfl  k) ?_
  refine Go.st (g' := (mkF m 16 #[.val (.ref x0), .val (.int a), .val (.int (2 : Int32))] [])) (fun _ k => XS.icmpYes W1.here hx rfl (pc0 := 11) (pc' := 16) rfl (hb hby dd_method_3_code_11) rfl (teq (by decide)).1 (by decide) (by decide) k) ?_
  refine Go.st (g' := (mkF m 17 #[.val (.ref x0), .val (.int a), .val (.int (2 : Int32))] [(.int (2 : Int32))])) (fun _ k => XS.iloadN W1.here hx rfl (hb hby dd_method_3_code_16) rfl  k) ?_
  refine Go.st (g' := (mkF m 18 #[.val (.ref x0), .val (.int a), .val (.int (2 : Int32))] [(.int (1 : Int32)), (.int (2 : Int32))])) (fun _ k => XS.iconst W1.here hx rfl (hb hby dd_method_3_code_17) k) ?_
  refine Go.st (g' := (mkF m 21 #[.val (.ref x0), .val (.int a), .val (.int (2 : Int32))] [])) (fun _ k => XS.icmpNo W1.here hx rfl (hb hby dd_method_3_code_18) rfl (flt (by decide)).1 k) ?_
  refine Go.st (g' := (mkF m 22 #[.val (.ref x0), .val (.int a), .val (.int (2 : Int32))] [(.ref x0)])) (fun _ k => XS.aloadN W1.here hx rfl (hb hby dd_method_3_code_21) rfl rfl  k) ?_
  refine Go.st (g' := (mkF m 23 #[.val (.ref x0), .val (.int a), .val (.int (2 : Int32))] [(.int (0 : Int32)), (.ref x0)])) (fun _ k => XS.iconst W1.here hx rfl (hb hby dd_method_3_code_22) k) ?_
  obtain ⟨T2, W2, st2⟩ := W1.strChr hx hch (hw _ (List.mem_of_getElem? (i := 6) rfl)) P1 (own_allS (own_and255 _).2 (own_allS (own_and255 _).2 own_all0)) hzc hzc0 hfm rfm (i := 0) (j := (0 : Int32)) (Nat.le_of_ble_eq_true rfl) (by decide) (hw _ (List.mem_of_getElem? (i := 97) rfl)) (hw _ (List.mem_of_getElem? (i := 98) rfl)) (hw _ (List.mem_of_getElem? (i := 100) rfl)) (hw _ (List.mem_of_getElem? (i := 99) rfl)) (Wd := 0) (by decide) (by decide) (by decide) (by decide) (g := (mkF m 23 #[.val (.ref x0), .val (.int a), .val (.int (2 : Int32))] [(.int (0 : Int32)), (.ref x0)])) rfl (by rw [hml]; rfl) (rest := []) rfl (by show 2 * 0 + _ ≤ _; exact Nat.le_of_eq rfl) (hb hby dd_method_3_code_23)
  refine Go.tr (g' := (mkF m 26 #[.val (.ref x0), .val (.int a), .val (.int (2 : Int32))] [(.int (a &&& (255 : Int32)))])) st2 ?_
  refine Go.st (g' := (mkF m 27 #[.val (.ref x0), .val (.int a), .val (.int (2 : Int32))] [(.int a), (.int (a &&& (255 : Int32)))])) (fun _ k => XS.iloadN W2.here hx rfl (hb hby dd_method_3_code_26) rfl  k) ?_
  refine Go.st (g' := (mkF m 30 #[.val (.ref x0), .val (.int a), .val (.int (2 : Int32))] [(.int (255 : Int32)), (.int a), (.int (a &&& (255 : Int32)))])) (fun _ k => XS.sipush W2.here hx rfl (hb hby dd_method_3_code_27) k) ?_
  refine Go.st (g' := (mkF m 31 #[.val (.ref x0), .val (.int a), .val (.int (2 : Int32))] [(.int (a &&& (255 : Int32))), (.int (a &&& (255 : Int32)))])) (fun _ k => XS.iand W2.here hx rfl (hb hby dd_method_3_code_30) rfl k) ?_
  refine Go.st (g' := (mkF m 32 #[.val (.ref x0), .val (.int a), .val (.int (2 : Int32))] [(.int ((a &&& (255 : Int32)).toUInt32.toUInt16.toUInt32.toInt32)), (.int (a &&& (255 : Int32)))])) (fun _ k => XS.i2c W2.here hx rfl (hb hby dd_method_3_code_31) rfl k) ?_
  rw [i2c_mask]
  refine Go.st (g' := (mkF m 37 #[.val (.ref x0), .val (.int a), .val (.int (2 : Int32))] [])) (fun _ k => XS.icmpYes W2.here hx rfl (pc0 := 32) (pc' := 37) rfl (hb hby dd_method_3_code_32) rfl (teq rfl).1 (by decide) (by decide) k) ?_
  refine Go.st (g' := (mkF m 38 #[.val (.ref x0), .val (.int a), .val (.int (2 : Int32))] [(.int (2 : Int32))])) (fun _ k => XS.iloadN W2.here hx rfl (hb hby dd_method_3_code_37) rfl  k) ?_
  refine Go.st (g' := (mkF m 39 #[.val (.ref x0), .val (.int a), .val (.int (2 : Int32))] [(.int (2 : Int32)), (.int (2 : Int32))])) (fun _ k => XS.iconst W2.here hx rfl (hb hby dd_method_3_code_38) k) ?_
  refine Go.st (g' := (mkF m 42 #[.val (.ref x0), .val (.int a), .val (.int (2 : Int32))] [])) (fun _ k => XS.icmpNo W2.here hx rfl (hb hby dd_method_3_code_39) rfl (flt (by decide)).1 k) ?_
  refine Go.st (g' := (mkF m 43 #[.val (.ref x0), .val (.int a), .val (.int (2 : Int32))] [(.ref x0)])) (fun _ k => XS.aloadN W2.here hx rfl (hb hby dd_method_3_code_42) rfl rfl  k) ?_
  refine Go.st (g' := (mkF m 44 #[.val (.ref x0), .val (.int a), .val (.int (2 : Int32))] [(.int (1 : Int32)), (.ref x0)])) (fun _ k => XS.iconst W2.here hx rfl (hb hby dd_method_3_code_43) k) ?_
  obtain ⟨T3, W3, st3⟩ := W2.strChr hx hch (hw _ (List.mem_of_getElem? (i := 6) rfl)) P1 (own_allS (own_and255 _).2 (own_allS (own_and255 _).2 own_all0)) hzc hzc0 hfm rfm (i := 1) (j := (1 : Int32)) (Nat.le_of_ble_eq_true rfl) (by decide) (hw _ (List.mem_of_getElem? (i := 97) rfl)) (hw _ (List.mem_of_getElem? (i := 98) rfl)) (hw _ (List.mem_of_getElem? (i := 100) rfl)) (hw _ (List.mem_of_getElem? (i := 99) rfl)) (Wd := 0) (by decide) (by decide) (by decide) (by decide) (g := (mkF m 44 #[.val (.ref x0), .val (.int a), .val (.int (2 : Int32))] [(.int (1 : Int32)), (.ref x0)])) rfl (by rw [hml]; rfl) (rest := []) rfl (by show 2 * 0 + _ ≤ _; exact Nat.le_of_eq rfl) (hb hby dd_method_3_code_44)
  refine Go.tr (g' := (mkF m 47 #[.val (.ref x0), .val (.int a), .val (.int (2 : Int32))] [(.int (((a.toUInt32 >>> ((8 : Int32) &&& 31).toUInt32).toInt32) &&& (255 : Int32)))])) st3 ?_
  refine Go.st (g' := (mkF m 48 #[.val (.ref x0), .val (.int a), .val (.int (2 : Int32))] [(.int a), (.int (((a.toUInt32 >>> ((8 : Int32) &&& 31).toUInt32).toInt32) &&& (255 : Int32)))])) (fun _ k => XS.iloadN W3.here hx rfl (hb hby dd_method_3_code_47) rfl  k) ?_
  refine Go.st (g' := (mkF m 50 #[.val (.ref x0), .val (.int a), .val (.int (2 : Int32))] [(.int (8 : Int32)), (.int a), (.int (((a.toUInt32 >>> ((8 : Int32) &&& 31).toUInt32).toInt32) &&& (255 : Int32)))])) (fun _ k => XS.bipush W3.here hx rfl (hb hby dd_method_3_code_48) k) ?_
  refine Go.st (g' := (mkF m 51 #[.val (.ref x0), .val (.int a), .val (.int (2 : Int32))] [(.int ((a.toUInt32 >>> ((8 : Int32) &&& 31).toUInt32).toInt32)), (.int (((a.toUInt32 >>> ((8 : Int32) &&& 31).toUInt32).toInt32) &&& (255 : Int32)))])) (fun _ k => XS.iushr W3.here hx rfl (hb hby dd_method_3_code_50) rfl k) ?_
  refine Go.st (g' := (mkF m 54 #[.val (.ref x0), .val (.int a), .val (.int (2 : Int32))] [(.int (255 : Int32)), (.int ((a.toUInt32 >>> ((8 : Int32) &&& 31).toUInt32).toInt32)), (.int (((a.toUInt32 >>> ((8 : Int32) &&& 31).toUInt32).toInt32) &&& (255 : Int32)))])) (fun _ k => XS.sipush W3.here hx rfl (hb hby dd_method_3_code_51) k) ?_
  refine Go.st (g' := (mkF m 55 #[.val (.ref x0), .val (.int a), .val (.int (2 : Int32))] [(.int (((a.toUInt32 >>> ((8 : Int32) &&& 31).toUInt32).toInt32) &&& (255 : Int32))), (.int (((a.toUInt32 >>> ((8 : Int32) &&& 31).toUInt32).toInt32) &&& (255 : Int32)))])) (fun _ k => XS.iand W3.here hx rfl (hb hby dd_method_3_code_54) rfl k) ?_
  refine Go.st (g' := (mkF m 56 #[.val (.ref x0), .val (.int a), .val (.int (2 : Int32))] [(.int ((((a.toUInt32 >>> ((8 : Int32) &&& 31).toUInt32).toInt32) &&& (255 : Int32)).toUInt32.toUInt16.toUInt32.toInt32)), (.int (((a.toUInt32 >>> ((8 : Int32) &&& 31).toUInt32).toInt32) &&& (255 : Int32)))])) (fun _ k => XS.i2c W3.here hx rfl (hb hby dd_method_3_code_55) rfl k) ?_
  rw [i2c_mask]
  refine Go.st (g' := (mkF m 61 #[.val (.ref x0), .val (.int a), .val (.int (2 : Int32))] [])) (fun _ k => XS.icmpYes W3.here hx rfl (pc0 := 56) (pc' := 61) rfl (hb hby dd_method_3_code_56) rfl (teq rfl).1 (by decide) (by decide) k) ?_
  refine Go.st (g' := (mkF m 62 #[.val (.ref x0), .val (.int a), .val (.int (2 : Int32))] [(.int (1 : Int32))])) (fun _ k => XS.iconst W3.here hx rfl (hb hby dd_method_3_code_61) k) ?_
  exact W3.retN hx hEL hlk (t := .boolean) hret (by decide) (hb hby dd_method_3_code_62) (by decide) (by decide) ⟨rfl, rfl⟩
theorem own_matches (l : Launch) {Z : State} {a0 : Array Value} (hE : Ctx Z a0) {n0 : Nat} {h0 : Heap} (O : Old Z n0 h0) {x0 : Addr} {t0 : Addr} {a : Int32} {l0 : Int32} (hl0 : l0 = 0 ∨ l0 = 1 ∨ l0 = 2) (P0 : Exa Z h0 x0 "java/lang/String") (P1 : Str Z h0 x0 t0 (own_mkL a l0)) :
    Met l (⟨"com/example/fanoutd/fanoutd/subscription/SinkCredentialPlainPinLaw", "matches", "(Ljava/lang/String;II)Z"⟩ : MethodName) method_3_code 3 (Option.some Jvm.ClassFile.FieldType.boolean) ({ frames := 5, cells := 0, slots := 0, locals := 70 } : Room) Z consts_1 n0 [] #[(.ref x0), (.int a), (.int l0)] h0 (fun v h => v = some (.int (1 : Int32)) ∧ h0 = h) := by
  rcases hl0 with rfl | rfl | rfl
  · exact own_matches0 l hE O P0 P1
  · exact own_matches1 l hE O P0 P1
  · exact own_matches2 l hE O P0 P1
set_option maxRecDepth 65536 in
set_option maxHeartbeats 4000000 in
theorem own_law (l : Launch) {Z : State} {a0 : Array Value} (hE : Ctx Z a0) {n0 : Nat} {h0 : Heap} (O : Old Z n0 h0) {p0 : Int32} {p1 : Int32} {p2 : Int32}   :
    Met l x code 8 ret room_1 Z consts_1 n0 tables_1 #[(.int p0), (.int p1), (.int p2)] h0 (fun v h => v = some (.int (1 : Int32))) := by
  have hw := hE.1
  have hEL := own_EW hw
  have own_wS := own_stringAtoms hw
  obtain ⟨zp, hzp, rzp⟩ := hE.2.2.2.1
  refine Met.of (by first | (refine plainFor_of_name ?_; simp [plainName, overriddenIn]; done) | decide +kernel) O ?_
  intro p e s m below meth c T0 hx hby hml hret hlk hnm hh0 W0
  have z0 := W0.ge
  refine Go.st (g' := (mkF m 0 #[.val (.int p0), .val (.int p1), .val (.int p2), .unset, .unset, .unset, .unset, .unset] [])) (fun _ k => castTop (by first | rfl | (simp [entryFrame, mkF, argsToLocals, maxLocals, own_catI, own_catJ, own_catD, own_catA, own_catN]; done)) k) ?_
  refine Go.st (g' := (mkF m 1 #[.val (.int p0), .val (.int p1), .val (.int p2), .unset, .unset, .unset, .unset, .unset] [(.int p2)])) (fun _ k => XS.iloadN W0.here hx rfl (hb hby at_0) rfl  k) ?_
  refine Go.st (g' := (mkF m 2 #[.val (.int p0), .val (.int p1), .val (.int p2), .unset, .unset, .unset, .unset, .unset] [(.int (3 : Int32)), (.int p2)])) (fun _ k => XS.iconst W0.here hx rfl (hb hby at_1) k) ?_
  refine Go.st (g' := (mkF m 3 #[.val (.int p0), .val (.int p1), .val (.int p2), .unset, .unset, .unset, .unset, .unset] [(.int (p2 &&& (3 : Int32)))])) (fun _ k => XS.iand W0.here hx rfl (hb hby at_2) rfl k) ?_
  refine Go.st (g' := (mkF m 4 #[.val (.int p0), .val (.int p1), .val (.int p2), .unset, .unset, .unset, .unset, .unset] [(.int (3 : Int32)), (.int (p2 &&& (3 : Int32)))])) (fun _ k => XS.iconst W0.here hx rfl (hb hby at_3) k) ?_
  refine Go.st (g' := (mkF m 5 #[.val (.int p0), .val (.int p1), .val (.int p2), .unset, .unset, .unset, .unset, .unset] [(.int ((p2 &&& (3 : Int32)) % (3 : Int32)))])) (fun _ k => W0.irem hx (g := (mkF m 4 #[.val (.int p0), .val (.int p1), .val (.int p2), .unset, .unset, .unset, .unset, .unset] [(.int (3 : Int32)), (.int (p2 &&& (3 : Int32)))])) rfl (hb hby at_4) rfl (by decide) k) ?_
  refine Go.st (g' := (mkF m 6 #[.val (.int p0), .val (.int p1), .val (.int p2), .val (.int ((p2 &&& (3 : Int32)) % (3 : Int32))), .unset, .unset, .unset, .unset] [])) (fun _ k => XS.istoreN W0.here hx rfl (hb hby at_5) rfl (l' := #[.val (.int p0), .val (.int p1), .val (.int p2), .val (.int ((p2 &&& (3 : Int32)) % (3 : Int32))), .unset, .unset, .unset, .unset]) rfl k) ?_
  refine Go.st (g' := (mkF m 7 #[.val (.int p0), .val (.int p1), .val (.int p2), .val (.int ((p2 &&& (3 : Int32)) % (3 : Int32))), .unset, .unset, .unset, .unset] [(.int p2)])) (fun _ k => XS.iloadN W0.here hx rfl (hb hby at_6) rfl  k) ?_
  refine Go.st (g' := (mkF m 8 #[.val (.int p0), .val (.int p1), .val (.int p2), .val (.int ((p2 &&& (3 : Int32)) % (3 : Int32))), .unset, .unset, .unset, .unset] [(.int (2 : Int32)), (.int p2)])) (fun _ k => XS.iconst W0.here hx rfl (hb hby at_7) k) ?_
  refine Go.st (g' := (mkF m 9 #[.val (.int p0), .val (.int p1), .val (.int p2), .val (.int ((p2 &&& (3 : Int32)) % (3 : Int32))), .unset, .unset, .unset, .unset] [(.int ((p2.toUInt32 >>> ((2 : Int32) &&& 31).toUInt32).toInt32))])) (fun _ k => XS.iushr W0.here hx rfl (hb hby at_8) rfl k) ?_
  refine Go.st (g' := (mkF m 10 #[.val (.int p0), .val (.int p1), .val (.int p2), .val (.int ((p2 &&& (3 : Int32)) % (3 : Int32))), .unset, .unset, .unset, .unset] [(.int (3 : Int32)), (.int ((p2.toUInt32 >>> ((2 : Int32) &&& 31).toUInt32).toInt32))])) (fun _ k => XS.iconst W0.here hx rfl (hb hby at_9) k) ?_
  refine Go.st (g' := (mkF m 11 #[.val (.int p0), .val (.int p1), .val (.int p2), .val (.int ((p2 &&& (3 : Int32)) % (3 : Int32))), .unset, .unset, .unset, .unset] [(.int (((p2.toUInt32 >>> ((2 : Int32) &&& 31).toUInt32).toInt32) &&& (3 : Int32)))])) (fun _ k => XS.iand W0.here hx rfl (hb hby at_10) rfl k) ?_
  refine Go.st (g' := (mkF m 12 #[.val (.int p0), .val (.int p1), .val (.int p2), .val (.int ((p2 &&& (3 : Int32)) % (3 : Int32))), .unset, .unset, .unset, .unset] [(.int (3 : Int32)), (.int (((p2.toUInt32 >>> ((2 : Int32) &&& 31).toUInt32).toInt32) &&& (3 : Int32)))])) (fun _ k => XS.iconst W0.here hx rfl (hb hby at_11) k) ?_
  refine Go.st (g' := (mkF m 13 #[.val (.int p0), .val (.int p1), .val (.int p2), .val (.int ((p2 &&& (3 : Int32)) % (3 : Int32))), .unset, .unset, .unset, .unset] [(.int ((((p2.toUInt32 >>> ((2 : Int32) &&& 31).toUInt32).toInt32) &&& (3 : Int32)) % (3 : Int32)))])) (fun _ k => W0.irem hx (g := (mkF m 12 #[.val (.int p0), .val (.int p1), .val (.int p2), .val (.int ((p2 &&& (3 : Int32)) % (3 : Int32))), .unset, .unset, .unset, .unset] [(.int (3 : Int32)), (.int (((p2.toUInt32 >>> ((2 : Int32) &&& 31).toUInt32).toInt32) &&& (3 : Int32)))])) rfl (hb hby at_12) rfl (by decide) k) ?_
  refine Go.st (g' := (mkF m 15 #[.val (.int p0), .val (.int p1), .val (.int p2), .val (.int ((p2 &&& (3 : Int32)) % (3 : Int32))), .val (.int ((((p2.toUInt32 >>> ((2 : Int32) &&& 31).toUInt32).toInt32) &&& (3 : Int32)) % (3 : Int32))), .unset, .unset, .unset] [])) (fun _ k => XS.istore W0.here hx rfl (hb hby at_13) rfl (l' := #[.val (.int p0), .val (.int p1), .val (.int p2), .val (.int ((p2 &&& (3 : Int32)) % (3 : Int32))), .val (.int ((((p2.toUInt32 >>> ((2 : Int32) &&& 31).toUInt32).toInt32) &&& (3 : Int32)) % (3 : Int32))), .unset, .unset, .unset]) rfl k) ?_
  refine Go.st (g' := (mkF m 16 #[.val (.int p0), .val (.int p1), .val (.int p2), .val (.int ((p2 &&& (3 : Int32)) % (3 : Int32))), .val (.int ((((p2.toUInt32 >>> ((2 : Int32) &&& 31).toUInt32).toInt32) &&& (3 : Int32)) % (3 : Int32))), .unset, .unset, .unset] [(.int p0)])) (fun _ k => XS.iloadN W0.here hx rfl (hb hby at_15) rfl  k) ?_
  refine Go.st (g' := (mkF m 17 #[.val (.int p0), .val (.int p1), .val (.int p2), .val (.int ((p2 &&& (3 : Int32)) % (3 : Int32))), .val (.int ((((p2.toUInt32 >>> ((2 : Int32) &&& 31).toUInt32).toInt32) &&& (3 : Int32)) % (3 : Int32))), .unset, .unset, .unset] [(.int ((p2 &&& (3 : Int32)) % (3 : Int32))), (.int p0)])) (fun _ k => XS.iloadN W0.here hx rfl (hb hby at_16) rfl  k) ?_
  obtain ⟨_, vm1, T1, h1, W1, Q1, z1, SF1, st1⟩ := W0.callS hx hEL (own_mk l hE W0.old (a := p0) (l0 := ((p2 &&& (3 : Int32)) % (3 : Int32)))  ) (hw _ (List.mem_of_getElem? (i := 0) rfl)) (hw _ (List.mem_of_getElem? (i := 1) rfl)) (hw _ (List.mem_of_getElem? (i := 2) rfl)) (hw _ (List.mem_of_getElem? (i := 3) rfl)) (by decide) (Wd := 0) (by decide) (by decide) (by decide) (by decide) (g := (mkF m 17 #[.val (.int p0), .val (.int p1), .val (.int p2), .val (.int ((p2 &&& (3 : Int32)) % (3 : Int32))), .val (.int ((((p2.toUInt32 >>> ((2 : Int32) &&& 31).toUInt32).toInt32) &&& (3 : Int32)) % (3 : Int32))), .unset, .unset, .unset] [(.int ((p2 &&& (3 : Int32)) % (3 : Int32))), (.int p0)])) rfl (by rw [hml]; rfl) (argsL := [(.int p0), (.int ((p2 &&& (3 : Int32)) % (3 : Int32)))]) (rest := []) rfl (lenOf pd__II_Ljava_lang_String_ rfl) rfl (by show 2 * 0 + _ ≤ _; exact Nat.le_of_eq rfl) (hb hby at_17)
  obtain ⟨x_1, t_1, rfl, p1_0, f1_0, K1⟩ := Q1
  have yf1_0 : h1.size > x_1 ∧ h1.size > t_1 := f1_0.lt
  refine Go.tr (g' := (mkF m 20 #[.val (.int p0), .val (.int p1), .val (.int p2), .val (.int ((p2 &&& (3 : Int32)) % (3 : Int32))), .val (.int ((((p2.toUInt32 >>> ((2 : Int32) &&& 31).toUInt32).toInt32) &&& (3 : Int32)) % (3 : Int32))), .unset, .unset, .unset] [(.ref x_1)])) st1 ?_
  refine Go.st (g' := (mkF m 22 #[.val (.int p0), .val (.int p1), .val (.int p2), .val (.int ((p2 &&& (3 : Int32)) % (3 : Int32))), .val (.int ((((p2.toUInt32 >>> ((2 : Int32) &&& 31).toUInt32).toInt32) &&& (3 : Int32)) % (3 : Int32))), .val (.ref x_1), .unset, .unset] [])) (fun _ k => XS.astore W1.here hx rfl (hb hby at_20) rfl rfl (l' := #[.val (.int p0), .val (.int p1), .val (.int p2), .val (.int ((p2 &&& (3 : Int32)) % (3 : Int32))), .val (.int ((((p2.toUInt32 >>> ((2 : Int32) &&& 31).toUInt32).toInt32) &&& (3 : Int32)) % (3 : Int32))), .val (.ref x_1), .unset, .unset]) rfl k) ?_
  refine Go.st (g' := (mkF m 23 #[.val (.int p0), .val (.int p1), .val (.int p2), .val (.int ((p2 &&& (3 : Int32)) % (3 : Int32))), .val (.int ((((p2.toUInt32 >>> ((2 : Int32) &&& 31).toUInt32).toInt32) &&& (3 : Int32)) % (3 : Int32))), .val (.ref x_1), .unset, .unset] [(.int p1)])) (fun _ k => XS.iloadN W1.here hx rfl (hb hby at_22) rfl  k) ?_
  refine Go.st (g' := (mkF m 25 #[.val (.int p0), .val (.int p1), .val (.int p2), .val (.int ((p2 &&& (3 : Int32)) % (3 : Int32))), .val (.int ((((p2.toUInt32 >>> ((2 : Int32) &&& 31).toUInt32).toInt32) &&& (3 : Int32)) % (3 : Int32))), .val (.ref x_1), .unset, .unset] [(.int ((((p2.toUInt32 >>> ((2 : Int32) &&& 31).toUInt32).toInt32) &&& (3 : Int32)) % (3 : Int32))), (.int p1)])) (fun _ k => XS.iload W1.here hx rfl (hb hby at_23) rfl  k) ?_
  obtain ⟨_, vm2, T2, h2, W2, Q2, z2, SF2, st2⟩ := W1.callS hx hEL (own_mk l hE W1.old (a := p1) (l0 := ((((p2.toUInt32 >>> ((2 : Int32) &&& 31).toUInt32).toInt32) &&& (3 : Int32)) % (3 : Int32)))  ) (hw _ (List.mem_of_getElem? (i := 0) rfl)) (hw _ (List.mem_of_getElem? (i := 1) rfl)) (hw _ (List.mem_of_getElem? (i := 2) rfl)) (hw _ (List.mem_of_getElem? (i := 3) rfl)) (by decide) (Wd := 0) (by decide) (by decide) (by decide) (by decide) (g := (mkF m 25 #[.val (.int p0), .val (.int p1), .val (.int p2), .val (.int ((p2 &&& (3 : Int32)) % (3 : Int32))), .val (.int ((((p2.toUInt32 >>> ((2 : Int32) &&& 31).toUInt32).toInt32) &&& (3 : Int32)) % (3 : Int32))), .val (.ref x_1), .unset, .unset] [(.int ((((p2.toUInt32 >>> ((2 : Int32) &&& 31).toUInt32).toInt32) &&& (3 : Int32)) % (3 : Int32))), (.int p1)])) rfl (by rw [hml]; rfl) (argsL := [(.int p1), (.int ((((p2.toUInt32 >>> ((2 : Int32) &&& 31).toUInt32).toInt32) &&& (3 : Int32)) % (3 : Int32)))]) (rest := []) rfl (lenOf pd__II_Ljava_lang_String_ rfl) rfl (by show 2 * 0 + _ ≤ _; exact Nat.le_of_eq rfl) (hb hby at_25)
  obtain ⟨x_2, t_2, rfl, p2_0, f2_0, K2⟩ := Q2
  have yf2_0 : h2.size > x_2 ∧ h2.size > t_2 := f2_0.lt
  refine Go.tr (g' := (mkF m 28 #[.val (.int p0), .val (.int p1), .val (.int p2), .val (.int ((p2 &&& (3 : Int32)) % (3 : Int32))), .val (.int ((((p2.toUInt32 >>> ((2 : Int32) &&& 31).toUInt32).toInt32) &&& (3 : Int32)) % (3 : Int32))), .val (.ref x_1), .unset, .unset] [(.ref x_2)])) st2 ?_
  refine Go.st (g' := (mkF m 30 #[.val (.int p0), .val (.int p1), .val (.int p2), .val (.int ((p2 &&& (3 : Int32)) % (3 : Int32))), .val (.int ((((p2.toUInt32 >>> ((2 : Int32) &&& 31).toUInt32).toInt32) &&& (3 : Int32)) % (3 : Int32))), .val (.ref x_1), .val (.ref x_2), .unset] [])) (fun _ k => XS.astore W2.here hx rfl (hb hby at_28) rfl rfl (l' := #[.val (.int p0), .val (.int p1), .val (.int p2), .val (.int ((p2 &&& (3 : Int32)) % (3 : Int32))), .val (.int ((((p2.toUInt32 >>> ((2 : Int32) &&& 31).toUInt32).toInt32) &&& (3 : Int32)) % (3 : Int32))), .val (.ref x_1), .val (.ref x_2), .unset]) rfl k) ?_
  refine Go.st (g' := (mkF m 32 #[.val (.int p0), .val (.int p1), .val (.int p2), .val (.int ((p2 &&& (3 : Int32)) % (3 : Int32))), .val (.int ((((p2.toUInt32 >>> ((2 : Int32) &&& 31).toUInt32).toInt32) &&& (3 : Int32)) % (3 : Int32))), .val (.ref x_1), .val (.ref x_2), .unset] [(.ref x_1)])) (fun _ k => XS.aload W2.here hx rfl (hb hby at_30) rfl rfl  k) ?_
  refine Go.st (g' := (mkF m 34 #[.val (.int p0), .val (.int p1), .val (.int p2), .val (.int ((p2 &&& (3 : Int32)) % (3 : Int32))), .val (.int ((((p2.toUInt32 >>> ((2 : Int32) &&& 31).toUInt32).toInt32) &&& (3 : Int32)) % (3 : Int32))), .val (.ref x_1), .val (.ref x_2), .unset] [(.ref x_2), (.ref x_1)])) (fun _ k => XS.aload W2.here hx rfl (hb hby at_32) rfl rfl  k) ?_
  have F4 : Str Z h2 x_1 t_1 (own_mkL p0 ((p2 &&& (3 : Int32)) % (3 : Int32))) := (f1_0.keep K2 nin0 nin0)
  obtain ⟨_, vm3, T3, h3, W3, Q3, z3, SF3, st3⟩ := W2.callS hx hEL (own_plain l hE W2.old (zp := zp) (s1 := x_1) (s2 := x_2) hzp rzp F4.1 f2_0.1) (hw _ (List.mem_of_getElem? (i := 37) rfl)) (hw _ (List.mem_of_getElem? (i := 38) rfl)) (hw _ (List.mem_of_getElem? (i := 39) rfl)) (hw _ (List.mem_of_getElem? (i := 40) rfl)) (by decide) (Wd := 0) (by decide) (by decide) (by decide) (by decide) (g := (mkF m 34 #[.val (.int p0), .val (.int p1), .val (.int p2), .val (.int ((p2 &&& (3 : Int32)) % (3 : Int32))), .val (.int ((((p2.toUInt32 >>> ((2 : Int32) &&& 31).toUInt32).toInt32) &&& (3 : Int32)) % (3 : Int32))), .val (.ref x_1), .val (.ref x_2), .unset] [(.ref x_2), (.ref x_1)])) rfl (by rw [hml]; rfl) (argsL := [(.ref x_1), (.ref x_2)]) (rest := []) rfl (lenOf pd__Ljava_lang_String_Ljava_lang_String__Lcom_example_fanoutd_fanoutd_subscription_SinkCredential_ rfl) rfl (by show 2 * 0 + _ ≤ _; exact Nat.le_of_eq rfl) (hb hby at_34)
  obtain ⟨x_3, rfl, f3_0, f3_1, f3_2, f3_3, f3_4, f3_5, f3_6, f3_7, f3_8, K3⟩ := Q3
  have yf3_0 : h3.size > x_3 := f3_0.lt
  refine Go.tr (g' := (mkF m 37 #[.val (.int p0), .val (.int p1), .val (.int p2), .val (.int ((p2 &&& (3 : Int32)) % (3 : Int32))), .val (.int ((((p2.toUInt32 >>> ((2 : Int32) &&& 31).toUInt32).toInt32) &&& (3 : Int32)) % (3 : Int32))), .val (.ref x_1), .val (.ref x_2), .unset] [(.ref x_3)])) st3 ?_
  refine Go.st (g' := (mkF m 39 #[.val (.int p0), .val (.int p1), .val (.int p2), .val (.int ((p2 &&& (3 : Int32)) % (3 : Int32))), .val (.int ((((p2.toUInt32 >>> ((2 : Int32) &&& 31).toUInt32).toInt32) &&& (3 : Int32)) % (3 : Int32))), .val (.ref x_1), .val (.ref x_2), .val (.ref x_3)] [])) (fun _ k => XS.astore W3.here hx rfl (hb hby at_37) rfl rfl (l' := #[.val (.int p0), .val (.int p1), .val (.int p2), .val (.int ((p2 &&& (3 : Int32)) % (3 : Int32))), .val (.int ((((p2.toUInt32 >>> ((2 : Int32) &&& 31).toUInt32).toInt32) &&& (3 : Int32)) % (3 : Int32))), .val (.ref x_1), .val (.ref x_2), .val (.ref x_3)]) rfl k) ?_
  refine Go.st (g' := (mkF m 41 #[.val (.int p0), .val (.int p1), .val (.int p2), .val (.int ((p2 &&& (3 : Int32)) % (3 : Int32))), .val (.int ((((p2.toUInt32 >>> ((2 : Int32) &&& 31).toUInt32).toInt32) &&& (3 : Int32)) % (3 : Int32))), .val (.ref x_1), .val (.ref x_2), .val (.ref x_3)] [(.ref x_3)])) (fun _ k => XS.aload W3.here hx rfl (hb hby at_39) rfl rfl  k) ?_
  refine Go.st (g' := (mkF m 46 #[.val (.int p0), .val (.int p1), .val (.int p2), .val (.int ((p2 &&& (3 : Int32)) % (3 : Int32))), .val (.int ((((p2.toUInt32 >>> ((2 : Int32) &&& 31).toUInt32).toInt32) &&& (3 : Int32)) % (3 : Int32))), .val (.ref x_1), .val (.ref x_2), .val (.ref x_3)] [])) (fun _ k => XS.ifnonnullYes W3.here hx rfl (pc0 := 41) (pc' := 46) rfl (hb hby at_41) rfl (by decide) (by decide) k) ?_
  refine Go.st (g' := (mkF m 48 #[.val (.int p0), .val (.int p1), .val (.int p2), .val (.int ((p2 &&& (3 : Int32)) % (3 : Int32))), .val (.int ((((p2.toUInt32 >>> ((2 : Int32) &&& 31).toUInt32).toInt32) &&& (3 : Int32)) % (3 : Int32))), .val (.ref x_1), .val (.ref x_2), .val (.ref x_3)] [(.ref x_3)])) (fun _ k => XS.aload W3.here hx rfl (hb hby at_46) rfl rfl  k) ?_
  obtain ⟨_, vm5, T5, h5, W5, Q5, z5, SF5, st5⟩ := W3.callV hx hEL (own_get_type l hE W3.old (x0 := x_3) (v0 := zp) rzp f3_1) (hw _ (List.mem_of_getElem? (i := 73) rfl)) (hw _ (List.mem_of_getElem? (i := 74) rfl)) (hw _ (List.mem_of_getElem? (i := 76) rfl)) (hw _ (List.mem_of_getElem? (i := 75) rfl)) (hw _ (List.mem_of_getElem? (i := 39) rfl)) (hw _ (List.mem_of_getElem? (i := 77) rfl)) (by decide) (Wd := 0) (by decide) (by decide) (by decide) (by decide) (g := (mkF m 48 #[.val (.int p0), .val (.int p1), .val (.int p2), .val (.int ((p2 &&& (3 : Int32)) % (3 : Int32))), .val (.int ((((p2.toUInt32 >>> ((2 : Int32) &&& 31).toUInt32).toInt32) &&& (3 : Int32)) % (3 : Int32))), .val (.ref x_1), .val (.ref x_2), .val (.ref x_3)] [(.ref x_3)])) rfl (by rw [hml]; rfl) (a := x_3) f3_0 (argsL := []) (rest := []) rfl (lenOf pd___Lcom_example_fanoutd_fanoutd_subscription_SinkCredential_Type_ rfl) rfl (by show 2 * 0 + _ ≤ _; exact Nat.le_of_eq rfl) (hb hby at_48)
  obtain ⟨rfl, eh5⟩ := Q5
  subst eh5
  refine Go.tr (g' := (mkF m 51 #[.val (.int p0), .val (.int p1), .val (.int p2), .val (.int ((p2 &&& (3 : Int32)) % (3 : Int32))), .val (.int ((((p2.toUInt32 >>> ((2 : Int32) &&& 31).toUInt32).toInt32) &&& (3 : Int32)) % (3 : Int32))), .val (.ref x_1), .val (.ref x_2), .val (.ref x_3)] [zp])) st5 ?_
  obtain ⟨T6, W6, st6⟩ := W5.getS hx (hw _ (List.mem_of_getElem? (i := 78) rfl)) Via.refl (W5.sta hzp) (g := (mkF m 51 #[.val (.int p0), .val (.int p1), .val (.int p2), .val (.int ((p2 &&& (3 : Int32)) % (3 : Int32))), .val (.int ((((p2.toUInt32 >>> ((2 : Int32) &&& 31).toUInt32).toInt32) &&& (3 : Int32)) % (3 : Int32))), .val (.ref x_1), .val (.ref x_2), .val (.ref x_3)] [zp])) rfl (hb hby at_51)
  refine Go.st (g' := (mkF m 54 #[.val (.int p0), .val (.int p1), .val (.int p2), .val (.int ((p2 &&& (3 : Int32)) % (3 : Int32))), .val (.int ((((p2.toUInt32 >>> ((2 : Int32) &&& 31).toUInt32).toInt32) &&& (3 : Int32)) % (3 : Int32))), .val (.ref x_1), .val (.ref x_2), .val (.ref x_3)] [zp, zp])) st6 ?_
  refine Go.st (g' := (mkF m 59 #[.val (.int p0), .val (.int p1), .val (.int p2), .val (.int ((p2 &&& (3 : Int32)) % (3 : Int32))), .val (.int ((((p2.toUInt32 >>> ((2 : Int32) &&& 31).toUInt32).toInt32) &&& (3 : Int32)) % (3 : Int32))), .val (.ref x_1), .val (.ref x_2), .val (.ref x_3)] [])) (fun _ k => W6.acmp (g := (mkF m 54 #[.val (.int p0), .val (.int p1), .val (.int p2), .val (.int ((p2 &&& (3 : Int32)) % (3 : Int32))), .val (.int ((((p2.toUInt32 >>> ((2 : Int32) &&& 31).toUInt32).toInt32) &&& (3 : Int32)) % (3 : Int32))), .val (.ref x_1), .val (.ref x_2), .val (.ref x_3)] [zp, zp])) hx rfl rzp rzp (pc0 := 54) (pc' := 59) (same := true) rfl (hb hby at_54) rfl (decide_eq_true rfl) (by decide) (by decide) k) ?_
  refine Go.st (g' := (mkF m 61 #[.val (.int p0), .val (.int p1), .val (.int p2), .val (.int ((p2 &&& (3 : Int32)) % (3 : Int32))), .val (.int ((((p2.toUInt32 >>> ((2 : Int32) &&& 31).toUInt32).toInt32) &&& (3 : Int32)) % (3 : Int32))), .val (.ref x_1), .val (.ref x_2), .val (.ref x_3)] [(.ref x_3)])) (fun _ k => XS.aload W6.here hx rfl (hb hby at_59) rfl rfl  k) ?_
  obtain ⟨_, vm7, T7, h7, W7, Q7, z7, SF7, st7⟩ := W6.callV hx hEL (own_get_identifier l hE W6.old (x0 := x_3) (v0 := (.ref x_1)) rfl f3_2) (hw _ (List.mem_of_getElem? (i := 79) rfl)) (hw _ (List.mem_of_getElem? (i := 80) rfl)) (hw _ (List.mem_of_getElem? (i := 82) rfl)) (hw _ (List.mem_of_getElem? (i := 81) rfl)) (hw _ (List.mem_of_getElem? (i := 39) rfl)) (hw _ (List.mem_of_getElem? (i := 83) rfl)) (by decide) (Wd := 0) (by decide) (by decide) (by decide) (by decide) (g := (mkF m 61 #[.val (.int p0), .val (.int p1), .val (.int p2), .val (.int ((p2 &&& (3 : Int32)) % (3 : Int32))), .val (.int ((((p2.toUInt32 >>> ((2 : Int32) &&& 31).toUInt32).toInt32) &&& (3 : Int32)) % (3 : Int32))), .val (.ref x_1), .val (.ref x_2), .val (.ref x_3)] [(.ref x_3)])) rfl (by rw [hml]; rfl) (a := x_3) f3_0 (argsL := []) (rest := []) rfl (lenOf pd___Ljava_lang_String_ rfl) rfl (by show 2 * 0 + _ ≤ _; exact Nat.le_of_eq rfl) (hb hby at_61)
  obtain ⟨rfl, eh7⟩ := Q7
  subst eh7
  refine Go.tr (g' := (mkF m 64 #[.val (.int p0), .val (.int p1), .val (.int p2), .val (.int ((p2 &&& (3 : Int32)) % (3 : Int32))), .val (.int ((((p2.toUInt32 >>> ((2 : Int32) &&& 31).toUInt32).toInt32) &&& (3 : Int32)) % (3 : Int32))), .val (.ref x_1), .val (.ref x_2), .val (.ref x_3)] [(.ref x_1)])) st7 ?_
  refine Go.st (g' := (mkF m 65 #[.val (.int p0), .val (.int p1), .val (.int p2), .val (.int ((p2 &&& (3 : Int32)) % (3 : Int32))), .val (.int ((((p2.toUInt32 >>> ((2 : Int32) &&& 31).toUInt32).toInt32) &&& (3 : Int32)) % (3 : Int32))), .val (.ref x_1), .val (.ref x_2), .val (.ref x_3)] [(.int p0), (.ref x_1)])) (fun _ k => XS.iloadN W7.here hx rfl (hb hby at_64) rfl  k) ?_
  refine Go.st (g' := (mkF m 66 #[.val (.int p0), .val (.int p1), .val (.int p2), .val (.int ((p2 &&& (3 : Int32)) % (3 : Int32))), .val (.int ((((p2.toUInt32 >>> ((2 : Int32) &&& 31).toUInt32).toInt32) &&& (3 : Int32)) % (3 : Int32))), .val (.ref x_1), .val (.ref x_2), .val (.ref x_3)] [(.int ((p2 &&& (3 : Int32)) % (3 : Int32))), (.int p0), (.ref x_1)])) (fun _ k => XS.iloadN W7.here hx rfl (hb hby at_65) rfl  k) ?_
  have F9 : Exa Z h3 x_1 "java/lang/String" := (F4.1.keep K3)
  have F10 : Str Z h3 x_1 t_1 (own_mkL p0 ((p2 &&& (3 : Int32)) % (3 : Int32))) := (F4.keep K3 nin0 nin0)
  obtain ⟨_, vm8, T8, h8, W8, Q8, z8, SF8, st8⟩ := W7.callS hx hEL (own_matches l hE W7.old (x0 := x_1) (t0 := t_1) (a := p0) (l0 := ((p2 &&& (3 : Int32)) % (3 : Int32))) (own_mod3 _) F9 F10) (hw _ (List.mem_of_getElem? (i := 84) rfl)) (hw _ (List.mem_of_getElem? (i := 85) rfl)) (hw _ (List.mem_of_getElem? (i := 2) rfl)) (hw _ (List.mem_of_getElem? (i := 86) rfl)) (by decide) (Wd := 0) (by decide) (by decide) (by decide) (by decide) (g := (mkF m 66 #[.val (.int p0), .val (.int p1), .val (.int p2), .val (.int ((p2 &&& (3 : Int32)) % (3 : Int32))), .val (.int ((((p2.toUInt32 >>> ((2 : Int32) &&& 31).toUInt32).toInt32) &&& (3 : Int32)) % (3 : Int32))), .val (.ref x_1), .val (.ref x_2), .val (.ref x_3)] [(.int ((p2 &&& (3 : Int32)) % (3 : Int32))), (.int p0), (.ref x_1)])) rfl (by rw [hml]; rfl) (argsL := [(.ref x_1), (.int p0), (.int ((p2 &&& (3 : Int32)) % (3 : Int32)))]) (rest := []) rfl (lenOf pd__Ljava_lang_String_II_Z rfl) rfl (by show 2 * 0 + _ ≤ _; exact Nat.le_of_eq rfl) (hb hby at_66)
  obtain ⟨rfl, eh8⟩ := Q8
  subst eh8
  refine Go.tr (g' := (mkF m 69 #[.val (.int p0), .val (.int p1), .val (.int p2), .val (.int ((p2 &&& (3 : Int32)) % (3 : Int32))), .val (.int ((((p2.toUInt32 >>> ((2 : Int32) &&& 31).toUInt32).toInt32) &&& (3 : Int32)) % (3 : Int32))), .val (.ref x_1), .val (.ref x_2), .val (.ref x_3)] [(.int (1 : Int32))])) st8 ?_
  refine Go.st (g' := (mkF m 74 #[.val (.int p0), .val (.int p1), .val (.int p2), .val (.int ((p2 &&& (3 : Int32)) % (3 : Int32))), .val (.int ((((p2.toUInt32 >>> ((2 : Int32) &&& 31).toUInt32).toInt32) &&& (3 : Int32)) % (3 : Int32))), .val (.ref x_1), .val (.ref x_2), .val (.ref x_3)] [])) (fun _ k => XS.ifYes W8.here hx rfl (pc0 := 69) (pc' := 74) rfl (hb hby at_69) rfl ((if0 _ _).trans (feq (by decide)).2) (by decide) (by decide) k) ?_
  refine Go.st (g' := (mkF m 76 #[.val (.int p0), .val (.int p1), .val (.int p2), .val (.int ((p2 &&& (3 : Int32)) % (3 : Int32))), .val (.int ((((p2.toUInt32 >>> ((2 : Int32) &&& 31).toUInt32).toInt32) &&& (3 : Int32)) % (3 : Int32))), .val (.ref x_1), .val (.ref x_2), .val (.ref x_3)] [(.ref x_3)])) (fun _ k => XS.aload W8.here hx rfl (hb hby at_74) rfl rfl  k) ?_
  obtain ⟨_, vm11, T11, h11, W11, Q11, z11, SF11, st11⟩ := W8.callV hx hEL (own_get_secret l hE W8.old (x0 := x_3) (v0 := (.ref x_2)) rfl f3_3) (hw _ (List.mem_of_getElem? (i := 119) rfl)) (hw _ (List.mem_of_getElem? (i := 120) rfl)) (hw _ (List.mem_of_getElem? (i := 122) rfl)) (hw _ (List.mem_of_getElem? (i := 121) rfl)) (hw _ (List.mem_of_getElem? (i := 39) rfl)) (hw _ (List.mem_of_getElem? (i := 123) rfl)) (by decide) (Wd := 0) (by decide) (by decide) (by decide) (by decide) (g := (mkF m 76 #[.val (.int p0), .val (.int p1), .val (.int p2), .val (.int ((p2 &&& (3 : Int32)) % (3 : Int32))), .val (.int ((((p2.toUInt32 >>> ((2 : Int32) &&& 31).toUInt32).toInt32) &&& (3 : Int32)) % (3 : Int32))), .val (.ref x_1), .val (.ref x_2), .val (.ref x_3)] [(.ref x_3)])) rfl (by rw [hml]; rfl) (a := x_3) f3_0 (argsL := []) (rest := []) rfl (lenOf pd___Ljava_lang_String_ rfl) rfl (by show 2 * 0 + _ ≤ _; exact Nat.le_of_eq rfl) (hb hby at_76)
  obtain ⟨rfl, eh11⟩ := Q11
  subst eh11
  refine Go.tr (g' := (mkF m 79 #[.val (.int p0), .val (.int p1), .val (.int p2), .val (.int ((p2 &&& (3 : Int32)) % (3 : Int32))), .val (.int ((((p2.toUInt32 >>> ((2 : Int32) &&& 31).toUInt32).toInt32) &&& (3 : Int32)) % (3 : Int32))), .val (.ref x_1), .val (.ref x_2), .val (.ref x_3)] [(.ref x_2)])) st11 ?_
  refine Go.st (g' := (mkF m 80 #[.val (.int p0), .val (.int p1), .val (.int p2), .val (.int ((p2 &&& (3 : Int32)) % (3 : Int32))), .val (.int ((((p2.toUInt32 >>> ((2 : Int32) &&& 31).toUInt32).toInt32) &&& (3 : Int32)) % (3 : Int32))), .val (.ref x_1), .val (.ref x_2), .val (.ref x_3)] [(.int p1), (.ref x_2)])) (fun _ k => XS.iloadN W11.here hx rfl (hb hby at_79) rfl  k) ?_
  refine Go.st (g' := (mkF m 82 #[.val (.int p0), .val (.int p1), .val (.int p2), .val (.int ((p2 &&& (3 : Int32)) % (3 : Int32))), .val (.int ((((p2.toUInt32 >>> ((2 : Int32) &&& 31).toUInt32).toInt32) &&& (3 : Int32)) % (3 : Int32))), .val (.ref x_1), .val (.ref x_2), .val (.ref x_3)] [(.int ((((p2.toUInt32 >>> ((2 : Int32) &&& 31).toUInt32).toInt32) &&& (3 : Int32)) % (3 : Int32))), (.int p1), (.ref x_2)])) (fun _ k => XS.iload W11.here hx rfl (hb hby at_80) rfl  k) ?_
  have F13 : Exa Z h3 x_2 "java/lang/String" := (f2_0.1.keep K3)
  have F14 : Str Z h3 x_2 t_2 (own_mkL p1 ((((p2.toUInt32 >>> ((2 : Int32) &&& 31).toUInt32).toInt32) &&& (3 : Int32)) % (3 : Int32))) := (f2_0.keep K3 nin0 nin0)
  obtain ⟨_, vm12, T12, h12, W12, Q12, z12, SF12, st12⟩ := W11.callS hx hEL (own_matches l hE W11.old (x0 := x_2) (t0 := t_2) (a := p1) (l0 := ((((p2.toUInt32 >>> ((2 : Int32) &&& 31).toUInt32).toInt32) &&& (3 : Int32)) % (3 : Int32))) (own_mod3 _) F13 F14) (hw _ (List.mem_of_getElem? (i := 84) rfl)) (hw _ (List.mem_of_getElem? (i := 85) rfl)) (hw _ (List.mem_of_getElem? (i := 2) rfl)) (hw _ (List.mem_of_getElem? (i := 86) rfl)) (by decide) (Wd := 0) (by decide) (by decide) (by decide) (by decide) (g := (mkF m 82 #[.val (.int p0), .val (.int p1), .val (.int p2), .val (.int ((p2 &&& (3 : Int32)) % (3 : Int32))), .val (.int ((((p2.toUInt32 >>> ((2 : Int32) &&& 31).toUInt32).toInt32) &&& (3 : Int32)) % (3 : Int32))), .val (.ref x_1), .val (.ref x_2), .val (.ref x_3)] [(.int ((((p2.toUInt32 >>> ((2 : Int32) &&& 31).toUInt32).toInt32) &&& (3 : Int32)) % (3 : Int32))), (.int p1), (.ref x_2)])) rfl (by rw [hml]; rfl) (argsL := [(.ref x_2), (.int p1), (.int ((((p2.toUInt32 >>> ((2 : Int32) &&& 31).toUInt32).toInt32) &&& (3 : Int32)) % (3 : Int32)))]) (rest := []) rfl (lenOf pd__Ljava_lang_String_II_Z rfl) rfl (by show 2 * 0 + _ ≤ _; exact Nat.le_of_eq rfl) (hb hby at_82)
  obtain ⟨rfl, eh12⟩ := Q12
  subst eh12
  refine Go.tr (g' := (mkF m 85 #[.val (.int p0), .val (.int p1), .val (.int p2), .val (.int ((p2 &&& (3 : Int32)) % (3 : Int32))), .val (.int ((((p2.toUInt32 >>> ((2 : Int32) &&& 31).toUInt32).toInt32) &&& (3 : Int32)) % (3 : Int32))), .val (.ref x_1), .val (.ref x_2), .val (.ref x_3)] [(.int (1 : Int32))])) st12 ?_
  refine Go.st (g' := (mkF m 90 #[.val (.int p0), .val (.int p1), .val (.int p2), .val (.int ((p2 &&& (3 : Int32)) % (3 : Int32))), .val (.int ((((p2.toUInt32 >>> ((2 : Int32) &&& 31).toUInt32).toInt32) &&& (3 : Int32)) % (3 : Int32))), .val (.ref x_1), .val (.ref x_2), .val (.ref x_3)] [])) (fun _ k => XS.ifYes W12.here hx rfl (pc0 := 85) (pc' := 90) rfl (hb hby at_85) rfl ((if0 _ _).trans (feq (by decide)).2) (by decide) (by decide) k) ?_
  refine Go.st (g' := (mkF m 92 #[.val (.int p0), .val (.int p1), .val (.int p2), .val (.int ((p2 &&& (3 : Int32)) % (3 : Int32))), .val (.int ((((p2.toUInt32 >>> ((2 : Int32) &&& 31).toUInt32).toInt32) &&& (3 : Int32)) % (3 : Int32))), .val (.ref x_1), .val (.ref x_2), .val (.ref x_3)] [(.ref x_3)])) (fun _ k => XS.aload W12.here hx rfl (hb hby at_90) rfl rfl  k) ?_
  obtain ⟨_, vm15, T15, h15, W15, Q15, z15, SF15, st15⟩ := W12.callV hx hEL (own_get_accessToken l hE W12.old (x0 := x_3) (v0 := .null) rfl f3_4) (hw _ (List.mem_of_getElem? (i := 124) rfl)) (hw _ (List.mem_of_getElem? (i := 125) rfl)) (hw _ (List.mem_of_getElem? (i := 127) rfl)) (hw _ (List.mem_of_getElem? (i := 126) rfl)) (hw _ (List.mem_of_getElem? (i := 39) rfl)) (hw _ (List.mem_of_getElem? (i := 128) rfl)) (by decide) (Wd := 0) (by decide) (by decide) (by decide) (by decide) (g := (mkF m 92 #[.val (.int p0), .val (.int p1), .val (.int p2), .val (.int ((p2 &&& (3 : Int32)) % (3 : Int32))), .val (.int ((((p2.toUInt32 >>> ((2 : Int32) &&& 31).toUInt32).toInt32) &&& (3 : Int32)) % (3 : Int32))), .val (.ref x_1), .val (.ref x_2), .val (.ref x_3)] [(.ref x_3)])) rfl (by rw [hml]; rfl) (a := x_3) f3_0 (argsL := []) (rest := []) rfl (lenOf pd___Ljava_lang_String_ rfl) rfl (by show 2 * 0 + _ ≤ _; exact Nat.le_of_eq rfl) (hb hby at_92)
  obtain ⟨rfl, eh15⟩ := Q15
  subst eh15
  refine Go.tr (g' := (mkF m 95 #[.val (.int p0), .val (.int p1), .val (.int p2), .val (.int ((p2 &&& (3 : Int32)) % (3 : Int32))), .val (.int ((((p2.toUInt32 >>> ((2 : Int32) &&& 31).toUInt32).toInt32) &&& (3 : Int32)) % (3 : Int32))), .val (.ref x_1), .val (.ref x_2), .val (.ref x_3)] [.null])) st15 ?_
  refine Go.st (g' := (mkF m 98 #[.val (.int p0), .val (.int p1), .val (.int p2), .val (.int ((p2 &&& (3 : Int32)) % (3 : Int32))), .val (.int ((((p2.toUInt32 >>> ((2 : Int32) &&& 31).toUInt32).toInt32) &&& (3 : Int32)) % (3 : Int32))), .val (.ref x_1), .val (.ref x_2), .val (.ref x_3)] [])) (fun _ k => XS.ifnonnullNo W15.here hx rfl (hb hby at_95) rfl k) ?_
  refine Go.st (g' := (mkF m 100 #[.val (.int p0), .val (.int p1), .val (.int p2), .val (.int ((p2 &&& (3 : Int32)) % (3 : Int32))), .val (.int ((((p2.toUInt32 >>> ((2 : Int32) &&& 31).toUInt32).toInt32) &&& (3 : Int32)) % (3 : Int32))), .val (.ref x_1), .val (.ref x_2), .val (.ref x_3)] [(.ref x_3)])) (fun _ k => XS.aload W15.here hx rfl (hb hby at_98) rfl rfl  k) ?_
  obtain ⟨_, vm16, T16, h16, W16, Q16, z16, SF16, st16⟩ := W15.callV hx hEL (own_get_accessTokenType l hE W15.old (x0 := x_3) (v0 := .null) rfl f3_5) (hw _ (List.mem_of_getElem? (i := 129) rfl)) (hw _ (List.mem_of_getElem? (i := 130) rfl)) (hw _ (List.mem_of_getElem? (i := 132) rfl)) (hw _ (List.mem_of_getElem? (i := 131) rfl)) (hw _ (List.mem_of_getElem? (i := 39) rfl)) (hw _ (List.mem_of_getElem? (i := 133) rfl)) (by decide) (Wd := 0) (by decide) (by decide) (by decide) (by decide) (g := (mkF m 100 #[.val (.int p0), .val (.int p1), .val (.int p2), .val (.int ((p2 &&& (3 : Int32)) % (3 : Int32))), .val (.int ((((p2.toUInt32 >>> ((2 : Int32) &&& 31).toUInt32).toInt32) &&& (3 : Int32)) % (3 : Int32))), .val (.ref x_1), .val (.ref x_2), .val (.ref x_3)] [(.ref x_3)])) rfl (by rw [hml]; rfl) (a := x_3) f3_0 (argsL := []) (rest := []) rfl (lenOf pd___Ljava_lang_String_ rfl) rfl (by show 2 * 0 + _ ≤ _; exact Nat.le_of_eq rfl) (hb hby at_100)
  obtain ⟨rfl, eh16⟩ := Q16
  subst eh16
  refine Go.tr (g' := (mkF m 103 #[.val (.int p0), .val (.int p1), .val (.int p2), .val (.int ((p2 &&& (3 : Int32)) % (3 : Int32))), .val (.int ((((p2.toUInt32 >>> ((2 : Int32) &&& 31).toUInt32).toInt32) &&& (3 : Int32)) % (3 : Int32))), .val (.ref x_1), .val (.ref x_2), .val (.ref x_3)] [.null])) st16 ?_
  refine Go.st (g' := (mkF m 106 #[.val (.int p0), .val (.int p1), .val (.int p2), .val (.int ((p2 &&& (3 : Int32)) % (3 : Int32))), .val (.int ((((p2.toUInt32 >>> ((2 : Int32) &&& 31).toUInt32).toInt32) &&& (3 : Int32)) % (3 : Int32))), .val (.ref x_1), .val (.ref x_2), .val (.ref x_3)] [])) (fun _ k => XS.ifnonnullNo W16.here hx rfl (hb hby at_103) rfl k) ?_
  refine Go.st (g' := (mkF m 108 #[.val (.int p0), .val (.int p1), .val (.int p2), .val (.int ((p2 &&& (3 : Int32)) % (3 : Int32))), .val (.int ((((p2.toUInt32 >>> ((2 : Int32) &&& 31).toUInt32).toInt32) &&& (3 : Int32)) % (3 : Int32))), .val (.ref x_1), .val (.ref x_2), .val (.ref x_3)] [(.ref x_3)])) (fun _ k => XS.aload W16.here hx rfl (hb hby at_106) rfl rfl  k) ?_
  obtain ⟨_, vm17, T17, h17, W17, Q17, z17, SF17, st17⟩ := W16.callV hx hEL (own_get_accessTokenExpires l hE W16.old (x0 := x_3) (v0 := .null) rfl f3_6) (hw _ (List.mem_of_getElem? (i := 134) rfl)) (hw _ (List.mem_of_getElem? (i := 135) rfl)) (hw _ (List.mem_of_getElem? (i := 137) rfl)) (hw _ (List.mem_of_getElem? (i := 136) rfl)) (hw _ (List.mem_of_getElem? (i := 39) rfl)) (hw _ (List.mem_of_getElem? (i := 138) rfl)) (by decide) (Wd := 0) (by decide) (by decide) (by decide) (by decide) (g := (mkF m 108 #[.val (.int p0), .val (.int p1), .val (.int p2), .val (.int ((p2 &&& (3 : Int32)) % (3 : Int32))), .val (.int ((((p2.toUInt32 >>> ((2 : Int32) &&& 31).toUInt32).toInt32) &&& (3 : Int32)) % (3 : Int32))), .val (.ref x_1), .val (.ref x_2), .val (.ref x_3)] [(.ref x_3)])) rfl (by rw [hml]; rfl) (a := x_3) f3_0 (argsL := []) (rest := []) rfl (lenOf pd___Ljava_time_Instant_ rfl) rfl (by show 2 * 0 + _ ≤ _; exact Nat.le_of_eq rfl) (hb hby at_108)
  obtain ⟨rfl, eh17⟩ := Q17
  subst eh17
  refine Go.tr (g' := (mkF m 111 #[.val (.int p0), .val (.int p1), .val (.int p2), .val (.int ((p2 &&& (3 : Int32)) % (3 : Int32))), .val (.int ((((p2.toUInt32 >>> ((2 : Int32) &&& 31).toUInt32).toInt32) &&& (3 : Int32)) % (3 : Int32))), .val (.ref x_1), .val (.ref x_2), .val (.ref x_3)] [.null])) st17 ?_
  refine Go.st (g' := (mkF m 114 #[.val (.int p0), .val (.int p1), .val (.int p2), .val (.int ((p2 &&& (3 : Int32)) % (3 : Int32))), .val (.int ((((p2.toUInt32 >>> ((2 : Int32) &&& 31).toUInt32).toInt32) &&& (3 : Int32)) % (3 : Int32))), .val (.ref x_1), .val (.ref x_2), .val (.ref x_3)] [])) (fun _ k => XS.ifnonnullNo W17.here hx rfl (hb hby at_111) rfl k) ?_
  refine Go.st (g' := (mkF m 116 #[.val (.int p0), .val (.int p1), .val (.int p2), .val (.int ((p2 &&& (3 : Int32)) % (3 : Int32))), .val (.int ((((p2.toUInt32 >>> ((2 : Int32) &&& 31).toUInt32).toInt32) &&& (3 : Int32)) % (3 : Int32))), .val (.ref x_1), .val (.ref x_2), .val (.ref x_3)] [(.ref x_3)])) (fun _ k => XS.aload W17.here hx rfl (hb hby at_114) rfl rfl  k) ?_
  obtain ⟨_, vm18, T18, h18, W18, Q18, z18, SF18, st18⟩ := W17.callV hx hEL (own_get_refreshToken l hE W17.old (x0 := x_3) (v0 := .null) rfl f3_7) (hw _ (List.mem_of_getElem? (i := 139) rfl)) (hw _ (List.mem_of_getElem? (i := 140) rfl)) (hw _ (List.mem_of_getElem? (i := 142) rfl)) (hw _ (List.mem_of_getElem? (i := 141) rfl)) (hw _ (List.mem_of_getElem? (i := 39) rfl)) (hw _ (List.mem_of_getElem? (i := 143) rfl)) (by decide) (Wd := 0) (by decide) (by decide) (by decide) (by decide) (g := (mkF m 116 #[.val (.int p0), .val (.int p1), .val (.int p2), .val (.int ((p2 &&& (3 : Int32)) % (3 : Int32))), .val (.int ((((p2.toUInt32 >>> ((2 : Int32) &&& 31).toUInt32).toInt32) &&& (3 : Int32)) % (3 : Int32))), .val (.ref x_1), .val (.ref x_2), .val (.ref x_3)] [(.ref x_3)])) rfl (by rw [hml]; rfl) (a := x_3) f3_0 (argsL := []) (rest := []) rfl (lenOf pd___Ljava_lang_String_ rfl) rfl (by show 2 * 0 + _ ≤ _; exact Nat.le_of_eq rfl) (hb hby at_116)
  obtain ⟨rfl, eh18⟩ := Q18
  subst eh18
  refine Go.tr (g' := (mkF m 119 #[.val (.int p0), .val (.int p1), .val (.int p2), .val (.int ((p2 &&& (3 : Int32)) % (3 : Int32))), .val (.int ((((p2.toUInt32 >>> ((2 : Int32) &&& 31).toUInt32).toInt32) &&& (3 : Int32)) % (3 : Int32))), .val (.ref x_1), .val (.ref x_2), .val (.ref x_3)] [.null])) st18 ?_
  refine Go.st (g' := (mkF m 122 #[.val (.int p0), .val (.int p1), .val (.int p2), .val (.int ((p2 &&& (3 : Int32)) % (3 : Int32))), .val (.int ((((p2.toUInt32 >>> ((2 : Int32) &&& 31).toUInt32).toInt32) &&& (3 : Int32)) % (3 : Int32))), .val (.ref x_1), .val (.ref x_2), .val (.ref x_3)] [])) (fun _ k => XS.ifnonnullNo W18.here hx rfl (hb hby at_119) rfl k) ?_
  refine Go.st (g' := (mkF m 124 #[.val (.int p0), .val (.int p1), .val (.int p2), .val (.int ((p2 &&& (3 : Int32)) % (3 : Int32))), .val (.int ((((p2.toUInt32 >>> ((2 : Int32) &&& 31).toUInt32).toInt32) &&& (3 : Int32)) % (3 : Int32))), .val (.ref x_1), .val (.ref x_2), .val (.ref x_3)] [(.ref x_3)])) (fun _ k => XS.aload W18.here hx rfl (hb hby at_122) rfl rfl  k) ?_
  obtain ⟨_, vm19, T19, h19, W19, Q19, z19, SF19, st19⟩ := W18.callV hx hEL (own_get_refreshTokenEndpoint l hE W18.old (x0 := x_3) (v0 := .null) rfl f3_8) (hw _ (List.mem_of_getElem? (i := 144) rfl)) (hw _ (List.mem_of_getElem? (i := 145) rfl)) (hw _ (List.mem_of_getElem? (i := 147) rfl)) (hw _ (List.mem_of_getElem? (i := 146) rfl)) (hw _ (List.mem_of_getElem? (i := 39) rfl)) (hw _ (List.mem_of_getElem? (i := 148) rfl)) (by decide) (Wd := 0) (by decide) (by decide) (by decide) (by decide) (g := (mkF m 124 #[.val (.int p0), .val (.int p1), .val (.int p2), .val (.int ((p2 &&& (3 : Int32)) % (3 : Int32))), .val (.int ((((p2.toUInt32 >>> ((2 : Int32) &&& 31).toUInt32).toInt32) &&& (3 : Int32)) % (3 : Int32))), .val (.ref x_1), .val (.ref x_2), .val (.ref x_3)] [(.ref x_3)])) rfl (by rw [hml]; rfl) (a := x_3) f3_0 (argsL := []) (rest := []) rfl (lenOf pd___Ljava_net_URI_ rfl) rfl (by show 2 * 0 + _ ≤ _; exact Nat.le_of_eq rfl) (hb hby at_124)
  obtain ⟨rfl, eh19⟩ := Q19
  subst eh19
  refine Go.tr (g' := (mkF m 127 #[.val (.int p0), .val (.int p1), .val (.int p2), .val (.int ((p2 &&& (3 : Int32)) % (3 : Int32))), .val (.int ((((p2.toUInt32 >>> ((2 : Int32) &&& 31).toUInt32).toInt32) &&& (3 : Int32)) % (3 : Int32))), .val (.ref x_1), .val (.ref x_2), .val (.ref x_3)] [.null])) st19 ?_
  refine Go.st (g' := (mkF m 130 #[.val (.int p0), .val (.int p1), .val (.int p2), .val (.int ((p2 &&& (3 : Int32)) % (3 : Int32))), .val (.int ((((p2.toUInt32 >>> ((2 : Int32) &&& 31).toUInt32).toInt32) &&& (3 : Int32)) % (3 : Int32))), .val (.ref x_1), .val (.ref x_2), .val (.ref x_3)] [])) (fun _ k => XS.ifnonnullNo W19.here hx rfl (hb hby at_127) rfl k) ?_
  refine Go.st (g' := (mkF m 131 #[.val (.int p0), .val (.int p1), .val (.int p2), .val (.int ((p2 &&& (3 : Int32)) % (3 : Int32))), .val (.int ((((p2.toUInt32 >>> ((2 : Int32) &&& 31).toUInt32).toInt32) &&& (3 : Int32)) % (3 : Int32))), .val (.ref x_1), .val (.ref x_2), .val (.ref x_3)] [(.int (1 : Int32))])) (fun _ k => XS.iconst W19.here hx rfl (hb hby at_130) k) ?_
  refine Go.st (g' := (mkF m 135 #[.val (.int p0), .val (.int p1), .val (.int p2), .val (.int ((p2 &&& (3 : Int32)) % (3 : Int32))), .val (.int ((((p2.toUInt32 >>> ((2 : Int32) &&& 31).toUInt32).toInt32) &&& (3 : Int32)) % (3 : Int32))), .val (.ref x_1), .val (.ref x_2), .val (.ref x_3)] [(.int (1 : Int32))])) (fun _ k => XS.goto W19.here hx rfl (pc0 := 131) (pc' := 135) rfl (hb hby at_131) (by decide) (by decide) k) ?_
  exact W19.retN hx hEL hlk (t := .boolean) hret (by decide) (hb hby at_135) (by decide) (by decide) rfl
theorem own_compact {s : State} {a : Array Value} (hsets : ∀ d ∈ jdkStatics_1, d.before a s = true) : ∃ zc : Int32, Sta s s.heap "java/lang/String" "COMPACT_STRINGS" "Z" (.int zc) ∧ ¬ zc = 0 := by
  have n3 := not_v (Cond.before_iff.mp (hsets _ (List.mem_of_getElem? (i := 2) rfl)))
  obtain ⟨i7, e6⟩ := is_v (Cond.before_iff.mp (hsets _ (List.mem_of_getElem? (i := 1) rfl)))
  exact ⟨i7, Sta.start e6 (Or.inl (hsets _ (List.mem_of_getElem? (i := 0) rfl))), gotF (Cond.eq_ints e6 (Term.int_eval (0))) n3⟩
theorem own_sioobe {s : State} {a : Array Value} (hsets : ∀ d ∈ jdkStatics_1, d.before a s = true) : ∃ fm : Value, Sta s s.heap "jdk/internal/util/Preconditions" "SIOOBE_FORMATTER" "Ljava/util/function/BiFunction;" fm ∧ fm.isRef = true := by
  obtain ⟨v9, e10, r11⟩ := isR_v (Cond.before_iff.mp (hsets _ (List.mem_of_getElem? (i := 8) rfl)))
  exact ⟨v9, Sta.start e10 (Or.inl (hsets _ (List.mem_of_getElem? (i := 7) rfl))), r11⟩
set_option maxRecDepth 65536 in
set_option maxHeartbeats 4000000 in
theorem comes_1 {Post : Tables → Env → Array Value → State → Outcome → State → Prop} (hpost : ∀ tb e args s v u, (limb_1_1.after args s (.returned v) u = true ∧ limb_1_2.after args s (.returned v) u = true ∧ True) → FramedW s (.returned v) u (Jvm.fieldLocs frame_1_writes args s ++ Jvm.arrayLocs frame_1_arrays args s ++ Jvm.staticLocs frame_1_statics s) 40 3200 → Post tb e args s (.returned v) u) :
    ArmFor flags0 classFile x code maxLocals ret World_1 tables_1 room_1 Calls_1 rest_1 Pre_1 Post := by
  intro l hfl _ _ p e ha hc hk s m args below hf hA hF happ hP
  obtain ⟨hcalls, hrest, hpre⟩ := hP
  obtain ⟨-, -, -, hnamed, -, -, -, hat⟩ := (Spec.applies_iff hf).mp happ
  obtain ⟨hg, hn⟩ := and_e (Cond.before_iff.mp (show (Jvm.Cond.and given_1 narrow_1).before args s = true from hpre))
  obtain ⟨h1, h2⟩ := and_e hg
  obtain ⟨w0, w1, w2, rfl⟩ : ∃ w0 w1 w2 : Value, args = #[w0, w1, w2] := by
    have hs : args.size = 3 := by simpa [Cond.value, given_1] using h1
    obtain ⟨L⟩ := args
    match L, hs with
    | [w0, w1, w2], _ => exact ⟨w0, w1, w2, rfl⟩
  have hw := fun d (hd : d ∈ tables_1) => atoms_spec (ws := Jvm.Cond.code x code maxLocals ret :: tables_1) hat d (List.mem_cons_of_mem _ hd)
  obtain ⟨hsets, hown0⟩ := atoms_of _ (rest_1_c_eq ▸ (show rest_1_c.before _ s = true from hrest))
  obtain ⟨q0, h2⟩ := and_e h2
  obtain ⟨i0, e0⟩ := is_v q0
  obtain rfl : w0 = (.int i0) := Option.some.inj e0
  obtain ⟨q1, h2⟩ := and_e h2
  obtain ⟨i1, e1⟩ := is_v q1
  obtain rfl : w1 = (.int i1) := Option.some.inj e1
  have q2 := h2
  obtain ⟨i2, e2⟩ := is_v q2
  obtain rfl : w2 = (.int i2) := Option.some.inj e2
  have hfit : Fit s := fun {y c} hc i hi => by
    obtain ⟨ha, rfl⟩ := Array.getElem?_eq_some_iff.mp hc
    have q := List.all_eq_true.mp ((Array.all_eq_true_iff_forall_mem.mp hF) _ (Array.getElem_mem ha)) i (List.mem_range.mpr hi)
    simpa [Array.getElem?_eq_getElem hi] using q
  obtain ⟨zp, ezp, fzp⟩ := static_fit hfit (hw _ (List.mem_of_getElem? (i := 45) rfl)) (ty := .object "com/example/fanoutd/fanoutd/subscription/SinkCredential$Type") (by decide)
  have hzp : Sta s s.heap "com/example/fanoutd/fanoutd/subscription/SinkCredential$Type" "PLAIN" "Lcom/example/fanoutd/fanoutd/subscription/SinkCredential$Type;" zp := Sta.start ezp (Or.inr ⟨(hw _ (List.mem_of_getElem? (i := 44) rfl)), (hw _ (List.mem_of_getElem? (i := 45) rfl))⟩)
  have hE : Ctx s #[(.int i0), (.int i1), (.int i2)] := ⟨hw, own_compact hsets, own_sioobe hsets, ⟨zp, hzp, fit_R fzp rfl⟩, trivial⟩
  have hCH : CHv s consts_1 s.vm s.heap := CHv.start (own_EW hw) hcalls.1 (hsets _ (List.mem_of_getElem? (i := 2) rfl)) (hw _ (List.mem_of_getElem? (i := 23) rfl)) (hw _ (List.mem_of_getElem? (i := 6) rfl))
  obtain ⟨n, o, h1, h2, h3, _, L, rfl, ⟨rfl, N, -⟩, -, hq⟩ := own_law l hE (Old.start s)  p e ha hc hk s m _ below hf ((Spec.applies_iff_loose hf).mp happ).1 ⟨rfl, State.Warmed39.refl s, rfl, hCH⟩ trivial
  refine ⟨n, _, h1, h2, h3, hpost _ _ _ _ _ _ ⟨Cond.after_iff.mpr rfl, Cond.after_iff.mpr (eq_i res_at (Term.int_eval (1)) rfl), trivial⟩ ⟨hq.1, hq.2.1, hq.2.2.1, (hq.2.2.2.sift fun y hy => Or.inr (N y hy)).mono (by decide) (by decide)⟩⟩
theorem main_1_1 : Claimed_1_1 := comes_1 fun _ _ _ _ _ _ h hF => ⟨h.1, hF⟩
theorem main_1_2 : Claimed_1_2 := comes_1 fun _ _ _ _ _ _ h hF => ⟨h.2.1, hF⟩
end Jvm.Pilot.@@N@@
namespace Jvm.Pilot.@@N@@
open Jvm Jvm.ClassFile Sem Op Lib Jvm.Free Jvm.Stand Jvm.Pilot.@@N@@.Jvm.D
/-! MADE BY PROGRAM (witnessworld.py) out of the Statement's table words and the real class files: 23 classes; the members and pool entries that the words name. The judged class is class 1, her method 3. -/
namespace start1
open Jvm.ClassFile
def u (s : String) : CpInfo := .utf8 (stringToUtf16 s)
/-- a pool by its gaps: so many unusable entries, then the entry; so many at the end -/
def gap : Nat → List CpInfo → List CpInfo
  | 0, r => r
  | n + 1, r => .unusable :: gap n r
def poolList (es : List (Nat × CpInfo)) (last : Nat) : List CpInfo := es.foldr (fun e r => gap e.1 (e.2 :: r)) (gap last [])
def pool (es : List (Nat × CpInfo)) (last : Nat) : Array CpInfo := ⟨poolList es last⟩
def fileOf (pool : Array CpInfo) (this : Nat) (attrs : Array Attribute := #[]) (ms : Array MethodInfo := #[]) (fl : Nat := 33) (sup : Nat := 0) (ifs : Array Nat := #[]) (fds : Array FieldInfo := #[]) : ClassFile where
  minorVersion := 0
  majorVersion := 65
  constantPool := pool
  accessFlags := fl
  thisClass := this
  superClass := sup
  interfaces := ifs
  fields := fds
  methods := ms
  attributes := attrs
def plain (name : String) (sup : Option ClassId) : Class where
  name := name
  kind := .ordinary
  loader := none
  accessFlags := 33
  super := sup
  interfaces := #[]
  cf := none
  fields := #[]
  methods := #[]
  instanceTypes := #[]
  staticTypes := #[]
  resolved := #[]
  callSites := []
  init := .initialized
  statics := none
  mirror := none

def pool0 : Array CpInfo := pool [(5, u "<init>"), (0, u "()V"), (1, .class_ 10), (1, u "java/lang/Object")] 113

def k0c0 : Code := { maxStack := 0, maxLocals := 1, code := object_method_1_code, exceptionTable := #[], attributes := #[] }
def k0m0 : Method := { name := "<init>", desc := "()V", sig := { parameters := [], returnType := none }, accessFlags := 1, code := some k0c0 }
/-- java/lang/Object -/
def k0 : Class := { plain "java/lang/Object" none with
  accessFlags := 33
  interfaces := #[]
  cf := some (fileOf pool0 8 #[] #[{ accessFlags := 1, nameIndex := 5, descriptorIndex := 6, attributes := #[] }] 33 0 #[] #[])
  fields := #[]
  methods := #[k0m0]
  instanceTypes := #[]
  staticTypes := #[]
  resolved := Array.replicate 124 none
  statics := none }

def pool1 : Array CpInfo := pool [(2, .class_ 4), (1, u "java/lang/Object"), (0, u "<init>"), (0, u "()V"), (0, .class_ 8), (0, u "java/lang/String"), (0, .methodref 7 10), (0, .nameAndType 5 11), (0, u "([C)V"), (0, .methodref 7 13), (0, .nameAndType 14 15), (0, u "length"), (0, u "()I"), (0, .methodref 7 17), (0, .nameAndType 18 19), (0, u "charAt"), (0, u "(I)C"), (0, .methodref 21 22), (0, .class_ 23), (0, .nameAndType 24 25), (0, u "com/example/fanoutd/fanoutd/subscription/SinkCredentialPlainPinLaw"), (0, u "mk"), (0, u "(II)Ljava/lang/String;"), (0, .methodref 27 28), (0, .class_ 29), (0, .nameAndType 30 31), (0, u "com/example/fanoutd/fanoutd/subscription/SinkCredential"), (0, u "plain"), (0, u "(Ljava/lang/String;Ljava/lang/String;)Lcom/example/fanoutd/fanoutd/subscription/SinkCredential;"), (0, .methodref 27 33), (0, .nameAndType 34 35), (0, u "type"), (0, u "()Lcom/example/fanoutd/fanoutd/subscription/SinkCredential$Type;"), (0, .fieldref 37 38), (0, .class_ 39), (0, .nameAndType 40 41), (0, u "com/example/fanoutd/fanoutd/subscription/SinkCredential$Type"), (0, u "PLAIN"), (0, u "Lcom/example/fanoutd/fanoutd/subscription/SinkCredential$Type;"), (0, .methodref 27 43), (0, .nameAndType 44 45), (0, u "identifier"), (0, u "()Ljava/lang/String;"), (0, .methodref 21 47), (0, .nameAndType 48 49), (0, u "matches"), (0, u "(Ljava/lang/String;II)Z"), (0, .methodref 27 51), (0, .nameAndType 52 45), (0, u "secret"), (0, .methodref 27 54), (0, .nameAndType 55 45), (0, u "accessToken"), (0, .methodref 27 57), (0, .nameAndType 58 45), (0, u "accessTokenType"), (0, .methodref 27 60), (0, .nameAndType 61 62), (0, u "accessTokenExpires"), (0, u "()Ljava/time/Instant;"), (0, .methodref 27 64), (0, .nameAndType 65 45), (0, u "refreshToken"), (0, .methodref 27 67), (0, .nameAndType 68 69), (0, u "refreshTokenEndpoint"), (0, u "()Ljava/net/URI;"), (5, u "law"), (0, u "(III)Z")] 4

def k1m0 : Method := { name := "<init>", desc := "()V", sig := { parameters := [], returnType := none }, accessFlags := 2, code := none }
def k1c1 : Code := { maxStack := 4, maxLocals := 5, code := method_2_code, exceptionTable := #[], attributes := #[] }
def k1m1 : Method := { name := "mk", desc := "(II)Ljava/lang/String;", sig := { parameters := [.int, .int], returnType := some (.object "java/lang/String") }, accessFlags := 10, code := some k1c1 }
def k1c2 : Code := { maxStack := 3, maxLocals := 3, code := method_3_code, exceptionTable := #[], attributes := #[] }
def k1m2 : Method := { name := "matches", desc := "(Ljava/lang/String;II)Z", sig := { parameters := [(.object "java/lang/String"), .int, .int], returnType := some .boolean }, accessFlags := 10, code := some k1c2 }
def k1c3 : Code := { maxStack := 3, maxLocals := 8, code := code, exceptionTable := #[], attributes := #[] }
def k1m3 : Method := { name := "law", desc := "(III)Z", sig := { parameters := [.int, .int, .int], returnType := some .boolean }, accessFlags := 9, code := some k1c3 }
/-- com/example/fanoutd/fanoutd/subscription/SinkCredentialPlainPinLaw -/
def k1 : Class := { plain "com/example/fanoutd/fanoutd/subscription/SinkCredentialPlainPinLaw" (some 0) with
  accessFlags := 49
  interfaces := #[]
  cf := some (fileOf pool1 21 #[] #[{ accessFlags := 2, nameIndex := 5, descriptorIndex := 6, attributes := #[] }, { accessFlags := 10, nameIndex := 24, descriptorIndex := 25, attributes := #[] }, { accessFlags := 10, nameIndex := 48, descriptorIndex := 49, attributes := #[] }, { accessFlags := 9, nameIndex := 75, descriptorIndex := 76, attributes := #[] }] 49 2 #[] #[])
  fields := #[]
  methods := #[k1m0, k1m1, k1m2, k1m3]
  instanceTypes := #[]
  staticTypes := #[]
  resolved := Array.replicate 81 none
  statics := none }

def pool2 : Array CpInfo := pool [(1, .class_ 2), (0, u "java/io/Serializable"), (0, .class_ 4), (0, u "java/lang/Object")] 2

/-- java/io/Serializable -/
def k2 : Class := { plain "java/io/Serializable" (some 0) with
  accessFlags := 1537
  interfaces := #[]
  cf := some (fileOf pool2 1 #[] #[] 1537 3 #[] #[])
  fields := #[]
  methods := #[]
  instanceTypes := #[]
  staticTypes := #[]
  resolved := Array.replicate 7 none
  statics := none }

def pool3 : Array CpInfo := pool [(1, .class_ 2), (0, u "java/lang/Comparable"), (0, .class_ 4), (0, u "java/lang/Object")] 7

/-- java/lang/Comparable -/
def k3 : Class := { plain "java/lang/Comparable" (some 0) with
  accessFlags := 1537
  interfaces := #[]
  cf := some (fileOf pool3 1 #[] #[] 1537 3 #[] #[])
  fields := #[]
  methods := #[]
  instanceTypes := #[]
  staticTypes := #[]
  resolved := Array.replicate 12 none
  statics := none }

def pool4 : Array CpInfo := pool [(2, .class_ 4), (1, u "java/lang/CharSequence"), (42, .class_ 48), (0, u "java/lang/CharSequence$1CodePointIterator"), (10, .class_ 60), (0, u "java/lang/CharSequence$1CharIterator"), (5, .class_ 67), (0, u "java/lang/Object")] 63

/-- java/lang/CharSequence -/
def k4 : Class := { plain "java/lang/CharSequence" (some 0) with
  accessFlags := 1537
  interfaces := #[]
  cf := some (fileOf pool4 2 #[.nestMembers #[47, 59]] #[] 1537 66 #[] #[])
  fields := #[]
  methods := #[]
  instanceTypes := #[]
  staticTypes := #[]
  resolved := Array.replicate 131 none
  statics := none }

def pool5 : Array CpInfo := pool [(1, .class_ 2), (0, u "java/lang/constant/Constable"), (0, .class_ 4), (0, u "java/lang/Object")] 6

/-- java/lang/constant/Constable -/
def k5 : Class := { plain "java/lang/constant/Constable" (some 0) with
  accessFlags := 1537
  interfaces := #[]
  cf := some (fileOf pool5 1 #[] #[] 1537 3 #[] #[])
  fields := #[]
  methods := #[]
  instanceTypes := #[]
  staticTypes := #[]
  resolved := Array.replicate 11 none
  statics := none }

def pool6 : Array CpInfo := pool [(1, .class_ 2), (0, u "java/lang/constant/ConstantDesc"), (0, .class_ 4), (0, u "java/lang/Object")] 32

/-- java/lang/constant/ConstantDesc -/
def k6 : Class := { plain "java/lang/constant/ConstantDesc" (some 0) with
  accessFlags := 1537
  interfaces := #[]
  cf := some (fileOf pool6 1 #[] #[] 1537 3 #[] #[])
  fields := #[]
  methods := #[]
  instanceTypes := #[]
  staticTypes := #[]
  resolved := Array.replicate 37 none
  statics := none }

def pool7 : Array CpInfo := pool [(1, .methodref 2 3), (0, .class_ 4), (0, .nameAndType 5 6), (0, u "java/lang/Object"), (0, u "<init>"), (0, u "()V"), (0, .string 8), (0, u ""), (0, .fieldref 10 11), (0, .class_ 12), (0, .nameAndType 13 14), (0, u "java/lang/String"), (0, u "value"), (0, u "[B"), (0, .fieldref 10 16), (0, .nameAndType 17 18), (0, u "coder"), (0, u "B"), (2, u "hash"), (0, u "I"), (2, u "hashIsZero"), (0, u "Z"), (0, .methodref 10 28), (0, .nameAndType 5 29), (0, u "([CIILjava/lang/Void;)V"), (8, .fieldref 10 39), (0, .nameAndType 40 26), (0, u "COMPACT_STRINGS"), (1, .class_ 44), (1, u "java/lang/StringUTF16"), (0, u "compress"), (1, .methodref 42 48), (0, .nameAndType 49 50), (0, u "coderFromArrayLen"), (0, u "([BI)B"), (56, .class_ 109), (1, u "java/lang/StringLatin1"), (32, u "()Z"), (34, .methodref 42 178), (0, .nameAndType 45 179), (0, u "([CII)[B"), (154, u "()I"), (0, .methodref 10 336), (0, .nameAndType 17 337), (0, u "()B"), (25, u "([BI)C"), (27, u "(II)V"), (35, u "(I)C"), (64, .methodref 10 493), (0, .nameAndType 494 142), (0, u "isLatin1"), (0, .methodref 107 496), (0, .nameAndType 497 363), (0, u "charAt"), (3, u "checkIndex"), (5, u "length"), (67, .class_ 576), (0, u "java/lang/CharSequence"), (22, u "CASE_INSENSITIVE_ORDER"), (0, u "Ljava/util/Comparator;"), (409, u "([C)V"), (42, .fieldref 1054 1055), (0, .class_ 1056), (0, .nameAndType 1057 1058), (0, u "jdk/internal/util/Preconditions"), (0, u "SIOOBE_FORMATTER"), (0, u "Ljava/util/function/BiFunction;"), (0, .methodref 1054 1060), (0, .nameAndType 501 1061), (0, u "(IILjava/util/function/BiFunction;)I"), (39, u "serialPersistentFields"), (0, u "[Ljava/io/ObjectStreamField;"), (0, .class_ 1104), (0, u "java/lang/String$CaseInsensitiveComparator"), (1, .class_ 1107), (0, u "java/io/Serializable"), (0, .class_ 1109), (0, u "java/lang/Comparable"), (0, .class_ 1111), (0, u "java/lang/constant/Constable"), (0, .class_ 1113), (0, u "java/lang/constant/ConstantDesc"), (2, u "serialVersionUID"), (0, u "J"), (3, u "REPL"), (0, u "C"), (2, u "LATIN1"), (1, u "UTF16")] 323

def k7m0 : Method := { name := "<init>", desc := "()V", sig := { parameters := [], returnType := none }, accessFlags := 1, code := none }
def k7c1 : Code := { maxStack := 5, maxLocals := 2, code := jdk_42_method_3_code, exceptionTable := #[], attributes := #[] }
def k7m1 : Method := { name := "<init>", desc := "([C)V", sig := { parameters := [(.array .char)], returnType := none }, accessFlags := 1, code := some k7c1 }
def k7c2 : Code := { maxStack := 2, maxLocals := 1, code := jdk_42_method_54_code, exceptionTable := #[], attributes := #[] }
def k7m2 : Method := { name := "length", desc := "()I", sig := { parameters := [], returnType := some .int }, accessFlags := 1, code := some k7c2 }
def k7c3 : Code := { maxStack := 2, maxLocals := 2, code := jdk_42_method_56_code, exceptionTable := #[], attributes := #[] }
def k7m3 : Method := { name := "charAt", desc := "(I)C", sig := { parameters := [.int], returnType := some .char }, accessFlags := 1, code := some k7c3 }
def k7c4 : Code := { maxStack := 4, maxLocals := 6, code := jdk_42_method_149_code, exceptionTable := #[], attributes := #[] }
def k7m4 : Method := { name := "<init>", desc := "([CIILjava/lang/Void;)V", sig := { parameters := [(.array .char), .int, .int, (.object "java/lang/Void")], returnType := none }, accessFlags := 2, code := some k7c4 }
def k7c5 : Code := { maxStack := 1, maxLocals := 1, code := jdk_42_method_152_code, exceptionTable := #[], attributes := #[] }
def k7m5 : Method := { name := "coder", desc := "()B", sig := { parameters := [], returnType := some .byte }, accessFlags := 0, code := some k7c5 }
def k7c6 : Code := { maxStack := 1, maxLocals := 1, code := jdk_42_method_154_code, exceptionTable := #[], attributes := #[] }
def k7m6 : Method := { name := "isLatin1", desc := "()Z", sig := { parameters := [], returnType := some .boolean }, accessFlags := 0, code := some k7c6 }
def k7c7 : Code := { maxStack := 3, maxLocals := 2, code := jdk_42_method_155_code, exceptionTable := #[], attributes := #[] }
def k7m7 : Method := { name := "checkIndex", desc := "(II)V", sig := { parameters := [.int, .int], returnType := none }, accessFlags := 8, code := some k7c7 }
/-- java/lang/String -/
def k7 : Class := { plain "java/lang/String" (some 0) with
  accessFlags := 49
  interfaces := #[2, 3, 4, 5, 6]
  cf := some (fileOf pool7 10 #[.nestMembers #[1103]] #[{ accessFlags := 1, nameIndex := 5, descriptorIndex := 6, attributes := #[] }, { accessFlags := 1, nameIndex := 5, descriptorIndex := 1010, attributes := #[] }, { accessFlags := 1, nameIndex := 507, descriptorIndex := 334, attributes := #[] }, { accessFlags := 1, nameIndex := 497, descriptorIndex := 427, attributes := #[] }, { accessFlags := 2, nameIndex := 5, descriptorIndex := 29, attributes := #[] }, { accessFlags := 0, nameIndex := 17, descriptorIndex := 337, attributes := #[] }, { accessFlags := 0, nameIndex := 494, descriptorIndex := 142, attributes := #[] }, { accessFlags := 8, nameIndex := 501, descriptorIndex := 391, attributes := #[] }] 49 2 #[1106, 1108, 575, 1110, 1112] #[{ accessFlags := 18, nameIndex := 13, descriptorIndex := 14, attributes := #[] }, { accessFlags := 18, nameIndex := 17, descriptorIndex := 18, attributes := #[] }, { accessFlags := 2, nameIndex := 21, descriptorIndex := 22, attributes := #[] }, { accessFlags := 2, nameIndex := 25, descriptorIndex := 26, attributes := #[] }, { accessFlags := 26, nameIndex := 1116, descriptorIndex := 1117, attributes := #[] }, { accessFlags := 24, nameIndex := 40, descriptorIndex := 26, attributes := #[] }, { accessFlags := 26, nameIndex := 1101, descriptorIndex := 1102, attributes := #[] }, { accessFlags := 26, nameIndex := 1121, descriptorIndex := 1122, attributes := #[] }, { accessFlags := 25, nameIndex := 599, descriptorIndex := 600, attributes := #[] }, { accessFlags := 24, nameIndex := 1125, descriptorIndex := 18, attributes := #[] }, { accessFlags := 24, nameIndex := 1127, descriptorIndex := 18, attributes := #[] }])
  fields := #[{ name := "value", type := (.array .byte), accessFlags := 18, slot := 0, constantValue := 0 }, { name := "coder", type := .byte, accessFlags := 18, slot := 1, constantValue := 0 }, { name := "hash", type := .int, accessFlags := 2, slot := 2, constantValue := 0 }, { name := "hashIsZero", type := .boolean, accessFlags := 2, slot := 3, constantValue := 0 }, { name := "serialVersionUID", type := .long, accessFlags := 26, slot := 0, constantValue := 0 }, { name := "COMPACT_STRINGS", type := .boolean, accessFlags := 24, slot := 1, constantValue := 0 }, { name := "serialPersistentFields", type := (.array (.object "java/io/ObjectStreamField")), accessFlags := 26, slot := 2, constantValue := 0 }, { name := "REPL", type := .char, accessFlags := 26, slot := 3, constantValue := 0 }, { name := "CASE_INSENSITIVE_ORDER", type := (.object "java/util/Comparator"), accessFlags := 25, slot := 4, constantValue := 0 }, { name := "LATIN1", type := .byte, accessFlags := 24, slot := 5, constantValue := 0 }, { name := "UTF16", type := .byte, accessFlags := 24, slot := 6, constantValue := 0 }]
  methods := #[k7m0, k7m1, k7m2, k7m3, k7m4, k7m5, k7m6, k7m7]
  instanceTypes := #[(.array .byte), .byte, .int, .boolean]
  staticTypes := #[.long, .boolean, (.array (.object "java/io/ObjectStreamField")), .char, (.object "java/util/Comparator"), .byte, .byte]
  resolved := Array.replicate 1451 none
  statics := some 0 }

def pool8 : Array CpInfo := pool [(6, .class_ 8), (1, u "java/lang/Object"), (0, u "<init>"), (0, u "()V"), (1, .class_ 14), (1, u "java/lang/StringUTF16"), (31, u "$assertionsDisabled"), (0, u "Z"), (13, u "HI_BYTE_SHIFT"), (0, u "I"), (2, u "LO_BYTE_SHIFT"), (49, .methodref 12 116), (0, .nameAndType 117 118), (0, u "compress"), (0, u "([CI[BII)I"), (3, u "([CII)[B"), (138, u "coderFromArrayLen"), (0, u "([BI)B"), (106, .class_ 371), (1, u "java/lang/StringUTF16$LinesSpliterator"), (58, u "MAX_LENGTH"), (196, .class_ 628), (0, u "java/lang/StringUTF16$CodePointsSpliterator"), (0, .class_ 630), (0, u "java/lang/StringUTF16$CharsSpliterator")] 4

def k8m0 : Method := { name := "<init>", desc := "()V", sig := { parameters := [], returnType := none }, accessFlags := 0, code := none }
def k8c1 : Code := { maxStack := 2, maxLocals := 2, code := jdk_52_method_15_code, exceptionTable := #[], attributes := #[] }
def k8m1 : Method := { name := "coderFromArrayLen", desc := "([BI)B", sig := { parameters := [(.array .byte), .int], returnType := some .byte }, accessFlags := 8, code := some k8c1 }
def k8c2 : Code := { maxStack := 5, maxLocals := 6, code := jdk_52_method_16_code, exceptionTable := #[], attributes := #[] }
def k8m2 : Method := { name := "compress", desc := "([CII)[B", sig := { parameters := [(.array .char), .int, .int], returnType := some (.array .byte) }, accessFlags := 9, code := some k8c2 }
def k8c3 : Code := { maxStack := 3, maxLocals := 7, code := jdk_52_method_21_code, exceptionTable := #[], attributes := #[] }
def k8m3 : Method := { name := "compress", desc := "([CI[BII)I", sig := { parameters := [(.array .char), .int, (.array .byte), .int, .int], returnType := some .int }, accessFlags := 9, code := some k8c3 }
/-- java/lang/StringUTF16 -/
def k8 : Class := { plain "java/lang/StringUTF16" (some 0) with
  accessFlags := 48
  interfaces := #[]
  cf := some (fileOf pool8 12 #[.nestMembers #[627, 629, 369]] #[{ accessFlags := 0, nameIndex := 9, descriptorIndex := 10, attributes := #[] }, { accessFlags := 8, nameIndex := 261, descriptorIndex := 262, attributes := #[] }, { accessFlags := 9, nameIndex := 117, descriptorIndex := 122, attributes := #[] }, { accessFlags := 9, nameIndex := 117, descriptorIndex := 118, attributes := #[] }] 48 6 #[] #[{ accessFlags := 26, nameIndex := 61, descriptorIndex := 62, attributes := #[] }, { accessFlags := 26, nameIndex := 65, descriptorIndex := 62, attributes := #[] }, { accessFlags := 24, nameIndex := 430, descriptorIndex := 62, attributes := #[] }, { accessFlags := 4120, nameIndex := 46, descriptorIndex := 47, attributes := #[] }])
  fields := #[{ name := "HI_BYTE_SHIFT", type := .int, accessFlags := 26, slot := 0, constantValue := 0 }, { name := "LO_BYTE_SHIFT", type := .int, accessFlags := 26, slot := 1, constantValue := 0 }, { name := "MAX_LENGTH", type := .int, accessFlags := 24, slot := 2, constantValue := 0 }, { name := "$assertionsDisabled", type := .boolean, accessFlags := 4120, slot := 3, constantValue := 0 }]
  methods := #[k8m0, k8m1, k8m2, k8m3]
  instanceTypes := #[]
  staticTypes := #[.int, .int, .int, .boolean]
  resolved := Array.replicate 635 none
  statics := none }

def pool9 : Array CpInfo := pool [(1, .methodref 2 3), (0, .class_ 4), (0, .nameAndType 5 6), (0, u "java/lang/Object"), (0, u "<init>"), (0, u "()V"), (0, .fieldref 8 9), (0, .class_ 10), (0, .nameAndType 11 12), (0, u "com/example/fanoutd/fanoutd/subscription/SinkCredential"), (0, u "type"), (0, u "Lcom/example/fanoutd/fanoutd/subscription/SinkCredential$Type;"), (0, .fieldref 8 14), (0, .nameAndType 15 16), (0, u "identifier"), (0, u "Ljava/lang/String;"), (0, .fieldref 8 18), (0, .nameAndType 19 16), (0, u "secret"), (0, .fieldref 8 21), (0, .nameAndType 22 16), (0, u "accessToken"), (0, .fieldref 8 24), (0, .nameAndType 25 16), (0, u "accessTokenType"), (0, .fieldref 8 27), (0, .nameAndType 28 29), (0, u "accessTokenExpires"), (0, u "Ljava/time/Instant;"), (0, .fieldref 8 31), (0, .nameAndType 32 16), (0, u "refreshToken"), (0, .fieldref 8 34), (0, .nameAndType 35 36), (0, u "refreshTokenEndpoint"), (0, u "Ljava/net/URI;"), (0, .fieldref 38 39), (0, .class_ 40), (0, .nameAndType 41 12), (0, u "com/example/fanoutd/fanoutd/subscription/SinkCredential$Type"), (0, u "PLAIN"), (0, .string 15), (0, .methodref 44 45), (0, .class_ 46), (0, .nameAndType 47 48), (0, u "java/util/Objects"), (0, u "requireNonNull"), (0, u "(Ljava/lang/Object;Ljava/lang/String;)Ljava/lang/Object;"), (0, .class_ 50), (0, u "java/lang/String"), (0, .string 19), (0, .methodref 8 53), (0, .nameAndType 5 54), (0, u "(Lcom/example/fanoutd/fanoutd/subscription/SinkCredential$Type;Ljava/lang/String;Ljava/lang/String;Ljava/lang/String;Ljava/lang/String;Ljava/time/Instant;Ljava/lang/String;Ljava/net/URI;)V"), (42, u "LATEST_EXPIRY"), (4, u "EARLIEST_EXPIRY"), (0, u "DEFAULT_TOKEN_TYPE"), (5, u "plain"), (0, u "(Ljava/lang/String;Ljava/lang/String;)Lcom/example/fanoutd/fanoutd/subscription/SinkCredential;"), (4, u "()Lcom/example/fanoutd/fanoutd/subscription/SinkCredential$Type;"), (0, u "()Ljava/lang/String;"), (0, u "()Ljava/time/Instant;"), (0, u "()Ljava/net/URI;")] 20

def k9c0 : Code := { maxStack := 2, maxLocals := 9, code := prog_36_method_1_code, exceptionTable := #[], attributes := #[] }
def k9m0 : Method := { name := "<init>", desc := "(Lcom/example/fanoutd/fanoutd/subscription/SinkCredential$Type;Ljava/lang/String;Ljava/lang/String;Ljava/lang/String;Ljava/lang/String;Ljava/time/Instant;Ljava/lang/String;Ljava/net/URI;)V", sig := { parameters := [(.object "com/example/fanoutd/fanoutd/subscription/SinkCredential$Type"), (.object "java/lang/String"), (.object "java/lang/String"), (.object "java/lang/String"), (.object "java/lang/String"), (.object "java/time/Instant"), (.object "java/lang/String"), (.object "java/net/URI")], returnType := none }, accessFlags := 2, code := some k9c0 }
def k9c1 : Code := { maxStack := 10, maxLocals := 2, code := prog_36_method_2_code, exceptionTable := #[], attributes := #[] }
def k9m1 : Method := { name := "plain", desc := "(Ljava/lang/String;Ljava/lang/String;)Lcom/example/fanoutd/fanoutd/subscription/SinkCredential;", sig := { parameters := [(.object "java/lang/String"), (.object "java/lang/String")], returnType := some (.object "com/example/fanoutd/fanoutd/subscription/SinkCredential") }, accessFlags := 9, code := some k9c1 }
def k9c2 : Code := { maxStack := 1, maxLocals := 1, code := prog_36_method_6_code, exceptionTable := #[], attributes := #[] }
def k9m2 : Method := { name := "type", desc := "()Lcom/example/fanoutd/fanoutd/subscription/SinkCredential$Type;", sig := { parameters := [], returnType := some (.object "com/example/fanoutd/fanoutd/subscription/SinkCredential$Type") }, accessFlags := 1, code := some k9c2 }
def k9c3 : Code := { maxStack := 1, maxLocals := 1, code := prog_36_method_7_code, exceptionTable := #[], attributes := #[] }
def k9m3 : Method := { name := "identifier", desc := "()Ljava/lang/String;", sig := { parameters := [], returnType := some (.object "java/lang/String") }, accessFlags := 1, code := some k9c3 }
def k9c4 : Code := { maxStack := 1, maxLocals := 1, code := prog_36_method_8_code, exceptionTable := #[], attributes := #[] }
def k9m4 : Method := { name := "secret", desc := "()Ljava/lang/String;", sig := { parameters := [], returnType := some (.object "java/lang/String") }, accessFlags := 1, code := some k9c4 }
def k9c5 : Code := { maxStack := 1, maxLocals := 1, code := prog_36_method_9_code, exceptionTable := #[], attributes := #[] }
def k9m5 : Method := { name := "accessToken", desc := "()Ljava/lang/String;", sig := { parameters := [], returnType := some (.object "java/lang/String") }, accessFlags := 1, code := some k9c5 }
def k9c6 : Code := { maxStack := 1, maxLocals := 1, code := prog_36_method_10_code, exceptionTable := #[], attributes := #[] }
def k9m6 : Method := { name := "accessTokenType", desc := "()Ljava/lang/String;", sig := { parameters := [], returnType := some (.object "java/lang/String") }, accessFlags := 1, code := some k9c6 }
def k9c7 : Code := { maxStack := 1, maxLocals := 1, code := prog_36_method_11_code, exceptionTable := #[], attributes := #[] }
def k9m7 : Method := { name := "accessTokenExpires", desc := "()Ljava/time/Instant;", sig := { parameters := [], returnType := some (.object "java/time/Instant") }, accessFlags := 1, code := some k9c7 }
def k9c8 : Code := { maxStack := 1, maxLocals := 1, code := prog_36_method_12_code, exceptionTable := #[], attributes := #[] }
def k9m8 : Method := { name := "refreshToken", desc := "()Ljava/lang/String;", sig := { parameters := [], returnType := some (.object "java/lang/String") }, accessFlags := 1, code := some k9c8 }
def k9c9 : Code := { maxStack := 1, maxLocals := 1, code := prog_36_method_13_code, exceptionTable := #[], attributes := #[] }
def k9m9 : Method := { name := "refreshTokenEndpoint", desc := "()Ljava/net/URI;", sig := { parameters := [], returnType := some (.object "java/net/URI") }, accessFlags := 1, code := some k9c9 }
/-- com/example/fanoutd/fanoutd/subscription/SinkCredential -/
def k9 : Class := { plain "com/example/fanoutd/fanoutd/subscription/SinkCredential" (some 0) with
  accessFlags := 49
  interfaces := #[]
  cf := some (fileOf pool9 8 #[.nestMembers #[38]] #[{ accessFlags := 2, nameIndex := 5, descriptorIndex := 54, attributes := #[] }, { accessFlags := 9, nameIndex := 109, descriptorIndex := 110, attributes := #[] }, { accessFlags := 1, nameIndex := 11, descriptorIndex := 115, attributes := #[] }, { accessFlags := 1, nameIndex := 15, descriptorIndex := 116, attributes := #[] }, { accessFlags := 1, nameIndex := 19, descriptorIndex := 116, attributes := #[] }, { accessFlags := 1, nameIndex := 22, descriptorIndex := 116, attributes := #[] }, { accessFlags := 1, nameIndex := 25, descriptorIndex := 116, attributes := #[] }, { accessFlags := 1, nameIndex := 28, descriptorIndex := 117, attributes := #[] }, { accessFlags := 1, nameIndex := 32, descriptorIndex := 116, attributes := #[] }, { accessFlags := 1, nameIndex := 35, descriptorIndex := 118, attributes := #[] }] 49 2 #[] #[{ accessFlags := 25, nameIndex := 103, descriptorIndex := 16, attributes := #[] }, { accessFlags := 25, nameIndex := 97, descriptorIndex := 29, attributes := #[] }, { accessFlags := 25, nameIndex := 102, descriptorIndex := 29, attributes := #[] }, { accessFlags := 18, nameIndex := 11, descriptorIndex := 12, attributes := #[] }, { accessFlags := 18, nameIndex := 15, descriptorIndex := 16, attributes := #[] }, { accessFlags := 18, nameIndex := 19, descriptorIndex := 16, attributes := #[] }, { accessFlags := 18, nameIndex := 22, descriptorIndex := 16, attributes := #[] }, { accessFlags := 18, nameIndex := 25, descriptorIndex := 16, attributes := #[] }, { accessFlags := 18, nameIndex := 28, descriptorIndex := 29, attributes := #[] }, { accessFlags := 18, nameIndex := 32, descriptorIndex := 16, attributes := #[] }, { accessFlags := 18, nameIndex := 35, descriptorIndex := 36, attributes := #[] }])
  fields := #[{ name := "DEFAULT_TOKEN_TYPE", type := (.object "java/lang/String"), accessFlags := 25, slot := 0, constantValue := 0 }, { name := "LATEST_EXPIRY", type := (.object "java/time/Instant"), accessFlags := 25, slot := 1, constantValue := 0 }, { name := "EARLIEST_EXPIRY", type := (.object "java/time/Instant"), accessFlags := 25, slot := 2, constantValue := 0 }, { name := "type", type := (.object "com/example/fanoutd/fanoutd/subscription/SinkCredential$Type"), accessFlags := 18, slot := 0, constantValue := 0 }, { name := "identifier", type := (.object "java/lang/String"), accessFlags := 18, slot := 1, constantValue := 0 }, { name := "secret", type := (.object "java/lang/String"), accessFlags := 18, slot := 2, constantValue := 0 }, { name := "accessToken", type := (.object "java/lang/String"), accessFlags := 18, slot := 3, constantValue := 0 }, { name := "accessTokenType", type := (.object "java/lang/String"), accessFlags := 18, slot := 4, constantValue := 0 }, { name := "accessTokenExpires", type := (.object "java/time/Instant"), accessFlags := 18, slot := 5, constantValue := 0 }, { name := "refreshToken", type := (.object "java/lang/String"), accessFlags := 18, slot := 6, constantValue := 0 }, { name := "refreshTokenEndpoint", type := (.object "java/net/URI"), accessFlags := 18, slot := 7, constantValue := 0 }]
  methods := #[k9m0, k9m1, k9m2, k9m3, k9m4, k9m5, k9m6, k9m7, k9m8, k9m9]
  instanceTypes := #[(.object "com/example/fanoutd/fanoutd/subscription/SinkCredential$Type"), (.object "java/lang/String"), (.object "java/lang/String"), (.object "java/lang/String"), (.object "java/lang/String"), (.object "java/time/Instant"), (.object "java/lang/String"), (.object "java/net/URI")]
  staticTypes := #[(.object "java/lang/String"), (.object "java/time/Instant"), (.object "java/time/Instant")]
  resolved := Array.replicate 139 none
  statics := none }

def pool10 : Array CpInfo := pool [(2, .class_ 4), (1, u "java/lang/Enum"), (0, u "name"), (0, u "Ljava/lang/String;"), (2, u "ordinal"), (0, u "I"), (1, .class_ 14), (1, u "java/lang/Object"), (4, u "hash"), (86, .class_ 108), (1, u "java/lang/Enum$EnumDesc"), (2, .class_ 112), (0, u "java/lang/constant/Constable"), (0, .class_ 114), (0, u "java/lang/Comparable"), (0, .class_ 116), (0, u "java/io/Serializable")] 87

/-- java/lang/Enum -/
def k10 : Class := { plain "java/lang/Enum" (some 0) with
  accessFlags := 1057
  interfaces := #[5, 3, 2]
  cf := some (fileOf pool10 2 #[.nestMembers #[106]] #[] 1057 12 #[111, 113, 115] #[{ accessFlags := 18, nameIndex := 5, descriptorIndex := 6, attributes := #[] }, { accessFlags := 18, nameIndex := 9, descriptorIndex := 10, attributes := #[] }, { accessFlags := 2, nameIndex := 19, descriptorIndex := 10, attributes := #[] }])
  fields := #[{ name := "name", type := (.object "java/lang/String"), accessFlags := 18, slot := 0, constantValue := 0 }, { name := "ordinal", type := .int, accessFlags := 18, slot := 1, constantValue := 0 }, { name := "hash", type := .int, accessFlags := 2, slot := 2, constantValue := 0 }]
  methods := #[]
  instanceTypes := #[(.object "java/lang/String"), .int, .int]
  staticTypes := #[]
  resolved := Array.replicate 204 none
  statics := none }

def pool11 : Array CpInfo := pool [(1, .class_ 2), (0, u "com/example/fanoutd/fanoutd/subscription/SinkCredential$Type"), (2, u "PLAIN"), (0, u "Lcom/example/fanoutd/fanoutd/subscription/SinkCredential$Type;"), (2, u "ACCESSTOKEN"), (2, u "REFRESHTOKEN"), (2, u "$VALUES"), (0, u "[Lcom/example/fanoutd/fanoutd/subscription/SinkCredential$Type;"), (6, .class_ 25), (1, u "java/lang/Enum"), (26, .class_ 53), (0, u "com/example/fanoutd/fanoutd/subscription/SinkCredential")] 2

/-- com/example/fanoutd/fanoutd/subscription/SinkCredential$Type -/
def k11 : Class := { plain "com/example/fanoutd/fanoutd/subscription/SinkCredential$Type" (some 10) with
  accessFlags := 16433
  interfaces := #[]
  cf := some (fileOf pool11 1 #[.nestHost 52] #[] 16433 23 #[] #[{ accessFlags := 16409, nameIndex := 5, descriptorIndex := 6, attributes := #[] }, { accessFlags := 16409, nameIndex := 9, descriptorIndex := 6, attributes := #[] }, { accessFlags := 16409, nameIndex := 12, descriptorIndex := 6, attributes := #[] }, { accessFlags := 4122, nameIndex := 15, descriptorIndex := 16, attributes := #[] }])
  fields := #[{ name := "PLAIN", type := (.object "com/example/fanoutd/fanoutd/subscription/SinkCredential$Type"), accessFlags := 16409, slot := 0, constantValue := 0 }, { name := "ACCESSTOKEN", type := (.object "com/example/fanoutd/fanoutd/subscription/SinkCredential$Type"), accessFlags := 16409, slot := 1, constantValue := 0 }, { name := "REFRESHTOKEN", type := (.object "com/example/fanoutd/fanoutd/subscription/SinkCredential$Type"), accessFlags := 16409, slot := 2, constantValue := 0 }, { name := "$VALUES", type := (.array (.object "com/example/fanoutd/fanoutd/subscription/SinkCredential$Type")), accessFlags := 4122, slot := 3, constantValue := 0 }]
  methods := #[]
  instanceTypes := #[(.object "java/lang/String"), .int, .int]
  staticTypes := #[(.object "com/example/fanoutd/fanoutd/subscription/SinkCredential$Type"), (.object "com/example/fanoutd/fanoutd/subscription/SinkCredential$Type"), (.object "com/example/fanoutd/fanoutd/subscription/SinkCredential$Type"), (.array (.object "com/example/fanoutd/fanoutd/subscription/SinkCredential$Type"))]
  resolved := Array.replicate 56 none
  statics := some 1 }

def pool12 : Array CpInfo := pool [(2, .class_ 4), (1, u "java/lang/Object"), (0, u "<init>"), (0, u "()V"), (35, .class_ 44), (1, u "java/util/Objects"), (0, u "requireNonNull"), (48, u "(Ljava/lang/Object;Ljava/lang/String;)Ljava/lang/Object;")] 89

def k12m0 : Method := { name := "<init>", desc := "()V", sig := { parameters := [], returnType := none }, accessFlags := 2, code := none }
def k12c1 : Code := { maxStack := 3, maxLocals := 2, code := jdk_31_method_11_code, exceptionTable := #[], attributes := #[] }
def k12m1 : Method := { name := "requireNonNull", desc := "(Ljava/lang/Object;Ljava/lang/String;)Ljava/lang/Object;", sig := { parameters := [(.object "java/lang/Object"), (.object "java/lang/String")], returnType := some (.object "java/lang/Object") }, accessFlags := 9, code := some k12c1 }
/-- java/util/Objects -/
def k12 : Class := { plain "java/util/Objects" (some 0) with
  accessFlags := 49
  interfaces := #[]
  cf := some (fileOf pool12 42 #[] #[{ accessFlags := 2, nameIndex := 5, descriptorIndex := 6, attributes := #[] }, { accessFlags := 9, nameIndex := 45, descriptorIndex := 94, attributes := #[] }] 49 2 #[] #[])
  fields := #[]
  methods := #[k12m0, k12m1]
  instanceTypes := #[]
  staticTypes := #[]
  resolved := Array.replicate 184 none
  statics := none }

def pool13 : Array CpInfo := pool [(1, .class_ 2), (0, u "java/lang/String"), (1, .class_ 6), (1, u "java/lang/Object"), (0, u "<init>"), (0, u "()V"), (0, .methodref 1 10), (0, .nameAndType 11 12), (0, u "checkIndex"), (0, u "(II)V"), (1, .class_ 16), (1, u "java/lang/StringLatin1"), (36, u "([BI)C"), (67, u "$assertionsDisabled"), (0, u "Z"), (98, .class_ 223), (1, u "java/lang/StringLatin1$LinesSpliterator"), (28, u "charAt"), (137, .class_ 391), (0, u "java/lang/StringLatin1$CharsSpliterator")] 3

def k13m0 : Method := { name := "<init>", desc := "()V", sig := { parameters := [], returnType := none }, accessFlags := 0, code := none }
def k13c1 : Code := { maxStack := 2, maxLocals := 2, code := jdk_43_method_2_code, exceptionTable := #[], attributes := #[] }
def k13m1 : Method := { name := "charAt", desc := "([BI)C", sig := { parameters := [(.array .byte), .int], returnType := some .char }, accessFlags := 9, code := some k13c1 }
/-- java/lang/StringLatin1 -/
def k13 : Class := { plain "java/lang/StringLatin1" (some 0) with
  accessFlags := 48
  interfaces := #[]
  cf := some (fileOf pool13 14 #[.nestMembers #[390, 221]] #[{ accessFlags := 0, nameIndex := 7, descriptorIndex := 8, attributes := #[] }, { accessFlags := 9, nameIndex := 252, descriptorIndex := 53, attributes := #[] }] 48 4 #[] #[{ accessFlags := 4120, nameIndex := 121, descriptorIndex := 122, attributes := #[] }])
  fields := #[{ name := "$assertionsDisabled", type := .boolean, accessFlags := 4120, slot := 0, constantValue := 0 }]
  methods := #[k13m0, k13m1]
  instanceTypes := #[]
  staticTypes := #[.boolean]
  resolved := Array.replicate 395 none
  statics := none }

def pool14 : Array CpInfo := pool [(2, .class_ 4), (1, u "java/lang/Object"), (0, u "<init>"), (0, u "()V"), (17, .class_ 26), (1, u "jdk/internal/util/Preconditions"), (6, u "checkIndex"), (21, .class_ 56), (0, u "jdk/internal/util/Preconditions$4"), (57, .class_ 115), (0, u "jdk/internal/util/Preconditions$1"), (7, u "SIOOBE_FORMATTER"), (0, u "Ljava/util/function/BiFunction;"), (0, .class_ 126), (0, u "jdk/internal/util/Preconditions$2"), (3, u "AIOOBE_FORMATTER"), (0, .class_ 132), (0, u "jdk/internal/util/Preconditions$3"), (3, u "IOOBE_FORMATTER"), (41, u "(IILjava/util/function/BiFunction;)I")] 15

def k14m0 : Method := { name := "<init>", desc := "()V", sig := { parameters := [], returnType := none }, accessFlags := 1, code := none }
def k14c1 : Code := { maxStack := 3, maxLocals := 3, code := jdk_41_method_11_code, exceptionTable := #[], attributes := #[] }
def k14m1 : Method := { name := "checkIndex", desc := "(IILjava/util/function/BiFunction;)I", sig := { parameters := [.int, .int, (.object "java/util/function/BiFunction")], returnType := some .int }, accessFlags := 9, code := some k14c1 }
/-- jdk/internal/util/Preconditions -/
def k14 : Class := { plain "jdk/internal/util/Preconditions" (some 0) with
  accessFlags := 33
  interfaces := #[]
  cf := some (fileOf pool14 24 #[.nestMembers #[55, 131, 125, 114]] #[{ accessFlags := 1, nameIndex := 5, descriptorIndex := 6, attributes := #[] }, { accessFlags := 9, nameIndex := 33, descriptorIndex := 178, attributes := #[] }] 33 2 #[] #[{ accessFlags := 25, nameIndex := 123, descriptorIndex := 124, attributes := #[] }, { accessFlags := 25, nameIndex := 130, descriptorIndex := 124, attributes := #[] }, { accessFlags := 25, nameIndex := 136, descriptorIndex := 124, attributes := #[] }])
  fields := #[{ name := "SIOOBE_FORMATTER", type := (.object "java/util/function/BiFunction"), accessFlags := 25, slot := 0, constantValue := 0 }, { name := "AIOOBE_FORMATTER", type := (.object "java/util/function/BiFunction"), accessFlags := 25, slot := 1, constantValue := 0 }, { name := "IOOBE_FORMATTER", type := (.object "java/util/function/BiFunction"), accessFlags := 25, slot := 2, constantValue := 0 }]
  methods := #[k14m0, k14m1]
  instanceTypes := #[]
  staticTypes := #[(.object "java/util/function/BiFunction"), (.object "java/util/function/BiFunction"), (.object "java/util/function/BiFunction")]
  resolved := Array.replicate 194 none
  statics := some 2 }

def pool15 : Array CpInfo := pool [(9, u "<init>"), (6, .class_ 18), (1, u "java/lang/Object"), (0, u "()V"), (1, .class_ 23), (1, u "jdk/internal/util/ArraysSupport"), (0, u "LOG2_ARRAY_LONG_INDEX_SCALE"), (0, u "I"), (2, u "U"), (0, u "Ljdk/internal/misc/Unsafe;"), (8, u "BIG_ENDIAN"), (0, u "Z"), (8, u "LOG2_BYTE_BIT_SIZE"), (4, u "LOG2_ARRAY_INT_INDEX_SCALE"), (54, u "JLA"), (0, u "Ljdk/internal/access/JavaLangAccess;"), (11, u "LOG2_ARRAY_BOOLEAN_INDEX_SCALE"), (9, u "LOG2_ARRAY_BYTE_INDEX_SCALE"), (5, u "LOG2_ARRAY_CHAR_INDEX_SCALE"), (5, u "LOG2_ARRAY_SHORT_INDEX_SCALE"), (18, u "LOG2_ARRAY_FLOAT_INDEX_SCALE"), (24, u "LOG2_ARRAY_DOUBLE_INDEX_SCALE"), (89, u "T_BOOLEAN"), (2, u "T_CHAR"), (1, u "T_FLOAT"), (1, u "T_DOUBLE"), (1, u "T_BYTE"), (1, u "T_SHORT"), (1, u "T_INT"), (1, u "T_LONG"), (1, u "SOFT_MAX_ARRAY_LENGTH")] 83

def k15m0 : Method := { name := "<init>", desc := "()V", sig := { parameters := [], returnType := none }, accessFlags := 2, code := none }
/-- jdk/internal/util/ArraysSupport -/
def k15 : Class := { plain "jdk/internal/util/ArraysSupport" (some 0) with
  accessFlags := 33
  interfaces := #[]
  cf := some (fileOf pool15 21 #[] #[{ accessFlags := 2, nameIndex := 9, descriptorIndex := 19, attributes := #[] }] 33 16 #[] #[{ accessFlags := 24, nameIndex := 28, descriptorIndex := 29, attributes := #[] }, { accessFlags := 26, nameIndex := 38, descriptorIndex := 39, attributes := #[] }, { accessFlags := 25, nameIndex := 121, descriptorIndex := 25, attributes := #[] }, { accessFlags := 25, nameIndex := 131, descriptorIndex := 25, attributes := #[] }, { accessFlags := 25, nameIndex := 137, descriptorIndex := 25, attributes := #[] }, { accessFlags := 25, nameIndex := 143, descriptorIndex := 25, attributes := #[] }, { accessFlags := 25, nameIndex := 53, descriptorIndex := 25, attributes := #[] }, { accessFlags := 25, nameIndex := 24, descriptorIndex := 25, attributes := #[] }, { accessFlags := 25, nameIndex := 162, descriptorIndex := 25, attributes := #[] }, { accessFlags := 25, nameIndex := 187, descriptorIndex := 25, attributes := #[] }, { accessFlags := 26, nameIndex := 48, descriptorIndex := 25, attributes := #[] }, { accessFlags := 25, nameIndex := 277, descriptorIndex := 25, attributes := #[] }, { accessFlags := 25, nameIndex := 280, descriptorIndex := 25, attributes := #[] }, { accessFlags := 25, nameIndex := 282, descriptorIndex := 25, attributes := #[] }, { accessFlags := 25, nameIndex := 284, descriptorIndex := 25, attributes := #[] }, { accessFlags := 25, nameIndex := 286, descriptorIndex := 25, attributes := #[] }, { accessFlags := 25, nameIndex := 288, descriptorIndex := 25, attributes := #[] }, { accessFlags := 25, nameIndex := 290, descriptorIndex := 25, attributes := #[] }, { accessFlags := 25, nameIndex := 292, descriptorIndex := 25, attributes := #[] }, { accessFlags := 26, nameIndex := 108, descriptorIndex := 109, attributes := #[] }, { accessFlags := 25, nameIndex := 294, descriptorIndex := 25, attributes := #[] }])
  fields := #[{ name := "U", type := (.object "jdk/internal/misc/Unsafe"), accessFlags := 24, slot := 0, constantValue := 0 }, { name := "BIG_ENDIAN", type := .boolean, accessFlags := 26, slot := 1, constantValue := 0 }, { name := "LOG2_ARRAY_BOOLEAN_INDEX_SCALE", type := .int, accessFlags := 25, slot := 2, constantValue := 0 }, { name := "LOG2_ARRAY_BYTE_INDEX_SCALE", type := .int, accessFlags := 25, slot := 3, constantValue := 0 }, { name := "LOG2_ARRAY_CHAR_INDEX_SCALE", type := .int, accessFlags := 25, slot := 4, constantValue := 0 }, { name := "LOG2_ARRAY_SHORT_INDEX_SCALE", type := .int, accessFlags := 25, slot := 5, constantValue := 0 }, { name := "LOG2_ARRAY_INT_INDEX_SCALE", type := .int, accessFlags := 25, slot := 6, constantValue := 0 }, { name := "LOG2_ARRAY_LONG_INDEX_SCALE", type := .int, accessFlags := 25, slot := 7, constantValue := 0 }, { name := "LOG2_ARRAY_FLOAT_INDEX_SCALE", type := .int, accessFlags := 25, slot := 8, constantValue := 0 }, { name := "LOG2_ARRAY_DOUBLE_INDEX_SCALE", type := .int, accessFlags := 25, slot := 9, constantValue := 0 }, { name := "LOG2_BYTE_BIT_SIZE", type := .int, accessFlags := 26, slot := 10, constantValue := 0 }, { name := "T_BOOLEAN", type := .int, accessFlags := 25, slot := 11, constantValue := 0 }, { name := "T_CHAR", type := .int, accessFlags := 25, slot := 12, constantValue := 0 }, { name := "T_FLOAT", type := .int, accessFlags := 25, slot := 13, constantValue := 0 }, { name := "T_DOUBLE", type := .int, accessFlags := 25, slot := 14, constantValue := 0 }, { name := "T_BYTE", type := .int, accessFlags := 25, slot := 15, constantValue := 0 }, { name := "T_SHORT", type := .int, accessFlags := 25, slot := 16, constantValue := 0 }, { name := "T_INT", type := .int, accessFlags := 25, slot := 17, constantValue := 0 }, { name := "T_LONG", type := .int, accessFlags := 25, slot := 18, constantValue := 0 }, { name := "JLA", type := (.object "jdk/internal/access/JavaLangAccess"), accessFlags := 26, slot := 19, constantValue := 0 }, { name := "SOFT_MAX_ARRAY_LENGTH", type := .int, accessFlags := 25, slot := 20, constantValue := 0 }]
  methods := #[k15m0]
  instanceTypes := #[]
  staticTypes := #[(.object "jdk/internal/misc/Unsafe"), .boolean, .int, .int, .int, .int, .int, .int, .int, .int, .int, .int, .int, .int, .int, .int, .int, .int, .int, (.object "jdk/internal/access/JavaLangAccess"), .int]
  resolved := Array.replicate 378 none
  statics := none }

def pool16 : Array CpInfo := pool [(1, u "java/lang/Cloneable"), (0, .class_ 1), (0, u "java/lang/Object"), (0, .class_ 3)] 3

/-- java/lang/Cloneable -/
def k16 : Class := { plain "java/lang/Cloneable" (some 0) with
  accessFlags := 1537
  interfaces := #[]
  cf := some (fileOf pool16 2 #[] #[] 1537 4 #[] #[])
  fields := #[]
  methods := #[]
  instanceTypes := #[]
  staticTypes := #[]
  resolved := Array.replicate 8 none
  statics := none }

/-- the primitive byte -/
def k17 : Class := { plain "byte" none with kind := .primitive 'B', accessFlags := 0x411 }
/-- [B -/
def k18 : Class := { plain "[B" (some 0) with kind := .array 17 .byte, interfaces := #[16, 2], accessFlags := 1041 }

/-- the primitive char -/
def k19 : Class := { plain "char" none with kind := .primitive 'C', accessFlags := 0x411 }
/-- [C -/
def k20 : Class := { plain "[C" (some 0) with kind := .array 19 .char, interfaces := #[16, 2], accessFlags := 1041 }

/-- the primitive int -/
def k21 : Class := { plain "int" none with kind := .primitive 'I', accessFlags := 0x411 }
/-- [I -/
def k22 : Class := { plain "[I" (some 0) with kind := .array 21 .int, interfaces := #[16, 2], accessFlags := 1041 }

def heap : Heap := #[{ cls := 7, slots := #[.long 0, .int 1, .null, .int 0, .null, .int 0, .int 0], vm := .statics 7 },
  { cls := 11, slots := #[.ref 3, .null, .null, .null], vm := .statics 11 },
  { cls := 14, slots := #[.null, .null, .null], vm := .statics 14 },
  { cls := 11, slots := #[.null, .int 0, .int 0], vm := .none }]
def classes : Array Class := #[k0, k1, k2, k3, k4, k5, k6, k7, k8, k9, k10, k11, k12, k13, k14, k15, k16, k17, k18, k19, k20, k21, k22]
def interned : List (Array UInt16 × Addr) := []
def slotsUsed : Nat := 17
def theMethod : MethodId := ⟨1, 3⟩
def args0 : Array Value := #[.int 5, .int 65, .int 6]
def aboutOver (below : List Frame) : State where
  vm := { classes := classes, interned := interned.toArray }
  heap := heap
  slotsUsed := slotsUsed
  threads := #[{ frames := .invoking theMethod args0 :: below }]
def below0 : List Frame := [.native { method := ⟨0, 0⟩, args := #[] }]
def about1 : State := aboutOver below0
def p0 : Program := .bare "" "" ""
def e0 : Env := launch0.env 0 0 0
theorem w_frames : about1.frames = Frame.invoking theMethod args0 :: below0 := rfl
set_option maxRecDepth 65536 in
theorem w_args : argsFit about1.vm theMethod args0 = true := by decide +kernel
set_option maxRecDepth 65536 in
theorem w_heap : heapFits about1 = true := by decide +kernel
set_option maxRecDepth 65536 in
theorem w_runnable : about1.curStatus? = some .runnable := by decide +kernel
set_option maxRecDepth 65536 in
theorem w_alone : about1.alone = true := by decide +kernel
set_option maxRecDepth 65536 in
theorem w_named : about1.methodNamed? x = some theMethod := by decide +kernel
set_option maxRecDepth 65536 in
theorem w_hears : about1.hears theMethod below0 = true := by decide +kernel
set_option maxRecDepth 65536 in
theorem w_ripe : about1.ripe theMethod args0 below0 = true := by decide +kernel
theorem w_running : about1.status = .running := rfl
set_option maxRecDepth 65536 in
theorem w_room : about1.hasRoom e0.platform room_1 = true :=
  launch0.hasRoom_least _ room_1 (by decide +kernel) (by decide +kernel) (by decide +kernel) (by decide +kernel) (by decide +kernel) (by decide +kernel)
theorem allAtoms_all (ts : List Jvm.Cond) (a : Array Jvm.Value) (st : Jvm.State) : (allAtoms ts).before a st = ts.all (fun c => c.before a st) := by
  induction ts with
  | nil => rfl
  | cons c t ih =>
    show (Jvm.Cond.and c (allAtoms t)).before a st = _
    rw [Jvm.Cond.before_and, ih, List.all_cons]
def words1 : List Jvm.Cond := Jvm.Cond.code x code maxLocals ret :: tables_1
/-- a 'code' word, met by the world's own term for the bytes: nothing is compared byte by byte -/
theorem code_word {y : MethodName} {bytes : ByteArray} {mx : Nat} {rt : Option FieldType} {a : Array Value} {s : State} {m : MethodId} {meth : Method} {c : Code} (h1 : s.methodNamed? y = some m) (h2 : s.vm.method? m = some meth) (h3 : meth.code = some c) (h4 : c.code = bytes)
    (h5 : (c.maxLocals == mx && c.exceptionTable.isEmpty && decide (c.maxStack ≤ mostOperands) && decide (meth.sig.returnType = rt) && !meth.locks && decide (parseMethodDescriptor y.desc = some meth.sig)) = true) : (Jvm.Cond.code y bytes mx rt).before a s = true := by
  simp only [Bool.and_eq_true, beq_iff_eq, Bool.not_eq_true', decide_eq_true_eq] at h5
  obtain ⟨⟨⟨⟨⟨g1, g2⟩, g3⟩, g4⟩, g5⟩, g6⟩ := h5
  simp [Cond.before, Cond.holds, Cond.value, h1, h2, h3, h4, g1, g2, g3, g4, g5, g6]
def isCode : Jvm.Cond → Bool
  | .code _ _ _ _ => true
  | _ => false
theorem all_split {L : List Jvm.Cond} {P : Jvm.Cond → Bool} (h1 : L.all (fun c => isCode c || P c) = true) (h2 : ∀ c ∈ L.filter isCode, P c = true) : L.all P = true := by
  refine List.all_eq_true.mpr fun c hc => ?_
  have h := List.all_eq_true.mp h1 c hc
  rcases Bool.eq_false_or_eq_true (isCode c) with hi | hi
  · exact h2 c (List.mem_filter.mpr ⟨hc, hi⟩)
  · simpa [hi] using h
set_option maxRecDepth 65536 in
theorem w_c0 : (Jvm.Cond.code x code maxLocals ret).before args0 about1 = true := code_word (m := ⟨1, 3⟩) (meth := k1m3) (c := k1c3) (by decide +kernel) rfl rfl rfl (by decide +kernel)
set_option maxRecDepth 65536 in
theorem w_c1 : (Jvm.Cond.code ({ cls := "com/example/fanoutd/fanoutd/subscription/SinkCredentialPlainPinLaw", name := "mk", desc := "(II)Ljava/lang/String;" } : Jvm.MethodName) method_2_code (5 : Nat) (Option.some (Jvm.ClassFile.FieldType.object "java/lang/String"))).before args0 about1 = true := code_word (m := ⟨1, 1⟩) (meth := k1m1) (c := k1c1) (by decide +kernel) rfl rfl rfl (by decide +kernel)
set_option maxRecDepth 65536 in
theorem w_c2 : (Jvm.Cond.code ({ cls := "java/lang/String", name := "<init>", desc := "([C)V" } : Jvm.MethodName) jdk_42_method_3_code (2 : Nat) (Option.none : Option Jvm.ClassFile.FieldType)).before args0 about1 = true := code_word (m := ⟨7, 1⟩) (meth := k7m1) (c := k7c1) (by decide +kernel) rfl rfl rfl (by decide +kernel)
set_option maxRecDepth 65536 in
theorem w_c3 : (Jvm.Cond.code ({ cls := "java/lang/String", name := "<init>", desc := "([CIILjava/lang/Void;)V" } : Jvm.MethodName) jdk_42_method_149_code (6 : Nat) (Option.none : Option Jvm.ClassFile.FieldType)).before args0 about1 = true := code_word (m := ⟨7, 4⟩) (meth := k7m4) (c := k7c4) (by decide +kernel) rfl rfl rfl (by decide +kernel)
set_option maxRecDepth 65536 in
theorem w_c4 : (Jvm.Cond.code ({ cls := "java/lang/Object", name := "<init>", desc := "()V" } : Jvm.MethodName) object_method_1_code (1 : Nat) (Option.none : Option Jvm.ClassFile.FieldType)).before args0 about1 = true := code_word (m := ⟨0, 0⟩) (meth := k0m0) (c := k0c0) (by decide +kernel) rfl rfl rfl (by decide +kernel)
set_option maxRecDepth 65536 in
theorem w_c5 : (Jvm.Cond.code ({ cls := "java/lang/StringUTF16", name := "compress", desc := "([CII)[B" } : Jvm.MethodName) jdk_52_method_16_code (6 : Nat) (Option.some (Jvm.ClassFile.FieldType.array Jvm.ClassFile.FieldType.byte))).before args0 about1 = true := code_word (m := ⟨8, 2⟩) (meth := k8m2) (c := k8c2) (by decide +kernel) rfl rfl rfl (by decide +kernel)
set_option maxRecDepth 65536 in
theorem w_c6 : (Jvm.Cond.code ({ cls := "java/lang/StringUTF16", name := "compress", desc := "([CI[BII)I" } : Jvm.MethodName) jdk_52_method_21_code (7 : Nat) (Option.some Jvm.ClassFile.FieldType.int)).before args0 about1 = true := code_word (m := ⟨8, 3⟩) (meth := k8m3) (c := k8c3) (by decide +kernel) rfl rfl rfl (by decide +kernel)
set_option maxRecDepth 65536 in
theorem w_c7 : (Jvm.Cond.code ({ cls := "java/lang/StringUTF16", name := "coderFromArrayLen", desc := "([BI)B" } : Jvm.MethodName) jdk_52_method_15_code (2 : Nat) (Option.some Jvm.ClassFile.FieldType.byte)).before args0 about1 = true := code_word (m := ⟨8, 1⟩) (meth := k8m1) (c := k8c1) (by decide +kernel) rfl rfl rfl (by decide +kernel)
set_option maxRecDepth 65536 in
theorem w_c8 : (Jvm.Cond.code ({ cls := "com/example/fanoutd/fanoutd/subscription/SinkCredential", name := "plain", desc := "(Ljava/lang/String;Ljava/lang/String;)Lcom/example/fanoutd/fanoutd/subscription/SinkCredential;" } : Jvm.MethodName) prog_36_method_2_code (2 : Nat) (Option.some (Jvm.ClassFile.FieldType.object "com/example/fanoutd/fanoutd/subscription/SinkCredential"))).before args0 about1 = true := code_word (m := ⟨9, 1⟩) (meth := k9m1) (c := k9c1) (by decide +kernel) rfl rfl rfl (by decide +kernel)
set_option maxRecDepth 65536 in
theorem w_c9 : (Jvm.Cond.code ({ cls := "java/util/Objects", name := "requireNonNull", desc := "(Ljava/lang/Object;Ljava/lang/String;)Ljava/lang/Object;" } : Jvm.MethodName) jdk_31_method_11_code (2 : Nat) (Option.some (Jvm.ClassFile.FieldType.object "java/lang/Object"))).before args0 about1 = true := code_word (m := ⟨12, 1⟩) (meth := k12m1) (c := k12c1) (by decide +kernel) rfl rfl rfl (by decide +kernel)
set_option maxRecDepth 65536 in
theorem w_c10 : (Jvm.Cond.code ({ cls := "com/example/fanoutd/fanoutd/subscription/SinkCredential", name := "<init>", desc := "(Lcom/example/fanoutd/fanoutd/subscription/SinkCredential$Type;Ljava/lang/String;Ljava/lang/String;Ljava/lang/String;Ljava/lang/String;Ljava/time/Instant;Ljava/lang/String;Ljava/net/URI;)V" } : Jvm.MethodName) prog_36_method_1_code (9 : Nat) (Option.none : Option Jvm.ClassFile.FieldType)).before args0 about1 = true := code_word (m := ⟨9, 0⟩) (meth := k9m0) (c := k9c0) (by decide +kernel) rfl rfl rfl (by decide +kernel)
set_option maxRecDepth 65536 in
theorem w_c11 : (Jvm.Cond.code ({ cls := "com/example/fanoutd/fanoutd/subscription/SinkCredential", name := "type", desc := "()Lcom/example/fanoutd/fanoutd/subscription/SinkCredential$Type;" } : Jvm.MethodName) prog_36_method_6_code (1 : Nat) (Option.some (Jvm.ClassFile.FieldType.object "com/example/fanoutd/fanoutd/subscription/SinkCredential$Type"))).before args0 about1 = true := code_word (m := ⟨9, 2⟩) (meth := k9m2) (c := k9c2) (by decide +kernel) rfl rfl rfl (by decide +kernel)
set_option maxRecDepth 65536 in
theorem w_c12 : (Jvm.Cond.code ({ cls := "com/example/fanoutd/fanoutd/subscription/SinkCredential", name := "identifier", desc := "()Ljava/lang/String;" } : Jvm.MethodName) prog_36_method_7_code (1 : Nat) (Option.some (Jvm.ClassFile.FieldType.object "java/lang/String"))).before args0 about1 = true := code_word (m := ⟨9, 3⟩) (meth := k9m3) (c := k9c3) (by decide +kernel) rfl rfl rfl (by decide +kernel)
set_option maxRecDepth 65536 in
theorem w_c13 : (Jvm.Cond.code ({ cls := "com/example/fanoutd/fanoutd/subscription/SinkCredentialPlainPinLaw", name := "matches", desc := "(Ljava/lang/String;II)Z" } : Jvm.MethodName) method_3_code (3 : Nat) (Option.some Jvm.ClassFile.FieldType.boolean)).before args0 about1 = true := code_word (m := ⟨1, 2⟩) (meth := k1m2) (c := k1c2) (by decide +kernel) rfl rfl rfl (by decide +kernel)
set_option maxRecDepth 65536 in
theorem w_c14 : (Jvm.Cond.code ({ cls := "java/lang/String", name := "length", desc := "()I" } : Jvm.MethodName) jdk_42_method_54_code (1 : Nat) (Option.some Jvm.ClassFile.FieldType.int)).before args0 about1 = true := code_word (m := ⟨7, 2⟩) (meth := k7m2) (c := k7c2) (by decide +kernel) rfl rfl rfl (by decide +kernel)
set_option maxRecDepth 65536 in
theorem w_c15 : (Jvm.Cond.code ({ cls := "java/lang/String", name := "coder", desc := "()B" } : Jvm.MethodName) jdk_42_method_152_code (1 : Nat) (Option.some Jvm.ClassFile.FieldType.byte)).before args0 about1 = true := code_word (m := ⟨7, 5⟩) (meth := k7m5) (c := k7c5) (by decide +kernel) rfl rfl rfl (by decide +kernel)
set_option maxRecDepth 65536 in
theorem w_c16 : (Jvm.Cond.code ({ cls := "java/lang/String", name := "charAt", desc := "(I)C" } : Jvm.MethodName) jdk_42_method_56_code (2 : Nat) (Option.some Jvm.ClassFile.FieldType.char)).before args0 about1 = true := code_word (m := ⟨7, 3⟩) (meth := k7m3) (c := k7c3) (by decide +kernel) rfl rfl rfl (by decide +kernel)
set_option maxRecDepth 65536 in
theorem w_c17 : (Jvm.Cond.code ({ cls := "java/lang/String", name := "isLatin1", desc := "()Z" } : Jvm.MethodName) jdk_42_method_154_code (1 : Nat) (Option.some Jvm.ClassFile.FieldType.boolean)).before args0 about1 = true := code_word (m := ⟨7, 6⟩) (meth := k7m6) (c := k7c6) (by decide +kernel) rfl rfl rfl (by decide +kernel)
set_option maxRecDepth 65536 in
theorem w_c18 : (Jvm.Cond.code ({ cls := "java/lang/StringLatin1", name := "charAt", desc := "([BI)C" } : Jvm.MethodName) jdk_43_method_2_code (2 : Nat) (Option.some Jvm.ClassFile.FieldType.char)).before args0 about1 = true := code_word (m := ⟨13, 1⟩) (meth := k13m1) (c := k13c1) (by decide +kernel) rfl rfl rfl (by decide +kernel)
set_option maxRecDepth 65536 in
theorem w_c19 : (Jvm.Cond.code ({ cls := "java/lang/String", name := "checkIndex", desc := "(II)V" } : Jvm.MethodName) jdk_42_method_155_code (2 : Nat) (Option.none : Option Jvm.ClassFile.FieldType)).before args0 about1 = true := code_word (m := ⟨7, 7⟩) (meth := k7m7) (c := k7c7) (by decide +kernel) rfl rfl rfl (by decide +kernel)
set_option maxRecDepth 65536 in
theorem w_c20 : (Jvm.Cond.code ({ cls := "jdk/internal/util/Preconditions", name := "checkIndex", desc := "(IILjava/util/function/BiFunction;)I" } : Jvm.MethodName) jdk_41_method_11_code (3 : Nat) (Option.some Jvm.ClassFile.FieldType.int)).before args0 about1 = true := code_word (m := ⟨14, 1⟩) (meth := k14m1) (c := k14c1) (by decide +kernel) rfl rfl rfl (by decide +kernel)
set_option maxRecDepth 65536 in
theorem w_c21 : (Jvm.Cond.code ({ cls := "com/example/fanoutd/fanoutd/subscription/SinkCredential", name := "secret", desc := "()Ljava/lang/String;" } : Jvm.MethodName) prog_36_method_8_code (1 : Nat) (Option.some (Jvm.ClassFile.FieldType.object "java/lang/String"))).before args0 about1 = true := code_word (m := ⟨9, 4⟩) (meth := k9m4) (c := k9c4) (by decide +kernel) rfl rfl rfl (by decide +kernel)
set_option maxRecDepth 65536 in
theorem w_c22 : (Jvm.Cond.code ({ cls := "com/example/fanoutd/fanoutd/subscription/SinkCredential", name := "accessToken", desc := "()Ljava/lang/String;" } : Jvm.MethodName) prog_36_method_9_code (1 : Nat) (Option.some (Jvm.ClassFile.FieldType.object "java/lang/String"))).before args0 about1 = true := code_word (m := ⟨9, 5⟩) (meth := k9m5) (c := k9c5) (by decide +kernel) rfl rfl rfl (by decide +kernel)
set_option maxRecDepth 65536 in
theorem w_c23 : (Jvm.Cond.code ({ cls := "com/example/fanoutd/fanoutd/subscription/SinkCredential", name := "accessTokenType", desc := "()Ljava/lang/String;" } : Jvm.MethodName) prog_36_method_10_code (1 : Nat) (Option.some (Jvm.ClassFile.FieldType.object "java/lang/String"))).before args0 about1 = true := code_word (m := ⟨9, 6⟩) (meth := k9m6) (c := k9c6) (by decide +kernel) rfl rfl rfl (by decide +kernel)
set_option maxRecDepth 65536 in
theorem w_c24 : (Jvm.Cond.code ({ cls := "com/example/fanoutd/fanoutd/subscription/SinkCredential", name := "accessTokenExpires", desc := "()Ljava/time/Instant;" } : Jvm.MethodName) prog_36_method_11_code (1 : Nat) (Option.some (Jvm.ClassFile.FieldType.object "java/time/Instant"))).before args0 about1 = true := code_word (m := ⟨9, 7⟩) (meth := k9m7) (c := k9c7) (by decide +kernel) rfl rfl rfl (by decide +kernel)
set_option maxRecDepth 65536 in
theorem w_c25 : (Jvm.Cond.code ({ cls := "com/example/fanoutd/fanoutd/subscription/SinkCredential", name := "refreshToken", desc := "()Ljava/lang/String;" } : Jvm.MethodName) prog_36_method_12_code (1 : Nat) (Option.some (Jvm.ClassFile.FieldType.object "java/lang/String"))).before args0 about1 = true := code_word (m := ⟨9, 8⟩) (meth := k9m8) (c := k9c8) (by decide +kernel) rfl rfl rfl (by decide +kernel)
set_option maxRecDepth 65536 in
theorem w_c26 : (Jvm.Cond.code ({ cls := "com/example/fanoutd/fanoutd/subscription/SinkCredential", name := "refreshTokenEndpoint", desc := "()Ljava/net/URI;" } : Jvm.MethodName) prog_36_method_13_code (1 : Nat) (Option.some (Jvm.ClassFile.FieldType.object "java/net/URI"))).before args0 about1 = true := code_word (m := ⟨9, 9⟩) (meth := k9m9) (c := k9c9) (by decide +kernel) rfl rfl rfl (by decide +kernel)
def codes1 : List Jvm.Cond := [Jvm.Cond.code x code maxLocals ret, Jvm.Cond.code ({ cls := "com/example/fanoutd/fanoutd/subscription/SinkCredentialPlainPinLaw", name := "mk", desc := "(II)Ljava/lang/String;" } : Jvm.MethodName) method_2_code (5 : Nat) (Option.some (Jvm.ClassFile.FieldType.object "java/lang/String")), Jvm.Cond.code ({ cls := "java/lang/String", name := "<init>", desc := "([C)V" } : Jvm.MethodName) jdk_42_method_3_code (2 : Nat) (Option.none : Option Jvm.ClassFile.FieldType), Jvm.Cond.code ({ cls := "java/lang/String", name := "<init>", desc := "([CIILjava/lang/Void;)V" } : Jvm.MethodName) jdk_42_method_149_code (6 : Nat) (Option.none : Option Jvm.ClassFile.FieldType), Jvm.Cond.code ({ cls := "java/lang/Object", name := "<init>", desc := "()V" } : Jvm.MethodName) object_method_1_code (1 : Nat) (Option.none : Option Jvm.ClassFile.FieldType), Jvm.Cond.code ({ cls := "java/lang/StringUTF16", name := "compress", desc := "([CII)[B" } : Jvm.MethodName) jdk_52_method_16_code (6 : Nat) (Option.some (Jvm.ClassFile.FieldType.array Jvm.ClassFile.FieldType.byte)), Jvm.Cond.code ({ cls := "java/lang/StringUTF16", name := "compress", desc := "([CI[BII)I" } : Jvm.MethodName) jdk_52_method_21_code (7 : Nat) (Option.some Jvm.ClassFile.FieldType.int), Jvm.Cond.code ({ cls := "java/lang/StringUTF16", name := "coderFromArrayLen", desc := "([BI)B" } : Jvm.MethodName) jdk_52_method_15_code (2 : Nat) (Option.some Jvm.ClassFile.FieldType.byte), Jvm.Cond.code ({ cls := "com/example/fanoutd/fanoutd/subscription/SinkCredential", name := "plain", desc := "(Ljava/lang/String;Ljava/lang/String;)Lcom/example/fanoutd/fanoutd/subscription/SinkCredential;" } : Jvm.MethodName) prog_36_method_2_code (2 : Nat) (Option.some (Jvm.ClassFile.FieldType.object "com/example/fanoutd/fanoutd/subscription/SinkCredential")), Jvm.Cond.code ({ cls := "java/util/Objects", name := "requireNonNull", desc := "(Ljava/lang/Object;Ljava/lang/String;)Ljava/lang/Object;" } : Jvm.MethodName) jdk_31_method_11_code (2 : Nat) (Option.some (Jvm.ClassFile.FieldType.object "java/lang/Object")), Jvm.Cond.code ({ cls := "com/example/fanoutd/fanoutd/subscription/SinkCredential", name := "<init>", desc := "(Lcom/example/fanoutd/fanoutd/subscription/SinkCredential$Type;Ljava/lang/String;Ljava/lang/String;Ljava/lang/String;Ljava/lang/String;Ljava/time/Instant;Ljava/lang/String;Ljava/net/URI;)V" } : Jvm.MethodName) prog_36_method_1_code (9 : Nat) (Option.none : Option Jvm.ClassFile.FieldType), Jvm.Cond.code ({ cls := "com/example/fanoutd/fanoutd/subscription/SinkCredential", name := "type", desc := "()Lcom/example/fanoutd/fanoutd/subscription/SinkCredential$Type;" } : Jvm.MethodName) prog_36_method_6_code (1 : Nat) (Option.some (Jvm.ClassFile.FieldType.object "com/example/fanoutd/fanoutd/subscription/SinkCredential$Type")), Jvm.Cond.code ({ cls := "com/example/fanoutd/fanoutd/subscription/SinkCredential", name := "identifier", desc := "()Ljava/lang/String;" } : Jvm.MethodName) prog_36_method_7_code (1 : Nat) (Option.some (Jvm.ClassFile.FieldType.object "java/lang/String")), Jvm.Cond.code ({ cls := "com/example/fanoutd/fanoutd/subscription/SinkCredentialPlainPinLaw", name := "matches", desc := "(Ljava/lang/String;II)Z" } : Jvm.MethodName) method_3_code (3 : Nat) (Option.some Jvm.ClassFile.FieldType.boolean), Jvm.Cond.code ({ cls := "java/lang/String", name := "length", desc := "()I" } : Jvm.MethodName) jdk_42_method_54_code (1 : Nat) (Option.some Jvm.ClassFile.FieldType.int), Jvm.Cond.code ({ cls := "java/lang/String", name := "coder", desc := "()B" } : Jvm.MethodName) jdk_42_method_152_code (1 : Nat) (Option.some Jvm.ClassFile.FieldType.byte), Jvm.Cond.code ({ cls := "java/lang/String", name := "charAt", desc := "(I)C" } : Jvm.MethodName) jdk_42_method_56_code (2 : Nat) (Option.some Jvm.ClassFile.FieldType.char), Jvm.Cond.code ({ cls := "java/lang/String", name := "isLatin1", desc := "()Z" } : Jvm.MethodName) jdk_42_method_154_code (1 : Nat) (Option.some Jvm.ClassFile.FieldType.boolean), Jvm.Cond.code ({ cls := "java/lang/StringLatin1", name := "charAt", desc := "([BI)C" } : Jvm.MethodName) jdk_43_method_2_code (2 : Nat) (Option.some Jvm.ClassFile.FieldType.char), Jvm.Cond.code ({ cls := "java/lang/String", name := "checkIndex", desc := "(II)V" } : Jvm.MethodName) jdk_42_method_155_code (2 : Nat) (Option.none : Option Jvm.ClassFile.FieldType), Jvm.Cond.code ({ cls := "jdk/internal/util/Preconditions", name := "checkIndex", desc := "(IILjava/util/function/BiFunction;)I" } : Jvm.MethodName) jdk_41_method_11_code (3 : Nat) (Option.some Jvm.ClassFile.FieldType.int), Jvm.Cond.code ({ cls := "com/example/fanoutd/fanoutd/subscription/SinkCredential", name := "secret", desc := "()Ljava/lang/String;" } : Jvm.MethodName) prog_36_method_8_code (1 : Nat) (Option.some (Jvm.ClassFile.FieldType.object "java/lang/String")), Jvm.Cond.code ({ cls := "com/example/fanoutd/fanoutd/subscription/SinkCredential", name := "accessToken", desc := "()Ljava/lang/String;" } : Jvm.MethodName) prog_36_method_9_code (1 : Nat) (Option.some (Jvm.ClassFile.FieldType.object "java/lang/String")), Jvm.Cond.code ({ cls := "com/example/fanoutd/fanoutd/subscription/SinkCredential", name := "accessTokenType", desc := "()Ljava/lang/String;" } : Jvm.MethodName) prog_36_method_10_code (1 : Nat) (Option.some (Jvm.ClassFile.FieldType.object "java/lang/String")), Jvm.Cond.code ({ cls := "com/example/fanoutd/fanoutd/subscription/SinkCredential", name := "accessTokenExpires", desc := "()Ljava/time/Instant;" } : Jvm.MethodName) prog_36_method_11_code (1 : Nat) (Option.some (Jvm.ClassFile.FieldType.object "java/time/Instant")), Jvm.Cond.code ({ cls := "com/example/fanoutd/fanoutd/subscription/SinkCredential", name := "refreshToken", desc := "()Ljava/lang/String;" } : Jvm.MethodName) prog_36_method_12_code (1 : Nat) (Option.some (Jvm.ClassFile.FieldType.object "java/lang/String")), Jvm.Cond.code ({ cls := "com/example/fanoutd/fanoutd/subscription/SinkCredential", name := "refreshTokenEndpoint", desc := "()Ljava/net/URI;" } : Jvm.MethodName) prog_36_method_13_code (1 : Nat) (Option.some (Jvm.ClassFile.FieldType.object "java/net/URI"))]
set_option maxRecDepth 65536 in
theorem codes_eq : words1.filter isCode = codes1 := rfl
theorem w_codes : ∀ c ∈ words1.filter isCode, c.before args0 about1 = true := by
  rw [codes_eq]
  intro c hc
  simp only [codes1, List.mem_cons, List.not_mem_nil, or_false] at hc
  rcases hc with rfl | rfl | rfl | rfl | rfl | rfl | rfl | rfl | rfl | rfl | rfl | rfl | rfl | rfl | rfl | rfl | rfl | rfl | rfl | rfl | rfl | rfl | rfl | rfl | rfl | rfl | rfl
  · exact w_c0
  · exact w_c1
  · exact w_c2
  · exact w_c3
  · exact w_c4
  · exact w_c5
  · exact w_c6
  · exact w_c7
  · exact w_c8
  · exact w_c9
  · exact w_c10
  · exact w_c11
  · exact w_c12
  · exact w_c13
  · exact w_c14
  · exact w_c15
  · exact w_c16
  · exact w_c17
  · exact w_c18
  · exact w_c19
  · exact w_c20
  · exact w_c21
  · exact w_c22
  · exact w_c23
  · exact w_c24
  · exact w_c25
  · exact w_c26
set_option maxRecDepth 65536 in
theorem w_t1 : (words1.take 24).all (fun c => isCode c || c.before args0 about1) = true := by decide +kernel
set_option maxRecDepth 65536 in
theorem w_t2 : ((words1.drop 24).take 24).all (fun c => isCode c || c.before args0 about1) = true := by decide +kernel
set_option maxRecDepth 65536 in
theorem w_t3 : (((words1.drop 24).drop 24).take 24).all (fun c => isCode c || c.before args0 about1) = true := by decide +kernel
set_option maxRecDepth 65536 in
theorem w_t4 : ((((words1.drop 24).drop 24).drop 24).take 24).all (fun c => isCode c || c.before args0 about1) = true := by decide +kernel
set_option maxRecDepth 65536 in
theorem w_t5 : (((((words1.drop 24).drop 24).drop 24).drop 24).take 24).all (fun c => isCode c || c.before args0 about1) = true := by decide +kernel
set_option maxRecDepth 65536 in
theorem w_t6 : ((((((words1.drop 24).drop 24).drop 24).drop 24).drop 24).take 24).all (fun c => isCode c || c.before args0 about1) = true := by decide +kernel
set_option maxRecDepth 65536 in
theorem w_t7 : ((((((words1.drop 24).drop 24).drop 24).drop 24).drop 24).drop 24).all (fun c => isCode c || c.before args0 about1) = true := by decide +kernel
theorem w_tables : (allAtoms (Jvm.Cond.code x code maxLocals ret :: tables_1)).before args0 about1 = true := by
  rw [allAtoms_all]
  show words1.all (fun c => c.before args0 about1) = true
  refine all_split ?_ w_codes
  rw [← List.take_append_drop 24 words1, List.all_append, w_t1, ← List.take_append_drop 24 (words1.drop 24), List.all_append, w_t2, ← List.take_append_drop 24 ((words1.drop 24).drop 24), List.all_append, w_t3, ← List.take_append_drop 24 (((words1.drop 24).drop 24).drop 24), List.all_append, w_t4, ← List.take_append_drop 24 ((((words1.drop 24).drop 24).drop 24).drop 24), List.all_append, w_t5, ← List.take_append_drop 24 (((((words1.drop 24).drop 24).drop 24).drop 24).drop 24), List.all_append, w_t6, w_t7]
  rfl
set_option maxRecDepth 65536 in
theorem w_rest : rest_1_c.before args0 about1 = true := by decide +kernel
set_option maxRecDepth 65536 in
theorem w_case : (Jvm.Cond.and given_1 narrow_1).before args0 about1 = true := by decide +kernel
set_option maxRecDepth 65536 in
theorem w_consts : constsHeld consts_1 about1 := Jvm.Lit.constsHeldB_iff.mp (by decide +kernel)
theorem w_applies : (headSpec (Jvm.Cond.code x code maxLocals ret :: tables_1) room_1).applies x e0.platform about1 = true :=
  (Spec.applies_iff w_frames).mpr ⟨w_running, w_runnable, w_alone, w_named, w_hears, w_ripe, w_room, w_tables⟩
theorem atStart : AtStart classFile x code maxLocals ret World_1 tables_1 room_1 Calls_1 rest_1 Pre_1 launch0 p0 e0 about1 theMethod args0 below0 :=
  ⟨lists_1, trivial, launch0.admits_env _ _ _, launch0.least_env, fairChoices_fair.cas, fairChoices_fair.clock, w_frames, w_args, w_heap, w_applies, ⟨w_consts, trivial⟩, w_rest, w_case⟩
end start1
theorem witness_1 : WitnessClaimed_1 := ⟨start1.p0, start1.e0, start1.about1, start1.theMethod, start1.args0, start1.below0, start1.atStart⟩
end Jvm.Pilot.@@N@@
