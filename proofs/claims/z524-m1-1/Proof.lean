import JvmDerived
import JvmDerived.Pilot.@@N@@Statement
import JvmDerived.Pilot.@@N@@Code
set_option linter.unusedVariables false
set_option linter.unusedSimpArgs false
namespace Jvm.Pilot.@@N@@
open Jvm Jvm.ClassFile Sem Op Lib Jvm.Free Jvm.Stand Jvm.LawKit Jvm.RoadKit Bundle Jvm.Pilot.@@N@@.Jvm.D
section OwnKit
variable {p : Program} {l : Launch} {e : Env} {R : Room} {s : State} {m : MethodId} {args : Array Value} {below : List Frame} {meth : Method} {c : Code} {T T' : State} {cells slots : Nat} {Z : State} {a0 : Array Value} {EL : List (String × Nat)} {vm0 : Vm} {h h' : Heap} {own : String} {n0 : Nat} {Q : Outcome → State → Prop} {g g' : JFrame}
/-- from this frame the run comes to an end of which Q holds -/
def Go (p : Program) (e : Env) (below : List Frame) (Q : Outcome → State → Prop) (T : State) (g : JFrame) : Prop :=
  ∃ s₂ o, Steps p.tables e below (T.setTop g) s₂ ∧ s₂.status = .running ∧ Ended s₂ below o ∧ Q o s₂
theorem Go.st (st : ∀ t, Steps p.tables e below (T'.setTop g') t → Steps p.tables e below (T.setTop g) t) (k : Go p e below Q T' g') : Go p e below Q T g := by
  obtain ⟨s₂, o, h1, h2⟩ := k
  exact ⟨s₂, o, st _ h1, h2⟩
theorem Go.tr (st : Steps p.tables e below (T.setTop g) (T'.setTop g')) (k : Go p e below Q T' g') : Go p e below Q T g := by
  obtain ⟨s₂, o, h1, h2⟩ := k
  exact ⟨s₂, o, st.trans h1, h2⟩
theorem own_ne {x y : Nat} (h : ¬ @Eq Nat x y) : @Ne Addr x y := h
theorem own_nn {x y : Addr} (h : x ≠ y) : ¬ @Eq Nat x y := h
theorem own_cat {v : Value} (h : v.isRef = true) : v.category = 1 := by cases v <;> simp [Value.isRef] at h <;> rfl
theorem own_catI (x : Int32) : (Value.int x).category = 1 := rfl
theorem own_catJ (x : Int64) : (Value.long x).category = 2 := rfl
theorem own_catD (x : UInt64) : (Value.double x).category = 2 := rfl
theorem own_catA (x : Addr) : (Value.ref x).category = 1 := rfl
theorem own_catN : Value.null.category = 1 := rfl
theorem own_safe0 {vm : Vm} {x : Addr} (hE : EL = []) : Safe Z EL vm h x := fun B => by
  obtain ⟨q, hq, -⟩ := B
  rw [hE] at hq; cases hq
/-- where the walk stands -/
def Wk (p : Program) (l : Launch) (e : Env) (R : Room) (s : State) (m : MethodId) (args : Array Value) (below : List Frame) (meth : Method) (c : Code) (Z : State) (EL : List (String × Nat)) (own : String) (n0 : Nat) (vm0 : Vm) (T : State) (h : Heap) (cells slots : Nat) : Prop :=
  ∃ (locs : List Loc) (k0 : Nat), Stand p l e R (s.setVm vm0) m args below meth c T locs cells slots ∧ T.heap = h ∧ s.Since vm0 k0 ∧ k0 ≤ h.size ∧ Z.Warmed39 vm0 ∧ vm0.findClass own = some m.cls ∧ CHr Z EL s.vm s.heap vm0 h ∧ Fr n0 locs ∧ Old Z n0 h ∧ True
theorem Wk.here (W : Wk p l e R s m args below meth c Z EL own n0 vm0 T h cells slots) : At T m c below := by
  obtain ⟨locs, k0, X, eT, hS, hk, hZ, hown, hC, N, O, hKK⟩ := W
  exact X.here
theorem Wk.warm (W : Wk p l e R s m args below meth c Z EL own n0 vm0 T h cells slots) : Z.Warmed39 vm0 := by
  obtain ⟨locs, k0, X, eT, hS, hk, hZ, hown, hC, N, O, hKK⟩ := W
  exact hZ
theorem Wk.warmS (W : Wk p l e R s m args below meth c Z EL own n0 vm0 T h cells slots) : Z.Warmed39 (s.setVm vm0).vm := by
  obtain ⟨locs, k0, X, eT, hS, hk, hZ, hown, hC, N, O, hKK⟩ := W
  exact hZ
theorem Wk.old (W : Wk p l e R s m args below meth c Z EL own n0 vm0 T h cells slots) : Old Z n0 h := by
  obtain ⟨locs, k0, X, eT, hS, hk, hZ, hown, hC, N, O, hKK⟩ := W
  exact O
theorem Wk.ge (W : Wk p l e R s m args below meth c Z EL own n0 vm0 T h cells slots) : n0 ≤ h.size := by have q := W.old; exact q.1 ▸ q.2.1
theorem Wk.stand (W : Wk p l e R s m args below meth c Z EL own n0 vm0 T h cells slots) : ∃ locs, Stand p l e R (s.setVm vm0) m args below meth c T locs cells slots := by
  obtain ⟨locs, k0, X, eT, hS, hk, hZ, hown, hC, N, O, hKK⟩ := W
  exact ⟨_, X⟩
theorem Wk.heap (W : Wk p l e R s m args below meth c Z EL own n0 vm0 T h cells slots) : T.heap = h := by
  obtain ⟨locs, k0, X, eT, hS, hk, hZ, hown, hC, N, O, hKK⟩ := W
  exact eT
theorem Wk.owns (W : Wk p l e R s m args below meth c Z EL own n0 vm0 T h cells slots) : (s.setVm vm0).vm.findClass own = some m.cls := by
  obtain ⟨locs, k0, X, eT, hS, hk, hZ, hown, hC, N, O, hKK⟩ := W
  exact hown
theorem Wk.chv (W : Wk p l e R s m args below meth c Z EL own n0 vm0 T h cells slots) : CHv Z EL vm0 h := by
  obtain ⟨locs, k0, X, eT, hS, hk, hZ, hown, hC, N, O, hKK⟩ := W
  exact hC.1
theorem Wk.sta {C n d : String} {v : Value} (W : Wk p l e R s m args below meth c Z EL own n0 vm0 T h cells slots) (S : Sta Z Z.heap C n d v) : Sta Z h C n d v := S.ext W.old.2
theorem Wk.safeArv {x : Addr} {k : ClassId} {ty : FieldType} {z : Int32} {vs : List Value} {d : Value} (W : Wk p l e R s m args below meth c Z EL own n0 vm0 T h cells slots) (A : Arv Z h x k ty z vs d) (ht : ty ≠ .byte) : Safe Z EL vm0 h x := Safe.arv W.warm.alike A ht
theorem Wk.safeExa {x : Addr} {C : String} (W : Wk p l e R s m args below meth c Z EL own n0 vm0 T h cells slots) (E : Exa Z h x C) (h1 : C ≠ "java/lang/String") (h2 : C ≠ "[B") : Safe Z EL vm0 h x := Safe.exa W.warm.alike E h1 h2
theorem Wk.more {cells' slots' : Nat} (W : Wk p l e R s m args below meth c Z EL own n0 vm0 T h cells slots) (h1 : cells ≤ cells') (h2 : slots ≤ slots') : Wk p l e R s m args below meth c Z EL own n0 vm0 T h cells' slots' := by
  obtain ⟨locs, r⟩ := W
  obtain ⟨k0, X, r⟩ := r
  exact ⟨locs, k0, X.more h1 h2, r⟩
theorem Wk.newO (W : Wk p l e R s m args below meth c Z EL own n0 vm0 T h cells slots) (hx : p.tables.exec = Jvm.exec) {C : String} {index n : Nat} (w : (Cond.classLink own index C).before a0 Z = true) (wi : (Cond.instantiable C n).before a0 Z = true) (wz : (Cond.initialized C).before a0 Z = true)
    (hg : g.method = m) (hd : decode c.code g.pc = .ok (.new index, 3)) (hc : cells + 1 ≤ R.cells) (hl : slots + n ≤ R.slots) :
    ∃ T' h' a, a = h.size ∧ Wk p l e R s m args below meth c Z EL own n0 vm0 T' h' (cells + 1) (slots + n) ∧ Ext h h' ∧ h.size < h'.size ∧ Exa Z h' a C ∧ (∀ {O nm d : String} {ty : FieldType}, Laid Z a0 C O nm d → parseFieldDescriptor d = some ty → Fld Z h' a O nm d (defaultValue ty)) ∧ Safe Z EL vm0 h' a ∧ (∀ x, x < h.size → Safe Z EL vm0 h x → Safe Z EL vm0 h' x) ∧ (∃ cell : Cell, h'[a]? = some cell ∧ cell.vm = .none ∧ cell.monitor = {}) ∧
      ∀ target, Steps p.tables e below (T'.setTop { g with pc := g.pc + 3, stack := .ref a :: g.stack }) target → Steps p.tables e below (T.setTop g) target := by
  obtain ⟨locs, k0, X, eT, hS, hk, hZ, hown, hC, N, O, hKK⟩ := W
  obtain ⟨T', h', X', e', E, A, D, U, st⟩ := RoadKit.newO X hx hZ hown w wi wz eT hg hd hc hl
  exact ⟨T', h', h.size, rfl, ⟨_, k0, X', e', hS, Nat.le_trans hk E.1, hZ, hown, hC.trans (CHr.ext E hC.1), N, O.ext E, hKK⟩, E, A.lt, A, D, Safe.ext E hC.1 (Safe.new (Nat.le_refl _)), fun x _ q => Safe.ext E hC.1 q, U, st⟩
theorem Wk.newP (W : Wk p l e R s m args below meth c Z EL own n0 vm0 T h cells slots) (hx : p.tables.exec = Jvm.exec) {aty : ArrayType} {ty : FieldType} (hty : newarray.typeOf aty = ty) (w : (Cond.arrayClass ty).before a0 Z = true)
    (hg : g.method = m) (hd : decode c.code g.pc = .ok (.newarray aty, 2)) {n : Int32} {rest : List Value} (hs : g.stack = .int n :: rest) (hn : ¬ n < 0) {cap : Nat} (hcap : n.toNatClampNeg ≤ cap) (hb : cap * 8 ≤ 536870912) (hc : cells + 1 ≤ R.cells) (hl : slots + cap ≤ R.slots) (NN : Nat) :
    ∃ T' h' a k, a = h.size ∧ Wk p l e R s m args below meth c Z EL own n0 vm0 T' h' (cells + 1) (slots + cap) ∧ Ext h h' ∧ h.size < h'.size ∧ Arv Z h' a k ty n (List.replicate NN (defaultValue ty)) (defaultValue ty) ∧ Safe Z EL vm0 h' a ∧ (∀ x, x < h.size → Safe Z EL vm0 h x → Safe Z EL vm0 h' x) ∧
      ∀ target, Steps p.tables e below (T'.setTop { g with pc := g.pc + 2, stack := .ref a :: rest }) target → Steps p.tables e below (T.setTop g) target := by
  subst hty
  obtain ⟨locs, k0, X, eT, hS, hk, hZ, hown, hC, N, O, hKK⟩ := W
  obtain ⟨T', h', cA, X', e', E, A, st⟩ := RoadKit.newP X hx hZ w eT hg hd hs hn hcap hb hc hl
  exact ⟨T', h', h.size, cA, rfl, ⟨_, k0, X', e', hS, Nat.le_trans hk E.1, hZ, hown, hC.trans (CHr.ext E hC.1), N, O.ext E, hKK⟩, E, A.lt, (Arv.new A hn).pad (pad_rep [] _ NN), Safe.ext E hC.1 (Safe.new (Nat.le_refl _)), fun x _ q => Safe.ext E hC.1 q, st⟩
theorem Wk.stC (W : Wk p l e R s m args below meth c Z EL own n0 vm0 T h cells slots) (hx : p.tables.exec = Jvm.exec) {a : Addr} {k : ClassId} {z j : Int32} {x : Int32} {vs : List Value} {d : Value} (A : Arv Z h a k .char z vs d) (hj : ¬ j < 0 ∧ j < z) (i : Nat) (hi : j.toNatClampNeg = i) (hlen : i < vs.length) (ha : n0 ≤ a)
    (hg : g.method = m) {rest : List Value} (hs : g.stack = .int x :: .int j :: .ref a :: rest) (hd : decode c.code g.pc = .ok (.castore, 1)) :
    ∃ T' h', Wk p l e R s m args below meth c Z EL own n0 vm0 T' h' cells slots ∧ Wr h h' a i (.int (nar .char x)) ∧ h'.size = h.size ∧ Arv Z h' a k .char z (vs.set i (.int (nar .char x))) d ∧ (∀ x, x < h.size → Safe Z EL vm0 h x → Safe Z EL vm0 h' x) ∧
      ∀ target, Steps p.tables e below (T'.setTop { g with pc := g.pc + 1, stack := rest }) target → Steps p.tables e below (T.setTop g) target := by
  have S := W.safeArv A (by decide)
  obtain ⟨locs, k0, X, eT, hS, hk, hZ, hown, hC, N, O, hKK⟩ := W
  obtain ⟨cl, A1, q1, q2, q3, q4, q5⟩ := A
  obtain ⟨T', h', X', e', Wr', st⟩ := RoadKit.stC X hx hZ eT A1 (inb_of q2 hj) hg hs hd
  have Wr2 := Wr'
  rw [hi] at Wr2
  exact ⟨T', h', ⟨_, k0, X', e', hS, (by rw [Wr'.size]; exact hk), hZ, hown, hC.trans (CHr.wr Wr' S hC.1), Fr.snoc X' N ha, O.wr Wr' ha, hKK⟩, Wr2, Wr'.size, Arv.set A1 q1 q2 q3 q4 q5 (fits_nar_char _) Wr' i hi hlen, fun x _ q => Safe.wr Wr' S hC.1 q, st⟩
theorem Wk.stB (W : Wk p l e R s m args below meth c Z EL own n0 vm0 T h cells slots) (hx : p.tables.exec = Jvm.exec) {a : Addr} {k : ClassId} {z j : Int32} {x : Int32} {vs : List Value} {d : Value} (A : Arv Z h a k .byte z vs d) (S : Safe Z EL vm0 h a) (hj : ¬ j < 0 ∧ j < z) (i : Nat) (hi : j.toNatClampNeg = i) (hlen : i < vs.length) (ha : n0 ≤ a)
    (hg : g.method = m) {rest : List Value} (hs : g.stack = .int x :: .int j :: .ref a :: rest) (hd : decode c.code g.pc = .ok (.bastore, 1)) :
    ∃ T' h', Wk p l e R s m args below meth c Z EL own n0 vm0 T' h' cells slots ∧ Wr h h' a i (.int (nar .byte x)) ∧ h'.size = h.size ∧ Arv Z h' a k .byte z (vs.set i (.int (nar .byte x))) d ∧ (∀ x, x < h.size → Safe Z EL vm0 h x → Safe Z EL vm0 h' x) ∧
      ∀ target, Steps p.tables e below (T'.setTop { g with pc := g.pc + 1, stack := rest }) target → Steps p.tables e below (T.setTop g) target := by
  obtain ⟨locs, k0, X, eT, hS, hk, hZ, hown, hC, N, O, hKK⟩ := W
  obtain ⟨cl, A1, q1, q2, q3, q4, q5⟩ := A
  obtain ⟨T', h', X', e', Wr', st⟩ := RoadKit.stB X hx hZ eT A1 (inb_of q2 hj) hg hs hd
  have Wr2 := Wr'
  rw [hi] at Wr2
  exact ⟨T', h', ⟨_, k0, X', e', hS, (by rw [Wr'.size]; exact hk), hZ, hown, hC.trans (CHr.wr Wr' S hC.1), Fr.snoc X' N ha, O.wr Wr' ha, hKK⟩, Wr2, Wr'.size, Arv.set A1 q1 q2 q3 q4 q5 (fits_nar_byte _) Wr' i hi hlen, fun x _ q => Safe.wr Wr' S hC.1 q, st⟩
theorem Wk.stI (W : Wk p l e R s m args below meth c Z EL own n0 vm0 T h cells slots) (hx : p.tables.exec = Jvm.exec) {a : Addr} {k : ClassId} {z j : Int32} {x : Int32} {vs : List Value} {d : Value} (A : Arv Z h a k .int z vs d) (hj : ¬ j < 0 ∧ j < z) (i : Nat) (hi : j.toNatClampNeg = i) (hlen : i < vs.length) (ha : n0 ≤ a)
    (hg : g.method = m) {rest : List Value} (hs : g.stack = .int x :: .int j :: .ref a :: rest) (hd : decode c.code g.pc = .ok (.iastore, 1)) :
    ∃ T' h', Wk p l e R s m args below meth c Z EL own n0 vm0 T' h' cells slots ∧ Wr h h' a i (.int x) ∧ h'.size = h.size ∧ Arv Z h' a k .int z (vs.set i (.int x)) d ∧ (∀ x, x < h.size → Safe Z EL vm0 h x → Safe Z EL vm0 h' x) ∧
      ∀ target, Steps p.tables e below (T'.setTop { g with pc := g.pc + 1, stack := rest }) target → Steps p.tables e below (T.setTop g) target := by
  have S := W.safeArv A (by decide)
  obtain ⟨locs, k0, X, eT, hS, hk, hZ, hown, hC, N, O, hKK⟩ := W
  obtain ⟨cl, A1, q1, q2, q3, q4, q5⟩ := A
  obtain ⟨T', h', X', e', Wr', st⟩ := RoadKit.stI X hx hZ eT A1 (inb_of q2 hj) hg hs hd
  have Wr2 := Wr'
  rw [hi] at Wr2
  exact ⟨T', h', ⟨_, k0, X', e', hS, (by rw [Wr'.size]; exact hk), hZ, hown, hC.trans (CHr.wr Wr' S hC.1), Fr.snoc X' N ha, O.wr Wr' ha, hKK⟩, Wr2, Wr'.size, Arv.set A1 q1 q2 q3 q4 q5 rfl Wr' i hi hlen, fun x _ q => Safe.wr Wr' S hC.1 q, st⟩
theorem Wk.stJ (W : Wk p l e R s m args below meth c Z EL own n0 vm0 T h cells slots) (hx : p.tables.exec = Jvm.exec) {a : Addr} {k : ClassId} {z j : Int32} {x : Int64} {vs : List Value} {d : Value} (A : Arv Z h a k .long z vs d) (hj : ¬ j < 0 ∧ j < z) (i : Nat) (hi : j.toNatClampNeg = i) (hlen : i < vs.length) (ha : n0 ≤ a)
    (hg : g.method = m) {rest : List Value} (hs : g.stack = .long x :: .int j :: .ref a :: rest) (hd : decode c.code g.pc = .ok (.lastore, 1)) :
    ∃ T' h', Wk p l e R s m args below meth c Z EL own n0 vm0 T' h' cells slots ∧ Wr h h' a i (.long x) ∧ h'.size = h.size ∧ Arv Z h' a k .long z (vs.set i (.long x)) d ∧ (∀ x, x < h.size → Safe Z EL vm0 h x → Safe Z EL vm0 h' x) ∧
      ∀ target, Steps p.tables e below (T'.setTop { g with pc := g.pc + 1, stack := rest }) target → Steps p.tables e below (T.setTop g) target := by
  have S := W.safeArv A (by decide)
  obtain ⟨locs, k0, X, eT, hS, hk, hZ, hown, hC, N, O, hKK⟩ := W
  obtain ⟨cl, A1, q1, q2, q3, q4, q5⟩ := A
  obtain ⟨T', h', X', e', Wr', st⟩ := RoadKit.stJ X hx hZ eT A1 (inb_of q2 hj) hg hs hd
  have Wr2 := Wr'
  rw [hi] at Wr2
  exact ⟨T', h', ⟨_, k0, X', e', hS, (by rw [Wr'.size]; exact hk), hZ, hown, hC.trans (CHr.wr Wr' S hC.1), Fr.snoc X' N ha, O.wr Wr' ha, hKK⟩, Wr2, Wr'.size, Arv.set A1 q1 q2 q3 q4 q5 rfl Wr' i hi hlen, fun x _ q => Safe.wr Wr' S hC.1 q, st⟩
theorem Wk.stD (W : Wk p l e R s m args below meth c Z EL own n0 vm0 T h cells slots) (hx : p.tables.exec = Jvm.exec) {a : Addr} {k : ClassId} {z j : Int32} {x : UInt64} {vs : List Value} {d : Value} (A : Arv Z h a k .double z vs d) (hj : ¬ j < 0 ∧ j < z) (i : Nat) (hi : j.toNatClampNeg = i) (hlen : i < vs.length) (ha : n0 ≤ a)
    (hg : g.method = m) {rest : List Value} (hs : g.stack = .double x :: .int j :: .ref a :: rest) (hd : decode c.code g.pc = .ok (.dastore, 1)) :
    ∃ T' h', Wk p l e R s m args below meth c Z EL own n0 vm0 T' h' cells slots ∧ Wr h h' a i (.double x) ∧ h'.size = h.size ∧ Arv Z h' a k .double z (vs.set i (.double x)) d ∧ (∀ x, x < h.size → Safe Z EL vm0 h x → Safe Z EL vm0 h' x) ∧
      ∀ target, Steps p.tables e below (T'.setTop { g with pc := g.pc + 1, stack := rest }) target → Steps p.tables e below (T.setTop g) target := by
  have S := W.safeArv A (by decide)
  obtain ⟨locs, k0, X, eT, hS, hk, hZ, hown, hC, N, O, hKK⟩ := W
  obtain ⟨cl, A1, q1, q2, q3, q4, q5⟩ := A
  obtain ⟨T', h', X', e', Wr', st⟩ := RoadKit.stD X hx hZ eT A1 (inb_of q2 hj) hg hs hd
  have Wr2 := Wr'
  rw [hi] at Wr2
  exact ⟨T', h', ⟨_, k0, X', e', hS, (by rw [Wr'.size]; exact hk), hZ, hown, hC.trans (CHr.wr Wr' S hC.1), Fr.snoc X' N ha, O.wr Wr' ha, hKK⟩, Wr2, Wr'.size, Arv.set A1 q1 q2 q3 q4 q5 rfl Wr' i hi hlen, fun x _ q => Safe.wr Wr' S hC.1 q, st⟩
theorem Wk.putF (W : Wk p l e R s m args below meth c Z EL own n0 vm0 T h cells slots) (hx : p.tables.exec = Jvm.exec) {R0 O n d C : String} {index kk : Nat} {ty : FieldType} (w : (Cond.fieldLink own index R0 n d).before a0 Z = true) (via : Via Z R0 O n d)
    {a : Addr} {v old : Value} (F : Fld Z h a O n d old) (E : Exa Z h a C) (L : (Cond.lays C O n d).before a0 Z = true ∨ ((Cond.laysFinal C O n d).before a0 Z = true ∧ own = O ∧ meth.name = "<init>")) (wi : (Cond.instantiable C kk).before a0 Z = true)
    (hty : parseFieldDescriptor d = some ty) (hn : narrow ty v = v) (hf : fits ty v = true) (S : Safe Z EL vm0 h a) (ha : n0 ≤ a) (hg : g.method = m) {rest : List Value} (hs : g.stack = v :: .ref a :: rest) (hd : decode c.code g.pc = .ok (.putfield index, 3)) :
    ∃ T' h', Wk p l e R s m args below meth c Z EL own n0 vm0 T' h' cells slots ∧ Wr h h' a (RoadKit.slotOf Z O n d) v ∧ h'.size = h.size ∧ Fld Z h' a O n d v ∧ (∀ x, x < h.size → Safe Z EL vm0 h x → Safe Z EL vm0 h' x) ∧
      ∀ target, Steps p.tables e below (T'.setTop { g with pc := g.pc + 3, stack := rest }) target → Steps p.tables e below (T.setTop g) target := by
  obtain ⟨locs, k0, X, eT, hS, hk, hZ, hown, hC, N, O', hKK⟩ := W
  obtain ⟨T', h', X', e', Wr', st⟩ := RoadKit.putF X hx hZ hown (host := "") (Or.inl w) via eT F E L wi hty hn hf hg hs hd
  exact ⟨T', h', ⟨_, k0, X', e', hS, (by rw [Wr'.size]; exact hk), hZ, hown, hC.trans (CHr.wr Wr' S hC.1), Fr.snoc X' N ha, O'.wr Wr' ha, hKK⟩, Wr', Wr'.size, F.same Wr', fun x _ q => Safe.wr Wr' S hC.1 q, st⟩
theorem Wk.getF (W : Wk p l e R s m args below meth c Z EL own n0 vm0 T h cells slots) (hx : p.tables.exec = Jvm.exec) {R0 O n d : String} {index : Nat} (w : (Cond.fieldLink own index R0 n d).before a0 Z = true) (via : Via Z R0 O n d) {a : Addr} {v : Value} (F : Fld Z h a O n d v) (hg : g.method = m) {rest : List Value} (hs : g.stack = .ref a :: rest) (hd : decode c.code g.pc = .ok (.getfield index, 3)) :
    ∃ T', Wk p l e R s m args below meth c Z EL own n0 vm0 T' h cells slots ∧ ∀ target, Steps p.tables e below (T'.setTop { g with pc := g.pc + 3, stack := v :: rest }) target → Steps p.tables e below (T.setTop g) target := by
  obtain ⟨locs, k0, X, eT, hS, hk, hZ, hown, hC, N, O', hKK⟩ := W
  obtain ⟨T', X', e', st⟩ := RoadKit.getF X hx hZ hown (host := "") (Or.inl w) via eT F hg hs hd
  exact ⟨T', ⟨_, k0, X', e', hS, hk, hZ, hown, hC.trans (CHr.refl hC.1), N, O', hKK⟩, st⟩
theorem Wk.getS (W : Wk p l e R s m args below meth c Z EL own n0 vm0 T h cells slots) (hx : p.tables.exec = Jvm.exec) {R0 O n d : String} {index : Nat} (w : (Cond.fieldLink own index R0 n d).before a0 Z = true) (via : Via Z R0 O n d) {v : Value} (F : Sta Z h O n d v) (hg : g.method = m) (hd : decode c.code g.pc = .ok (.getstatic index, 3)) :
    ∃ T', Wk p l e R s m args below meth c Z EL own n0 vm0 T' h cells slots ∧ ∀ target, Steps p.tables e below (T'.setTop { g with pc := g.pc + 3, stack := v :: g.stack }) target → Steps p.tables e below (T.setTop g) target := by
  obtain ⟨locs, k0, X, eT, hS, hk, hZ, hown, hC, N, O', hKK⟩ := W
  obtain ⟨T', X', e', st⟩ := RoadKit.getS (host := "") X hx hZ hown w via eT F hg hd
  exact ⟨T', ⟨_, k0, X', e', hS, hk, hZ, hown, hC.trans (CHr.refl hC.1), N, O', hKK⟩, st⟩
theorem Wk.initO (W : Wk p l e R s m args below meth c Z EL own n0 vm0 T h cells slots) (hx : p.tables.exec = Jvm.exec) {idx : Nat} (w1 : (Cond.methodLink own idx Lib.objectInit).before a0 Z = true) (w2 : (Cond.instanceMethod Lib.objectInit).before a0 Z = true) (w3 : (Cond.code Lib.objectInit ⟨#[0xb1]⟩ 1 none).before a0 Z = true) (hg : g.method = m) (hsize : g.locals.size = c.maxLocals) {a : Addr} {rest : List Value} (hs : g.stack = .ref a :: rest) (hd : decode c.code g.pc = .ok (.invokespecial idx, 3)) (hf : 1 ≤ R.frames) {Wd : Nat} (hW : 2 * g.monitorRoom + (rest.map fun v => v.category).sum ≤ Wd) (hl : Wd + 12 ≤ R.locals) :
    ∃ T', Wk p l e R s m args below meth c Z EL own n0 vm0 T' h cells slots ∧ ∀ target, Steps p.tables e below (T'.setTop { g with pc := g.pc + 3, stack := rest }) target → Steps p.tables e below (T.setTop g) target := by
  obtain ⟨locs, k0, X, eT, hS, hk, hZ, hown, hC, N, O', hKK⟩ := W
  obtain ⟨T', X', e', st⟩ := RoadKit.initO X hx hZ hown w1 w2 w3 eT hg hsize hs hd hf hW hl
  exact ⟨T', ⟨_, k0, X', e', hS, hk, hZ, hown, hC.trans (CHr.refl hC.1), N, O', hKK⟩, st⟩
theorem Wk.cast (W : Wk p l e R s m args below meth c Z EL own n0 vm0 T h cells slots) (hx : p.tables.exec = Jvm.exec) {K : String} {index : Nat} (w : (Cond.classLink own index K).before a0 Z = true) {a : Addr} (F : Ins Z h a K true) (hg : g.method = m) {rest : List Value} (hs : g.stack = .ref a :: rest) (hd : decode c.code g.pc = .ok (.checkcast index, 3)) :
    ∃ T', Wk p l e R s m args below meth c Z EL own n0 vm0 T' h cells slots ∧ ∀ target, Steps p.tables e below (T'.setTop { g with pc := g.pc + 3 }) target → Steps p.tables e below (T.setTop g) target := by
  obtain ⟨locs, k0, X, eT, hS, hk, hZ, hown, hC, N, O', hKK⟩ := W
  obtain ⟨T', X', e', st⟩ := RoadKit.castY X hx hZ hown w eT F hg hs hd
  exact ⟨T', ⟨_, k0, X', e', hS, hk, hZ, hown, hC.trans (CHr.refl hC.1), N, O', hKK⟩, st⟩
theorem Wk.instY (W : Wk p l e R s m args below meth c Z EL own n0 vm0 T h cells slots) (hx : p.tables.exec = Jvm.exec) {K : String} {index : Nat} (w : (Cond.classLink own index K).before a0 Z = true) {a : Addr} (F : Ins Z h a K true) (hg : g.method = m) {rest : List Value} (hs : g.stack = .ref a :: rest) (hd : decode c.code g.pc = .ok (.instanceof index, 3)) :
    ∃ T', Wk p l e R s m args below meth c Z EL own n0 vm0 T' h cells slots ∧ ∀ target, Steps p.tables e below (T'.setTop { g with pc := g.pc + 3, stack := .int 1 :: rest }) target → Steps p.tables e below (T.setTop g) target := by
  obtain ⟨locs, k0, X, eT, hS, hk, hZ, hown, hC, N, O', hKK⟩ := W
  obtain ⟨T', X', e', st⟩ := RoadKit.instY X hx hZ hown w eT F hg hs hd
  exact ⟨T', ⟨_, k0, X', e', hS, hk, hZ, hown, hC.trans (CHr.refl hC.1), N, O', hKK⟩, st⟩
/-- ldc of a String constant of EL, read -/
theorem Wk.ldc (W : Wk p l e R s m args below meth c Z EL own n0 vm0 T h cells slots) (hx : p.tables.exec = Jvm.exec) {index : Nat} {text : String} (w : (Cond.stringLink own index text).before a0 Z = true) (wS : ∀ a ∈ Bundle.stringAtoms, a.before a0 Z = true) (hEL : EW Z a0 EL) (hmem : (own, index) ∈ EL)
    {vs : List Value} {z : Int32} (ht : (∀ c ∈ text.toList, c.toNat < 256) ∧ text.toList.map (fun c => Value.int (Jvm.Lit.byteI c.toNat.toUInt16)) = vs) (hz : ¬ z < 0) (hl : z.toNatClampNeg = vs.length)
    (hg : g.method = m) (hd : decode c.code g.pc = .ok (.ldc index, 2)) {n : Nat} (hn : 4 * text.toList.length ≤ n) (hbig : n ≤ 536870912) (hc : cells + 2 ≤ R.cells) (hl' : slots + (n + 4) ≤ R.slots) :
    ∃ (a : Addr) (vm1 : Vm) (T' : State) (h' : Heap) (b : Addr) (k : ClassId), Wk p l e R s m args below meth c Z EL own n0 vm1 T' h' (cells + 2) (slots + (n + 4)) ∧ Ext h h' ∧
      Exa Z h' a "java/lang/String" ∧ Fld Z h' a "java/lang/String" "coder" "B" (.int 0) ∧ Fld Z h' a "java/lang/String" "value" "[B" (.ref b) ∧ Arv Z h' b k .byte z vs (.int 0) ∧ (∀ x, x < h.size → Safe Z EL vm0 h x → Safe Z EL vm1 h' x) ∧ (∀ x, Safe Z EL vm1 h' x → x ≠ a ∧ x ≠ b) ∧
      ∀ target, Steps p.tables e below (T'.setTop { g with pc := g.pc + 2, stack := .ref a :: g.stack }) target → Steps p.tables e below (T.setTop g) target := by
  obtain ⟨locs, k0, X, eT, hS, hk, hZ, hown, hC, N, O, hKK⟩ := W
  obtain ⟨a, T', h', k1, b, k, X', e', E, hS', hk', hZ', hown', E1, F1, F2, A1, -, -, hR, -, hne, st⟩ := RoadKit.ldcCH X hx hZ hown w wS eT hS hk hEL hmem hC.1 ht hz hl hg hd hn hbig hc hl'
  exact ⟨a, T'.vm, T', h', b, k, ⟨locs, k1, X', e', hS', hk', hZ', hown', hC.trans hR, N, O.ext E, trivial⟩, E, E1, F1, F2, A1, fun x q r => hR.safe q r, hne, st⟩
/-- ldc of a String constant, not read -/
theorem Wk.ldcO (W : Wk p l e R s m args below meth c Z EL own n0 vm0 T h cells slots) (hx : p.tables.exec = Jvm.exec) {index : Nat} {text : String} (w : (Cond.stringLink own index text).before a0 Z = true) (wS : ∀ a ∈ Bundle.stringAtoms, a.before a0 Z = true) (hEL : EW Z a0 EL)
    (hg : g.method = m) (hd : decode c.code g.pc = .ok (.ldc index, 2)) {n : Nat} (hn : 4 * text.toList.length ≤ n) (hbig : n ≤ 536870912) (hc : cells + 2 ≤ R.cells) (hl' : slots + (n + 4) ≤ R.slots) :
    ∃ (a : Addr) (vm1 : Vm) (T' : State) (h' : Heap), Wk p l e R s m args below meth c Z EL own n0 vm1 T' h' (cells + 2) (slots + (n + 4)) ∧ Ext h h' ∧ (∀ x, x < h.size → Safe Z EL vm0 h x → Safe Z EL vm1 h' x) ∧
      ∀ target, Steps p.tables e below (T'.setTop { g with pc := g.pc + 2, stack := .ref a :: g.stack }) target → Steps p.tables e below (T.setTop g) target := by
  obtain ⟨locs, k0, X, eT, hS, hk, hZ, hown, hC, N, O, hKK⟩ := W
  obtain ⟨a, T', h', k1, X', e', E, hS', hk', hZ', hown', hR, -, st⟩ := RoadKit.ldcOH X hx hZ hown w wS eT hS hk hEL hC.1 hg hd hn hbig hc hl'
  exact ⟨a, T'.vm, T', h', ⟨locs, k1, X', e', hS', hk', hZ', hown', hC.trans hR, N, O.ext E, trivial⟩, E, fun x q r => hR.safe q r, st⟩
/-- the contract of a callee -/
def Met (l : Launch) (y : MethodName) (bytes : ByteArray) (maxL : Nat) (ret : Option FieldType) (rm : Room) (Z : State) (EL : List (String × Nat)) (n0 : Nat) (ws : List Jvm.Cond) (as' : Array Value) (h : Heap) (Q : Option Value → Heap → Prop) : Prop :=
  MetFree l y (head1 (Jvm.Cond.code y bytes maxL ret :: ws) rm) (fun a U => a = as' ∧ Z.Warmed39 U.vm ∧ U.heap = h ∧ CHv Z EL U.vm h) (fun _ _ _ _ _ => True) (fun _ U o U' => ∃ v L, o = .returned v ∧ (Q v U'.heap ∧ Fr n0 L ∧ Old Z n0 U'.heap) ∧ CHr Z EL U.vm U.heap U'.vm U'.heap ∧ ReturnedEndW U o U' L rm.cells rm.slots)
/-- the end that a contract asks, as the walk's goal has it -/
def OFin (s : State) (rm : Room) (Z : State) (EL : List (String × Nat)) (n0 : Nat) (Q : Option Value → Heap → Prop) (o : Outcome) (u : State) : Prop := ∃ v L, o = .returned v ∧ (Q v u.heap ∧ Fr n0 L ∧ Old Z n0 u.heap) ∧ CHr Z EL s.vm s.heap u.vm u.heap ∧ ReturnedEndW s o u L rm.cells rm.slots
theorem Met.of {y : MethodName} {bytes : ByteArray} {maxL : Nat} {ret : Option FieldType} {rm : Room} {ws : List Jvm.Cond} {as' : Array Value} {Qb : Option Value → Heap → Prop} (hpl : plainFor y = true) (O : Old Z n0 h)
    (body : ∀ (p : Program) (e : Env) (s : State) (m : MethodId) (below : List Frame) (meth : Method) (c : Code) (T : State), p.tables.exec = Jvm.exec → c.code = bytes → c.maxLocals = maxL → meth.sig.returnType = ret → meth.locks = false → meth.name = y.name → s.heap = h →
      Wk p l e rm s m as' below meth c Z EL y.cls n0 s.vm T h 0 0 → Go p e below (OFin s rm Z EL n0 Qb) T (entryFrame m as' maxL)) :
    Met l y bytes maxL ret rm Z EL n0 ws as' h Qb := by
  refine MetFree.of_bodySF hpl hisR ?_
  intro p e s m args below meth c s₁ Bd hml hP hK
  obtain ⟨rfl, hZ, hh, hC⟩ := hP
  have hown : s.vm.findClass y.cls = some m.cls := findClass_of_methodNamed Bd.named
  have X0 : Stand p l e rm s m args below meth c s₁ [] 0 0 := Stand.of_body Bd
  have e0 : s₁.heap = h := by rw [← hh, Bd.state]; rfl
  refine body p e s m below meth c s₁ Bd.exec Bd.bytes hml Bd.returns Bd.notSynchronized (name_of_methodNamed Bd.named Bd.method).1 hh ?_
  refine ⟨[], 0, X0, e0, (State.WarmedH.refl s).since 0, Nat.zero_le _, hZ, hown, ?_, Fr.nil _, O, trivial⟩
  rw [hh]; exact CHr.refl hC
/-- the end of a walk -/
theorem Wk.fin {rm : Room} {Qb : Option Value → Heap → Prop} (W : Wk p l e R s m args below meth c Z EL own n0 vm0 T h cells slots) (hEL : EW Z a0 EL) (hlk : meth.locks = false) {v : Option Value} (hv : meth.sig.returnType = none → v = none) (hc : cells ≤ rm.cells) (hs : slots ≤ rm.slots) (hq : Qb v h)
    (st : ∀ fs, (∀ (f : JFrame) (acts : List Action), f.method = m → f.locked = none → f.entered = [] → (doReturn e (T.setTop f) acts v).1 = T.setFrames fs) → Steps p.tables e below (T.setTop g) (T.setFrames fs)) : Go p e below (OFin s rm Z EL n0 Qb) T g := by
  obtain ⟨locs, k0, X, eT, hS, hk, hZ, hown, hC, N, O, hKK⟩ := W
  subst eT
  obtain ⟨fs, hr, hrun, hended, hend⟩ := Stand.leaveW X hS hk (v := v) hv hlk
  have hA := CHv.at X hZ hEL hC.1
  refine ⟨T.setFrames fs, .returned v, st fs hr, hrun, hended, v, locs, rfl, ⟨hq, N, O⟩, hC.trans hA, ?_⟩
  obtain ⟨q1, q2, q3, q4⟩ := hend
  exact ⟨q1, q2, q3, q4.mono hc hs⟩
theorem Wk.retN {rm : Room} {Qb : Option Value → Heap → Prop} (W : Wk p l e R s m args below meth c Z EL own n0 vm0 T h cells slots) (hx : p.tables.exec = Jvm.exec) (hEL : EW Z a0 EL) (hlk : meth.locks = false) {pc : Nat} {Ls : Array Slot} {z : Int32} {t : FieldType} {rest : List Value} (hret : meth.sig.returnType = some t) (ht : t = .boolean ∨ t = .byte ∨ t = .char ∨ t = .short)
    (hd : decode c.code pc = .ok (.ireturn, 1)) (hc : cells ≤ rm.cells) (hs : slots ≤ rm.slots) (hq : Qb (some (.int (nar t z))) h) : Go p e below (OFin s rm Z EL n0 Qb) T (mkF m pc Ls (.int z :: rest)) := by
  obtain ⟨locs, X⟩ := W.stand
  exact W.fin hEL hlk (v := some (.int (nar t z))) (fun q => by first | rfl | (rw [hret] at q; cases q)) hc hs hq fun fs hr => RoadKit.retN X hx hret ht hd hr
theorem Wk.retI {rm : Room} {Qb : Option Value → Heap → Prop} (W : Wk p l e R s m args below meth c Z EL own n0 vm0 T h cells slots) (hx : p.tables.exec = Jvm.exec) (hEL : EW Z a0 EL) (hlk : meth.locks = false) {pc : Nat} {Ls : Array Slot} {z : Int32} {rest : List Value} (hret : meth.sig.returnType = some .int)
    (hd : decode c.code pc = .ok (.ireturn, 1)) (hc : cells ≤ rm.cells) (hs : slots ≤ rm.slots) (hq : Qb (some (.int z)) h) : Go p e below (OFin s rm Z EL n0 Qb) T (mkF m pc Ls (.int z :: rest)) := by
  obtain ⟨locs, X⟩ := W.stand
  exact W.fin hEL hlk (v := some (.int z)) (fun q => by first | rfl | (rw [hret] at q; cases q)) hc hs hq fun fs hr => RoadKit.retOut X hx hret rfl (Or.inl ⟨rfl, Or.inl rfl, _, rfl⟩) hd hr
theorem Wk.retJ {rm : Room} {Qb : Option Value → Heap → Prop} (W : Wk p l e R s m args below meth c Z EL own n0 vm0 T h cells slots) (hx : p.tables.exec = Jvm.exec) (hEL : EW Z a0 EL) (hlk : meth.locks = false) {pc : Nat} {Ls : Array Slot} {z : Int64} {rest : List Value} (hret : meth.sig.returnType = some .long)
    (hd : decode c.code pc = .ok (.lreturn, 1)) (hc : cells ≤ rm.cells) (hs : slots ≤ rm.slots) (hq : Qb (some (.long z)) h) : Go p e below (OFin s rm Z EL n0 Qb) T (mkF m pc Ls (.long z :: rest)) := by
  obtain ⟨locs, X⟩ := W.stand
  exact W.fin hEL hlk (v := some (.long z)) (fun q => by first | rfl | (rw [hret] at q; cases q)) hc hs hq fun fs hr => RoadKit.retOut X hx hret rfl (Or.inr (Or.inl ⟨rfl, rfl, _, rfl⟩)) hd hr
theorem Wk.retD {rm : Room} {Qb : Option Value → Heap → Prop} (W : Wk p l e R s m args below meth c Z EL own n0 vm0 T h cells slots) (hx : p.tables.exec = Jvm.exec) (hEL : EW Z a0 EL) (hlk : meth.locks = false) {pc : Nat} {Ls : Array Slot} {z : UInt64} {rest : List Value} (hret : meth.sig.returnType = some .double)
    (hd : decode c.code pc = .ok (.dreturn, 1)) (hc : cells ≤ rm.cells) (hs : slots ≤ rm.slots) (hq : Qb (some (.double z)) h) : Go p e below (OFin s rm Z EL n0 Qb) T (mkF m pc Ls (.double z :: rest)) := by
  obtain ⟨locs, X⟩ := W.stand
  exact W.fin hEL hlk (v := some (.double z)) (fun q => by first | rfl | (rw [hret] at q; cases q)) hc hs hq fun fs hr => RoadKit.retOut X hx hret rfl (Or.inr (Or.inr (Or.inl ⟨rfl, rfl, _, rfl⟩))) hd hr
theorem Wk.retA {rm : Room} {Qb : Option Value → Heap → Prop} (W : Wk p l e R s m args below meth c Z EL own n0 vm0 T h cells slots) (hx : p.tables.exec = Jvm.exec) (hEL : EW Z a0 EL) (hlk : meth.locks = false) {pc : Nat} {Ls : Array Slot} {v : Value} {t : FieldType} {rest : List Value} (hret : meth.sig.returnType = some t) (ht : t.isReference = true) (hn : narrow t v = v) (hv : v.isRef = true)
    (hd : decode c.code pc = .ok (.areturn, 1)) (hc : cells ≤ rm.cells) (hs : slots ≤ rm.slots) (hq : Qb (some v) h) : Go p e below (OFin s rm Z EL n0 Qb) T (mkF m pc Ls (v :: rest)) := by
  obtain ⟨locs, X⟩ := W.stand
  exact W.fin hEL hlk (v := some v) (fun q => by first | rfl | (rw [hret] at q; cases q)) hc hs hq fun fs hr => RoadKit.retOut X hx hret hn (Or.inr (Or.inr (Or.inr (Or.inr ⟨rfl, ht, hv⟩)))) hd hr
theorem Wk.retV {rm : Room} {Qb : Option Value → Heap → Prop} (W : Wk p l e R s m args below meth c Z EL own n0 vm0 T h cells slots) (hx : p.tables.exec = Jvm.exec) (hEL : EW Z a0 EL) (hlk : meth.locks = false) {pc : Nat} {Ls : Array Slot} (hret : meth.sig.returnType = none)
    (hd : decode c.code pc = .ok (.return_, 1)) (hc : cells ≤ rm.cells) (hs : slots ≤ rm.slots) (hq : Qb (none) h) : Go p e below (OFin s rm Z EL n0 Qb) T (mkF m pc Ls []) := by
  obtain ⟨locs, X⟩ := W.stand
  exact W.fin hEL hlk (v := none) (fun q => by first | rfl | (rw [hret] at q; cases q)) hc hs hq fun fs hr => X.returnOut hx hret hd hr
theorem Wk.back {y : MethodName} {rm : Room} {as' : Array Value} {Qb : Option Value → Heap → Prop} {bytes : ByteArray} {maxL : Nat} {ret : Option FieldType} {len Wd : Nat} (W : Wk p l e R s m args below meth c Z EL own n0 vm0 T h cells slots) (hEL : EW Z a0 EL) (hM : Met l y bytes maxL ret rm Z EL n0 [] as' h Qb)
    (wc : (Cond.code y bytes maxL ret).before a0 Z = true) (wz : (Cond.initialized y.cls).before a0 Z = true) (hf : rm.frames + 1 ≤ R.frames) (hl : Wd + (maxL + 11) + rm.locals ≤ R.locals) :
    BackS l R p e below (s.setVm vm0) args y len Wd (fun A a => a = as' ∧ A.U.heap = h ∧ A.cells + rm.cells ≤ R.cells ∧ A.slots + rm.slots ≤ R.slots)
      (fun A _ v B => ∃ L, (Qb v B.U.heap ∧ Fr n0 L ∧ Old Z n0 B.U.heap) ∧ B.locs = A.locs ++ L ∧ B.cells = A.cells + rm.cells ∧ B.slots = A.slots + rm.slots ∧ CHr Z EL vm0 h B.U.vm B.U.heap) :=
  backOfSH (Q := fun v h' L => Qb v h' ∧ Fr n0 L ∧ Old Z n0 h') hM W.warm wc wz hf hl hEL W.chv
theorem Wk.behind {B : Pt} {rm : Room} {Qb : Option Value → Heap → Prop} {v : Option Value} {locs L : List Loc} {k0 : Nat} (hS : s.Since vm0 k0) (hk : k0 ≤ h.size) (hZ : Z.Warmed39 vm0) (hown : vm0.findClass own = some m.cls) (hC : CHr Z EL s.vm s.heap vm0 h) (N : Fr n0 locs) (eT : T.heap = h) (hKK : True)
    (X : Stand p l e R ((s.setVm vm0).setVm B.U.vm) m args below meth c B.U B.locs B.cells B.slots) (h2 : (s.setVm vm0).Since B.U.vm B.U.heap.size) (hg : T.heap.size ≤ B.U.heap.size)
    (hq : Qb v B.U.heap ∧ Fr n0 L ∧ Old Z n0 B.U.heap) (hl : B.locs = locs ++ L) (hc : B.cells = cells + rm.cells) (hs : B.slots = slots + rm.slots) (hR : CHr Z EL vm0 h B.U.vm B.U.heap) :
    Wk p l e R s m args below meth c Z EL own n0 B.U.vm B.U B.U.heap (cells + rm.cells) (slots + rm.slots) := by
  subst eT
  obtain ⟨X', hS', hZ', hown'⟩ := rebS hS hk X h2 hg hZ hown
  exact ⟨B.locs, _, hc ▸ hs ▸ X', rfl, hS', Nat.le_refl _, hZ', hown', hC.trans hR, hl ▸ N.app hq.2.1, hq.2.2, trivial⟩
theorem Wk.callS {y : MethodName} {rm : Room} {as' : Array Value} {Qb : Option Value → Heap → Prop} {bytes : ByteArray} {maxL index : Nat} {ret : Option FieldType} (W : Wk p l e R s m args below meth c Z EL own n0 vm0 T h cells slots) (hx : p.tables.exec = Jvm.exec) (hEL : EW Z a0 EL) (hM : Met l y bytes maxL ret rm Z EL n0 [] as' h Qb)
    (w1 : (Cond.methodLink own index y).before a0 Z = true) (w2 : (Cond.static y).before a0 Z = true) (wz : (Cond.initialized y.cls).before a0 Z = true) (wc : (Cond.code y bytes maxL ret).before a0 Z = true) (hy : y.cls ≠ "java/lang/invoke/MethodHandle" ∧ y.cls ≠ "java/lang/invoke/VarHandle")
    {Wd : Nat} (hf : rm.frames + 1 ≤ R.frames) (hl : Wd + (maxL + 11) + rm.locals ≤ R.locals) (hc : cells + rm.cells ≤ R.cells) (hs : slots + rm.slots ≤ R.slots)
    (hg : g.method = m) (hsize : g.locals.size = c.maxLocals) {argsL rest : List Value} (has : argsL.toArray = as') (hlen : ∀ sig, parseMethodDescriptor y.desc = some sig → argsL.length = sig.parameters.length) (hstack : g.stack = argsL.reverse ++ rest) (hW : 2 * g.monitorRoom + (rest.map fun v => v.category).sum ≤ Wd) (hdg : decode c.code g.pc = .ok (.invokestatic index, 3)) :
    ∃ (v : Option Value) (vm1 : Vm) (T' : State) (h' : Heap), Wk p l e R s m args below meth c Z EL own n0 vm1 T' h' (cells + rm.cells) (slots + rm.slots) ∧ Qb v h' ∧ h.size ≤ h'.size ∧ (∀ x, x < h.size → Safe Z EL vm0 h x → Safe Z EL vm1 h' x) ∧
      Steps p.tables e below (T.setTop g) (T'.setTop { g with pc := g.pc + 3, stack := v.toList ++ rest }) := by
  have hB := W.back (len := 3) (Wd := Wd) hEL hM wc wz hf hl
  obtain ⟨locs, k0, X, eT, hS, hk, hZ, hown, hC, N, O, hKK⟩ := W
  have hZ' : Z.Warmed39 (s.setVm vm0).vm := hZ
  obtain ⟨v, vm1, B, -, X', h2, hgr, ⟨L, hq, q1, q2, q3, q4⟩, st⟩ := RoadKit.callSS X hx hown (mvT hZ' w1) (mvT hZ' w2) (mvT hZ' wz) (mvT hZ' wc) hy hB hg hsize hlen hstack hW hdg (fun _ _ => ⟨has, eT, hc, hs⟩)
  exact ⟨v, B.U.vm, B.U, B.U.heap, Wk.behind hS hk hZ hown hC N eT hKK X' h2 hgr hq q1 q2 q3 q4, hq.1, q4.2.1, fun x q r => q4.safe q r, st⟩
theorem Wk.callI {y : MethodName} {rm : Room} {as' : Array Value} {Qb : Option Value → Heap → Prop} {bytes : ByteArray} {maxL index : Nat} (W : Wk p l e R s m args below meth c Z EL own n0 vm0 T h cells slots) (hx : p.tables.exec = Jvm.exec) (hEL : EW Z a0 EL) (hM : Met l y bytes maxL none rm Z EL n0 [] as' h Qb) (hy1 : y.name = "<init>")
    (w1 : (Cond.methodLink own index y).before a0 Z = true) (w2 : (Cond.instanceMethod y).before a0 Z = true) (wz : (Cond.initialized y.cls).before a0 Z = true) (wc : (Cond.code y bytes maxL none).before a0 Z = true) (hy : y.cls ≠ "java/lang/invoke/MethodHandle" ∧ y.cls ≠ "java/lang/invoke/VarHandle")
    {Wd : Nat} (hf : rm.frames + 1 ≤ R.frames) (hl : Wd + (maxL + 11) + rm.locals ≤ R.locals) (hc : cells + rm.cells ≤ R.cells) (hs : slots + rm.slots ≤ R.slots)
    (hg : g.method = m) (hsize : g.locals.size = c.maxLocals) {a : Addr} {argsL rest : List Value} (has : (.ref a :: argsL).toArray = as') (hlen : ∀ sig, parseMethodDescriptor y.desc = some sig → argsL.length = sig.parameters.length) (hstack : g.stack = argsL.reverse ++ .ref a :: rest) (hW : 2 * g.monitorRoom + (rest.map fun v => v.category).sum ≤ Wd) (hdg : decode c.code g.pc = .ok (.invokespecial index, 3)) :
    ∃ (v : Option Value) (vm1 : Vm) (T' : State) (h' : Heap), Wk p l e R s m args below meth c Z EL own n0 vm1 T' h' (cells + rm.cells) (slots + rm.slots) ∧ Qb v h' ∧ h.size ≤ h'.size ∧ (∀ x, x < h.size → Safe Z EL vm0 h x → Safe Z EL vm1 h' x) ∧
      Steps p.tables e below (T.setTop g) (T'.setTop { g with pc := g.pc + 3, stack := v.toList ++ rest }) := by
  have hB := W.back (len := 3) (Wd := Wd) hEL hM wc wz hf hl
  obtain ⟨locs, k0, X, eT, hS, hk, hZ, hown, hC, N, O, hKK⟩ := W
  have hZ' : Z.Warmed39 (s.setVm vm0).vm := hZ
  obtain ⟨v, vm1, B, -, X', h2, hgr, ⟨L, hq, q1, q2, q3, q4⟩, st⟩ := Stand.specialBackS X hx hy1 hown (mvT hZ' w1) (mvT hZ' w2) (mvT hZ' wc) hy hB hg hsize (Steps.refl _) hlen hstack hW hdg (fun _ _ => ⟨has, eT, hc, hs⟩)
  exact ⟨v, B.U.vm, B.U, B.U.heap, Wk.behind hS hk hZ hown hC N eT hKK X' h2 hgr hq q1 q2 q3 q4, hq.1, q4.2.1, fun x q r => q4.safe q r, st⟩
theorem Wk.callV {y : MethodName} {C : String} {rm : Room} {as' : Array Value} {Qb : Option Value → Heap → Prop} {bytes : ByteArray} {maxL index : Nat} {ret : Option FieldType} (W : Wk p l e R s m args below meth c Z EL own n0 vm0 T h cells slots) (hx : p.tables.exec = Jvm.exec) (hEL : EW Z a0 EL) (hM : Met l y bytes maxL ret rm Z EL n0 [] as' h Qb)
    (w1 : (Cond.methodLink own index y).before a0 Z = true) (w2 : (Cond.declares y).before a0 Z = true) (w3 : (Cond.selects C y y).before a0 Z = true) (w4 : (Cond.instanceMethod y).before a0 Z = true) (wz : (Cond.initialized y.cls).before a0 Z = true) (wc : (Cond.code y bytes maxL ret).before a0 Z = true) (hy : y.cls ≠ "java/lang/invoke/MethodHandle" ∧ y.cls ≠ "java/lang/invoke/VarHandle")
    {Wd : Nat} (hf : rm.frames + 1 ≤ R.frames) (hl : Wd + (maxL + 11) + rm.locals ≤ R.locals) (hc : cells + rm.cells ≤ R.cells) (hs : slots + rm.slots ≤ R.slots)
    (hg : g.method = m) (hsize : g.locals.size = c.maxLocals) {a : Addr} (E : Exa Z h a C) {argsL rest : List Value} (has : (.ref a :: argsL).toArray = as') (hlen : ∀ sig, parseMethodDescriptor y.desc = some sig → argsL.length = sig.parameters.length) (hstack : g.stack = argsL.reverse ++ .ref a :: rest) (hW : 2 * g.monitorRoom + (rest.map fun v => v.category).sum ≤ Wd) (hdg : decode c.code g.pc = .ok (.invokevirtual index, 3)) :
    ∃ (v : Option Value) (vm1 : Vm) (T' : State) (h' : Heap), Wk p l e R s m args below meth c Z EL own n0 vm1 T' h' (cells + rm.cells) (slots + rm.slots) ∧ Qb v h' ∧ h.size ≤ h'.size ∧ (∀ x, x < h.size → Safe Z EL vm0 h x → Safe Z EL vm1 h' x) ∧
      Steps p.tables e below (T.setTop g) (T'.setTop { g with pc := g.pc + 3, stack := v.toList ++ rest }) := by
  have hB := W.back (len := 3) (Wd := Wd) hEL hM wc wz hf hl
  obtain ⟨locs, k0, X, eT, hS, hk, hZ, hown, hC, N, O, hKK⟩ := W
  have hZ' : Z.Warmed39 (s.setVm vm0).vm := hZ
  obtain ⟨cB, kB, i1, i2, i3⟩ := isOf (s := (s.setVm vm0)) hZ' eT E
  obtain ⟨v, vm1, B, -, X', h2, hgr, ⟨L, hq, q1, q2, q3, q4⟩, st⟩ := Stand.virtualBackS X hx hown (mvT hZ' w1) (mvT hZ' w2) (notFace_of_selects (args := #[]) (mvT hZ' w3)) (mvT hZ' w3) (mvT hZ' w4) hy hB i1 i3 hg hsize (Steps.refl _) hlen hstack hW hdg (fun _ _ => ⟨has, eT, hc, hs⟩)
  exact ⟨v, B.U.vm, B.U, B.U.heap, Wk.behind hS hk hZ hown hC N eT hKK X' h2 hgr hq q1 q2 q3 q4, hq.1, q4.2.1, fun x q r => q4.safe q r, st⟩
theorem Wk.callU {y : MethodName} {z : MethodName} {C owner : String} {rm : Room} {as' : Array Value} {Qb : Option Value → Heap → Prop} {bytes : ByteArray} {maxL index : Nat} {ret : Option FieldType} (W : Wk p l e R s m args below meth c Z EL own n0 vm0 T h cells slots) (hx : p.tables.exec = Jvm.exec) (hEL : EW Z a0 EL) (hM : Met l z bytes maxL ret rm Z EL n0 [] as' h Qb)
    (w1 : (Cond.methodLink own index y).before a0 Z = true) (wsm : (Cond.sameMethod y.cls owner y.name y.desc).before a0 Z = true) (w2 : (Cond.declares ⟨owner, y.name, y.desc⟩).before a0 Z = true) (ho : owner ≠ "java/lang/invoke/MethodHandle" ∧ owner ≠ "java/lang/invoke/VarHandle") (w3 : (Cond.selects C y z).before a0 Z = true) (w4 : (Cond.instanceMethod z).before a0 Z = true) (wz : (Cond.initialized z.cls).before a0 Z = true) (wc : (Cond.code z bytes maxL ret).before a0 Z = true)
    {Wd : Nat} (hf : rm.frames + 1 ≤ R.frames) (hl : Wd + (maxL + 11) + rm.locals ≤ R.locals) (hc : cells + rm.cells ≤ R.cells) (hs : slots + rm.slots ≤ R.slots)
    (hg : g.method = m) (hsize : g.locals.size = c.maxLocals) {a : Addr} (E : Exa Z h a C) {argsL rest : List Value} (has : (.ref a :: argsL).toArray = as') (hlen : ∀ sig, parseMethodDescriptor y.desc = some sig → argsL.length = sig.parameters.length) (hstack : g.stack = argsL.reverse ++ .ref a :: rest) (hW : 2 * g.monitorRoom + (rest.map fun v => v.category).sum ≤ Wd) (hdg : decode c.code g.pc = .ok (.invokevirtual index, 3)) :
    ∃ (v : Option Value) (vm1 : Vm) (T' : State) (h' : Heap), Wk p l e R s m args below meth c Z EL own n0 vm1 T' h' (cells + rm.cells) (slots + rm.slots) ∧ Qb v h' ∧ h.size ≤ h'.size ∧ (∀ x, x < h.size → Safe Z EL vm0 h x → Safe Z EL vm1 h' x) ∧
      Steps p.tables e below (T.setTop g) (T'.setTop { g with pc := g.pc + 3, stack := v.toList ++ rest }) := by
  have hB := W.back (len := 3) (Wd := Wd) hEL hM wc wz hf hl
  obtain ⟨locs, k0, X, eT, hS, hk, hZ, hown, hC, N, O, hKK⟩ := W
  have hZ' : Z.Warmed39 (s.setVm vm0).vm := hZ
  obtain ⟨cB, kB, i1, i2, i3⟩ := isOf (s := (s.setVm vm0)) hZ' eT E
  obtain ⟨v, vm1, B, -, X', h2, hgr, ⟨L, hq, q1, q2, q3, q4⟩, st⟩ := X.virtualBackUpS hx hown (mvT hZ' w1) (mvT hZ' wsm) (mvT hZ' w2) ho (mvT hZ' w3) (mvT hZ' w4) hB i1 i3 hg hsize (Steps.refl _) hlen hstack hW hdg (fun _ _ => ⟨has, eT, hc, hs⟩)
  exact ⟨v, B.U.vm, B.U, B.U.heap, Wk.behind hS hk hZ hown hC N eT hKK X' h2 hgr hq q1 q2 q3 q4, hq.1, q4.2.1, fun x q r => q4.safe q r, st⟩
theorem Wk.behindN {B : Pt} {k n : Nat} {ws : List Addr} {locs L : List Loc} {k0 : Nat} (hS : s.Since vm0 k0) (hk : k0 ≤ h.size) (hZ : Z.Warmed39 vm0) (hown : vm0.findClass own = some m.cls) (hC : CHr Z EL s.vm s.heap vm0 h) (N : Fr n0 locs) (O : Old Z n0 h) (hKK : True)
    (X : Stand p l e R (s.setVm vm0) m args below meth c B.U B.locs B.cells B.slots) (K : Keep h B.U.heap ws) (NL : Fr n0 L) (sf : ∀ x ∈ ws, Safe Z EL vm0 h x) (sn : ∀ x ∈ ws, n0 ≤ x) (hl : B.locs = locs ++ L) (hc : B.cells = cells + k) (hs : B.slots = slots + n) :
    Wk p l e R s m args below meth c Z EL own n0 vm0 B.U B.U.heap (cells + k) (slots + n) ∧ ∀ x, x < h.size → Safe Z EL vm0 h x → Safe Z EL vm0 B.U.heap x :=
  ⟨⟨B.locs, k0, hc ▸ hs ▸ X, rfl, hS, Nat.le_trans hk K.1, hZ, hown, hC.trans (CHr.keep K sf hC.1), hl ▸ N.app NL, O.keep K sn, hKK⟩, fun x _ q => Safe.keep K sf hC.1 q⟩
theorem Wk.paySt {y : MethodName} {as' : Array Value} {Qb : Option Value → Heap → List Loc → Prop} {bytes : ByteArray} {maxL : Nat} {ret : Option FieldType} {k n index : Nat} {ws : List Addr} (W : Wk p l e R s m args below meth c Z EL own n0 vm0 T h cells slots) (hx : p.tables.exec = Jvm.exec)
    (w1 : (Cond.methodLink own index y).before a0 Z = true) (w2 : (Cond.static y).before a0 Z = true) (wz : (Cond.initialized y.cls).before a0 Z = true) (wc : (Cond.code y bytes maxL ret).before a0 Z = true) (hy : y.cls ≠ "java/lang/invoke/MethodHandle" ∧ y.cls ≠ "java/lang/invoke/VarHandle")
    {Wd : Nat} (hB : Back l R p e below (s.setVm vm0) args y 3 Wd (fun A a => a = as' ∧ A.U.heap = h ∧ A.cells + k ≤ R.cells ∧ A.slots + n ≤ R.slots) (fun A _ v B => ∃ L, Qb v B.U.heap L ∧ B.locs = A.locs ++ L ∧ B.cells = A.cells + k ∧ B.slots = A.slots + n))
    (hQ : ∀ v h' L, Qb v h' L → Keep h h' ws ∧ Fr n0 L) (sf : ∀ x ∈ ws, Safe Z EL vm0 h x) (sn : ∀ x ∈ ws, n0 ≤ x) (hc : cells + k ≤ R.cells) (hs : slots + n ≤ R.slots)
    (hg : g.method = m) (hsize : g.locals.size = c.maxLocals) {argsL rest : List Value} (has : argsL.toArray = as') (hlen : ∀ sig, parseMethodDescriptor y.desc = some sig → argsL.length = sig.parameters.length) (hstack : g.stack = argsL.reverse ++ rest) (hW : 2 * g.monitorRoom + (rest.map fun v => v.category).sum ≤ Wd) (hdg : decode c.code g.pc = .ok (.invokestatic index, 3)) :
    ∃ (v : Option Value) (T' : State) (h' : Heap) (L : List Loc), Wk p l e R s m args below meth c Z EL own n0 vm0 T' h' (cells + k) (slots + n) ∧ Qb v h' L ∧ h.size ≤ h'.size ∧ (∀ x, x < h.size → Safe Z EL vm0 h x → Safe Z EL vm0 h' x) ∧
      Steps p.tables e below (T.setTop g) (T'.setTop { g with pc := g.pc + 3, stack := v.toList ++ rest }) := by
  obtain ⟨locs, k0, X, eT, hS, hk, hZ, hown, hC, N, O, hKK⟩ := W
  have hZ' : Z.Warmed39 (s.setVm vm0).vm := hZ
  obtain ⟨v, vm1, B, -, X', ⟨L, hq, q1, q2, q3⟩, st⟩ := Jvm.LawKit.callS X hx hown (mvT hZ' w1) (mvT hZ' w2) (mvT hZ' wz) (mvT hZ' wc) hy hB hg hsize hlen hstack hW hdg (fun _ _ => ⟨has, eT, hc, hs⟩)
  obtain ⟨K, NL⟩ := hQ _ _ _ hq
  obtain ⟨W', sf'⟩ := Wk.behindN hS hk hZ hown hC N O hKK X' K NL sf sn q1 q2 q3
  exact ⟨v, B.U, B.U.heap, L, W', hq, K.1, sf', st _ (Steps.refl _)⟩
theorem Wk.paySp {y : MethodName} {as' : Array Value} {Qb : Option Value → Heap → List Loc → Prop} {bytes : ByteArray} {maxL : Nat} {k n index : Nat} {ws : List Addr} (W : Wk p l e R s m args below meth c Z EL own n0 vm0 T h cells slots) (hx : p.tables.exec = Jvm.exec) (hy1 : y.name = "<init>")
    (w1 : (Cond.methodLink own index y).before a0 Z = true) (w2 : (Cond.instanceMethod y).before a0 Z = true) (wc : (Cond.code y bytes maxL none).before a0 Z = true) (hy : y.cls ≠ "java/lang/invoke/MethodHandle" ∧ y.cls ≠ "java/lang/invoke/VarHandle")
    {Wd : Nat} (hB : Back l R p e below (s.setVm vm0) args y 3 Wd (fun A a => a = as' ∧ A.U.heap = h ∧ A.cells + k ≤ R.cells ∧ A.slots + n ≤ R.slots) (fun A _ v B => ∃ L, Qb v B.U.heap L ∧ B.locs = A.locs ++ L ∧ B.cells = A.cells + k ∧ B.slots = A.slots + n))
    (hQ : ∀ v h' L, Qb v h' L → Keep h h' ws ∧ Fr n0 L) (sf : ∀ x ∈ ws, Safe Z EL vm0 h x) (sn : ∀ x ∈ ws, n0 ≤ x) (hc : cells + k ≤ R.cells) (hs : slots + n ≤ R.slots)
    (hg : g.method = m) (hsize : g.locals.size = c.maxLocals) {a : Addr} {argsL rest : List Value} (has : (.ref a :: argsL).toArray = as') (hlen : ∀ sig, parseMethodDescriptor y.desc = some sig → argsL.length = sig.parameters.length) (hstack : g.stack = argsL.reverse ++ .ref a :: rest) (hW : 2 * g.monitorRoom + (rest.map fun v => v.category).sum ≤ Wd) (hdg : decode c.code g.pc = .ok (.invokespecial index, 3)) :
    ∃ (v : Option Value) (T' : State) (h' : Heap) (L : List Loc), Wk p l e R s m args below meth c Z EL own n0 vm0 T' h' (cells + k) (slots + n) ∧ Qb v h' L ∧ h.size ≤ h'.size ∧ (∀ x, x < h.size → Safe Z EL vm0 h x → Safe Z EL vm0 h' x) ∧
      Steps p.tables e below (T.setTop g) (T'.setTop { g with pc := g.pc + 3, stack := v.toList ++ rest }) := by
  obtain ⟨locs, k0, X, eT, hS, hk, hZ, hown, hC, N, O, hKK⟩ := W
  have hZ' : Z.Warmed39 (s.setVm vm0).vm := hZ
  obtain ⟨v, vm1, B, -, X', ⟨L, hq, q1, q2, q3⟩, st⟩ := Stand.specialBack X hx hy1 hown (mvT hZ' w1) (mvT hZ' w2) (mvT hZ' wc) hy hB hg hsize (Steps.refl _) hlen hstack hW hdg (fun _ _ => ⟨has, eT, hc, hs⟩)
  obtain ⟨K, NL⟩ := hQ _ _ _ hq
  obtain ⟨W', sf'⟩ := Wk.behindN hS hk hZ hown hC N O hKK X' K NL sf sn q1 q2 q3
  exact ⟨v, B.U, B.U.heap, L, W', hq, K.1, sf', st⟩
theorem Wk.payVi {y : MethodName} {C : String} {as' : Array Value} {Qb : Option Value → Heap → List Loc → Prop} {k n index : Nat} {ws : List Addr} (W : Wk p l e R s m args below meth c Z EL own n0 vm0 T h cells slots) (hx : p.tables.exec = Jvm.exec)
    (w1 : (Cond.methodLink own index y).before a0 Z = true) (w2 : (Cond.declares y).before a0 Z = true) (w3 : (Cond.selects C y y).before a0 Z = true) (w4 : (Cond.instanceMethod y).before a0 Z = true) (hy : y.cls ≠ "java/lang/invoke/MethodHandle" ∧ y.cls ≠ "java/lang/invoke/VarHandle")
    {Wd : Nat} (hB : Back l R p e below (s.setVm vm0) args y 3 Wd (fun A a => a = as' ∧ A.U.heap = h ∧ A.cells + k ≤ R.cells ∧ A.slots + n ≤ R.slots) (fun A _ v B => ∃ L, Qb v B.U.heap L ∧ B.locs = A.locs ++ L ∧ B.cells = A.cells + k ∧ B.slots = A.slots + n))
    (hQ : ∀ v h' L, Qb v h' L → Keep h h' ws ∧ Fr n0 L) (sf : ∀ x ∈ ws, Safe Z EL vm0 h x) (sn : ∀ x ∈ ws, n0 ≤ x) (hc : cells + k ≤ R.cells) (hs : slots + n ≤ R.slots)
    (hg : g.method = m) (hsize : g.locals.size = c.maxLocals) {a : Addr} (E : Exa Z h a C) {argsL rest : List Value} (has : (.ref a :: argsL).toArray = as') (hlen : ∀ sig, parseMethodDescriptor y.desc = some sig → argsL.length = sig.parameters.length) (hstack : g.stack = argsL.reverse ++ .ref a :: rest) (hW : 2 * g.monitorRoom + (rest.map fun v => v.category).sum ≤ Wd) (hdg : decode c.code g.pc = .ok (.invokevirtual index, 3)) :
    ∃ (v : Option Value) (T' : State) (h' : Heap) (L : List Loc), Wk p l e R s m args below meth c Z EL own n0 vm0 T' h' (cells + k) (slots + n) ∧ Qb v h' L ∧ h.size ≤ h'.size ∧ (∀ x, x < h.size → Safe Z EL vm0 h x → Safe Z EL vm0 h' x) ∧
      Steps p.tables e below (T.setTop g) (T'.setTop { g with pc := g.pc + 3, stack := v.toList ++ rest }) := by
  obtain ⟨locs, k0, X, eT, hS, hk, hZ, hown, hC, N, O, hKK⟩ := W
  have hZ' : Z.Warmed39 (s.setVm vm0).vm := hZ
  obtain ⟨cB, kB, i1, i2, i3⟩ := isOf (s := (s.setVm vm0)) hZ' eT E
  obtain ⟨v, vm1, B, -, X', ⟨L, hq, q1, q2, q3⟩, st⟩ := Stand.virtualBack X hx hown (mvT hZ' w1) (mvT hZ' w2) (notFace_of_selects (args := #[]) (mvT hZ' w3)) (mvT hZ' w3) (mvT hZ' w4) hy hB i1 i3 hg hsize (Steps.refl _) hlen hstack hW hdg (fun _ _ => ⟨has, eT, hc, hs⟩)
  obtain ⟨K, NL⟩ := hQ _ _ _ hq
  obtain ⟨W', sf'⟩ := Wk.behindN hS hk hZ hown hC N O hKK X' K NL sf sn q1 q2 q3
  exact ⟨v, B.U, B.U.heap, L, W', hq, K.1, sf', st⟩
theorem Wk.payUp {y z : MethodName} {C owner : String} {as' : Array Value} {Qb : Option Value → Heap → List Loc → Prop} {k n index : Nat} {ws : List Addr} (W : Wk p l e R s m args below meth c Z EL own n0 vm0 T h cells slots) (hx : p.tables.exec = Jvm.exec)
    (w1 : (Cond.methodLink own index y).before a0 Z = true) (wsm : (Cond.sameMethod y.cls owner y.name y.desc).before a0 Z = true) (w2 : (Cond.declares ⟨owner, y.name, y.desc⟩).before a0 Z = true) (ho : owner ≠ "java/lang/invoke/MethodHandle" ∧ owner ≠ "java/lang/invoke/VarHandle") (w3 : (Cond.selects C y z).before a0 Z = true) (w4 : (Cond.instanceMethod z).before a0 Z = true) (hy : y.cls ≠ "java/lang/invoke/MethodHandle" ∧ y.cls ≠ "java/lang/invoke/VarHandle")
    {Wd : Nat} (hB : Back l R p e below (s.setVm vm0) args z 3 Wd (fun A a => a = as' ∧ A.U.heap = h ∧ A.cells + k ≤ R.cells ∧ A.slots + n ≤ R.slots) (fun A _ v B => ∃ L, Qb v B.U.heap L ∧ B.locs = A.locs ++ L ∧ B.cells = A.cells + k ∧ B.slots = A.slots + n))
    (hQ : ∀ v h' L, Qb v h' L → Keep h h' ws ∧ Fr n0 L) (sf : ∀ x ∈ ws, Safe Z EL vm0 h x) (sn : ∀ x ∈ ws, n0 ≤ x) (hc : cells + k ≤ R.cells) (hs : slots + n ≤ R.slots)
    (hg : g.method = m) (hsize : g.locals.size = c.maxLocals) {a : Addr} (E : Exa Z h a C) {argsL rest : List Value} (has : (.ref a :: argsL).toArray = as') (hlen : ∀ sig, parseMethodDescriptor y.desc = some sig → argsL.length = sig.parameters.length) (hstack : g.stack = argsL.reverse ++ .ref a :: rest) (hW : 2 * g.monitorRoom + (rest.map fun v => v.category).sum ≤ Wd) (hdg : decode c.code g.pc = .ok (.invokevirtual index, 3)) :
    ∃ (v : Option Value) (T' : State) (h' : Heap) (L : List Loc), Wk p l e R s m args below meth c Z EL own n0 vm0 T' h' (cells + k) (slots + n) ∧ Qb v h' L ∧ h.size ≤ h'.size ∧ (∀ x, x < h.size → Safe Z EL vm0 h x → Safe Z EL vm0 h' x) ∧
      Steps p.tables e below (T.setTop g) (T'.setTop { g with pc := g.pc + 3, stack := v.toList ++ rest }) := by
  obtain ⟨locs, k0, X, eT, hS, hk, hZ, hown, hC, N, O, hKK⟩ := W
  have hZ' : Z.Warmed39 (s.setVm vm0).vm := hZ
  obtain ⟨cB, kB, i1, i2, i3⟩ := isOf (s := (s.setVm vm0)) hZ' eT E
  obtain ⟨v, vm1, B, -, X', ⟨L, hq, q1, q2, q3⟩, st⟩ := X.virtualBackUp hx hown (mvT hZ' w1) (mvT hZ' wsm) (mvT hZ' w2) ho (mvT hZ' w3) (mvT hZ' w4) hB i1 i3 hg hsize (Steps.refl _) hlen hstack hW hdg (fun _ _ => ⟨has, eT, hc, hs⟩)
  obtain ⟨K, NL⟩ := hQ _ _ _ hq
  obtain ⟨W', sf'⟩ := Wk.behindN hS hk hZ hown hC N O hKK X' K NL sf sn q1 q2 q3
  exact ⟨v, B.U, B.U.heap, L, W', hq, K.1, sf', st⟩
theorem Wk.len (W : Wk p l e R s m args below meth c Z EL own n0 vm0 T h cells slots) (hx : p.tables.exec = Jvm.exec) {a : Addr} {k : ClassId} {ty : FieldType} {z : Int32} {vs : List Value} {d : Value} (A : Arv Z h a k ty z vs d)
    (hg : g.method = m) {rest : List Value} (hs : g.stack = .ref a :: rest) (hd : decode c.code g.pc = .ok (.arraylength, 1)) :
    ∀ target, Steps p.tables e below (T.setTop { g with pc := g.pc + 1, stack := .int z :: rest }) target → Steps p.tables e below (T.setTop g) target := fun target k => by
  obtain ⟨locs, X⟩ := W.stand
  obtain ⟨cl, A1, q1, q2, q3, -⟩ := A
  refine X.arraylength hx (by rw [W.heap]; exact A1.1) (State.isArrayOf_alike W.warmS.alike A1.2.1) (g := g) hg hs hd _ ?_
  rw [len_of q2 q3]; exact k
theorem Wk.ldC (W : Wk p l e R s m args below meth c Z EL own n0 vm0 T h cells slots) (hx : p.tables.exec = Jvm.exec) {a : Addr} {k : ClassId} {z j : Int32} {vs : List Value} {d : Value} (A : Arv Z h a k .char z vs d) (hj : ¬ j < 0 ∧ j < z) {v : Value} (hv : vs.getD j.toNatClampNeg d = v)
    (hg : g.method = m) {rest : List Value} (hs : g.stack = .int j :: .ref a :: rest) (hd : decode c.code g.pc = .ok (.caload, 1)) :
    ∀ target, Steps p.tables e below (T.setTop { g with pc := g.pc + 1, stack := v :: rest }) target → Steps p.tables e below (T.setTop g) target := fun target k => by
  obtain ⟨locs, X⟩ := W.stand
  obtain ⟨cl, A1, q1, q2, q3, q4, -⟩ := A
  exact X.caload hx (by rw [W.heap]; exact A1.1) (State.isArrayOf_alike W.warmS.alike A1.2.1) A1.2.2 (inb_of q2 hj) (q4.at (inb_of q2 hj) hv) hg hs hd _ k
theorem Wk.ldB (W : Wk p l e R s m args below meth c Z EL own n0 vm0 T h cells slots) (hx : p.tables.exec = Jvm.exec) {a : Addr} {k : ClassId} {z j : Int32} {vs : List Value} {d : Value} (A : Arv Z h a k .byte z vs d) (hj : ¬ j < 0 ∧ j < z) {v : Value} (hv : vs.getD j.toNatClampNeg d = v)
    (hg : g.method = m) {rest : List Value} (hs : g.stack = .int j :: .ref a :: rest) (hd : decode c.code g.pc = .ok (.baload, 1)) :
    ∀ target, Steps p.tables e below (T.setTop { g with pc := g.pc + 1, stack := v :: rest }) target → Steps p.tables e below (T.setTop g) target := fun target k => by
  obtain ⟨locs, X⟩ := W.stand
  obtain ⟨cl, A1, q1, q2, q3, q4, -⟩ := A
  exact X.baloadBytes hx (by rw [W.heap]; exact A1.1) (State.isArrayOf_alike W.warmS.alike A1.2.1) A1.2.2 (inb_of q2 hj) (q4.at (inb_of q2 hj) hv) hg hs hd _ k
theorem Wk.ldI (W : Wk p l e R s m args below meth c Z EL own n0 vm0 T h cells slots) (hx : p.tables.exec = Jvm.exec) {a : Addr} {k : ClassId} {z j : Int32} {vs : List Value} {d : Value} (A : Arv Z h a k .int z vs d) (hj : ¬ j < 0 ∧ j < z) {v : Value} (hv : vs.getD j.toNatClampNeg d = v)
    (hg : g.method = m) {rest : List Value} (hs : g.stack = .int j :: .ref a :: rest) (hd : decode c.code g.pc = .ok (.iaload, 1)) :
    ∀ target, Steps p.tables e below (T.setTop { g with pc := g.pc + 1, stack := v :: rest }) target → Steps p.tables e below (T.setTop g) target := fun target k => by
  obtain ⟨locs, X⟩ := W.stand
  obtain ⟨cl, A1, q1, q2, q3, q4, -⟩ := A
  exact X.iaload hx (by rw [W.heap]; exact A1.1) (State.isArrayOf_alike W.warmS.alike A1.2.1) A1.2.2 (inb_of q2 hj) (q4.at (inb_of q2 hj) hv) hg hs hd _ k
theorem Wk.ldD (W : Wk p l e R s m args below meth c Z EL own n0 vm0 T h cells slots) (hx : p.tables.exec = Jvm.exec) {a : Addr} {k : ClassId} {z j : Int32} {vs : List Value} {d : Value} (A : Arv Z h a k .double z vs d) (hj : ¬ j < 0 ∧ j < z) {v : Value} (hv : vs.getD j.toNatClampNeg d = v)
    (hg : g.method = m) {rest : List Value} (hs : g.stack = .int j :: .ref a :: rest) (hd : decode c.code g.pc = .ok (.daload, 1)) :
    ∀ target, Steps p.tables e below (T.setTop { g with pc := g.pc + 1, stack := v :: rest }) target → Steps p.tables e below (T.setTop g) target := fun target k => by
  obtain ⟨locs, X⟩ := W.stand
  obtain ⟨cl, A1, q1, q2, q3, q4, -⟩ := A
  exact X.daload hx (by rw [W.heap]; exact A1.1) (State.isArrayOf_alike W.warmS.alike A1.2.1) A1.2.2 (inb_of q2 hj) (q4.at (inb_of q2 hj) hv) hg hs hd _ k
theorem Wk.ldcJ (W : Wk p l e R s m args below meth c Z EL own n0 vm0 T h cells slots) (hx : p.tables.exec = Jvm.exec) {index : Nat} {v : Int64} (w : (Cond.constantLong own index v).before a0 Z = true) (hg : g.method = m) (hd : decode c.code g.pc = .ok (.ldc2_w index, 3)) :
    ∀ target, Steps p.tables e below (T.setTop { g with pc := g.pc + 3, stack := .long v :: g.stack }) target → Steps p.tables e below (T.setTop g) target := by
  obtain ⟨locs, X⟩ := W.stand
  exact X.ldc2Long hx W.owns (mvT W.warmS w) hg hd
theorem Wk.ldcD (W : Wk p l e R s m args below meth c Z EL own n0 vm0 T h cells slots) (hx : p.tables.exec = Jvm.exec) {index : Nat} {v : UInt64} (w : (Cond.constantDouble own index v).before a0 Z = true) (hg : g.method = m) (hd : decode c.code g.pc = .ok (.ldc2_w index, 3)) :
    ∀ target, Steps p.tables e below (T.setTop { g with pc := g.pc + 3, stack := .double v :: g.stack }) target → Steps p.tables e below (T.setTop g) target := by
  obtain ⟨locs, X⟩ := W.stand
  exact X.ldc2DoubleC hx W.owns (mvT W.warmS w) hg hd
theorem Go.join {α : Type} {f : α → JFrame} (hb : (∀ y, Go p e below Q T (f y)) → Go p e below Q T g) (k : ∀ y, Go p e below Q T (f y)) : Go p e below Q T g := hb k
theorem Wk.ldcI (W : Wk p l e R s m args below meth c Z EL own n0 vm0 T h cells slots) (hx : p.tables.exec = Jvm.exec) {index : Nat} {v : Int32} (w : (Cond.constant own index v).before a0 Z = true) (hg : g.method = m) (hd : decode c.code g.pc = .ok (.ldc index, 2)) :
    ∀ target, Steps p.tables e below (T.setTop { g with pc := g.pc + 2, stack := .int v :: g.stack }) target → Steps p.tables e below (T.setTop g) target := by
  obtain ⟨locs, X⟩ := W.stand
  exact X.ldcInt hx W.owns (mvT W.warmS w) hg hd
theorem Wk.acmp {target : State} (W : Wk p l e R s m args below meth c Z EL own n0 vm0 T h cells slots) (hx : p.tables.exec = Jvm.exec) (hg : g.method = m) {cd : ACond} {x y : Value} (h1 : x.isRef = true) (h2 : y.isRef = true) {rest : List Value} {o : Int} {pc0 pc' : Nat} {same : Bool} (hpc : g.pc = pc0)
    (hd : decode c.code g.pc = .ok (.if_acmp cd o, 3)) (hs : g.stack = y :: x :: rest) (hq : decide (x = y) = same) (ho : 0 ≤ (pc0 : Int) + o) (hp : pc' = if acV cd same = true then ((pc0 : Int) + o).toNat else pc0 + 3)
    (hr : Steps p.tables e below (T.setTop { g with pc := pc', stack := rest }) target) : Steps p.tables e below (T.setTop g) target := by
  obtain ⟨locs, X⟩ := W.stand
  exact RoadKit.acmp X hx hg h1 h2 hpc hd hs hq ho hp hr
theorem Wk.irem {target : State} (W : Wk p l e R s m args below meth c Z EL own n0 vm0 T h cells slots) (hx : p.tables.exec = Jvm.exec) (hg : g.method = m) {x y : Int32} {rest : List Value} (hd : decode c.code g.pc = .ok (.irem, 1)) (hs : g.stack = .int y :: .int x :: rest) (hy : y ≠ 0)
    (hr : Steps p.tables e below (T.setTop { g with pc := g.pc + 1, stack := .int (x % y) :: rest }) target) : Steps p.tables e below (T.setTop g) target := by
  obtain ⟨locs, X⟩ := W.stand
  exact RoadKit.iremM X hx hg hd hs hy hr
end OwnKit
end Jvm.Pilot.@@N@@
namespace Jvm.Pilot.@@N@@
open Jvm Jvm.ClassFile Sem Op Lib Jvm.Free Jvm.Stand Jvm.LawKit Jvm.RoadKit Bundle Jvm.Pilot.@@N@@.Jvm.D
section OwnKit2
variable {p : Program} {l : Launch} {e : Env} {R : Room} {s : State} {m : MethodId} {args : Array Value} {below : List Frame} {meth : Method} {c : Code} {T T' : State} {cells slots : Nat} {Z : State} {a0 : Array Value} {EL : List (String × Nat)} {vm0 : Vm} {h h' : Heap} {own : String} {n0 : Nat} {Q : Outcome → State → Prop} {g g' : JFrame}
theorem own_fitsR {v : Value} {C : String} (h : v.isRef = true) : fits (.object C) v = true := by cases v <;> simp [Value.isRef, fits] at h ⊢
theorem own_fitsA {v : Value} {t : FieldType} (h : v.isRef = true) : fits (.array t) v = true := by cases v <;> simp [Value.isRef, fits] at h ⊢
/-- a String whose value is null yet is no booked constant -/
theorem own_safe_blank {x : Addr} {vm : Vm} (hal : Z.vm.Alike vm) (E : Exa Z h x "java/lang/String") (F : Fld Z h x "java/lang/String" "value" "[B" .null) : Safe Z EL vm h x := fun B => by
  obtain ⟨pe, -, u, a, -, q, -, F', rfl | rfl⟩ := B
  · obtain ⟨cell, cf, k, i, f, f1, f2, f3, f4, f5, f6, f7⟩ := F
    obtain ⟨cS, ⟨⟨s1, s2, s3, ⟨c1, k1, i1, g1, -⟩, -, s6, s7, v1, -⟩, -⟩, -⟩ := F'
    obtain ⟨k3, e3, -⟩ := State.fieldFound?_setVm (s := Z) hal f2
    have e4 := (show (Wst Z vm h).fieldFound? _ _ _ = _ from e3).symm.trans g1
    simp only [Option.some.injEq, Prod.mk.injEq] at e4
    cases (show h[q.sa]? = some q.sC from s1).symm.trans f1
    rw [← e4.2.2.2, f7] at v1
    cases v1
  · obtain ⟨cell, k, e1, e2, e3, -, -⟩ := E
    have hd := F'.hd
    obtain ⟨cS, -, -, f, -⟩ := F'
    cases (show h[q.sd]? = some q.SA from hd).symm.trans e1
    have f' : vm.findClass "[B" = some q.SA.cls := f
    rw [hal.findClass] at f'
    obtain ⟨k1, q1, q2⟩ := Vm.findClass_spec f'
    obtain ⟨k2, q3, q4⟩ := Vm.findClass_spec e2
    cases q1.symm.trans q3
    have := q2.symm.trans q4
    exact absurd this (by decide)
end OwnKit2
end Jvm.Pilot.@@N@@
namespace Jvm.Pilot.@@N@@
open Jvm Jvm.ClassFile Sem Op Lib Jvm.Free Jvm.Stand Jvm.LawKit Jvm.RoadKit Bundle Jvm.Pilot.@@N@@.Jvm.D
/-- what every walk of this claim rests on -/
def Ctx (Z : State) (a0 : Array Value) : Prop := (∀ d ∈ tables_1, d.before a0 Z = true) ∧ (∃ zc : Int32, Sta Z Z.heap "java/lang/String" "COMPACT_STRINGS" "Z" (.int zc) ∧ ¬ zc = 0) ∧ True
def consts_1 : List (String × Nat) := []
theorem own_EW {Z : State} {a0 : Array Value} (hw : ∀ d ∈ tables_1, d.before a0 Z = true) : EW Z a0 consts_1 := EW.nil
theorem own_stringAtoms {Z : State} {a0 : Array Value} (hw : ∀ d ∈ tables_1, d.before a0 Z = true) : ∀ d ∈ Bundle.stringAtoms, d.before a0 Z = true := fun d hd => hw d ((by decide +kernel : ∀ d ∈ Bundle.stringAtoms, d ∈ tables_1) d hd)
theorem own_eqI {args : Array Value} {s : State} {t : Term} {n : Int32} (h : (Jvm.Cond.eq t (Jvm.Term.int n)).value args s none s [] = some true) : t.eval args s none [] s = some (.int n) := by
  obtain ⟨x, y, e1, e2, k1, k2⟩ := cmp_v (Or.inl h)
  rw [Term.int_eval] at e2
  cases e2
  obtain ⟨z, rfl⟩ := k2
  have q := gotT (Cond.eq_ints e1 (Term.int_eval n)) h
  rw [e1, q]
theorem own_eqJ {args : Array Value} {s : State} {t : Term} {n : Int64} (h : (Jvm.Cond.eq t (Jvm.Term.long n)).value args s none s [] = some true) : t.eval args s none [] s = some (.long n) := by
  obtain ⟨x, y, e1, e2, k1, k2⟩ := cmp_v (Or.inl h)
  have e3 : (Jvm.Term.long n).eval args s none [] s = some (.long n) := rfl
  rw [e3] at e2
  cases e2
  obtain ⟨z, rfl⟩ := k2
  have q := gotT (eq_L e1 e3) h
  rw [e1, q]
theorem own_exa {args : Array Value} {s : State} {t : Term} {C : String} (h : (Jvm.Cond.exactly t C).value args s none s [] = some true) : ∃ x, t.eval args s none [] s = some (.ref x) := exa_v h
theorem own_all0 {α : Type} {P : α → Prop} : ∀ x ∈ ([] : List α), P x := fun _ q => nomatch q
theorem own_allS {α : Type} {P : α → Prop} {y : α} {L : List α} (q : P y) (r : ∀ x ∈ L, P x) : ∀ x ∈ y :: L, P x := fun x z => (List.mem_cons.mp z).elim (fun u => u ▸ q) (r x)
theorem own_and255 (x : Int32) : ¬ (x &&& (255 : Int32)) < 0 ∧ ¬ (255 : Int32) < (x &&& (255 : Int32)) := by
  have q := c_and x 255 (by decide)
  have e : (255 : Int32).toInt = 255 := rfl
  simp only [Int32.lt_iff_toInt_lt, Int32.reduceToInt, e] at q ⊢
  omega
theorem own_narB (x : Int32) : nar .byte (x.toInt8.toInt32) = x.toInt8.toInt32 := by simp [nar]
theorem own_nochar (x : Int32) : nar .char (x &&& (255 : Int32)) = x &&& (255 : Int32) := i2c_mask x
theorem own_pos (x : Int32) : ¬ (((x &&& (2147483647 : Int32)) % (2147483647 : Int32)) + (1 : Int32)) < (1 : Int32) := by
  have h1 := c_and x 2147483647 (by decide)
  have h2 := (c_irem (x &&& 2147483647) 2147483647 2147483647 (by decide)).1 h1.1
  have h3 := c_iadd ((x &&& 2147483647) % 2147483647) 1
  have e1 : (1 : Int32).toInt = 1 := rfl
  have l1 := Int32.le_toInt (((x &&& 2147483647) % 2147483647) + 1)
  have l2 := Int32.toInt_lt (((x &&& 2147483647) % 2147483647) + 1)
  rw [Int32.lt_iff_toInt_lt, e1]
  rw [e1] at h3
  omega
def own_act (t f r : Int32) : Int32 := if t < f then 0 else if (t - f) < r then 1 else 0
theorem own_actL {t f r : Int32} (hf : ¬ f < (1 : Int32)) (hr : ¬ r < (1 : Int32)) : (t.toInt64 < f.toInt64 → own_act t f r = 0) ∧ (¬ t.toInt64 < f.toInt64 → f.toInt64 + r.toInt64 - 1 < t.toInt64 → own_act t f r = 0) ∧ (¬ t.toInt64 < f.toInt64 → ¬ f.toInt64 + r.toInt64 - 1 < t.toInt64 → own_act t f r = 1) := by
  have e1 : (1 : Int32).toInt = 1 := rfl
  have e2 : (1 : Int64).toInt = 1 := rfl
  have h1 := c_isub t f
  have h2 := c_ladd f.toInt64 r.toInt64
  have h3 := c_lsub (f.toInt64 + r.toInt64) 1
  have a1 := Int32.le_toInt t
  have a2 := Int32.toInt_lt t
  have b1 := Int32.le_toInt f
  have b2 := Int32.toInt_lt f
  have d1 := Int32.le_toInt r
  have d2 := Int32.toInt_lt r
  have g1 := Int32.le_toInt (t - f)
  have g2 := Int32.toInt_lt (t - f)
  have k1 := Int64.le_toInt (f.toInt64 + r.toInt64)
  have k2 := Int64.toInt_lt (f.toInt64 + r.toInt64)
  have m1 := Int64.le_toInt (f.toInt64 + r.toInt64 - 1)
  have m2 := Int64.toInt_lt (f.toInt64 + r.toInt64 - 1)
  simp only [Int32.lt_iff_toInt_lt, Int64.lt_iff_toInt_lt, own_act, c_i2l, e1, e2] at *
  refine ⟨fun q => if_pos q, fun q1 q2 => ?_, fun q1 q2 => ?_⟩
  · rw [if_neg q1, if_neg (by omega)]
  · rw [if_neg q1, if_pos (by omega)]
theorem own_dk : ∀ k : Fin 256, (¬ cmpValue (FP.dcmp (FP.i2d (Int32.ofNat k.val)) FP.dconst0) .l < 0) ∧ (FP.i2d (Int32.ofNat k.val) &&& 0x7fffffffffffffff ≤ 0x7ff0000000000000) ∧ ¬ 0 < cmpValue (FP.dcmp (FP.i2d (Int32.ofNat k.val) &&& 0x7fffffffffffffff) (9218868437227405311 : UInt64)) .l := by decide +kernel
theorem own_d (x : Int32) : (¬ cmpValue (FP.dcmp (FP.i2d (x &&& (255 : Int32))) FP.dconst0) .l < 0) ∧ Fl.NoNaN64 (FP.i2d (x &&& (255 : Int32))) ∧ ¬ 0 < cmpValue (FP.dcmp (FP.i2d (x &&& (255 : Int32)) &&& 0x7fffffffffffffff) (9218868437227405311 : UInt64)) .l := by
  have h := c_and x 255 (by decide)
  have e : (255 : Int32).toInt = 255 := rfl
  rw [e] at h
  obtain ⟨n, hn⟩ : ∃ n : Nat, (x &&& 255).toInt = n := ⟨_, (Int.toNat_of_nonneg h.1).symm⟩
  have hx : x &&& 255 = Int32.ofNat n := Int32.toInt_inj.mp (by rw [hn, Int32.toInt_ofNat_of_lt (by omega)])
  have q := own_dk ⟨n, by omega⟩
  rw [hx]
  exact q
open Jvm.Free.Fl Jvm.Free.Fl.Abs in
theorem own_abs {p : Program} {l : Launch} {e : Env} {R : Room} {s : State} {args : Array Value} {below : List Frame} {Z : State} {a0 : Array Value} {h : Heap} {len W : Nat} {a : UInt64} (hZ : Z.Warmed39 s.vm) (wc : (Jvm.Cond.code absDN absDCode 2 (some .double)).before a0 Z = true) (hN : NoNaN64 a) (hf : 1 ≤ R.frames) (hl : W + 13 ≤ R.locals) :
    Back l R p e below s args absDN len W (fun A as => as = #[.double a] ∧ A.U.heap = h ∧ A.cells + 0 ≤ R.cells ∧ A.slots + 0 ≤ R.slots)
      (fun A _ v B => ∃ L, (v = some (.double (a &&& 0x7fffffffffffffff)) ∧ L = [] ∧ h = B.U.heap) ∧ B.locs = A.locs ++ L ∧ B.cells = A.cells + 0 ∧ B.slots = A.slots + 0) :=
  Back.mono (absD_pays a (mvT hZ wc) hf hl) (fun _ _ q => ⟨q.2.2.1, q.2.2.2, q.1, hN⟩) (fun A as v B hp q => ⟨[], ⟨q.1, rfl, by rw [q.2]; exact hp.2.1.symm⟩, by rw [q.2, List.append_nil], by rw [q.2]; rfl, by rw [q.2]; rfl⟩)
theorem dd_jdk_117_method_7_code_0 : decode jdk_117_method_7_code 0 = .ok (.dload_n 0, 1) := by decide +kernel
theorem dd_jdk_117_method_7_code_1 : decode jdk_117_method_7_code 1 = .ok (.invokestatic 38, 3) := by decide +kernel
theorem dd_jdk_117_method_7_code_4 : decode jdk_117_method_7_code 4 = .ok (.ldc2_w 111, 3) := by decide +kernel
theorem dd_jdk_117_method_7_code_7 : decode jdk_117_method_7_code 7 = .ok (.dcmp .l, 1) := by decide +kernel
theorem dd_jdk_117_method_7_code_8 : decode jdk_117_method_7_code 8 = .ok (.ifCond .le 7, 3) := by decide +kernel
theorem dd_jdk_117_method_7_code_15 : decode jdk_117_method_7_code 15 = .ok (.iconst 0, 1) := by decide +kernel
theorem dd_jdk_117_method_7_code_16 : decode jdk_117_method_7_code 16 = .ok (.ireturn, 1) := by decide +kernel
theorem dd_jdk_29_method_66_code_0 : decode jdk_29_method_66_code 0 = .ok (.lload_n 0, 1) := by decide +kernel
theorem dd_jdk_29_method_66_code_1 : decode jdk_29_method_66_code 1 = .ok (.lload_n 2, 1) := by decide +kernel
theorem dd_jdk_29_method_66_code_2 : decode jdk_29_method_66_code 2 = .ok (.lcmp, 1) := by decide +kernel
theorem dd_jdk_29_method_66_code_3 : decode jdk_29_method_66_code 3 = .ok (.ifCond .lt 7, 3) := by decide +kernel
theorem dd_jdk_29_method_66_code_6 : decode jdk_29_method_66_code 6 = .ok (.lload_n 0, 1) := by decide +kernel
theorem dd_jdk_29_method_66_code_7 : decode jdk_29_method_66_code 7 = .ok (.goto 4, 3) := by decide +kernel
theorem dd_jdk_29_method_66_code_10 : decode jdk_29_method_66_code 10 = .ok (.lload_n 2, 1) := by decide +kernel
theorem dd_jdk_29_method_66_code_11 : decode jdk_29_method_66_code 11 = .ok (.lreturn, 1) := by decide +kernel
theorem dd_jdk_29_method_70_code_0 : decode jdk_29_method_70_code 0 = .ok (.lload_n 0, 1) := by decide +kernel
theorem dd_jdk_29_method_70_code_1 : decode jdk_29_method_70_code 1 = .ok (.lload_n 2, 1) := by decide +kernel
theorem dd_jdk_29_method_70_code_2 : decode jdk_29_method_70_code 2 = .ok (.lcmp, 1) := by decide +kernel
theorem dd_jdk_29_method_70_code_3 : decode jdk_29_method_70_code 3 = .ok (.ifCond .gt 7, 3) := by decide +kernel
theorem dd_jdk_29_method_70_code_6 : decode jdk_29_method_70_code 6 = .ok (.lload_n 0, 1) := by decide +kernel
theorem dd_jdk_29_method_70_code_7 : decode jdk_29_method_70_code 7 = .ok (.goto 4, 3) := by decide +kernel
theorem dd_jdk_29_method_70_code_10 : decode jdk_29_method_70_code 10 = .ok (.lload_n 2, 1) := by decide +kernel
theorem dd_jdk_29_method_70_code_11 : decode jdk_29_method_70_code 11 = .ok (.lreturn, 1) := by decide +kernel
theorem dd_jdk_31_method_11_code_0 : decode jdk_31_method_11_code 0 = .ok (.aload_n 0, 1) := by decide +kernel
theorem dd_jdk_31_method_11_code_1 : decode jdk_31_method_11_code 1 = .ok (.ifnonnull 12, 3) := by decide +kernel
theorem dd_jdk_31_method_11_code_13 : decode jdk_31_method_11_code 13 = .ok (.aload_n 0, 1) := by decide +kernel
theorem dd_jdk_31_method_11_code_14 : decode jdk_31_method_11_code 14 = .ok (.areturn, 1) := by decide +kernel
theorem dd_jdk_42_method_139_code_0 : decode jdk_42_method_139_code 0 = .ok (.getstatic 38, 3) := by decide +kernel
theorem dd_jdk_42_method_139_code_3 : decode jdk_42_method_139_code 3 = .ok (.ifCond .eq 23, 3) := by decide +kernel
theorem dd_jdk_42_method_139_code_6 : decode jdk_42_method_139_code 6 = .ok (.iload_n 0, 1) := by decide +kernel
theorem dd_jdk_42_method_139_code_7 : decode jdk_42_method_139_code 7 = .ok (.invokestatic 1015, 3) := by decide +kernel
theorem dd_jdk_42_method_139_code_10 : decode jdk_42_method_139_code 10 = .ok (.ifCond .eq 16, 3) := by decide +kernel
theorem dd_jdk_42_method_139_code_13 : decode jdk_42_method_139_code 13 = .ok (.new 10, 3) := by decide +kernel
theorem dd_jdk_42_method_139_code_16 : decode jdk_42_method_139_code 16 = .ok (.dup, 1) := by decide +kernel
theorem dd_jdk_42_method_139_code_17 : decode jdk_42_method_139_code 17 = .ok (.iload_n 0, 1) := by decide +kernel
theorem dd_jdk_42_method_139_code_18 : decode jdk_42_method_139_code 18 = .ok (.invokestatic 1018, 3) := by decide +kernel
theorem dd_jdk_42_method_139_code_21 : decode jdk_42_method_139_code 21 = .ok (.iconst 0, 1) := by decide +kernel
theorem dd_jdk_42_method_139_code_22 : decode jdk_42_method_139_code 22 = .ok (.invokespecial 209, 3) := by decide +kernel
theorem dd_jdk_42_method_139_code_25 : decode jdk_42_method_139_code 25 = .ok (.areturn, 1) := by decide +kernel
theorem dd_jdk_42_method_151_code_0 : decode jdk_42_method_151_code 0 = .ok (.aload_n 0, 1) := by decide +kernel
theorem dd_jdk_42_method_151_code_1 : decode jdk_42_method_151_code 1 = .ok (.invokespecial 1, 3) := by decide +kernel
theorem dd_jdk_42_method_151_code_4 : decode jdk_42_method_151_code 4 = .ok (.aload_n 0, 1) := by decide +kernel
theorem dd_jdk_42_method_151_code_5 : decode jdk_42_method_151_code 5 = .ok (.aload_n 1, 1) := by decide +kernel
theorem dd_jdk_42_method_151_code_6 : decode jdk_42_method_151_code 6 = .ok (.putfield 9, 3) := by decide +kernel
theorem dd_jdk_42_method_151_code_9 : decode jdk_42_method_151_code 9 = .ok (.aload_n 0, 1) := by decide +kernel
theorem dd_jdk_42_method_151_code_10 : decode jdk_42_method_151_code 10 = .ok (.iload_n 2, 1) := by decide +kernel
theorem dd_jdk_42_method_151_code_11 : decode jdk_42_method_151_code 11 = .ok (.putfield 15, 3) := by decide +kernel
theorem dd_jdk_42_method_151_code_14 : decode jdk_42_method_151_code 14 = .ok (.return_, 1) := by decide +kernel
theorem dd_jdk_43_method_3_code_0 : decode jdk_43_method_3_code 0 = .ok (.iload_n 0, 1) := by decide +kernel
theorem dd_jdk_43_method_3_code_1 : decode jdk_43_method_3_code 1 = .ok (.sipush 255, 3) := by decide +kernel
theorem dd_jdk_43_method_3_code_4 : decode jdk_43_method_3_code 4 = .ok (.if_icmp .gt 7, 3) := by decide +kernel
theorem dd_jdk_43_method_3_code_7 : decode jdk_43_method_3_code 7 = .ok (.iconst 1, 1) := by decide +kernel
theorem dd_jdk_43_method_3_code_8 : decode jdk_43_method_3_code 8 = .ok (.goto 4, 3) := by decide +kernel
theorem dd_jdk_43_method_3_code_11 : decode jdk_43_method_3_code 11 = .ok (.iconst 0, 1) := by decide +kernel
theorem dd_jdk_43_method_3_code_12 : decode jdk_43_method_3_code 12 = .ok (.ireturn, 1) := by decide +kernel
theorem dd_jdk_43_method_46_code_0 : decode jdk_43_method_46_code 0 = .ok (.iconst 1, 1) := by decide +kernel
theorem dd_jdk_43_method_46_code_1 : decode jdk_43_method_46_code 1 = .ok (.newarray .byte, 2) := by decide +kernel
theorem dd_jdk_43_method_46_code_3 : decode jdk_43_method_46_code 3 = .ok (.dup, 1) := by decide +kernel
theorem dd_jdk_43_method_46_code_4 : decode jdk_43_method_46_code 4 = .ok (.iconst 0, 1) := by decide +kernel
theorem dd_jdk_43_method_46_code_5 : decode jdk_43_method_46_code 5 = .ok (.iload_n 0, 1) := by decide +kernel
theorem dd_jdk_43_method_46_code_6 : decode jdk_43_method_46_code 6 = .ok (.i2b, 1) := by decide +kernel
theorem dd_jdk_43_method_46_code_7 : decode jdk_43_method_46_code 7 = .ok (.bastore, 1) := by decide +kernel
theorem dd_jdk_43_method_46_code_8 : decode jdk_43_method_46_code 8 = .ok (.areturn, 1) := by decide +kernel
theorem dd_prog_14_method_1_code_0 : decode prog_14_method_1_code 0 = .ok (.aload_n 0, 1) := by decide +kernel
theorem dd_prog_14_method_1_code_1 : decode prog_14_method_1_code 1 = .ok (.invokespecial 1, 3) := by decide +kernel
theorem dd_prog_14_method_1_code_4 : decode prog_14_method_1_code 4 = .ok (.iload_n 2, 1) := by decide +kernel
theorem dd_prog_14_method_1_code_5 : decode prog_14_method_1_code 5 = .ok (.iconst 1, 1) := by decide +kernel
theorem dd_prog_14_method_1_code_6 : decode prog_14_method_1_code 6 = .ok (.if_icmp .ge 17, 3) := by decide +kernel
theorem dd_prog_14_method_1_code_23 : decode prog_14_method_1_code 23 = .ok (.iload_n 3, 1) := by decide +kernel
theorem dd_prog_14_method_1_code_24 : decode prog_14_method_1_code 24 = .ok (.iconst 1, 1) := by decide +kernel
theorem dd_prog_14_method_1_code_25 : decode prog_14_method_1_code 25 = .ok (.if_icmp .ge 17, 3) := by decide +kernel
theorem dd_prog_14_method_1_code_42 : decode prog_14_method_1_code 42 = .ok (.dload 4, 2) := by decide +kernel
theorem dd_prog_14_method_1_code_44 : decode prog_14_method_1_code 44 = .ok (.dconst 0, 1) := by decide +kernel
theorem dd_prog_14_method_1_code_45 : decode prog_14_method_1_code 45 = .ok (.dcmp .l, 1) := by decide +kernel
theorem dd_prog_14_method_1_code_46 : decode prog_14_method_1_code 46 = .ok (.ifCond .lt 11, 3) := by decide +kernel
theorem dd_prog_14_method_1_code_49 : decode prog_14_method_1_code 49 = .ok (.dload 4, 2) := by decide +kernel
theorem dd_prog_14_method_1_code_51 : decode prog_14_method_1_code 51 = .ok (.invokestatic 17, 3) := by decide +kernel
theorem dd_prog_14_method_1_code_54 : decode prog_14_method_1_code 54 = .ok (.ifCond .eq 18, 3) := by decide +kernel
theorem dd_prog_14_method_1_code_72 : decode prog_14_method_1_code 72 = .ok (.aload_n 0, 1) := by decide +kernel
theorem dd_prog_14_method_1_code_73 : decode prog_14_method_1_code 73 = .ok (.aload_n 1, 1) := by decide +kernel
theorem dd_prog_14_method_1_code_74 : decode prog_14_method_1_code 74 = .ok (.ldc 26, 2) := by decide +kernel
theorem dd_prog_14_method_1_code_76 : decode prog_14_method_1_code 76 = .ok (.invokestatic 28, 3) := by decide +kernel
theorem dd_prog_14_method_1_code_79 : decode prog_14_method_1_code 79 = .ok (.checkcast 34, 3) := by decide +kernel
theorem dd_prog_14_method_1_code_82 : decode prog_14_method_1_code 82 = .ok (.putfield 36, 3) := by decide +kernel
theorem dd_prog_14_method_1_code_85 : decode prog_14_method_1_code 85 = .ok (.aload_n 0, 1) := by decide +kernel
theorem dd_prog_14_method_1_code_86 : decode prog_14_method_1_code 86 = .ok (.iload_n 2, 1) := by decide +kernel
theorem dd_prog_14_method_1_code_87 : decode prog_14_method_1_code 87 = .ok (.putfield 41, 3) := by decide +kernel
theorem dd_prog_14_method_1_code_90 : decode prog_14_method_1_code 90 = .ok (.aload_n 0, 1) := by decide +kernel
theorem dd_prog_14_method_1_code_91 : decode prog_14_method_1_code 91 = .ok (.iload_n 3, 1) := by decide +kernel
theorem dd_prog_14_method_1_code_92 : decode prog_14_method_1_code 92 = .ok (.putfield 45, 3) := by decide +kernel
theorem dd_prog_14_method_1_code_95 : decode prog_14_method_1_code 95 = .ok (.aload_n 0, 1) := by decide +kernel
theorem dd_prog_14_method_1_code_96 : decode prog_14_method_1_code 96 = .ok (.dload 4, 2) := by decide +kernel
theorem dd_prog_14_method_1_code_98 : decode prog_14_method_1_code 98 = .ok (.putfield 48, 3) := by decide +kernel
theorem dd_prog_14_method_1_code_101 : decode prog_14_method_1_code 101 = .ok (.return_, 1) := by decide +kernel
theorem dd_prog_14_method_4_code_0 : decode prog_14_method_4_code 0 = .ok (.aload_n 0, 1) := by decide +kernel
theorem dd_prog_14_method_4_code_1 : decode prog_14_method_4_code 1 = .ok (.getfield 41, 3) := by decide +kernel
theorem dd_prog_14_method_4_code_4 : decode prog_14_method_4_code 4 = .ok (.iload_n 1, 1) := by decide +kernel
theorem dd_prog_14_method_4_code_5 : decode prog_14_method_4_code 5 = .ok (.if_icmp .gt 20, 3) := by decide +kernel
theorem dd_prog_14_method_4_code_8 : decode prog_14_method_4_code 8 = .ok (.iload_n 1, 1) := by decide +kernel
theorem dd_prog_14_method_4_code_9 : decode prog_14_method_4_code 9 = .ok (.aload_n 0, 1) := by decide +kernel
theorem dd_prog_14_method_4_code_10 : decode prog_14_method_4_code 10 = .ok (.getfield 41, 3) := by decide +kernel
theorem dd_prog_14_method_4_code_13 : decode prog_14_method_4_code 13 = .ok (.isub, 1) := by decide +kernel
theorem dd_prog_14_method_4_code_14 : decode prog_14_method_4_code 14 = .ok (.aload_n 0, 1) := by decide +kernel
theorem dd_prog_14_method_4_code_15 : decode prog_14_method_4_code 15 = .ok (.getfield 45, 3) := by decide +kernel
theorem dd_prog_14_method_4_code_18 : decode prog_14_method_4_code 18 = .ok (.if_icmp .ge 7, 3) := by decide +kernel
theorem dd_prog_14_method_4_code_21 : decode prog_14_method_4_code 21 = .ok (.iconst 1, 1) := by decide +kernel
theorem dd_prog_14_method_4_code_22 : decode prog_14_method_4_code 22 = .ok (.goto 4, 3) := by decide +kernel
theorem dd_prog_14_method_4_code_25 : decode prog_14_method_4_code 25 = .ok (.iconst 0, 1) := by decide +kernel
theorem dd_prog_14_method_4_code_26 : decode prog_14_method_4_code 26 = .ok (.ireturn, 1) := by decide +kernel
theorem pd__C_Z : parseMethodDescriptor "(C)Z" = some ⟨[.char], some .boolean⟩ := by decide +kernel
theorem pd__C__B : parseMethodDescriptor "(C)[B" = some ⟨[.char], some (.array .byte)⟩ := by decide +kernel
theorem pd___BB_V : parseMethodDescriptor "([BB)V" = some ⟨[(.array .byte), .byte], none⟩ := by decide +kernel
theorem pd__D_D : parseMethodDescriptor "(D)D" = some ⟨[.double], some .double⟩ := by decide +kernel
theorem pd__D_Z : parseMethodDescriptor "(D)Z" = some ⟨[.double], some .boolean⟩ := by decide +kernel
theorem pd__Ljava_lang_Object_Ljava_lang_String__Ljava_lang_Object_ : parseMethodDescriptor "(Ljava/lang/Object;Ljava/lang/String;)Ljava/lang/Object;" = some ⟨[(.object "java/lang/Object"), (.object "java/lang/String")], some (.object "java/lang/Object")⟩ := by decide +kernel
theorem pd__JJ_J : parseMethodDescriptor "(JJ)J" = some ⟨[.long, .long], some .long⟩ := by decide +kernel
theorem pd__C_Ljava_lang_String_ : parseMethodDescriptor "(C)Ljava/lang/String;" = some ⟨[.char], some (.object "java/lang/String")⟩ := by decide +kernel
theorem pd__Ljava_lang_String_IID_V : parseMethodDescriptor "(Ljava/lang/String;IID)V" = some ⟨[(.object "java/lang/String"), .int, .int, .double], none⟩ := by decide +kernel
theorem pd__I_Z : parseMethodDescriptor "(I)Z" = some ⟨[.int], some .boolean⟩ := by decide +kernel
set_option maxRecDepth 65536 in
set_option maxHeartbeats 4000000 in
theorem own_canEncode (l : Launch) {Z : State} {a0 : Array Value} (hE : Ctx Z a0) {n0 : Nat} {h0 : Heap} (O : Old Z n0 h0) {c0 : Int32}   :
    Met l (⟨"java/lang/StringLatin1", "canEncode", "(C)Z"⟩ : MethodName) jdk_43_method_3_code 1 (Option.some Jvm.ClassFile.FieldType.boolean) ({ frames := 0, cells := 0, slots := 0, locals := 0 } : Room) Z consts_1 n0 [] #[(.int c0)] h0 (fun v h => v = some (.int (if (255 : Int32) < c0 then (0 : Int32) else (1 : Int32))) ∧ h0 = h) := by
  have hw := hE.1
  have hEL := own_EW hw
  have own_wS := own_stringAtoms hw
  refine Met.of (by first | (refine plainFor_of_name ?_; simp [plainName, overriddenIn]; done) | decide +kernel) O ?_
  intro p e s m below meth c T0 hx hby hml hret hlk hnm hh0 W0
  have z0 := W0.ge
  refine Go.st (g' := (mkF m 0 #[.val (.int c0)] [])) (fun _ k => castTop (by first | (simp [entryFrame, mkF, argsToLocals, maxLocals, own_catI, own_catJ, own_catD, own_catA, own_catN]; done) | rfl) k) ?_
  refine Go.st (g' := (mkF m 1 #[.val (.int c0)] [(.int c0)])) (fun _ k => XS.iloadN W0.here hx rfl (hb hby dd_jdk_43_method_3_code_0) rfl  k) ?_
  refine Go.st (g' := (mkF m 4 #[.val (.int c0)] [(.int (255 : Int32)), (.int c0)])) (fun _ k => XS.sipush W0.here hx rfl (hb hby dd_jdk_43_method_3_code_1) k) ?_
  by_cases hc1 : (255 : Int32) < c0
  · refine Go.st (g' := (mkF m 11 #[.val (.int c0)] [])) (fun _ k => XS.icmpYes W0.here hx rfl (pc0 := 4) (pc' := 11) rfl (hb hby dd_jdk_43_method_3_code_4) rfl (tlt hc1).2.2.1 (by decide) (by decide) k) ?_
    refine Go.st (g' := (mkF m 12 #[.val (.int c0)] [(.int (0 : Int32))])) (fun _ k => XS.iconst W0.here hx rfl (hb hby dd_jdk_43_method_3_code_11) k) ?_
    exact W0.retN hx hEL hlk (t := .boolean) hret (by decide) (hb hby dd_jdk_43_method_3_code_12) (by decide) (by decide) ⟨by rw [if_pos hc1]; rfl, rfl⟩
  · refine Go.st (g' := (mkF m 7 #[.val (.int c0)] [])) (fun _ k => XS.icmpNo W0.here hx rfl (hb hby dd_jdk_43_method_3_code_4) rfl (flt hc1).2.2.1 k) ?_
    refine Go.st (g' := (mkF m 8 #[.val (.int c0)] [(.int (1 : Int32))])) (fun _ k => XS.iconst W0.here hx rfl (hb hby dd_jdk_43_method_3_code_7) k) ?_
    refine Go.st (g' := (mkF m 12 #[.val (.int c0)] [(.int (1 : Int32))])) (fun _ k => XS.goto W0.here hx rfl (pc0 := 8) (pc' := 12) rfl (hb hby dd_jdk_43_method_3_code_8) (by decide) (by decide) k) ?_
    exact W0.retN hx hEL hlk (t := .boolean) hret (by decide) (hb hby dd_jdk_43_method_3_code_12) (by decide) (by decide) ⟨by rw [if_neg hc1]; rfl, rfl⟩
set_option maxRecDepth 65536 in
set_option maxHeartbeats 4000000 in
theorem own_toBytes (l : Launch) {Z : State} {a0 : Array Value} (hE : Ctx Z a0) {n0 : Nat} {h0 : Heap} (O : Old Z n0 h0) {c0 : Int32}   :
    Met l (⟨"java/lang/StringLatin1", "toBytes", "(C)[B"⟩ : MethodName) jdk_43_method_46_code 1 (Option.some (Jvm.ClassFile.FieldType.array Jvm.ClassFile.FieldType.byte)) ({ frames := 0, cells := 1, slots := 1, locals := 0 } : Room) Z consts_1 n0 [] #[(.int c0)] h0 (fun v h => ∃ (b : Addr), ∃ (kb : ClassId), v = some (.ref b) ∧ h0.size ≤ b ∧ Arv Z h b kb .byte (1 : Int32) [(.int (c0.toInt8.toInt32))] (.int (0 : Int32)) ∧ Keep h0 h []) := by
  have hw := hE.1
  have hEL := own_EW hw
  have own_wS := own_stringAtoms hw
  refine Met.of (by first | (refine plainFor_of_name ?_; simp [plainName, overriddenIn]; done) | decide +kernel) O ?_
  intro p e s m below meth c T0 hx hby hml hret hlk hnm hh0 W0
  have z0 := W0.ge
  refine Go.st (g' := (mkF m 0 #[.val (.int c0)] [])) (fun _ k => castTop (by first | (simp [entryFrame, mkF, argsToLocals, maxLocals, own_catI, own_catJ, own_catD, own_catA, own_catN]; done) | rfl) k) ?_
  refine Go.st (g' := (mkF m 1 #[.val (.int c0)] [(.int (1 : Int32))])) (fun _ k => XS.iconst W0.here hx rfl (hb hby dd_jdk_43_method_46_code_0) k) ?_
  obtain ⟨T1, h1, a1, k1, g1, W1, E1, z1, X1, S1, SF1, st1⟩ := W0.newP hx (ty := .byte) rfl (hw _ (List.mem_of_getElem? (i := 25) rfl)) (g := (mkF m 1 #[.val (.int c0)] [(.int (1 : Int32))])) rfl (hb hby dd_jdk_43_method_46_code_1) rfl (by decide) (cap := 1) (by decide) (by decide) (by decide) (by decide) 1
  have F2 : Arv Z h1 a1 k1 .byte (1 : Int32) [(.int (0 : Int32))] (.int (0 : Int32)) := X1
  refine Go.st (g' := (mkF m 3 #[.val (.int c0)] [(.ref a1)])) st1 ?_
  refine Go.st (g' := (mkF m 4 #[.val (.int c0)] [(.ref a1), (.ref a1)])) (fun _ k => XS.dup W1.here hx rfl (hb hby dd_jdk_43_method_46_code_3) rfl rfl k) ?_
  refine Go.st (g' := (mkF m 5 #[.val (.int c0)] [(.int (0 : Int32)), (.ref a1), (.ref a1)])) (fun _ k => XS.iconst W1.here hx rfl (hb hby dd_jdk_43_method_46_code_4) k) ?_
  refine Go.st (g' := (mkF m 6 #[.val (.int c0)] [(.int c0), (.int (0 : Int32)), (.ref a1), (.ref a1)])) (fun _ k => XS.iloadN W1.here hx rfl (hb hby dd_jdk_43_method_46_code_5) rfl  k) ?_
  refine Go.st (g' := (mkF m 7 #[.val (.int c0)] [(.int (c0.toInt8.toInt32)), (.int (0 : Int32)), (.ref a1), (.ref a1)])) (fun _ k => XS.i2b W1.here hx rfl (hb hby dd_jdk_43_method_46_code_6) rfl k) ?_
  obtain ⟨T3, h3, W3, R3, z3, X3, SF3, st3⟩ := W1.stB hx F2 S1 ⟨by decide, by decide⟩ 0 rfl (Nat.le_of_ble_eq_true rfl) (by omega) (g := (mkF m 7 #[.val (.int c0)] [(.int (c0.toInt8.toInt32)), (.int (0 : Int32)), (.ref a1), (.ref a1)])) rfl rfl (hb hby dd_jdk_43_method_46_code_7)
  have F4 : Arv Z h3 a1 k1 .byte (1 : Int32) [(.int (c0.toInt8.toInt32))] (.int (0 : Int32)) := (by have q := X3; rw [show nar .byte (c0.toInt8.toInt32) = (c0.toInt8.toInt32) from own_narB _] at q; exact q)
  refine Go.st (g' := (mkF m 8 #[.val (.int c0)] [(.ref a1)])) st3 ?_
  exact W3.retA hx hEL hlk hret rfl rfl rfl (hb hby dd_jdk_43_method_46_code_8) (by decide) (by decide) ⟨a1, k1, rfl, (by omega), F4, (((Keep.refl h0 []).ext E1).wr R3 (Or.inr (by omega)))⟩
set_option maxRecDepth 65536 in
set_option maxHeartbeats 4000000 in
theorem own_initBB (l : Launch) {Z : State} {a0 : Array Value} (hE : Ctx Z a0) {n0 : Nat} {h0 : Heap} (O : Old Z n0 h0) {x0 : Addr} {b0 : Addr} (hx0 : n0 ≤ x0) (P0 : Exa Z h0 x0 "java/lang/String") (P1 : Fld Z h0 x0 "java/lang/String" "value" "[B" .null) (P2 : Fld Z h0 x0 "java/lang/String" "coder" "B" (.int (0 : Int32))) :
    Met l (⟨"java/lang/String", "<init>", "([BB)V"⟩ : MethodName) jdk_42_method_151_code 3 (Option.none : Option Jvm.ClassFile.FieldType) ({ frames := 1, cells := 0, slots := 0, locals := 12 } : Room) Z consts_1 n0 [] #[(.ref x0), (.ref b0), (.int (0 : Int32))] h0 (fun v h => v = none ∧ Fld Z h x0 "java/lang/String" "value" "[B" (.ref b0) ∧ Fld Z h x0 "java/lang/String" "coder" "B" (.int (0 : Int32)) ∧ Keep h0 h [x0]) := by
  have hw := hE.1
  have hEL := own_EW hw
  have own_wS := own_stringAtoms hw
  refine Met.of (by first | (refine plainFor_of_name ?_; simp [plainName, overriddenIn]; done) | decide +kernel) O ?_
  intro p e s m below meth c T0 hx hby hml hret hlk hnm hh0 W0
  have z0 := W0.ge
  have yP0 : h0.size > x0 := P0.lt
  refine Go.st (g' := (mkF m 0 #[.val (.ref x0), .val (.ref b0), .val (.int (0 : Int32))] [])) (fun _ k => castTop (by first | (simp [entryFrame, mkF, argsToLocals, maxLocals, own_catI, own_catJ, own_catD, own_catA, own_catN]; done) | rfl) k) ?_
  refine Go.st (g' := (mkF m 1 #[.val (.ref x0), .val (.ref b0), .val (.int (0 : Int32))] [(.ref x0)])) (fun _ k => XS.aloadN W0.here hx rfl (hb hby dd_jdk_42_method_151_code_0) rfl rfl  k) ?_
  obtain ⟨T1, W1, st1⟩ := W0.initO hx (hw _ (List.mem_of_getElem? (i := 30) rfl)) (hw _ (List.mem_of_getElem? (i := 31) rfl)) (hw _ (List.mem_of_getElem? (i := 32) rfl)) (g := (mkF m 1 #[.val (.ref x0), .val (.ref b0), .val (.int (0 : Int32))] [(.ref x0)])) rfl (by rw [hml]; rfl) rfl (hb hby dd_jdk_42_method_151_code_1) (by decide) (Wd := 0) (by show 2 * 0 + _ ≤ _; exact Nat.le_of_eq rfl) (by decide)
  refine Go.st (g' := (mkF m 4 #[.val (.ref x0), .val (.ref b0), .val (.int (0 : Int32))] [])) st1 ?_
  refine Go.st (g' := (mkF m 5 #[.val (.ref x0), .val (.ref b0), .val (.int (0 : Int32))] [(.ref x0)])) (fun _ k => XS.aloadN W1.here hx rfl (hb hby dd_jdk_42_method_151_code_4) rfl rfl  k) ?_
  refine Go.st (g' := (mkF m 6 #[.val (.ref x0), .val (.ref b0), .val (.int (0 : Int32))] [(.ref b0), (.ref x0)])) (fun _ k => XS.aloadN W1.here hx rfl (hb hby dd_jdk_42_method_151_code_5) rfl rfl  k) ?_
  have S3 : Safe Z consts_1 s.vm h0 x0 := own_safe_blank W1.warm.alike P0 P1
  obtain ⟨T2, h2, W2, R2, z2, X2, SF2, st2⟩ := W1.putF hx (hw _ (List.mem_of_getElem? (i := 33) rfl)) Via.refl P1 P0 (Or.inr ⟨(hw _ (List.mem_of_getElem? (i := 34) rfl)), rfl, hnm⟩) (hw _ (List.mem_of_getElem? (i := 21) rfl)) (ty := (.array .byte)) (by decide) rfl rfl S3 (by omega) (g := (mkF m 6 #[.val (.ref x0), .val (.ref b0), .val (.int (0 : Int32))] [(.ref b0), (.ref x0)])) rfl rfl (hb hby dd_jdk_42_method_151_code_6)
  refine Go.st (g' := (mkF m 9 #[.val (.ref x0), .val (.ref b0), .val (.int (0 : Int32))] [])) st2 ?_
  refine Go.st (g' := (mkF m 10 #[.val (.ref x0), .val (.ref b0), .val (.int (0 : Int32))] [(.ref x0)])) (fun _ k => XS.aloadN W2.here hx rfl (hb hby dd_jdk_42_method_151_code_9) rfl rfl  k) ?_
  refine Go.st (g' := (mkF m 11 #[.val (.ref x0), .val (.ref b0), .val (.int (0 : Int32))] [(.int (0 : Int32)), (.ref x0)])) (fun _ k => XS.iloadN W2.here hx rfl (hb hby dd_jdk_42_method_151_code_10) rfl  k) ?_
  have F5 : Fld Z h2 x0 "java/lang/String" "coder" "B" (.int (0 : Int32)) := (P2.other R2 (Or.inr (slot_ne (Or.inr (hw _ (List.mem_of_getElem? (i := 36) rfl))) (Or.inr (hw _ (List.mem_of_getElem? (i := 34) rfl))) (by decide) (t := .byte) (t' := (.array .byte)) (by decide) (by decide))))
  have F6 : Exa Z h2 x0 "java/lang/String" := (P0.wr R2)
  have F7 : Safe Z consts_1 s.vm h2 x0 := (SF2 _ (by omega) S3)
  obtain ⟨T4, h4, W4, R4, z4, X4, SF4, st4⟩ := W2.putF hx (hw _ (List.mem_of_getElem? (i := 35) rfl)) Via.refl F5 F6 (Or.inr ⟨(hw _ (List.mem_of_getElem? (i := 36) rfl)), rfl, hnm⟩) (hw _ (List.mem_of_getElem? (i := 21) rfl)) (ty := .byte) (by decide) rfl rfl F7 (by omega) (g := (mkF m 11 #[.val (.ref x0), .val (.ref b0), .val (.int (0 : Int32))] [(.int (0 : Int32)), (.ref x0)])) rfl rfl (hb hby dd_jdk_42_method_151_code_11)
  refine Go.st (g' := (mkF m 14 #[.val (.ref x0), .val (.ref b0), .val (.int (0 : Int32))] [])) st4 ?_
  have F8 : Fld Z h4 x0 "java/lang/String" "value" "[B" (.ref b0) := (X2.other R4 (Or.inr (slot_ne (Or.inr (hw _ (List.mem_of_getElem? (i := 34) rfl))) (Or.inr (hw _ (List.mem_of_getElem? (i := 36) rfl))) (by decide) (t := (.array .byte)) (t' := .byte) (by decide) (by decide))))
  exact W4.retV hx hEL hlk hret (hb hby dd_jdk_42_method_151_code_14) (by decide) (by decide) ⟨rfl, F8, X4, (((Keep.refl h0 [x0]).wr R2 (Or.inl (List.mem_of_getElem? (i := 0) rfl))).wr R4 (Or.inl (List.mem_of_getElem? (i := 0) rfl)))⟩
set_option maxRecDepth 65536 in
set_option maxHeartbeats 4000000 in
theorem own_valueOf (l : Launch) {Z : State} {a0 : Array Value} (hE : Ctx Z a0) {n0 : Nat} {h0 : Heap} (O : Old Z n0 h0) {c0 : Int32} (hc0 : ¬ c0 < 0 ∧ ¬ (255 : Int32) < c0)  :
    Met l (⟨"java/lang/String", "valueOf", "(C)Ljava/lang/String;"⟩ : MethodName) jdk_42_method_139_code 1 (Option.some (Jvm.ClassFile.FieldType.object "java/lang/String")) ({ frames := 2, cells := 2, slots := 5, locals := 27 } : Room) Z consts_1 n0 [] #[(.int c0)] h0 (fun v h => ∃ (x : Addr), v = some (.ref x) ∧ h0.size ≤ x ∧ Exa Z h x "java/lang/String" ∧ Keep h0 h []) := by
  have hw := hE.1
  have hEL := own_EW hw
  have own_wS := own_stringAtoms hw
  obtain ⟨zc, hzc, hzc0⟩ := hE.2.1
  refine Met.of (by first | (refine plainFor_of_name ?_; simp [plainName, overriddenIn]; done) | decide +kernel) O ?_
  intro p e s m below meth c T0 hx hby hml hret hlk hnm hh0 W0
  have z0 := W0.ge
  refine Go.st (g' := (mkF m 0 #[.val (.int c0)] [])) (fun _ k => castTop (by first | (simp [entryFrame, mkF, argsToLocals, maxLocals, own_catI, own_catJ, own_catD, own_catA, own_catN]; done) | rfl) k) ?_
  obtain ⟨T1, W1, st1⟩ := W0.getS hx (hw _ (List.mem_of_getElem? (i := 15) rfl)) Via.refl (W0.sta hzc) (g := (mkF m 0 #[.val (.int c0)] [])) rfl (hb hby dd_jdk_42_method_139_code_0)
  refine Go.st (g' := (mkF m 3 #[.val (.int c0)] [(.int zc)])) st1 ?_
  refine Go.st (g' := (mkF m 6 #[.val (.int c0)] [])) (fun _ k => XS.ifNo W1.here hx rfl (hb hby dd_jdk_42_method_139_code_3) rfl ((if0 _ _).trans (feq hzc0).1) k) ?_
  refine Go.st (g' := (mkF m 7 #[.val (.int c0)] [(.int c0)])) (fun _ k => XS.iloadN W1.here hx rfl (hb hby dd_jdk_42_method_139_code_6) rfl  k) ?_
  obtain ⟨_, vm2, T2, h2, W2, Q2, z2, SF2, st2⟩ := W1.callS hx hEL (own_canEncode l hE W1.old (c0 := c0)  ) (hw _ (List.mem_of_getElem? (i := 16) rfl)) (hw _ (List.mem_of_getElem? (i := 17) rfl)) (hw _ (List.mem_of_getElem? (i := 18) rfl)) (hw _ (List.mem_of_getElem? (i := 19) rfl)) (by decide) (Wd := 0) (by decide) (by decide) (by decide) (by decide) (g := (mkF m 7 #[.val (.int c0)] [(.int c0)])) rfl (by rw [hml]; rfl) (argsL := [(.int c0)]) (rest := []) rfl (lenOf pd__C_Z rfl) rfl (by show 2 * 0 + _ ≤ _; exact Nat.le_of_eq rfl) (hb hby dd_jdk_42_method_139_code_7)
  obtain ⟨rfl, eh2⟩ := Q2
  subst eh2
  refine Go.tr (g' := (mkF m 10 #[.val (.int c0)] [(.int (if (255 : Int32) < c0 then (0 : Int32) else (1 : Int32)))])) st2 ?_
  refine Go.st (g' := (mkF m 13 #[.val (.int c0)] [])) (fun _ k => XS.ifNo W2.here hx rfl (hb hby dd_jdk_42_method_139_code_10) rfl ((if0 _ _).trans (feq (by rw [if_neg hc0.2]; decide)).1) k) ?_
  obtain ⟨T3, h3, a3, g3, W3, E3, z3, X3, D3, S3, SF3, U3, st3⟩ := W2.newO hx (hw _ (List.mem_of_getElem? (i := 20) rfl)) (hw _ (List.mem_of_getElem? (i := 21) rfl)) (hw _ (List.mem_of_getElem? (i := 13) rfl)) (g := (mkF m 13 #[.val (.int c0)] [])) rfl (hb hby dd_jdk_42_method_139_code_13) (by decide) (by decide)
  have F4 : Fld Z h3 a3 "java/lang/String" "value" "[B" .null := D3 (Or.inr (hw _ (List.mem_of_getElem? (i := 34) rfl))) (ty := (.array .byte)) (by decide)
  have F5 : Fld Z h3 a3 "java/lang/String" "coder" "B" (.int (0 : Int32)) := D3 (Or.inr (hw _ (List.mem_of_getElem? (i := 36) rfl))) (ty := .byte) (by decide)
  refine Go.st (g' := (mkF m 16 #[.val (.int c0)] [(.ref a3)])) st3 ?_
  refine Go.st (g' := (mkF m 17 #[.val (.int c0)] [(.ref a3), (.ref a3)])) (fun _ k => XS.dup W3.here hx rfl (hb hby dd_jdk_42_method_139_code_16) rfl rfl k) ?_
  refine Go.st (g' := (mkF m 18 #[.val (.int c0)] [(.int c0), (.ref a3), (.ref a3)])) (fun _ k => XS.iloadN W3.here hx rfl (hb hby dd_jdk_42_method_139_code_17) rfl  k) ?_
  obtain ⟨_, vm6, T6, h6, W6, Q6, z6, SF6, st6⟩ := W3.callS hx hEL (own_toBytes l hE W3.old (c0 := c0)  ) (hw _ (List.mem_of_getElem? (i := 22) rfl)) (hw _ (List.mem_of_getElem? (i := 23) rfl)) (hw _ (List.mem_of_getElem? (i := 18) rfl)) (hw _ (List.mem_of_getElem? (i := 24) rfl)) (by decide) (Wd := 2) (by decide) (by decide) (by decide) (by decide) (g := (mkF m 18 #[.val (.int c0)] [(.int c0), (.ref a3), (.ref a3)])) rfl (by rw [hml]; rfl) (argsL := [(.int c0)]) (rest := [(.ref a3), (.ref a3)]) rfl (lenOf pd__C__B rfl) rfl (by show 2 * 0 + _ ≤ _; exact Nat.le_of_eq rfl) (hb hby dd_jdk_42_method_139_code_18)
  obtain ⟨b_6, kb_6, rfl, p6_0, f6_0, K6⟩ := Q6
  have yf6_0 : h6.size > b_6 := f6_0.lt
  refine Go.tr (g' := (mkF m 21 #[.val (.int c0)] [(.ref b_6), (.ref a3), (.ref a3)])) st6 ?_
  refine Go.st (g' := (mkF m 22 #[.val (.int c0)] [(.int (0 : Int32)), (.ref b_6), (.ref a3), (.ref a3)])) (fun _ k => XS.iconst W6.here hx rfl (hb hby dd_jdk_42_method_139_code_21) k) ?_
  have F8 : Exa Z h6 a3 "java/lang/String" := (X3.keep K6)
  have F9 : Fld Z h6 a3 "java/lang/String" "value" "[B" .null := (F4.keep K6 nin0)
  have F10 : Fld Z h6 a3 "java/lang/String" "coder" "B" (.int (0 : Int32)) := (F5.keep K6 nin0)
  obtain ⟨_, vm7, T7, h7, W7, Q7, z7, SF7, st7⟩ := W6.callI hx hEL (own_initBB l hE W6.old (x0 := a3) (b0 := b_6) (by omega) F8 F9 F10) rfl (hw _ (List.mem_of_getElem? (i := 26) rfl)) (hw _ (List.mem_of_getElem? (i := 27) rfl)) (hw _ (List.mem_of_getElem? (i := 13) rfl)) (hw _ (List.mem_of_getElem? (i := 29) rfl)) (by decide) (Wd := 1) (by decide) (by decide) (by decide) (by decide) (g := (mkF m 22 #[.val (.int c0)] [(.int (0 : Int32)), (.ref b_6), (.ref a3), (.ref a3)])) rfl (by rw [hml]; rfl) (a := a3) (argsL := [(.ref b_6), (.int (0 : Int32))]) (rest := [(.ref a3)]) rfl (lenOf pd___BB_V rfl) rfl (by show 2 * 0 + _ ≤ _; exact Nat.le_of_eq rfl) (hb hby dd_jdk_42_method_139_code_22)
  obtain ⟨rfl, f7_0, f7_1, K7⟩ := Q7
  refine Go.tr (g' := (mkF m 25 #[.val (.int c0)] [(.ref a3)])) st7 ?_
  have F11 : Exa Z h7 a3 "java/lang/String" := (F8.keep K7)
  exact W7.retA hx hEL hlk hret rfl rfl rfl (hb hby dd_jdk_42_method_139_code_25) (by decide) (by decide) ⟨a3, rfl, (by omega), F11, ((((Keep.refl h0 []).ext E3).trans K6 all0).trans K7 (allS (Or.inr (by omega)) all0))⟩
set_option maxRecDepth 65536 in
set_option maxHeartbeats 4000000 in
theorem own_minJ (l : Launch) {Z : State} {a0 : Array Value} (hE : Ctx Z a0) {n0 : Nat} {h0 : Heap} (O : Old Z n0 h0) {x0 : Int64} {y0 : Int64}   :
    Met l (⟨"java/lang/Math", "min", "(JJ)J"⟩ : MethodName) jdk_29_method_70_code 4 (Option.some Jvm.ClassFile.FieldType.long) ({ frames := 0, cells := 0, slots := 0, locals := 0 } : Room) Z consts_1 n0 [] #[(.long x0), (.long y0)] h0 (fun v h => ∃ (r : Int64), v = some (.long r) ∧ h0 = h) := by
  have hw := hE.1
  have hEL := own_EW hw
  have own_wS := own_stringAtoms hw
  refine Met.of (by first | (refine plainFor_of_name ?_; simp [plainName, overriddenIn]; done) | decide +kernel) O ?_
  intro p e s m below meth c T0 hx hby hml hret hlk hnm hh0 W0
  have z0 := W0.ge
  refine Go.st (g' := (mkF m 0 #[.val (.long x0), .second, .val (.long y0), .second] [])) (fun _ k => castTop (by first | (simp [entryFrame, mkF, argsToLocals, maxLocals, own_catI, own_catJ, own_catD, own_catA, own_catN]; done) | rfl) k) ?_
  refine Go.st (g' := (mkF m 1 #[.val (.long x0), .second, .val (.long y0), .second] [(.long x0)])) (fun _ k => XS.lloadN W0.here hx rfl (hb hby dd_jdk_29_method_70_code_0) rfl  k) ?_
  refine Go.st (g' := (mkF m 2 #[.val (.long x0), .second, .val (.long y0), .second] [(.long y0), (.long x0)])) (fun _ k => XS.lloadN W0.here hx rfl (hb hby dd_jdk_29_method_70_code_1) rfl  k) ?_
  refine Go.st (g' := (mkF m 3 #[.val (.long x0), .second, .val (.long y0), .second] [(.int (lcmpW x0 y0))])) (fun _ k => XS.lcmp W0.here hx rfl (hb hby dd_jdk_29_method_70_code_2) rfl k) ?_
  by_cases hc1 : (0 : Int32) < (lcmpW x0 y0)
  · refine Go.st (g' := (mkF m 10 #[.val (.long x0), .second, .val (.long y0), .second] [])) (fun _ k => XS.ifYes W0.here hx rfl (pc0 := 3) (pc' := 10) rfl (hb hby dd_jdk_29_method_70_code_3) rfl ((if0 _ _).trans (tlt hc1).2.2.1) (by decide) (by decide) k) ?_
    refine Go.st (g' := (mkF m 11 #[.val (.long x0), .second, .val (.long y0), .second] [(.long y0)])) (fun _ k => XS.lloadN W0.here hx rfl (hb hby dd_jdk_29_method_70_code_10) rfl  k) ?_
    exact W0.retJ hx hEL hlk hret (hb hby dd_jdk_29_method_70_code_11) (by decide) (by decide) ⟨y0, rfl, rfl⟩
  · refine Go.st (g' := (mkF m 6 #[.val (.long x0), .second, .val (.long y0), .second] [])) (fun _ k => XS.ifNo W0.here hx rfl (hb hby dd_jdk_29_method_70_code_3) rfl ((if0 _ _).trans (flt hc1).2.2.1) k) ?_
    refine Go.st (g' := (mkF m 7 #[.val (.long x0), .second, .val (.long y0), .second] [(.long x0)])) (fun _ k => XS.lloadN W0.here hx rfl (hb hby dd_jdk_29_method_70_code_6) rfl  k) ?_
    refine Go.st (g' := (mkF m 11 #[.val (.long x0), .second, .val (.long y0), .second] [(.long x0)])) (fun _ k => XS.goto W0.here hx rfl (pc0 := 7) (pc' := 11) rfl (hb hby dd_jdk_29_method_70_code_7) (by decide) (by decide) k) ?_
    exact W0.retJ hx hEL hlk hret (hb hby dd_jdk_29_method_70_code_11) (by decide) (by decide) ⟨x0, rfl, rfl⟩
set_option maxRecDepth 65536 in
set_option maxHeartbeats 4000000 in
theorem own_maxJ (l : Launch) {Z : State} {a0 : Array Value} (hE : Ctx Z a0) {n0 : Nat} {h0 : Heap} (O : Old Z n0 h0) {x0 : Int64} {y0 : Int64}   :
    Met l (⟨"java/lang/Math", "max", "(JJ)J"⟩ : MethodName) jdk_29_method_66_code 4 (Option.some Jvm.ClassFile.FieldType.long) ({ frames := 0, cells := 0, slots := 0, locals := 0 } : Room) Z consts_1 n0 [] #[(.long x0), (.long y0)] h0 (fun v h => ∃ (r : Int64), v = some (.long r) ∧ h0 = h) := by
  have hw := hE.1
  have hEL := own_EW hw
  have own_wS := own_stringAtoms hw
  refine Met.of (by first | (refine plainFor_of_name ?_; simp [plainName, overriddenIn]; done) | decide +kernel) O ?_
  intro p e s m below meth c T0 hx hby hml hret hlk hnm hh0 W0
  have z0 := W0.ge
  refine Go.st (g' := (mkF m 0 #[.val (.long x0), .second, .val (.long y0), .second] [])) (fun _ k => castTop (by first | (simp [entryFrame, mkF, argsToLocals, maxLocals, own_catI, own_catJ, own_catD, own_catA, own_catN]; done) | rfl) k) ?_
  refine Go.st (g' := (mkF m 1 #[.val (.long x0), .second, .val (.long y0), .second] [(.long x0)])) (fun _ k => XS.lloadN W0.here hx rfl (hb hby dd_jdk_29_method_66_code_0) rfl  k) ?_
  refine Go.st (g' := (mkF m 2 #[.val (.long x0), .second, .val (.long y0), .second] [(.long y0), (.long x0)])) (fun _ k => XS.lloadN W0.here hx rfl (hb hby dd_jdk_29_method_66_code_1) rfl  k) ?_
  refine Go.st (g' := (mkF m 3 #[.val (.long x0), .second, .val (.long y0), .second] [(.int (lcmpW x0 y0))])) (fun _ k => XS.lcmp W0.here hx rfl (hb hby dd_jdk_29_method_66_code_2) rfl k) ?_
  by_cases hc1 : (lcmpW x0 y0) < (0 : Int32)
  · refine Go.st (g' := (mkF m 10 #[.val (.long x0), .second, .val (.long y0), .second] [])) (fun _ k => XS.ifYes W0.here hx rfl (pc0 := 3) (pc' := 10) rfl (hb hby dd_jdk_29_method_66_code_3) rfl ((if0 _ _).trans (tlt hc1).1) (by decide) (by decide) k) ?_
    refine Go.st (g' := (mkF m 11 #[.val (.long x0), .second, .val (.long y0), .second] [(.long y0)])) (fun _ k => XS.lloadN W0.here hx rfl (hb hby dd_jdk_29_method_66_code_10) rfl  k) ?_
    exact W0.retJ hx hEL hlk hret (hb hby dd_jdk_29_method_66_code_11) (by decide) (by decide) ⟨y0, rfl, rfl⟩
  · refine Go.st (g' := (mkF m 6 #[.val (.long x0), .second, .val (.long y0), .second] [])) (fun _ k => XS.ifNo W0.here hx rfl (hb hby dd_jdk_29_method_66_code_3) rfl ((if0 _ _).trans (flt hc1).1) k) ?_
    refine Go.st (g' := (mkF m 7 #[.val (.long x0), .second, .val (.long y0), .second] [(.long x0)])) (fun _ k => XS.lloadN W0.here hx rfl (hb hby dd_jdk_29_method_66_code_6) rfl  k) ?_
    refine Go.st (g' := (mkF m 11 #[.val (.long x0), .second, .val (.long y0), .second] [(.long x0)])) (fun _ k => XS.goto W0.here hx rfl (pc0 := 7) (pc' := 11) rfl (hb hby dd_jdk_29_method_66_code_7) (by decide) (by decide) k) ?_
    exact W0.retJ hx hEL hlk hret (hb hby dd_jdk_29_method_66_code_11) (by decide) (by decide) ⟨x0, rfl, rfl⟩
set_option maxRecDepth 65536 in
set_option maxHeartbeats 4000000 in
theorem own_isInf (l : Launch) {Z : State} {a0 : Array Value} (hE : Ctx Z a0) {n0 : Nat} {h0 : Heap} (O : Old Z n0 h0) {d0 : UInt64} (hd2 : Fl.NoNaN64 d0) (hd3 : ¬ 0 < cmpValue (FP.dcmp (d0 &&& 0x7fffffffffffffff) (9218868437227405311 : UInt64)) .l)  :
    Met l (⟨"java/lang/Double", "isInfinite", "(D)Z"⟩ : MethodName) jdk_117_method_7_code 2 (Option.some Jvm.ClassFile.FieldType.boolean) ({ frames := 1, cells := 0, slots := 0, locals := 13 } : Room) Z consts_1 n0 [] #[(.double d0)] h0 (fun v h => v = some (.int (0 : Int32)) ∧ h0 = h) := by
  have hw := hE.1
  have hEL := own_EW hw
  have own_wS := own_stringAtoms hw
  refine Met.of (by first | (refine plainFor_of_name ?_; simp [plainName, overriddenIn]; done) | decide +kernel) O ?_
  intro p e s m below meth c T0 hx hby hml hret hlk hnm hh0 W0
  have z0 := W0.ge
  refine Go.st (g' := (mkF m 0 #[.val (.double d0), .second] [])) (fun _ k => castTop (by first | (simp [entryFrame, mkF, argsToLocals, maxLocals, own_catI, own_catJ, own_catD, own_catA, own_catN]; done) | rfl) k) ?_
  refine Go.st (g' := (mkF m 1 #[.val (.double d0), .second] [(.double d0)])) (fun _ k => XS.dloadN W0.here hx rfl (hb hby dd_jdk_117_method_7_code_0) rfl  k) ?_
  obtain ⟨_, T1, h1, L1, W1, Q1, z1, SF1, st1⟩ := W0.paySt hx (hw _ (List.mem_of_getElem? (i := 48) rfl)) (hw _ (List.mem_of_getElem? (i := 49) rfl)) (hw _ (List.mem_of_getElem? (i := 6) rfl)) (hw _ (List.mem_of_getElem? (i := 50) rfl)) (by decide) (Wd := 0) (ws := []) (k := 0) (n := 0) (as' := #[.double d0]) (Qb := fun v h' L => v = some (.double (d0 &&& 0x7fffffffffffffff)) ∧ L = [] ∧ h0 = h') (own_abs (a := d0) W0.warmS (hw _ (List.mem_of_getElem? (i := 50) rfl)) hd2 (by decide) (by decide)) (fun v h' L q => ⟨q.2.2 ▸ Keep.refl _ _, q.2.1 ▸ Fr.nil _⟩) sf0 all0 (by decide) (by decide) (g := (mkF m 1 #[.val (.double d0), .second] [(.double d0)])) rfl (by rw [hml]; rfl) (argsL := [(.double d0)]) (rest := []) rfl (lenOf pd__D_D rfl) rfl (by show 2 * 0 + _ ≤ _; exact Nat.le_of_eq rfl) (hb hby dd_jdk_117_method_7_code_1)
  obtain ⟨rfl, rfl, rfl⟩ := Q1
  refine Go.tr (g' := (mkF m 4 #[.val (.double d0), .second] [(.double (d0 &&& 0x7fffffffffffffff))])) st1 ?_
  refine Go.st (g' := (mkF m 7 #[.val (.double d0), .second] [(.double (9218868437227405311 : UInt64)), (.double (d0 &&& 0x7fffffffffffffff))])) (W1.ldcD hx (hw _ (List.mem_of_getElem? (i := 51) rfl)) (g := (mkF m 4 #[.val (.double d0), .second] [(.double (d0 &&& 0x7fffffffffffffff))])) rfl (hb hby dd_jdk_117_method_7_code_4)) ?_
  refine Go.st (g' := (mkF m 8 #[.val (.double d0), .second] [(.int (cmpValue (FP.dcmp (d0 &&& 0x7fffffffffffffff) (9218868437227405311 : UInt64)) .l))])) (fun _ k => XS.dcmpS W1.here hx rfl (hb hby dd_jdk_117_method_7_code_7) rfl rfl k) ?_
  refine Go.st (g' := (mkF m 15 #[.val (.double d0), .second] [])) (fun _ k => XS.ifYes W1.here hx rfl (pc0 := 8) (pc' := 15) rfl (hb hby dd_jdk_117_method_7_code_8) rfl ((if0 _ _).trans (flt hd3).2.2.2) (by decide) (by decide) k) ?_
  refine Go.st (g' := (mkF m 16 #[.val (.double d0), .second] [(.int (0 : Int32))])) (fun _ k => XS.iconst W1.here hx rfl (hb hby dd_jdk_117_method_7_code_15) k) ?_
  exact W1.retN hx hEL hlk (t := .boolean) hret (by decide) (hb hby dd_jdk_117_method_7_code_16) (by decide) (by decide) ⟨rfl, rfl⟩
set_option maxRecDepth 65536 in
set_option maxHeartbeats 4000000 in
theorem own_rnn (l : Launch) {Z : State} {a0 : Array Value} (hE : Ctx Z a0) {n0 : Nat} {h0 : Heap} (O : Old Z n0 h0) {x0 : Addr} {m0 : Addr}   :
    Met l (⟨"java/util/Objects", "requireNonNull", "(Ljava/lang/Object;Ljava/lang/String;)Ljava/lang/Object;"⟩ : MethodName) jdk_31_method_11_code 2 (Option.some (Jvm.ClassFile.FieldType.object "java/lang/Object")) ({ frames := 0, cells := 0, slots := 0, locals := 0 } : Room) Z consts_1 n0 [] #[(.ref x0), (.ref m0)] h0 (fun v h => v = some (.ref x0) ∧ h0 = h) := by
  have hw := hE.1
  have hEL := own_EW hw
  have own_wS := own_stringAtoms hw
  refine Met.of (by first | (refine plainFor_of_name ?_; simp [plainName, overriddenIn]; done) | decide +kernel) O ?_
  intro p e s m below meth c T0 hx hby hml hret hlk hnm hh0 W0
  have z0 := W0.ge
  refine Go.st (g' := (mkF m 0 #[.val (.ref x0), .val (.ref m0)] [])) (fun _ k => castTop (by first | (simp [entryFrame, mkF, argsToLocals, maxLocals, own_catI, own_catJ, own_catD, own_catA, own_catN]; done) | rfl) k) ?_
  refine Go.st (g' := (mkF m 1 #[.val (.ref x0), .val (.ref m0)] [(.ref x0)])) (fun _ k => XS.aloadN W0.here hx rfl (hb hby dd_jdk_31_method_11_code_0) rfl rfl  k) ?_
  refine Go.st (g' := (mkF m 13 #[.val (.ref x0), .val (.ref m0)] [])) (fun _ k => XS.ifnonnullYes W0.here hx rfl (pc0 := 1) (pc' := 13) rfl (hb hby dd_jdk_31_method_11_code_1) rfl (by decide) (by decide) k) ?_
  refine Go.st (g' := (mkF m 14 #[.val (.ref x0), .val (.ref m0)] [(.ref x0)])) (fun _ k => XS.aloadN W0.here hx rfl (hb hby dd_jdk_31_method_11_code_13) rfl rfl  k) ?_
  exact W0.retA hx hEL hlk hret rfl rfl rfl (hb hby dd_jdk_31_method_11_code_14) (by decide) (by decide) ⟨rfl, rfl⟩
set_option maxRecDepth 65536 in
set_option maxHeartbeats 4000000 in
theorem own_initLE (l : Launch) {Z : State} {a0 : Array Value} (hE : Ctx Z a0) {n0 : Nat} {h0 : Heap} (O : Old Z n0 h0) {x0 : Addr} {b0 : Addr} {f0 : Int32} {r0 : Int32} {d0 : UInt64} (hx0 : n0 ≤ x0) (hf0 : ¬ f0 < (1 : Int32)) (hr0 : ¬ r0 < (1 : Int32)) (hd1 : ¬ cmpValue (FP.dcmp d0 FP.dconst0) .l < 0) (hd2 : Fl.NoNaN64 d0) (hd3 : ¬ 0 < cmpValue (FP.dcmp (d0 &&& 0x7fffffffffffffff) (9218868437227405311 : UInt64)) .l) (P0 : Exa Z h0 x0 "com/example/narrow_gap/narrowgap/Scenario$LoadEvent") (P1 : Exa Z h0 b0 "java/lang/String") (P2 : Fld Z h0 x0 "com/example/narrow_gap/narrowgap/Scenario$LoadEvent" "broker" "Ljava/lang/String;" .null) (P3 : Fld Z h0 x0 "com/example/narrow_gap/narrowgap/Scenario$LoadEvent" "fromRound" "I" (.int (0 : Int32))) (P4 : Fld Z h0 x0 "com/example/narrow_gap/narrowgap/Scenario$LoadEvent" "rounds" "I" (.int (0 : Int32))) (P5 : Fld Z h0 x0 "com/example/narrow_gap/narrowgap/Scenario$LoadEvent" "extraCpu" "D" (.double 0)) :
    Met l (⟨"com/example/narrow_gap/narrowgap/Scenario$LoadEvent", "<init>", "(Ljava/lang/String;IID)V"⟩ : MethodName) prog_14_method_1_code 6 (Option.none : Option Jvm.ClassFile.FieldType) ({ frames := 2, cells := 2, slots := 28, locals := 26 } : Room) Z consts_1 n0 [] #[(.ref x0), (.ref b0), (.int f0), (.int r0), (.double d0)] h0 (fun v h => v = none ∧ Fld Z h x0 "com/example/narrow_gap/narrowgap/Scenario$LoadEvent" "broker" "Ljava/lang/String;" (.ref b0) ∧ Fld Z h x0 "com/example/narrow_gap/narrowgap/Scenario$LoadEvent" "fromRound" "I" (.int f0) ∧ Fld Z h x0 "com/example/narrow_gap/narrowgap/Scenario$LoadEvent" "rounds" "I" (.int r0) ∧ Keep h0 h [x0]) := by
  have hw := hE.1
  have hEL := own_EW hw
  have own_wS := own_stringAtoms hw
  refine Met.of (by first | (refine plainFor_of_name ?_; simp [plainName, overriddenIn]; done) | decide +kernel) O ?_
  intro p e s m below meth c T0 hx hby hml hret hlk hnm hh0 W0
  have z0 := W0.ge
  have yP0 : h0.size > x0 := P0.lt
  have yP1 : h0.size > b0 := P1.lt
  refine Go.st (g' := (mkF m 0 #[.val (.ref x0), .val (.ref b0), .val (.int f0), .val (.int r0), .val (.double d0), .second] [])) (fun _ k => castTop (by first | (simp [entryFrame, mkF, argsToLocals, maxLocals, own_catI, own_catJ, own_catD, own_catA, own_catN]; done) | rfl) k) ?_
  refine Go.st (g' := (mkF m 1 #[.val (.ref x0), .val (.ref b0), .val (.int f0), .val (.int r0), .val (.double d0), .second] [(.ref x0)])) (fun _ k => XS.aloadN W0.here hx rfl (hb hby dd_prog_14_method_1_code_0) rfl rfl  k) ?_
  obtain ⟨T1, W1, st1⟩ := W0.initO hx (hw _ (List.mem_of_getElem? (i := 43) rfl)) (hw _ (List.mem_of_getElem? (i := 31) rfl)) (hw _ (List.mem_of_getElem? (i := 32) rfl)) (g := (mkF m 1 #[.val (.ref x0), .val (.ref b0), .val (.int f0), .val (.int r0), .val (.double d0), .second] [(.ref x0)])) rfl (by rw [hml]; rfl) rfl (hb hby dd_prog_14_method_1_code_1) (by decide) (Wd := 0) (by show 2 * 0 + _ ≤ _; exact Nat.le_of_eq rfl) (by decide)
  refine Go.st (g' := (mkF m 4 #[.val (.ref x0), .val (.ref b0), .val (.int f0), .val (.int r0), .val (.double d0), .second] [])) st1 ?_
  refine Go.st (g' := (mkF m 5 #[.val (.ref x0), .val (.ref b0), .val (.int f0), .val (.int r0), .val (.double d0), .second] [(.int f0)])) (fun _ k => XS.iloadN W1.here hx rfl (hb hby dd_prog_14_method_1_code_4) rfl  k) ?_
  refine Go.st (g' := (mkF m 6 #[.val (.ref x0), .val (.ref b0), .val (.int f0), .val (.int r0), .val (.double d0), .second] [(.int (1 : Int32)), (.int f0)])) (fun _ k => XS.iconst W1.here hx rfl (hb hby dd_prog_14_method_1_code_5) k) ?_
  refine Go.st (g' := (mkF m 23 #[.val (.ref x0), .val (.ref b0), .val (.int f0), .val (.int r0), .val (.double d0), .second] [])) (fun _ k => XS.icmpYes W1.here hx rfl (pc0 := 6) (pc' := 23) rfl (hb hby dd_prog_14_method_1_code_6) rfl (flt hf0).2.1 (by decide) (by decide) k) ?_
  refine Go.st (g' := (mkF m 24 #[.val (.ref x0), .val (.ref b0), .val (.int f0), .val (.int r0), .val (.double d0), .second] [(.int r0)])) (fun _ k => XS.iloadN W1.here hx rfl (hb hby dd_prog_14_method_1_code_23) rfl  k) ?_
  refine Go.st (g' := (mkF m 25 #[.val (.ref x0), .val (.ref b0), .val (.int f0), .val (.int r0), .val (.double d0), .second] [(.int (1 : Int32)), (.int r0)])) (fun _ k => XS.iconst W1.here hx rfl (hb hby dd_prog_14_method_1_code_24) k) ?_
  refine Go.st (g' := (mkF m 42 #[.val (.ref x0), .val (.ref b0), .val (.int f0), .val (.int r0), .val (.double d0), .second] [])) (fun _ k => XS.icmpYes W1.here hx rfl (pc0 := 25) (pc' := 42) rfl (hb hby dd_prog_14_method_1_code_25) rfl (flt hr0).2.1 (by decide) (by decide) k) ?_
  refine Go.st (g' := (mkF m 44 #[.val (.ref x0), .val (.ref b0), .val (.int f0), .val (.int r0), .val (.double d0), .second] [(.double d0)])) (fun _ k => XS.dload W1.here hx rfl (hb hby dd_prog_14_method_1_code_42) rfl  k) ?_
  refine Go.st (g' := (mkF m 45 #[.val (.ref x0), .val (.ref b0), .val (.int f0), .val (.int r0), .val (.double d0), .second] [(.double FP.dconst0), (.double d0)])) (fun _ k => XS.dconst0 W1.here hx rfl (hb hby dd_prog_14_method_1_code_44) rfl k) ?_
  refine Go.st (g' := (mkF m 46 #[.val (.ref x0), .val (.ref b0), .val (.int f0), .val (.int r0), .val (.double d0), .second] [(.int (cmpValue (FP.dcmp d0 FP.dconst0) .l))])) (fun _ k => XS.dcmpS W1.here hx rfl (hb hby dd_prog_14_method_1_code_45) rfl rfl k) ?_
  refine Go.st (g' := (mkF m 49 #[.val (.ref x0), .val (.ref b0), .val (.int f0), .val (.int r0), .val (.double d0), .second] [])) (fun _ k => XS.ifNo W1.here hx rfl (hb hby dd_prog_14_method_1_code_46) rfl ((if0 _ _).trans (flt hd1).1) k) ?_
  refine Go.st (g' := (mkF m 51 #[.val (.ref x0), .val (.ref b0), .val (.int f0), .val (.int r0), .val (.double d0), .second] [(.double d0)])) (fun _ k => XS.dload W1.here hx rfl (hb hby dd_prog_14_method_1_code_49) rfl  k) ?_
  obtain ⟨_, vm2, T2, h2, W2, Q2, z2, SF2, st2⟩ := W1.callS hx hEL (own_isInf l hE W1.old (d0 := d0) hd2 hd3 ) (hw _ (List.mem_of_getElem? (i := 44) rfl)) (hw _ (List.mem_of_getElem? (i := 45) rfl)) (hw _ (List.mem_of_getElem? (i := 46) rfl)) (hw _ (List.mem_of_getElem? (i := 47) rfl)) (by decide) (Wd := 0) (by decide) (by decide) (by decide) (by decide) (g := (mkF m 51 #[.val (.ref x0), .val (.ref b0), .val (.int f0), .val (.int r0), .val (.double d0), .second] [(.double d0)])) rfl (by rw [hml]; rfl) (argsL := [(.double d0)]) (rest := []) rfl (lenOf pd__D_Z rfl) rfl (by show 2 * 0 + _ ≤ _; exact Nat.le_of_eq rfl) (hb hby dd_prog_14_method_1_code_51)
  obtain ⟨rfl, eh2⟩ := Q2
  subst eh2
  refine Go.tr (g' := (mkF m 54 #[.val (.ref x0), .val (.ref b0), .val (.int f0), .val (.int r0), .val (.double d0), .second] [(.int (0 : Int32))])) st2 ?_
  refine Go.st (g' := (mkF m 72 #[.val (.ref x0), .val (.ref b0), .val (.int f0), .val (.int r0), .val (.double d0), .second] [])) (fun _ k => XS.ifYes W2.here hx rfl (pc0 := 54) (pc' := 72) rfl (hb hby dd_prog_14_method_1_code_54) rfl ((if0 _ _).trans (teq (by decide)).1) (by decide) (by decide) k) ?_
  refine Go.st (g' := (mkF m 73 #[.val (.ref x0), .val (.ref b0), .val (.int f0), .val (.int r0), .val (.double d0), .second] [(.ref x0)])) (fun _ k => XS.aloadN W2.here hx rfl (hb hby dd_prog_14_method_1_code_72) rfl rfl  k) ?_
  refine Go.st (g' := (mkF m 74 #[.val (.ref x0), .val (.ref b0), .val (.int f0), .val (.int r0), .val (.double d0), .second] [(.ref b0), (.ref x0)])) (fun _ k => XS.aloadN W2.here hx rfl (hb hby dd_prog_14_method_1_code_73) rfl rfl  k) ?_
  obtain ⟨a3, vm3, T3, h3, W3, E3, SF3, st3⟩ := W2.ldcO hx (hw _ (List.mem_of_getElem? (i := 52) rfl)) own_wS hEL (g := (mkF m 74 #[.val (.ref x0), .val (.ref b0), .val (.int f0), .val (.int r0), .val (.double d0), .second] [(.ref b0), (.ref x0)])) rfl (hb hby dd_prog_14_method_1_code_74) (n := 24) (by decide) (by decide) (by decide) (by decide)
  have z3 := E3.1
  refine Go.st (g' := (mkF m 76 #[.val (.ref x0), .val (.ref b0), .val (.int f0), .val (.int r0), .val (.double d0), .second] [(.ref a3), (.ref b0), (.ref x0)])) st3 ?_
  obtain ⟨_, vm4, T4, h4, W4, Q4, z4, SF4, st4⟩ := W3.callS hx hEL (own_rnn l hE W3.old (x0 := b0) (m0 := a3)  ) (hw _ (List.mem_of_getElem? (i := 55) rfl)) (hw _ (List.mem_of_getElem? (i := 56) rfl)) (hw _ (List.mem_of_getElem? (i := 57) rfl)) (hw _ (List.mem_of_getElem? (i := 58) rfl)) (by decide) (Wd := 1) (by decide) (by decide) (by decide) (by decide) (g := (mkF m 76 #[.val (.ref x0), .val (.ref b0), .val (.int f0), .val (.int r0), .val (.double d0), .second] [(.ref a3), (.ref b0), (.ref x0)])) rfl (by rw [hml]; rfl) (argsL := [(.ref b0), (.ref a3)]) (rest := [(.ref x0)]) rfl (lenOf pd__Ljava_lang_Object_Ljava_lang_String__Ljava_lang_Object_ rfl) rfl (by show 2 * 0 + _ ≤ _; exact Nat.le_of_eq rfl) (hb hby dd_prog_14_method_1_code_76)
  obtain ⟨rfl, eh4⟩ := Q4
  subst eh4
  refine Go.tr (g' := (mkF m 79 #[.val (.ref x0), .val (.ref b0), .val (.int f0), .val (.int r0), .val (.double d0), .second] [(.ref b0), (.ref x0)])) st4 ?_
  have F6 : Exa Z h3 b0 "java/lang/String" := (P1.ext E3)
  obtain ⟨T5, W5, st5⟩ := W4.cast hx (hw _ (List.mem_of_getElem? (i := 59) rfl)) (Ins.self F6) (g := (mkF m 79 #[.val (.ref x0), .val (.ref b0), .val (.int f0), .val (.int r0), .val (.double d0), .second] [(.ref b0), (.ref x0)])) rfl rfl (hb hby dd_prog_14_method_1_code_79)
  refine Go.st (g' := (mkF m 82 #[.val (.ref x0), .val (.ref b0), .val (.int f0), .val (.int r0), .val (.double d0), .second] [(.ref b0), (.ref x0)])) st5 ?_
  have F8 : Fld Z h3 x0 "com/example/narrow_gap/narrowgap/Scenario$LoadEvent" "broker" "Ljava/lang/String;" .null := (P2.ext E3)
  have F9 : Exa Z h3 x0 "com/example/narrow_gap/narrowgap/Scenario$LoadEvent" := (P0.ext E3)
  obtain ⟨T7, h7, W7, R7, z7, X7, SF7, st7⟩ := W5.putF hx (hw _ (List.mem_of_getElem? (i := 60) rfl)) Via.refl F8 F9 (Or.inr ⟨(hw _ (List.mem_of_getElem? (i := 61) rfl)), rfl, hnm⟩) (hw _ (List.mem_of_getElem? (i := 38) rfl)) (ty := (.object "java/lang/String")) (by decide) rfl rfl (W5.safeExa F9 (by decide) (by decide)) (by omega) (g := (mkF m 82 #[.val (.ref x0), .val (.ref b0), .val (.int f0), .val (.int r0), .val (.double d0), .second] [(.ref b0), (.ref x0)])) rfl rfl (hb hby dd_prog_14_method_1_code_82)
  refine Go.st (g' := (mkF m 85 #[.val (.ref x0), .val (.ref b0), .val (.int f0), .val (.int r0), .val (.double d0), .second] [])) st7 ?_
  refine Go.st (g' := (mkF m 86 #[.val (.ref x0), .val (.ref b0), .val (.int f0), .val (.int r0), .val (.double d0), .second] [(.ref x0)])) (fun _ k => XS.aloadN W7.here hx rfl (hb hby dd_prog_14_method_1_code_85) rfl rfl  k) ?_
  refine Go.st (g' := (mkF m 87 #[.val (.ref x0), .val (.ref b0), .val (.int f0), .val (.int r0), .val (.double d0), .second] [(.int f0), (.ref x0)])) (fun _ k => XS.iloadN W7.here hx rfl (hb hby dd_prog_14_method_1_code_86) rfl  k) ?_
  have F11 : Fld Z h7 x0 "com/example/narrow_gap/narrowgap/Scenario$LoadEvent" "fromRound" "I" (.int (0 : Int32)) := ((P3.ext E3).other R7 (Or.inr (slot_ne (Or.inr (hw _ (List.mem_of_getElem? (i := 63) rfl))) (Or.inr (hw _ (List.mem_of_getElem? (i := 61) rfl))) (by decide) (t := .int) (t' := (.object "java/lang/String")) (by decide) (by decide))))
  have F12 : Exa Z h7 x0 "com/example/narrow_gap/narrowgap/Scenario$LoadEvent" := (F9.wr R7)
  obtain ⟨T10, h10, W10, R10, z10, X10, SF10, st10⟩ := W7.putF hx (hw _ (List.mem_of_getElem? (i := 62) rfl)) Via.refl F11 F12 (Or.inr ⟨(hw _ (List.mem_of_getElem? (i := 63) rfl)), rfl, hnm⟩) (hw _ (List.mem_of_getElem? (i := 38) rfl)) (ty := .int) (by decide) rfl rfl (W7.safeExa F12 (by decide) (by decide)) (by omega) (g := (mkF m 87 #[.val (.ref x0), .val (.ref b0), .val (.int f0), .val (.int r0), .val (.double d0), .second] [(.int f0), (.ref x0)])) rfl rfl (hb hby dd_prog_14_method_1_code_87)
  refine Go.st (g' := (mkF m 90 #[.val (.ref x0), .val (.ref b0), .val (.int f0), .val (.int r0), .val (.double d0), .second] [])) st10 ?_
  refine Go.st (g' := (mkF m 91 #[.val (.ref x0), .val (.ref b0), .val (.int f0), .val (.int r0), .val (.double d0), .second] [(.ref x0)])) (fun _ k => XS.aloadN W10.here hx rfl (hb hby dd_prog_14_method_1_code_90) rfl rfl  k) ?_
  refine Go.st (g' := (mkF m 92 #[.val (.ref x0), .val (.ref b0), .val (.int f0), .val (.int r0), .val (.double d0), .second] [(.int r0), (.ref x0)])) (fun _ k => XS.iloadN W10.here hx rfl (hb hby dd_prog_14_method_1_code_91) rfl  k) ?_
  have F14 : Fld Z h10 x0 "com/example/narrow_gap/narrowgap/Scenario$LoadEvent" "rounds" "I" (.int (0 : Int32)) := (((P4.ext E3).other R7 (Or.inr (slot_ne (Or.inr (hw _ (List.mem_of_getElem? (i := 65) rfl))) (Or.inr (hw _ (List.mem_of_getElem? (i := 61) rfl))) (by decide) (t := .int) (t' := (.object "java/lang/String")) (by decide) (by decide)))).other R10 (Or.inr (slot_ne (Or.inr (hw _ (List.mem_of_getElem? (i := 65) rfl))) (Or.inr (hw _ (List.mem_of_getElem? (i := 63) rfl))) (by decide) (t := .int) (t' := .int) (by decide) (by decide))))
  have F15 : Exa Z h10 x0 "com/example/narrow_gap/narrowgap/Scenario$LoadEvent" := (F12.wr R10)
  obtain ⟨T13, h13, W13, R13, z13, X13, SF13, st13⟩ := W10.putF hx (hw _ (List.mem_of_getElem? (i := 64) rfl)) Via.refl F14 F15 (Or.inr ⟨(hw _ (List.mem_of_getElem? (i := 65) rfl)), rfl, hnm⟩) (hw _ (List.mem_of_getElem? (i := 38) rfl)) (ty := .int) (by decide) rfl rfl (W10.safeExa F15 (by decide) (by decide)) (by omega) (g := (mkF m 92 #[.val (.ref x0), .val (.ref b0), .val (.int f0), .val (.int r0), .val (.double d0), .second] [(.int r0), (.ref x0)])) rfl rfl (hb hby dd_prog_14_method_1_code_92)
  refine Go.st (g' := (mkF m 95 #[.val (.ref x0), .val (.ref b0), .val (.int f0), .val (.int r0), .val (.double d0), .second] [])) st13 ?_
  refine Go.st (g' := (mkF m 96 #[.val (.ref x0), .val (.ref b0), .val (.int f0), .val (.int r0), .val (.double d0), .second] [(.ref x0)])) (fun _ k => XS.aloadN W13.here hx rfl (hb hby dd_prog_14_method_1_code_95) rfl rfl  k) ?_
  refine Go.st (g' := (mkF m 98 #[.val (.ref x0), .val (.ref b0), .val (.int f0), .val (.int r0), .val (.double d0), .second] [(.double d0), (.ref x0)])) (fun _ k => XS.dload W13.here hx rfl (hb hby dd_prog_14_method_1_code_96) rfl  k) ?_
  have F17 : Fld Z h13 x0 "com/example/narrow_gap/narrowgap/Scenario$LoadEvent" "extraCpu" "D" (.double 0) := ((((P5.ext E3).other R7 (Or.inr (slot_ne (Or.inr (hw _ (List.mem_of_getElem? (i := 67) rfl))) (Or.inr (hw _ (List.mem_of_getElem? (i := 61) rfl))) (by decide) (t := .double) (t' := (.object "java/lang/String")) (by decide) (by decide)))).other R10 (Or.inr (slot_ne (Or.inr (hw _ (List.mem_of_getElem? (i := 67) rfl))) (Or.inr (hw _ (List.mem_of_getElem? (i := 63) rfl))) (by decide) (t := .double) (t' := .int) (by decide) (by decide)))).other R13 (Or.inr (slot_ne (Or.inr (hw _ (List.mem_of_getElem? (i := 67) rfl))) (Or.inr (hw _ (List.mem_of_getElem? (i := 65) rfl))) (by decide) (t := .double) (t' := .int) (by decide) (by decide))))
  have F18 : Exa Z h13 x0 "com/example/narrow_gap/narrowgap/Scenario$LoadEvent" := (F15.wr R13)
  obtain ⟨T16, h16, W16, R16, z16, X16, SF16, st16⟩ := W13.putF hx (hw _ (List.mem_of_getElem? (i := 66) rfl)) Via.refl F17 F18 (Or.inr ⟨(hw _ (List.mem_of_getElem? (i := 67) rfl)), rfl, hnm⟩) (hw _ (List.mem_of_getElem? (i := 38) rfl)) (ty := .double) (by decide) rfl rfl (W13.safeExa F18 (by decide) (by decide)) (by omega) (g := (mkF m 98 #[.val (.ref x0), .val (.ref b0), .val (.int f0), .val (.int r0), .val (.double d0), .second] [(.double d0), (.ref x0)])) rfl rfl (hb hby dd_prog_14_method_1_code_98)
  refine Go.st (g' := (mkF m 101 #[.val (.ref x0), .val (.ref b0), .val (.int f0), .val (.int r0), .val (.double d0), .second] [])) st16 ?_
  have F19 : Fld Z h16 x0 "com/example/narrow_gap/narrowgap/Scenario$LoadEvent" "broker" "Ljava/lang/String;" (.ref b0) := (((X7.other R10 (Or.inr (slot_ne (Or.inr (hw _ (List.mem_of_getElem? (i := 61) rfl))) (Or.inr (hw _ (List.mem_of_getElem? (i := 63) rfl))) (by decide) (t := (.object "java/lang/String")) (t' := .int) (by decide) (by decide)))).other R13 (Or.inr (slot_ne (Or.inr (hw _ (List.mem_of_getElem? (i := 61) rfl))) (Or.inr (hw _ (List.mem_of_getElem? (i := 65) rfl))) (by decide) (t := (.object "java/lang/String")) (t' := .int) (by decide) (by decide)))).other R16 (Or.inr (slot_ne (Or.inr (hw _ (List.mem_of_getElem? (i := 61) rfl))) (Or.inr (hw _ (List.mem_of_getElem? (i := 67) rfl))) (by decide) (t := (.object "java/lang/String")) (t' := .double) (by decide) (by decide))))
  have F20 : Fld Z h16 x0 "com/example/narrow_gap/narrowgap/Scenario$LoadEvent" "fromRound" "I" (.int f0) := ((X10.other R13 (Or.inr (slot_ne (Or.inr (hw _ (List.mem_of_getElem? (i := 63) rfl))) (Or.inr (hw _ (List.mem_of_getElem? (i := 65) rfl))) (by decide) (t := .int) (t' := .int) (by decide) (by decide)))).other R16 (Or.inr (slot_ne (Or.inr (hw _ (List.mem_of_getElem? (i := 63) rfl))) (Or.inr (hw _ (List.mem_of_getElem? (i := 67) rfl))) (by decide) (t := .int) (t' := .double) (by decide) (by decide))))
  have F21 : Fld Z h16 x0 "com/example/narrow_gap/narrowgap/Scenario$LoadEvent" "rounds" "I" (.int r0) := (X13.other R16 (Or.inr (slot_ne (Or.inr (hw _ (List.mem_of_getElem? (i := 65) rfl))) (Or.inr (hw _ (List.mem_of_getElem? (i := 67) rfl))) (by decide) (t := .int) (t' := .double) (by decide) (by decide))))
  exact W16.retV hx hEL hlk hret (hb hby dd_prog_14_method_1_code_101) (by decide) (by decide) ⟨rfl, F19, F20, F21, ((((((Keep.refl h0 [x0]).ext E3).wr R7 (Or.inl (List.mem_of_getElem? (i := 0) rfl))).wr R10 (Or.inl (List.mem_of_getElem? (i := 0) rfl))).wr R13 (Or.inl (List.mem_of_getElem? (i := 0) rfl))).wr R16 (Or.inl (List.mem_of_getElem? (i := 0) rfl)))⟩
set_option maxRecDepth 65536 in
set_option maxHeartbeats 4000000 in
theorem own_active (l : Launch) {Z : State} {a0 : Array Value} (hE : Ctx Z a0) {n0 : Nat} {h0 : Heap} (O : Old Z n0 h0) {x0 : Addr} {t0 : Int32} {f0 : Int32} {r0 : Int32}  (P0 : Fld Z h0 x0 "com/example/narrow_gap/narrowgap/Scenario$LoadEvent" "fromRound" "I" (.int f0)) (P1 : Fld Z h0 x0 "com/example/narrow_gap/narrowgap/Scenario$LoadEvent" "rounds" "I" (.int r0)) :
    Met l (⟨"com/example/narrow_gap/narrowgap/Scenario$LoadEvent", "isActiveIn", "(I)Z"⟩ : MethodName) prog_14_method_4_code 2 (Option.some Jvm.ClassFile.FieldType.boolean) ({ frames := 0, cells := 0, slots := 0, locals := 0 } : Room) Z consts_1 n0 [] #[(.ref x0), (.int t0)] h0 (fun v h => v = some (.int (own_act t0 f0 r0)) ∧ h0 = h) := by
  have hw := hE.1
  have hEL := own_EW hw
  have own_wS := own_stringAtoms hw
  refine Met.of (by first | (refine plainFor_of_name ?_; simp [plainName, overriddenIn]; done) | decide +kernel) O ?_
  intro p e s m below meth c T0 hx hby hml hret hlk hnm hh0 W0
  have z0 := W0.ge
  refine Go.st (g' := (mkF m 0 #[.val (.ref x0), .val (.int t0)] [])) (fun _ k => castTop (by first | (simp [entryFrame, mkF, argsToLocals, maxLocals, own_catI, own_catJ, own_catD, own_catA, own_catN]; done) | rfl) k) ?_
  refine Go.st (g' := (mkF m 1 #[.val (.ref x0), .val (.int t0)] [(.ref x0)])) (fun _ k => XS.aloadN W0.here hx rfl (hb hby dd_prog_14_method_4_code_0) rfl rfl  k) ?_
  obtain ⟨T1, W1, st1⟩ := W0.getF hx (hw _ (List.mem_of_getElem? (i := 62) rfl)) Via.refl P0 (g := (mkF m 1 #[.val (.ref x0), .val (.int t0)] [(.ref x0)])) rfl rfl (hb hby dd_prog_14_method_4_code_1)
  refine Go.st (g' := (mkF m 4 #[.val (.ref x0), .val (.int t0)] [(.int f0)])) st1 ?_
  refine Go.st (g' := (mkF m 5 #[.val (.ref x0), .val (.int t0)] [(.int t0), (.int f0)])) (fun _ k => XS.iloadN W1.here hx rfl (hb hby dd_prog_14_method_4_code_4) rfl  k) ?_
  by_cases hc2 : t0 < f0
  · refine Go.st (g' := (mkF m 25 #[.val (.ref x0), .val (.int t0)] [])) (fun _ k => XS.icmpYes W1.here hx rfl (pc0 := 5) (pc' := 25) rfl (hb hby dd_prog_14_method_4_code_5) rfl (tlt hc2).2.2.1 (by decide) (by decide) k) ?_
    refine Go.st (g' := (mkF m 26 #[.val (.ref x0), .val (.int t0)] [(.int (0 : Int32))])) (fun _ k => XS.iconst W1.here hx rfl (hb hby dd_prog_14_method_4_code_25) k) ?_
    exact W1.retN hx hEL hlk (t := .boolean) hret (by decide) (hb hby dd_prog_14_method_4_code_26) (by decide) (by decide) ⟨(by unfold own_act; rw [if_pos hc2]; first | done | rfl), rfl⟩
  · refine Go.st (g' := (mkF m 8 #[.val (.ref x0), .val (.int t0)] [])) (fun _ k => XS.icmpNo W1.here hx rfl (hb hby dd_prog_14_method_4_code_5) rfl (flt hc2).2.2.1 k) ?_
    refine Go.st (g' := (mkF m 9 #[.val (.ref x0), .val (.int t0)] [(.int t0)])) (fun _ k => XS.iloadN W1.here hx rfl (hb hby dd_prog_14_method_4_code_8) rfl  k) ?_
    refine Go.st (g' := (mkF m 10 #[.val (.ref x0), .val (.int t0)] [(.ref x0), (.int t0)])) (fun _ k => XS.aloadN W1.here hx rfl (hb hby dd_prog_14_method_4_code_9) rfl rfl  k) ?_
    obtain ⟨T3, W3, st3⟩ := W1.getF hx (hw _ (List.mem_of_getElem? (i := 62) rfl)) Via.refl P0 (g := (mkF m 10 #[.val (.ref x0), .val (.int t0)] [(.ref x0), (.int t0)])) rfl rfl (hb hby dd_prog_14_method_4_code_10)
    refine Go.st (g' := (mkF m 13 #[.val (.ref x0), .val (.int t0)] [(.int f0), (.int t0)])) st3 ?_
    refine Go.st (g' := (mkF m 14 #[.val (.ref x0), .val (.int t0)] [(.int (t0 - f0))])) (fun _ k => XS.isub W3.here hx rfl (hb hby dd_prog_14_method_4_code_13) rfl k) ?_
    refine Go.st (g' := (mkF m 15 #[.val (.ref x0), .val (.int t0)] [(.ref x0), (.int (t0 - f0))])) (fun _ k => XS.aloadN W3.here hx rfl (hb hby dd_prog_14_method_4_code_14) rfl rfl  k) ?_
    obtain ⟨T4, W4, st4⟩ := W3.getF hx (hw _ (List.mem_of_getElem? (i := 64) rfl)) Via.refl P1 (g := (mkF m 15 #[.val (.ref x0), .val (.int t0)] [(.ref x0), (.int (t0 - f0))])) rfl rfl (hb hby dd_prog_14_method_4_code_15)
    refine Go.st (g' := (mkF m 18 #[.val (.ref x0), .val (.int t0)] [(.int r0), (.int (t0 - f0))])) st4 ?_
    by_cases hc5 : (t0 - f0) < r0
    · refine Go.st (g' := (mkF m 21 #[.val (.ref x0), .val (.int t0)] [])) (fun _ k => XS.icmpNo W4.here hx rfl (hb hby dd_prog_14_method_4_code_18) rfl (tlt hc5).2.1 k) ?_
      refine Go.st (g' := (mkF m 22 #[.val (.ref x0), .val (.int t0)] [(.int (1 : Int32))])) (fun _ k => XS.iconst W4.here hx rfl (hb hby dd_prog_14_method_4_code_21) k) ?_
      refine Go.st (g' := (mkF m 26 #[.val (.ref x0), .val (.int t0)] [(.int (1 : Int32))])) (fun _ k => XS.goto W4.here hx rfl (pc0 := 22) (pc' := 26) rfl (hb hby dd_prog_14_method_4_code_22) (by decide) (by decide) k) ?_
      exact W4.retN hx hEL hlk (t := .boolean) hret (by decide) (hb hby dd_prog_14_method_4_code_26) (by decide) (by decide) ⟨(by unfold own_act; rw [if_neg hc2, if_pos hc5]; first | done | rfl), rfl⟩
    · refine Go.st (g' := (mkF m 25 #[.val (.ref x0), .val (.int t0)] [])) (fun _ k => XS.icmpYes W4.here hx rfl (pc0 := 18) (pc' := 25) rfl (hb hby dd_prog_14_method_4_code_18) rfl (flt hc5).2.1 (by decide) (by decide) k) ?_
      refine Go.st (g' := (mkF m 26 #[.val (.ref x0), .val (.int t0)] [(.int (0 : Int32))])) (fun _ k => XS.iconst W4.here hx rfl (hb hby dd_prog_14_method_4_code_25) k) ?_
      exact W4.retN hx hEL hlk (t := .boolean) hret (by decide) (hb hby dd_prog_14_method_4_code_26) (by decide) (by decide) ⟨(by unfold own_act; rw [if_neg hc2, if_neg hc5]; first | done | rfl), rfl⟩
set_option maxRecDepth 65536 in
set_option maxHeartbeats 4000000 in
theorem own_law (l : Launch) {Z : State} {a0 : Array Value} (hE : Ctx Z a0) {n0 : Nat} {h0 : Heap} (O : Old Z n0 h0) {p0 : Int32} {p1 : Int32} {p2 : Int32} {p3 : Int32}   :
    Met l x code 20 ret room_1 Z consts_1 n0 tables_1 #[(.int p0), (.int p1), (.int p2), (.int p3)] h0 (fun v h => v = some (.int (1 : Int32))) := by
  have hw := hE.1
  have hEL := own_EW hw
  have own_wS := own_stringAtoms hw
  refine Met.of (by first | (refine plainFor_of_name ?_; simp [plainName, overriddenIn]; done) | decide +kernel) O ?_
  intro p e s m below meth c T0 hx hby hml hret hlk hnm hh0 W0
  have z0 := W0.ge
  refine Go.st (g' := (mkF m 0 #[.val (.int p0), .val (.int p1), .val (.int p2), .val (.int p3), .unset, .unset, .unset, .unset, .unset, .unset, .unset, .unset, .unset, .unset, .unset, .unset, .unset, .unset, .unset, .unset] [])) (fun _ k => castTop (by first | (simp [entryFrame, mkF, argsToLocals, maxLocals, own_catI, own_catJ, own_catD, own_catA, own_catN]; done) | rfl) k) ?_
  refine Go.st (g' := (mkF m 1 #[.val (.int p0), .val (.int p1), .val (.int p2), .val (.int p3), .unset, .unset, .unset, .unset, .unset, .unset, .unset, .unset, .unset, .unset, .unset, .unset, .unset, .unset, .unset, .unset] [(.int p0)])) (fun _ k => XS.iloadN W0.here hx rfl (hb hby at_0) rfl  k) ?_
  refine Go.st (g' := (mkF m 3 #[.val (.int p0), .val (.int p1), .val (.int p2), .val (.int p3), .unset, .unset, .unset, .unset, .unset, .unset, .unset, .unset, .unset, .unset, .unset, .unset, .unset, .unset, .unset, .unset] [(.int (2147483647 : Int32)), (.int p0)])) (W0.ldcI hx (hw _ (List.mem_of_getElem? (i := 0) rfl)) (g := (mkF m 1 #[.val (.int p0), .val (.int p1), .val (.int p2), .val (.int p3), .unset, .unset, .unset, .unset, .unset, .unset, .unset, .unset, .unset, .unset, .unset, .unset, .unset, .unset, .unset, .unset] [(.int p0)])) rfl (hb hby at_1)) ?_
  refine Go.st (g' := (mkF m 4 #[.val (.int p0), .val (.int p1), .val (.int p2), .val (.int p3), .unset, .unset, .unset, .unset, .unset, .unset, .unset, .unset, .unset, .unset, .unset, .unset, .unset, .unset, .unset, .unset] [(.int (p0 &&& (2147483647 : Int32)))])) (fun _ k => XS.iand W0.here hx rfl (hb hby at_3) rfl k) ?_
  refine Go.st (g' := (mkF m 6 #[.val (.int p0), .val (.int p1), .val (.int p2), .val (.int p3), .unset, .unset, .unset, .unset, .unset, .unset, .unset, .unset, .unset, .unset, .unset, .unset, .unset, .unset, .unset, .unset] [(.int (2147483647 : Int32)), (.int (p0 &&& (2147483647 : Int32)))])) (W0.ldcI hx (hw _ (List.mem_of_getElem? (i := 0) rfl)) (g := (mkF m 4 #[.val (.int p0), .val (.int p1), .val (.int p2), .val (.int p3), .unset, .unset, .unset, .unset, .unset, .unset, .unset, .unset, .unset, .unset, .unset, .unset, .unset, .unset, .unset, .unset] [(.int (p0 &&& (2147483647 : Int32)))])) rfl (hb hby at_4)) ?_
  refine Go.st (g' := (mkF m 7 #[.val (.int p0), .val (.int p1), .val (.int p2), .val (.int p3), .unset, .unset, .unset, .unset, .unset, .unset, .unset, .unset, .unset, .unset, .unset, .unset, .unset, .unset, .unset, .unset] [(.int ((p0 &&& (2147483647 : Int32)) % (2147483647 : Int32)))])) (fun _ k => W0.irem hx (g := (mkF m 6 #[.val (.int p0), .val (.int p1), .val (.int p2), .val (.int p3), .unset, .unset, .unset, .unset, .unset, .unset, .unset, .unset, .unset, .unset, .unset, .unset, .unset, .unset, .unset, .unset] [(.int (2147483647 : Int32)), (.int (p0 &&& (2147483647 : Int32)))])) rfl (hb hby at_6) rfl (by decide) k) ?_
  refine Go.st (g' := (mkF m 8 #[.val (.int p0), .val (.int p1), .val (.int p2), .val (.int p3), .unset, .unset, .unset, .unset, .unset, .unset, .unset, .unset, .unset, .unset, .unset, .unset, .unset, .unset, .unset, .unset] [(.int (1 : Int32)), (.int ((p0 &&& (2147483647 : Int32)) % (2147483647 : Int32)))])) (fun _ k => XS.iconst W0.here hx rfl (hb hby at_7) k) ?_
  refine Go.st (g' := (mkF m 9 #[.val (.int p0), .val (.int p1), .val (.int p2), .val (.int p3), .unset, .unset, .unset, .unset, .unset, .unset, .unset, .unset, .unset, .unset, .unset, .unset, .unset, .unset, .unset, .unset] [(.int (((p0 &&& (2147483647 : Int32)) % (2147483647 : Int32)) + (1 : Int32)))])) (fun _ k => XS.iadd W0.here hx rfl (hb hby at_8) rfl k) ?_
  refine Go.st (g' := (mkF m 11 #[.val (.int p0), .val (.int p1), .val (.int p2), .val (.int p3), .val (.int (((p0 &&& (2147483647 : Int32)) % (2147483647 : Int32)) + (1 : Int32))), .unset, .unset, .unset, .unset, .unset, .unset, .unset, .unset, .unset, .unset, .unset, .unset, .unset, .unset, .unset] [])) (fun _ k => XS.istore W0.here hx rfl (hb hby at_9) rfl (l' := #[.val (.int p0), .val (.int p1), .val (.int p2), .val (.int p3), .val (.int (((p0 &&& (2147483647 : Int32)) % (2147483647 : Int32)) + (1 : Int32))), .unset, .unset, .unset, .unset, .unset, .unset, .unset, .unset, .unset, .unset, .unset, .unset, .unset, .unset, .unset]) rfl k) ?_
  refine Go.st (g' := (mkF m 12 #[.val (.int p0), .val (.int p1), .val (.int p2), .val (.int p3), .val (.int (((p0 &&& (2147483647 : Int32)) % (2147483647 : Int32)) + (1 : Int32))), .unset, .unset, .unset, .unset, .unset, .unset, .unset, .unset, .unset, .unset, .unset, .unset, .unset, .unset, .unset] [(.int p1)])) (fun _ k => XS.iloadN W0.here hx rfl (hb hby at_11) rfl  k) ?_
  refine Go.st (g' := (mkF m 14 #[.val (.int p0), .val (.int p1), .val (.int p2), .val (.int p3), .val (.int (((p0 &&& (2147483647 : Int32)) % (2147483647 : Int32)) + (1 : Int32))), .unset, .unset, .unset, .unset, .unset, .unset, .unset, .unset, .unset, .unset, .unset, .unset, .unset, .unset, .unset] [(.int (2147483647 : Int32)), (.int p1)])) (W0.ldcI hx (hw _ (List.mem_of_getElem? (i := 0) rfl)) (g := (mkF m 12 #[.val (.int p0), .val (.int p1), .val (.int p2), .val (.int p3), .val (.int (((p0 &&& (2147483647 : Int32)) % (2147483647 : Int32)) + (1 : Int32))), .unset, .unset, .unset, .unset, .unset, .unset, .unset, .unset, .unset, .unset, .unset, .unset, .unset, .unset, .unset] [(.int p1)])) rfl (hb hby at_12)) ?_
  refine Go.st (g' := (mkF m 15 #[.val (.int p0), .val (.int p1), .val (.int p2), .val (.int p3), .val (.int (((p0 &&& (2147483647 : Int32)) % (2147483647 : Int32)) + (1 : Int32))), .unset, .unset, .unset, .unset, .unset, .unset, .unset, .unset, .unset, .unset, .unset, .unset, .unset, .unset, .unset] [(.int (p1 &&& (2147483647 : Int32)))])) (fun _ k => XS.iand W0.here hx rfl (hb hby at_14) rfl k) ?_
  refine Go.st (g' := (mkF m 17 #[.val (.int p0), .val (.int p1), .val (.int p2), .val (.int p3), .val (.int (((p0 &&& (2147483647 : Int32)) % (2147483647 : Int32)) + (1 : Int32))), .unset, .unset, .unset, .unset, .unset, .unset, .unset, .unset, .unset, .unset, .unset, .unset, .unset, .unset, .unset] [(.int (2147483647 : Int32)), (.int (p1 &&& (2147483647 : Int32)))])) (W0.ldcI hx (hw _ (List.mem_of_getElem? (i := 0) rfl)) (g := (mkF m 15 #[.val (.int p0), .val (.int p1), .val (.int p2), .val (.int p3), .val (.int (((p0 &&& (2147483647 : Int32)) % (2147483647 : Int32)) + (1 : Int32))), .unset, .unset, .unset, .unset, .unset, .unset, .unset, .unset, .unset, .unset, .unset, .unset, .unset, .unset, .unset] [(.int (p1 &&& (2147483647 : Int32)))])) rfl (hb hby at_15)) ?_
  refine Go.st (g' := (mkF m 18 #[.val (.int p0), .val (.int p1), .val (.int p2), .val (.int p3), .val (.int (((p0 &&& (2147483647 : Int32)) % (2147483647 : Int32)) + (1 : Int32))), .unset, .unset, .unset, .unset, .unset, .unset, .unset, .unset, .unset, .unset, .unset, .unset, .unset, .unset, .unset] [(.int ((p1 &&& (2147483647 : Int32)) % (2147483647 : Int32)))])) (fun _ k => W0.irem hx (g := (mkF m 17 #[.val (.int p0), .val (.int p1), .val (.int p2), .val (.int p3), .val (.int (((p0 &&& (2147483647 : Int32)) % (2147483647 : Int32)) + (1 : Int32))), .unset, .unset, .unset, .unset, .unset, .unset, .unset, .unset, .unset, .unset, .unset, .unset, .unset, .unset, .unset] [(.int (2147483647 : Int32)), (.int (p1 &&& (2147483647 : Int32)))])) rfl (hb hby at_17) rfl (by decide) k) ?_
  refine Go.st (g' := (mkF m 19 #[.val (.int p0), .val (.int p1), .val (.int p2), .val (.int p3), .val (.int (((p0 &&& (2147483647 : Int32)) % (2147483647 : Int32)) + (1 : Int32))), .unset, .unset, .unset, .unset, .unset, .unset, .unset, .unset, .unset, .unset, .unset, .unset, .unset, .unset, .unset] [(.int (1 : Int32)), (.int ((p1 &&& (2147483647 : Int32)) % (2147483647 : Int32)))])) (fun _ k => XS.iconst W0.here hx rfl (hb hby at_18) k) ?_
  refine Go.st (g' := (mkF m 20 #[.val (.int p0), .val (.int p1), .val (.int p2), .val (.int p3), .val (.int (((p0 &&& (2147483647 : Int32)) % (2147483647 : Int32)) + (1 : Int32))), .unset, .unset, .unset, .unset, .unset, .unset, .unset, .unset, .unset, .unset, .unset, .unset, .unset, .unset, .unset] [(.int (((p1 &&& (2147483647 : Int32)) % (2147483647 : Int32)) + (1 : Int32)))])) (fun _ k => XS.iadd W0.here hx rfl (hb hby at_19) rfl k) ?_
  refine Go.st (g' := (mkF m 22 #[.val (.int p0), .val (.int p1), .val (.int p2), .val (.int p3), .val (.int (((p0 &&& (2147483647 : Int32)) % (2147483647 : Int32)) + (1 : Int32))), .val (.int (((p1 &&& (2147483647 : Int32)) % (2147483647 : Int32)) + (1 : Int32))), .unset, .unset, .unset, .unset, .unset, .unset, .unset, .unset, .unset, .unset, .unset, .unset, .unset, .unset] [])) (fun _ k => XS.istore W0.here hx rfl (hb hby at_20) rfl (l' := #[.val (.int p0), .val (.int p1), .val (.int p2), .val (.int p3), .val (.int (((p0 &&& (2147483647 : Int32)) % (2147483647 : Int32)) + (1 : Int32))), .val (.int (((p1 &&& (2147483647 : Int32)) % (2147483647 : Int32)) + (1 : Int32))), .unset, .unset, .unset, .unset, .unset, .unset, .unset, .unset, .unset, .unset, .unset, .unset, .unset, .unset]) rfl k) ?_
  refine Go.st (g' := (mkF m 23 #[.val (.int p0), .val (.int p1), .val (.int p2), .val (.int p3), .val (.int (((p0 &&& (2147483647 : Int32)) % (2147483647 : Int32)) + (1 : Int32))), .val (.int (((p1 &&& (2147483647 : Int32)) % (2147483647 : Int32)) + (1 : Int32))), .unset, .unset, .unset, .unset, .unset, .unset, .unset, .unset, .unset, .unset, .unset, .unset, .unset, .unset] [(.int p2)])) (fun _ k => XS.iloadN W0.here hx rfl (hb hby at_22) rfl  k) ?_
  refine Go.st (g' := (mkF m 24 #[.val (.int p0), .val (.int p1), .val (.int p2), .val (.int p3), .val (.int (((p0 &&& (2147483647 : Int32)) % (2147483647 : Int32)) + (1 : Int32))), .val (.int (((p1 &&& (2147483647 : Int32)) % (2147483647 : Int32)) + (1 : Int32))), .unset, .unset, .unset, .unset, .unset, .unset, .unset, .unset, .unset, .unset, .unset, .unset, .unset, .unset] [(.long (p2.toInt64))])) (fun _ k => XS.i2l W0.here hx rfl (hb hby at_23) rfl k) ?_
  refine Go.st (g' := (mkF m 26 #[.val (.int p0), .val (.int p1), .val (.int p2), .val (.int p3), .val (.int (((p0 &&& (2147483647 : Int32)) % (2147483647 : Int32)) + (1 : Int32))), .val (.int (((p1 &&& (2147483647 : Int32)) % (2147483647 : Int32)) + (1 : Int32))), .val (.long (p2.toInt64)), .second, .unset, .unset, .unset, .unset, .unset, .unset, .unset, .unset, .unset, .unset, .unset, .unset] [])) (fun _ k => XS.lstore W0.here hx rfl (hb hby at_24) rfl (l' := #[.val (.int p0), .val (.int p1), .val (.int p2), .val (.int p3), .val (.int (((p0 &&& (2147483647 : Int32)) % (2147483647 : Int32)) + (1 : Int32))), .val (.int (((p1 &&& (2147483647 : Int32)) % (2147483647 : Int32)) + (1 : Int32))), .val (.long (p2.toInt64)), .second, .unset, .unset, .unset, .unset, .unset, .unset, .unset, .unset, .unset, .unset, .unset, .unset]) rfl k) ?_
  refine Go.st (g' := (mkF m 27 #[.val (.int p0), .val (.int p1), .val (.int p2), .val (.int p3), .val (.int (((p0 &&& (2147483647 : Int32)) % (2147483647 : Int32)) + (1 : Int32))), .val (.int (((p1 &&& (2147483647 : Int32)) % (2147483647 : Int32)) + (1 : Int32))), .val (.long (p2.toInt64)), .second, .unset, .unset, .unset, .unset, .unset, .unset, .unset, .unset, .unset, .unset, .unset, .unset] [(.int p3)])) (fun _ k => XS.iloadN W0.here hx rfl (hb hby at_26) rfl  k) ?_
  refine Go.st (g' := (mkF m 28 #[.val (.int p0), .val (.int p1), .val (.int p2), .val (.int p3), .val (.int (((p0 &&& (2147483647 : Int32)) % (2147483647 : Int32)) + (1 : Int32))), .val (.int (((p1 &&& (2147483647 : Int32)) % (2147483647 : Int32)) + (1 : Int32))), .val (.long (p2.toInt64)), .second, .unset, .unset, .unset, .unset, .unset, .unset, .unset, .unset, .unset, .unset, .unset, .unset] [(.int (3 : Int32)), (.int p3)])) (fun _ k => XS.iconst W0.here hx rfl (hb hby at_27) k) ?_
  refine Go.st (g' := (mkF m 29 #[.val (.int p0), .val (.int p1), .val (.int p2), .val (.int p3), .val (.int (((p0 &&& (2147483647 : Int32)) % (2147483647 : Int32)) + (1 : Int32))), .val (.int (((p1 &&& (2147483647 : Int32)) % (2147483647 : Int32)) + (1 : Int32))), .val (.long (p2.toInt64)), .second, .unset, .unset, .unset, .unset, .unset, .unset, .unset, .unset, .unset, .unset, .unset, .unset] [(.int (p3 &&& (3 : Int32)))])) (fun _ k => XS.iand W0.here hx rfl (hb hby at_28) rfl k) ?_
  refine Go.st (g' := (mkF m 31 #[.val (.int p0), .val (.int p1), .val (.int p2), .val (.int p3), .val (.int (((p0 &&& (2147483647 : Int32)) % (2147483647 : Int32)) + (1 : Int32))), .val (.int (((p1 &&& (2147483647 : Int32)) % (2147483647 : Int32)) + (1 : Int32))), .val (.long (p2.toInt64)), .second, .val (.int (p3 &&& (3 : Int32))), .unset, .unset, .unset, .unset, .unset, .unset, .unset, .unset, .unset, .unset, .unset] [])) (fun _ k => XS.istore W0.here hx rfl (hb hby at_29) rfl (l' := #[.val (.int p0), .val (.int p1), .val (.int p2), .val (.int p3), .val (.int (((p0 &&& (2147483647 : Int32)) % (2147483647 : Int32)) + (1 : Int32))), .val (.int (((p1 &&& (2147483647 : Int32)) % (2147483647 : Int32)) + (1 : Int32))), .val (.long (p2.toInt64)), .second, .val (.int (p3 &&& (3 : Int32))), .unset, .unset, .unset, .unset, .unset, .unset, .unset, .unset, .unset, .unset, .unset]) rfl k) ?_
  refine Go.st (g' := (mkF m 32 #[.val (.int p0), .val (.int p1), .val (.int p2), .val (.int p3), .val (.int (((p0 &&& (2147483647 : Int32)) % (2147483647 : Int32)) + (1 : Int32))), .val (.int (((p1 &&& (2147483647 : Int32)) % (2147483647 : Int32)) + (1 : Int32))), .val (.long (p2.toInt64)), .second, .val (.int (p3 &&& (3 : Int32))), .unset, .unset, .unset, .unset, .unset, .unset, .unset, .unset, .unset, .unset, .unset] [(.int p3)])) (fun _ k => XS.iloadN W0.here hx rfl (hb hby at_31) rfl  k) ?_
  refine Go.st (g' := (mkF m 33 #[.val (.int p0), .val (.int p1), .val (.int p2), .val (.int p3), .val (.int (((p0 &&& (2147483647 : Int32)) % (2147483647 : Int32)) + (1 : Int32))), .val (.int (((p1 &&& (2147483647 : Int32)) % (2147483647 : Int32)) + (1 : Int32))), .val (.long (p2.toInt64)), .second, .val (.int (p3 &&& (3 : Int32))), .unset, .unset, .unset, .unset, .unset, .unset, .unset, .unset, .unset, .unset, .unset] [(.int (2 : Int32)), (.int p3)])) (fun _ k => XS.iconst W0.here hx rfl (hb hby at_32) k) ?_
  refine Go.st (g' := (mkF m 34 #[.val (.int p0), .val (.int p1), .val (.int p2), .val (.int p3), .val (.int (((p0 &&& (2147483647 : Int32)) % (2147483647 : Int32)) + (1 : Int32))), .val (.int (((p1 &&& (2147483647 : Int32)) % (2147483647 : Int32)) + (1 : Int32))), .val (.long (p2.toInt64)), .second, .val (.int (p3 &&& (3 : Int32))), .unset, .unset, .unset, .unset, .unset, .unset, .unset, .unset, .unset, .unset, .unset] [(.int (p3 >>> ((2 : Int32) &&& 31)))])) (fun _ k => XS.ishr W0.here hx rfl (hb hby at_33) rfl k) ?_
  refine Go.st (g' := (mkF m 35 #[.val (.int p0), .val (.int p1), .val (.int p2), .val (.int p3), .val (.int (((p0 &&& (2147483647 : Int32)) % (2147483647 : Int32)) + (1 : Int32))), .val (.int (((p1 &&& (2147483647 : Int32)) % (2147483647 : Int32)) + (1 : Int32))), .val (.long (p2.toInt64)), .second, .val (.int (p3 &&& (3 : Int32))), .unset, .unset, .unset, .unset, .unset, .unset, .unset, .unset, .unset, .unset, .unset] [(.int (3 : Int32)), (.int (p3 >>> ((2 : Int32) &&& 31)))])) (fun _ k => XS.iconst W0.here hx rfl (hb hby at_34) k) ?_
  refine Go.st (g' := (mkF m 36 #[.val (.int p0), .val (.int p1), .val (.int p2), .val (.int p3), .val (.int (((p0 &&& (2147483647 : Int32)) % (2147483647 : Int32)) + (1 : Int32))), .val (.int (((p1 &&& (2147483647 : Int32)) % (2147483647 : Int32)) + (1 : Int32))), .val (.long (p2.toInt64)), .second, .val (.int (p3 &&& (3 : Int32))), .unset, .unset, .unset, .unset, .unset, .unset, .unset, .unset, .unset, .unset, .unset] [(.int ((p3 >>> ((2 : Int32) &&& 31)) &&& (3 : Int32)))])) (fun _ k => XS.iand W0.here hx rfl (hb hby at_35) rfl k) ?_
  refine Go.st (g' := (mkF m 37 #[.val (.int p0), .val (.int p1), .val (.int p2), .val (.int p3), .val (.int (((p0 &&& (2147483647 : Int32)) % (2147483647 : Int32)) + (1 : Int32))), .val (.int (((p1 &&& (2147483647 : Int32)) % (2147483647 : Int32)) + (1 : Int32))), .val (.long (p2.toInt64)), .second, .val (.int (p3 &&& (3 : Int32))), .unset, .unset, .unset, .unset, .unset, .unset, .unset, .unset, .unset, .unset, .unset] [(.long (((p3 >>> ((2 : Int32) &&& 31)) &&& (3 : Int32)).toInt64))])) (fun _ k => XS.i2l W0.here hx rfl (hb hby at_36) rfl k) ?_
  refine Go.st (g' := (mkF m 39 #[.val (.int p0), .val (.int p1), .val (.int p2), .val (.int p3), .val (.int (((p0 &&& (2147483647 : Int32)) % (2147483647 : Int32)) + (1 : Int32))), .val (.int (((p1 &&& (2147483647 : Int32)) % (2147483647 : Int32)) + (1 : Int32))), .val (.long (p2.toInt64)), .second, .val (.int (p3 &&& (3 : Int32))), .val (.long (((p3 >>> ((2 : Int32) &&& 31)) &&& (3 : Int32)).toInt64)), .second, .unset, .unset, .unset, .unset, .unset, .unset, .unset, .unset, .unset] [])) (fun _ k => XS.lstore W0.here hx rfl (hb hby at_37) rfl (l' := #[.val (.int p0), .val (.int p1), .val (.int p2), .val (.int p3), .val (.int (((p0 &&& (2147483647 : Int32)) % (2147483647 : Int32)) + (1 : Int32))), .val (.int (((p1 &&& (2147483647 : Int32)) % (2147483647 : Int32)) + (1 : Int32))), .val (.long (p2.toInt64)), .second, .val (.int (p3 &&& (3 : Int32))), .val (.long (((p3 >>> ((2 : Int32) &&& 31)) &&& (3 : Int32)).toInt64)), .second, .unset, .unset, .unset, .unset, .unset, .unset, .unset, .unset, .unset]) rfl k) ?_
  refine Go.join (f := fun (y6 : Int64) => (mkF m 82 #[.val (.int p0), .val (.int p1), .val (.int p2), .val (.int p3), .val (.int (((p0 &&& (2147483647 : Int32)) % (2147483647 : Int32)) + (1 : Int32))), .val (.int (((p1 &&& (2147483647 : Int32)) % (2147483647 : Int32)) + (1 : Int32))), .val (.long y6), .second, .val (.int (p3 &&& (3 : Int32))), .val (.long (((p3 >>> ((2 : Int32) &&& 31)) &&& (3 : Int32)).toInt64)), .second, .unset, .unset, .unset, .unset, .unset, .unset, .unset, .unset, .unset] [])) (fun key => ?_) (fun y6 => ?_)
  · refine Go.st (g' := (mkF m 41 #[.val (.int p0), .val (.int p1), .val (.int p2), .val (.int p3), .val (.int (((p0 &&& (2147483647 : Int32)) % (2147483647 : Int32)) + (1 : Int32))), .val (.int (((p1 &&& (2147483647 : Int32)) % (2147483647 : Int32)) + (1 : Int32))), .val (.long (p2.toInt64)), .second, .val (.int (p3 &&& (3 : Int32))), .val (.long (((p3 >>> ((2 : Int32) &&& 31)) &&& (3 : Int32)).toInt64)), .second, .unset, .unset, .unset, .unset, .unset, .unset, .unset, .unset, .unset] [(.int (p3 &&& (3 : Int32)))])) (fun _ k => XS.iload W0.here hx rfl (hb hby at_39) rfl  k) ?_
    refine Go.st (g' := (mkF m 42 #[.val (.int p0), .val (.int p1), .val (.int p2), .val (.int p3), .val (.int (((p0 &&& (2147483647 : Int32)) % (2147483647 : Int32)) + (1 : Int32))), .val (.int (((p1 &&& (2147483647 : Int32)) % (2147483647 : Int32)) + (1 : Int32))), .val (.long (p2.toInt64)), .second, .val (.int (p3 &&& (3 : Int32))), .val (.long (((p3 >>> ((2 : Int32) &&& 31)) &&& (3 : Int32)).toInt64)), .second, .unset, .unset, .unset, .unset, .unset, .unset, .unset, .unset, .unset] [(.int (1 : Int32)), (.int (p3 &&& (3 : Int32)))])) (fun _ k => XS.iconst W0.here hx rfl (hb hby at_41) k) ?_
    by_cases hc1 : (p3 &&& (3 : Int32)) = (1 : Int32)
    · refine Go.st (g' := (mkF m 45 #[.val (.int p0), .val (.int p1), .val (.int p2), .val (.int p3), .val (.int (((p0 &&& (2147483647 : Int32)) % (2147483647 : Int32)) + (1 : Int32))), .val (.int (((p1 &&& (2147483647 : Int32)) % (2147483647 : Int32)) + (1 : Int32))), .val (.long (p2.toInt64)), .second, .val (.int (p3 &&& (3 : Int32))), .val (.long (((p3 >>> ((2 : Int32) &&& 31)) &&& (3 : Int32)).toInt64)), .second, .unset, .unset, .unset, .unset, .unset, .unset, .unset, .unset, .unset] [])) (fun _ k => XS.icmpNo W0.here hx rfl (hb hby at_42) rfl (teq hc1).2 k) ?_
      refine Go.st (g' := (mkF m 47 #[.val (.int p0), .val (.int p1), .val (.int p2), .val (.int p3), .val (.int (((p0 &&& (2147483647 : Int32)) % (2147483647 : Int32)) + (1 : Int32))), .val (.int (((p1 &&& (2147483647 : Int32)) % (2147483647 : Int32)) + (1 : Int32))), .val (.long (p2.toInt64)), .second, .val (.int (p3 &&& (3 : Int32))), .val (.long (((p3 >>> ((2 : Int32) &&& 31)) &&& (3 : Int32)).toInt64)), .second, .unset, .unset, .unset, .unset, .unset, .unset, .unset, .unset, .unset] [(.int (((p0 &&& (2147483647 : Int32)) % (2147483647 : Int32)) + (1 : Int32)))])) (fun _ k => XS.iload W0.here hx rfl (hb hby at_45) rfl  k) ?_
      refine Go.st (g' := (mkF m 48 #[.val (.int p0), .val (.int p1), .val (.int p2), .val (.int p3), .val (.int (((p0 &&& (2147483647 : Int32)) % (2147483647 : Int32)) + (1 : Int32))), .val (.int (((p1 &&& (2147483647 : Int32)) % (2147483647 : Int32)) + (1 : Int32))), .val (.long (p2.toInt64)), .second, .val (.int (p3 &&& (3 : Int32))), .val (.long (((p3 >>> ((2 : Int32) &&& 31)) &&& (3 : Int32)).toInt64)), .second, .unset, .unset, .unset, .unset, .unset, .unset, .unset, .unset, .unset] [(.long ((((p0 &&& (2147483647 : Int32)) % (2147483647 : Int32)) + (1 : Int32)).toInt64))])) (fun _ k => XS.i2l W0.here hx rfl (hb hby at_47) rfl k) ?_
      refine Go.st (g' := (mkF m 51 #[.val (.int p0), .val (.int p1), .val (.int p2), .val (.int p3), .val (.int (((p0 &&& (2147483647 : Int32)) % (2147483647 : Int32)) + (1 : Int32))), .val (.int (((p1 &&& (2147483647 : Int32)) % (2147483647 : Int32)) + (1 : Int32))), .val (.long (p2.toInt64)), .second, .val (.int (p3 &&& (3 : Int32))), .val (.long (((p3 >>> ((2 : Int32) &&& 31)) &&& (3 : Int32)).toInt64)), .second, .unset, .unset, .unset, .unset, .unset, .unset, .unset, .unset, .unset] [(.long (2 : Int64)), (.long ((((p0 &&& (2147483647 : Int32)) % (2147483647 : Int32)) + (1 : Int32)).toInt64))])) (W0.ldcJ hx (hw _ (List.mem_of_getElem? (i := 1) rfl)) (g := (mkF m 48 #[.val (.int p0), .val (.int p1), .val (.int p2), .val (.int p3), .val (.int (((p0 &&& (2147483647 : Int32)) % (2147483647 : Int32)) + (1 : Int32))), .val (.int (((p1 &&& (2147483647 : Int32)) % (2147483647 : Int32)) + (1 : Int32))), .val (.long (p2.toInt64)), .second, .val (.int (p3 &&& (3 : Int32))), .val (.long (((p3 >>> ((2 : Int32) &&& 31)) &&& (3 : Int32)).toInt64)), .second, .unset, .unset, .unset, .unset, .unset, .unset, .unset, .unset, .unset] [(.long ((((p0 &&& (2147483647 : Int32)) % (2147483647 : Int32)) + (1 : Int32)).toInt64))])) rfl (hb hby at_48)) ?_
      refine Go.st (g' := (mkF m 52 #[.val (.int p0), .val (.int p1), .val (.int p2), .val (.int p3), .val (.int (((p0 &&& (2147483647 : Int32)) % (2147483647 : Int32)) + (1 : Int32))), .val (.int (((p1 &&& (2147483647 : Int32)) % (2147483647 : Int32)) + (1 : Int32))), .val (.long (p2.toInt64)), .second, .val (.int (p3 &&& (3 : Int32))), .val (.long (((p3 >>> ((2 : Int32) &&& 31)) &&& (3 : Int32)).toInt64)), .second, .unset, .unset, .unset, .unset, .unset, .unset, .unset, .unset, .unset] [(.long (((((p0 &&& (2147483647 : Int32)) % (2147483647 : Int32)) + (1 : Int32)).toInt64) - (2 : Int64)))])) (fun _ k => XS.lsub W0.here hx rfl (hb hby at_51) rfl k) ?_
      refine Go.st (g' := (mkF m 54 #[.val (.int p0), .val (.int p1), .val (.int p2), .val (.int p3), .val (.int (((p0 &&& (2147483647 : Int32)) % (2147483647 : Int32)) + (1 : Int32))), .val (.int (((p1 &&& (2147483647 : Int32)) % (2147483647 : Int32)) + (1 : Int32))), .val (.long (p2.toInt64)), .second, .val (.int (p3 &&& (3 : Int32))), .val (.long (((p3 >>> ((2 : Int32) &&& 31)) &&& (3 : Int32)).toInt64)), .second, .unset, .unset, .unset, .unset, .unset, .unset, .unset, .unset, .unset] [(.long (((p3 >>> ((2 : Int32) &&& 31)) &&& (3 : Int32)).toInt64)), (.long (((((p0 &&& (2147483647 : Int32)) % (2147483647 : Int32)) + (1 : Int32)).toInt64) - (2 : Int64)))])) (fun _ k => XS.lload W0.here hx rfl (hb hby at_52) rfl  k) ?_
      refine Go.st (g' := (mkF m 55 #[.val (.int p0), .val (.int p1), .val (.int p2), .val (.int p3), .val (.int (((p0 &&& (2147483647 : Int32)) % (2147483647 : Int32)) + (1 : Int32))), .val (.int (((p1 &&& (2147483647 : Int32)) % (2147483647 : Int32)) + (1 : Int32))), .val (.long (p2.toInt64)), .second, .val (.int (p3 &&& (3 : Int32))), .val (.long (((p3 >>> ((2 : Int32) &&& 31)) &&& (3 : Int32)).toInt64)), .second, .unset, .unset, .unset, .unset, .unset, .unset, .unset, .unset, .unset] [(.long ((((((p0 &&& (2147483647 : Int32)) % (2147483647 : Int32)) + (1 : Int32)).toInt64) - (2 : Int64)) + (((p3 >>> ((2 : Int32) &&& 31)) &&& (3 : Int32)).toInt64)))])) (fun _ k => XS.ladd W0.here hx rfl (hb hby at_54) rfl k) ?_
      refine Go.st (g' := (mkF m 57 #[.val (.int p0), .val (.int p1), .val (.int p2), .val (.int p3), .val (.int (((p0 &&& (2147483647 : Int32)) % (2147483647 : Int32)) + (1 : Int32))), .val (.int (((p1 &&& (2147483647 : Int32)) % (2147483647 : Int32)) + (1 : Int32))), .val (.long ((((((p0 &&& (2147483647 : Int32)) % (2147483647 : Int32)) + (1 : Int32)).toInt64) - (2 : Int64)) + (((p3 >>> ((2 : Int32) &&& 31)) &&& (3 : Int32)).toInt64))), .second, .val (.int (p3 &&& (3 : Int32))), .val (.long (((p3 >>> ((2 : Int32) &&& 31)) &&& (3 : Int32)).toInt64)), .second, .unset, .unset, .unset, .unset, .unset, .unset, .unset, .unset, .unset] [])) (fun _ k => XS.lstore W0.here hx rfl (hb hby at_55) rfl (l' := #[.val (.int p0), .val (.int p1), .val (.int p2), .val (.int p3), .val (.int (((p0 &&& (2147483647 : Int32)) % (2147483647 : Int32)) + (1 : Int32))), .val (.int (((p1 &&& (2147483647 : Int32)) % (2147483647 : Int32)) + (1 : Int32))), .val (.long ((((((p0 &&& (2147483647 : Int32)) % (2147483647 : Int32)) + (1 : Int32)).toInt64) - (2 : Int64)) + (((p3 >>> ((2 : Int32) &&& 31)) &&& (3 : Int32)).toInt64))), .second, .val (.int (p3 &&& (3 : Int32))), .val (.long (((p3 >>> ((2 : Int32) &&& 31)) &&& (3 : Int32)).toInt64)), .second, .unset, .unset, .unset, .unset, .unset, .unset, .unset, .unset, .unset]) rfl k) ?_
      refine Go.st (g' := (mkF m 82 #[.val (.int p0), .val (.int p1), .val (.int p2), .val (.int p3), .val (.int (((p0 &&& (2147483647 : Int32)) % (2147483647 : Int32)) + (1 : Int32))), .val (.int (((p1 &&& (2147483647 : Int32)) % (2147483647 : Int32)) + (1 : Int32))), .val (.long ((((((p0 &&& (2147483647 : Int32)) % (2147483647 : Int32)) + (1 : Int32)).toInt64) - (2 : Int64)) + (((p3 >>> ((2 : Int32) &&& 31)) &&& (3 : Int32)).toInt64))), .second, .val (.int (p3 &&& (3 : Int32))), .val (.long (((p3 >>> ((2 : Int32) &&& 31)) &&& (3 : Int32)).toInt64)), .second, .unset, .unset, .unset, .unset, .unset, .unset, .unset, .unset, .unset] [])) (fun _ k => XS.goto W0.here hx rfl (pc0 := 57) (pc' := 82) rfl (hb hby at_57) (by decide) (by decide) k) ?_
      exact key ((((((p0 &&& (2147483647 : Int32)) % (2147483647 : Int32)) + (1 : Int32)).toInt64) - (2 : Int64)) + (((p3 >>> ((2 : Int32) &&& 31)) &&& (3 : Int32)).toInt64))
    · refine Go.st (g' := (mkF m 60 #[.val (.int p0), .val (.int p1), .val (.int p2), .val (.int p3), .val (.int (((p0 &&& (2147483647 : Int32)) % (2147483647 : Int32)) + (1 : Int32))), .val (.int (((p1 &&& (2147483647 : Int32)) % (2147483647 : Int32)) + (1 : Int32))), .val (.long (p2.toInt64)), .second, .val (.int (p3 &&& (3 : Int32))), .val (.long (((p3 >>> ((2 : Int32) &&& 31)) &&& (3 : Int32)).toInt64)), .second, .unset, .unset, .unset, .unset, .unset, .unset, .unset, .unset, .unset] [])) (fun _ k => XS.icmpYes W0.here hx rfl (pc0 := 42) (pc' := 60) rfl (hb hby at_42) rfl (feq hc1).2 (by decide) (by decide) k) ?_
      refine Go.st (g' := (mkF m 62 #[.val (.int p0), .val (.int p1), .val (.int p2), .val (.int p3), .val (.int (((p0 &&& (2147483647 : Int32)) % (2147483647 : Int32)) + (1 : Int32))), .val (.int (((p1 &&& (2147483647 : Int32)) % (2147483647 : Int32)) + (1 : Int32))), .val (.long (p2.toInt64)), .second, .val (.int (p3 &&& (3 : Int32))), .val (.long (((p3 >>> ((2 : Int32) &&& 31)) &&& (3 : Int32)).toInt64)), .second, .unset, .unset, .unset, .unset, .unset, .unset, .unset, .unset, .unset] [(.int (p3 &&& (3 : Int32)))])) (fun _ k => XS.iload W0.here hx rfl (hb hby at_60) rfl  k) ?_
      refine Go.st (g' := (mkF m 63 #[.val (.int p0), .val (.int p1), .val (.int p2), .val (.int p3), .val (.int (((p0 &&& (2147483647 : Int32)) % (2147483647 : Int32)) + (1 : Int32))), .val (.int (((p1 &&& (2147483647 : Int32)) % (2147483647 : Int32)) + (1 : Int32))), .val (.long (p2.toInt64)), .second, .val (.int (p3 &&& (3 : Int32))), .val (.long (((p3 >>> ((2 : Int32) &&& 31)) &&& (3 : Int32)).toInt64)), .second, .unset, .unset, .unset, .unset, .unset, .unset, .unset, .unset, .unset] [(.int (2 : Int32)), (.int (p3 &&& (3 : Int32)))])) (fun _ k => XS.iconst W0.here hx rfl (hb hby at_62) k) ?_
      by_cases hc2 : (p3 &&& (3 : Int32)) = (2 : Int32)
      · refine Go.st (g' := (mkF m 66 #[.val (.int p0), .val (.int p1), .val (.int p2), .val (.int p3), .val (.int (((p0 &&& (2147483647 : Int32)) % (2147483647 : Int32)) + (1 : Int32))), .val (.int (((p1 &&& (2147483647 : Int32)) % (2147483647 : Int32)) + (1 : Int32))), .val (.long (p2.toInt64)), .second, .val (.int (p3 &&& (3 : Int32))), .val (.long (((p3 >>> ((2 : Int32) &&& 31)) &&& (3 : Int32)).toInt64)), .second, .unset, .unset, .unset, .unset, .unset, .unset, .unset, .unset, .unset] [])) (fun _ k => XS.icmpNo W0.here hx rfl (hb hby at_63) rfl (teq hc2).2 k) ?_
        refine Go.st (g' := (mkF m 68 #[.val (.int p0), .val (.int p1), .val (.int p2), .val (.int p3), .val (.int (((p0 &&& (2147483647 : Int32)) % (2147483647 : Int32)) + (1 : Int32))), .val (.int (((p1 &&& (2147483647 : Int32)) % (2147483647 : Int32)) + (1 : Int32))), .val (.long (p2.toInt64)), .second, .val (.int (p3 &&& (3 : Int32))), .val (.long (((p3 >>> ((2 : Int32) &&& 31)) &&& (3 : Int32)).toInt64)), .second, .unset, .unset, .unset, .unset, .unset, .unset, .unset, .unset, .unset] [(.int (((p0 &&& (2147483647 : Int32)) % (2147483647 : Int32)) + (1 : Int32)))])) (fun _ k => XS.iload W0.here hx rfl (hb hby at_66) rfl  k) ?_
        refine Go.st (g' := (mkF m 69 #[.val (.int p0), .val (.int p1), .val (.int p2), .val (.int p3), .val (.int (((p0 &&& (2147483647 : Int32)) % (2147483647 : Int32)) + (1 : Int32))), .val (.int (((p1 &&& (2147483647 : Int32)) % (2147483647 : Int32)) + (1 : Int32))), .val (.long (p2.toInt64)), .second, .val (.int (p3 &&& (3 : Int32))), .val (.long (((p3 >>> ((2 : Int32) &&& 31)) &&& (3 : Int32)).toInt64)), .second, .unset, .unset, .unset, .unset, .unset, .unset, .unset, .unset, .unset] [(.long ((((p0 &&& (2147483647 : Int32)) % (2147483647 : Int32)) + (1 : Int32)).toInt64))])) (fun _ k => XS.i2l W0.here hx rfl (hb hby at_68) rfl k) ?_
        refine Go.st (g' := (mkF m 71 #[.val (.int p0), .val (.int p1), .val (.int p2), .val (.int p3), .val (.int (((p0 &&& (2147483647 : Int32)) % (2147483647 : Int32)) + (1 : Int32))), .val (.int (((p1 &&& (2147483647 : Int32)) % (2147483647 : Int32)) + (1 : Int32))), .val (.long (p2.toInt64)), .second, .val (.int (p3 &&& (3 : Int32))), .val (.long (((p3 >>> ((2 : Int32) &&& 31)) &&& (3 : Int32)).toInt64)), .second, .unset, .unset, .unset, .unset, .unset, .unset, .unset, .unset, .unset] [(.int (((p1 &&& (2147483647 : Int32)) % (2147483647 : Int32)) + (1 : Int32))), (.long ((((p0 &&& (2147483647 : Int32)) % (2147483647 : Int32)) + (1 : Int32)).toInt64))])) (fun _ k => XS.iload W0.here hx rfl (hb hby at_69) rfl  k) ?_
        refine Go.st (g' := (mkF m 72 #[.val (.int p0), .val (.int p1), .val (.int p2), .val (.int p3), .val (.int (((p0 &&& (2147483647 : Int32)) % (2147483647 : Int32)) + (1 : Int32))), .val (.int (((p1 &&& (2147483647 : Int32)) % (2147483647 : Int32)) + (1 : Int32))), .val (.long (p2.toInt64)), .second, .val (.int (p3 &&& (3 : Int32))), .val (.long (((p3 >>> ((2 : Int32) &&& 31)) &&& (3 : Int32)).toInt64)), .second, .unset, .unset, .unset, .unset, .unset, .unset, .unset, .unset, .unset] [(.long ((((p1 &&& (2147483647 : Int32)) % (2147483647 : Int32)) + (1 : Int32)).toInt64)), (.long ((((p0 &&& (2147483647 : Int32)) % (2147483647 : Int32)) + (1 : Int32)).toInt64))])) (fun _ k => XS.i2l W0.here hx rfl (hb hby at_71) rfl k) ?_
        refine Go.st (g' := (mkF m 73 #[.val (.int p0), .val (.int p1), .val (.int p2), .val (.int p3), .val (.int (((p0 &&& (2147483647 : Int32)) % (2147483647 : Int32)) + (1 : Int32))), .val (.int (((p1 &&& (2147483647 : Int32)) % (2147483647 : Int32)) + (1 : Int32))), .val (.long (p2.toInt64)), .second, .val (.int (p3 &&& (3 : Int32))), .val (.long (((p3 >>> ((2 : Int32) &&& 31)) &&& (3 : Int32)).toInt64)), .second, .unset, .unset, .unset, .unset, .unset, .unset, .unset, .unset, .unset] [(.long (((((p0 &&& (2147483647 : Int32)) % (2147483647 : Int32)) + (1 : Int32)).toInt64) + ((((p1 &&& (2147483647 : Int32)) % (2147483647 : Int32)) + (1 : Int32)).toInt64)))])) (fun _ k => XS.ladd W0.here hx rfl (hb hby at_72) rfl k) ?_
        refine Go.st (g' := (mkF m 76 #[.val (.int p0), .val (.int p1), .val (.int p2), .val (.int p3), .val (.int (((p0 &&& (2147483647 : Int32)) % (2147483647 : Int32)) + (1 : Int32))), .val (.int (((p1 &&& (2147483647 : Int32)) % (2147483647 : Int32)) + (1 : Int32))), .val (.long (p2.toInt64)), .second, .val (.int (p3 &&& (3 : Int32))), .val (.long (((p3 >>> ((2 : Int32) &&& 31)) &&& (3 : Int32)).toInt64)), .second, .unset, .unset, .unset, .unset, .unset, .unset, .unset, .unset, .unset] [(.long (2 : Int64)), (.long (((((p0 &&& (2147483647 : Int32)) % (2147483647 : Int32)) + (1 : Int32)).toInt64) + ((((p1 &&& (2147483647 : Int32)) % (2147483647 : Int32)) + (1 : Int32)).toInt64)))])) (W0.ldcJ hx (hw _ (List.mem_of_getElem? (i := 1) rfl)) (g := (mkF m 73 #[.val (.int p0), .val (.int p1), .val (.int p2), .val (.int p3), .val (.int (((p0 &&& (2147483647 : Int32)) % (2147483647 : Int32)) + (1 : Int32))), .val (.int (((p1 &&& (2147483647 : Int32)) % (2147483647 : Int32)) + (1 : Int32))), .val (.long (p2.toInt64)), .second, .val (.int (p3 &&& (3 : Int32))), .val (.long (((p3 >>> ((2 : Int32) &&& 31)) &&& (3 : Int32)).toInt64)), .second, .unset, .unset, .unset, .unset, .unset, .unset, .unset, .unset, .unset] [(.long (((((p0 &&& (2147483647 : Int32)) % (2147483647 : Int32)) + (1 : Int32)).toInt64) + ((((p1 &&& (2147483647 : Int32)) % (2147483647 : Int32)) + (1 : Int32)).toInt64)))])) rfl (hb hby at_73)) ?_
        refine Go.st (g' := (mkF m 77 #[.val (.int p0), .val (.int p1), .val (.int p2), .val (.int p3), .val (.int (((p0 &&& (2147483647 : Int32)) % (2147483647 : Int32)) + (1 : Int32))), .val (.int (((p1 &&& (2147483647 : Int32)) % (2147483647 : Int32)) + (1 : Int32))), .val (.long (p2.toInt64)), .second, .val (.int (p3 &&& (3 : Int32))), .val (.long (((p3 >>> ((2 : Int32) &&& 31)) &&& (3 : Int32)).toInt64)), .second, .unset, .unset, .unset, .unset, .unset, .unset, .unset, .unset, .unset] [(.long ((((((p0 &&& (2147483647 : Int32)) % (2147483647 : Int32)) + (1 : Int32)).toInt64) + ((((p1 &&& (2147483647 : Int32)) % (2147483647 : Int32)) + (1 : Int32)).toInt64)) - (2 : Int64)))])) (fun _ k => XS.lsub W0.here hx rfl (hb hby at_76) rfl k) ?_
        refine Go.st (g' := (mkF m 79 #[.val (.int p0), .val (.int p1), .val (.int p2), .val (.int p3), .val (.int (((p0 &&& (2147483647 : Int32)) % (2147483647 : Int32)) + (1 : Int32))), .val (.int (((p1 &&& (2147483647 : Int32)) % (2147483647 : Int32)) + (1 : Int32))), .val (.long (p2.toInt64)), .second, .val (.int (p3 &&& (3 : Int32))), .val (.long (((p3 >>> ((2 : Int32) &&& 31)) &&& (3 : Int32)).toInt64)), .second, .unset, .unset, .unset, .unset, .unset, .unset, .unset, .unset, .unset] [(.long (((p3 >>> ((2 : Int32) &&& 31)) &&& (3 : Int32)).toInt64)), (.long ((((((p0 &&& (2147483647 : Int32)) % (2147483647 : Int32)) + (1 : Int32)).toInt64) + ((((p1 &&& (2147483647 : Int32)) % (2147483647 : Int32)) + (1 : Int32)).toInt64)) - (2 : Int64)))])) (fun _ k => XS.lload W0.here hx rfl (hb hby at_77) rfl  k) ?_
        refine Go.st (g' := (mkF m 80 #[.val (.int p0), .val (.int p1), .val (.int p2), .val (.int p3), .val (.int (((p0 &&& (2147483647 : Int32)) % (2147483647 : Int32)) + (1 : Int32))), .val (.int (((p1 &&& (2147483647 : Int32)) % (2147483647 : Int32)) + (1 : Int32))), .val (.long (p2.toInt64)), .second, .val (.int (p3 &&& (3 : Int32))), .val (.long (((p3 >>> ((2 : Int32) &&& 31)) &&& (3 : Int32)).toInt64)), .second, .unset, .unset, .unset, .unset, .unset, .unset, .unset, .unset, .unset] [(.long (((((((p0 &&& (2147483647 : Int32)) % (2147483647 : Int32)) + (1 : Int32)).toInt64) + ((((p1 &&& (2147483647 : Int32)) % (2147483647 : Int32)) + (1 : Int32)).toInt64)) - (2 : Int64)) + (((p3 >>> ((2 : Int32) &&& 31)) &&& (3 : Int32)).toInt64)))])) (fun _ k => XS.ladd W0.here hx rfl (hb hby at_79) rfl k) ?_
        refine Go.st (g' := (mkF m 82 #[.val (.int p0), .val (.int p1), .val (.int p2), .val (.int p3), .val (.int (((p0 &&& (2147483647 : Int32)) % (2147483647 : Int32)) + (1 : Int32))), .val (.int (((p1 &&& (2147483647 : Int32)) % (2147483647 : Int32)) + (1 : Int32))), .val (.long (((((((p0 &&& (2147483647 : Int32)) % (2147483647 : Int32)) + (1 : Int32)).toInt64) + ((((p1 &&& (2147483647 : Int32)) % (2147483647 : Int32)) + (1 : Int32)).toInt64)) - (2 : Int64)) + (((p3 >>> ((2 : Int32) &&& 31)) &&& (3 : Int32)).toInt64))), .second, .val (.int (p3 &&& (3 : Int32))), .val (.long (((p3 >>> ((2 : Int32) &&& 31)) &&& (3 : Int32)).toInt64)), .second, .unset, .unset, .unset, .unset, .unset, .unset, .unset, .unset, .unset] [])) (fun _ k => XS.lstore W0.here hx rfl (hb hby at_80) rfl (l' := #[.val (.int p0), .val (.int p1), .val (.int p2), .val (.int p3), .val (.int (((p0 &&& (2147483647 : Int32)) % (2147483647 : Int32)) + (1 : Int32))), .val (.int (((p1 &&& (2147483647 : Int32)) % (2147483647 : Int32)) + (1 : Int32))), .val (.long (((((((p0 &&& (2147483647 : Int32)) % (2147483647 : Int32)) + (1 : Int32)).toInt64) + ((((p1 &&& (2147483647 : Int32)) % (2147483647 : Int32)) + (1 : Int32)).toInt64)) - (2 : Int64)) + (((p3 >>> ((2 : Int32) &&& 31)) &&& (3 : Int32)).toInt64))), .second, .val (.int (p3 &&& (3 : Int32))), .val (.long (((p3 >>> ((2 : Int32) &&& 31)) &&& (3 : Int32)).toInt64)), .second, .unset, .unset, .unset, .unset, .unset, .unset, .unset, .unset, .unset]) rfl k) ?_
        exact key (((((((p0 &&& (2147483647 : Int32)) % (2147483647 : Int32)) + (1 : Int32)).toInt64) + ((((p1 &&& (2147483647 : Int32)) % (2147483647 : Int32)) + (1 : Int32)).toInt64)) - (2 : Int64)) + (((p3 >>> ((2 : Int32) &&& 31)) &&& (3 : Int32)).toInt64))
      · refine Go.st (g' := (mkF m 82 #[.val (.int p0), .val (.int p1), .val (.int p2), .val (.int p3), .val (.int (((p0 &&& (2147483647 : Int32)) % (2147483647 : Int32)) + (1 : Int32))), .val (.int (((p1 &&& (2147483647 : Int32)) % (2147483647 : Int32)) + (1 : Int32))), .val (.long (p2.toInt64)), .second, .val (.int (p3 &&& (3 : Int32))), .val (.long (((p3 >>> ((2 : Int32) &&& 31)) &&& (3 : Int32)).toInt64)), .second, .unset, .unset, .unset, .unset, .unset, .unset, .unset, .unset, .unset] [])) (fun _ k => XS.icmpYes W0.here hx rfl (pc0 := 63) (pc' := 82) rfl (hb hby at_63) rfl (feq hc2).2 (by decide) (by decide) k) ?_
        exact key (p2.toInt64)
  refine Go.st (g' := (mkF m 85 #[.val (.int p0), .val (.int p1), .val (.int p2), .val (.int p3), .val (.int (((p0 &&& (2147483647 : Int32)) % (2147483647 : Int32)) + (1 : Int32))), .val (.int (((p1 &&& (2147483647 : Int32)) % (2147483647 : Int32)) + (1 : Int32))), .val (.long y6), .second, .val (.int (p3 &&& (3 : Int32))), .val (.long (((p3 >>> ((2 : Int32) &&& 31)) &&& (3 : Int32)).toInt64)), .second, .unset, .unset, .unset, .unset, .unset, .unset, .unset, .unset, .unset] [(.long (-2147483648 : Int64))])) (W0.ldcJ hx (hw _ (List.mem_of_getElem? (i := 2) rfl)) (g := (mkF m 82 #[.val (.int p0), .val (.int p1), .val (.int p2), .val (.int p3), .val (.int (((p0 &&& (2147483647 : Int32)) % (2147483647 : Int32)) + (1 : Int32))), .val (.int (((p1 &&& (2147483647 : Int32)) % (2147483647 : Int32)) + (1 : Int32))), .val (.long y6), .second, .val (.int (p3 &&& (3 : Int32))), .val (.long (((p3 >>> ((2 : Int32) &&& 31)) &&& (3 : Int32)).toInt64)), .second, .unset, .unset, .unset, .unset, .unset, .unset, .unset, .unset, .unset] [])) rfl (hb hby at_82)) ?_
  refine Go.st (g' := (mkF m 88 #[.val (.int p0), .val (.int p1), .val (.int p2), .val (.int p3), .val (.int (((p0 &&& (2147483647 : Int32)) % (2147483647 : Int32)) + (1 : Int32))), .val (.int (((p1 &&& (2147483647 : Int32)) % (2147483647 : Int32)) + (1 : Int32))), .val (.long y6), .second, .val (.int (p3 &&& (3 : Int32))), .val (.long (((p3 >>> ((2 : Int32) &&& 31)) &&& (3 : Int32)).toInt64)), .second, .unset, .unset, .unset, .unset, .unset, .unset, .unset, .unset, .unset] [(.long (2147483647 : Int64)), (.long (-2147483648 : Int64))])) (W0.ldcJ hx (hw _ (List.mem_of_getElem? (i := 3) rfl)) (g := (mkF m 85 #[.val (.int p0), .val (.int p1), .val (.int p2), .val (.int p3), .val (.int (((p0 &&& (2147483647 : Int32)) % (2147483647 : Int32)) + (1 : Int32))), .val (.int (((p1 &&& (2147483647 : Int32)) % (2147483647 : Int32)) + (1 : Int32))), .val (.long y6), .second, .val (.int (p3 &&& (3 : Int32))), .val (.long (((p3 >>> ((2 : Int32) &&& 31)) &&& (3 : Int32)).toInt64)), .second, .unset, .unset, .unset, .unset, .unset, .unset, .unset, .unset, .unset] [(.long (-2147483648 : Int64))])) rfl (hb hby at_85)) ?_
  refine Go.st (g' := (mkF m 90 #[.val (.int p0), .val (.int p1), .val (.int p2), .val (.int p3), .val (.int (((p0 &&& (2147483647 : Int32)) % (2147483647 : Int32)) + (1 : Int32))), .val (.int (((p1 &&& (2147483647 : Int32)) % (2147483647 : Int32)) + (1 : Int32))), .val (.long y6), .second, .val (.int (p3 &&& (3 : Int32))), .val (.long (((p3 >>> ((2 : Int32) &&& 31)) &&& (3 : Int32)).toInt64)), .second, .unset, .unset, .unset, .unset, .unset, .unset, .unset, .unset, .unset] [(.long y6), (.long (2147483647 : Int64)), (.long (-2147483648 : Int64))])) (fun _ k => XS.lload W0.here hx rfl (hb hby at_88) rfl  k) ?_
  obtain ⟨_, vm3, T3, h3, W3, Q3, z3, SF3, st3⟩ := W0.callS hx hEL (own_minJ l hE W0.old (x0 := (2147483647 : Int64)) (y0 := y6)  ) (hw _ (List.mem_of_getElem? (i := 4) rfl)) (hw _ (List.mem_of_getElem? (i := 5) rfl)) (hw _ (List.mem_of_getElem? (i := 6) rfl)) (hw _ (List.mem_of_getElem? (i := 7) rfl)) (by decide) (Wd := 2) (by decide) (by decide) (by decide) (by decide) (g := (mkF m 90 #[.val (.int p0), .val (.int p1), .val (.int p2), .val (.int p3), .val (.int (((p0 &&& (2147483647 : Int32)) % (2147483647 : Int32)) + (1 : Int32))), .val (.int (((p1 &&& (2147483647 : Int32)) % (2147483647 : Int32)) + (1 : Int32))), .val (.long y6), .second, .val (.int (p3 &&& (3 : Int32))), .val (.long (((p3 >>> ((2 : Int32) &&& 31)) &&& (3 : Int32)).toInt64)), .second, .unset, .unset, .unset, .unset, .unset, .unset, .unset, .unset, .unset] [(.long y6), (.long (2147483647 : Int64)), (.long (-2147483648 : Int64))])) rfl (by rw [hml]; rfl) (argsL := [(.long (2147483647 : Int64)), (.long y6)]) (rest := [(.long (-2147483648 : Int64))]) rfl (lenOf pd__JJ_J rfl) rfl (by show 2 * 0 + _ ≤ _; exact Nat.le_of_eq rfl) (hb hby at_90)
  obtain ⟨r_3, rfl, eh3⟩ := Q3
  subst eh3
  refine Go.tr (g' := (mkF m 93 #[.val (.int p0), .val (.int p1), .val (.int p2), .val (.int p3), .val (.int (((p0 &&& (2147483647 : Int32)) % (2147483647 : Int32)) + (1 : Int32))), .val (.int (((p1 &&& (2147483647 : Int32)) % (2147483647 : Int32)) + (1 : Int32))), .val (.long y6), .second, .val (.int (p3 &&& (3 : Int32))), .val (.long (((p3 >>> ((2 : Int32) &&& 31)) &&& (3 : Int32)).toInt64)), .second, .unset, .unset, .unset, .unset, .unset, .unset, .unset, .unset, .unset] [(.long r_3), (.long (-2147483648 : Int64))])) st3 ?_
  obtain ⟨_, vm4, T4, h4, W4, Q4, z4, SF4, st4⟩ := W3.callS hx hEL (own_maxJ l hE W3.old (x0 := (-2147483648 : Int64)) (y0 := r_3)  ) (hw _ (List.mem_of_getElem? (i := 8) rfl)) (hw _ (List.mem_of_getElem? (i := 9) rfl)) (hw _ (List.mem_of_getElem? (i := 6) rfl)) (hw _ (List.mem_of_getElem? (i := 10) rfl)) (by decide) (Wd := 0) (by decide) (by decide) (by decide) (by decide) (g := (mkF m 93 #[.val (.int p0), .val (.int p1), .val (.int p2), .val (.int p3), .val (.int (((p0 &&& (2147483647 : Int32)) % (2147483647 : Int32)) + (1 : Int32))), .val (.int (((p1 &&& (2147483647 : Int32)) % (2147483647 : Int32)) + (1 : Int32))), .val (.long y6), .second, .val (.int (p3 &&& (3 : Int32))), .val (.long (((p3 >>> ((2 : Int32) &&& 31)) &&& (3 : Int32)).toInt64)), .second, .unset, .unset, .unset, .unset, .unset, .unset, .unset, .unset, .unset] [(.long r_3), (.long (-2147483648 : Int64))])) rfl (by rw [hml]; rfl) (argsL := [(.long (-2147483648 : Int64)), (.long r_3)]) (rest := []) rfl (lenOf pd__JJ_J rfl) rfl (by show 2 * 0 + _ ≤ _; exact Nat.le_of_eq rfl) (hb hby at_93)
  obtain ⟨r_4, rfl, eh4⟩ := Q4
  subst eh4
  refine Go.tr (g' := (mkF m 96 #[.val (.int p0), .val (.int p1), .val (.int p2), .val (.int p3), .val (.int (((p0 &&& (2147483647 : Int32)) % (2147483647 : Int32)) + (1 : Int32))), .val (.int (((p1 &&& (2147483647 : Int32)) % (2147483647 : Int32)) + (1 : Int32))), .val (.long y6), .second, .val (.int (p3 &&& (3 : Int32))), .val (.long (((p3 >>> ((2 : Int32) &&& 31)) &&& (3 : Int32)).toInt64)), .second, .unset, .unset, .unset, .unset, .unset, .unset, .unset, .unset, .unset] [(.long r_4)])) st4 ?_
  refine Go.st (g' := (mkF m 98 #[.val (.int p0), .val (.int p1), .val (.int p2), .val (.int p3), .val (.int (((p0 &&& (2147483647 : Int32)) % (2147483647 : Int32)) + (1 : Int32))), .val (.int (((p1 &&& (2147483647 : Int32)) % (2147483647 : Int32)) + (1 : Int32))), .val (.long r_4), .second, .val (.int (p3 &&& (3 : Int32))), .val (.long (((p3 >>> ((2 : Int32) &&& 31)) &&& (3 : Int32)).toInt64)), .second, .unset, .unset, .unset, .unset, .unset, .unset, .unset, .unset, .unset] [])) (fun _ k => XS.lstore W4.here hx rfl (hb hby at_96) rfl (l' := #[.val (.int p0), .val (.int p1), .val (.int p2), .val (.int p3), .val (.int (((p0 &&& (2147483647 : Int32)) % (2147483647 : Int32)) + (1 : Int32))), .val (.int (((p1 &&& (2147483647 : Int32)) % (2147483647 : Int32)) + (1 : Int32))), .val (.long r_4), .second, .val (.int (p3 &&& (3 : Int32))), .val (.long (((p3 >>> ((2 : Int32) &&& 31)) &&& (3 : Int32)).toInt64)), .second, .unset, .unset, .unset, .unset, .unset, .unset, .unset, .unset, .unset]) rfl k) ?_
  refine Go.st (g' := (mkF m 100 #[.val (.int p0), .val (.int p1), .val (.int p2), .val (.int p3), .val (.int (((p0 &&& (2147483647 : Int32)) % (2147483647 : Int32)) + (1 : Int32))), .val (.int (((p1 &&& (2147483647 : Int32)) % (2147483647 : Int32)) + (1 : Int32))), .val (.long r_4), .second, .val (.int (p3 &&& (3 : Int32))), .val (.long (((p3 >>> ((2 : Int32) &&& 31)) &&& (3 : Int32)).toInt64)), .second, .unset, .unset, .unset, .unset, .unset, .unset, .unset, .unset, .unset] [(.long r_4)])) (fun _ k => XS.lload W4.here hx rfl (hb hby at_98) rfl  k) ?_
  refine Go.st (g' := (mkF m 101 #[.val (.int p0), .val (.int p1), .val (.int p2), .val (.int p3), .val (.int (((p0 &&& (2147483647 : Int32)) % (2147483647 : Int32)) + (1 : Int32))), .val (.int (((p1 &&& (2147483647 : Int32)) % (2147483647 : Int32)) + (1 : Int32))), .val (.long r_4), .second, .val (.int (p3 &&& (3 : Int32))), .val (.long (((p3 >>> ((2 : Int32) &&& 31)) &&& (3 : Int32)).toInt64)), .second, .unset, .unset, .unset, .unset, .unset, .unset, .unset, .unset, .unset] [(.int (r_4.toInt32))])) (fun _ k => XS.l2i W4.here hx rfl (hb hby at_100) rfl k) ?_
  refine Go.st (g' := (mkF m 103 #[.val (.int p0), .val (.int p1), .val (.int p2), .val (.int p3), .val (.int (((p0 &&& (2147483647 : Int32)) % (2147483647 : Int32)) + (1 : Int32))), .val (.int (((p1 &&& (2147483647 : Int32)) % (2147483647 : Int32)) + (1 : Int32))), .val (.long r_4), .second, .val (.int (p3 &&& (3 : Int32))), .val (.long (((p3 >>> ((2 : Int32) &&& 31)) &&& (3 : Int32)).toInt64)), .second, .val (.int (r_4.toInt32)), .unset, .unset, .unset, .unset, .unset, .unset, .unset, .unset] [])) (fun _ k => XS.istore W4.here hx rfl (hb hby at_101) rfl (l' := #[.val (.int p0), .val (.int p1), .val (.int p2), .val (.int p3), .val (.int (((p0 &&& (2147483647 : Int32)) % (2147483647 : Int32)) + (1 : Int32))), .val (.int (((p1 &&& (2147483647 : Int32)) % (2147483647 : Int32)) + (1 : Int32))), .val (.long r_4), .second, .val (.int (p3 &&& (3 : Int32))), .val (.long (((p3 >>> ((2 : Int32) &&& 31)) &&& (3 : Int32)).toInt64)), .second, .val (.int (r_4.toInt32)), .unset, .unset, .unset, .unset, .unset, .unset, .unset, .unset]) rfl k) ?_
  refine Go.st (g' := (mkF m 104 #[.val (.int p0), .val (.int p1), .val (.int p2), .val (.int p3), .val (.int (((p0 &&& (2147483647 : Int32)) % (2147483647 : Int32)) + (1 : Int32))), .val (.int (((p1 &&& (2147483647 : Int32)) % (2147483647 : Int32)) + (1 : Int32))), .val (.long r_4), .second, .val (.int (p3 &&& (3 : Int32))), .val (.long (((p3 >>> ((2 : Int32) &&& 31)) &&& (3 : Int32)).toInt64)), .second, .val (.int (r_4.toInt32)), .unset, .unset, .unset, .unset, .unset, .unset, .unset, .unset] [(.int p3)])) (fun _ k => XS.iloadN W4.here hx rfl (hb hby at_103) rfl  k) ?_
  refine Go.st (g' := (mkF m 106 #[.val (.int p0), .val (.int p1), .val (.int p2), .val (.int p3), .val (.int (((p0 &&& (2147483647 : Int32)) % (2147483647 : Int32)) + (1 : Int32))), .val (.int (((p1 &&& (2147483647 : Int32)) % (2147483647 : Int32)) + (1 : Int32))), .val (.long r_4), .second, .val (.int (p3 &&& (3 : Int32))), .val (.long (((p3 >>> ((2 : Int32) &&& 31)) &&& (3 : Int32)).toInt64)), .second, .val (.int (r_4.toInt32)), .unset, .unset, .unset, .unset, .unset, .unset, .unset, .unset] [(.int (16 : Int32)), (.int p3)])) (fun _ k => XS.bipush W4.here hx rfl (hb hby at_104) k) ?_
  refine Go.st (g' := (mkF m 107 #[.val (.int p0), .val (.int p1), .val (.int p2), .val (.int p3), .val (.int (((p0 &&& (2147483647 : Int32)) % (2147483647 : Int32)) + (1 : Int32))), .val (.int (((p1 &&& (2147483647 : Int32)) % (2147483647 : Int32)) + (1 : Int32))), .val (.long r_4), .second, .val (.int (p3 &&& (3 : Int32))), .val (.long (((p3 >>> ((2 : Int32) &&& 31)) &&& (3 : Int32)).toInt64)), .second, .val (.int (r_4.toInt32)), .unset, .unset, .unset, .unset, .unset, .unset, .unset, .unset] [(.int ((p3.toUInt32 >>> ((16 : Int32) &&& 31).toUInt32).toInt32))])) (fun _ k => XS.iushr W4.here hx rfl (hb hby at_106) rfl k) ?_
  refine Go.st (g' := (mkF m 110 #[.val (.int p0), .val (.int p1), .val (.int p2), .val (.int p3), .val (.int (((p0 &&& (2147483647 : Int32)) % (2147483647 : Int32)) + (1 : Int32))), .val (.int (((p1 &&& (2147483647 : Int32)) % (2147483647 : Int32)) + (1 : Int32))), .val (.long r_4), .second, .val (.int (p3 &&& (3 : Int32))), .val (.long (((p3 >>> ((2 : Int32) &&& 31)) &&& (3 : Int32)).toInt64)), .second, .val (.int (r_4.toInt32)), .unset, .unset, .unset, .unset, .unset, .unset, .unset, .unset] [(.int (255 : Int32)), (.int ((p3.toUInt32 >>> ((16 : Int32) &&& 31).toUInt32).toInt32))])) (fun _ k => XS.sipush W4.here hx rfl (hb hby at_107) k) ?_
  refine Go.st (g' := (mkF m 111 #[.val (.int p0), .val (.int p1), .val (.int p2), .val (.int p3), .val (.int (((p0 &&& (2147483647 : Int32)) % (2147483647 : Int32)) + (1 : Int32))), .val (.int (((p1 &&& (2147483647 : Int32)) % (2147483647 : Int32)) + (1 : Int32))), .val (.long r_4), .second, .val (.int (p3 &&& (3 : Int32))), .val (.long (((p3 >>> ((2 : Int32) &&& 31)) &&& (3 : Int32)).toInt64)), .second, .val (.int (r_4.toInt32)), .unset, .unset, .unset, .unset, .unset, .unset, .unset, .unset] [(.int (((p3.toUInt32 >>> ((16 : Int32) &&& 31).toUInt32).toInt32) &&& (255 : Int32)))])) (fun _ k => XS.iand W4.here hx rfl (hb hby at_110) rfl k) ?_
  refine Go.st (g' := (mkF m 112 #[.val (.int p0), .val (.int p1), .val (.int p2), .val (.int p3), .val (.int (((p0 &&& (2147483647 : Int32)) % (2147483647 : Int32)) + (1 : Int32))), .val (.int (((p1 &&& (2147483647 : Int32)) % (2147483647 : Int32)) + (1 : Int32))), .val (.long r_4), .second, .val (.int (p3 &&& (3 : Int32))), .val (.long (((p3 >>> ((2 : Int32) &&& 31)) &&& (3 : Int32)).toInt64)), .second, .val (.int (r_4.toInt32)), .unset, .unset, .unset, .unset, .unset, .unset, .unset, .unset] [(.int ((((p3.toUInt32 >>> ((16 : Int32) &&& 31).toUInt32).toInt32) &&& (255 : Int32)).toUInt32.toUInt16.toUInt32.toInt32))])) (fun _ k => XS.i2c W4.here hx rfl (hb hby at_111) rfl k) ?_
  rw [i2c_mask]
  refine Go.st (g' := (mkF m 114 #[.val (.int p0), .val (.int p1), .val (.int p2), .val (.int p3), .val (.int (((p0 &&& (2147483647 : Int32)) % (2147483647 : Int32)) + (1 : Int32))), .val (.int (((p1 &&& (2147483647 : Int32)) % (2147483647 : Int32)) + (1 : Int32))), .val (.long r_4), .second, .val (.int (p3 &&& (3 : Int32))), .val (.long (((p3 >>> ((2 : Int32) &&& 31)) &&& (3 : Int32)).toInt64)), .second, .val (.int (r_4.toInt32)), .val (.int (((p3.toUInt32 >>> ((16 : Int32) &&& 31).toUInt32).toInt32) &&& (255 : Int32))), .unset, .unset, .unset, .unset, .unset, .unset, .unset] [])) (fun _ k => XS.istore W4.here hx rfl (hb hby at_112) rfl (l' := #[.val (.int p0), .val (.int p1), .val (.int p2), .val (.int p3), .val (.int (((p0 &&& (2147483647 : Int32)) % (2147483647 : Int32)) + (1 : Int32))), .val (.int (((p1 &&& (2147483647 : Int32)) % (2147483647 : Int32)) + (1 : Int32))), .val (.long r_4), .second, .val (.int (p3 &&& (3 : Int32))), .val (.long (((p3 >>> ((2 : Int32) &&& 31)) &&& (3 : Int32)).toInt64)), .second, .val (.int (r_4.toInt32)), .val (.int (((p3.toUInt32 >>> ((16 : Int32) &&& 31).toUInt32).toInt32) &&& (255 : Int32))), .unset, .unset, .unset, .unset, .unset, .unset, .unset]) rfl k) ?_
  refine Go.st (g' := (mkF m 116 #[.val (.int p0), .val (.int p1), .val (.int p2), .val (.int p3), .val (.int (((p0 &&& (2147483647 : Int32)) % (2147483647 : Int32)) + (1 : Int32))), .val (.int (((p1 &&& (2147483647 : Int32)) % (2147483647 : Int32)) + (1 : Int32))), .val (.long r_4), .second, .val (.int (p3 &&& (3 : Int32))), .val (.long (((p3 >>> ((2 : Int32) &&& 31)) &&& (3 : Int32)).toInt64)), .second, .val (.int (r_4.toInt32)), .val (.int (((p3.toUInt32 >>> ((16 : Int32) &&& 31).toUInt32).toInt32) &&& (255 : Int32))), .unset, .unset, .unset, .unset, .unset, .unset, .unset] [(.int (((p3.toUInt32 >>> ((16 : Int32) &&& 31).toUInt32).toInt32) &&& (255 : Int32)))])) (fun _ k => XS.iload W4.here hx rfl (hb hby at_114) rfl  k) ?_
  obtain ⟨_, vm5, T5, h5, W5, Q5, z5, SF5, st5⟩ := W4.callS hx hEL (own_valueOf l hE W4.old (c0 := (((p3.toUInt32 >>> ((16 : Int32) &&& 31).toUInt32).toInt32) &&& (255 : Int32))) (own_and255 _) ) (hw _ (List.mem_of_getElem? (i := 11) rfl)) (hw _ (List.mem_of_getElem? (i := 12) rfl)) (hw _ (List.mem_of_getElem? (i := 13) rfl)) (hw _ (List.mem_of_getElem? (i := 14) rfl)) (by decide) (Wd := 0) (by decide) (by decide) (by decide) (by decide) (g := (mkF m 116 #[.val (.int p0), .val (.int p1), .val (.int p2), .val (.int p3), .val (.int (((p0 &&& (2147483647 : Int32)) % (2147483647 : Int32)) + (1 : Int32))), .val (.int (((p1 &&& (2147483647 : Int32)) % (2147483647 : Int32)) + (1 : Int32))), .val (.long r_4), .second, .val (.int (p3 &&& (3 : Int32))), .val (.long (((p3 >>> ((2 : Int32) &&& 31)) &&& (3 : Int32)).toInt64)), .second, .val (.int (r_4.toInt32)), .val (.int (((p3.toUInt32 >>> ((16 : Int32) &&& 31).toUInt32).toInt32) &&& (255 : Int32))), .unset, .unset, .unset, .unset, .unset, .unset, .unset] [(.int (((p3.toUInt32 >>> ((16 : Int32) &&& 31).toUInt32).toInt32) &&& (255 : Int32)))])) rfl (by rw [hml]; rfl) (argsL := [(.int (((p3.toUInt32 >>> ((16 : Int32) &&& 31).toUInt32).toInt32) &&& (255 : Int32)))]) (rest := []) rfl (lenOf pd__C_Ljava_lang_String_ rfl) rfl (by show 2 * 0 + _ ≤ _; exact Nat.le_of_eq rfl) (hb hby at_116)
  obtain ⟨x_5, rfl, p5_0, f5_0, K5⟩ := Q5
  have yf5_0 : h5.size > x_5 := f5_0.lt
  refine Go.tr (g' := (mkF m 119 #[.val (.int p0), .val (.int p1), .val (.int p2), .val (.int p3), .val (.int (((p0 &&& (2147483647 : Int32)) % (2147483647 : Int32)) + (1 : Int32))), .val (.int (((p1 &&& (2147483647 : Int32)) % (2147483647 : Int32)) + (1 : Int32))), .val (.long r_4), .second, .val (.int (p3 &&& (3 : Int32))), .val (.long (((p3 >>> ((2 : Int32) &&& 31)) &&& (3 : Int32)).toInt64)), .second, .val (.int (r_4.toInt32)), .val (.int (((p3.toUInt32 >>> ((16 : Int32) &&& 31).toUInt32).toInt32) &&& (255 : Int32))), .unset, .unset, .unset, .unset, .unset, .unset, .unset] [(.ref x_5)])) st5 ?_
  refine Go.st (g' := (mkF m 121 #[.val (.int p0), .val (.int p1), .val (.int p2), .val (.int p3), .val (.int (((p0 &&& (2147483647 : Int32)) % (2147483647 : Int32)) + (1 : Int32))), .val (.int (((p1 &&& (2147483647 : Int32)) % (2147483647 : Int32)) + (1 : Int32))), .val (.long r_4), .second, .val (.int (p3 &&& (3 : Int32))), .val (.long (((p3 >>> ((2 : Int32) &&& 31)) &&& (3 : Int32)).toInt64)), .second, .val (.int (r_4.toInt32)), .val (.int (((p3.toUInt32 >>> ((16 : Int32) &&& 31).toUInt32).toInt32) &&& (255 : Int32))), .val (.ref x_5), .unset, .unset, .unset, .unset, .unset, .unset] [])) (fun _ k => XS.astore W5.here hx rfl (hb hby at_119) rfl rfl (l' := #[.val (.int p0), .val (.int p1), .val (.int p2), .val (.int p3), .val (.int (((p0 &&& (2147483647 : Int32)) % (2147483647 : Int32)) + (1 : Int32))), .val (.int (((p1 &&& (2147483647 : Int32)) % (2147483647 : Int32)) + (1 : Int32))), .val (.long r_4), .second, .val (.int (p3 &&& (3 : Int32))), .val (.long (((p3 >>> ((2 : Int32) &&& 31)) &&& (3 : Int32)).toInt64)), .second, .val (.int (r_4.toInt32)), .val (.int (((p3.toUInt32 >>> ((16 : Int32) &&& 31).toUInt32).toInt32) &&& (255 : Int32))), .val (.ref x_5), .unset, .unset, .unset, .unset, .unset, .unset]) rfl k) ?_
  refine Go.st (g' := (mkF m 122 #[.val (.int p0), .val (.int p1), .val (.int p2), .val (.int p3), .val (.int (((p0 &&& (2147483647 : Int32)) % (2147483647 : Int32)) + (1 : Int32))), .val (.int (((p1 &&& (2147483647 : Int32)) % (2147483647 : Int32)) + (1 : Int32))), .val (.long r_4), .second, .val (.int (p3 &&& (3 : Int32))), .val (.long (((p3 >>> ((2 : Int32) &&& 31)) &&& (3 : Int32)).toInt64)), .second, .val (.int (r_4.toInt32)), .val (.int (((p3.toUInt32 >>> ((16 : Int32) &&& 31).toUInt32).toInt32) &&& (255 : Int32))), .val (.ref x_5), .unset, .unset, .unset, .unset, .unset, .unset] [(.int p3)])) (fun _ k => XS.iloadN W5.here hx rfl (hb hby at_121) rfl  k) ?_
  refine Go.st (g' := (mkF m 124 #[.val (.int p0), .val (.int p1), .val (.int p2), .val (.int p3), .val (.int (((p0 &&& (2147483647 : Int32)) % (2147483647 : Int32)) + (1 : Int32))), .val (.int (((p1 &&& (2147483647 : Int32)) % (2147483647 : Int32)) + (1 : Int32))), .val (.long r_4), .second, .val (.int (p3 &&& (3 : Int32))), .val (.long (((p3 >>> ((2 : Int32) &&& 31)) &&& (3 : Int32)).toInt64)), .second, .val (.int (r_4.toInt32)), .val (.int (((p3.toUInt32 >>> ((16 : Int32) &&& 31).toUInt32).toInt32) &&& (255 : Int32))), .val (.ref x_5), .unset, .unset, .unset, .unset, .unset, .unset] [(.int (24 : Int32)), (.int p3)])) (fun _ k => XS.bipush W5.here hx rfl (hb hby at_122) k) ?_
  refine Go.st (g' := (mkF m 125 #[.val (.int p0), .val (.int p1), .val (.int p2), .val (.int p3), .val (.int (((p0 &&& (2147483647 : Int32)) % (2147483647 : Int32)) + (1 : Int32))), .val (.int (((p1 &&& (2147483647 : Int32)) % (2147483647 : Int32)) + (1 : Int32))), .val (.long r_4), .second, .val (.int (p3 &&& (3 : Int32))), .val (.long (((p3 >>> ((2 : Int32) &&& 31)) &&& (3 : Int32)).toInt64)), .second, .val (.int (r_4.toInt32)), .val (.int (((p3.toUInt32 >>> ((16 : Int32) &&& 31).toUInt32).toInt32) &&& (255 : Int32))), .val (.ref x_5), .unset, .unset, .unset, .unset, .unset, .unset] [(.int ((p3.toUInt32 >>> ((24 : Int32) &&& 31).toUInt32).toInt32))])) (fun _ k => XS.iushr W5.here hx rfl (hb hby at_124) rfl k) ?_
  refine Go.st (g' := (mkF m 128 #[.val (.int p0), .val (.int p1), .val (.int p2), .val (.int p3), .val (.int (((p0 &&& (2147483647 : Int32)) % (2147483647 : Int32)) + (1 : Int32))), .val (.int (((p1 &&& (2147483647 : Int32)) % (2147483647 : Int32)) + (1 : Int32))), .val (.long r_4), .second, .val (.int (p3 &&& (3 : Int32))), .val (.long (((p3 >>> ((2 : Int32) &&& 31)) &&& (3 : Int32)).toInt64)), .second, .val (.int (r_4.toInt32)), .val (.int (((p3.toUInt32 >>> ((16 : Int32) &&& 31).toUInt32).toInt32) &&& (255 : Int32))), .val (.ref x_5), .unset, .unset, .unset, .unset, .unset, .unset] [(.int (255 : Int32)), (.int ((p3.toUInt32 >>> ((24 : Int32) &&& 31).toUInt32).toInt32))])) (fun _ k => XS.sipush W5.here hx rfl (hb hby at_125) k) ?_
  refine Go.st (g' := (mkF m 129 #[.val (.int p0), .val (.int p1), .val (.int p2), .val (.int p3), .val (.int (((p0 &&& (2147483647 : Int32)) % (2147483647 : Int32)) + (1 : Int32))), .val (.int (((p1 &&& (2147483647 : Int32)) % (2147483647 : Int32)) + (1 : Int32))), .val (.long r_4), .second, .val (.int (p3 &&& (3 : Int32))), .val (.long (((p3 >>> ((2 : Int32) &&& 31)) &&& (3 : Int32)).toInt64)), .second, .val (.int (r_4.toInt32)), .val (.int (((p3.toUInt32 >>> ((16 : Int32) &&& 31).toUInt32).toInt32) &&& (255 : Int32))), .val (.ref x_5), .unset, .unset, .unset, .unset, .unset, .unset] [(.int (((p3.toUInt32 >>> ((24 : Int32) &&& 31).toUInt32).toInt32) &&& (255 : Int32)))])) (fun _ k => XS.iand W5.here hx rfl (hb hby at_128) rfl k) ?_
  refine Go.st (g' := (mkF m 130 #[.val (.int p0), .val (.int p1), .val (.int p2), .val (.int p3), .val (.int (((p0 &&& (2147483647 : Int32)) % (2147483647 : Int32)) + (1 : Int32))), .val (.int (((p1 &&& (2147483647 : Int32)) % (2147483647 : Int32)) + (1 : Int32))), .val (.long r_4), .second, .val (.int (p3 &&& (3 : Int32))), .val (.long (((p3 >>> ((2 : Int32) &&& 31)) &&& (3 : Int32)).toInt64)), .second, .val (.int (r_4.toInt32)), .val (.int (((p3.toUInt32 >>> ((16 : Int32) &&& 31).toUInt32).toInt32) &&& (255 : Int32))), .val (.ref x_5), .unset, .unset, .unset, .unset, .unset, .unset] [(.double (FP.i2d (((p3.toUInt32 >>> ((24 : Int32) &&& 31).toUInt32).toInt32) &&& (255 : Int32))))])) (fun _ k => XS.i2dS W5.here hx rfl (hb hby at_129) rfl rfl k) ?_
  refine Go.st (g' := (mkF m 132 #[.val (.int p0), .val (.int p1), .val (.int p2), .val (.int p3), .val (.int (((p0 &&& (2147483647 : Int32)) % (2147483647 : Int32)) + (1 : Int32))), .val (.int (((p1 &&& (2147483647 : Int32)) % (2147483647 : Int32)) + (1 : Int32))), .val (.long r_4), .second, .val (.int (p3 &&& (3 : Int32))), .val (.long (((p3 >>> ((2 : Int32) &&& 31)) &&& (3 : Int32)).toInt64)), .second, .val (.int (r_4.toInt32)), .val (.int (((p3.toUInt32 >>> ((16 : Int32) &&& 31).toUInt32).toInt32) &&& (255 : Int32))), .val (.ref x_5), .val (.double (FP.i2d (((p3.toUInt32 >>> ((24 : Int32) &&& 31).toUInt32).toInt32) &&& (255 : Int32)))), .second, .unset, .unset, .unset, .unset] [])) (fun _ k => XS.dstore W5.here hx rfl (hb hby at_130) rfl (l' := #[.val (.int p0), .val (.int p1), .val (.int p2), .val (.int p3), .val (.int (((p0 &&& (2147483647 : Int32)) % (2147483647 : Int32)) + (1 : Int32))), .val (.int (((p1 &&& (2147483647 : Int32)) % (2147483647 : Int32)) + (1 : Int32))), .val (.long r_4), .second, .val (.int (p3 &&& (3 : Int32))), .val (.long (((p3 >>> ((2 : Int32) &&& 31)) &&& (3 : Int32)).toInt64)), .second, .val (.int (r_4.toInt32)), .val (.int (((p3.toUInt32 >>> ((16 : Int32) &&& 31).toUInt32).toInt32) &&& (255 : Int32))), .val (.ref x_5), .val (.double (FP.i2d (((p3.toUInt32 >>> ((24 : Int32) &&& 31).toUInt32).toInt32) &&& (255 : Int32)))), .second, .unset, .unset, .unset, .unset]) rfl k) ?_
  obtain ⟨T6, h6, a6, g6, W6, E6, z6, X6, D6, S6, SF6, U6, st6⟩ := W5.newO hx (hw _ (List.mem_of_getElem? (i := 37) rfl)) (hw _ (List.mem_of_getElem? (i := 38) rfl)) (hw _ (List.mem_of_getElem? (i := 39) rfl)) (g := (mkF m 132 #[.val (.int p0), .val (.int p1), .val (.int p2), .val (.int p3), .val (.int (((p0 &&& (2147483647 : Int32)) % (2147483647 : Int32)) + (1 : Int32))), .val (.int (((p1 &&& (2147483647 : Int32)) % (2147483647 : Int32)) + (1 : Int32))), .val (.long r_4), .second, .val (.int (p3 &&& (3 : Int32))), .val (.long (((p3 >>> ((2 : Int32) &&& 31)) &&& (3 : Int32)).toInt64)), .second, .val (.int (r_4.toInt32)), .val (.int (((p3.toUInt32 >>> ((16 : Int32) &&& 31).toUInt32).toInt32) &&& (255 : Int32))), .val (.ref x_5), .val (.double (FP.i2d (((p3.toUInt32 >>> ((24 : Int32) &&& 31).toUInt32).toInt32) &&& (255 : Int32)))), .second, .unset, .unset, .unset, .unset] [])) rfl (hb hby at_132) (by decide) (by decide)
  have F7 : Fld Z h6 a6 "com/example/narrow_gap/narrowgap/Scenario$LoadEvent" "broker" "Ljava/lang/String;" .null := D6 (Or.inr (hw _ (List.mem_of_getElem? (i := 61) rfl))) (ty := (.object "java/lang/String")) (by decide)
  have F8 : Fld Z h6 a6 "com/example/narrow_gap/narrowgap/Scenario$LoadEvent" "fromRound" "I" (.int (0 : Int32)) := D6 (Or.inr (hw _ (List.mem_of_getElem? (i := 63) rfl))) (ty := .int) (by decide)
  have F9 : Fld Z h6 a6 "com/example/narrow_gap/narrowgap/Scenario$LoadEvent" "rounds" "I" (.int (0 : Int32)) := D6 (Or.inr (hw _ (List.mem_of_getElem? (i := 65) rfl))) (ty := .int) (by decide)
  have F10 : Fld Z h6 a6 "com/example/narrow_gap/narrowgap/Scenario$LoadEvent" "extraCpu" "D" (.double 0) := D6 (Or.inr (hw _ (List.mem_of_getElem? (i := 67) rfl))) (ty := .double) (by decide)
  refine Go.st (g' := (mkF m 135 #[.val (.int p0), .val (.int p1), .val (.int p2), .val (.int p3), .val (.int (((p0 &&& (2147483647 : Int32)) % (2147483647 : Int32)) + (1 : Int32))), .val (.int (((p1 &&& (2147483647 : Int32)) % (2147483647 : Int32)) + (1 : Int32))), .val (.long r_4), .second, .val (.int (p3 &&& (3 : Int32))), .val (.long (((p3 >>> ((2 : Int32) &&& 31)) &&& (3 : Int32)).toInt64)), .second, .val (.int (r_4.toInt32)), .val (.int (((p3.toUInt32 >>> ((16 : Int32) &&& 31).toUInt32).toInt32) &&& (255 : Int32))), .val (.ref x_5), .val (.double (FP.i2d (((p3.toUInt32 >>> ((24 : Int32) &&& 31).toUInt32).toInt32) &&& (255 : Int32)))), .second, .unset, .unset, .unset, .unset] [(.ref a6)])) st6 ?_
  refine Go.st (g' := (mkF m 136 #[.val (.int p0), .val (.int p1), .val (.int p2), .val (.int p3), .val (.int (((p0 &&& (2147483647 : Int32)) % (2147483647 : Int32)) + (1 : Int32))), .val (.int (((p1 &&& (2147483647 : Int32)) % (2147483647 : Int32)) + (1 : Int32))), .val (.long r_4), .second, .val (.int (p3 &&& (3 : Int32))), .val (.long (((p3 >>> ((2 : Int32) &&& 31)) &&& (3 : Int32)).toInt64)), .second, .val (.int (r_4.toInt32)), .val (.int (((p3.toUInt32 >>> ((16 : Int32) &&& 31).toUInt32).toInt32) &&& (255 : Int32))), .val (.ref x_5), .val (.double (FP.i2d (((p3.toUInt32 >>> ((24 : Int32) &&& 31).toUInt32).toInt32) &&& (255 : Int32)))), .second, .unset, .unset, .unset, .unset] [(.ref a6), (.ref a6)])) (fun _ k => XS.dup W6.here hx rfl (hb hby at_135) rfl rfl k) ?_
  refine Go.st (g' := (mkF m 138 #[.val (.int p0), .val (.int p1), .val (.int p2), .val (.int p3), .val (.int (((p0 &&& (2147483647 : Int32)) % (2147483647 : Int32)) + (1 : Int32))), .val (.int (((p1 &&& (2147483647 : Int32)) % (2147483647 : Int32)) + (1 : Int32))), .val (.long r_4), .second, .val (.int (p3 &&& (3 : Int32))), .val (.long (((p3 >>> ((2 : Int32) &&& 31)) &&& (3 : Int32)).toInt64)), .second, .val (.int (r_4.toInt32)), .val (.int (((p3.toUInt32 >>> ((16 : Int32) &&& 31).toUInt32).toInt32) &&& (255 : Int32))), .val (.ref x_5), .val (.double (FP.i2d (((p3.toUInt32 >>> ((24 : Int32) &&& 31).toUInt32).toInt32) &&& (255 : Int32)))), .second, .unset, .unset, .unset, .unset] [(.ref x_5), (.ref a6), (.ref a6)])) (fun _ k => XS.aload W6.here hx rfl (hb hby at_136) rfl rfl  k) ?_
  refine Go.st (g' := (mkF m 140 #[.val (.int p0), .val (.int p1), .val (.int p2), .val (.int p3), .val (.int (((p0 &&& (2147483647 : Int32)) % (2147483647 : Int32)) + (1 : Int32))), .val (.int (((p1 &&& (2147483647 : Int32)) % (2147483647 : Int32)) + (1 : Int32))), .val (.long r_4), .second, .val (.int (p3 &&& (3 : Int32))), .val (.long (((p3 >>> ((2 : Int32) &&& 31)) &&& (3 : Int32)).toInt64)), .second, .val (.int (r_4.toInt32)), .val (.int (((p3.toUInt32 >>> ((16 : Int32) &&& 31).toUInt32).toInt32) &&& (255 : Int32))), .val (.ref x_5), .val (.double (FP.i2d (((p3.toUInt32 >>> ((24 : Int32) &&& 31).toUInt32).toInt32) &&& (255 : Int32)))), .second, .unset, .unset, .unset, .unset] [(.int (((p0 &&& (2147483647 : Int32)) % (2147483647 : Int32)) + (1 : Int32))), (.ref x_5), (.ref a6), (.ref a6)])) (fun _ k => XS.iload W6.here hx rfl (hb hby at_138) rfl  k) ?_
  refine Go.st (g' := (mkF m 142 #[.val (.int p0), .val (.int p1), .val (.int p2), .val (.int p3), .val (.int (((p0 &&& (2147483647 : Int32)) % (2147483647 : Int32)) + (1 : Int32))), .val (.int (((p1 &&& (2147483647 : Int32)) % (2147483647 : Int32)) + (1 : Int32))), .val (.long r_4), .second, .val (.int (p3 &&& (3 : Int32))), .val (.long (((p3 >>> ((2 : Int32) &&& 31)) &&& (3 : Int32)).toInt64)), .second, .val (.int (r_4.toInt32)), .val (.int (((p3.toUInt32 >>> ((16 : Int32) &&& 31).toUInt32).toInt32) &&& (255 : Int32))), .val (.ref x_5), .val (.double (FP.i2d (((p3.toUInt32 >>> ((24 : Int32) &&& 31).toUInt32).toInt32) &&& (255 : Int32)))), .second, .unset, .unset, .unset, .unset] [(.int (((p1 &&& (2147483647 : Int32)) % (2147483647 : Int32)) + (1 : Int32))), (.int (((p0 &&& (2147483647 : Int32)) % (2147483647 : Int32)) + (1 : Int32))), (.ref x_5), (.ref a6), (.ref a6)])) (fun _ k => XS.iload W6.here hx rfl (hb hby at_140) rfl  k) ?_
  refine Go.st (g' := (mkF m 144 #[.val (.int p0), .val (.int p1), .val (.int p2), .val (.int p3), .val (.int (((p0 &&& (2147483647 : Int32)) % (2147483647 : Int32)) + (1 : Int32))), .val (.int (((p1 &&& (2147483647 : Int32)) % (2147483647 : Int32)) + (1 : Int32))), .val (.long r_4), .second, .val (.int (p3 &&& (3 : Int32))), .val (.long (((p3 >>> ((2 : Int32) &&& 31)) &&& (3 : Int32)).toInt64)), .second, .val (.int (r_4.toInt32)), .val (.int (((p3.toUInt32 >>> ((16 : Int32) &&& 31).toUInt32).toInt32) &&& (255 : Int32))), .val (.ref x_5), .val (.double (FP.i2d (((p3.toUInt32 >>> ((24 : Int32) &&& 31).toUInt32).toInt32) &&& (255 : Int32)))), .second, .unset, .unset, .unset, .unset] [(.double (FP.i2d (((p3.toUInt32 >>> ((24 : Int32) &&& 31).toUInt32).toInt32) &&& (255 : Int32)))), (.int (((p1 &&& (2147483647 : Int32)) % (2147483647 : Int32)) + (1 : Int32))), (.int (((p0 &&& (2147483647 : Int32)) % (2147483647 : Int32)) + (1 : Int32))), (.ref x_5), (.ref a6), (.ref a6)])) (fun _ k => XS.dload W6.here hx rfl (hb hby at_142) rfl  k) ?_
  have F12 : Exa Z h6 x_5 "java/lang/String" := (f5_0.ext E6)
  obtain ⟨_, vm11, T11, h11, W11, Q11, z11, SF11, st11⟩ := W6.callI hx hEL (own_initLE l hE W6.old (x0 := a6) (b0 := x_5) (f0 := (((p0 &&& (2147483647 : Int32)) % (2147483647 : Int32)) + (1 : Int32))) (r0 := (((p1 &&& (2147483647 : Int32)) % (2147483647 : Int32)) + (1 : Int32))) (d0 := (FP.i2d (((p3.toUInt32 >>> ((24 : Int32) &&& 31).toUInt32).toInt32) &&& (255 : Int32)))) (by omega) (own_pos _) (own_pos _) (own_d _).1 (own_d _).2.1 (own_d _).2.2 X6 F12 F7 F8 F9 F10) rfl (hw _ (List.mem_of_getElem? (i := 40) rfl)) (hw _ (List.mem_of_getElem? (i := 41) rfl)) (hw _ (List.mem_of_getElem? (i := 39) rfl)) (hw _ (List.mem_of_getElem? (i := 42) rfl)) (by decide) (Wd := 1) (by decide) (by decide) (by decide) (by decide) (g := (mkF m 144 #[.val (.int p0), .val (.int p1), .val (.int p2), .val (.int p3), .val (.int (((p0 &&& (2147483647 : Int32)) % (2147483647 : Int32)) + (1 : Int32))), .val (.int (((p1 &&& (2147483647 : Int32)) % (2147483647 : Int32)) + (1 : Int32))), .val (.long r_4), .second, .val (.int (p3 &&& (3 : Int32))), .val (.long (((p3 >>> ((2 : Int32) &&& 31)) &&& (3 : Int32)).toInt64)), .second, .val (.int (r_4.toInt32)), .val (.int (((p3.toUInt32 >>> ((16 : Int32) &&& 31).toUInt32).toInt32) &&& (255 : Int32))), .val (.ref x_5), .val (.double (FP.i2d (((p3.toUInt32 >>> ((24 : Int32) &&& 31).toUInt32).toInt32) &&& (255 : Int32)))), .second, .unset, .unset, .unset, .unset] [(.double (FP.i2d (((p3.toUInt32 >>> ((24 : Int32) &&& 31).toUInt32).toInt32) &&& (255 : Int32)))), (.int (((p1 &&& (2147483647 : Int32)) % (2147483647 : Int32)) + (1 : Int32))), (.int (((p0 &&& (2147483647 : Int32)) % (2147483647 : Int32)) + (1 : Int32))), (.ref x_5), (.ref a6), (.ref a6)])) rfl (by rw [hml]; rfl) (a := a6) (argsL := [(.ref x_5), (.int (((p0 &&& (2147483647 : Int32)) % (2147483647 : Int32)) + (1 : Int32))), (.int (((p1 &&& (2147483647 : Int32)) % (2147483647 : Int32)) + (1 : Int32))), (.double (FP.i2d (((p3.toUInt32 >>> ((24 : Int32) &&& 31).toUInt32).toInt32) &&& (255 : Int32))))]) (rest := [(.ref a6)]) rfl (lenOf pd__Ljava_lang_String_IID_V rfl) rfl (by show 2 * 0 + _ ≤ _; exact Nat.le_of_eq rfl) (hb hby at_144)
  obtain ⟨rfl, f11_0, f11_1, f11_2, K11⟩ := Q11
  refine Go.tr (g' := (mkF m 147 #[.val (.int p0), .val (.int p1), .val (.int p2), .val (.int p3), .val (.int (((p0 &&& (2147483647 : Int32)) % (2147483647 : Int32)) + (1 : Int32))), .val (.int (((p1 &&& (2147483647 : Int32)) % (2147483647 : Int32)) + (1 : Int32))), .val (.long r_4), .second, .val (.int (p3 &&& (3 : Int32))), .val (.long (((p3 >>> ((2 : Int32) &&& 31)) &&& (3 : Int32)).toInt64)), .second, .val (.int (r_4.toInt32)), .val (.int (((p3.toUInt32 >>> ((16 : Int32) &&& 31).toUInt32).toInt32) &&& (255 : Int32))), .val (.ref x_5), .val (.double (FP.i2d (((p3.toUInt32 >>> ((24 : Int32) &&& 31).toUInt32).toInt32) &&& (255 : Int32)))), .second, .unset, .unset, .unset, .unset] [(.ref a6)])) st11 ?_
  refine Go.st (g' := (mkF m 149 #[.val (.int p0), .val (.int p1), .val (.int p2), .val (.int p3), .val (.int (((p0 &&& (2147483647 : Int32)) % (2147483647 : Int32)) + (1 : Int32))), .val (.int (((p1 &&& (2147483647 : Int32)) % (2147483647 : Int32)) + (1 : Int32))), .val (.long r_4), .second, .val (.int (p3 &&& (3 : Int32))), .val (.long (((p3 >>> ((2 : Int32) &&& 31)) &&& (3 : Int32)).toInt64)), .second, .val (.int (r_4.toInt32)), .val (.int (((p3.toUInt32 >>> ((16 : Int32) &&& 31).toUInt32).toInt32) &&& (255 : Int32))), .val (.ref x_5), .val (.double (FP.i2d (((p3.toUInt32 >>> ((24 : Int32) &&& 31).toUInt32).toInt32) &&& (255 : Int32)))), .second, .val (.ref a6), .unset, .unset, .unset] [])) (fun _ k => XS.astore W11.here hx rfl (hb hby at_147) rfl rfl (l' := #[.val (.int p0), .val (.int p1), .val (.int p2), .val (.int p3), .val (.int (((p0 &&& (2147483647 : Int32)) % (2147483647 : Int32)) + (1 : Int32))), .val (.int (((p1 &&& (2147483647 : Int32)) % (2147483647 : Int32)) + (1 : Int32))), .val (.long r_4), .second, .val (.int (p3 &&& (3 : Int32))), .val (.long (((p3 >>> ((2 : Int32) &&& 31)) &&& (3 : Int32)).toInt64)), .second, .val (.int (r_4.toInt32)), .val (.int (((p3.toUInt32 >>> ((16 : Int32) &&& 31).toUInt32).toInt32) &&& (255 : Int32))), .val (.ref x_5), .val (.double (FP.i2d (((p3.toUInt32 >>> ((24 : Int32) &&& 31).toUInt32).toInt32) &&& (255 : Int32)))), .second, .val (.ref a6), .unset, .unset, .unset]) rfl k) ?_
  refine Go.st (g' := (mkF m 151 #[.val (.int p0), .val (.int p1), .val (.int p2), .val (.int p3), .val (.int (((p0 &&& (2147483647 : Int32)) % (2147483647 : Int32)) + (1 : Int32))), .val (.int (((p1 &&& (2147483647 : Int32)) % (2147483647 : Int32)) + (1 : Int32))), .val (.long r_4), .second, .val (.int (p3 &&& (3 : Int32))), .val (.long (((p3 >>> ((2 : Int32) &&& 31)) &&& (3 : Int32)).toInt64)), .second, .val (.int (r_4.toInt32)), .val (.int (((p3.toUInt32 >>> ((16 : Int32) &&& 31).toUInt32).toInt32) &&& (255 : Int32))), .val (.ref x_5), .val (.double (FP.i2d (((p3.toUInt32 >>> ((24 : Int32) &&& 31).toUInt32).toInt32) &&& (255 : Int32)))), .second, .val (.ref a6), .unset, .unset, .unset] [(.int (((p0 &&& (2147483647 : Int32)) % (2147483647 : Int32)) + (1 : Int32)))])) (fun _ k => XS.iload W11.here hx rfl (hb hby at_149) rfl  k) ?_
  refine Go.st (g' := (mkF m 152 #[.val (.int p0), .val (.int p1), .val (.int p2), .val (.int p3), .val (.int (((p0 &&& (2147483647 : Int32)) % (2147483647 : Int32)) + (1 : Int32))), .val (.int (((p1 &&& (2147483647 : Int32)) % (2147483647 : Int32)) + (1 : Int32))), .val (.long r_4), .second, .val (.int (p3 &&& (3 : Int32))), .val (.long (((p3 >>> ((2 : Int32) &&& 31)) &&& (3 : Int32)).toInt64)), .second, .val (.int (r_4.toInt32)), .val (.int (((p3.toUInt32 >>> ((16 : Int32) &&& 31).toUInt32).toInt32) &&& (255 : Int32))), .val (.ref x_5), .val (.double (FP.i2d (((p3.toUInt32 >>> ((24 : Int32) &&& 31).toUInt32).toInt32) &&& (255 : Int32)))), .second, .val (.ref a6), .unset, .unset, .unset] [(.long ((((p0 &&& (2147483647 : Int32)) % (2147483647 : Int32)) + (1 : Int32)).toInt64))])) (fun _ k => XS.i2l W11.here hx rfl (hb hby at_151) rfl k) ?_
  refine Go.st (g' := (mkF m 154 #[.val (.int p0), .val (.int p1), .val (.int p2), .val (.int p3), .val (.int (((p0 &&& (2147483647 : Int32)) % (2147483647 : Int32)) + (1 : Int32))), .val (.int (((p1 &&& (2147483647 : Int32)) % (2147483647 : Int32)) + (1 : Int32))), .val (.long r_4), .second, .val (.int (p3 &&& (3 : Int32))), .val (.long (((p3 >>> ((2 : Int32) &&& 31)) &&& (3 : Int32)).toInt64)), .second, .val (.int (r_4.toInt32)), .val (.int (((p3.toUInt32 >>> ((16 : Int32) &&& 31).toUInt32).toInt32) &&& (255 : Int32))), .val (.ref x_5), .val (.double (FP.i2d (((p3.toUInt32 >>> ((24 : Int32) &&& 31).toUInt32).toInt32) &&& (255 : Int32)))), .second, .val (.ref a6), .unset, .unset, .unset] [(.int (((p1 &&& (2147483647 : Int32)) % (2147483647 : Int32)) + (1 : Int32))), (.long ((((p0 &&& (2147483647 : Int32)) % (2147483647 : Int32)) + (1 : Int32)).toInt64))])) (fun _ k => XS.iload W11.here hx rfl (hb hby at_152) rfl  k) ?_
  refine Go.st (g' := (mkF m 155 #[.val (.int p0), .val (.int p1), .val (.int p2), .val (.int p3), .val (.int (((p0 &&& (2147483647 : Int32)) % (2147483647 : Int32)) + (1 : Int32))), .val (.int (((p1 &&& (2147483647 : Int32)) % (2147483647 : Int32)) + (1 : Int32))), .val (.long r_4), .second, .val (.int (p3 &&& (3 : Int32))), .val (.long (((p3 >>> ((2 : Int32) &&& 31)) &&& (3 : Int32)).toInt64)), .second, .val (.int (r_4.toInt32)), .val (.int (((p3.toUInt32 >>> ((16 : Int32) &&& 31).toUInt32).toInt32) &&& (255 : Int32))), .val (.ref x_5), .val (.double (FP.i2d (((p3.toUInt32 >>> ((24 : Int32) &&& 31).toUInt32).toInt32) &&& (255 : Int32)))), .second, .val (.ref a6), .unset, .unset, .unset] [(.long ((((p1 &&& (2147483647 : Int32)) % (2147483647 : Int32)) + (1 : Int32)).toInt64)), (.long ((((p0 &&& (2147483647 : Int32)) % (2147483647 : Int32)) + (1 : Int32)).toInt64))])) (fun _ k => XS.i2l W11.here hx rfl (hb hby at_154) rfl k) ?_
  refine Go.st (g' := (mkF m 156 #[.val (.int p0), .val (.int p1), .val (.int p2), .val (.int p3), .val (.int (((p0 &&& (2147483647 : Int32)) % (2147483647 : Int32)) + (1 : Int32))), .val (.int (((p1 &&& (2147483647 : Int32)) % (2147483647 : Int32)) + (1 : Int32))), .val (.long r_4), .second, .val (.int (p3 &&& (3 : Int32))), .val (.long (((p3 >>> ((2 : Int32) &&& 31)) &&& (3 : Int32)).toInt64)), .second, .val (.int (r_4.toInt32)), .val (.int (((p3.toUInt32 >>> ((16 : Int32) &&& 31).toUInt32).toInt32) &&& (255 : Int32))), .val (.ref x_5), .val (.double (FP.i2d (((p3.toUInt32 >>> ((24 : Int32) &&& 31).toUInt32).toInt32) &&& (255 : Int32)))), .second, .val (.ref a6), .unset, .unset, .unset] [(.long (((((p0 &&& (2147483647 : Int32)) % (2147483647 : Int32)) + (1 : Int32)).toInt64) + ((((p1 &&& (2147483647 : Int32)) % (2147483647 : Int32)) + (1 : Int32)).toInt64)))])) (fun _ k => XS.ladd W11.here hx rfl (hb hby at_155) rfl k) ?_
  refine Go.st (g' := (mkF m 157 #[.val (.int p0), .val (.int p1), .val (.int p2), .val (.int p3), .val (.int (((p0 &&& (2147483647 : Int32)) % (2147483647 : Int32)) + (1 : Int32))), .val (.int (((p1 &&& (2147483647 : Int32)) % (2147483647 : Int32)) + (1 : Int32))), .val (.long r_4), .second, .val (.int (p3 &&& (3 : Int32))), .val (.long (((p3 >>> ((2 : Int32) &&& 31)) &&& (3 : Int32)).toInt64)), .second, .val (.int (r_4.toInt32)), .val (.int (((p3.toUInt32 >>> ((16 : Int32) &&& 31).toUInt32).toInt32) &&& (255 : Int32))), .val (.ref x_5), .val (.double (FP.i2d (((p3.toUInt32 >>> ((24 : Int32) &&& 31).toUInt32).toInt32) &&& (255 : Int32)))), .second, .val (.ref a6), .unset, .unset, .unset] [(.long (1 : Int64)), (.long (((((p0 &&& (2147483647 : Int32)) % (2147483647 : Int32)) + (1 : Int32)).toInt64) + ((((p1 &&& (2147483647 : Int32)) % (2147483647 : Int32)) + (1 : Int32)).toInt64)))])) (fun _ k => XS.lconst W11.here hx rfl (hb hby at_156) k) ?_
  refine Go.st (g' := (mkF m 158 #[.val (.int p0), .val (.int p1), .val (.int p2), .val (.int p3), .val (.int (((p0 &&& (2147483647 : Int32)) % (2147483647 : Int32)) + (1 : Int32))), .val (.int (((p1 &&& (2147483647 : Int32)) % (2147483647 : Int32)) + (1 : Int32))), .val (.long r_4), .second, .val (.int (p3 &&& (3 : Int32))), .val (.long (((p3 >>> ((2 : Int32) &&& 31)) &&& (3 : Int32)).toInt64)), .second, .val (.int (r_4.toInt32)), .val (.int (((p3.toUInt32 >>> ((16 : Int32) &&& 31).toUInt32).toInt32) &&& (255 : Int32))), .val (.ref x_5), .val (.double (FP.i2d (((p3.toUInt32 >>> ((24 : Int32) &&& 31).toUInt32).toInt32) &&& (255 : Int32)))), .second, .val (.ref a6), .unset, .unset, .unset] [(.long ((((((p0 &&& (2147483647 : Int32)) % (2147483647 : Int32)) + (1 : Int32)).toInt64) + ((((p1 &&& (2147483647 : Int32)) % (2147483647 : Int32)) + (1 : Int32)).toInt64)) - (1 : Int64)))])) (fun _ k => XS.lsub W11.here hx rfl (hb hby at_157) rfl k) ?_
  refine Go.st (g' := (mkF m 160 #[.val (.int p0), .val (.int p1), .val (.int p2), .val (.int p3), .val (.int (((p0 &&& (2147483647 : Int32)) % (2147483647 : Int32)) + (1 : Int32))), .val (.int (((p1 &&& (2147483647 : Int32)) % (2147483647 : Int32)) + (1 : Int32))), .val (.long r_4), .second, .val (.int (p3 &&& (3 : Int32))), .val (.long (((p3 >>> ((2 : Int32) &&& 31)) &&& (3 : Int32)).toInt64)), .second, .val (.int (r_4.toInt32)), .val (.int (((p3.toUInt32 >>> ((16 : Int32) &&& 31).toUInt32).toInt32) &&& (255 : Int32))), .val (.ref x_5), .val (.double (FP.i2d (((p3.toUInt32 >>> ((24 : Int32) &&& 31).toUInt32).toInt32) &&& (255 : Int32)))), .second, .val (.ref a6), .val (.long ((((((p0 &&& (2147483647 : Int32)) % (2147483647 : Int32)) + (1 : Int32)).toInt64) + ((((p1 &&& (2147483647 : Int32)) % (2147483647 : Int32)) + (1 : Int32)).toInt64)) - (1 : Int64))), .second, .unset] [])) (fun _ k => XS.lstore W11.here hx rfl (hb hby at_158) rfl (l' := #[.val (.int p0), .val (.int p1), .val (.int p2), .val (.int p3), .val (.int (((p0 &&& (2147483647 : Int32)) % (2147483647 : Int32)) + (1 : Int32))), .val (.int (((p1 &&& (2147483647 : Int32)) % (2147483647 : Int32)) + (1 : Int32))), .val (.long r_4), .second, .val (.int (p3 &&& (3 : Int32))), .val (.long (((p3 >>> ((2 : Int32) &&& 31)) &&& (3 : Int32)).toInt64)), .second, .val (.int (r_4.toInt32)), .val (.int (((p3.toUInt32 >>> ((16 : Int32) &&& 31).toUInt32).toInt32) &&& (255 : Int32))), .val (.ref x_5), .val (.double (FP.i2d (((p3.toUInt32 >>> ((24 : Int32) &&& 31).toUInt32).toInt32) &&& (255 : Int32)))), .second, .val (.ref a6), .val (.long ((((((p0 &&& (2147483647 : Int32)) % (2147483647 : Int32)) + (1 : Int32)).toInt64) + ((((p1 &&& (2147483647 : Int32)) % (2147483647 : Int32)) + (1 : Int32)).toInt64)) - (1 : Int64))), .second, .unset]) rfl k) ?_
  refine Go.st (g' := (mkF m 162 #[.val (.int p0), .val (.int p1), .val (.int p2), .val (.int p3), .val (.int (((p0 &&& (2147483647 : Int32)) % (2147483647 : Int32)) + (1 : Int32))), .val (.int (((p1 &&& (2147483647 : Int32)) % (2147483647 : Int32)) + (1 : Int32))), .val (.long r_4), .second, .val (.int (p3 &&& (3 : Int32))), .val (.long (((p3 >>> ((2 : Int32) &&& 31)) &&& (3 : Int32)).toInt64)), .second, .val (.int (r_4.toInt32)), .val (.int (((p3.toUInt32 >>> ((16 : Int32) &&& 31).toUInt32).toInt32) &&& (255 : Int32))), .val (.ref x_5), .val (.double (FP.i2d (((p3.toUInt32 >>> ((24 : Int32) &&& 31).toUInt32).toInt32) &&& (255 : Int32)))), .second, .val (.ref a6), .val (.long ((((((p0 &&& (2147483647 : Int32)) % (2147483647 : Int32)) + (1 : Int32)).toInt64) + ((((p1 &&& (2147483647 : Int32)) % (2147483647 : Int32)) + (1 : Int32)).toInt64)) - (1 : Int64))), .second, .unset] [(.int (r_4.toInt32))])) (fun _ k => XS.iload W11.here hx rfl (hb hby at_160) rfl  k) ?_
  refine Go.st (g' := (mkF m 163 #[.val (.int p0), .val (.int p1), .val (.int p2), .val (.int p3), .val (.int (((p0 &&& (2147483647 : Int32)) % (2147483647 : Int32)) + (1 : Int32))), .val (.int (((p1 &&& (2147483647 : Int32)) % (2147483647 : Int32)) + (1 : Int32))), .val (.long r_4), .second, .val (.int (p3 &&& (3 : Int32))), .val (.long (((p3 >>> ((2 : Int32) &&& 31)) &&& (3 : Int32)).toInt64)), .second, .val (.int (r_4.toInt32)), .val (.int (((p3.toUInt32 >>> ((16 : Int32) &&& 31).toUInt32).toInt32) &&& (255 : Int32))), .val (.ref x_5), .val (.double (FP.i2d (((p3.toUInt32 >>> ((24 : Int32) &&& 31).toUInt32).toInt32) &&& (255 : Int32)))), .second, .val (.ref a6), .val (.long ((((((p0 &&& (2147483647 : Int32)) % (2147483647 : Int32)) + (1 : Int32)).toInt64) + ((((p1 &&& (2147483647 : Int32)) % (2147483647 : Int32)) + (1 : Int32)).toInt64)) - (1 : Int64))), .second, .unset] [(.long ((r_4.toInt32).toInt64))])) (fun _ k => XS.i2l W11.here hx rfl (hb hby at_162) rfl k) ?_
  refine Go.st (g' := (mkF m 165 #[.val (.int p0), .val (.int p1), .val (.int p2), .val (.int p3), .val (.int (((p0 &&& (2147483647 : Int32)) % (2147483647 : Int32)) + (1 : Int32))), .val (.int (((p1 &&& (2147483647 : Int32)) % (2147483647 : Int32)) + (1 : Int32))), .val (.long r_4), .second, .val (.int (p3 &&& (3 : Int32))), .val (.long (((p3 >>> ((2 : Int32) &&& 31)) &&& (3 : Int32)).toInt64)), .second, .val (.int (r_4.toInt32)), .val (.int (((p3.toUInt32 >>> ((16 : Int32) &&& 31).toUInt32).toInt32) &&& (255 : Int32))), .val (.ref x_5), .val (.double (FP.i2d (((p3.toUInt32 >>> ((24 : Int32) &&& 31).toUInt32).toInt32) &&& (255 : Int32)))), .second, .val (.ref a6), .val (.long ((((((p0 &&& (2147483647 : Int32)) % (2147483647 : Int32)) + (1 : Int32)).toInt64) + ((((p1 &&& (2147483647 : Int32)) % (2147483647 : Int32)) + (1 : Int32)).toInt64)) - (1 : Int64))), .second, .unset] [(.int (((p0 &&& (2147483647 : Int32)) % (2147483647 : Int32)) + (1 : Int32))), (.long ((r_4.toInt32).toInt64))])) (fun _ k => XS.iload W11.here hx rfl (hb hby at_163) rfl  k) ?_
  refine Go.st (g' := (mkF m 166 #[.val (.int p0), .val (.int p1), .val (.int p2), .val (.int p3), .val (.int (((p0 &&& (2147483647 : Int32)) % (2147483647 : Int32)) + (1 : Int32))), .val (.int (((p1 &&& (2147483647 : Int32)) % (2147483647 : Int32)) + (1 : Int32))), .val (.long r_4), .second, .val (.int (p3 &&& (3 : Int32))), .val (.long (((p3 >>> ((2 : Int32) &&& 31)) &&& (3 : Int32)).toInt64)), .second, .val (.int (r_4.toInt32)), .val (.int (((p3.toUInt32 >>> ((16 : Int32) &&& 31).toUInt32).toInt32) &&& (255 : Int32))), .val (.ref x_5), .val (.double (FP.i2d (((p3.toUInt32 >>> ((24 : Int32) &&& 31).toUInt32).toInt32) &&& (255 : Int32)))), .second, .val (.ref a6), .val (.long ((((((p0 &&& (2147483647 : Int32)) % (2147483647 : Int32)) + (1 : Int32)).toInt64) + ((((p1 &&& (2147483647 : Int32)) % (2147483647 : Int32)) + (1 : Int32)).toInt64)) - (1 : Int64))), .second, .unset] [(.long ((((p0 &&& (2147483647 : Int32)) % (2147483647 : Int32)) + (1 : Int32)).toInt64)), (.long ((r_4.toInt32).toInt64))])) (fun _ k => XS.i2l W11.here hx rfl (hb hby at_165) rfl k) ?_
  refine Go.st (g' := (mkF m 167 #[.val (.int p0), .val (.int p1), .val (.int p2), .val (.int p3), .val (.int (((p0 &&& (2147483647 : Int32)) % (2147483647 : Int32)) + (1 : Int32))), .val (.int (((p1 &&& (2147483647 : Int32)) % (2147483647 : Int32)) + (1 : Int32))), .val (.long r_4), .second, .val (.int (p3 &&& (3 : Int32))), .val (.long (((p3 >>> ((2 : Int32) &&& 31)) &&& (3 : Int32)).toInt64)), .second, .val (.int (r_4.toInt32)), .val (.int (((p3.toUInt32 >>> ((16 : Int32) &&& 31).toUInt32).toInt32) &&& (255 : Int32))), .val (.ref x_5), .val (.double (FP.i2d (((p3.toUInt32 >>> ((24 : Int32) &&& 31).toUInt32).toInt32) &&& (255 : Int32)))), .second, .val (.ref a6), .val (.long ((((((p0 &&& (2147483647 : Int32)) % (2147483647 : Int32)) + (1 : Int32)).toInt64) + ((((p1 &&& (2147483647 : Int32)) % (2147483647 : Int32)) + (1 : Int32)).toInt64)) - (1 : Int64))), .second, .unset] [(.int (lcmpW ((r_4.toInt32).toInt64) ((((p0 &&& (2147483647 : Int32)) % (2147483647 : Int32)) + (1 : Int32)).toInt64)))])) (fun _ k => XS.lcmp W11.here hx rfl (hb hby at_166) rfl k) ?_
  by_cases hc13 : (lcmpW ((r_4.toInt32).toInt64) ((((p0 &&& (2147483647 : Int32)) % (2147483647 : Int32)) + (1 : Int32)).toInt64)) < (0 : Int32)
  · refine Go.st (g' := (mkF m 183 #[.val (.int p0), .val (.int p1), .val (.int p2), .val (.int p3), .val (.int (((p0 &&& (2147483647 : Int32)) % (2147483647 : Int32)) + (1 : Int32))), .val (.int (((p1 &&& (2147483647 : Int32)) % (2147483647 : Int32)) + (1 : Int32))), .val (.long r_4), .second, .val (.int (p3 &&& (3 : Int32))), .val (.long (((p3 >>> ((2 : Int32) &&& 31)) &&& (3 : Int32)).toInt64)), .second, .val (.int (r_4.toInt32)), .val (.int (((p3.toUInt32 >>> ((16 : Int32) &&& 31).toUInt32).toInt32) &&& (255 : Int32))), .val (.ref x_5), .val (.double (FP.i2d (((p3.toUInt32 >>> ((24 : Int32) &&& 31).toUInt32).toInt32) &&& (255 : Int32)))), .second, .val (.ref a6), .val (.long ((((((p0 &&& (2147483647 : Int32)) % (2147483647 : Int32)) + (1 : Int32)).toInt64) + ((((p1 &&& (2147483647 : Int32)) % (2147483647 : Int32)) + (1 : Int32)).toInt64)) - (1 : Int64))), .second, .unset] [])) (fun _ k => XS.ifYes W11.here hx rfl (pc0 := 167) (pc' := 183) rfl (hb hby at_167) rfl ((if0 _ _).trans (tlt hc13).1) (by decide) (by decide) k) ?_
    refine Go.st (g' := (mkF m 184 #[.val (.int p0), .val (.int p1), .val (.int p2), .val (.int p3), .val (.int (((p0 &&& (2147483647 : Int32)) % (2147483647 : Int32)) + (1 : Int32))), .val (.int (((p1 &&& (2147483647 : Int32)) % (2147483647 : Int32)) + (1 : Int32))), .val (.long r_4), .second, .val (.int (p3 &&& (3 : Int32))), .val (.long (((p3 >>> ((2 : Int32) &&& 31)) &&& (3 : Int32)).toInt64)), .second, .val (.int (r_4.toInt32)), .val (.int (((p3.toUInt32 >>> ((16 : Int32) &&& 31).toUInt32).toInt32) &&& (255 : Int32))), .val (.ref x_5), .val (.double (FP.i2d (((p3.toUInt32 >>> ((24 : Int32) &&& 31).toUInt32).toInt32) &&& (255 : Int32)))), .second, .val (.ref a6), .val (.long ((((((p0 &&& (2147483647 : Int32)) % (2147483647 : Int32)) + (1 : Int32)).toInt64) + ((((p1 &&& (2147483647 : Int32)) % (2147483647 : Int32)) + (1 : Int32)).toInt64)) - (1 : Int64))), .second, .unset] [(.int (0 : Int32))])) (fun _ k => XS.iconst W11.here hx rfl (hb hby at_183) k) ?_
    refine Go.st (g' := (mkF m 186 #[.val (.int p0), .val (.int p1), .val (.int p2), .val (.int p3), .val (.int (((p0 &&& (2147483647 : Int32)) % (2147483647 : Int32)) + (1 : Int32))), .val (.int (((p1 &&& (2147483647 : Int32)) % (2147483647 : Int32)) + (1 : Int32))), .val (.long r_4), .second, .val (.int (p3 &&& (3 : Int32))), .val (.long (((p3 >>> ((2 : Int32) &&& 31)) &&& (3 : Int32)).toInt64)), .second, .val (.int (r_4.toInt32)), .val (.int (((p3.toUInt32 >>> ((16 : Int32) &&& 31).toUInt32).toInt32) &&& (255 : Int32))), .val (.ref x_5), .val (.double (FP.i2d (((p3.toUInt32 >>> ((24 : Int32) &&& 31).toUInt32).toInt32) &&& (255 : Int32)))), .second, .val (.ref a6), .val (.long ((((((p0 &&& (2147483647 : Int32)) % (2147483647 : Int32)) + (1 : Int32)).toInt64) + ((((p1 &&& (2147483647 : Int32)) % (2147483647 : Int32)) + (1 : Int32)).toInt64)) - (1 : Int64))), .second, .val (.int (0 : Int32))] [])) (fun _ k => XS.istore W11.here hx rfl (hb hby at_184) rfl (l' := #[.val (.int p0), .val (.int p1), .val (.int p2), .val (.int p3), .val (.int (((p0 &&& (2147483647 : Int32)) % (2147483647 : Int32)) + (1 : Int32))), .val (.int (((p1 &&& (2147483647 : Int32)) % (2147483647 : Int32)) + (1 : Int32))), .val (.long r_4), .second, .val (.int (p3 &&& (3 : Int32))), .val (.long (((p3 >>> ((2 : Int32) &&& 31)) &&& (3 : Int32)).toInt64)), .second, .val (.int (r_4.toInt32)), .val (.int (((p3.toUInt32 >>> ((16 : Int32) &&& 31).toUInt32).toInt32) &&& (255 : Int32))), .val (.ref x_5), .val (.double (FP.i2d (((p3.toUInt32 >>> ((24 : Int32) &&& 31).toUInt32).toInt32) &&& (255 : Int32)))), .second, .val (.ref a6), .val (.long ((((((p0 &&& (2147483647 : Int32)) % (2147483647 : Int32)) + (1 : Int32)).toInt64) + ((((p1 &&& (2147483647 : Int32)) % (2147483647 : Int32)) + (1 : Int32)).toInt64)) - (1 : Int64))), .second, .val (.int (0 : Int32))]) rfl k) ?_
    refine Go.st (g' := (mkF m 188 #[.val (.int p0), .val (.int p1), .val (.int p2), .val (.int p3), .val (.int (((p0 &&& (2147483647 : Int32)) % (2147483647 : Int32)) + (1 : Int32))), .val (.int (((p1 &&& (2147483647 : Int32)) % (2147483647 : Int32)) + (1 : Int32))), .val (.long r_4), .second, .val (.int (p3 &&& (3 : Int32))), .val (.long (((p3 >>> ((2 : Int32) &&& 31)) &&& (3 : Int32)).toInt64)), .second, .val (.int (r_4.toInt32)), .val (.int (((p3.toUInt32 >>> ((16 : Int32) &&& 31).toUInt32).toInt32) &&& (255 : Int32))), .val (.ref x_5), .val (.double (FP.i2d (((p3.toUInt32 >>> ((24 : Int32) &&& 31).toUInt32).toInt32) &&& (255 : Int32)))), .second, .val (.ref a6), .val (.long ((((((p0 &&& (2147483647 : Int32)) % (2147483647 : Int32)) + (1 : Int32)).toInt64) + ((((p1 &&& (2147483647 : Int32)) % (2147483647 : Int32)) + (1 : Int32)).toInt64)) - (1 : Int64))), .second, .val (.int (0 : Int32))] [(.ref a6)])) (fun _ k => XS.aload W11.here hx rfl (hb hby at_186) rfl rfl  k) ?_
    refine Go.st (g' := (mkF m 190 #[.val (.int p0), .val (.int p1), .val (.int p2), .val (.int p3), .val (.int (((p0 &&& (2147483647 : Int32)) % (2147483647 : Int32)) + (1 : Int32))), .val (.int (((p1 &&& (2147483647 : Int32)) % (2147483647 : Int32)) + (1 : Int32))), .val (.long r_4), .second, .val (.int (p3 &&& (3 : Int32))), .val (.long (((p3 >>> ((2 : Int32) &&& 31)) &&& (3 : Int32)).toInt64)), .second, .val (.int (r_4.toInt32)), .val (.int (((p3.toUInt32 >>> ((16 : Int32) &&& 31).toUInt32).toInt32) &&& (255 : Int32))), .val (.ref x_5), .val (.double (FP.i2d (((p3.toUInt32 >>> ((24 : Int32) &&& 31).toUInt32).toInt32) &&& (255 : Int32)))), .second, .val (.ref a6), .val (.long ((((((p0 &&& (2147483647 : Int32)) % (2147483647 : Int32)) + (1 : Int32)).toInt64) + ((((p1 &&& (2147483647 : Int32)) % (2147483647 : Int32)) + (1 : Int32)).toInt64)) - (1 : Int64))), .second, .val (.int (0 : Int32))] [(.int (r_4.toInt32)), (.ref a6)])) (fun _ k => XS.iload W11.here hx rfl (hb hby at_188) rfl  k) ?_
    have F14 : Exa Z h11 a6 "com/example/narrow_gap/narrowgap/Scenario$LoadEvent" := (X6.keep K11)
    obtain ⟨_, vm15, T15, h15, W15, Q15, z15, SF15, st15⟩ := W11.callV hx hEL (own_active l hE W11.old (x0 := a6) (t0 := (r_4.toInt32)) (f0 := (((p0 &&& (2147483647 : Int32)) % (2147483647 : Int32)) + (1 : Int32))) (r0 := (((p1 &&& (2147483647 : Int32)) % (2147483647 : Int32)) + (1 : Int32)))  f11_1 f11_2) (hw _ (List.mem_of_getElem? (i := 68) rfl)) (hw _ (List.mem_of_getElem? (i := 69) rfl)) (hw _ (List.mem_of_getElem? (i := 71) rfl)) (hw _ (List.mem_of_getElem? (i := 70) rfl)) (hw _ (List.mem_of_getElem? (i := 39) rfl)) (hw _ (List.mem_of_getElem? (i := 72) rfl)) (by decide) (Wd := 0) (by decide) (by decide) (by decide) (by decide) (g := (mkF m 190 #[.val (.int p0), .val (.int p1), .val (.int p2), .val (.int p3), .val (.int (((p0 &&& (2147483647 : Int32)) % (2147483647 : Int32)) + (1 : Int32))), .val (.int (((p1 &&& (2147483647 : Int32)) % (2147483647 : Int32)) + (1 : Int32))), .val (.long r_4), .second, .val (.int (p3 &&& (3 : Int32))), .val (.long (((p3 >>> ((2 : Int32) &&& 31)) &&& (3 : Int32)).toInt64)), .second, .val (.int (r_4.toInt32)), .val (.int (((p3.toUInt32 >>> ((16 : Int32) &&& 31).toUInt32).toInt32) &&& (255 : Int32))), .val (.ref x_5), .val (.double (FP.i2d (((p3.toUInt32 >>> ((24 : Int32) &&& 31).toUInt32).toInt32) &&& (255 : Int32)))), .second, .val (.ref a6), .val (.long ((((((p0 &&& (2147483647 : Int32)) % (2147483647 : Int32)) + (1 : Int32)).toInt64) + ((((p1 &&& (2147483647 : Int32)) % (2147483647 : Int32)) + (1 : Int32)).toInt64)) - (1 : Int64))), .second, .val (.int (0 : Int32))] [(.int (r_4.toInt32)), (.ref a6)])) rfl (by rw [hml]; rfl) (a := a6) F14 (argsL := [(.int (r_4.toInt32))]) (rest := []) rfl (lenOf pd__I_Z rfl) rfl (by show 2 * 0 + _ ≤ _; exact Nat.le_of_eq rfl) (hb hby at_190)
    obtain ⟨rfl, eh15⟩ := Q15
    subst eh15
    refine Go.tr (g' := (mkF m 193 #[.val (.int p0), .val (.int p1), .val (.int p2), .val (.int p3), .val (.int (((p0 &&& (2147483647 : Int32)) % (2147483647 : Int32)) + (1 : Int32))), .val (.int (((p1 &&& (2147483647 : Int32)) % (2147483647 : Int32)) + (1 : Int32))), .val (.long r_4), .second, .val (.int (p3 &&& (3 : Int32))), .val (.long (((p3 >>> ((2 : Int32) &&& 31)) &&& (3 : Int32)).toInt64)), .second, .val (.int (r_4.toInt32)), .val (.int (((p3.toUInt32 >>> ((16 : Int32) &&& 31).toUInt32).toInt32) &&& (255 : Int32))), .val (.ref x_5), .val (.double (FP.i2d (((p3.toUInt32 >>> ((24 : Int32) &&& 31).toUInt32).toInt32) &&& (255 : Int32)))), .second, .val (.ref a6), .val (.long ((((((p0 &&& (2147483647 : Int32)) % (2147483647 : Int32)) + (1 : Int32)).toInt64) + ((((p1 &&& (2147483647 : Int32)) % (2147483647 : Int32)) + (1 : Int32)).toInt64)) - (1 : Int64))), .second, .val (.int (0 : Int32))] [(.int (own_act (r_4.toInt32) (((p0 &&& (2147483647 : Int32)) % (2147483647 : Int32)) + (1 : Int32)) (((p1 &&& (2147483647 : Int32)) % (2147483647 : Int32)) + (1 : Int32))))])) st15 ?_
    refine Go.st (g' := (mkF m 195 #[.val (.int p0), .val (.int p1), .val (.int p2), .val (.int p3), .val (.int (((p0 &&& (2147483647 : Int32)) % (2147483647 : Int32)) + (1 : Int32))), .val (.int (((p1 &&& (2147483647 : Int32)) % (2147483647 : Int32)) + (1 : Int32))), .val (.long r_4), .second, .val (.int (p3 &&& (3 : Int32))), .val (.long (((p3 >>> ((2 : Int32) &&& 31)) &&& (3 : Int32)).toInt64)), .second, .val (.int (r_4.toInt32)), .val (.int (((p3.toUInt32 >>> ((16 : Int32) &&& 31).toUInt32).toInt32) &&& (255 : Int32))), .val (.ref x_5), .val (.double (FP.i2d (((p3.toUInt32 >>> ((24 : Int32) &&& 31).toUInt32).toInt32) &&& (255 : Int32)))), .second, .val (.ref a6), .val (.long ((((((p0 &&& (2147483647 : Int32)) % (2147483647 : Int32)) + (1 : Int32)).toInt64) + ((((p1 &&& (2147483647 : Int32)) % (2147483647 : Int32)) + (1 : Int32)).toInt64)) - (1 : Int64))), .second, .val (.int (0 : Int32))] [(.int (0 : Int32)), (.int (own_act (r_4.toInt32) (((p0 &&& (2147483647 : Int32)) % (2147483647 : Int32)) + (1 : Int32)) (((p1 &&& (2147483647 : Int32)) % (2147483647 : Int32)) + (1 : Int32))))])) (fun _ k => XS.iload W15.here hx rfl (hb hby at_193) rfl  k) ?_
    refine Go.st (g' := (mkF m 198 #[.val (.int p0), .val (.int p1), .val (.int p2), .val (.int p3), .val (.int (((p0 &&& (2147483647 : Int32)) % (2147483647 : Int32)) + (1 : Int32))), .val (.int (((p1 &&& (2147483647 : Int32)) % (2147483647 : Int32)) + (1 : Int32))), .val (.long r_4), .second, .val (.int (p3 &&& (3 : Int32))), .val (.long (((p3 >>> ((2 : Int32) &&& 31)) &&& (3 : Int32)).toInt64)), .second, .val (.int (r_4.toInt32)), .val (.int (((p3.toUInt32 >>> ((16 : Int32) &&& 31).toUInt32).toInt32) &&& (255 : Int32))), .val (.ref x_5), .val (.double (FP.i2d (((p3.toUInt32 >>> ((24 : Int32) &&& 31).toUInt32).toInt32) &&& (255 : Int32)))), .second, .val (.ref a6), .val (.long ((((((p0 &&& (2147483647 : Int32)) % (2147483647 : Int32)) + (1 : Int32)).toInt64) + ((((p1 &&& (2147483647 : Int32)) % (2147483647 : Int32)) + (1 : Int32)).toInt64)) - (1 : Int64))), .second, .val (.int (0 : Int32))] [])) (fun _ k => XS.icmpNo W15.here hx rfl (hb hby at_195) rfl (teq ((own_actL (own_pos _) (own_pos _)).1 ((lw_lt _ _).mp hc13))).2 k) ?_
    refine Go.st (g' := (mkF m 199 #[.val (.int p0), .val (.int p1), .val (.int p2), .val (.int p3), .val (.int (((p0 &&& (2147483647 : Int32)) % (2147483647 : Int32)) + (1 : Int32))), .val (.int (((p1 &&& (2147483647 : Int32)) % (2147483647 : Int32)) + (1 : Int32))), .val (.long r_4), .second, .val (.int (p3 &&& (3 : Int32))), .val (.long (((p3 >>> ((2 : Int32) &&& 31)) &&& (3 : Int32)).toInt64)), .second, .val (.int (r_4.toInt32)), .val (.int (((p3.toUInt32 >>> ((16 : Int32) &&& 31).toUInt32).toInt32) &&& (255 : Int32))), .val (.ref x_5), .val (.double (FP.i2d (((p3.toUInt32 >>> ((24 : Int32) &&& 31).toUInt32).toInt32) &&& (255 : Int32)))), .second, .val (.ref a6), .val (.long ((((((p0 &&& (2147483647 : Int32)) % (2147483647 : Int32)) + (1 : Int32)).toInt64) + ((((p1 &&& (2147483647 : Int32)) % (2147483647 : Int32)) + (1 : Int32)).toInt64)) - (1 : Int64))), .second, .val (.int (0 : Int32))] [(.int (1 : Int32))])) (fun _ k => XS.iconst W15.here hx rfl (hb hby at_198) k) ?_
    refine Go.st (g' := (mkF m 203 #[.val (.int p0), .val (.int p1), .val (.int p2), .val (.int p3), .val (.int (((p0 &&& (2147483647 : Int32)) % (2147483647 : Int32)) + (1 : Int32))), .val (.int (((p1 &&& (2147483647 : Int32)) % (2147483647 : Int32)) + (1 : Int32))), .val (.long r_4), .second, .val (.int (p3 &&& (3 : Int32))), .val (.long (((p3 >>> ((2 : Int32) &&& 31)) &&& (3 : Int32)).toInt64)), .second, .val (.int (r_4.toInt32)), .val (.int (((p3.toUInt32 >>> ((16 : Int32) &&& 31).toUInt32).toInt32) &&& (255 : Int32))), .val (.ref x_5), .val (.double (FP.i2d (((p3.toUInt32 >>> ((24 : Int32) &&& 31).toUInt32).toInt32) &&& (255 : Int32)))), .second, .val (.ref a6), .val (.long ((((((p0 &&& (2147483647 : Int32)) % (2147483647 : Int32)) + (1 : Int32)).toInt64) + ((((p1 &&& (2147483647 : Int32)) % (2147483647 : Int32)) + (1 : Int32)).toInt64)) - (1 : Int64))), .second, .val (.int (0 : Int32))] [(.int (1 : Int32))])) (fun _ k => XS.goto W15.here hx rfl (pc0 := 199) (pc' := 203) rfl (hb hby at_199) (by decide) (by decide) k) ?_
    exact W15.retN hx hEL hlk (t := .boolean) hret (by decide) (hb hby at_203) (by decide) (by decide) rfl
  · refine Go.st (g' := (mkF m 170 #[.val (.int p0), .val (.int p1), .val (.int p2), .val (.int p3), .val (.int (((p0 &&& (2147483647 : Int32)) % (2147483647 : Int32)) + (1 : Int32))), .val (.int (((p1 &&& (2147483647 : Int32)) % (2147483647 : Int32)) + (1 : Int32))), .val (.long r_4), .second, .val (.int (p3 &&& (3 : Int32))), .val (.long (((p3 >>> ((2 : Int32) &&& 31)) &&& (3 : Int32)).toInt64)), .second, .val (.int (r_4.toInt32)), .val (.int (((p3.toUInt32 >>> ((16 : Int32) &&& 31).toUInt32).toInt32) &&& (255 : Int32))), .val (.ref x_5), .val (.double (FP.i2d (((p3.toUInt32 >>> ((24 : Int32) &&& 31).toUInt32).toInt32) &&& (255 : Int32)))), .second, .val (.ref a6), .val (.long ((((((p0 &&& (2147483647 : Int32)) % (2147483647 : Int32)) + (1 : Int32)).toInt64) + ((((p1 &&& (2147483647 : Int32)) % (2147483647 : Int32)) + (1 : Int32)).toInt64)) - (1 : Int64))), .second, .unset] [])) (fun _ k => XS.ifNo W11.here hx rfl (hb hby at_167) rfl ((if0 _ _).trans (flt hc13).1) k) ?_
    refine Go.st (g' := (mkF m 172 #[.val (.int p0), .val (.int p1), .val (.int p2), .val (.int p3), .val (.int (((p0 &&& (2147483647 : Int32)) % (2147483647 : Int32)) + (1 : Int32))), .val (.int (((p1 &&& (2147483647 : Int32)) % (2147483647 : Int32)) + (1 : Int32))), .val (.long r_4), .second, .val (.int (p3 &&& (3 : Int32))), .val (.long (((p3 >>> ((2 : Int32) &&& 31)) &&& (3 : Int32)).toInt64)), .second, .val (.int (r_4.toInt32)), .val (.int (((p3.toUInt32 >>> ((16 : Int32) &&& 31).toUInt32).toInt32) &&& (255 : Int32))), .val (.ref x_5), .val (.double (FP.i2d (((p3.toUInt32 >>> ((24 : Int32) &&& 31).toUInt32).toInt32) &&& (255 : Int32)))), .second, .val (.ref a6), .val (.long ((((((p0 &&& (2147483647 : Int32)) % (2147483647 : Int32)) + (1 : Int32)).toInt64) + ((((p1 &&& (2147483647 : Int32)) % (2147483647 : Int32)) + (1 : Int32)).toInt64)) - (1 : Int64))), .second, .unset] [(.int (r_4.toInt32))])) (fun _ k => XS.iload W11.here hx rfl (hb hby at_170) rfl  k) ?_
    refine Go.st (g' := (mkF m 173 #[.val (.int p0), .val (.int p1), .val (.int p2), .val (.int p3), .val (.int (((p0 &&& (2147483647 : Int32)) % (2147483647 : Int32)) + (1 : Int32))), .val (.int (((p1 &&& (2147483647 : Int32)) % (2147483647 : Int32)) + (1 : Int32))), .val (.long r_4), .second, .val (.int (p3 &&& (3 : Int32))), .val (.long (((p3 >>> ((2 : Int32) &&& 31)) &&& (3 : Int32)).toInt64)), .second, .val (.int (r_4.toInt32)), .val (.int (((p3.toUInt32 >>> ((16 : Int32) &&& 31).toUInt32).toInt32) &&& (255 : Int32))), .val (.ref x_5), .val (.double (FP.i2d (((p3.toUInt32 >>> ((24 : Int32) &&& 31).toUInt32).toInt32) &&& (255 : Int32)))), .second, .val (.ref a6), .val (.long ((((((p0 &&& (2147483647 : Int32)) % (2147483647 : Int32)) + (1 : Int32)).toInt64) + ((((p1 &&& (2147483647 : Int32)) % (2147483647 : Int32)) + (1 : Int32)).toInt64)) - (1 : Int64))), .second, .unset] [(.long ((r_4.toInt32).toInt64))])) (fun _ k => XS.i2l W11.here hx rfl (hb hby at_172) rfl k) ?_
    refine Go.st (g' := (mkF m 175 #[.val (.int p0), .val (.int p1), .val (.int p2), .val (.int p3), .val (.int (((p0 &&& (2147483647 : Int32)) % (2147483647 : Int32)) + (1 : Int32))), .val (.int (((p1 &&& (2147483647 : Int32)) % (2147483647 : Int32)) + (1 : Int32))), .val (.long r_4), .second, .val (.int (p3 &&& (3 : Int32))), .val (.long (((p3 >>> ((2 : Int32) &&& 31)) &&& (3 : Int32)).toInt64)), .second, .val (.int (r_4.toInt32)), .val (.int (((p3.toUInt32 >>> ((16 : Int32) &&& 31).toUInt32).toInt32) &&& (255 : Int32))), .val (.ref x_5), .val (.double (FP.i2d (((p3.toUInt32 >>> ((24 : Int32) &&& 31).toUInt32).toInt32) &&& (255 : Int32)))), .second, .val (.ref a6), .val (.long ((((((p0 &&& (2147483647 : Int32)) % (2147483647 : Int32)) + (1 : Int32)).toInt64) + ((((p1 &&& (2147483647 : Int32)) % (2147483647 : Int32)) + (1 : Int32)).toInt64)) - (1 : Int64))), .second, .unset] [(.long ((((((p0 &&& (2147483647 : Int32)) % (2147483647 : Int32)) + (1 : Int32)).toInt64) + ((((p1 &&& (2147483647 : Int32)) % (2147483647 : Int32)) + (1 : Int32)).toInt64)) - (1 : Int64))), (.long ((r_4.toInt32).toInt64))])) (fun _ k => XS.lload W11.here hx rfl (hb hby at_173) rfl  k) ?_
    refine Go.st (g' := (mkF m 176 #[.val (.int p0), .val (.int p1), .val (.int p2), .val (.int p3), .val (.int (((p0 &&& (2147483647 : Int32)) % (2147483647 : Int32)) + (1 : Int32))), .val (.int (((p1 &&& (2147483647 : Int32)) % (2147483647 : Int32)) + (1 : Int32))), .val (.long r_4), .second, .val (.int (p3 &&& (3 : Int32))), .val (.long (((p3 >>> ((2 : Int32) &&& 31)) &&& (3 : Int32)).toInt64)), .second, .val (.int (r_4.toInt32)), .val (.int (((p3.toUInt32 >>> ((16 : Int32) &&& 31).toUInt32).toInt32) &&& (255 : Int32))), .val (.ref x_5), .val (.double (FP.i2d (((p3.toUInt32 >>> ((24 : Int32) &&& 31).toUInt32).toInt32) &&& (255 : Int32)))), .second, .val (.ref a6), .val (.long ((((((p0 &&& (2147483647 : Int32)) % (2147483647 : Int32)) + (1 : Int32)).toInt64) + ((((p1 &&& (2147483647 : Int32)) % (2147483647 : Int32)) + (1 : Int32)).toInt64)) - (1 : Int64))), .second, .unset] [(.int (lcmpW ((r_4.toInt32).toInt64) ((((((p0 &&& (2147483647 : Int32)) % (2147483647 : Int32)) + (1 : Int32)).toInt64) + ((((p1 &&& (2147483647 : Int32)) % (2147483647 : Int32)) + (1 : Int32)).toInt64)) - (1 : Int64))))])) (fun _ k => XS.lcmp W11.here hx rfl (hb hby at_175) rfl k) ?_
    by_cases hc16 : (0 : Int32) < (lcmpW ((r_4.toInt32).toInt64) ((((((p0 &&& (2147483647 : Int32)) % (2147483647 : Int32)) + (1 : Int32)).toInt64) + ((((p1 &&& (2147483647 : Int32)) % (2147483647 : Int32)) + (1 : Int32)).toInt64)) - (1 : Int64)))
    · refine Go.st (g' := (mkF m 183 #[.val (.int p0), .val (.int p1), .val (.int p2), .val (.int p3), .val (.int (((p0 &&& (2147483647 : Int32)) % (2147483647 : Int32)) + (1 : Int32))), .val (.int (((p1 &&& (2147483647 : Int32)) % (2147483647 : Int32)) + (1 : Int32))), .val (.long r_4), .second, .val (.int (p3 &&& (3 : Int32))), .val (.long (((p3 >>> ((2 : Int32) &&& 31)) &&& (3 : Int32)).toInt64)), .second, .val (.int (r_4.toInt32)), .val (.int (((p3.toUInt32 >>> ((16 : Int32) &&& 31).toUInt32).toInt32) &&& (255 : Int32))), .val (.ref x_5), .val (.double (FP.i2d (((p3.toUInt32 >>> ((24 : Int32) &&& 31).toUInt32).toInt32) &&& (255 : Int32)))), .second, .val (.ref a6), .val (.long ((((((p0 &&& (2147483647 : Int32)) % (2147483647 : Int32)) + (1 : Int32)).toInt64) + ((((p1 &&& (2147483647 : Int32)) % (2147483647 : Int32)) + (1 : Int32)).toInt64)) - (1 : Int64))), .second, .unset] [])) (fun _ k => XS.ifYes W11.here hx rfl (pc0 := 176) (pc' := 183) rfl (hb hby at_176) rfl ((if0 _ _).trans (tlt hc16).2.2.1) (by decide) (by decide) k) ?_
      refine Go.st (g' := (mkF m 184 #[.val (.int p0), .val (.int p1), .val (.int p2), .val (.int p3), .val (.int (((p0 &&& (2147483647 : Int32)) % (2147483647 : Int32)) + (1 : Int32))), .val (.int (((p1 &&& (2147483647 : Int32)) % (2147483647 : Int32)) + (1 : Int32))), .val (.long r_4), .second, .val (.int (p3 &&& (3 : Int32))), .val (.long (((p3 >>> ((2 : Int32) &&& 31)) &&& (3 : Int32)).toInt64)), .second, .val (.int (r_4.toInt32)), .val (.int (((p3.toUInt32 >>> ((16 : Int32) &&& 31).toUInt32).toInt32) &&& (255 : Int32))), .val (.ref x_5), .val (.double (FP.i2d (((p3.toUInt32 >>> ((24 : Int32) &&& 31).toUInt32).toInt32) &&& (255 : Int32)))), .second, .val (.ref a6), .val (.long ((((((p0 &&& (2147483647 : Int32)) % (2147483647 : Int32)) + (1 : Int32)).toInt64) + ((((p1 &&& (2147483647 : Int32)) % (2147483647 : Int32)) + (1 : Int32)).toInt64)) - (1 : Int64))), .second, .unset] [(.int (0 : Int32))])) (fun _ k => XS.iconst W11.here hx rfl (hb hby at_183) k) ?_
      refine Go.st (g' := (mkF m 186 #[.val (.int p0), .val (.int p1), .val (.int p2), .val (.int p3), .val (.int (((p0 &&& (2147483647 : Int32)) % (2147483647 : Int32)) + (1 : Int32))), .val (.int (((p1 &&& (2147483647 : Int32)) % (2147483647 : Int32)) + (1 : Int32))), .val (.long r_4), .second, .val (.int (p3 &&& (3 : Int32))), .val (.long (((p3 >>> ((2 : Int32) &&& 31)) &&& (3 : Int32)).toInt64)), .second, .val (.int (r_4.toInt32)), .val (.int (((p3.toUInt32 >>> ((16 : Int32) &&& 31).toUInt32).toInt32) &&& (255 : Int32))), .val (.ref x_5), .val (.double (FP.i2d (((p3.toUInt32 >>> ((24 : Int32) &&& 31).toUInt32).toInt32) &&& (255 : Int32)))), .second, .val (.ref a6), .val (.long ((((((p0 &&& (2147483647 : Int32)) % (2147483647 : Int32)) + (1 : Int32)).toInt64) + ((((p1 &&& (2147483647 : Int32)) % (2147483647 : Int32)) + (1 : Int32)).toInt64)) - (1 : Int64))), .second, .val (.int (0 : Int32))] [])) (fun _ k => XS.istore W11.here hx rfl (hb hby at_184) rfl (l' := #[.val (.int p0), .val (.int p1), .val (.int p2), .val (.int p3), .val (.int (((p0 &&& (2147483647 : Int32)) % (2147483647 : Int32)) + (1 : Int32))), .val (.int (((p1 &&& (2147483647 : Int32)) % (2147483647 : Int32)) + (1 : Int32))), .val (.long r_4), .second, .val (.int (p3 &&& (3 : Int32))), .val (.long (((p3 >>> ((2 : Int32) &&& 31)) &&& (3 : Int32)).toInt64)), .second, .val (.int (r_4.toInt32)), .val (.int (((p3.toUInt32 >>> ((16 : Int32) &&& 31).toUInt32).toInt32) &&& (255 : Int32))), .val (.ref x_5), .val (.double (FP.i2d (((p3.toUInt32 >>> ((24 : Int32) &&& 31).toUInt32).toInt32) &&& (255 : Int32)))), .second, .val (.ref a6), .val (.long ((((((p0 &&& (2147483647 : Int32)) % (2147483647 : Int32)) + (1 : Int32)).toInt64) + ((((p1 &&& (2147483647 : Int32)) % (2147483647 : Int32)) + (1 : Int32)).toInt64)) - (1 : Int64))), .second, .val (.int (0 : Int32))]) rfl k) ?_
      refine Go.st (g' := (mkF m 188 #[.val (.int p0), .val (.int p1), .val (.int p2), .val (.int p3), .val (.int (((p0 &&& (2147483647 : Int32)) % (2147483647 : Int32)) + (1 : Int32))), .val (.int (((p1 &&& (2147483647 : Int32)) % (2147483647 : Int32)) + (1 : Int32))), .val (.long r_4), .second, .val (.int (p3 &&& (3 : Int32))), .val (.long (((p3 >>> ((2 : Int32) &&& 31)) &&& (3 : Int32)).toInt64)), .second, .val (.int (r_4.toInt32)), .val (.int (((p3.toUInt32 >>> ((16 : Int32) &&& 31).toUInt32).toInt32) &&& (255 : Int32))), .val (.ref x_5), .val (.double (FP.i2d (((p3.toUInt32 >>> ((24 : Int32) &&& 31).toUInt32).toInt32) &&& (255 : Int32)))), .second, .val (.ref a6), .val (.long ((((((p0 &&& (2147483647 : Int32)) % (2147483647 : Int32)) + (1 : Int32)).toInt64) + ((((p1 &&& (2147483647 : Int32)) % (2147483647 : Int32)) + (1 : Int32)).toInt64)) - (1 : Int64))), .second, .val (.int (0 : Int32))] [(.ref a6)])) (fun _ k => XS.aload W11.here hx rfl (hb hby at_186) rfl rfl  k) ?_
      refine Go.st (g' := (mkF m 190 #[.val (.int p0), .val (.int p1), .val (.int p2), .val (.int p3), .val (.int (((p0 &&& (2147483647 : Int32)) % (2147483647 : Int32)) + (1 : Int32))), .val (.int (((p1 &&& (2147483647 : Int32)) % (2147483647 : Int32)) + (1 : Int32))), .val (.long r_4), .second, .val (.int (p3 &&& (3 : Int32))), .val (.long (((p3 >>> ((2 : Int32) &&& 31)) &&& (3 : Int32)).toInt64)), .second, .val (.int (r_4.toInt32)), .val (.int (((p3.toUInt32 >>> ((16 : Int32) &&& 31).toUInt32).toInt32) &&& (255 : Int32))), .val (.ref x_5), .val (.double (FP.i2d (((p3.toUInt32 >>> ((24 : Int32) &&& 31).toUInt32).toInt32) &&& (255 : Int32)))), .second, .val (.ref a6), .val (.long ((((((p0 &&& (2147483647 : Int32)) % (2147483647 : Int32)) + (1 : Int32)).toInt64) + ((((p1 &&& (2147483647 : Int32)) % (2147483647 : Int32)) + (1 : Int32)).toInt64)) - (1 : Int64))), .second, .val (.int (0 : Int32))] [(.int (r_4.toInt32)), (.ref a6)])) (fun _ k => XS.iload W11.here hx rfl (hb hby at_188) rfl  k) ?_
      have F17 : Exa Z h11 a6 "com/example/narrow_gap/narrowgap/Scenario$LoadEvent" := (X6.keep K11)
      obtain ⟨_, vm18, T18, h18, W18, Q18, z18, SF18, st18⟩ := W11.callV hx hEL (own_active l hE W11.old (x0 := a6) (t0 := (r_4.toInt32)) (f0 := (((p0 &&& (2147483647 : Int32)) % (2147483647 : Int32)) + (1 : Int32))) (r0 := (((p1 &&& (2147483647 : Int32)) % (2147483647 : Int32)) + (1 : Int32)))  f11_1 f11_2) (hw _ (List.mem_of_getElem? (i := 68) rfl)) (hw _ (List.mem_of_getElem? (i := 69) rfl)) (hw _ (List.mem_of_getElem? (i := 71) rfl)) (hw _ (List.mem_of_getElem? (i := 70) rfl)) (hw _ (List.mem_of_getElem? (i := 39) rfl)) (hw _ (List.mem_of_getElem? (i := 72) rfl)) (by decide) (Wd := 0) (by decide) (by decide) (by decide) (by decide) (g := (mkF m 190 #[.val (.int p0), .val (.int p1), .val (.int p2), .val (.int p3), .val (.int (((p0 &&& (2147483647 : Int32)) % (2147483647 : Int32)) + (1 : Int32))), .val (.int (((p1 &&& (2147483647 : Int32)) % (2147483647 : Int32)) + (1 : Int32))), .val (.long r_4), .second, .val (.int (p3 &&& (3 : Int32))), .val (.long (((p3 >>> ((2 : Int32) &&& 31)) &&& (3 : Int32)).toInt64)), .second, .val (.int (r_4.toInt32)), .val (.int (((p3.toUInt32 >>> ((16 : Int32) &&& 31).toUInt32).toInt32) &&& (255 : Int32))), .val (.ref x_5), .val (.double (FP.i2d (((p3.toUInt32 >>> ((24 : Int32) &&& 31).toUInt32).toInt32) &&& (255 : Int32)))), .second, .val (.ref a6), .val (.long ((((((p0 &&& (2147483647 : Int32)) % (2147483647 : Int32)) + (1 : Int32)).toInt64) + ((((p1 &&& (2147483647 : Int32)) % (2147483647 : Int32)) + (1 : Int32)).toInt64)) - (1 : Int64))), .second, .val (.int (0 : Int32))] [(.int (r_4.toInt32)), (.ref a6)])) rfl (by rw [hml]; rfl) (a := a6) F17 (argsL := [(.int (r_4.toInt32))]) (rest := []) rfl (lenOf pd__I_Z rfl) rfl (by show 2 * 0 + _ ≤ _; exact Nat.le_of_eq rfl) (hb hby at_190)
      obtain ⟨rfl, eh18⟩ := Q18
      subst eh18
      refine Go.tr (g' := (mkF m 193 #[.val (.int p0), .val (.int p1), .val (.int p2), .val (.int p3), .val (.int (((p0 &&& (2147483647 : Int32)) % (2147483647 : Int32)) + (1 : Int32))), .val (.int (((p1 &&& (2147483647 : Int32)) % (2147483647 : Int32)) + (1 : Int32))), .val (.long r_4), .second, .val (.int (p3 &&& (3 : Int32))), .val (.long (((p3 >>> ((2 : Int32) &&& 31)) &&& (3 : Int32)).toInt64)), .second, .val (.int (r_4.toInt32)), .val (.int (((p3.toUInt32 >>> ((16 : Int32) &&& 31).toUInt32).toInt32) &&& (255 : Int32))), .val (.ref x_5), .val (.double (FP.i2d (((p3.toUInt32 >>> ((24 : Int32) &&& 31).toUInt32).toInt32) &&& (255 : Int32)))), .second, .val (.ref a6), .val (.long ((((((p0 &&& (2147483647 : Int32)) % (2147483647 : Int32)) + (1 : Int32)).toInt64) + ((((p1 &&& (2147483647 : Int32)) % (2147483647 : Int32)) + (1 : Int32)).toInt64)) - (1 : Int64))), .second, .val (.int (0 : Int32))] [(.int (own_act (r_4.toInt32) (((p0 &&& (2147483647 : Int32)) % (2147483647 : Int32)) + (1 : Int32)) (((p1 &&& (2147483647 : Int32)) % (2147483647 : Int32)) + (1 : Int32))))])) st18 ?_
      refine Go.st (g' := (mkF m 195 #[.val (.int p0), .val (.int p1), .val (.int p2), .val (.int p3), .val (.int (((p0 &&& (2147483647 : Int32)) % (2147483647 : Int32)) + (1 : Int32))), .val (.int (((p1 &&& (2147483647 : Int32)) % (2147483647 : Int32)) + (1 : Int32))), .val (.long r_4), .second, .val (.int (p3 &&& (3 : Int32))), .val (.long (((p3 >>> ((2 : Int32) &&& 31)) &&& (3 : Int32)).toInt64)), .second, .val (.int (r_4.toInt32)), .val (.int (((p3.toUInt32 >>> ((16 : Int32) &&& 31).toUInt32).toInt32) &&& (255 : Int32))), .val (.ref x_5), .val (.double (FP.i2d (((p3.toUInt32 >>> ((24 : Int32) &&& 31).toUInt32).toInt32) &&& (255 : Int32)))), .second, .val (.ref a6), .val (.long ((((((p0 &&& (2147483647 : Int32)) % (2147483647 : Int32)) + (1 : Int32)).toInt64) + ((((p1 &&& (2147483647 : Int32)) % (2147483647 : Int32)) + (1 : Int32)).toInt64)) - (1 : Int64))), .second, .val (.int (0 : Int32))] [(.int (0 : Int32)), (.int (own_act (r_4.toInt32) (((p0 &&& (2147483647 : Int32)) % (2147483647 : Int32)) + (1 : Int32)) (((p1 &&& (2147483647 : Int32)) % (2147483647 : Int32)) + (1 : Int32))))])) (fun _ k => XS.iload W18.here hx rfl (hb hby at_193) rfl  k) ?_
      refine Go.st (g' := (mkF m 198 #[.val (.int p0), .val (.int p1), .val (.int p2), .val (.int p3), .val (.int (((p0 &&& (2147483647 : Int32)) % (2147483647 : Int32)) + (1 : Int32))), .val (.int (((p1 &&& (2147483647 : Int32)) % (2147483647 : Int32)) + (1 : Int32))), .val (.long r_4), .second, .val (.int (p3 &&& (3 : Int32))), .val (.long (((p3 >>> ((2 : Int32) &&& 31)) &&& (3 : Int32)).toInt64)), .second, .val (.int (r_4.toInt32)), .val (.int (((p3.toUInt32 >>> ((16 : Int32) &&& 31).toUInt32).toInt32) &&& (255 : Int32))), .val (.ref x_5), .val (.double (FP.i2d (((p3.toUInt32 >>> ((24 : Int32) &&& 31).toUInt32).toInt32) &&& (255 : Int32)))), .second, .val (.ref a6), .val (.long ((((((p0 &&& (2147483647 : Int32)) % (2147483647 : Int32)) + (1 : Int32)).toInt64) + ((((p1 &&& (2147483647 : Int32)) % (2147483647 : Int32)) + (1 : Int32)).toInt64)) - (1 : Int64))), .second, .val (.int (0 : Int32))] [])) (fun _ k => XS.icmpNo W18.here hx rfl (hb hby at_195) rfl (teq ((own_actL (own_pos _) (own_pos _)).2.1 (fun z => hc13 ((lw_lt _ _).mpr z)) ((lw_gt _ _).mp hc16))).2 k) ?_
      refine Go.st (g' := (mkF m 199 #[.val (.int p0), .val (.int p1), .val (.int p2), .val (.int p3), .val (.int (((p0 &&& (2147483647 : Int32)) % (2147483647 : Int32)) + (1 : Int32))), .val (.int (((p1 &&& (2147483647 : Int32)) % (2147483647 : Int32)) + (1 : Int32))), .val (.long r_4), .second, .val (.int (p3 &&& (3 : Int32))), .val (.long (((p3 >>> ((2 : Int32) &&& 31)) &&& (3 : Int32)).toInt64)), .second, .val (.int (r_4.toInt32)), .val (.int (((p3.toUInt32 >>> ((16 : Int32) &&& 31).toUInt32).toInt32) &&& (255 : Int32))), .val (.ref x_5), .val (.double (FP.i2d (((p3.toUInt32 >>> ((24 : Int32) &&& 31).toUInt32).toInt32) &&& (255 : Int32)))), .second, .val (.ref a6), .val (.long ((((((p0 &&& (2147483647 : Int32)) % (2147483647 : Int32)) + (1 : Int32)).toInt64) + ((((p1 &&& (2147483647 : Int32)) % (2147483647 : Int32)) + (1 : Int32)).toInt64)) - (1 : Int64))), .second, .val (.int (0 : Int32))] [(.int (1 : Int32))])) (fun _ k => XS.iconst W18.here hx rfl (hb hby at_198) k) ?_
      refine Go.st (g' := (mkF m 203 #[.val (.int p0), .val (.int p1), .val (.int p2), .val (.int p3), .val (.int (((p0 &&& (2147483647 : Int32)) % (2147483647 : Int32)) + (1 : Int32))), .val (.int (((p1 &&& (2147483647 : Int32)) % (2147483647 : Int32)) + (1 : Int32))), .val (.long r_4), .second, .val (.int (p3 &&& (3 : Int32))), .val (.long (((p3 >>> ((2 : Int32) &&& 31)) &&& (3 : Int32)).toInt64)), .second, .val (.int (r_4.toInt32)), .val (.int (((p3.toUInt32 >>> ((16 : Int32) &&& 31).toUInt32).toInt32) &&& (255 : Int32))), .val (.ref x_5), .val (.double (FP.i2d (((p3.toUInt32 >>> ((24 : Int32) &&& 31).toUInt32).toInt32) &&& (255 : Int32)))), .second, .val (.ref a6), .val (.long ((((((p0 &&& (2147483647 : Int32)) % (2147483647 : Int32)) + (1 : Int32)).toInt64) + ((((p1 &&& (2147483647 : Int32)) % (2147483647 : Int32)) + (1 : Int32)).toInt64)) - (1 : Int64))), .second, .val (.int (0 : Int32))] [(.int (1 : Int32))])) (fun _ k => XS.goto W18.here hx rfl (pc0 := 199) (pc' := 203) rfl (hb hby at_199) (by decide) (by decide) k) ?_
      exact W18.retN hx hEL hlk (t := .boolean) hret (by decide) (hb hby at_203) (by decide) (by decide) rfl
    · refine Go.st (g' := (mkF m 179 #[.val (.int p0), .val (.int p1), .val (.int p2), .val (.int p3), .val (.int (((p0 &&& (2147483647 : Int32)) % (2147483647 : Int32)) + (1 : Int32))), .val (.int (((p1 &&& (2147483647 : Int32)) % (2147483647 : Int32)) + (1 : Int32))), .val (.long r_4), .second, .val (.int (p3 &&& (3 : Int32))), .val (.long (((p3 >>> ((2 : Int32) &&& 31)) &&& (3 : Int32)).toInt64)), .second, .val (.int (r_4.toInt32)), .val (.int (((p3.toUInt32 >>> ((16 : Int32) &&& 31).toUInt32).toInt32) &&& (255 : Int32))), .val (.ref x_5), .val (.double (FP.i2d (((p3.toUInt32 >>> ((24 : Int32) &&& 31).toUInt32).toInt32) &&& (255 : Int32)))), .second, .val (.ref a6), .val (.long ((((((p0 &&& (2147483647 : Int32)) % (2147483647 : Int32)) + (1 : Int32)).toInt64) + ((((p1 &&& (2147483647 : Int32)) % (2147483647 : Int32)) + (1 : Int32)).toInt64)) - (1 : Int64))), .second, .unset] [])) (fun _ k => XS.ifNo W11.here hx rfl (hb hby at_176) rfl ((if0 _ _).trans (flt hc16).2.2.1) k) ?_
      refine Go.st (g' := (mkF m 180 #[.val (.int p0), .val (.int p1), .val (.int p2), .val (.int p3), .val (.int (((p0 &&& (2147483647 : Int32)) % (2147483647 : Int32)) + (1 : Int32))), .val (.int (((p1 &&& (2147483647 : Int32)) % (2147483647 : Int32)) + (1 : Int32))), .val (.long r_4), .second, .val (.int (p3 &&& (3 : Int32))), .val (.long (((p3 >>> ((2 : Int32) &&& 31)) &&& (3 : Int32)).toInt64)), .second, .val (.int (r_4.toInt32)), .val (.int (((p3.toUInt32 >>> ((16 : Int32) &&& 31).toUInt32).toInt32) &&& (255 : Int32))), .val (.ref x_5), .val (.double (FP.i2d (((p3.toUInt32 >>> ((24 : Int32) &&& 31).toUInt32).toInt32) &&& (255 : Int32)))), .second, .val (.ref a6), .val (.long ((((((p0 &&& (2147483647 : Int32)) % (2147483647 : Int32)) + (1 : Int32)).toInt64) + ((((p1 &&& (2147483647 : Int32)) % (2147483647 : Int32)) + (1 : Int32)).toInt64)) - (1 : Int64))), .second, .unset] [(.int (1 : Int32))])) (fun _ k => XS.iconst W11.here hx rfl (hb hby at_179) k) ?_
      refine Go.st (g' := (mkF m 184 #[.val (.int p0), .val (.int p1), .val (.int p2), .val (.int p3), .val (.int (((p0 &&& (2147483647 : Int32)) % (2147483647 : Int32)) + (1 : Int32))), .val (.int (((p1 &&& (2147483647 : Int32)) % (2147483647 : Int32)) + (1 : Int32))), .val (.long r_4), .second, .val (.int (p3 &&& (3 : Int32))), .val (.long (((p3 >>> ((2 : Int32) &&& 31)) &&& (3 : Int32)).toInt64)), .second, .val (.int (r_4.toInt32)), .val (.int (((p3.toUInt32 >>> ((16 : Int32) &&& 31).toUInt32).toInt32) &&& (255 : Int32))), .val (.ref x_5), .val (.double (FP.i2d (((p3.toUInt32 >>> ((24 : Int32) &&& 31).toUInt32).toInt32) &&& (255 : Int32)))), .second, .val (.ref a6), .val (.long ((((((p0 &&& (2147483647 : Int32)) % (2147483647 : Int32)) + (1 : Int32)).toInt64) + ((((p1 &&& (2147483647 : Int32)) % (2147483647 : Int32)) + (1 : Int32)).toInt64)) - (1 : Int64))), .second, .unset] [(.int (1 : Int32))])) (fun _ k => XS.goto W11.here hx rfl (pc0 := 180) (pc' := 184) rfl (hb hby at_180) (by decide) (by decide) k) ?_
      refine Go.st (g' := (mkF m 186 #[.val (.int p0), .val (.int p1), .val (.int p2), .val (.int p3), .val (.int (((p0 &&& (2147483647 : Int32)) % (2147483647 : Int32)) + (1 : Int32))), .val (.int (((p1 &&& (2147483647 : Int32)) % (2147483647 : Int32)) + (1 : Int32))), .val (.long r_4), .second, .val (.int (p3 &&& (3 : Int32))), .val (.long (((p3 >>> ((2 : Int32) &&& 31)) &&& (3 : Int32)).toInt64)), .second, .val (.int (r_4.toInt32)), .val (.int (((p3.toUInt32 >>> ((16 : Int32) &&& 31).toUInt32).toInt32) &&& (255 : Int32))), .val (.ref x_5), .val (.double (FP.i2d (((p3.toUInt32 >>> ((24 : Int32) &&& 31).toUInt32).toInt32) &&& (255 : Int32)))), .second, .val (.ref a6), .val (.long ((((((p0 &&& (2147483647 : Int32)) % (2147483647 : Int32)) + (1 : Int32)).toInt64) + ((((p1 &&& (2147483647 : Int32)) % (2147483647 : Int32)) + (1 : Int32)).toInt64)) - (1 : Int64))), .second, .val (.int (1 : Int32))] [])) (fun _ k => XS.istore W11.here hx rfl (hb hby at_184) rfl (l' := #[.val (.int p0), .val (.int p1), .val (.int p2), .val (.int p3), .val (.int (((p0 &&& (2147483647 : Int32)) % (2147483647 : Int32)) + (1 : Int32))), .val (.int (((p1 &&& (2147483647 : Int32)) % (2147483647 : Int32)) + (1 : Int32))), .val (.long r_4), .second, .val (.int (p3 &&& (3 : Int32))), .val (.long (((p3 >>> ((2 : Int32) &&& 31)) &&& (3 : Int32)).toInt64)), .second, .val (.int (r_4.toInt32)), .val (.int (((p3.toUInt32 >>> ((16 : Int32) &&& 31).toUInt32).toInt32) &&& (255 : Int32))), .val (.ref x_5), .val (.double (FP.i2d (((p3.toUInt32 >>> ((24 : Int32) &&& 31).toUInt32).toInt32) &&& (255 : Int32)))), .second, .val (.ref a6), .val (.long ((((((p0 &&& (2147483647 : Int32)) % (2147483647 : Int32)) + (1 : Int32)).toInt64) + ((((p1 &&& (2147483647 : Int32)) % (2147483647 : Int32)) + (1 : Int32)).toInt64)) - (1 : Int64))), .second, .val (.int (1 : Int32))]) rfl k) ?_
      refine Go.st (g' := (mkF m 188 #[.val (.int p0), .val (.int p1), .val (.int p2), .val (.int p3), .val (.int (((p0 &&& (2147483647 : Int32)) % (2147483647 : Int32)) + (1 : Int32))), .val (.int (((p1 &&& (2147483647 : Int32)) % (2147483647 : Int32)) + (1 : Int32))), .val (.long r_4), .second, .val (.int (p3 &&& (3 : Int32))), .val (.long (((p3 >>> ((2 : Int32) &&& 31)) &&& (3 : Int32)).toInt64)), .second, .val (.int (r_4.toInt32)), .val (.int (((p3.toUInt32 >>> ((16 : Int32) &&& 31).toUInt32).toInt32) &&& (255 : Int32))), .val (.ref x_5), .val (.double (FP.i2d (((p3.toUInt32 >>> ((24 : Int32) &&& 31).toUInt32).toInt32) &&& (255 : Int32)))), .second, .val (.ref a6), .val (.long ((((((p0 &&& (2147483647 : Int32)) % (2147483647 : Int32)) + (1 : Int32)).toInt64) + ((((p1 &&& (2147483647 : Int32)) % (2147483647 : Int32)) + (1 : Int32)).toInt64)) - (1 : Int64))), .second, .val (.int (1 : Int32))] [(.ref a6)])) (fun _ k => XS.aload W11.here hx rfl (hb hby at_186) rfl rfl  k) ?_
      refine Go.st (g' := (mkF m 190 #[.val (.int p0), .val (.int p1), .val (.int p2), .val (.int p3), .val (.int (((p0 &&& (2147483647 : Int32)) % (2147483647 : Int32)) + (1 : Int32))), .val (.int (((p1 &&& (2147483647 : Int32)) % (2147483647 : Int32)) + (1 : Int32))), .val (.long r_4), .second, .val (.int (p3 &&& (3 : Int32))), .val (.long (((p3 >>> ((2 : Int32) &&& 31)) &&& (3 : Int32)).toInt64)), .second, .val (.int (r_4.toInt32)), .val (.int (((p3.toUInt32 >>> ((16 : Int32) &&& 31).toUInt32).toInt32) &&& (255 : Int32))), .val (.ref x_5), .val (.double (FP.i2d (((p3.toUInt32 >>> ((24 : Int32) &&& 31).toUInt32).toInt32) &&& (255 : Int32)))), .second, .val (.ref a6), .val (.long ((((((p0 &&& (2147483647 : Int32)) % (2147483647 : Int32)) + (1 : Int32)).toInt64) + ((((p1 &&& (2147483647 : Int32)) % (2147483647 : Int32)) + (1 : Int32)).toInt64)) - (1 : Int64))), .second, .val (.int (1 : Int32))] [(.int (r_4.toInt32)), (.ref a6)])) (fun _ k => XS.iload W11.here hx rfl (hb hby at_188) rfl  k) ?_
      have F19 : Exa Z h11 a6 "com/example/narrow_gap/narrowgap/Scenario$LoadEvent" := (X6.keep K11)
      obtain ⟨_, vm20, T20, h20, W20, Q20, z20, SF20, st20⟩ := W11.callV hx hEL (own_active l hE W11.old (x0 := a6) (t0 := (r_4.toInt32)) (f0 := (((p0 &&& (2147483647 : Int32)) % (2147483647 : Int32)) + (1 : Int32))) (r0 := (((p1 &&& (2147483647 : Int32)) % (2147483647 : Int32)) + (1 : Int32)))  f11_1 f11_2) (hw _ (List.mem_of_getElem? (i := 68) rfl)) (hw _ (List.mem_of_getElem? (i := 69) rfl)) (hw _ (List.mem_of_getElem? (i := 71) rfl)) (hw _ (List.mem_of_getElem? (i := 70) rfl)) (hw _ (List.mem_of_getElem? (i := 39) rfl)) (hw _ (List.mem_of_getElem? (i := 72) rfl)) (by decide) (Wd := 0) (by decide) (by decide) (by decide) (by decide) (g := (mkF m 190 #[.val (.int p0), .val (.int p1), .val (.int p2), .val (.int p3), .val (.int (((p0 &&& (2147483647 : Int32)) % (2147483647 : Int32)) + (1 : Int32))), .val (.int (((p1 &&& (2147483647 : Int32)) % (2147483647 : Int32)) + (1 : Int32))), .val (.long r_4), .second, .val (.int (p3 &&& (3 : Int32))), .val (.long (((p3 >>> ((2 : Int32) &&& 31)) &&& (3 : Int32)).toInt64)), .second, .val (.int (r_4.toInt32)), .val (.int (((p3.toUInt32 >>> ((16 : Int32) &&& 31).toUInt32).toInt32) &&& (255 : Int32))), .val (.ref x_5), .val (.double (FP.i2d (((p3.toUInt32 >>> ((24 : Int32) &&& 31).toUInt32).toInt32) &&& (255 : Int32)))), .second, .val (.ref a6), .val (.long ((((((p0 &&& (2147483647 : Int32)) % (2147483647 : Int32)) + (1 : Int32)).toInt64) + ((((p1 &&& (2147483647 : Int32)) % (2147483647 : Int32)) + (1 : Int32)).toInt64)) - (1 : Int64))), .second, .val (.int (1 : Int32))] [(.int (r_4.toInt32)), (.ref a6)])) rfl (by rw [hml]; rfl) (a := a6) F19 (argsL := [(.int (r_4.toInt32))]) (rest := []) rfl (lenOf pd__I_Z rfl) rfl (by show 2 * 0 + _ ≤ _; exact Nat.le_of_eq rfl) (hb hby at_190)
      obtain ⟨rfl, eh20⟩ := Q20
      subst eh20
      refine Go.tr (g' := (mkF m 193 #[.val (.int p0), .val (.int p1), .val (.int p2), .val (.int p3), .val (.int (((p0 &&& (2147483647 : Int32)) % (2147483647 : Int32)) + (1 : Int32))), .val (.int (((p1 &&& (2147483647 : Int32)) % (2147483647 : Int32)) + (1 : Int32))), .val (.long r_4), .second, .val (.int (p3 &&& (3 : Int32))), .val (.long (((p3 >>> ((2 : Int32) &&& 31)) &&& (3 : Int32)).toInt64)), .second, .val (.int (r_4.toInt32)), .val (.int (((p3.toUInt32 >>> ((16 : Int32) &&& 31).toUInt32).toInt32) &&& (255 : Int32))), .val (.ref x_5), .val (.double (FP.i2d (((p3.toUInt32 >>> ((24 : Int32) &&& 31).toUInt32).toInt32) &&& (255 : Int32)))), .second, .val (.ref a6), .val (.long ((((((p0 &&& (2147483647 : Int32)) % (2147483647 : Int32)) + (1 : Int32)).toInt64) + ((((p1 &&& (2147483647 : Int32)) % (2147483647 : Int32)) + (1 : Int32)).toInt64)) - (1 : Int64))), .second, .val (.int (1 : Int32))] [(.int (own_act (r_4.toInt32) (((p0 &&& (2147483647 : Int32)) % (2147483647 : Int32)) + (1 : Int32)) (((p1 &&& (2147483647 : Int32)) % (2147483647 : Int32)) + (1 : Int32))))])) st20 ?_
      refine Go.st (g' := (mkF m 195 #[.val (.int p0), .val (.int p1), .val (.int p2), .val (.int p3), .val (.int (((p0 &&& (2147483647 : Int32)) % (2147483647 : Int32)) + (1 : Int32))), .val (.int (((p1 &&& (2147483647 : Int32)) % (2147483647 : Int32)) + (1 : Int32))), .val (.long r_4), .second, .val (.int (p3 &&& (3 : Int32))), .val (.long (((p3 >>> ((2 : Int32) &&& 31)) &&& (3 : Int32)).toInt64)), .second, .val (.int (r_4.toInt32)), .val (.int (((p3.toUInt32 >>> ((16 : Int32) &&& 31).toUInt32).toInt32) &&& (255 : Int32))), .val (.ref x_5), .val (.double (FP.i2d (((p3.toUInt32 >>> ((24 : Int32) &&& 31).toUInt32).toInt32) &&& (255 : Int32)))), .second, .val (.ref a6), .val (.long ((((((p0 &&& (2147483647 : Int32)) % (2147483647 : Int32)) + (1 : Int32)).toInt64) + ((((p1 &&& (2147483647 : Int32)) % (2147483647 : Int32)) + (1 : Int32)).toInt64)) - (1 : Int64))), .second, .val (.int (1 : Int32))] [(.int (1 : Int32)), (.int (own_act (r_4.toInt32) (((p0 &&& (2147483647 : Int32)) % (2147483647 : Int32)) + (1 : Int32)) (((p1 &&& (2147483647 : Int32)) % (2147483647 : Int32)) + (1 : Int32))))])) (fun _ k => XS.iload W20.here hx rfl (hb hby at_193) rfl  k) ?_
      refine Go.st (g' := (mkF m 198 #[.val (.int p0), .val (.int p1), .val (.int p2), .val (.int p3), .val (.int (((p0 &&& (2147483647 : Int32)) % (2147483647 : Int32)) + (1 : Int32))), .val (.int (((p1 &&& (2147483647 : Int32)) % (2147483647 : Int32)) + (1 : Int32))), .val (.long r_4), .second, .val (.int (p3 &&& (3 : Int32))), .val (.long (((p3 >>> ((2 : Int32) &&& 31)) &&& (3 : Int32)).toInt64)), .second, .val (.int (r_4.toInt32)), .val (.int (((p3.toUInt32 >>> ((16 : Int32) &&& 31).toUInt32).toInt32) &&& (255 : Int32))), .val (.ref x_5), .val (.double (FP.i2d (((p3.toUInt32 >>> ((24 : Int32) &&& 31).toUInt32).toInt32) &&& (255 : Int32)))), .second, .val (.ref a6), .val (.long ((((((p0 &&& (2147483647 : Int32)) % (2147483647 : Int32)) + (1 : Int32)).toInt64) + ((((p1 &&& (2147483647 : Int32)) % (2147483647 : Int32)) + (1 : Int32)).toInt64)) - (1 : Int64))), .second, .val (.int (1 : Int32))] [])) (fun _ k => XS.icmpNo W20.here hx rfl (hb hby at_195) rfl (teq ((own_actL (own_pos _) (own_pos _)).2.2 (fun z => hc13 ((lw_lt _ _).mpr z)) (fun z => hc16 ((lw_gt _ _).mpr z)))).2 k) ?_
      refine Go.st (g' := (mkF m 199 #[.val (.int p0), .val (.int p1), .val (.int p2), .val (.int p3), .val (.int (((p0 &&& (2147483647 : Int32)) % (2147483647 : Int32)) + (1 : Int32))), .val (.int (((p1 &&& (2147483647 : Int32)) % (2147483647 : Int32)) + (1 : Int32))), .val (.long r_4), .second, .val (.int (p3 &&& (3 : Int32))), .val (.long (((p3 >>> ((2 : Int32) &&& 31)) &&& (3 : Int32)).toInt64)), .second, .val (.int (r_4.toInt32)), .val (.int (((p3.toUInt32 >>> ((16 : Int32) &&& 31).toUInt32).toInt32) &&& (255 : Int32))), .val (.ref x_5), .val (.double (FP.i2d (((p3.toUInt32 >>> ((24 : Int32) &&& 31).toUInt32).toInt32) &&& (255 : Int32)))), .second, .val (.ref a6), .val (.long ((((((p0 &&& (2147483647 : Int32)) % (2147483647 : Int32)) + (1 : Int32)).toInt64) + ((((p1 &&& (2147483647 : Int32)) % (2147483647 : Int32)) + (1 : Int32)).toInt64)) - (1 : Int64))), .second, .val (.int (1 : Int32))] [(.int (1 : Int32))])) (fun _ k => XS.iconst W20.here hx rfl (hb hby at_198) k) ?_
      refine Go.st (g' := (mkF m 203 #[.val (.int p0), .val (.int p1), .val (.int p2), .val (.int p3), .val (.int (((p0 &&& (2147483647 : Int32)) % (2147483647 : Int32)) + (1 : Int32))), .val (.int (((p1 &&& (2147483647 : Int32)) % (2147483647 : Int32)) + (1 : Int32))), .val (.long r_4), .second, .val (.int (p3 &&& (3 : Int32))), .val (.long (((p3 >>> ((2 : Int32) &&& 31)) &&& (3 : Int32)).toInt64)), .second, .val (.int (r_4.toInt32)), .val (.int (((p3.toUInt32 >>> ((16 : Int32) &&& 31).toUInt32).toInt32) &&& (255 : Int32))), .val (.ref x_5), .val (.double (FP.i2d (((p3.toUInt32 >>> ((24 : Int32) &&& 31).toUInt32).toInt32) &&& (255 : Int32)))), .second, .val (.ref a6), .val (.long ((((((p0 &&& (2147483647 : Int32)) % (2147483647 : Int32)) + (1 : Int32)).toInt64) + ((((p1 &&& (2147483647 : Int32)) % (2147483647 : Int32)) + (1 : Int32)).toInt64)) - (1 : Int64))), .second, .val (.int (1 : Int32))] [(.int (1 : Int32))])) (fun _ k => XS.goto W20.here hx rfl (pc0 := 199) (pc' := 203) rfl (hb hby at_199) (by decide) (by decide) k) ?_
      exact W20.retN hx hEL hlk (t := .boolean) hret (by decide) (hb hby at_203) (by decide) (by decide) rfl
theorem own_compact {s : State} {a : Array Value} (hsets : ∀ d ∈ jdkStatics_1, d.before a s = true) : ∃ zc : Int32, Sta s s.heap "java/lang/String" "COMPACT_STRINGS" "Z" (.int zc) ∧ ¬ zc = 0 := by
  have n3 := not_v (Cond.before_iff.mp (hsets _ (List.mem_of_getElem? (i := 2) rfl)))
  obtain ⟨i7, e6⟩ := is_v (Cond.before_iff.mp (hsets _ (List.mem_of_getElem? (i := 1) rfl)))
  exact ⟨i7, Sta.start e6 (Or.inl (hsets _ (List.mem_of_getElem? (i := 0) rfl))), gotF (Cond.eq_ints e6 (Term.int_eval (0))) n3⟩
theorem own_sioobe {s : State} {a : Array Value} (hsets : ∀ d ∈ jdkStatics_1, d.before a s = true) : ∃ fm : Value, Sta s s.heap "jdk/internal/util/Preconditions" "SIOOBE_FORMATTER" "Ljava/util/function/BiFunction;" fm ∧ fm.isRef = true := by
  obtain ⟨v9, e10, r11⟩ := isR_v (Cond.before_iff.mp (hsets _ (List.mem_of_getElem? (i := 8) rfl)))
  exact ⟨v9, Sta.start e10 (Or.inl (hsets _ (List.mem_of_getElem? (i := 7) rfl))), r11⟩
set_option maxRecDepth 65536 in
set_option maxHeartbeats 4000000 in
theorem comes_1 {Post : Tables → Env → Array Value → State → Outcome → State → Prop} (hpost : ∀ tb e args s v u, (limb_1_1.after args s (.returned v) u = true ∧ limb_1_2.after args s (.returned v) u = true ∧ True) → FramedW s (.returned v) u (Jvm.fieldLocs frame_1_writes args s ++ Jvm.arrayLocs frame_1_arrays args s ++ Jvm.staticLocs frame_1_statics s) 16 1152 → Post tb e args s (.returned v) u) :
    ArmFor flags0 classFile x code maxLocals ret World_1 tables_1 room_1 Calls_1 rest_1 Pre_1 Post := by
  intro l hfl _ _ p e ha hc hk s m args below hf hA hF happ hP
  obtain ⟨hcalls, hrest, hpre⟩ := hP
  obtain ⟨-, -, -, hnamed, -, -, -, hat⟩ := (Spec.applies_iff hf).mp happ
  obtain ⟨hg, hn⟩ := and_e (Cond.before_iff.mp (show (Jvm.Cond.and given_1 narrow_1).before args s = true from hpre))
  obtain ⟨h1, h2⟩ := and_e hg
  obtain ⟨w0, w1, w2, w3, rfl⟩ : ∃ w0 w1 w2 w3 : Value, args = #[w0, w1, w2, w3] := by
    have hs : args.size = 4 := by simpa [Cond.value, given_1] using h1
    obtain ⟨L⟩ := args
    match L, hs with
    | [w0, w1, w2, w3], _ => exact ⟨w0, w1, w2, w3, rfl⟩
  have hw := fun d (hd : d ∈ tables_1) => atoms_spec (ws := Jvm.Cond.code x code maxLocals ret :: tables_1) hat d (List.mem_cons_of_mem _ hd)
  obtain ⟨hsets, hown0⟩ := atoms_of _ (rest_1_c_eq ▸ (show rest_1_c.before _ s = true from hrest))
  obtain ⟨q0, h2⟩ := and_e h2
  obtain ⟨i0, e0⟩ := is_v q0
  obtain rfl : w0 = (.int i0) := Option.some.inj e0
  obtain ⟨q1, h2⟩ := and_e h2
  obtain ⟨i1, e1⟩ := is_v q1
  obtain rfl : w1 = (.int i1) := Option.some.inj e1
  obtain ⟨q2, h2⟩ := and_e h2
  obtain ⟨i2, e2⟩ := is_v q2
  obtain rfl : w2 = (.int i2) := Option.some.inj e2
  have q3 := h2
  obtain ⟨i3, e3⟩ := is_v q3
  obtain rfl : w3 = (.int i3) := Option.some.inj e3
  have hE : Ctx s #[(.int i0), (.int i1), (.int i2), (.int i3)] := ⟨hw, own_compact hsets, trivial⟩
  have hCH : CHv s consts_1 s.vm s.heap := fun _ q => nomatch q
  obtain ⟨n, o, h1, h2, h3, _, L, rfl, ⟨rfl, N, -⟩, -, hq⟩ := own_law l hE (Old.start s)  p e ha hc hk s m _ below hf ((Spec.applies_iff_loose hf).mp happ).1 ⟨rfl, State.Warmed39.refl s, rfl, hCH⟩ trivial
  refine ⟨n, _, h1, h2, h3, hpost _ _ _ _ _ _ ⟨Cond.after_iff.mpr rfl, Cond.after_iff.mpr (eq_i res_at (Term.int_eval (1)) rfl), trivial⟩ ⟨hq.1, hq.2.1, hq.2.2.1, (hq.2.2.2.sift fun y hy => Or.inr (N y hy)).mono (by decide) (by decide)⟩⟩
theorem main_1_1 : Claimed_1_1 := comes_1 fun _ _ _ _ _ _ h hF => ⟨h.1, hF⟩
theorem main_1_2 : Claimed_1_2 := comes_1 fun _ _ _ _ _ _ h hF => ⟨h.2.1, hF⟩
end Jvm.Pilot.@@N@@
namespace Jvm.Pilot.@@N@@
open Jvm Jvm.ClassFile Sem Op Lib Jvm.Free Jvm.Stand Jvm.Pilot.@@N@@.Jvm.D
/-! MADE BY PROGRAM (witnessworld.py) out of the Statement's table words and the real class files: 21 classes; the members and pool entries that the words name. The judged class is class 1, her method 1. -/
namespace start1
open Jvm.ClassFile
def u (s : String) : CpInfo := .utf8 (stringToUtf16 s)
/-- a pool by its gaps: so many unusable entries, then the entry; so many at the end -/
def gap : Nat → List CpInfo → List CpInfo
  | 0, r => r
  | n + 1, r => .unusable :: gap n r
def poolList (es : List (Nat × CpInfo)) (last : Nat) : List CpInfo := es.foldr (fun e r => gap e.1 (e.2 :: r)) (gap last [])
def pool (es : List (Nat × CpInfo)) (last : Nat) : Array CpInfo := ⟨poolList es last⟩
def fileOf (pool : Array CpInfo) (this : Nat) (attrs : Array Attribute := #[]) (ms : Array MethodInfo := #[]) (fl : Nat := 33) (sup : Nat := 0) (ifs : Array Nat := #[]) (fds : Array FieldInfo := #[]) : ClassFile where
  minorVersion := 0
  majorVersion := 65
  constantPool := pool
  accessFlags := fl
  thisClass := this
  superClass := sup
  interfaces := ifs
  fields := fds
  methods := ms
  attributes := attrs
def plain (name : String) (sup : Option ClassId) : Class where
  name := name
  kind := .ordinary
  loader := none
  accessFlags := 33
  super := sup
  interfaces := #[]
  cf := none
  fields := #[]
  methods := #[]
  instanceTypes := #[]
  staticTypes := #[]
  resolved := #[]
  callSites := []
  init := .initialized
  statics := none
  mirror := none

def pool0 : Array CpInfo := pool [(5, u "<init>"), (0, u "()V"), (1, .class_ 10), (1, u "java/lang/Object")] 113

def k0c0 : Code := { maxStack := 0, maxLocals := 1, code := object_method_1_code, exceptionTable := #[], attributes := #[] }
def k0m0 : Method := { name := "<init>", desc := "()V", sig := { parameters := [], returnType := none }, accessFlags := 1, code := some k0c0 }
/-- java/lang/Object -/
def k0 : Class := { plain "java/lang/Object" none with
  accessFlags := 33
  interfaces := #[]
  cf := some (fileOf pool0 8 #[] #[{ accessFlags := 1, nameIndex := 5, descriptorIndex := 6, attributes := #[] }] 33 0 #[] #[])
  fields := #[]
  methods := #[k0m0]
  instanceTypes := #[]
  staticTypes := #[]
  resolved := Array.replicate 124 none
  statics := none }

def pool1 : Array CpInfo := pool [(2, .class_ 4), (1, u "java/lang/Object"), (0, u "<init>"), (0, u "()V"), (0, .integer 2147483647), (0, .long 2), (3, .long 18446744071562067968), (1, .long 2147483647), (1, .methodref 17 18), (0, .class_ 19), (0, .nameAndType 20 21), (0, u "java/lang/Math"), (0, u "min"), (0, u "(JJ)J"), (0, .methodref 17 23), (0, .nameAndType 24 21), (0, u "max"), (0, .methodref 26 27), (0, .class_ 28), (0, .nameAndType 29 30), (0, u "java/lang/String"), (0, u "valueOf"), (0, u "(C)Ljava/lang/String;"), (0, .class_ 32), (0, u "com/example/narrow_gap/narrowgap/Scenario$LoadEvent"), (0, .methodref 31 34), (0, .nameAndType 5 35), (0, u "(Ljava/lang/String;IID)V"), (0, .methodref 31 37), (0, .nameAndType 38 39), (0, u "isActiveIn"), (0, u "(I)Z"), (0, .class_ 41), (0, u "com/example/narrow_gap/narrowgap/LoadEventIsActiveInPinLaw"), (2, u "law"), (0, u "(IIII)Z")] 7

def k1m0 : Method := { name := "<init>", desc := "()V", sig := { parameters := [], returnType := none }, accessFlags := 1, code := none }
def k1c1 : Code := { maxStack := 7, maxLocals := 20, code := code, exceptionTable := #[], attributes := #[] }
def k1m1 : Method := { name := "law", desc := "(IIII)Z", sig := { parameters := [.int, .int, .int, .int], returnType := some .boolean }, accessFlags := 9, code := some k1c1 }
/-- com/example/narrow_gap/narrowgap/LoadEventIsActiveInPinLaw -/
def k1 : Class := { plain "com/example/narrow_gap/narrowgap/LoadEventIsActiveInPinLaw" (some 0) with
  accessFlags := 49
  interfaces := #[]
  cf := some (fileOf pool1 40 #[] #[{ accessFlags := 1, nameIndex := 5, descriptorIndex := 6, attributes := #[] }, { accessFlags := 9, nameIndex := 44, descriptorIndex := 45, attributes := #[] }] 49 2 #[] #[])
  fields := #[]
  methods := #[k1m0, k1m1]
  instanceTypes := #[]
  staticTypes := #[]
  resolved := Array.replicate 53 none
  statics := none }

def pool2 : Array CpInfo := pool [(1, .class_ 2), (0, u "java/lang/Math"), (1, .class_ 6), (1, u "java/lang/Object"), (0, u "<init>"), (0, u "()V"), (5, u "(D)D"), (83, .class_ 100), (1, u "java/lang/Math$RandomNumberGeneratorHolder"), (20, u "(JJ)J"), (2, u "abs"), (47, u "negativeZeroFloatBits"), (0, u "J"), (2, u "negativeZeroDoubleBits"), (21, u "max"), (2, u "min"), (43, u "$assertionsDisabled"), (0, u "Z"), (91, u "twoToTheDoubleScaleDown"), (0, u "D"), (4, u "twoToTheDoubleScaleUp"), (9, u "E"), (3, u "PI"), (2, u "TAU"), (2, u "DEGREES_TO_RADIANS"), (0, u "RADIANS_TO_DEGREES")] 94

def k2m0 : Method := { name := "<init>", desc := "()V", sig := { parameters := [], returnType := none }, accessFlags := 2, code := none }
def k2c1 : Code := { maxStack := 4, maxLocals := 2, code := jdk_29_method_64_code, exceptionTable := #[], attributes := #[] }
def k2m1 : Method := { name := "abs", desc := "(D)D", sig := { parameters := [.double], returnType := some .double }, accessFlags := 9, code := some k2c1 }
def k2c2 : Code := { maxStack := 4, maxLocals := 4, code := jdk_29_method_66_code, exceptionTable := #[], attributes := #[] }
def k2m2 : Method := { name := "max", desc := "(JJ)J", sig := { parameters := [.long, .long], returnType := some .long }, accessFlags := 9, code := some k2c2 }
def k2c3 : Code := { maxStack := 4, maxLocals := 4, code := jdk_29_method_70_code, exceptionTable := #[], attributes := #[] }
def k2m3 : Method := { name := "min", desc := "(JJ)J", sig := { parameters := [.long, .long], returnType := some .long }, accessFlags := 9, code := some k2c3 }
/-- java/lang/Math -/
def k2 : Class := { plain "java/lang/Math" (some 0) with
  accessFlags := 49
  interfaces := #[]
  cf := some (fileOf pool2 1 #[.nestMembers #[98]] #[{ accessFlags := 2, nameIndex := 7, descriptorIndex := 8, attributes := #[] }, { accessFlags := 9, nameIndex := 124, descriptorIndex := 14, attributes := #[] }, { accessFlags := 9, nameIndex := 198, descriptorIndex := 121, attributes := #[] }, { accessFlags := 9, nameIndex := 201, descriptorIndex := 121, attributes := #[] }] 49 4 #[] #[{ accessFlags := 25, nameIndex := 354, descriptorIndex := 339, attributes := #[] }, { accessFlags := 25, nameIndex := 358, descriptorIndex := 339, attributes := #[] }, { accessFlags := 25, nameIndex := 361, descriptorIndex := 339, attributes := #[] }, { accessFlags := 26, nameIndex := 364, descriptorIndex := 339, attributes := #[] }, { accessFlags := 26, nameIndex := 365, descriptorIndex := 339, attributes := #[] }, { accessFlags := 26, nameIndex := 172, descriptorIndex := 173, attributes := #[] }, { accessFlags := 26, nameIndex := 176, descriptorIndex := 173, attributes := #[] }, { accessFlags := 8, nameIndex := 344, descriptorIndex := 339, attributes := #[] }, { accessFlags := 8, nameIndex := 338, descriptorIndex := 339, attributes := #[] }, { accessFlags := 4120, nameIndex := 245, descriptorIndex := 246, attributes := #[] }])
  fields := #[{ name := "E", type := .double, accessFlags := 25, slot := 0, constantValue := 0 }, { name := "PI", type := .double, accessFlags := 25, slot := 1, constantValue := 0 }, { name := "TAU", type := .double, accessFlags := 25, slot := 2, constantValue := 0 }, { name := "DEGREES_TO_RADIANS", type := .double, accessFlags := 26, slot := 3, constantValue := 0 }, { name := "RADIANS_TO_DEGREES", type := .double, accessFlags := 26, slot := 4, constantValue := 0 }, { name := "negativeZeroFloatBits", type := .long, accessFlags := 26, slot := 5, constantValue := 0 }, { name := "negativeZeroDoubleBits", type := .long, accessFlags := 26, slot := 6, constantValue := 0 }, { name := "twoToTheDoubleScaleUp", type := .double, accessFlags := 8, slot := 7, constantValue := 0 }, { name := "twoToTheDoubleScaleDown", type := .double, accessFlags := 8, slot := 8, constantValue := 0 }, { name := "$assertionsDisabled", type := .boolean, accessFlags := 4120, slot := 9, constantValue := 0 }]
  methods := #[k2m0, k2m1, k2m2, k2m3]
  instanceTypes := #[]
  staticTypes := #[.double, .double, .double, .double, .double, .long, .long, .double, .double, .boolean]
  resolved := Array.replicate 460 none
  statics := none }

def pool3 : Array CpInfo := pool [(1, .class_ 2), (0, u "java/io/Serializable"), (0, .class_ 4), (0, u "java/lang/Object")] 2

/-- java/io/Serializable -/
def k3 : Class := { plain "java/io/Serializable" (some 0) with
  accessFlags := 1537
  interfaces := #[]
  cf := some (fileOf pool3 1 #[] #[] 1537 3 #[] #[])
  fields := #[]
  methods := #[]
  instanceTypes := #[]
  staticTypes := #[]
  resolved := Array.replicate 7 none
  statics := none }

def pool4 : Array CpInfo := pool [(1, .class_ 2), (0, u "java/lang/Comparable"), (0, .class_ 4), (0, u "java/lang/Object")] 7

/-- java/lang/Comparable -/
def k4 : Class := { plain "java/lang/Comparable" (some 0) with
  accessFlags := 1537
  interfaces := #[]
  cf := some (fileOf pool4 1 #[] #[] 1537 3 #[] #[])
  fields := #[]
  methods := #[]
  instanceTypes := #[]
  staticTypes := #[]
  resolved := Array.replicate 12 none
  statics := none }

def pool5 : Array CpInfo := pool [(2, .class_ 4), (1, u "java/lang/CharSequence"), (42, .class_ 48), (0, u "java/lang/CharSequence$1CodePointIterator"), (10, .class_ 60), (0, u "java/lang/CharSequence$1CharIterator"), (5, .class_ 67), (0, u "java/lang/Object")] 63

/-- java/lang/CharSequence -/
def k5 : Class := { plain "java/lang/CharSequence" (some 0) with
  accessFlags := 1537
  interfaces := #[]
  cf := some (fileOf pool5 2 #[.nestMembers #[47, 59]] #[] 1537 66 #[] #[])
  fields := #[]
  methods := #[]
  instanceTypes := #[]
  staticTypes := #[]
  resolved := Array.replicate 131 none
  statics := none }

def pool6 : Array CpInfo := pool [(1, .class_ 2), (0, u "java/lang/constant/Constable"), (0, .class_ 4), (0, u "java/lang/Object")] 6

/-- java/lang/constant/Constable -/
def k6 : Class := { plain "java/lang/constant/Constable" (some 0) with
  accessFlags := 1537
  interfaces := #[]
  cf := some (fileOf pool6 1 #[] #[] 1537 3 #[] #[])
  fields := #[]
  methods := #[]
  instanceTypes := #[]
  staticTypes := #[]
  resolved := Array.replicate 11 none
  statics := none }

def pool7 : Array CpInfo := pool [(1, .class_ 2), (0, u "java/lang/constant/ConstantDesc"), (0, .class_ 4), (0, u "java/lang/Object")] 32

/-- java/lang/constant/ConstantDesc -/
def k7 : Class := { plain "java/lang/constant/ConstantDesc" (some 0) with
  accessFlags := 1537
  interfaces := #[]
  cf := some (fileOf pool7 1 #[] #[] 1537 3 #[] #[])
  fields := #[]
  methods := #[]
  instanceTypes := #[]
  staticTypes := #[]
  resolved := Array.replicate 37 none
  statics := none }

def pool8 : Array CpInfo := pool [(1, .methodref 2 3), (0, .class_ 4), (0, .nameAndType 5 6), (0, u "java/lang/Object"), (0, u "<init>"), (0, u "()V"), (2, .fieldref 10 11), (0, .class_ 12), (0, .nameAndType 13 14), (0, u "java/lang/String"), (0, u "value"), (0, u "[B"), (0, .fieldref 10 16), (0, .nameAndType 17 18), (0, u "coder"), (0, u "B"), (2, u "hash"), (0, u "I"), (2, u "hashIsZero"), (0, u "Z"), (11, .fieldref 10 39), (0, .nameAndType 40 26), (0, u "COMPACT_STRINGS"), (12, u "toBytes"), (53, .class_ 109), (1, u "java/lang/StringLatin1"), (99, .methodref 10 210), (0, .nameAndType 5 211), (0, u "([BB)V"), (157, u "(C)Z"), (205, .class_ 576), (0, u "java/lang/CharSequence"), (22, u "CASE_INSENSITIVE_ORDER"), (0, u "Ljava/util/Comparator;"), (181, u "valueOf"), (0, u "(C)Ljava/lang/String;"), (231, .methodref 107 1016), (0, .nameAndType 1017 369), (0, u "canEncode"), (0, .methodref 107 1019), (0, .nameAndType 53 1020), (0, u "(C)[B"), (80, u "serialPersistentFields"), (0, u "[Ljava/io/ObjectStreamField;"), (0, .class_ 1104), (0, u "java/lang/String$CaseInsensitiveComparator"), (1, .class_ 1107), (0, u "java/io/Serializable"), (0, .class_ 1109), (0, u "java/lang/Comparable"), (0, .class_ 1111), (0, u "java/lang/constant/Constable"), (0, .class_ 1113), (0, u "java/lang/constant/ConstantDesc"), (2, u "serialVersionUID"), (0, u "J"), (3, u "REPL"), (0, u "C"), (2, u "LATIN1"), (1, u "UTF16")] 323

def k8m0 : Method := { name := "<init>", desc := "()V", sig := { parameters := [], returnType := none }, accessFlags := 1, code := none }
def k8c1 : Code := { maxStack := 4, maxLocals := 1, code := jdk_42_method_139_code, exceptionTable := #[], attributes := #[] }
def k8m1 : Method := { name := "valueOf", desc := "(C)Ljava/lang/String;", sig := { parameters := [.char], returnType := some (.object "java/lang/String") }, accessFlags := 9, code := some k8c1 }
def k8c2 : Code := { maxStack := 2, maxLocals := 3, code := jdk_42_method_151_code, exceptionTable := #[], attributes := #[] }
def k8m2 : Method := { name := "<init>", desc := "([BB)V", sig := { parameters := [(.array .byte), .byte], returnType := none }, accessFlags := 0, code := some k8c2 }
/-- java/lang/String -/
def k8 : Class := { plain "java/lang/String" (some 0) with
  accessFlags := 49
  interfaces := #[3, 4, 5, 6, 7]
  cf := some (fileOf pool8 10 #[.nestMembers #[1103]] #[{ accessFlags := 1, nameIndex := 5, descriptorIndex := 6, attributes := #[] }, { accessFlags := 9, nameIndex := 782, descriptorIndex := 783, attributes := #[] }, { accessFlags := 0, nameIndex := 5, descriptorIndex := 211, attributes := #[] }] 49 2 #[1106, 1108, 575, 1110, 1112] #[{ accessFlags := 18, nameIndex := 13, descriptorIndex := 14, attributes := #[] }, { accessFlags := 18, nameIndex := 17, descriptorIndex := 18, attributes := #[] }, { accessFlags := 2, nameIndex := 21, descriptorIndex := 22, attributes := #[] }, { accessFlags := 2, nameIndex := 25, descriptorIndex := 26, attributes := #[] }, { accessFlags := 26, nameIndex := 1116, descriptorIndex := 1117, attributes := #[] }, { accessFlags := 24, nameIndex := 40, descriptorIndex := 26, attributes := #[] }, { accessFlags := 26, nameIndex := 1101, descriptorIndex := 1102, attributes := #[] }, { accessFlags := 26, nameIndex := 1121, descriptorIndex := 1122, attributes := #[] }, { accessFlags := 25, nameIndex := 599, descriptorIndex := 600, attributes := #[] }, { accessFlags := 24, nameIndex := 1125, descriptorIndex := 18, attributes := #[] }, { accessFlags := 24, nameIndex := 1127, descriptorIndex := 18, attributes := #[] }])
  fields := #[{ name := "value", type := (.array .byte), accessFlags := 18, slot := 0, constantValue := 0 }, { name := "coder", type := .byte, accessFlags := 18, slot := 1, constantValue := 0 }, { name := "hash", type := .int, accessFlags := 2, slot := 2, constantValue := 0 }, { name := "hashIsZero", type := .boolean, accessFlags := 2, slot := 3, constantValue := 0 }, { name := "serialVersionUID", type := .long, accessFlags := 26, slot := 0, constantValue := 0 }, { name := "COMPACT_STRINGS", type := .boolean, accessFlags := 24, slot := 1, constantValue := 0 }, { name := "serialPersistentFields", type := (.array (.object "java/io/ObjectStreamField")), accessFlags := 26, slot := 2, constantValue := 0 }, { name := "REPL", type := .char, accessFlags := 26, slot := 3, constantValue := 0 }, { name := "CASE_INSENSITIVE_ORDER", type := (.object "java/util/Comparator"), accessFlags := 25, slot := 4, constantValue := 0 }, { name := "LATIN1", type := .byte, accessFlags := 24, slot := 5, constantValue := 0 }, { name := "UTF16", type := .byte, accessFlags := 24, slot := 6, constantValue := 0 }]
  methods := #[k8m0, k8m1, k8m2]
  instanceTypes := #[(.array .byte), .byte, .int, .boolean]
  staticTypes := #[.long, .boolean, (.array (.object "java/io/ObjectStreamField")), .char, (.object "java/util/Comparator"), .byte, .byte]
  resolved := Array.replicate 1451 none
  statics := some 0 }

def pool9 : Array CpInfo := pool [(4, .class_ 6), (1, u "java/lang/Object"), (0, u "<init>"), (0, u "()V"), (5, .class_ 16), (1, u "java/lang/StringLatin1"), (73, u "canEncode"), (14, u "(C)Z"), (15, u "$assertionsDisabled"), (0, u "Z"), (98, .class_ 223), (1, u "java/lang/StringLatin1$LinesSpliterator"), (156, u "toBytes"), (1, u "(C)[B"), (7, .class_ 391), (0, u "java/lang/StringLatin1$CharsSpliterator")] 3

def k9m0 : Method := { name := "<init>", desc := "()V", sig := { parameters := [], returnType := none }, accessFlags := 0, code := none }
def k9c1 : Code := { maxStack := 2, maxLocals := 1, code := jdk_43_method_3_code, exceptionTable := #[], attributes := #[] }
def k9m1 : Method := { name := "canEncode", desc := "(C)Z", sig := { parameters := [.char], returnType := some .boolean }, accessFlags := 9, code := some k9c1 }
def k9c2 : Code := { maxStack := 4, maxLocals := 1, code := jdk_43_method_46_code, exceptionTable := #[], attributes := #[] }
def k9m2 : Method := { name := "toBytes", desc := "(C)[B", sig := { parameters := [.char], returnType := some (.array .byte) }, accessFlags := 9, code := some k9c2 }
/-- java/lang/StringLatin1 -/
def k9 : Class := { plain "java/lang/StringLatin1" (some 0) with
  accessFlags := 48
  interfaces := #[]
  cf := some (fileOf pool9 14 #[.nestMembers #[390, 221]] #[{ accessFlags := 0, nameIndex := 7, descriptorIndex := 8, attributes := #[] }, { accessFlags := 9, nameIndex := 90, descriptorIndex := 105, attributes := #[] }, { accessFlags := 9, nameIndex := 380, descriptorIndex := 382, attributes := #[] }] 48 4 #[] #[{ accessFlags := 4120, nameIndex := 121, descriptorIndex := 122, attributes := #[] }])
  fields := #[{ name := "$assertionsDisabled", type := .boolean, accessFlags := 4120, slot := 0, constantValue := 0 }]
  methods := #[k9m0, k9m1, k9m2]
  instanceTypes := #[]
  staticTypes := #[.boolean]
  resolved := Array.replicate 395 none
  statics := none }

def pool10 : Array CpInfo := pool [(1, .methodref 2 3), (0, .class_ 4), (0, .nameAndType 5 6), (0, u "java/lang/Object"), (0, u "<init>"), (0, u "()V"), (10, .methodref 18 19), (0, .class_ 20), (0, .nameAndType 21 22), (0, u "java/lang/Double"), (0, u "isInfinite"), (0, u "(D)Z"), (3, .string 27), (0, u "broker"), (0, .methodref 29 30), (0, .class_ 31), (0, .nameAndType 32 33), (0, u "java/util/Objects"), (0, u "requireNonNull"), (0, u "(Ljava/lang/Object;Ljava/lang/String;)Ljava/lang/Object;"), (0, .class_ 35), (0, u "java/lang/String"), (0, .fieldref 37 38), (0, .class_ 39), (0, .nameAndType 27 40), (0, u "com/example/narrow_gap/narrowgap/Scenario$LoadEvent"), (0, u "Ljava/lang/String;"), (0, .fieldref 37 42), (0, .nameAndType 43 44), (0, u "fromRound"), (0, u "I"), (0, .fieldref 37 46), (0, .nameAndType 47 44), (0, u "rounds"), (0, .fieldref 37 49), (0, .nameAndType 50 51), (0, u "extraCpu"), (0, u "D"), (0, u "(Ljava/lang/String;IID)V"), (7, u "isActiveIn"), (0, u "(I)Z"), (3, .class_ 66), (0, u "com/example/narrow_gap/narrowgap/Scenario")] 20

def k10c0 : Code := { maxStack := 4, maxLocals := 6, code := prog_14_method_1_code, exceptionTable := #[], attributes := #[] }
def k10m0 : Method := { name := "<init>", desc := "(Ljava/lang/String;IID)V", sig := { parameters := [(.object "java/lang/String"), .int, .int, .double], returnType := none }, accessFlags := 0, code := some k10c0 }
def k10c1 : Code := { maxStack := 2, maxLocals := 2, code := prog_14_method_4_code, exceptionTable := #[], attributes := #[] }
def k10m1 : Method := { name := "isActiveIn", desc := "(I)Z", sig := { parameters := [.int], returnType := some .boolean }, accessFlags := 0, code := some k10c1 }
/-- com/example/narrow_gap/narrowgap/Scenario$LoadEvent -/
def k10 : Class := { plain "com/example/narrow_gap/narrowgap/Scenario$LoadEvent" (some 0) with
  accessFlags := 48
  interfaces := #[]
  cf := some (fileOf pool10 37 #[.nestHost 65] #[{ accessFlags := 0, nameIndex := 5, descriptorIndex := 52, attributes := #[] }, { accessFlags := 0, nameIndex := 60, descriptorIndex := 61, attributes := #[] }] 48 2 #[] #[{ accessFlags := 18, nameIndex := 27, descriptorIndex := 40, attributes := #[] }, { accessFlags := 18, nameIndex := 43, descriptorIndex := 44, attributes := #[] }, { accessFlags := 18, nameIndex := 47, descriptorIndex := 44, attributes := #[] }, { accessFlags := 18, nameIndex := 50, descriptorIndex := 51, attributes := #[] }])
  fields := #[{ name := "broker", type := (.object "java/lang/String"), accessFlags := 18, slot := 0, constantValue := 0 }, { name := "fromRound", type := .int, accessFlags := 18, slot := 1, constantValue := 0 }, { name := "rounds", type := .int, accessFlags := 18, slot := 2, constantValue := 0 }, { name := "extraCpu", type := .double, accessFlags := 18, slot := 3, constantValue := 0 }]
  methods := #[k10m0, k10m1]
  instanceTypes := #[(.object "java/lang/String"), .int, .int, .double]
  staticTypes := #[]
  resolved := Array.replicate 87 none
  statics := none }

def pool11 : Array CpInfo := pool [(2, .class_ 4), (1, u "java/lang/Object"), (0, u "<init>"), (0, u "()V"), (1, .class_ 10), (1, u "java/lang/Number"), (2, .class_ 14), (0, u "java/io/Serializable"), (0, u "serialVersionUID"), (0, u "J")] 20

def k11m0 : Method := { name := "<init>", desc := "()V", sig := { parameters := [], returnType := none }, accessFlags := 1, code := none }
/-- java/lang/Number -/
def k11 : Class := { plain "java/lang/Number" (some 0) with
  accessFlags := 1057
  interfaces := #[3]
  cf := some (fileOf pool11 8 #[] #[{ accessFlags := 1, nameIndex := 5, descriptorIndex := 6, attributes := #[] }] 1057 2 #[13] #[{ accessFlags := 26, nameIndex := 15, descriptorIndex := 16, attributes := #[] }])
  fields := #[{ name := "serialVersionUID", type := .long, accessFlags := 26, slot := 0, constantValue := 0 }]
  methods := #[k11m0]
  instanceTypes := #[]
  staticTypes := #[.long]
  resolved := Array.replicate 37 none
  statics := none }

def pool12 : Array CpInfo := pool [(1, .class_ 2), (0, u "java/lang/Double"), (11, u "(D)Z"), (8, .class_ 25), (1, u "java/lang/Math"), (12, .methodref 23 39), (0, .nameAndType 40 41), (0, u "abs"), (0, u "(D)D"), (69, .double 9218868437227405311), (2, .class_ 116), (1, u "java/lang/Number"), (3, u "value"), (0, u "D"), (5, u "isInfinite"), (45, u "TYPE"), (0, u "Ljava/lang/Class;"), (0, .class_ 176), (0, u "java/lang/Comparable"), (0, .class_ 178), (0, u "java/lang/constant/Constable"), (0, .class_ 180), (0, u "java/lang/constant/ConstantDesc"), (0, u "POSITIVE_INFINITY"), (3, u "NEGATIVE_INFINITY"), (2, u "NaN"), (2, u "MAX_VALUE"), (0, u "MIN_NORMAL"), (0, u "MIN_VALUE"), (2, u "SIZE"), (0, u "I"), (1, u "PRECISION"), (1, u "MAX_EXPONENT"), (1, u "MIN_EXPONENT"), (1, u "BYTES"), (3, u "serialVersionUID"), (0, u "J")] 79

def k12c0 : Code := { maxStack := 4, maxLocals := 2, code := jdk_117_method_7_code, exceptionTable := #[], attributes := #[] }
def k12m0 : Method := { name := "isInfinite", desc := "(D)Z", sig := { parameters := [.double], returnType := some .boolean }, accessFlags := 9, code := some k12c0 }
/-- java/lang/Double -/
def k12 : Class := { plain "java/lang/Double" (some 11) with
  accessFlags := 49
  interfaces := #[4, 6, 7]
  cf := some (fileOf pool12 1 #[] #[{ accessFlags := 9, nameIndex := 127, descriptorIndex := 14, attributes := #[] }] 49 114 #[175, 177, 179] #[{ accessFlags := 25, nameIndex := 181, descriptorIndex := 121, attributes := #[] }, { accessFlags := 25, nameIndex := 185, descriptorIndex := 121, attributes := #[] }, { accessFlags := 25, nameIndex := 188, descriptorIndex := 121, attributes := #[] }, { accessFlags := 25, nameIndex := 191, descriptorIndex := 121, attributes := #[] }, { accessFlags := 25, nameIndex := 192, descriptorIndex := 121, attributes := #[] }, { accessFlags := 25, nameIndex := 193, descriptorIndex := 121, attributes := #[] }, { accessFlags := 25, nameIndex := 196, descriptorIndex := 197, attributes := #[] }, { accessFlags := 25, nameIndex := 199, descriptorIndex := 197, attributes := #[] }, { accessFlags := 25, nameIndex := 201, descriptorIndex := 197, attributes := #[] }, { accessFlags := 25, nameIndex := 203, descriptorIndex := 197, attributes := #[] }, { accessFlags := 25, nameIndex := 205, descriptorIndex := 197, attributes := #[] }, { accessFlags := 25, nameIndex := 173, descriptorIndex := 174, attributes := #[] }, { accessFlags := 18, nameIndex := 120, descriptorIndex := 121, attributes := #[] }, { accessFlags := 26, nameIndex := 209, descriptorIndex := 210, attributes := #[] }])
  fields := #[{ name := "POSITIVE_INFINITY", type := .double, accessFlags := 25, slot := 0, constantValue := 0 }, { name := "NEGATIVE_INFINITY", type := .double, accessFlags := 25, slot := 1, constantValue := 0 }, { name := "NaN", type := .double, accessFlags := 25, slot := 2, constantValue := 0 }, { name := "MAX_VALUE", type := .double, accessFlags := 25, slot := 3, constantValue := 0 }, { name := "MIN_NORMAL", type := .double, accessFlags := 25, slot := 4, constantValue := 0 }, { name := "MIN_VALUE", type := .double, accessFlags := 25, slot := 5, constantValue := 0 }, { name := "SIZE", type := .int, accessFlags := 25, slot := 6, constantValue := 0 }, { name := "PRECISION", type := .int, accessFlags := 25, slot := 7, constantValue := 0 }, { name := "MAX_EXPONENT", type := .int, accessFlags := 25, slot := 8, constantValue := 0 }, { name := "MIN_EXPONENT", type := .int, accessFlags := 25, slot := 9, constantValue := 0 }, { name := "BYTES", type := .int, accessFlags := 25, slot := 10, constantValue := 0 }, { name := "TYPE", type := (.object "java/lang/Class"), accessFlags := 25, slot := 11, constantValue := 0 }, { name := "value", type := .double, accessFlags := 18, slot := 0, constantValue := 0 }, { name := "serialVersionUID", type := .long, accessFlags := 26, slot := 12, constantValue := 0 }]
  methods := #[k12m0]
  instanceTypes := #[.double]
  staticTypes := #[.double, .double, .double, .double, .double, .double, .int, .int, .int, .int, .int, (.object "java/lang/Class"), .long]
  resolved := Array.replicate 290 none
  statics := none }

def pool13 : Array CpInfo := pool [(2, .class_ 4), (1, u "java/lang/Object"), (0, u "<init>"), (0, u "()V"), (35, .class_ 44), (1, u "java/util/Objects"), (0, u "requireNonNull"), (48, u "(Ljava/lang/Object;Ljava/lang/String;)Ljava/lang/Object;")] 89

def k13m0 : Method := { name := "<init>", desc := "()V", sig := { parameters := [], returnType := none }, accessFlags := 2, code := none }
def k13c1 : Code := { maxStack := 3, maxLocals := 2, code := jdk_31_method_11_code, exceptionTable := #[], attributes := #[] }
def k13m1 : Method := { name := "requireNonNull", desc := "(Ljava/lang/Object;Ljava/lang/String;)Ljava/lang/Object;", sig := { parameters := [(.object "java/lang/Object"), (.object "java/lang/String")], returnType := some (.object "java/lang/Object") }, accessFlags := 9, code := some k13c1 }
/-- java/util/Objects -/
def k13 : Class := { plain "java/util/Objects" (some 0) with
  accessFlags := 49
  interfaces := #[]
  cf := some (fileOf pool13 42 #[] #[{ accessFlags := 2, nameIndex := 5, descriptorIndex := 6, attributes := #[] }, { accessFlags := 9, nameIndex := 45, descriptorIndex := 94, attributes := #[] }] 49 2 #[] #[])
  fields := #[]
  methods := #[k13m0, k13m1]
  instanceTypes := #[]
  staticTypes := #[]
  resolved := Array.replicate 184 none
  statics := none }

def pool14 : Array CpInfo := pool [(2, .class_ 4), (1, u "java/lang/Object"), (0, u "<init>"), (0, u "()V"), (17, .class_ 26), (1, u "jdk/internal/util/Preconditions"), (28, .class_ 56), (0, u "jdk/internal/util/Preconditions$4"), (57, .class_ 115), (0, u "jdk/internal/util/Preconditions$1"), (7, u "SIOOBE_FORMATTER"), (0, u "Ljava/util/function/BiFunction;"), (0, .class_ 126), (0, u "jdk/internal/util/Preconditions$2"), (3, u "AIOOBE_FORMATTER"), (0, .class_ 132), (0, u "jdk/internal/util/Preconditions$3"), (3, u "IOOBE_FORMATTER")] 57

def k14m0 : Method := { name := "<init>", desc := "()V", sig := { parameters := [], returnType := none }, accessFlags := 1, code := none }
/-- jdk/internal/util/Preconditions -/
def k14 : Class := { plain "jdk/internal/util/Preconditions" (some 0) with
  accessFlags := 33
  interfaces := #[]
  cf := some (fileOf pool14 24 #[.nestMembers #[55, 131, 125, 114]] #[{ accessFlags := 1, nameIndex := 5, descriptorIndex := 6, attributes := #[] }] 33 2 #[] #[{ accessFlags := 25, nameIndex := 123, descriptorIndex := 124, attributes := #[] }, { accessFlags := 25, nameIndex := 130, descriptorIndex := 124, attributes := #[] }, { accessFlags := 25, nameIndex := 136, descriptorIndex := 124, attributes := #[] }])
  fields := #[{ name := "SIOOBE_FORMATTER", type := (.object "java/util/function/BiFunction"), accessFlags := 25, slot := 0, constantValue := 0 }, { name := "AIOOBE_FORMATTER", type := (.object "java/util/function/BiFunction"), accessFlags := 25, slot := 1, constantValue := 0 }, { name := "IOOBE_FORMATTER", type := (.object "java/util/function/BiFunction"), accessFlags := 25, slot := 2, constantValue := 0 }]
  methods := #[k14m0]
  instanceTypes := #[]
  staticTypes := #[(.object "java/util/function/BiFunction"), (.object "java/util/function/BiFunction"), (.object "java/util/function/BiFunction")]
  resolved := Array.replicate 194 none
  statics := some 1 }

def pool15 : Array CpInfo := pool [(9, u "<init>"), (6, .class_ 18), (1, u "java/lang/Object"), (0, u "()V"), (1, .class_ 23), (1, u "jdk/internal/util/ArraysSupport"), (0, u "LOG2_ARRAY_LONG_INDEX_SCALE"), (0, u "I"), (2, u "U"), (0, u "Ljdk/internal/misc/Unsafe;"), (8, u "BIG_ENDIAN"), (0, u "Z"), (8, u "LOG2_BYTE_BIT_SIZE"), (4, u "LOG2_ARRAY_INT_INDEX_SCALE"), (54, u "JLA"), (0, u "Ljdk/internal/access/JavaLangAccess;"), (11, u "LOG2_ARRAY_BOOLEAN_INDEX_SCALE"), (9, u "LOG2_ARRAY_BYTE_INDEX_SCALE"), (5, u "LOG2_ARRAY_CHAR_INDEX_SCALE"), (5, u "LOG2_ARRAY_SHORT_INDEX_SCALE"), (18, u "LOG2_ARRAY_FLOAT_INDEX_SCALE"), (24, u "LOG2_ARRAY_DOUBLE_INDEX_SCALE"), (89, u "T_BOOLEAN"), (2, u "T_CHAR"), (1, u "T_FLOAT"), (1, u "T_DOUBLE"), (1, u "T_BYTE"), (1, u "T_SHORT"), (1, u "T_INT"), (1, u "T_LONG"), (1, u "SOFT_MAX_ARRAY_LENGTH")] 83

def k15m0 : Method := { name := "<init>", desc := "()V", sig := { parameters := [], returnType := none }, accessFlags := 2, code := none }
/-- jdk/internal/util/ArraysSupport -/
def k15 : Class := { plain "jdk/internal/util/ArraysSupport" (some 0) with
  accessFlags := 33
  interfaces := #[]
  cf := some (fileOf pool15 21 #[] #[{ accessFlags := 2, nameIndex := 9, descriptorIndex := 19, attributes := #[] }] 33 16 #[] #[{ accessFlags := 24, nameIndex := 28, descriptorIndex := 29, attributes := #[] }, { accessFlags := 26, nameIndex := 38, descriptorIndex := 39, attributes := #[] }, { accessFlags := 25, nameIndex := 121, descriptorIndex := 25, attributes := #[] }, { accessFlags := 25, nameIndex := 131, descriptorIndex := 25, attributes := #[] }, { accessFlags := 25, nameIndex := 137, descriptorIndex := 25, attributes := #[] }, { accessFlags := 25, nameIndex := 143, descriptorIndex := 25, attributes := #[] }, { accessFlags := 25, nameIndex := 53, descriptorIndex := 25, attributes := #[] }, { accessFlags := 25, nameIndex := 24, descriptorIndex := 25, attributes := #[] }, { accessFlags := 25, nameIndex := 162, descriptorIndex := 25, attributes := #[] }, { accessFlags := 25, nameIndex := 187, descriptorIndex := 25, attributes := #[] }, { accessFlags := 26, nameIndex := 48, descriptorIndex := 25, attributes := #[] }, { accessFlags := 25, nameIndex := 277, descriptorIndex := 25, attributes := #[] }, { accessFlags := 25, nameIndex := 280, descriptorIndex := 25, attributes := #[] }, { accessFlags := 25, nameIndex := 282, descriptorIndex := 25, attributes := #[] }, { accessFlags := 25, nameIndex := 284, descriptorIndex := 25, attributes := #[] }, { accessFlags := 25, nameIndex := 286, descriptorIndex := 25, attributes := #[] }, { accessFlags := 25, nameIndex := 288, descriptorIndex := 25, attributes := #[] }, { accessFlags := 25, nameIndex := 290, descriptorIndex := 25, attributes := #[] }, { accessFlags := 25, nameIndex := 292, descriptorIndex := 25, attributes := #[] }, { accessFlags := 26, nameIndex := 108, descriptorIndex := 109, attributes := #[] }, { accessFlags := 25, nameIndex := 294, descriptorIndex := 25, attributes := #[] }])
  fields := #[{ name := "U", type := (.object "jdk/internal/misc/Unsafe"), accessFlags := 24, slot := 0, constantValue := 0 }, { name := "BIG_ENDIAN", type := .boolean, accessFlags := 26, slot := 1, constantValue := 0 }, { name := "LOG2_ARRAY_BOOLEAN_INDEX_SCALE", type := .int, accessFlags := 25, slot := 2, constantValue := 0 }, { name := "LOG2_ARRAY_BYTE_INDEX_SCALE", type := .int, accessFlags := 25, slot := 3, constantValue := 0 }, { name := "LOG2_ARRAY_CHAR_INDEX_SCALE", type := .int, accessFlags := 25, slot := 4, constantValue := 0 }, { name := "LOG2_ARRAY_SHORT_INDEX_SCALE", type := .int, accessFlags := 25, slot := 5, constantValue := 0 }, { name := "LOG2_ARRAY_INT_INDEX_SCALE", type := .int, accessFlags := 25, slot := 6, constantValue := 0 }, { name := "LOG2_ARRAY_LONG_INDEX_SCALE", type := .int, accessFlags := 25, slot := 7, constantValue := 0 }, { name := "LOG2_ARRAY_FLOAT_INDEX_SCALE", type := .int, accessFlags := 25, slot := 8, constantValue := 0 }, { name := "LOG2_ARRAY_DOUBLE_INDEX_SCALE", type := .int, accessFlags := 25, slot := 9, constantValue := 0 }, { name := "LOG2_BYTE_BIT_SIZE", type := .int, accessFlags := 26, slot := 10, constantValue := 0 }, { name := "T_BOOLEAN", type := .int, accessFlags := 25, slot := 11, constantValue := 0 }, { name := "T_CHAR", type := .int, accessFlags := 25, slot := 12, constantValue := 0 }, { name := "T_FLOAT", type := .int, accessFlags := 25, slot := 13, constantValue := 0 }, { name := "T_DOUBLE", type := .int, accessFlags := 25, slot := 14, constantValue := 0 }, { name := "T_BYTE", type := .int, accessFlags := 25, slot := 15, constantValue := 0 }, { name := "T_SHORT", type := .int, accessFlags := 25, slot := 16, constantValue := 0 }, { name := "T_INT", type := .int, accessFlags := 25, slot := 17, constantValue := 0 }, { name := "T_LONG", type := .int, accessFlags := 25, slot := 18, constantValue := 0 }, { name := "JLA", type := (.object "jdk/internal/access/JavaLangAccess"), accessFlags := 26, slot := 19, constantValue := 0 }, { name := "SOFT_MAX_ARRAY_LENGTH", type := .int, accessFlags := 25, slot := 20, constantValue := 0 }]
  methods := #[k15m0]
  instanceTypes := #[]
  staticTypes := #[(.object "jdk/internal/misc/Unsafe"), .boolean, .int, .int, .int, .int, .int, .int, .int, .int, .int, .int, .int, .int, .int, .int, .int, .int, .int, (.object "jdk/internal/access/JavaLangAccess"), .int]
  resolved := Array.replicate 378 none
  statics := none }

def pool16 : Array CpInfo := pool [(1, u "java/lang/Cloneable"), (0, .class_ 1), (0, u "java/lang/Object"), (0, .class_ 3)] 3

/-- java/lang/Cloneable -/
def k16 : Class := { plain "java/lang/Cloneable" (some 0) with
  accessFlags := 1537
  interfaces := #[]
  cf := some (fileOf pool16 2 #[] #[] 1537 4 #[] #[])
  fields := #[]
  methods := #[]
  instanceTypes := #[]
  staticTypes := #[]
  resolved := Array.replicate 8 none
  statics := none }

/-- the primitive byte -/
def k17 : Class := { plain "byte" none with kind := .primitive 'B', accessFlags := 0x411 }
/-- [B -/
def k18 : Class := { plain "[B" (some 0) with kind := .array 17 .byte, interfaces := #[16, 3], accessFlags := 1041 }

/-- the primitive int -/
def k19 : Class := { plain "int" none with kind := .primitive 'I', accessFlags := 0x411 }
/-- [I -/
def k20 : Class := { plain "[I" (some 0) with kind := .array 19 .int, interfaces := #[16, 3], accessFlags := 1041 }

def heap : Heap := #[{ cls := 8, slots := #[.long 0, .int 1, .null, .int 0, .null, .int 0, .int 0], vm := .statics 8 },
  { cls := 14, slots := #[.null, .null, .null], vm := .statics 14 }]
def classes : Array Class := #[k0, k1, k2, k3, k4, k5, k6, k7, k8, k9, k10, k11, k12, k13, k14, k15, k16, k17, k18, k19, k20]
def interned : List (Array UInt16 × Addr) := []
def slotsUsed : Nat := 10
def theMethod : MethodId := ⟨1, 1⟩
def args0 : Array Value := #[.int 5, .int 65, .int 6, .int 7]
def aboutOver (below : List Frame) : State where
  vm := { classes := classes, interned := interned.toArray }
  heap := heap
  slotsUsed := slotsUsed
  threads := #[{ frames := .invoking theMethod args0 :: below }]
def below0 : List Frame := [.native { method := ⟨0, 0⟩, args := #[] }]
def about1 : State := aboutOver below0
def p0 : Program := .bare "" "" ""
def e0 : Env := launch0.env 0 0 0
theorem w_frames : about1.frames = Frame.invoking theMethod args0 :: below0 := rfl
set_option maxRecDepth 65536 in
theorem w_args : argsFit about1.vm theMethod args0 = true := by decide +kernel
set_option maxRecDepth 65536 in
theorem w_heap : heapFits about1 = true := by decide +kernel
set_option maxRecDepth 65536 in
theorem w_runnable : about1.curStatus? = some .runnable := by decide +kernel
set_option maxRecDepth 65536 in
theorem w_alone : about1.alone = true := by decide +kernel
set_option maxRecDepth 65536 in
theorem w_named : about1.methodNamed? x = some theMethod := by decide +kernel
set_option maxRecDepth 65536 in
theorem w_hears : about1.hears theMethod below0 = true := by decide +kernel
set_option maxRecDepth 65536 in
theorem w_ripe : about1.ripe theMethod args0 below0 = true := by decide +kernel
theorem w_running : about1.status = .running := rfl
set_option maxRecDepth 65536 in
theorem w_room : about1.hasRoom e0.platform room_1 = true :=
  launch0.hasRoom_least _ room_1 (by decide +kernel) (by decide +kernel) (by decide +kernel) (by decide +kernel) (by decide +kernel) (by decide +kernel)
theorem allAtoms_all (ts : List Jvm.Cond) (a : Array Jvm.Value) (st : Jvm.State) : (allAtoms ts).before a st = ts.all (fun c => c.before a st) := by
  induction ts with
  | nil => rfl
  | cons c t ih =>
    show (Jvm.Cond.and c (allAtoms t)).before a st = _
    rw [Jvm.Cond.before_and, ih, List.all_cons]
def words1 : List Jvm.Cond := Jvm.Cond.code x code maxLocals ret :: tables_1
/-- a 'code' word, met by the world's own term for the bytes: nothing is compared byte by byte -/
theorem code_word {y : MethodName} {bytes : ByteArray} {mx : Nat} {rt : Option FieldType} {a : Array Value} {s : State} {m : MethodId} {meth : Method} {c : Code} (h1 : s.methodNamed? y = some m) (h2 : s.vm.method? m = some meth) (h3 : meth.code = some c) (h4 : c.code = bytes)
    (h5 : (c.maxLocals == mx && c.exceptionTable.isEmpty && decide (c.maxStack ≤ mostOperands) && decide (meth.sig.returnType = rt) && !meth.locks && decide (parseMethodDescriptor y.desc = some meth.sig)) = true) : (Jvm.Cond.code y bytes mx rt).before a s = true := by
  simp only [Bool.and_eq_true, beq_iff_eq, Bool.not_eq_true', decide_eq_true_eq] at h5
  obtain ⟨⟨⟨⟨⟨g1, g2⟩, g3⟩, g4⟩, g5⟩, g6⟩ := h5
  simp [Cond.before, Cond.holds, Cond.value, h1, h2, h3, h4, g1, g2, g3, g4, g5, g6]
def isCode : Jvm.Cond → Bool
  | .code _ _ _ _ => true
  | _ => false
theorem all_split {L : List Jvm.Cond} {P : Jvm.Cond → Bool} (h1 : L.all (fun c => isCode c || P c) = true) (h2 : ∀ c ∈ L.filter isCode, P c = true) : L.all P = true := by
  refine List.all_eq_true.mpr fun c hc => ?_
  have h := List.all_eq_true.mp h1 c hc
  rcases Bool.eq_false_or_eq_true (isCode c) with hi | hi
  · exact h2 c (List.mem_filter.mpr ⟨hc, hi⟩)
  · simpa [hi] using h
set_option maxRecDepth 65536 in
theorem w_c0 : (Jvm.Cond.code x code maxLocals ret).before args0 about1 = true := code_word (m := ⟨1, 1⟩) (meth := k1m1) (c := k1c1) (by decide +kernel) rfl rfl rfl (by decide +kernel)
set_option maxRecDepth 65536 in
theorem w_c1 : (Jvm.Cond.code ({ cls := "java/lang/Math", name := "min", desc := "(JJ)J" } : Jvm.MethodName) jdk_29_method_70_code (4 : Nat) (Option.some Jvm.ClassFile.FieldType.long)).before args0 about1 = true := code_word (m := ⟨2, 3⟩) (meth := k2m3) (c := k2c3) (by decide +kernel) rfl rfl rfl (by decide +kernel)
set_option maxRecDepth 65536 in
theorem w_c2 : (Jvm.Cond.code ({ cls := "java/lang/Math", name := "max", desc := "(JJ)J" } : Jvm.MethodName) jdk_29_method_66_code (4 : Nat) (Option.some Jvm.ClassFile.FieldType.long)).before args0 about1 = true := code_word (m := ⟨2, 2⟩) (meth := k2m2) (c := k2c2) (by decide +kernel) rfl rfl rfl (by decide +kernel)
set_option maxRecDepth 65536 in
theorem w_c3 : (Jvm.Cond.code ({ cls := "java/lang/String", name := "valueOf", desc := "(C)Ljava/lang/String;" } : Jvm.MethodName) jdk_42_method_139_code (1 : Nat) (Option.some (Jvm.ClassFile.FieldType.object "java/lang/String"))).before args0 about1 = true := code_word (m := ⟨8, 1⟩) (meth := k8m1) (c := k8c1) (by decide +kernel) rfl rfl rfl (by decide +kernel)
set_option maxRecDepth 65536 in
theorem w_c4 : (Jvm.Cond.code ({ cls := "java/lang/StringLatin1", name := "canEncode", desc := "(C)Z" } : Jvm.MethodName) jdk_43_method_3_code (1 : Nat) (Option.some Jvm.ClassFile.FieldType.boolean)).before args0 about1 = true := code_word (m := ⟨9, 1⟩) (meth := k9m1) (c := k9c1) (by decide +kernel) rfl rfl rfl (by decide +kernel)
set_option maxRecDepth 65536 in
theorem w_c5 : (Jvm.Cond.code ({ cls := "java/lang/StringLatin1", name := "toBytes", desc := "(C)[B" } : Jvm.MethodName) jdk_43_method_46_code (1 : Nat) (Option.some (Jvm.ClassFile.FieldType.array Jvm.ClassFile.FieldType.byte))).before args0 about1 = true := code_word (m := ⟨9, 2⟩) (meth := k9m2) (c := k9c2) (by decide +kernel) rfl rfl rfl (by decide +kernel)
set_option maxRecDepth 65536 in
theorem w_c6 : (Jvm.Cond.code ({ cls := "java/lang/String", name := "<init>", desc := "([BB)V" } : Jvm.MethodName) jdk_42_method_151_code (3 : Nat) (Option.none : Option Jvm.ClassFile.FieldType)).before args0 about1 = true := code_word (m := ⟨8, 2⟩) (meth := k8m2) (c := k8c2) (by decide +kernel) rfl rfl rfl (by decide +kernel)
set_option maxRecDepth 65536 in
theorem w_c7 : (Jvm.Cond.code ({ cls := "java/lang/Object", name := "<init>", desc := "()V" } : Jvm.MethodName) object_method_1_code (1 : Nat) (Option.none : Option Jvm.ClassFile.FieldType)).before args0 about1 = true := code_word (m := ⟨0, 0⟩) (meth := k0m0) (c := k0c0) (by decide +kernel) rfl rfl rfl (by decide +kernel)
set_option maxRecDepth 65536 in
theorem w_c8 : (Jvm.Cond.code ({ cls := "com/example/narrow_gap/narrowgap/Scenario$LoadEvent", name := "<init>", desc := "(Ljava/lang/String;IID)V" } : Jvm.MethodName) prog_14_method_1_code (6 : Nat) (Option.none : Option Jvm.ClassFile.FieldType)).before args0 about1 = true := code_word (m := ⟨10, 0⟩) (meth := k10m0) (c := k10c0) (by decide +kernel) rfl rfl rfl (by decide +kernel)
set_option maxRecDepth 65536 in
theorem w_c9 : (Jvm.Cond.code ({ cls := "java/lang/Double", name := "isInfinite", desc := "(D)Z" } : Jvm.MethodName) jdk_117_method_7_code (2 : Nat) (Option.some Jvm.ClassFile.FieldType.boolean)).before args0 about1 = true := code_word (m := ⟨12, 0⟩) (meth := k12m0) (c := k12c0) (by decide +kernel) rfl rfl rfl (by decide +kernel)
set_option maxRecDepth 65536 in
theorem w_c10 : (Jvm.Cond.code ({ cls := "java/lang/Math", name := "abs", desc := "(D)D" } : Jvm.MethodName) jdk_29_method_64_code (2 : Nat) (Option.some Jvm.ClassFile.FieldType.double)).before args0 about1 = true := code_word (m := ⟨2, 1⟩) (meth := k2m1) (c := k2c1) (by decide +kernel) rfl rfl rfl (by decide +kernel)
set_option maxRecDepth 65536 in
theorem w_c11 : (Jvm.Cond.code ({ cls := "java/util/Objects", name := "requireNonNull", desc := "(Ljava/lang/Object;Ljava/lang/String;)Ljava/lang/Object;" } : Jvm.MethodName) jdk_31_method_11_code (2 : Nat) (Option.some (Jvm.ClassFile.FieldType.object "java/lang/Object"))).before args0 about1 = true := code_word (m := ⟨13, 1⟩) (meth := k13m1) (c := k13c1) (by decide +kernel) rfl rfl rfl (by decide +kernel)
set_option maxRecDepth 65536 in
theorem w_c12 : (Jvm.Cond.code ({ cls := "com/example/narrow_gap/narrowgap/Scenario$LoadEvent", name := "isActiveIn", desc := "(I)Z" } : Jvm.MethodName) prog_14_method_4_code (2 : Nat) (Option.some Jvm.ClassFile.FieldType.boolean)).before args0 about1 = true := code_word (m := ⟨10, 1⟩) (meth := k10m1) (c := k10c1) (by decide +kernel) rfl rfl rfl (by decide +kernel)
def codes1 : List Jvm.Cond := [Jvm.Cond.code x code maxLocals ret, Jvm.Cond.code ({ cls := "java/lang/Math", name := "min", desc := "(JJ)J" } : Jvm.MethodName) jdk_29_method_70_code (4 : Nat) (Option.some Jvm.ClassFile.FieldType.long), Jvm.Cond.code ({ cls := "java/lang/Math", name := "max", desc := "(JJ)J" } : Jvm.MethodName) jdk_29_method_66_code (4 : Nat) (Option.some Jvm.ClassFile.FieldType.long), Jvm.Cond.code ({ cls := "java/lang/String", name := "valueOf", desc := "(C)Ljava/lang/String;" } : Jvm.MethodName) jdk_42_method_139_code (1 : Nat) (Option.some (Jvm.ClassFile.FieldType.object "java/lang/String")), Jvm.Cond.code ({ cls := "java/lang/StringLatin1", name := "canEncode", desc := "(C)Z" } : Jvm.MethodName) jdk_43_method_3_code (1 : Nat) (Option.some Jvm.ClassFile.FieldType.boolean), Jvm.Cond.code ({ cls := "java/lang/StringLatin1", name := "toBytes", desc := "(C)[B" } : Jvm.MethodName) jdk_43_method_46_code (1 : Nat) (Option.some (Jvm.ClassFile.FieldType.array Jvm.ClassFile.FieldType.byte)), Jvm.Cond.code ({ cls := "java/lang/String", name := "<init>", desc := "([BB)V" } : Jvm.MethodName) jdk_42_method_151_code (3 : Nat) (Option.none : Option Jvm.ClassFile.FieldType), Jvm.Cond.code ({ cls := "java/lang/Object", name := "<init>", desc := "()V" } : Jvm.MethodName) object_method_1_code (1 : Nat) (Option.none : Option Jvm.ClassFile.FieldType), Jvm.Cond.code ({ cls := "com/example/narrow_gap/narrowgap/Scenario$LoadEvent", name := "<init>", desc := "(Ljava/lang/String;IID)V" } : Jvm.MethodName) prog_14_method_1_code (6 : Nat) (Option.none : Option Jvm.ClassFile.FieldType), Jvm.Cond.code ({ cls := "java/lang/Double", name := "isInfinite", desc := "(D)Z" } : Jvm.MethodName) jdk_117_method_7_code (2 : Nat) (Option.some Jvm.ClassFile.FieldType.boolean), Jvm.Cond.code ({ cls := "java/lang/Math", name := "abs", desc := "(D)D" } : Jvm.MethodName) jdk_29_method_64_code (2 : Nat) (Option.some Jvm.ClassFile.FieldType.double), Jvm.Cond.code ({ cls := "java/util/Objects", name := "requireNonNull", desc := "(Ljava/lang/Object;Ljava/lang/String;)Ljava/lang/Object;" } : Jvm.MethodName) jdk_31_method_11_code (2 : Nat) (Option.some (Jvm.ClassFile.FieldType.object "java/lang/Object")), Jvm.Cond.code ({ cls := "com/example/narrow_gap/narrowgap/Scenario$LoadEvent", name := "isActiveIn", desc := "(I)Z" } : Jvm.MethodName) prog_14_method_4_code (2 : Nat) (Option.some Jvm.ClassFile.FieldType.boolean)]
set_option maxRecDepth 65536 in
theorem codes_eq : words1.filter isCode = codes1 := rfl
theorem w_codes : ∀ c ∈ words1.filter isCode, c.before args0 about1 = true := by
  rw [codes_eq]
  intro c hc
  simp only [codes1, List.mem_cons, List.not_mem_nil, or_false] at hc
  rcases hc with rfl | rfl | rfl | rfl | rfl | rfl | rfl | rfl | rfl | rfl | rfl | rfl | rfl
  · exact w_c0
  · exact w_c1
  · exact w_c2
  · exact w_c3
  · exact w_c4
  · exact w_c5
  · exact w_c6
  · exact w_c7
  · exact w_c8
  · exact w_c9
  · exact w_c10
  · exact w_c11
  · exact w_c12
set_option maxRecDepth 65536 in
theorem w_t1 : (words1.take 24).all (fun c => isCode c || c.before args0 about1) = true := by decide +kernel
set_option maxRecDepth 65536 in
theorem w_t2 : ((words1.drop 24).take 24).all (fun c => isCode c || c.before args0 about1) = true := by decide +kernel
set_option maxRecDepth 65536 in
theorem w_t3 : (((words1.drop 24).drop 24).take 24).all (fun c => isCode c || c.before args0 about1) = true := by decide +kernel
set_option maxRecDepth 65536 in
theorem w_t4 : (((words1.drop 24).drop 24).drop 24).all (fun c => isCode c || c.before args0 about1) = true := by decide +kernel
theorem w_tables : (allAtoms (Jvm.Cond.code x code maxLocals ret :: tables_1)).before args0 about1 = true := by
  rw [allAtoms_all]
  show words1.all (fun c => c.before args0 about1) = true
  refine all_split ?_ w_codes
  rw [← List.take_append_drop 24 words1, List.all_append, w_t1, ← List.take_append_drop 24 (words1.drop 24), List.all_append, w_t2, ← List.take_append_drop 24 ((words1.drop 24).drop 24), List.all_append, w_t3, w_t4]
  rfl
set_option maxRecDepth 65536 in
theorem w_rest : rest_1_c.before args0 about1 = true := by decide +kernel
set_option maxRecDepth 65536 in
theorem w_case : (Jvm.Cond.and given_1 narrow_1).before args0 about1 = true := by decide +kernel
theorem w_applies : (headSpec (Jvm.Cond.code x code maxLocals ret :: tables_1) room_1).applies x e0.platform about1 = true :=
  (Spec.applies_iff w_frames).mpr ⟨w_running, w_runnable, w_alone, w_named, w_hears, w_ripe, w_room, w_tables⟩
theorem atStart : AtStart classFile x code maxLocals ret World_1 tables_1 room_1 Calls_1 rest_1 Pre_1 launch0 p0 e0 about1 theMethod args0 below0 :=
  ⟨lists_1, trivial, launch0.admits_env _ _ _, launch0.least_env, fairChoices_fair.cas, fairChoices_fair.clock, w_frames, w_args, w_heap, w_applies, trivial, w_rest, w_case⟩
end start1
theorem witness_1 : WitnessClaimed_1 := ⟨start1.p0, start1.e0, start1.about1, start1.theMethod, start1.args0, start1.below0, start1.atStart⟩
end Jvm.Pilot.@@N@@
