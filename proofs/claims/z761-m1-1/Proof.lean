import JvmDerived
import JvmDerived.Pilot.@@N@@Statement
import JvmDerived.Pilot.@@N@@Code
set_option linter.unusedVariables false
set_option linter.unusedSimpArgs false
namespace Jvm.Pilot.@@N@@
open Jvm Jvm.ClassFile Sem Op Lib Jvm.Free Jvm.Stand Jvm.LawKit Jvm.RoadKit Bundle Jvm.Pilot.@@N@@.Jvm.D
section OwnKit
variable {p : Program} {l : Launch} {e : Env} {R : Room} {s : State} {m : MethodId} {args : Array Value} {below : List Frame} {meth : Method} {c : Code} {T T' : State} {cells slots : Nat} {Z : State} {a0 : Array Value} {EL : List (String × Nat)} {vm0 : Vm} {h h' : Heap} {own : String} {n0 : Nat} {Q : Outcome → State → Prop} {g g' : JFrame}
/-- from this frame the run comes to an end of which Q holds -/
def Go (p : Program) (e : Env) (below : List Frame) (Q : Outcome → State → Prop) (T : State) (g : JFrame) : Prop :=
  ∃ s₂ o, Steps p.tables e below (T.setTop g) s₂ ∧ s₂.status = .running ∧ Ended s₂ below o ∧ Q o s₂
theorem Go.st (st : ∀ t, Steps p.tables e below (T'.setTop g') t → Steps p.tables e below (T.setTop g) t) (k : Go p e below Q T' g') : Go p e below Q T g := by
  obtain ⟨s₂, o, h1, h2⟩ := k
  exact ⟨s₂, o, st _ h1, h2⟩
theorem Go.tr (st : Steps p.tables e below (T.setTop g) (T'.setTop g')) (k : Go p e below Q T' g') : Go p e below Q T g := by
  obtain ⟨s₂, o, h1, h2⟩ := k
  exact ⟨s₂, o, st.trans h1, h2⟩
theorem own_ne {x y : Nat} (h : ¬ @Eq Nat x y) : @Ne Addr x y := h
theorem own_nn {x y : Addr} (h : x ≠ y) : ¬ @Eq Nat x y := h
theorem own_cat {v : Value} (h : v.isRef = true) : v.category = 1 := by cases v <;> simp [Value.isRef] at h <;> rfl
theorem own_catI (x : Int32) : (Value.int x).category = 1 := rfl
theorem own_catJ (x : Int64) : (Value.long x).category = 2 := rfl
theorem own_catD (x : UInt64) : (Value.double x).category = 2 := rfl
theorem own_catF (x : UInt32) : (Value.float x).category = 1 := rfl
theorem own_catA (x : Addr) : (Value.ref x).category = 1 := rfl
theorem own_catN : Value.null.category = 1 := rfl
theorem own_safe0 {vm : Vm} {x : Addr} (hE : EL = []) : Safe Z EL vm h x := fun B => by
  obtain ⟨q, hq, -⟩ := B
  rw [hE] at hq; cases hq
/-- where the walk stands -/
def Wk (p : Program) (l : Launch) (e : Env) (R : Room) (s : State) (m : MethodId) (args : Array Value) (below : List Frame) (meth : Method) (c : Code) (Z : State) (EL : List (String × Nat)) (own : String) (n0 : Nat) (vm0 : Vm) (T : State) (h : Heap) (cells slots : Nat) : Prop :=
  ∃ (locs : List Loc), vm0 = s.vm ∧ Stand p l e R s m args below meth c T locs cells slots ∧ T.heap = h ∧ Z.Warmed39 s.vm ∧ s.vm.findClass own = some m.cls ∧ Fr n0 locs ∧ Old Z n0 h ∧ EL = [] ∧ True
theorem Wk.here (W : Wk p l e R s m args below meth c Z EL own n0 vm0 T h cells slots) : At T m c below := by
  obtain ⟨locs, rfl, X, eT, hZ, hown, N, O, hEn, hKK⟩ := W
  exact X.here
theorem Wk.warm (W : Wk p l e R s m args below meth c Z EL own n0 vm0 T h cells slots) : Z.Warmed39 vm0 := by
  obtain ⟨locs, rfl, X, eT, hZ, hown, N, O, hEn, hKK⟩ := W
  exact hZ
theorem Wk.warmS (W : Wk p l e R s m args below meth c Z EL own n0 vm0 T h cells slots) : Z.Warmed39 s.vm := by
  obtain ⟨locs, rfl, X, eT, hZ, hown, N, O, hEn, hKK⟩ := W
  exact hZ
theorem Wk.old (W : Wk p l e R s m args below meth c Z EL own n0 vm0 T h cells slots) : Old Z n0 h := by
  obtain ⟨locs, rfl, X, eT, hZ, hown, N, O, hEn, hKK⟩ := W
  exact O
theorem Wk.ge (W : Wk p l e R s m args below meth c Z EL own n0 vm0 T h cells slots) : n0 ≤ h.size := by have q := W.old; exact q.1 ▸ q.2.1
theorem Wk.stand (W : Wk p l e R s m args below meth c Z EL own n0 vm0 T h cells slots) : ∃ locs, Stand p l e R s m args below meth c T locs cells slots := by
  obtain ⟨locs, rfl, X, eT, hZ, hown, N, O, hEn, hKK⟩ := W
  exact ⟨_, X⟩
theorem Wk.heap (W : Wk p l e R s m args below meth c Z EL own n0 vm0 T h cells slots) : T.heap = h := by
  obtain ⟨locs, rfl, X, eT, hZ, hown, N, O, hEn, hKK⟩ := W
  exact eT
theorem Wk.owns (W : Wk p l e R s m args below meth c Z EL own n0 vm0 T h cells slots) : s.vm.findClass own = some m.cls := by
  obtain ⟨locs, rfl, X, eT, hZ, hown, N, O, hEn, hKK⟩ := W
  exact hown
theorem Wk.sta {C n d : String} {v : Value} (W : Wk p l e R s m args below meth c Z EL own n0 vm0 T h cells slots) (S : Sta Z Z.heap C n d v) : Sta Z h C n d v := S.ext W.old.2
theorem Wk.safeArv {x : Addr} {k : ClassId} {ty : FieldType} {z : Int32} {vs : List Value} {d : Value} (W : Wk p l e R s m args below meth c Z EL own n0 vm0 T h cells slots) (A : Arv Z h x k ty z vs d) (ht : ty ≠ .byte) : Safe Z EL vm0 h x := Safe.arv W.warm.alike A ht
theorem Wk.safeExa {x : Addr} {C : String} (W : Wk p l e R s m args below meth c Z EL own n0 vm0 T h cells slots) (E : Exa Z h x C) (h1 : C ≠ "java/lang/String") (h2 : C ≠ "[B") : Safe Z EL vm0 h x := Safe.exa W.warm.alike E h1 h2
theorem Wk.safeN {x : Addr} (W : Wk p l e R s m args below meth c Z EL own n0 vm0 T h cells slots) : Safe Z EL vm0 h x := by
  obtain ⟨locs, rfl, X, eT, hZ, hown, N, O, hEn, hKK⟩ := W
  exact own_safe0 hEn
theorem Wk.more {cells' slots' : Nat} (W : Wk p l e R s m args below meth c Z EL own n0 vm0 T h cells slots) (h1 : cells ≤ cells') (h2 : slots ≤ slots') : Wk p l e R s m args below meth c Z EL own n0 vm0 T h cells' slots' := by
  obtain ⟨locs, r⟩ := W
  obtain ⟨q, X, r⟩ := r
  exact ⟨locs, q, X.more h1 h2, r⟩
theorem Wk.newO (W : Wk p l e R s m args below meth c Z EL own n0 vm0 T h cells slots) (hx : p.tables.exec = Jvm.exec) {C : String} {index n : Nat} (w : (Cond.classLink own index C).before a0 Z = true) (wi : (Cond.instantiable C n).before a0 Z = true) (wz : (Cond.initialized C).before a0 Z = true)
    (hg : g.method = m) (hd : decode c.code g.pc = .ok (.new index, 3)) (hc : cells + 1 ≤ R.cells) (hl : slots + n ≤ R.slots) :
    ∃ T' h' a, a = h.size ∧ Wk p l e R s m args below meth c Z EL own n0 vm0 T' h' (cells + 1) (slots + n) ∧ Ext h h' ∧ h.size < h'.size ∧ Exa Z h' a C ∧ (∀ {O nm d : String} {ty : FieldType}, Laid Z a0 C O nm d → parseFieldDescriptor d = some ty → Fld Z h' a O nm d (defaultValue ty)) ∧ Safe Z EL vm0 h' a ∧ (∀ x, x < h.size → Safe Z EL vm0 h x → Safe Z EL vm0 h' x) ∧ (∃ cell : Cell, h'[a]? = some cell ∧ cell.vm = .none ∧ cell.monitor = {}) ∧
      ∀ target, Steps p.tables e below (T'.setTop { g with pc := g.pc + 3, stack := .ref a :: g.stack }) target → Steps p.tables e below (T.setTop g) target := by
  obtain ⟨locs, rfl, X, eT, hZ, hown, N, O, hEn, hKK⟩ := W
  obtain ⟨T', h', X', e', E, A, D, U, st⟩ := RoadKit.newO X hx hZ hown w wi wz eT hg hd hc hl
  exact ⟨T', h', h.size, rfl, ⟨_, rfl, X', e', hZ, hown, N, O.ext E, hEn, hKK⟩, E, A.lt, A, D, own_safe0 hEn, fun x _ q => own_safe0 hEn, U, st⟩
theorem Wk.newP (W : Wk p l e R s m args below meth c Z EL own n0 vm0 T h cells slots) (hx : p.tables.exec = Jvm.exec) {aty : ArrayType} {ty : FieldType} (hty : newarray.typeOf aty = ty) (w : (Cond.arrayClass ty).before a0 Z = true)
    (hg : g.method = m) (hd : decode c.code g.pc = .ok (.newarray aty, 2)) {n : Int32} {rest : List Value} (hs : g.stack = .int n :: rest) (hn : ¬ n < 0) {cap : Nat} (hcap : n.toNatClampNeg ≤ cap) (hb : cap * 8 ≤ 536870912) (hc : cells + 1 ≤ R.cells) (hl : slots + cap ≤ R.slots) (NN : Nat) :
    ∃ T' h' a k, a = h.size ∧ Wk p l e R s m args below meth c Z EL own n0 vm0 T' h' (cells + 1) (slots + cap) ∧ Ext h h' ∧ h.size < h'.size ∧ Arv Z h' a k ty n (List.replicate NN (defaultValue ty)) (defaultValue ty) ∧ Safe Z EL vm0 h' a ∧ (∀ x, x < h.size → Safe Z EL vm0 h x → Safe Z EL vm0 h' x) ∧
      ∀ target, Steps p.tables e below (T'.setTop { g with pc := g.pc + 2, stack := .ref a :: rest }) target → Steps p.tables e below (T.setTop g) target := by
  subst hty
  obtain ⟨locs, rfl, X, eT, hZ, hown, N, O, hEn, hKK⟩ := W
  obtain ⟨T', h', cA, X', e', E, A, st⟩ := RoadKit.newP X hx hZ w eT hg hd hs hn hcap hb hc hl
  exact ⟨T', h', h.size, cA, rfl, ⟨_, rfl, X', e', hZ, hown, N, O.ext E, hEn, hKK⟩, E, A.lt, (Arv.new A hn).pad (pad_rep [] _ NN), own_safe0 hEn, fun x _ q => own_safe0 hEn, st⟩
theorem Wk.stC (W : Wk p l e R s m args below meth c Z EL own n0 vm0 T h cells slots) (hx : p.tables.exec = Jvm.exec) {a : Addr} {k : ClassId} {z j : Int32} {x : Int32} {vs : List Value} {d : Value} (A : Arv Z h a k .char z vs d) (hj : ¬ j < 0 ∧ j < z) (i : Nat) (hi : j.toNatClampNeg = i) (hlen : i < vs.length) (ha : n0 ≤ a)
    (hg : g.method = m) {rest : List Value} (hs : g.stack = .int x :: .int j :: .ref a :: rest) (hd : decode c.code g.pc = .ok (.castore, 1)) :
    ∃ T' h', Wk p l e R s m args below meth c Z EL own n0 vm0 T' h' cells slots ∧ Wr h h' a i (.int (nar .char x)) ∧ h'.size = h.size ∧ Arv Z h' a k .char z (vs.set i (.int (nar .char x))) d ∧ (∀ x, x < h.size → Safe Z EL vm0 h x → Safe Z EL vm0 h' x) ∧
      ∀ target, Steps p.tables e below (T'.setTop { g with pc := g.pc + 1, stack := rest }) target → Steps p.tables e below (T.setTop g) target := by
  have S := W.safeArv A (by decide)
  obtain ⟨locs, rfl, X, eT, hZ, hown, N, O, hEn, hKK⟩ := W
  obtain ⟨cl, A1, q1, q2, q3, q4, q5⟩ := A
  obtain ⟨T', h', X', e', Wr', st⟩ := RoadKit.stC X hx hZ eT A1 (inb_of q2 hj) hg hs hd
  have Wr2 := Wr'
  rw [hi] at Wr2
  exact ⟨T', h', ⟨_, rfl, X', e', hZ, hown, Fr.snoc X' N ha, O.wr Wr' ha, hEn, hKK⟩, Wr2, Wr'.size, Arv.set A1 q1 q2 q3 q4 q5 (fits_nar_char _) Wr' i hi hlen, fun x _ q => own_safe0 hEn, st⟩
theorem Wk.stB (W : Wk p l e R s m args below meth c Z EL own n0 vm0 T h cells slots) (hx : p.tables.exec = Jvm.exec) {a : Addr} {k : ClassId} {z j : Int32} {x : Int32} {vs : List Value} {d : Value} (A : Arv Z h a k .byte z vs d) (S : Safe Z EL vm0 h a) (hj : ¬ j < 0 ∧ j < z) (i : Nat) (hi : j.toNatClampNeg = i) (hlen : i < vs.length) (ha : n0 ≤ a)
    (hg : g.method = m) {rest : List Value} (hs : g.stack = .int x :: .int j :: .ref a :: rest) (hd : decode c.code g.pc = .ok (.bastore, 1)) :
    ∃ T' h', Wk p l e R s m args below meth c Z EL own n0 vm0 T' h' cells slots ∧ Wr h h' a i (.int (nar .byte x)) ∧ h'.size = h.size ∧ Arv Z h' a k .byte z (vs.set i (.int (nar .byte x))) d ∧ (∀ x, x < h.size → Safe Z EL vm0 h x → Safe Z EL vm0 h' x) ∧
      ∀ target, Steps p.tables e below (T'.setTop { g with pc := g.pc + 1, stack := rest }) target → Steps p.tables e below (T.setTop g) target := by
  obtain ⟨locs, rfl, X, eT, hZ, hown, N, O, hEn, hKK⟩ := W
  obtain ⟨cl, A1, q1, q2, q3, q4, q5⟩ := A
  obtain ⟨T', h', X', e', Wr', st⟩ := RoadKit.stB X hx hZ eT A1 (inb_of q2 hj) hg hs hd
  have Wr2 := Wr'
  rw [hi] at Wr2
  exact ⟨T', h', ⟨_, rfl, X', e', hZ, hown, Fr.snoc X' N ha, O.wr Wr' ha, hEn, hKK⟩, Wr2, Wr'.size, Arv.set A1 q1 q2 q3 q4 q5 (fits_nar_byte _) Wr' i hi hlen, fun x _ q => own_safe0 hEn, st⟩
theorem Wk.stI (W : Wk p l e R s m args below meth c Z EL own n0 vm0 T h cells slots) (hx : p.tables.exec = Jvm.exec) {a : Addr} {k : ClassId} {z j : Int32} {x : Int32} {vs : List Value} {d : Value} (A : Arv Z h a k .int z vs d) (hj : ¬ j < 0 ∧ j < z) (i : Nat) (hi : j.toNatClampNeg = i) (hlen : i < vs.length) (ha : n0 ≤ a)
    (hg : g.method = m) {rest : List Value} (hs : g.stack = .int x :: .int j :: .ref a :: rest) (hd : decode c.code g.pc = .ok (.iastore, 1)) :
    ∃ T' h', Wk p l e R s m args below meth c Z EL own n0 vm0 T' h' cells slots ∧ Wr h h' a i (.int x) ∧ h'.size = h.size ∧ Arv Z h' a k .int z (vs.set i (.int x)) d ∧ (∀ x, x < h.size → Safe Z EL vm0 h x → Safe Z EL vm0 h' x) ∧
      ∀ target, Steps p.tables e below (T'.setTop { g with pc := g.pc + 1, stack := rest }) target → Steps p.tables e below (T.setTop g) target := by
  have S := W.safeArv A (by decide)
  obtain ⟨locs, rfl, X, eT, hZ, hown, N, O, hEn, hKK⟩ := W
  obtain ⟨cl, A1, q1, q2, q3, q4, q5⟩ := A
  obtain ⟨T', h', X', e', Wr', st⟩ := RoadKit.stI X hx hZ eT A1 (inb_of q2 hj) hg hs hd
  have Wr2 := Wr'
  rw [hi] at Wr2
  exact ⟨T', h', ⟨_, rfl, X', e', hZ, hown, Fr.snoc X' N ha, O.wr Wr' ha, hEn, hKK⟩, Wr2, Wr'.size, Arv.set A1 q1 q2 q3 q4 q5 rfl Wr' i hi hlen, fun x _ q => own_safe0 hEn, st⟩
theorem Wk.stJ (W : Wk p l e R s m args below meth c Z EL own n0 vm0 T h cells slots) (hx : p.tables.exec = Jvm.exec) {a : Addr} {k : ClassId} {z j : Int32} {x : Int64} {vs : List Value} {d : Value} (A : Arv Z h a k .long z vs d) (hj : ¬ j < 0 ∧ j < z) (i : Nat) (hi : j.toNatClampNeg = i) (hlen : i < vs.length) (ha : n0 ≤ a)
    (hg : g.method = m) {rest : List Value} (hs : g.stack = .long x :: .int j :: .ref a :: rest) (hd : decode c.code g.pc = .ok (.lastore, 1)) :
    ∃ T' h', Wk p l e R s m args below meth c Z EL own n0 vm0 T' h' cells slots ∧ Wr h h' a i (.long x) ∧ h'.size = h.size ∧ Arv Z h' a k .long z (vs.set i (.long x)) d ∧ (∀ x, x < h.size → Safe Z EL vm0 h x → Safe Z EL vm0 h' x) ∧
      ∀ target, Steps p.tables e below (T'.setTop { g with pc := g.pc + 1, stack := rest }) target → Steps p.tables e below (T.setTop g) target := by
  have S := W.safeArv A (by decide)
  obtain ⟨locs, rfl, X, eT, hZ, hown, N, O, hEn, hKK⟩ := W
  obtain ⟨cl, A1, q1, q2, q3, q4, q5⟩ := A
  obtain ⟨T', h', X', e', Wr', st⟩ := RoadKit.stJ X hx hZ eT A1 (inb_of q2 hj) hg hs hd
  have Wr2 := Wr'
  rw [hi] at Wr2
  exact ⟨T', h', ⟨_, rfl, X', e', hZ, hown, Fr.snoc X' N ha, O.wr Wr' ha, hEn, hKK⟩, Wr2, Wr'.size, Arv.set A1 q1 q2 q3 q4 q5 rfl Wr' i hi hlen, fun x _ q => own_safe0 hEn, st⟩
theorem Wk.stD (W : Wk p l e R s m args below meth c Z EL own n0 vm0 T h cells slots) (hx : p.tables.exec = Jvm.exec) {a : Addr} {k : ClassId} {z j : Int32} {x : UInt64} {vs : List Value} {d : Value} (A : Arv Z h a k .double z vs d) (hj : ¬ j < 0 ∧ j < z) (i : Nat) (hi : j.toNatClampNeg = i) (hlen : i < vs.length) (ha : n0 ≤ a)
    (hg : g.method = m) {rest : List Value} (hs : g.stack = .double x :: .int j :: .ref a :: rest) (hd : decode c.code g.pc = .ok (.dastore, 1)) :
    ∃ T' h', Wk p l e R s m args below meth c Z EL own n0 vm0 T' h' cells slots ∧ Wr h h' a i (.double x) ∧ h'.size = h.size ∧ Arv Z h' a k .double z (vs.set i (.double x)) d ∧ (∀ x, x < h.size → Safe Z EL vm0 h x → Safe Z EL vm0 h' x) ∧
      ∀ target, Steps p.tables e below (T'.setTop { g with pc := g.pc + 1, stack := rest }) target → Steps p.tables e below (T.setTop g) target := by
  have S := W.safeArv A (by decide)
  obtain ⟨locs, rfl, X, eT, hZ, hown, N, O, hEn, hKK⟩ := W
  obtain ⟨cl, A1, q1, q2, q3, q4, q5⟩ := A
  obtain ⟨T', h', X', e', Wr', st⟩ := RoadKit.stD X hx hZ eT A1 (inb_of q2 hj) hg hs hd
  have Wr2 := Wr'
  rw [hi] at Wr2
  exact ⟨T', h', ⟨_, rfl, X', e', hZ, hown, Fr.snoc X' N ha, O.wr Wr' ha, hEn, hKK⟩, Wr2, Wr'.size, Arv.set A1 q1 q2 q3 q4 q5 rfl Wr' i hi hlen, fun x _ q => own_safe0 hEn, st⟩
theorem Wk.putF (W : Wk p l e R s m args below meth c Z EL own n0 vm0 T h cells slots) (hx : p.tables.exec = Jvm.exec) {R0 O n d C : String} {index kk : Nat} {ty : FieldType} (w : (Cond.fieldLink own index R0 n d).before a0 Z = true) (via : Via Z R0 O n d)
    {a : Addr} {v old : Value} (F : Fld Z h a O n d old) (E : Exa Z h a C) (L : (Cond.lays C O n d).before a0 Z = true ∨ ((Cond.laysFinal C O n d).before a0 Z = true ∧ own = O ∧ meth.name = "<init>")) (wi : (Cond.instantiable C kk).before a0 Z = true)
    (hty : parseFieldDescriptor d = some ty) (hn : narrow ty v = v) (hf : fits ty v = true) (S : Safe Z EL vm0 h a) (ha : n0 ≤ a) (hg : g.method = m) {rest : List Value} (hs : g.stack = v :: .ref a :: rest) (hd : decode c.code g.pc = .ok (.putfield index, 3)) :
    ∃ T' h', Wk p l e R s m args below meth c Z EL own n0 vm0 T' h' cells slots ∧ Wr h h' a (RoadKit.slotOf Z O n d) v ∧ h'.size = h.size ∧ Fld Z h' a O n d v ∧ (∀ x, x < h.size → Safe Z EL vm0 h x → Safe Z EL vm0 h' x) ∧
      ∀ target, Steps p.tables e below (T'.setTop { g with pc := g.pc + 3, stack := rest }) target → Steps p.tables e below (T.setTop g) target := by
  obtain ⟨locs, rfl, X, eT, hZ, hown, N, O', hEn, hKK⟩ := W
  obtain ⟨T', h', X', e', Wr', st⟩ := RoadKit.putF X hx hZ hown (host := "") (Or.inl w) via eT F E L wi hty hn hf hg hs hd
  exact ⟨T', h', ⟨_, rfl, X', e', hZ, hown, Fr.snoc X' N ha, O'.wr Wr' ha, hEn, hKK⟩, Wr', Wr'.size, F.same Wr', fun x _ q => own_safe0 hEn, st⟩
theorem Wk.getF (W : Wk p l e R s m args below meth c Z EL own n0 vm0 T h cells slots) (hx : p.tables.exec = Jvm.exec) {R0 O n d : String} {index : Nat} (w : (Cond.fieldLink own index R0 n d).before a0 Z = true) (via : Via Z R0 O n d) {a : Addr} {v : Value} (F : Fld Z h a O n d v) (hg : g.method = m) {rest : List Value} (hs : g.stack = .ref a :: rest) (hd : decode c.code g.pc = .ok (.getfield index, 3)) :
    ∃ T', Wk p l e R s m args below meth c Z EL own n0 vm0 T' h cells slots ∧ ∀ target, Steps p.tables e below (T'.setTop { g with pc := g.pc + 3, stack := v :: rest }) target → Steps p.tables e below (T.setTop g) target := by
  obtain ⟨locs, rfl, X, eT, hZ, hown, N, O', hEn, hKK⟩ := W
  obtain ⟨T', X', e', st⟩ := RoadKit.getF X hx hZ hown (host := "") (Or.inl w) via eT F hg hs hd
  exact ⟨T', ⟨_, rfl, X', e', hZ, hown, N, O', hEn, hKK⟩, st⟩
theorem Wk.getS (W : Wk p l e R s m args below meth c Z EL own n0 vm0 T h cells slots) (hx : p.tables.exec = Jvm.exec) {R0 O n d : String} {index : Nat} (w : (Cond.fieldLink own index R0 n d).before a0 Z = true) (via : Via Z R0 O n d) {v : Value} (F : Sta Z h O n d v) (hg : g.method = m) (hd : decode c.code g.pc = .ok (.getstatic index, 3)) :
    ∃ T', Wk p l e R s m args below meth c Z EL own n0 vm0 T' h cells slots ∧ ∀ target, Steps p.tables e below (T'.setTop { g with pc := g.pc + 3, stack := v :: g.stack }) target → Steps p.tables e below (T.setTop g) target := by
  obtain ⟨locs, rfl, X, eT, hZ, hown, N, O', hEn, hKK⟩ := W
  obtain ⟨T', X', e', st⟩ := RoadKit.getS (host := "") X hx hZ hown w via eT F hg hd
  exact ⟨T', ⟨_, rfl, X', e', hZ, hown, N, O', hEn, hKK⟩, st⟩
theorem Wk.initO (W : Wk p l e R s m args below meth c Z EL own n0 vm0 T h cells slots) (hx : p.tables.exec = Jvm.exec) {idx : Nat} (w1 : (Cond.methodLink own idx Lib.objectInit).before a0 Z = true) (w2 : (Cond.instanceMethod Lib.objectInit).before a0 Z = true) (w3 : (Cond.code Lib.objectInit ⟨#[0xb1]⟩ 1 none).before a0 Z = true) (hg : g.method = m) (hsize : g.locals.size = c.maxLocals) {a : Addr} {rest : List Value} (hs : g.stack = .ref a :: rest) (hd : decode c.code g.pc = .ok (.invokespecial idx, 3)) (hf : 1 ≤ R.frames) {Wd : Nat} (hW : 2 * g.monitorRoom + (rest.map fun v => v.category).sum ≤ Wd) (hl : Wd + 12 ≤ R.locals) :
    ∃ T', Wk p l e R s m args below meth c Z EL own n0 vm0 T' h cells slots ∧ ∀ target, Steps p.tables e below (T'.setTop { g with pc := g.pc + 3, stack := rest }) target → Steps p.tables e below (T.setTop g) target := by
  obtain ⟨locs, rfl, X, eT, hZ, hown, N, O', hEn, hKK⟩ := W
  obtain ⟨T', X', e', st⟩ := RoadKit.initO X hx hZ hown w1 w2 w3 eT hg hsize hs hd hf hW hl
  exact ⟨T', ⟨_, rfl, X', e', hZ, hown, N, O', hEn, hKK⟩, st⟩
theorem Wk.cast (W : Wk p l e R s m args below meth c Z EL own n0 vm0 T h cells slots) (hx : p.tables.exec = Jvm.exec) {K : String} {index : Nat} (w : (Cond.classLink own index K).before a0 Z = true) {a : Addr} (F : Ins Z h a K true) (hg : g.method = m) {rest : List Value} (hs : g.stack = .ref a :: rest) (hd : decode c.code g.pc = .ok (.checkcast index, 3)) :
    ∃ T', Wk p l e R s m args below meth c Z EL own n0 vm0 T' h cells slots ∧ ∀ target, Steps p.tables e below (T'.setTop { g with pc := g.pc + 3 }) target → Steps p.tables e below (T.setTop g) target := by
  obtain ⟨locs, rfl, X, eT, hZ, hown, N, O', hEn, hKK⟩ := W
  obtain ⟨T', X', e', st⟩ := RoadKit.castY X hx hZ hown w eT F hg hs hd
  exact ⟨T', ⟨_, rfl, X', e', hZ, hown, N, O', hEn, hKK⟩, st⟩
theorem Wk.instY (W : Wk p l e R s m args below meth c Z EL own n0 vm0 T h cells slots) (hx : p.tables.exec = Jvm.exec) {K : String} {index : Nat} (w : (Cond.classLink own index K).before a0 Z = true) {a : Addr} (F : Ins Z h a K true) (hg : g.method = m) {rest : List Value} (hs : g.stack = .ref a :: rest) (hd : decode c.code g.pc = .ok (.instanceof index, 3)) :
    ∃ T', Wk p l e R s m args below meth c Z EL own n0 vm0 T' h cells slots ∧ ∀ target, Steps p.tables e below (T'.setTop { g with pc := g.pc + 3, stack := .int 1 :: rest }) target → Steps p.tables e below (T.setTop g) target := by
  obtain ⟨locs, rfl, X, eT, hZ, hown, N, O', hEn, hKK⟩ := W
  obtain ⟨T', X', e', st⟩ := RoadKit.instY X hx hZ hown w eT F hg hs hd
  exact ⟨T', ⟨_, rfl, X', e', hZ, hown, N, O', hEn, hKK⟩, st⟩
/-- the contract of a callee -/
def Met (l : Launch) (y : MethodName) (bytes : ByteArray) (maxL : Nat) (ret : Option FieldType) (rm : Room) (Z : State) (EL : List (String × Nat)) (n0 : Nat) (ws : List Jvm.Cond) (as' : Array Value) (h : Heap) (Q : Option Value → Heap → Prop) : Prop :=
  MetFree l y (head1 (Jvm.Cond.code y bytes maxL ret :: ws) rm) (fun a U => a = as' ∧ Z.Warmed39 U.vm ∧ U.heap = h) (fun _ _ _ _ _ => True) (fun _ U o U' => ∃ v L, o = .returned v ∧ (Q v U'.heap ∧ Fr n0 L ∧ Old Z n0 U'.heap ∧ h.size ≤ U'.heap.size) ∧ FrameEnd U o U' L rm.cells rm.slots)
/-- the end that a contract asks, as the walk's goal has it -/
def OFin (s : State) (rm : Room) (Z : State) (EL : List (String × Nat)) (n0 : Nat) (Q : Option Value → Heap → Prop) (o : Outcome) (u : State) : Prop := ∃ v L, o = .returned v ∧ (Q v u.heap ∧ Fr n0 L ∧ Old Z n0 u.heap ∧ s.heap.size ≤ u.heap.size) ∧ FrameEnd s o u L rm.cells rm.slots
theorem Met.of {y : MethodName} {bytes : ByteArray} {maxL : Nat} {ret : Option FieldType} {rm : Room} {ws : List Jvm.Cond} {as' : Array Value} {Qb : Option Value → Heap → Prop} (hpl : plainFor y = true) (O : Old Z n0 h) (hEn : EL = [])
    (body : ∀ (p : Program) (e : Env) (s : State) (m : MethodId) (below : List Frame) (meth : Method) (c : Code) (T : State), p.tables.exec = Jvm.exec → c.code = bytes → c.maxLocals = maxL → meth.sig.returnType = ret → meth.locks = false → meth.name = y.name → s.heap = h →
      Wk p l e rm s m as' below meth c Z EL y.cls n0 s.vm T h 0 0 → Go p e below (OFin s rm Z EL n0 Qb) T (entryFrame m as' maxL)) :
    Met l y bytes maxL ret rm Z EL n0 ws as' h Qb := by
  refine MetFree.of_bodySF hpl hisR ?_
  intro p e s m args below meth c s₁ Bd hml hP hK
  obtain ⟨rfl, hZ, hh⟩ := hP
  subst hh
  have hh : s.heap = s.heap := rfl
  have hown : s.vm.findClass y.cls = some m.cls := findClass_of_methodNamed Bd.named
  have X0 : Stand p l e rm s m args below meth c s₁ [] 0 0 := Stand.of_body Bd
  have e0 : s₁.heap = s.heap := by rw [Bd.state]; rfl
  refine body p e s m below meth c s₁ Bd.exec Bd.bytes hml Bd.returns Bd.notSynchronized (name_of_methodNamed Bd.named Bd.method).1 hh ?_
  exact ⟨[], rfl, X0, e0, hZ, hown, Fr.nil _, O, hEn, trivial⟩
/-- the end of a walk -/
theorem Wk.fin {rm : Room} {Qb : Option Value → Heap → Prop} (W : Wk p l e R s m args below meth c Z EL own n0 vm0 T h cells slots) (hEL : EW Z a0 EL) (hlk : meth.locks = false) {v : Option Value} (hv : meth.sig.returnType = none → v = none) (hc : cells ≤ rm.cells) (hs : slots ≤ rm.slots) (hq : Qb v h)
    (st : ∀ fs, (∀ (f : JFrame) (acts : List Action), f.method = m → f.locked = none → f.entered = [] → (doReturn e (T.setTop f) acts v).1 = T.setFrames fs) → Steps p.tables e below (T.setTop g) (T.setFrames fs)) : Go p e below (OFin s rm Z EL n0 Qb) T g := by
  obtain ⟨locs, rfl, X, eT, hZ, hown, N, O, hEn, hKK⟩ := W
  subst eT
  obtain ⟨fs, hr, hrun, hended, hW, hsame⟩ := X.leave (v := v) hv hlk
  exact ⟨T.setFrames fs, .returned v, st fs hr, hrun, hended, v, locs, rfl, ⟨hq, N, O, hsame.2.1⟩, ⟨_, rfl⟩, hW, hsame.mono hc hs⟩
theorem Wk.retN {rm : Room} {Qb : Option Value → Heap → Prop} (W : Wk p l e R s m args below meth c Z EL own n0 vm0 T h cells slots) (hx : p.tables.exec = Jvm.exec) (hEL : EW Z a0 EL) (hlk : meth.locks = false) {pc : Nat} {Ls : Array Slot} {z : Int32} {t : FieldType} {rest : List Value} (hret : meth.sig.returnType = some t) (ht : t = .boolean ∨ t = .byte ∨ t = .char ∨ t = .short)
    (hd : decode c.code pc = .ok (.ireturn, 1)) (hc : cells ≤ rm.cells) (hs : slots ≤ rm.slots) (hq : Qb (some (.int (nar t z))) h) : Go p e below (OFin s rm Z EL n0 Qb) T (mkF m pc Ls (.int z :: rest)) := by
  obtain ⟨locs, X⟩ := W.stand
  exact W.fin hEL hlk (v := some (.int (nar t z))) (fun q => by first | rfl | (rw [hret] at q; cases q)) hc hs hq fun fs hr => RoadKit.retN X hx hret ht hd hr
theorem Wk.retI {rm : Room} {Qb : Option Value → Heap → Prop} (W : Wk p l e R s m args below meth c Z EL own n0 vm0 T h cells slots) (hx : p.tables.exec = Jvm.exec) (hEL : EW Z a0 EL) (hlk : meth.locks = false) {pc : Nat} {Ls : Array Slot} {z : Int32} {rest : List Value} (hret : meth.sig.returnType = some .int)
    (hd : decode c.code pc = .ok (.ireturn, 1)) (hc : cells ≤ rm.cells) (hs : slots ≤ rm.slots) (hq : Qb (some (.int z)) h) : Go p e below (OFin s rm Z EL n0 Qb) T (mkF m pc Ls (.int z :: rest)) := by
  obtain ⟨locs, X⟩ := W.stand
  exact W.fin hEL hlk (v := some (.int z)) (fun q => by first | rfl | (rw [hret] at q; cases q)) hc hs hq fun fs hr => RoadKit.retOut X hx hret rfl (Or.inl ⟨rfl, Or.inl rfl, _, rfl⟩) hd hr
theorem Wk.retJ {rm : Room} {Qb : Option Value → Heap → Prop} (W : Wk p l e R s m args below meth c Z EL own n0 vm0 T h cells slots) (hx : p.tables.exec = Jvm.exec) (hEL : EW Z a0 EL) (hlk : meth.locks = false) {pc : Nat} {Ls : Array Slot} {z : Int64} {rest : List Value} (hret : meth.sig.returnType = some .long)
    (hd : decode c.code pc = .ok (.lreturn, 1)) (hc : cells ≤ rm.cells) (hs : slots ≤ rm.slots) (hq : Qb (some (.long z)) h) : Go p e below (OFin s rm Z EL n0 Qb) T (mkF m pc Ls (.long z :: rest)) := by
  obtain ⟨locs, X⟩ := W.stand
  exact W.fin hEL hlk (v := some (.long z)) (fun q => by first | rfl | (rw [hret] at q; cases q)) hc hs hq fun fs hr => RoadKit.retOut X hx hret rfl (Or.inr (Or.inl ⟨rfl, rfl, _, rfl⟩)) hd hr
theorem Wk.retD {rm : Room} {Qb : Option Value → Heap → Prop} (W : Wk p l e R s m args below meth c Z EL own n0 vm0 T h cells slots) (hx : p.tables.exec = Jvm.exec) (hEL : EW Z a0 EL) (hlk : meth.locks = false) {pc : Nat} {Ls : Array Slot} {z : UInt64} {rest : List Value} (hret : meth.sig.returnType = some .double)
    (hd : decode c.code pc = .ok (.dreturn, 1)) (hc : cells ≤ rm.cells) (hs : slots ≤ rm.slots) (hq : Qb (some (.double z)) h) : Go p e below (OFin s rm Z EL n0 Qb) T (mkF m pc Ls (.double z :: rest)) := by
  obtain ⟨locs, X⟩ := W.stand
  exact W.fin hEL hlk (v := some (.double z)) (fun q => by first | rfl | (rw [hret] at q; cases q)) hc hs hq fun fs hr => RoadKit.retOut X hx hret rfl (Or.inr (Or.inr (Or.inl ⟨rfl, rfl, _, rfl⟩))) hd hr
theorem Wk.retA {rm : Room} {Qb : Option Value → Heap → Prop} (W : Wk p l e R s m args below meth c Z EL own n0 vm0 T h cells slots) (hx : p.tables.exec = Jvm.exec) (hEL : EW Z a0 EL) (hlk : meth.locks = false) {pc : Nat} {Ls : Array Slot} {v : Value} {t : FieldType} {rest : List Value} (hret : meth.sig.returnType = some t) (ht : t.isReference = true) (hn : narrow t v = v) (hv : v.isRef = true)
    (hd : decode c.code pc = .ok (.areturn, 1)) (hc : cells ≤ rm.cells) (hs : slots ≤ rm.slots) (hq : Qb (some v) h) : Go p e below (OFin s rm Z EL n0 Qb) T (mkF m pc Ls (v :: rest)) := by
  obtain ⟨locs, X⟩ := W.stand
  exact W.fin hEL hlk (v := some v) (fun q => by first | rfl | (rw [hret] at q; cases q)) hc hs hq fun fs hr => RoadKit.retOut X hx hret hn (Or.inr (Or.inr (Or.inr (Or.inr ⟨rfl, ht, hv⟩)))) hd hr
theorem Wk.retV {rm : Room} {Qb : Option Value → Heap → Prop} (W : Wk p l e R s m args below meth c Z EL own n0 vm0 T h cells slots) (hx : p.tables.exec = Jvm.exec) (hEL : EW Z a0 EL) (hlk : meth.locks = false) {pc : Nat} {Ls : Array Slot} (hret : meth.sig.returnType = none)
    (hd : decode c.code pc = .ok (.return_, 1)) (hc : cells ≤ rm.cells) (hs : slots ≤ rm.slots) (hq : Qb (none) h) : Go p e below (OFin s rm Z EL n0 Qb) T (mkF m pc Ls []) := by
  obtain ⟨locs, X⟩ := W.stand
  exact W.fin hEL hlk (v := none) (fun q => by first | rfl | (rw [hret] at q; cases q)) hc hs hq fun fs hr => X.returnOut hx hret hd hr
theorem Wk.behind {B : Pt} {rm : Room} {Qb : Option Value → Heap → Prop} {v : Option Value} {locs L : List Loc} (hZ : Z.Warmed39 s.vm) (hown : s.vm.findClass own = some m.cls) (N : Fr n0 locs) (hEn : EL = []) (hKK : True)
    (X : Stand p l e R s m args below meth c B.U B.locs B.cells B.slots) (hq : Qb v B.U.heap ∧ Fr n0 L ∧ Old Z n0 B.U.heap ∧ h.size ≤ B.U.heap.size) (hl : B.locs = locs ++ L) (hc : B.cells = cells + rm.cells) (hs : B.slots = slots + rm.slots) :
    Wk p l e R s m args below meth c Z EL own n0 s.vm B.U B.U.heap (cells + rm.cells) (slots + rm.slots) :=
  ⟨B.locs, rfl, hc ▸ hs ▸ X, rfl, hZ, hown, hl ▸ N.app hq.2.1, hq.2.2.1, hEn, hKK⟩
theorem Wk.callS {y : MethodName} {rm : Room} {as' : Array Value} {Qb : Option Value → Heap → Prop} {bytes : ByteArray} {maxL index : Nat} {ret : Option FieldType} (W : Wk p l e R s m args below meth c Z EL own n0 vm0 T h cells slots) (hx : p.tables.exec = Jvm.exec) (hEL : EW Z a0 EL) (hM : Met l y bytes maxL ret rm Z EL n0 [] as' h Qb)
    (w1 : (Cond.methodLink own index y).before a0 Z = true) (w2 : (Cond.static y).before a0 Z = true) (wz : (Cond.initialized y.cls).before a0 Z = true) (wc : (Cond.code y bytes maxL ret).before a0 Z = true) (hy : y.cls ≠ "java/lang/invoke/MethodHandle" ∧ y.cls ≠ "java/lang/invoke/VarHandle")
    {Wd : Nat} (hf : rm.frames + 1 ≤ R.frames) (hl : Wd + (maxL + 11) + rm.locals ≤ R.locals) (hc : cells + rm.cells ≤ R.cells) (hs : slots + rm.slots ≤ R.slots)
    (hg : g.method = m) (hsize : g.locals.size = c.maxLocals) {argsL rest : List Value} (has : argsL.toArray = as') (hlen : ∀ sig, parseMethodDescriptor y.desc = some sig → argsL.length = sig.parameters.length) (hstack : g.stack = argsL.reverse ++ rest) (hW : 2 * g.monitorRoom + (rest.map fun v => v.category).sum ≤ Wd) (hdg : decode c.code g.pc = .ok (.invokestatic index, 3)) :
    ∃ (v : Option Value) (vm1 : Vm) (T' : State) (h' : Heap), Wk p l e R s m args below meth c Z EL own n0 vm1 T' h' (cells + rm.cells) (slots + rm.slots) ∧ Qb v h' ∧ h.size ≤ h'.size ∧ (∀ x, x < h.size → Safe Z EL vm0 h x → Safe Z EL vm1 h' x) ∧
      Steps p.tables e below (T.setTop g) (T'.setTop { g with pc := g.pc + 3, stack := v.toList ++ rest }) := by
  obtain ⟨locs, rfl, X, eT, hZ, hown, N, O, hEn, hKK⟩ := W
  have hZ' : Z.Warmed39 s.vm := hZ
  have hB := backOf (R := R) (p := p) (e := e) (below := below) (args := args) (len := 3) (W := Wd) (Q := fun v h' L => Qb v h' ∧ Fr n0 L ∧ Old Z n0 h' ∧ h.size ≤ h'.size) hM hZ wc wz hf hl
  obtain ⟨v, vm1, B, -, X', ⟨L, hq, q1, q2, q3⟩, st⟩ := Jvm.LawKit.callS X hx hown (mvT hZ' w1) (mvT hZ' w2) (mvT hZ' wz) (mvT hZ' wc) hy hB hg hsize hlen hstack hW hdg (fun _ _ => ⟨has, eT, hc, hs⟩)
  exact ⟨v, s.vm, B.U, B.U.heap, Wk.behind hZ hown N hEn hKK X' hq q1 q2 q3, hq.1, hq.2.2.2, fun x q r => own_safe0 hEn, st _ (Steps.refl _)⟩
theorem Wk.callI {y : MethodName} {rm : Room} {as' : Array Value} {Qb : Option Value → Heap → Prop} {bytes : ByteArray} {maxL index : Nat} (W : Wk p l e R s m args below meth c Z EL own n0 vm0 T h cells slots) (hx : p.tables.exec = Jvm.exec) (hEL : EW Z a0 EL) (hM : Met l y bytes maxL none rm Z EL n0 [] as' h Qb) (hy1 : y.name = "<init>")
    (w1 : (Cond.methodLink own index y).before a0 Z = true) (w2 : (Cond.instanceMethod y).before a0 Z = true) (wz : (Cond.initialized y.cls).before a0 Z = true) (wc : (Cond.code y bytes maxL none).before a0 Z = true) (hy : y.cls ≠ "java/lang/invoke/MethodHandle" ∧ y.cls ≠ "java/lang/invoke/VarHandle")
    {Wd : Nat} (hf : rm.frames + 1 ≤ R.frames) (hl : Wd + (maxL + 11) + rm.locals ≤ R.locals) (hc : cells + rm.cells ≤ R.cells) (hs : slots + rm.slots ≤ R.slots)
    (hg : g.method = m) (hsize : g.locals.size = c.maxLocals) {a : Addr} {argsL rest : List Value} (has : (.ref a :: argsL).toArray = as') (hlen : ∀ sig, parseMethodDescriptor y.desc = some sig → argsL.length = sig.parameters.length) (hstack : g.stack = argsL.reverse ++ .ref a :: rest) (hW : 2 * g.monitorRoom + (rest.map fun v => v.category).sum ≤ Wd) (hdg : decode c.code g.pc = .ok (.invokespecial index, 3)) :
    ∃ (v : Option Value) (vm1 : Vm) (T' : State) (h' : Heap), Wk p l e R s m args below meth c Z EL own n0 vm1 T' h' (cells + rm.cells) (slots + rm.slots) ∧ Qb v h' ∧ h.size ≤ h'.size ∧ (∀ x, x < h.size → Safe Z EL vm0 h x → Safe Z EL vm1 h' x) ∧
      Steps p.tables e below (T.setTop g) (T'.setTop { g with pc := g.pc + 3, stack := v.toList ++ rest }) := by
  obtain ⟨locs, rfl, X, eT, hZ, hown, N, O, hEn, hKK⟩ := W
  have hZ' : Z.Warmed39 s.vm := hZ
  have hB := backOf (R := R) (p := p) (e := e) (below := below) (args := args) (len := 3) (W := Wd) (Q := fun v h' L => Qb v h' ∧ Fr n0 L ∧ Old Z n0 h' ∧ h.size ≤ h'.size) hM hZ wc wz hf hl
  obtain ⟨v, vm1, B, -, X', ⟨L, hq, q1, q2, q3⟩, st⟩ := Stand.specialBack X hx hy1 hown (mvT hZ' w1) (mvT hZ' w2) (mvT hZ' wc) hy hB hg hsize (Steps.refl _) hlen hstack hW hdg (fun _ _ => ⟨has, eT, hc, hs⟩)
  exact ⟨v, s.vm, B.U, B.U.heap, Wk.behind hZ hown N hEn hKK X' hq q1 q2 q3, hq.1, hq.2.2.2, fun x q r => own_safe0 hEn, st⟩
theorem Wk.callV {y : MethodName} {C : String} {rm : Room} {as' : Array Value} {Qb : Option Value → Heap → Prop} {bytes : ByteArray} {maxL index : Nat} {ret : Option FieldType} (W : Wk p l e R s m args below meth c Z EL own n0 vm0 T h cells slots) (hx : p.tables.exec = Jvm.exec) (hEL : EW Z a0 EL) (hM : Met l y bytes maxL ret rm Z EL n0 [] as' h Qb)
    (w1 : (Cond.methodLink own index y).before a0 Z = true) (w2 : (Cond.declares y).before a0 Z = true) (w3 : (Cond.selects C y y).before a0 Z = true) (w4 : (Cond.instanceMethod y).before a0 Z = true) (wz : (Cond.initialized y.cls).before a0 Z = true) (wc : (Cond.code y bytes maxL ret).before a0 Z = true) (hy : y.cls ≠ "java/lang/invoke/MethodHandle" ∧ y.cls ≠ "java/lang/invoke/VarHandle")
    {Wd : Nat} (hf : rm.frames + 1 ≤ R.frames) (hl : Wd + (maxL + 11) + rm.locals ≤ R.locals) (hc : cells + rm.cells ≤ R.cells) (hs : slots + rm.slots ≤ R.slots)
    (hg : g.method = m) (hsize : g.locals.size = c.maxLocals) {a : Addr} (E : Exa Z h a C) {argsL rest : List Value} (has : (.ref a :: argsL).toArray = as') (hlen : ∀ sig, parseMethodDescriptor y.desc = some sig → argsL.length = sig.parameters.length) (hstack : g.stack = argsL.reverse ++ .ref a :: rest) (hW : 2 * g.monitorRoom + (rest.map fun v => v.category).sum ≤ Wd) (hdg : decode c.code g.pc = .ok (.invokevirtual index, 3)) :
    ∃ (v : Option Value) (vm1 : Vm) (T' : State) (h' : Heap), Wk p l e R s m args below meth c Z EL own n0 vm1 T' h' (cells + rm.cells) (slots + rm.slots) ∧ Qb v h' ∧ h.size ≤ h'.size ∧ (∀ x, x < h.size → Safe Z EL vm0 h x → Safe Z EL vm1 h' x) ∧
      Steps p.tables e below (T.setTop g) (T'.setTop { g with pc := g.pc + 3, stack := v.toList ++ rest }) := by
  obtain ⟨locs, rfl, X, eT, hZ, hown, N, O, hEn, hKK⟩ := W
  have hZ' : Z.Warmed39 s.vm := hZ
  have hB := backOf (R := R) (p := p) (e := e) (below := below) (args := args) (len := 3) (W := Wd) (Q := fun v h' L => Qb v h' ∧ Fr n0 L ∧ Old Z n0 h' ∧ h.size ≤ h'.size) hM hZ wc wz hf hl
  obtain ⟨cB, kB, i1, i2, i3⟩ := isOf (s := s) hZ' eT E
  obtain ⟨v, vm1, B, -, X', ⟨L, hq, q1, q2, q3⟩, st⟩ := Stand.virtualBack X hx hown (mvT hZ' w1) (mvT hZ' w2) (notFace_of_selects (args := #[]) (mvT hZ' w3)) (mvT hZ' w3) (mvT hZ' w4) hy hB i1 i3 hg hsize (Steps.refl _) hlen hstack hW hdg (fun _ _ => ⟨has, eT, hc, hs⟩)
  exact ⟨v, s.vm, B.U, B.U.heap, Wk.behind hZ hown N hEn hKK X' hq q1 q2 q3, hq.1, hq.2.2.2, fun x q r => own_safe0 hEn, st⟩
theorem Wk.callU {y : MethodName} {z : MethodName} {C owner : String} {rm : Room} {as' : Array Value} {Qb : Option Value → Heap → Prop} {bytes : ByteArray} {maxL index : Nat} {ret : Option FieldType} (W : Wk p l e R s m args below meth c Z EL own n0 vm0 T h cells slots) (hx : p.tables.exec = Jvm.exec) (hEL : EW Z a0 EL) (hM : Met l z bytes maxL ret rm Z EL n0 [] as' h Qb)
    (w1 : (Cond.methodLink own index y).before a0 Z = true) (wsm : (Cond.sameMethod y.cls owner y.name y.desc).before a0 Z = true) (w2 : (Cond.declares ⟨owner, y.name, y.desc⟩).before a0 Z = true) (ho : owner ≠ "java/lang/invoke/MethodHandle" ∧ owner ≠ "java/lang/invoke/VarHandle") (w3 : (Cond.selects C y z).before a0 Z = true) (w4 : (Cond.instanceMethod z).before a0 Z = true) (wz : (Cond.initialized z.cls).before a0 Z = true) (wc : (Cond.code z bytes maxL ret).before a0 Z = true)
    {Wd : Nat} (hf : rm.frames + 1 ≤ R.frames) (hl : Wd + (maxL + 11) + rm.locals ≤ R.locals) (hc : cells + rm.cells ≤ R.cells) (hs : slots + rm.slots ≤ R.slots)
    (hg : g.method = m) (hsize : g.locals.size = c.maxLocals) {a : Addr} (E : Exa Z h a C) {argsL rest : List Value} (has : (.ref a :: argsL).toArray = as') (hlen : ∀ sig, parseMethodDescriptor y.desc = some sig → argsL.length = sig.parameters.length) (hstack : g.stack = argsL.reverse ++ .ref a :: rest) (hW : 2 * g.monitorRoom + (rest.map fun v => v.category).sum ≤ Wd) (hdg : decode c.code g.pc = .ok (.invokevirtual index, 3)) :
    ∃ (v : Option Value) (vm1 : Vm) (T' : State) (h' : Heap), Wk p l e R s m args below meth c Z EL own n0 vm1 T' h' (cells + rm.cells) (slots + rm.slots) ∧ Qb v h' ∧ h.size ≤ h'.size ∧ (∀ x, x < h.size → Safe Z EL vm0 h x → Safe Z EL vm1 h' x) ∧
      Steps p.tables e below (T.setTop g) (T'.setTop { g with pc := g.pc + 3, stack := v.toList ++ rest }) := by
  obtain ⟨locs, rfl, X, eT, hZ, hown, N, O, hEn, hKK⟩ := W
  have hZ' : Z.Warmed39 s.vm := hZ
  have hB := backOf (R := R) (p := p) (e := e) (below := below) (args := args) (len := 3) (W := Wd) (Q := fun v h' L => Qb v h' ∧ Fr n0 L ∧ Old Z n0 h' ∧ h.size ≤ h'.size) hM hZ wc wz hf hl
  obtain ⟨cB, kB, i1, i2, i3⟩ := isOf (s := s) hZ' eT E
  obtain ⟨v, vm1, B, -, X', ⟨L, hq, q1, q2, q3⟩, st⟩ := X.virtualBackUp hx hown (mvT hZ' w1) (mvT hZ' wsm) (mvT hZ' w2) ho (mvT hZ' w3) (mvT hZ' w4) hB i1 i3 hg hsize (Steps.refl _) hlen hstack hW hdg (fun _ _ => ⟨has, eT, hc, hs⟩)
  exact ⟨v, s.vm, B.U, B.U.heap, Wk.behind hZ hown N hEn hKK X' hq q1 q2 q3, hq.1, hq.2.2.2, fun x q r => own_safe0 hEn, st⟩
theorem Wk.paySt {y : MethodName} {as' : Array Value} {Qb : Option Value → Heap → List Loc → Prop} {bytes : ByteArray} {maxL : Nat} {ret : Option FieldType} {k n index : Nat} {ws : List Addr} (W : Wk p l e R s m args below meth c Z EL own n0 vm0 T h cells slots) (hx : p.tables.exec = Jvm.exec)
    (w1 : (Cond.methodLink own index y).before a0 Z = true) (w2 : (Cond.static y).before a0 Z = true) (wz : (Cond.initialized y.cls).before a0 Z = true) (wc : (Cond.code y bytes maxL ret).before a0 Z = true) (hy : y.cls ≠ "java/lang/invoke/MethodHandle" ∧ y.cls ≠ "java/lang/invoke/VarHandle")
    {Wd : Nat} (hB : Back l R p e below s args y 3 Wd (fun A a => a = as' ∧ A.U.heap = h ∧ A.cells + k ≤ R.cells ∧ A.slots + n ≤ R.slots) (fun A _ v B => ∃ L, Qb v B.U.heap L ∧ B.locs = A.locs ++ L ∧ B.cells = A.cells + k ∧ B.slots = A.slots + n))
    (hQ : ∀ v h' L, Qb v h' L → Keep h h' ws ∧ Fr n0 L) (sf : ∀ x ∈ ws, Safe Z EL vm0 h x) (sn : ∀ x ∈ ws, n0 ≤ x) (hc : cells + k ≤ R.cells) (hs : slots + n ≤ R.slots)
    (hg : g.method = m) (hsize : g.locals.size = c.maxLocals) {argsL rest : List Value} (has : argsL.toArray = as') (hlen : ∀ sig, parseMethodDescriptor y.desc = some sig → argsL.length = sig.parameters.length) (hstack : g.stack = argsL.reverse ++ rest) (hW : 2 * g.monitorRoom + (rest.map fun v => v.category).sum ≤ Wd) (hdg : decode c.code g.pc = .ok (.invokestatic index, 3)) :
    ∃ (v : Option Value) (T' : State) (h' : Heap) (L : List Loc), Wk p l e R s m args below meth c Z EL own n0 vm0 T' h' (cells + k) (slots + n) ∧ Qb v h' L ∧ h.size ≤ h'.size ∧ (∀ x, x < h.size → Safe Z EL vm0 h x → Safe Z EL vm0 h' x) ∧
      Steps p.tables e below (T.setTop g) (T'.setTop { g with pc := g.pc + 3, stack := v.toList ++ rest }) := by
  obtain ⟨locs, rfl, X, eT, hZ, hown, N, O, hEn, hKK⟩ := W
  have hZ' : Z.Warmed39 s.vm := hZ
  obtain ⟨v, vm1, B, -, X', ⟨L, hq, q1, q2, q3⟩, st⟩ := Jvm.LawKit.callS X hx hown (mvT hZ' w1) (mvT hZ' w2) (mvT hZ' wz) (mvT hZ' wc) hy hB hg hsize hlen hstack hW hdg (fun _ _ => ⟨has, eT, hc, hs⟩)
  obtain ⟨K, NL⟩ := hQ _ _ _ hq
  have W' : Wk p l e R s m args below meth c Z EL own n0 s.vm B.U B.U.heap (cells + k) (slots + n) := ⟨B.locs, rfl, q2 ▸ q3 ▸ X', rfl, hZ, hown, q1 ▸ N.app NL, O.keep K sn, hEn, hKK⟩
  have sf' : ∀ x, x < h.size → Safe Z EL s.vm h x → Safe Z EL s.vm B.U.heap x := fun x _ _ => own_safe0 hEn
  exact ⟨v, B.U, B.U.heap, L, W', hq, K.1, sf', st _ (Steps.refl _)⟩
theorem Wk.paySp {y : MethodName} {as' : Array Value} {Qb : Option Value → Heap → List Loc → Prop} {bytes : ByteArray} {maxL : Nat} {k n index : Nat} {ws : List Addr} (W : Wk p l e R s m args below meth c Z EL own n0 vm0 T h cells slots) (hx : p.tables.exec = Jvm.exec) (hy1 : y.name = "<init>")
    (w1 : (Cond.methodLink own index y).before a0 Z = true) (w2 : (Cond.instanceMethod y).before a0 Z = true) (wc : (Cond.code y bytes maxL none).before a0 Z = true) (hy : y.cls ≠ "java/lang/invoke/MethodHandle" ∧ y.cls ≠ "java/lang/invoke/VarHandle")
    {Wd : Nat} (hB : Back l R p e below s args y 3 Wd (fun A a => a = as' ∧ A.U.heap = h ∧ A.cells + k ≤ R.cells ∧ A.slots + n ≤ R.slots) (fun A _ v B => ∃ L, Qb v B.U.heap L ∧ B.locs = A.locs ++ L ∧ B.cells = A.cells + k ∧ B.slots = A.slots + n))
    (hQ : ∀ v h' L, Qb v h' L → Keep h h' ws ∧ Fr n0 L) (sf : ∀ x ∈ ws, Safe Z EL vm0 h x) (sn : ∀ x ∈ ws, n0 ≤ x) (hc : cells + k ≤ R.cells) (hs : slots + n ≤ R.slots)
    (hg : g.method = m) (hsize : g.locals.size = c.maxLocals) {a : Addr} {argsL rest : List Value} (has : (.ref a :: argsL).toArray = as') (hlen : ∀ sig, parseMethodDescriptor y.desc = some sig → argsL.length = sig.parameters.length) (hstack : g.stack = argsL.reverse ++ .ref a :: rest) (hW : 2 * g.monitorRoom + (rest.map fun v => v.category).sum ≤ Wd) (hdg : decode c.code g.pc = .ok (.invokespecial index, 3)) :
    ∃ (v : Option Value) (T' : State) (h' : Heap) (L : List Loc), Wk p l e R s m args below meth c Z EL own n0 vm0 T' h' (cells + k) (slots + n) ∧ Qb v h' L ∧ h.size ≤ h'.size ∧ (∀ x, x < h.size → Safe Z EL vm0 h x → Safe Z EL vm0 h' x) ∧
      Steps p.tables e below (T.setTop g) (T'.setTop { g with pc := g.pc + 3, stack := v.toList ++ rest }) := by
  obtain ⟨locs, rfl, X, eT, hZ, hown, N, O, hEn, hKK⟩ := W
  have hZ' : Z.Warmed39 s.vm := hZ
  obtain ⟨v, vm1, B, -, X', ⟨L, hq, q1, q2, q3⟩, st⟩ := Stand.specialBack X hx hy1 hown (mvT hZ' w1) (mvT hZ' w2) (mvT hZ' wc) hy hB hg hsize (Steps.refl _) hlen hstack hW hdg (fun _ _ => ⟨has, eT, hc, hs⟩)
  obtain ⟨K, NL⟩ := hQ _ _ _ hq
  have W' : Wk p l e R s m args below meth c Z EL own n0 s.vm B.U B.U.heap (cells + k) (slots + n) := ⟨B.locs, rfl, q2 ▸ q3 ▸ X', rfl, hZ, hown, q1 ▸ N.app NL, O.keep K sn, hEn, hKK⟩
  have sf' : ∀ x, x < h.size → Safe Z EL s.vm h x → Safe Z EL s.vm B.U.heap x := fun x _ _ => own_safe0 hEn
  exact ⟨v, B.U, B.U.heap, L, W', hq, K.1, sf', st⟩
theorem Wk.payVi {y : MethodName} {C : String} {as' : Array Value} {Qb : Option Value → Heap → List Loc → Prop} {k n index : Nat} {ws : List Addr} (W : Wk p l e R s m args below meth c Z EL own n0 vm0 T h cells slots) (hx : p.tables.exec = Jvm.exec)
    (w1 : (Cond.methodLink own index y).before a0 Z = true) (w2 : (Cond.declares y).before a0 Z = true) (w3 : (Cond.selects C y y).before a0 Z = true) (w4 : (Cond.instanceMethod y).before a0 Z = true) (hy : y.cls ≠ "java/lang/invoke/MethodHandle" ∧ y.cls ≠ "java/lang/invoke/VarHandle")
    {Wd : Nat} (hB : Back l R p e below s args y 3 Wd (fun A a => a = as' ∧ A.U.heap = h ∧ A.cells + k ≤ R.cells ∧ A.slots + n ≤ R.slots) (fun A _ v B => ∃ L, Qb v B.U.heap L ∧ B.locs = A.locs ++ L ∧ B.cells = A.cells + k ∧ B.slots = A.slots + n))
    (hQ : ∀ v h' L, Qb v h' L → Keep h h' ws ∧ Fr n0 L) (sf : ∀ x ∈ ws, Safe Z EL vm0 h x) (sn : ∀ x ∈ ws, n0 ≤ x) (hc : cells + k ≤ R.cells) (hs : slots + n ≤ R.slots)
    (hg : g.method = m) (hsize : g.locals.size = c.maxLocals) {a : Addr} (E : Exa Z h a C) {argsL rest : List Value} (has : (.ref a :: argsL).toArray = as') (hlen : ∀ sig, parseMethodDescriptor y.desc = some sig → argsL.length = sig.parameters.length) (hstack : g.stack = argsL.reverse ++ .ref a :: rest) (hW : 2 * g.monitorRoom + (rest.map fun v => v.category).sum ≤ Wd) (hdg : decode c.code g.pc = .ok (.invokevirtual index, 3)) :
    ∃ (v : Option Value) (T' : State) (h' : Heap) (L : List Loc), Wk p l e R s m args below meth c Z EL own n0 vm0 T' h' (cells + k) (slots + n) ∧ Qb v h' L ∧ h.size ≤ h'.size ∧ (∀ x, x < h.size → Safe Z EL vm0 h x → Safe Z EL vm0 h' x) ∧
      Steps p.tables e below (T.setTop g) (T'.setTop { g with pc := g.pc + 3, stack := v.toList ++ rest }) := by
  obtain ⟨locs, rfl, X, eT, hZ, hown, N, O, hEn, hKK⟩ := W
  have hZ' : Z.Warmed39 s.vm := hZ
  obtain ⟨cB, kB, i1, i2, i3⟩ := isOf (s := s) hZ' eT E
  obtain ⟨v, vm1, B, -, X', ⟨L, hq, q1, q2, q3⟩, st⟩ := Stand.virtualBack X hx hown (mvT hZ' w1) (mvT hZ' w2) (notFace_of_selects (args := #[]) (mvT hZ' w3)) (mvT hZ' w3) (mvT hZ' w4) hy hB i1 i3 hg hsize (Steps.refl _) hlen hstack hW hdg (fun _ _ => ⟨has, eT, hc, hs⟩)
  obtain ⟨K, NL⟩ := hQ _ _ _ hq
  have W' : Wk p l e R s m args below meth c Z EL own n0 s.vm B.U B.U.heap (cells + k) (slots + n) := ⟨B.locs, rfl, q2 ▸ q3 ▸ X', rfl, hZ, hown, q1 ▸ N.app NL, O.keep K sn, hEn, hKK⟩
  have sf' : ∀ x, x < h.size → Safe Z EL s.vm h x → Safe Z EL s.vm B.U.heap x := fun x _ _ => own_safe0 hEn
  exact ⟨v, B.U, B.U.heap, L, W', hq, K.1, sf', st⟩
theorem Wk.payUp {y z : MethodName} {C owner : String} {as' : Array Value} {Qb : Option Value → Heap → List Loc → Prop} {k n index : Nat} {ws : List Addr} (W : Wk p l e R s m args below meth c Z EL own n0 vm0 T h cells slots) (hx : p.tables.exec = Jvm.exec)
    (w1 : (Cond.methodLink own index y).before a0 Z = true) (wsm : (Cond.sameMethod y.cls owner y.name y.desc).before a0 Z = true) (w2 : (Cond.declares ⟨owner, y.name, y.desc⟩).before a0 Z = true) (ho : owner ≠ "java/lang/invoke/MethodHandle" ∧ owner ≠ "java/lang/invoke/VarHandle") (w3 : (Cond.selects C y z).before a0 Z = true) (w4 : (Cond.instanceMethod z).before a0 Z = true) (hy : y.cls ≠ "java/lang/invoke/MethodHandle" ∧ y.cls ≠ "java/lang/invoke/VarHandle")
    {Wd : Nat} (hB : Back l R p e below s args z 3 Wd (fun A a => a = as' ∧ A.U.heap = h ∧ A.cells + k ≤ R.cells ∧ A.slots + n ≤ R.slots) (fun A _ v B => ∃ L, Qb v B.U.heap L ∧ B.locs = A.locs ++ L ∧ B.cells = A.cells + k ∧ B.slots = A.slots + n))
    (hQ : ∀ v h' L, Qb v h' L → Keep h h' ws ∧ Fr n0 L) (sf : ∀ x ∈ ws, Safe Z EL vm0 h x) (sn : ∀ x ∈ ws, n0 ≤ x) (hc : cells + k ≤ R.cells) (hs : slots + n ≤ R.slots)
    (hg : g.method = m) (hsize : g.locals.size = c.maxLocals) {a : Addr} (E : Exa Z h a C) {argsL rest : List Value} (has : (.ref a :: argsL).toArray = as') (hlen : ∀ sig, parseMethodDescriptor y.desc = some sig → argsL.length = sig.parameters.length) (hstack : g.stack = argsL.reverse ++ .ref a :: rest) (hW : 2 * g.monitorRoom + (rest.map fun v => v.category).sum ≤ Wd) (hdg : decode c.code g.pc = .ok (.invokevirtual index, 3)) :
    ∃ (v : Option Value) (T' : State) (h' : Heap) (L : List Loc), Wk p l e R s m args below meth c Z EL own n0 vm0 T' h' (cells + k) (slots + n) ∧ Qb v h' L ∧ h.size ≤ h'.size ∧ (∀ x, x < h.size → Safe Z EL vm0 h x → Safe Z EL vm0 h' x) ∧
      Steps p.tables e below (T.setTop g) (T'.setTop { g with pc := g.pc + 3, stack := v.toList ++ rest }) := by
  obtain ⟨locs, rfl, X, eT, hZ, hown, N, O, hEn, hKK⟩ := W
  have hZ' : Z.Warmed39 s.vm := hZ
  obtain ⟨cB, kB, i1, i2, i3⟩ := isOf (s := s) hZ' eT E
  obtain ⟨v, vm1, B, -, X', ⟨L, hq, q1, q2, q3⟩, st⟩ := X.virtualBackUp hx hown (mvT hZ' w1) (mvT hZ' wsm) (mvT hZ' w2) ho (mvT hZ' w3) (mvT hZ' w4) hB i1 i3 hg hsize (Steps.refl _) hlen hstack hW hdg (fun _ _ => ⟨has, eT, hc, hs⟩)
  obtain ⟨K, NL⟩ := hQ _ _ _ hq
  have W' : Wk p l e R s m args below meth c Z EL own n0 s.vm B.U B.U.heap (cells + k) (slots + n) := ⟨B.locs, rfl, q2 ▸ q3 ▸ X', rfl, hZ, hown, q1 ▸ N.app NL, O.keep K sn, hEn, hKK⟩
  have sf' : ∀ x, x < h.size → Safe Z EL s.vm h x → Safe Z EL s.vm B.U.heap x := fun x _ _ => own_safe0 hEn
  exact ⟨v, B.U, B.U.heap, L, W', hq, K.1, sf', st⟩
theorem Wk.len (W : Wk p l e R s m args below meth c Z EL own n0 vm0 T h cells slots) (hx : p.tables.exec = Jvm.exec) {a : Addr} {k : ClassId} {ty : FieldType} {z : Int32} {vs : List Value} {d : Value} (A : Arv Z h a k ty z vs d)
    (hg : g.method = m) {rest : List Value} (hs : g.stack = .ref a :: rest) (hd : decode c.code g.pc = .ok (.arraylength, 1)) :
    ∀ target, Steps p.tables e below (T.setTop { g with pc := g.pc + 1, stack := .int z :: rest }) target → Steps p.tables e below (T.setTop g) target := fun target k => by
  obtain ⟨locs, X⟩ := W.stand
  obtain ⟨cl, A1, q1, q2, q3, -⟩ := A
  refine X.arraylength hx (by rw [W.heap]; exact A1.1) (State.isArrayOf_alike W.warmS.alike A1.2.1) (g := g) hg hs hd _ ?_
  rw [len_of q2 q3]; exact k
theorem Wk.ldC (W : Wk p l e R s m args below meth c Z EL own n0 vm0 T h cells slots) (hx : p.tables.exec = Jvm.exec) {a : Addr} {k : ClassId} {z j : Int32} {vs : List Value} {d : Value} (A : Arv Z h a k .char z vs d) (hj : ¬ j < 0 ∧ j < z) {v : Value} (hv : vs.getD j.toNatClampNeg d = v)
    (hg : g.method = m) {rest : List Value} (hs : g.stack = .int j :: .ref a :: rest) (hd : decode c.code g.pc = .ok (.caload, 1)) :
    ∀ target, Steps p.tables e below (T.setTop { g with pc := g.pc + 1, stack := v :: rest }) target → Steps p.tables e below (T.setTop g) target := fun target k => by
  obtain ⟨locs, X⟩ := W.stand
  obtain ⟨cl, A1, q1, q2, q3, q4, -⟩ := A
  exact X.caload hx (by rw [W.heap]; exact A1.1) (State.isArrayOf_alike W.warmS.alike A1.2.1) A1.2.2 (inb_of q2 hj) (q4.at (inb_of q2 hj) hv) hg hs hd _ k
theorem Wk.ldB (W : Wk p l e R s m args below meth c Z EL own n0 vm0 T h cells slots) (hx : p.tables.exec = Jvm.exec) {a : Addr} {k : ClassId} {z j : Int32} {vs : List Value} {d : Value} (A : Arv Z h a k .byte z vs d) (hj : ¬ j < 0 ∧ j < z) {v : Value} (hv : vs.getD j.toNatClampNeg d = v)
    (hg : g.method = m) {rest : List Value} (hs : g.stack = .int j :: .ref a :: rest) (hd : decode c.code g.pc = .ok (.baload, 1)) :
    ∀ target, Steps p.tables e below (T.setTop { g with pc := g.pc + 1, stack := v :: rest }) target → Steps p.tables e below (T.setTop g) target := fun target k => by
  obtain ⟨locs, X⟩ := W.stand
  obtain ⟨cl, A1, q1, q2, q3, q4, -⟩ := A
  exact X.baloadBytes hx (by rw [W.heap]; exact A1.1) (State.isArrayOf_alike W.warmS.alike A1.2.1) A1.2.2 (inb_of q2 hj) (q4.at (inb_of q2 hj) hv) hg hs hd _ k
theorem Wk.ldI (W : Wk p l e R s m args below meth c Z EL own n0 vm0 T h cells slots) (hx : p.tables.exec = Jvm.exec) {a : Addr} {k : ClassId} {z j : Int32} {vs : List Value} {d : Value} (A : Arv Z h a k .int z vs d) (hj : ¬ j < 0 ∧ j < z) {v : Value} (hv : vs.getD j.toNatClampNeg d = v)
    (hg : g.method = m) {rest : List Value} (hs : g.stack = .int j :: .ref a :: rest) (hd : decode c.code g.pc = .ok (.iaload, 1)) :
    ∀ target, Steps p.tables e below (T.setTop { g with pc := g.pc + 1, stack := v :: rest }) target → Steps p.tables e below (T.setTop g) target := fun target k => by
  obtain ⟨locs, X⟩ := W.stand
  obtain ⟨cl, A1, q1, q2, q3, q4, -⟩ := A
  exact X.iaload hx (by rw [W.heap]; exact A1.1) (State.isArrayOf_alike W.warmS.alike A1.2.1) A1.2.2 (inb_of q2 hj) (q4.at (inb_of q2 hj) hv) hg hs hd _ k
theorem Wk.ldD (W : Wk p l e R s m args below meth c Z EL own n0 vm0 T h cells slots) (hx : p.tables.exec = Jvm.exec) {a : Addr} {k : ClassId} {z j : Int32} {vs : List Value} {d : Value} (A : Arv Z h a k .double z vs d) (hj : ¬ j < 0 ∧ j < z) {v : Value} (hv : vs.getD j.toNatClampNeg d = v)
    (hg : g.method = m) {rest : List Value} (hs : g.stack = .int j :: .ref a :: rest) (hd : decode c.code g.pc = .ok (.daload, 1)) :
    ∀ target, Steps p.tables e below (T.setTop { g with pc := g.pc + 1, stack := v :: rest }) target → Steps p.tables e below (T.setTop g) target := fun target k => by
  obtain ⟨locs, X⟩ := W.stand
  obtain ⟨cl, A1, q1, q2, q3, q4, -⟩ := A
  exact X.daload hx (by rw [W.heap]; exact A1.1) (State.isArrayOf_alike W.warmS.alike A1.2.1) A1.2.2 (inb_of q2 hj) (q4.at (inb_of q2 hj) hv) hg hs hd _ k
theorem Wk.ldA (W : Wk p l e R s m args below meth c Z EL own n0 vm0 T h cells slots) (hx : p.tables.exec = Jvm.exec) {a : Addr} {k : ClassId} {ty : FieldType} {z j : Int32} {vs : List Value} {d : Value} (A : Arv Z h a k ty z vs d) (hty : ty.isReference = true) (hj : ¬ j < 0 ∧ j < z) {v : Value} (hv : vs.getD j.toNatClampNeg d = v)
    (hg : g.method = m) {rest : List Value} (hs : g.stack = .int j :: .ref a :: rest) (hd : decode c.code g.pc = .ok (.aaload, 1)) :
    ∀ target, Steps p.tables e below (T.setTop { g with pc := g.pc + 1, stack := v :: rest }) target → Steps p.tables e below (T.setTop g) target := fun target k => by
  obtain ⟨locs, X⟩ := W.stand
  obtain ⟨cl, A1, q1, q2, q3, q4, -⟩ := A
  exact X.aaload hx (by rw [W.heap]; exact A1.1) (State.isArrayOf_alike W.warmS.alike A1.2.1) hty A1.2.2 (inb_of q2 hj) (q4.at (inb_of q2 hj) hv) hg hs hd _ k
theorem Wk.clone (W : Wk p l e R s m args below meth c Z EL own n0 vm0 T h cells slots) (hx : p.tables.exec = Jvm.exec) {ad : String} {index : Nat} (w1 : (Cond.methodLink own index ⟨ad, "clone", "()Ljava/lang/Object;"⟩).before a0 Z = true) (w2 : (Cond.sameMethod ad "java/lang/Object" "clone" "()Ljava/lang/Object;").before a0 Z = true) (w3 : (Cond.native ⟨"java/lang/Object", "clone", "()Ljava/lang/Object;"⟩).before a0 Z = true)
    (w4 : (Cond.instanceMethod ⟨"java/lang/Object", "clone", "()Ljava/lang/Object;"⟩).before a0 Z = true) (w5 : (Cond.selects ad ⟨ad, "clone", "()Ljava/lang/Object;"⟩ ⟨"java/lang/Object", "clone", "()Ljava/lang/Object;"⟩).before a0 Z = true) (w6 : (Cond.castable ad "java/lang/Cloneable").before a0 Z = true)
    {a : Addr} {k : ClassId} {ty : FieldType} {z : Int32} {vs : List Value} {dv : Value} (F : Arv Z h a k ty z vs dv) (E : Exa Z h a ad) (hg : g.method = m) (hsize : g.locals.size = c.maxLocals) {rest : List Value} (hst : g.stack = .ref a :: rest) (hd : decode c.code g.pc = .ok (.invokevirtual index, 3))
    (hf : 1 ≤ R.frames) {Wd cap : Nat} (hW : 2 * g.monitorRoom + (rest.map fun v => v.category).sum ≤ Wd) (hl : Wd + 14 ≤ R.locals) (hcap : z.toNatClampNeg ≤ cap) (hc : cells + 1 ≤ R.cells) (hsl : slots + cap ≤ R.slots) :
    ∃ T' h' b, b = h.size ∧ Wk p l e R s m args below meth c Z EL own n0 vm0 T' h' (cells + 1) (slots + cap) ∧ Ext h h' ∧ h.size < h'.size ∧ Arv Z h' b k ty z vs dv ∧ Exa Z h' b ad ∧ Safe Z EL vm0 h' b ∧ (∀ x, x < h.size → Safe Z EL vm0 h x → Safe Z EL vm0 h' x) ∧
      ∀ target, Steps p.tables e below (T'.setTop { g with pc := g.pc + 3, stack := .ref b :: rest }) target → Steps p.tables e below (T.setTop g) target := by
  obtain ⟨locs, rfl, X, eT, hZ, hown, N, O, hEn, hKK⟩ := W
  obtain ⟨T', h', X', e', E1, A, E2, st⟩ := RoadKit.cloneH X hx hZ hown w1 w2 w3 w4 w5 w6 eT F.arh E hg hsize hst hd hf hW hl hcap hc hsl
  exact ⟨T', h', h.size, rfl, ⟨_, rfl, X', e', hZ, hown, N, O.ext E1, hEn, hKK⟩, E1, E2.lt, A, E2, own_safe0 hEn, fun x _ q => own_safe0 hEn, st⟩
/-- System.arraycopy between arrays of one primitive kind -/
theorem Wk.copy (W : Wk p l e R s m args below meth c Z EL own n0 vm0 T h cells slots) (hx : p.tables.exec = Jvm.exec) {index : Nat} (w1 : (Cond.methodLink own index Jvm.Stand.acN).before a0 Z = true) (w2 : (Cond.native Jvm.Stand.acN).before a0 Z = true) (w3 : (Cond.static Jvm.Stand.acN).before a0 Z = true) (w4 : (Cond.initialized "java/lang/System").before a0 Z = true)
    {a b : Addr} {k k' : ClassId} {ty : FieldType} {z z' sp dp nn : Int32} {vs vd : List Value} (us : List Value) {dv dd : Value} (A : Arv Z h a k ty z vs dv) (B : Arv Z h b k' ty z' vd dd) (hty : refKind ty = false)
    (h1 : ¬ sp < 0) (h2 : ¬ dp < 0) (h3 : ¬ nn < 0) (h4 : sp.toNatClampNeg + nn.toNatClampNeg ≤ z.toNatClampNeg) (h5 : dp.toNatClampNeg + nn.toNatClampNeg ≤ z'.toNatClampNeg)
    (hus : us = (List.range nn.toNatClampNeg).map fun i => vs.getD (sp.toNatClampNeg + i) dv) (hl : dp.toNatClampNeg + nn.toNatClampNeg ≤ vd.length) (S : Safe Z EL vm0 h b) (ge : n0 ≤ b)
    (hg : g.method = m) (hsize : g.locals.size = c.maxLocals) {rest : List Value} (hs : g.stack = .int nn :: .int dp :: .ref b :: .int sp :: .ref a :: rest) (hd : decode c.code g.pc = .ok (.invokestatic index, 3))
    (hf : 1 ≤ R.frames) {Wd : Nat} (hW : 2 * g.monitorRoom + (rest.map fun v => v.category).sum ≤ Wd) (hlo : Wd + 18 ≤ R.locals) :
    ∃ T' h', Wk p l e R s m args below meth c Z EL own n0 vm0 T' h' cells slots ∧ Keep h h' [b] ∧ h.size ≤ h'.size ∧ Arv Z h' b k' ty z' (vd.take dp.toNatClampNeg ++ us ++ vd.drop (dp.toNatClampNeg + nn.toNatClampNeg)) dd ∧ (∀ x, x < h.size → Safe Z EL vm0 h x → Safe Z EL vm0 h' x) ∧
      ∀ target, Steps p.tables e below (T'.setTop { g with pc := g.pc + 3, stack := rest }) target → Steps p.tables e below (T.setTop g) target := by
  obtain ⟨locs, rfl, X, eT, hZ, hown, N, O, hEn, hKK⟩ := W
  obtain ⟨T', h', L, X', e', N', KK, A', st⟩ := RoadKit.cpA X hx hZ hown w1 w2 w3 w4 eT A B (Or.inl ⟨rfl, hty⟩) h1 h2 h3 h4 h5 hus hl N ge hg hsize hs hd hf hW hlo
  exact ⟨T', h', ⟨_, rfl, X', e', hZ, hown, N', O.keep KK (allS ge all0), hEn, hKK⟩, KK, KK.1, A', fun x _ q => own_safe0 hEn, st⟩
theorem Wk.ldcJ (W : Wk p l e R s m args below meth c Z EL own n0 vm0 T h cells slots) (hx : p.tables.exec = Jvm.exec) {index : Nat} {v : Int64} (w : (Cond.constantLong own index v).before a0 Z = true) (hg : g.method = m) (hd : decode c.code g.pc = .ok (.ldc2_w index, 3)) :
    ∀ target, Steps p.tables e below (T.setTop { g with pc := g.pc + 3, stack := .long v :: g.stack }) target → Steps p.tables e below (T.setTop g) target := by
  obtain ⟨locs, X⟩ := W.stand
  exact X.ldc2Long hx W.owns (mvT W.warmS w) hg hd
theorem Wk.ldcD (W : Wk p l e R s m args below meth c Z EL own n0 vm0 T h cells slots) (hx : p.tables.exec = Jvm.exec) {index : Nat} {v : UInt64} (w : (Cond.constantDouble own index v).before a0 Z = true) (hg : g.method = m) (hd : decode c.code g.pc = .ok (.ldc2_w index, 3)) :
    ∀ target, Steps p.tables e below (T.setTop { g with pc := g.pc + 3, stack := .double v :: g.stack }) target → Steps p.tables e below (T.setTop g) target := by
  obtain ⟨locs, X⟩ := W.stand
  exact X.ldc2DoubleC hx W.owns (mvT W.warmS w) hg hd
theorem Go.lem {J : (Outcome → State → Prop) → Prop} (h1 : J Q) (h2 : J Q → Go p e below Q T g) : Go p e below Q T g := h2 h1
abbrev WkAt (W : Wk p l e R s m args below meth c Z EL own n0 vm0 T h cells slots) (vm' : Vm) (T' : State) : Prop := Wk p l e R s m args below meth c Z EL own n0 vm' T' h cells slots
theorem Go.join {α : Type} {f : α → JFrame} (hb : (∀ y, Go p e below Q T (f y)) → Go p e below Q T g) (k : ∀ y, Go p e below Q T (f y)) : Go p e below Q T g := hb k
theorem Wk.ldcI (W : Wk p l e R s m args below meth c Z EL own n0 vm0 T h cells slots) (hx : p.tables.exec = Jvm.exec) {index : Nat} {v : Int32} (w : (Cond.constant own index v).before a0 Z = true) (hg : g.method = m) (hd : decode c.code g.pc = .ok (.ldc index, 2)) :
    ∀ target, Steps p.tables e below (T.setTop { g with pc := g.pc + 2, stack := .int v :: g.stack }) target → Steps p.tables e below (T.setTop g) target := by
  obtain ⟨locs, X⟩ := W.stand
  exact X.ldcInt hx W.owns (mvT W.warmS w) hg hd
theorem Wk.acmp {target : State} (W : Wk p l e R s m args below meth c Z EL own n0 vm0 T h cells slots) (hx : p.tables.exec = Jvm.exec) (hg : g.method = m) {cd : ACond} {x y : Value} (h1 : x.isRef = true) (h2 : y.isRef = true) {rest : List Value} {o : Int} {pc0 pc' : Nat} {same : Bool} (hpc : g.pc = pc0)
    (hd : decode c.code g.pc = .ok (.if_acmp cd o, 3)) (hs : g.stack = y :: x :: rest) (hq : decide (x = y) = same) (ho : 0 ≤ (pc0 : Int) + o) (hp : pc' = if acV cd same = true then ((pc0 : Int) + o).toNat else pc0 + 3)
    (hr : Steps p.tables e below (T.setTop { g with pc := pc', stack := rest }) target) : Steps p.tables e below (T.setTop g) target := by
  obtain ⟨locs, X⟩ := W.stand
  exact RoadKit.acmp X hx hg h1 h2 hpc hd hs hq ho hp hr
theorem Wk.irem {target : State} (W : Wk p l e R s m args below meth c Z EL own n0 vm0 T h cells slots) (hx : p.tables.exec = Jvm.exec) (hg : g.method = m) {x y : Int32} {rest : List Value} (hd : decode c.code g.pc = .ok (.irem, 1)) (hs : g.stack = .int y :: .int x :: rest) (hy : y ≠ 0)
    (hr : Steps p.tables e below (T.setTop { g with pc := g.pc + 1, stack := .int (x % y) :: rest }) target) : Steps p.tables e below (T.setTop g) target := by
  obtain ⟨locs, X⟩ := W.stand
  exact RoadKit.iremM X hx hg hd hs hy hr
theorem Wk.rawJ (W : Wk p l e R s m args below meth c Z EL own n0 vm0 T h cells slots) (hx : p.tables.exec = Jvm.exec) {index : Nat} (w1 : (Cond.methodLink own index doubleToRawLongBitsName).before a0 Z = true) (w2 : (Cond.native doubleToRawLongBitsName).before a0 Z = true) (w3 : (Cond.static doubleToRawLongBitsName).before a0 Z = true) (w4 : (Cond.initialized "java/lang/Double").before a0 Z = true) {b : UInt64}
    (hg : g.method = m) (hsize : g.locals.size = c.maxLocals) {rest : List Value} (hs : g.stack = .double b :: rest) (hd : decode c.code g.pc = .ok (.invokestatic index, 3)) (hf : 1 ≤ R.frames) {Wd : Nat} (hW : 2 * g.monitorRoom + (rest.map fun v => v.category).sum ≤ Wd) (hl : Wd + 15 ≤ R.locals) :
    ∃ T', Wk p l e R s m args below meth c Z EL own n0 vm0 T' h cells slots ∧ ∀ target, Steps p.tables e below (T'.setTop { g with pc := g.pc + 3, stack := .long b.toInt64 :: rest }) target → Steps p.tables e below (T.setTop g) target := by
  obtain ⟨locs, rfl, X, eT, hZ, hown, N, O', hEn, hKK⟩ := W
  have e4 : nativeFrameWords "java/lang/Double" "doubleToRawLongBits" 2 = 4 := by decide
  obtain ⟨vm', X', st⟩ := X.doubleToRawLongBits hx hown (mvT hZ w1) (mvT hZ w2) (mvT hZ w3) (mvT hZ w4) hg hsize hs hd hf (by rw [e4]; omega)
  exact ⟨T.setVm vm', ⟨_, rfl, X', eT, hZ, hown, N, O', hEn, hKK⟩, st⟩
theorem Wk.rawI (W : Wk p l e R s m args below meth c Z EL own n0 vm0 T h cells slots) (hx : p.tables.exec = Jvm.exec) {index : Nat} (w1 : (Cond.methodLink own index floatToRawIntBitsName).before a0 Z = true) (w2 : (Cond.native floatToRawIntBitsName).before a0 Z = true) (w3 : (Cond.static floatToRawIntBitsName).before a0 Z = true) (w4 : (Cond.initialized "java/lang/Float").before a0 Z = true) {b : UInt32}
    (hg : g.method = m) (hsize : g.locals.size = c.maxLocals) {rest : List Value} (hs : g.stack = .float b :: rest) (hd : decode c.code g.pc = .ok (.invokestatic index, 3)) (hf : 1 ≤ R.frames) {Wd : Nat} (hW : 2 * g.monitorRoom + (rest.map fun v => v.category).sum ≤ Wd) (hl : Wd + 15 ≤ R.locals) :
    ∃ T', Wk p l e R s m args below meth c Z EL own n0 vm0 T' h cells slots ∧ ∀ target, Steps p.tables e below (T'.setTop { g with pc := g.pc + 3, stack := .int b.toInt32 :: rest }) target → Steps p.tables e below (T.setTop g) target := by
  obtain ⟨locs, rfl, X, eT, hZ, hown, N, O', hEn, hKK⟩ := W
  have e4 : nativeFrameWords "java/lang/Float" "floatToRawIntBits" 1 = 3 := by decide
  obtain ⟨vm', X', st⟩ := X.floatToRawIntBits hx hown (mvT hZ w1) (mvT hZ w2) (mvT hZ w3) (mvT hZ w4) hg hsize hs hd hf (by rw [e4]; omega)
  exact ⟨T.setVm vm', ⟨_, rfl, X', eT, hZ, hown, N, O', hEn, hKK⟩, st⟩
end OwnKit
end Jvm.Pilot.@@N@@
namespace Jvm.Pilot.@@N@@
open Jvm Jvm.ClassFile Sem Op Lib Jvm.Free Jvm.Stand Jvm.LawKit Jvm.RoadKit Bundle Jvm.Pilot.@@N@@.Jvm.D
section OwnKit2
variable {p : Program} {l : Launch} {e : Env} {R : Room} {s : State} {m : MethodId} {args : Array Value} {below : List Frame} {meth : Method} {c : Code} {T T' : State} {cells slots : Nat} {Z : State} {a0 : Array Value} {EL : List (String × Nat)} {vm0 : Vm} {h h' : Heap} {own : String} {n0 : Nat} {Q : Outcome → State → Prop} {g g' : JFrame}
theorem own_fitsR {v : Value} {C : String} (h : v.isRef = true) : fits (.object C) v = true := by cases v <;> simp [Value.isRef, fits] at h ⊢
theorem own_fitsA {v : Value} {t : FieldType} (h : v.isRef = true) : fits (.array t) v = true := by cases v <;> simp [Value.isRef, fits] at h ⊢
/-- a String whose value is null yet is no booked constant -/
theorem own_safe_blank {x : Addr} {vm : Vm} (hal : Z.vm.Alike vm) (E : Exa Z h x "java/lang/String") (F : Fld Z h x "java/lang/String" "value" "[B" .null) : Safe Z EL vm h x := fun B => by
  obtain ⟨pe, -, u, a, -, q, -, F', rfl | rfl⟩ := B
  · obtain ⟨cell, cf, k, i, f, f1, f2, f3, f4, f5, f6, f7⟩ := F
    obtain ⟨cS, ⟨⟨s1, s2, s3, ⟨c1, k1, i1, g1, -⟩, -, s6, s7, v1, -⟩, -⟩, -⟩ := F'
    obtain ⟨k3, e3, -⟩ := State.fieldFound?_setVm (s := Z) hal f2
    have e4 := (show (Wst Z vm h).fieldFound? _ _ _ = _ from e3).symm.trans g1
    simp only [Option.some.injEq, Prod.mk.injEq] at e4
    cases (show h[q.sa]? = some q.sC from s1).symm.trans f1
    rw [← e4.2.2.2, f7] at v1
    cases v1
  · obtain ⟨cell, k, e1, e2, e3, -, -⟩ := E
    have hd := F'.hd
    obtain ⟨cS, -, -, f, -⟩ := F'
    cases (show h[q.sd]? = some q.SA from hd).symm.trans e1
    have f' : vm.findClass "[B" = some q.SA.cls := f
    rw [hal.findClass] at f'
    obtain ⟨k1, q1, q2⟩ := Vm.findClass_spec f'
    obtain ⟨k2, q3, q4⟩ := Vm.findClass_spec e2
    cases q1.symm.trans q3
    have := q2.symm.trans q4
    exact absurd this (by decide)
end OwnKit2
end Jvm.Pilot.@@N@@
namespace Jvm.Pilot.@@N@@
open Jvm Jvm.ClassFile Sem Op Lib Jvm.Free Jvm.Stand Jvm.LawKit Jvm.RoadKit Bundle Jvm.Pilot.@@N@@.Jvm.D
/-- what every walk of this claim rests on -/
def Ctx (Z : State) (a0 : Array Value) : Prop := (∀ d ∈ tables_1, d.before a0 Z = true) ∧ True
abbrev consts_1 : List (String × Nat) := []
theorem own_EW {Z : State} {a0 : Array Value} (hw : ∀ d ∈ tables_1, d.before a0 Z = true) : EW Z a0 consts_1 := EW.nil
theorem own_eqI {args : Array Value} {s : State} {t : Term} {n : Int32} (h : (Jvm.Cond.eq t (Jvm.Term.int n)).value args s none s [] = some true) : t.eval args s none [] s = some (.int n) := by
  obtain ⟨x, y, e1, e2, k1, k2⟩ := cmp_v (Or.inl h)
  rw [Term.int_eval] at e2
  cases e2
  obtain ⟨z, rfl⟩ := k2
  have q := gotT (Cond.eq_ints e1 (Term.int_eval n)) h
  rw [e1, q]
theorem own_eqJ {args : Array Value} {s : State} {t : Term} {n : Int64} (h : (Jvm.Cond.eq t (Jvm.Term.long n)).value args s none s [] = some true) : t.eval args s none [] s = some (.long n) := by
  obtain ⟨x, y, e1, e2, k1, k2⟩ := cmp_v (Or.inl h)
  have e3 : (Jvm.Term.long n).eval args s none [] s = some (.long n) := rfl
  rw [e3] at e2
  cases e2
  obtain ⟨z, rfl⟩ := k2
  have q := gotT (eq_L e1 e3) h
  rw [e1, q]
theorem own_exa {args : Array Value} {s : State} {t : Term} {C : String} (h : (Jvm.Cond.exactly t C).value args s none s [] = some true) : ∃ x, t.eval args s none [] s = some (.ref x) := exa_v h
theorem own_all0 {α : Type} {P : α → Prop} : ∀ x ∈ ([] : List α), P x := fun _ q => nomatch q
theorem own_allS {α : Type} {P : α → Prop} {y : α} {L : List α} (q : P y) (r : ∀ x ∈ L, P x) : ∀ x ∈ y :: L, P x := fun x z => (List.mem_cons.mp z).elim (fun u => u ▸ q) (r x)
theorem own_and255 (x : Int32) : ¬ (x &&& (255 : Int32)) < 0 ∧ ¬ (255 : Int32) < (x &&& (255 : Int32)) := by
  have q := c_and x 255 (by decide)
  have e : (255 : Int32).toInt = 255 := rfl
  simp only [Int32.lt_iff_toInt_lt, Int32.reduceToInt, e] at q ⊢
  omega
theorem own_narB (x : Int32) : nar .byte (x.toInt8.toInt32) = x.toInt8.toInt32 := by simp [nar]
theorem own_nochar (x : Int32) : nar .char (x &&& (255 : Int32)) = x &&& (255 : Int32) := i2c_mask x
theorem own_norm {A : Nat} (h0 : 0 < A) (h1 : A < 2 ^ 53) : ∃ k : Nat, k ≤ 52 ∧ 2 ^ 52 ≤ A * 2 ^ k ∧ A * 2 ^ k < 2 ^ 53 := by
  have a1 := Nat.log2_self_le (Nat.pos_iff_ne_zero.mp h0)
  have a2 := Nat.lt_log2_self (n := A)
  have a3 : A.log2 < 53 := (Nat.log2_lt (Nat.pos_iff_ne_zero.mp h0)).mpr h1
  refine ⟨52 - A.log2, Nat.sub_le _ _, ?_, ?_⟩
  · have e : 2 ^ 52 = 2 ^ A.log2 * 2 ^ (52 - A.log2) := by rw [← Nat.pow_add]; congr 1; omega
    rw [e]; exact Nat.mul_le_mul_right _ a1
  · have e : 2 ^ 53 = 2 ^ (A.log2 + 1) * 2 ^ (52 - A.log2) := by rw [← Nat.pow_add]; congr 1; omega
    rw [e]; exact Nat.mul_lt_mul_of_pos_right a2 (Nat.two_pow_pos _)
theorem own_fits {s : Bool} {c : Nat} {q : Int} (h1 : 2 ^ 52 ≤ c) (h2 : c < 2 ^ 53) (h3 : -1074 ≤ q) (h4 : q ≤ 971) : FP.Core.fits FP.Core.b64 (.fin s c q) := by
  have e1 : FP.Core.b64.p = 53 := by decide
  have e2 : FP.Core.b64.tails = 2 ^ 52 := by decide
  have e3 : FP.Core.b64.qmin = -1074 := by decide
  have e4 : FP.Core.b64.qmax = 971 := by decide
  exact ⟨by rw [e1]; exact h2, by rw [e3]; exact h3, by rw [e4]; exact h4, Or.inr (by rw [e2]; exact h1)⟩
/-- the product, exactly: c * 2^q is 15625 * |N| / 16 -/
theorem own_prod {N : Int64} (h0 : N.toInt ≠ 0) (h1 : N.toInt.natAbs ≤ 2 ^ 38) : ∃ k : Nat, k ≤ 52 ∧ 2 ^ 52 ≤ 15625 * N.toInt.natAbs * 2 ^ k ∧ 15625 * N.toInt.natAbs * 2 ^ k < 2 ^ 53 ∧
    FP.Core.val64 (FP.dmul (FP.ddiv (FP.l2d N) (4652218415073722368 : UInt64)) (4696837146684686336 : UInt64)) = .fin (decide (N.toInt < 0)) (15625 * N.toInt.natAbs * 2 ^ k) (-4 - (k : Int)) := by
  have hA : 0 < N.toInt.natAbs := Int.natAbs_pos.mpr h0
  generalize hs : decide (N.toInt < 0) = s
  generalize hn : N.toInt.natAbs = A at *
  obtain ⟨k, k1, k2, k3⟩ := own_norm hA (by omega)
  obtain ⟨l, l1, l2, l3⟩ := own_norm (A := 15625 * A) (by omega) (by omega)
  have v1 : FP.Core.val64 (FP.l2d N) = .fin s (A * 2 ^ k) (-(k : Int)) := by
    show FP.Core.val64 (FP.Core.l2d N) = _
    rw [FP.Core.val64_l2d]
    show FP.Core.roundRatio FP.Core.b64 (decide (N.toInt < 0)) N.toInt.natAbs 1 0 = _
    rw [hs, hn]
    refine FP.Core.roundRatio_exact FP.Core.good_b64 (by decide) (own_fits k2 k3 (by omega) (by omega)) ?_
    rw [show ((0 : Int) - -(k : Int)).toNat = k by omega, show (-(k : Int) - 0).toNat = 0 by omega]; simp
  have v2 : FP.Core.val64 (4652218415073722368 : UInt64) = .fin false (2 ^ 52) (-42) := by decide +kernel
  have v3 : FP.Core.val64 (4696837146684686336 : UInt64) = .fin false (15625 * 2 ^ 39) (-33) := by decide +kernel
  have v4 : FP.Core.val64 (FP.ddiv (FP.l2d N) (4652218415073722368 : UInt64)) = .fin s (A * 2 ^ k) (-(k : Int) - 10) := by
    show FP.Core.val64 (FP.Core.ddiv _ _) = _
    rw [FP.Core.val64_ddiv, v1, v2]
    show (if (2 ^ 52 : Nat) = 0 then (if A * 2 ^ k = 0 then FP.Core.Datum.nan else .inf (s != false)) else FP.Core.roundRatio FP.Core.b64 (s != false) (A * 2 ^ k) (2 ^ 52) (-(k : Int) - -42)) = _
    rw [if_neg (by decide), show (s != false) = s by cases s <;> rfl]
    refine FP.Core.roundRatio_exact FP.Core.good_b64 (by decide) (own_fits k2 k3 (by omega) (by omega)) ?_
    rw [show (-(k : Int) - -42 - (-(k : Int) - 10)).toNat = 52 by omega, show (-(k : Int) - 10 - (-(k : Int) - -42)).toNat = 0 by omega]; simp
  refine ⟨l, l1, l2, l3, ?_⟩
  show FP.Core.val64 (FP.Core.dmul _ _) = _
  rw [FP.Core.val64_dmul, v4, v3]
  show FP.Core.roundRatio FP.Core.b64 (s != false) (A * 2 ^ k * (15625 * 2 ^ 39)) 1 (-(k : Int) - 10 + -33) = _
  rw [show (s != false) = s by cases s <;> rfl]
  refine FP.Core.roundRatio_exact FP.Core.good_b64 (by decide) (own_fits l2 l3 (by omega) (by omega)) ?_
  have hlk : l ≤ k + 39 := by
    refine Nat.le_of_not_lt fun q => ?_
    have p1 : 2 ^ (k + 1) ≤ 2 ^ l := Nat.pow_le_pow_right (by decide) (by omega)
    have p2 : 15625 * A * 2 ^ (k + 1) ≤ 15625 * A * 2 ^ l := Nat.mul_le_mul_left _ p1
    have p3 : 15625 * A * 2 ^ (k + 1) = 31250 * (A * 2 ^ k) := by rw [Nat.pow_succ, show 31250 = 15625 * 2 from rfl]; ac_rfl
    omega
  rw [show (-(k : Int) - 10 + -33 - (-4 - (l : Int))).toNat = 0 by omega, show (-4 - (l : Int) - (-(k : Int) - 10 + -33)).toNat = k + 39 - l by omega]
  have e : 2 ^ (k + 39) = 2 ^ l * 2 ^ (k + 39 - l) := by rw [← Nat.pow_add]; congr 1; omega
  rw [Nat.pow_zero, Nat.mul_one, Nat.mul_one]
  calc A * 2 ^ k * (15625 * 2 ^ 39) = 15625 * A * (2 ^ k * 2 ^ 39) := by ac_rfl
    _ = 15625 * A * 2 ^ (k + 39) := by rw [Nat.pow_add]
    _ = 15625 * A * 2 ^ l * 2 ^ (k + 39 - l) := by rw [e]; ac_rfl
/-- its bits -/
theorem own_pbits {N : Int64} (h0 : N.toInt ≠ 0) (h1 : N.toInt.natAbs ≤ 2 ^ 38) : ∃ k c : Nat, k ≤ 52 ∧ 2 ^ 52 ≤ c ∧ c < 2 ^ 53 ∧ c = 15625 * N.toInt.natAbs * 2 ^ k ∧
    (FP.dmul (FP.ddiv (FP.l2d N) (4652218415073722368 : UInt64)) (4696837146684686336 : UInt64)).toNat = ((decide (N.toInt < 0)).toNat * 2048 + (1071 - k)) * 2 ^ 52 + (c - 2 ^ 52) := by
  obtain ⟨k, k1, k2, k3, v⟩ := own_prod h0 h1
  refine ⟨k, _, k1, k2, k3, rfl, ?_⟩
  have w : FP.Core.val64 (FP.dmul (FP.ddiv (FP.l2d N) (4652218415073722368 : UInt64)) (4696837146684686336 : UInt64)) ≠ .nan := by rw [v]; nofun
  rw [← FP.Core.of64_val64 w, v, FP.Core.toNat_of64 (own_fits k2 k3 (by omega) (by omega))]
  show (if _ < FP.Core.b64.tails then _ else FP.Core.assemble FP.Core.b64 _ ((-4 - (k : Int) - FP.Core.b64.qmin).toNat + 1) (_ - FP.Core.b64.tails)) = _
  have e2 : FP.Core.b64.tails = 2 ^ 52 := by decide
  have e3 : FP.Core.b64.qmin = -1074 := by decide
  have e5 : FP.Core.b64.exps = 2048 := by decide
  rw [e2, if_neg (by omega), e3]
  have ea : ∀ (s : Bool) (e t : Nat), FP.Core.assemble FP.Core.b64 s e t = (s.toNat * FP.Core.b64.exps + e) * FP.Core.b64.tails + t := fun _ _ _ => rfl
  rw [ea, e2, e5, show (-4 - (k : Int) - -1074).toNat + 1 = 1071 - k by omega]
def own_e (x : UInt64) : Int64 := ((x.toInt64 &&& (9218868437227405312 : Int64)) >>> ((52 : Int32) &&& 0x3f).toInt64)
def own_sh (x : UInt64) : Int64 := (1074 : Int64) - own_e x
def own_sig (x : UInt64) : Int64 := (x.toInt64 &&& (4503599627370495 : Int64)) ||| (4503599627370496 : Int64)
def own_half (y k : Int64) : Int64 := ((y >>> ((k.toInt32) &&& 0x3f).toInt64) + (1 : Int64)) >>> ((1 : Int32) &&& 0x3f).toInt64
def own_rd (x : UInt64) : Int64 := if lcmpW (own_sh x &&& (-64 : Int64)) (0 : Int64) = (0 : Int32) then (if lcmpW x.toInt64 (0 : Int64) < (0 : Int32) then own_half (-(own_sig x)) (own_sh x) else own_half (own_sig x) (own_sh x)) else FP.d2l x
theorem own_toI {y : Int64} {v : Nat} (h : y.toBitVec.toNat = v) (hv : v < 2 ^ 63) : y.toInt = v := by
  show y.toBitVec.toInt = v
  rw [BitVec.toInt_eq_toNat_of_lt (by omega), h]
theorem own_eT (x : UInt64) : (own_e x).toInt = ((x.toNat / 2 ^ 52 % 2048 : Nat) : Int) := by
  unfold own_e
  rw [c_lshr _ _ 52 (by decide)]
  have a : (x.toInt64 &&& (9218868437227405312 : Int64)).toBitVec.toNat = x.toNat &&& 9218868437227405312 := rfl
  have b : x.toNat &&& 9218868437227405312 ≤ 9218868437227405312 := Nat.and_le_right
  rw [own_toI a (by omega)]
  have e : (x.toNat &&& 9218868437227405312) / 2 ^ 52 = x.toNat / 2 ^ 52 % 2048 := by
    rw [← Nat.shiftRight_eq_div_pow, Nat.shiftRight_and_distrib, Nat.shiftRight_eq_div_pow, Nat.shiftRight_eq_div_pow]
    exact Nat.and_two_pow_sub_one_eq_mod _ 11
  rw [← e]; rfl
theorem own_sigT (x : UInt64) : (own_sig x).toInt = ((2 ^ 52 + x.toNat % 2 ^ 52 : Nat) : Int) := by
  unfold own_sig
  have a : ((x.toInt64 &&& (4503599627370495 : Int64)) ||| (4503599627370496 : Int64)).toBitVec.toNat = (x.toNat &&& 4503599627370495) ||| 4503599627370496 := rfl
  have b : (x.toNat &&& 4503599627370495) = x.toNat % 2 ^ 52 := Nat.and_two_pow_sub_one_eq_mod _ 52
  have d : x.toNat % 2 ^ 52 < 2 ^ 52 := Nat.mod_lt _ (by decide)
  refine own_toI (a.trans ?_) (by omega)
  rw [b, Nat.or_comm]
  exact (Nat.two_pow_add_eq_or_of_lt d 1).symm
theorem own_key {N : Int64} (h1 : N.toInt.natAbs ≤ 2 ^ 38) : (own_rd (FP.dmul (FP.ddiv (FP.l2d N) (4652218415073722368 : UInt64)) (4696837146684686336 : UInt64))).toInt = (15625 * N.toInt + 8) / 16 := by
  by_cases h0 : N.toInt = 0
  · have e : N = 0 := Int64.toInt_inj.mp h0
    rw [h0, e]; decide +kernel
  obtain ⟨k, c, k1, c1, c2, ec, ex⟩ := own_pbits h0 h1
  generalize FP.dmul (FP.ddiv (FP.l2d N) (4652218415073722368 : UInt64)) (4696837146684686336 : UInt64) = x at ex
  have hE : x.toNat / 2 ^ 52 = (decide (N.toInt < 0)).toNat * 2048 + (1071 - k) := by rw [ex]; omega
  have hM : x.toNat % 2 ^ 52 = c - 2 ^ 52 := by rw [ex]; omega
  have e1 := own_eT x
  have e2 := own_sigT x
  rw [hE] at e1
  rw [hM] at e2
  have hb : (decide (N.toInt < 0)).toNat ≤ 1 := Bool.toNat_le _
  rw [show ((decide (N.toInt < 0)).toNat * 2048 + (1071 - k)) % 2048 = 1071 - k by omega] at e1
  obtain ⟨v, hv⟩ : ∃ v, v = k + 3 := ⟨_, rfl⟩
  have e3 : own_sh x = Int64.ofNat v := by
    apply Int64.toInt_inj.mp
    unfold own_sh
    rw [Int64.toInt_sub, e1, Int64.toInt_ofNat_of_lt (by omega)]
    rw [show (1074 : Int64).toInt = 1074 from rfl, Int.bmod_eq_of_le (by omega) (by omega)]; omega
  have q1 : ∀ v, v < 64 → lcmpW (Int64.ofNat v &&& (-64 : Int64)) (0 : Int64) = (0 : Int32) ∧ ((Int64.ofNat v).toInt32).toBitVec.toNat % 64 = v := by decide +kernel
  obtain ⟨q2, q3⟩ := q1 v (by omega)
  have hf : ∀ y : Int64, y.toInt = 15625 * N.toInt * (2 ^ k : Nat) → y.toInt.natAbs < 2 ^ 53 → (own_half y (own_sh x)).toInt = (15625 * N.toInt + 8) / 16 := by
    intro y hy hl
    unfold own_half
    rw [e3, c_lshr _ _ 1 (by decide)]
    have a1 := c_ladd (y >>> (((Int64.ofNat v).toInt32) &&& 0x3f).toInt64) 1
    have a2 := c_lshr y ((Int64.ofNat v).toInt32) v q3
    have a3 : y.toInt / ((2 ^ v : Nat) : Int) = 15625 * N.toInt / 8 := by
      rw [hy, hv, Nat.pow_add, Nat.mul_comm]
      have : ((2 ^ 3 * 2 ^ k : Nat) : Int) = 8 * ((2 ^ k : Nat) : Int) := by rw [Int.natCast_mul]; rfl
      rw [this]
      exact Int.mul_ediv_mul_of_pos_left _ _ (by have := Nat.two_pow_pos k; omega)
    rw [a2, a3, show (1 : Int64).toInt = 1 from rfl] at a1
    have b1 := Int64.toInt_lt ((y >>> (((Int64.ofNat v).toInt32) &&& 0x3f).toInt64) + 1)
    have b2 := Int64.le_toInt ((y >>> (((Int64.ofNat v).toInt32) &&& 0x3f).toInt64) + 1)
    generalize ((y >>> (((Int64.ofNat v).toInt32) &&& 0x3f).toInt64) + 1).toInt = z at a1 b1 b2 ⊢
    have b3 : -4611686018427387904 ≤ 15625 * N.toInt / 8 + 1 ∧ 15625 * N.toInt / 8 + 1 ≤ 4611686018427387904 := by omega
    generalize hw : 15625 * N.toInt / 8 + 1 = w at a1 b3
    have b4 : z = w := by clear hw hy hl; omega
    rw [b4, ← hw]
    show (15625 * N.toInt / 8 + 1) / 2 = _
    omega
  unfold own_rd
  rw [e3, if_pos q2, ← e3]
  have ec' : (c : Int) = 15625 * (N.toInt.natAbs : Int) * ((2 ^ k : Nat) : Int) := by rw [ec, Int.natCast_mul, Int.natCast_mul]; rfl
  have e4 : (own_sig x).toInt = c := by rw [e2]; omega
  by_cases hs : N.toInt < 0
  · have hx : x.toNat ≥ 2 ^ 63 := by rw [ex, decide_eq_true hs]; simp only [Bool.toNat_true]; omega
    have hn : x.toInt64 < 0 := by
      rw [Int64.lt_iff_toInt_lt]
      show x.toBitVec.toInt < 0
      rw [BitVec.toInt_eq_toNat_cond, if_neg (by show ¬ 2 * x.toNat < 2 ^ 64; omega)]
      have := x.toNat_lt
      show (x.toNat : Int) - _ < 0
      omega
    rw [if_pos ((lw_lt _ _).mpr hn)]
    have e5 : (-(own_sig x)).toInt = -(c : Int) := by rw [Int64.toInt_neg, e4, Int.bmod_eq_of_le (by omega) (by omega)]
    refine hf _ ?_ (by rw [e5]; omega)
    rw [e5, ec', show N.toInt = -(N.toInt.natAbs : Int) by omega]
    rw [Int.natAbs_neg, Int.natAbs_natCast, Int.mul_neg, Int.neg_mul]
  · have hx : x.toNat < 2 ^ 63 := by rw [ex, decide_eq_false hs]; simp only [Bool.toNat_false]; omega
    have hn : ¬ x.toInt64 < 0 := by
      rw [Int64.lt_iff_toInt_lt]
      show ¬ x.toBitVec.toInt < 0
      rw [BitVec.toInt_eq_toNat_cond, if_pos (by show 2 * x.toNat < 2 ^ 64; omega)]
      omega
    rw [if_neg (fun z => hn ((lw_lt _ _).mp z))]
    refine hf _ ?_ (by rw [e4]; omega)
    rw [e4, ec', show (N.toInt.natAbs : Int) = N.toInt by omega]
theorem own_nd (r : Int64) : FP.dIsNaN (FP.ddiv (FP.l2d r) (4696837146684686336 : UInt64)) = false := by
  refine (FP.Core.notNaN_iff _).mpr ?_
  show FP.Core.val64 (FP.Core.ddiv _ _) ≠ _
  rw [FP.Core.val64_ddiv, show FP.Core.val64 (4696837146684686336 : UInt64) = .fin false (15625 * 2 ^ 39) (-33) by decide +kernel]
  obtain ⟨s, c, q, h⟩ := FP.Core.l2d_fin r
  rw [show FP.Core.val64 (FP.l2d r) = .fin s c q from h]
  show (if (15625 * 2 ^ 39 : Nat) = 0 then (if c = 0 then FP.Core.Datum.nan else .inf (s != false)) else FP.Core.roundRatio FP.Core.b64 (s != false) c (15625 * 2 ^ 39) (q - -33)) ≠ _
  rw [if_neg (by decide)]; exact FP.Core.roundRatio_ne_nan _ _ _ _ _
theorem own_nd2 (r : Int64) : FP.dIsNaN (FP.ddiv (FP.l2d r) (4652218415073722368 : UInt64)) = false := by
  refine (FP.Core.notNaN_iff _).mpr ?_
  show FP.Core.val64 (FP.Core.ddiv _ _) ≠ _
  rw [FP.Core.val64_ddiv, show FP.Core.val64 (4652218415073722368 : UInt64) = .fin false (2 ^ 52) (-42) by decide +kernel]
  obtain ⟨s, c, q, h⟩ := FP.Core.l2d_fin r
  rw [show FP.Core.val64 (FP.l2d r) = .fin s c q from h]
  show (if (2 ^ 52 : Nat) = 0 then (if c = 0 then FP.Core.Datum.nan else .inf (s != false)) else FP.Core.roundRatio FP.Core.b64 (s != false) c (2 ^ 52) (q - -42)) ≠ _
  rw [if_neg (by decide)]; exact FP.Core.roundRatio_ne_nan _ _ _ _ _
theorem own_nm {N : Int64} (h1 : N.toInt.natAbs ≤ 2 ^ 38) : FP.dIsNaN (FP.dmul (FP.ddiv (FP.l2d N) (4652218415073722368 : UInt64)) (4696837146684686336 : UInt64)) = false := by
  by_cases h0 : N.toInt = 0
  · have e : N = 0 := Int64.toInt_inj.mp h0
    rw [e]; decide +kernel
  · obtain ⟨k, -, -, -, v⟩ := own_prod h0 h1
    refine (FP.Core.notNaN_iff _).mpr ?_
    rw [v]; nofun
theorem own_nT (a : Int32) : ((a >>> ((3 : Int32) &&& 31)).toInt64).toInt = a.toInt / 8 := by
  rw [Int32.toInt_toInt64, c_ishr a 3 3 (by decide)]; rfl
theorem own_jT (b : Int32) : 0 ≤ ((b &&& (1023 : Int32)).toInt64).toInt ∧ ((b &&& (1023 : Int32)).toInt64).toInt ≤ 1023 := by
  rw [Int32.toInt_toInt64]; exact c_and b 1023 (by decide)
theorem own_NT (a b : Int32) : ((((a >>> ((3 : Int32) &&& 31)).toInt64) * (1024 : Int64)) + ((b &&& (1023 : Int32)).toInt64)).toInt = a.toInt / 8 * 1024 + ((b &&& (1023 : Int32)).toInt64).toInt := by
  have a1 := c_lmul ((a >>> ((3 : Int32) &&& 31)).toInt64) 1024
  have a2 := c_ladd (((a >>> ((3 : Int32) &&& 31)).toInt64) * (1024 : Int64)) ((b &&& (1023 : Int32)).toInt64)
  have j1 := own_jT b
  have n1 := Int32.toInt_lt a
  have n2 := Int32.le_toInt a
  rw [own_nT, show (1024 : Int64).toInt = 1024 from rfl] at a1
  have b1 := Int64.toInt_lt ((((a >>> ((3 : Int32) &&& 31)).toInt64) * (1024 : Int64)) + ((b &&& (1023 : Int32)).toInt64))
  have b2 := Int64.le_toInt ((((a >>> ((3 : Int32) &&& 31)).toInt64) * (1024 : Int64)) + ((b &&& (1023 : Int32)).toInt64))
  have b3 := Int64.toInt_lt (((a >>> ((3 : Int32) &&& 31)).toInt64) * (1024 : Int64))
  have b4 := Int64.le_toInt (((a >>> ((3 : Int32) &&& 31)).toInt64) * (1024 : Int64))
  generalize ((((a >>> ((3 : Int32) &&& 31)).toInt64) * (1024 : Int64)) + ((b &&& (1023 : Int32)).toInt64)).toInt = z at *
  generalize (((a >>> ((3 : Int32) &&& 31)).toInt64) * (1024 : Int64)).toInt = y at *
  generalize ((b &&& (1023 : Int32)).toInt64).toInt = j at *
  generalize hd : a.toInt / 8 = d at *
  have d1 : -268435456 ≤ d ∧ d ≤ 268435455 := by omega
  clear hd
  have e1 : y = d * 1024 := by omega
  omega
theorem own_NB (a b : Int32) : ((((a >>> ((3 : Int32) &&& 31)).toInt64) * (1024 : Int64)) + ((b &&& (1023 : Int32)).toInt64)).toInt.natAbs ≤ 2 ^ 38 := by
  rw [own_NT]
  have j1 := own_jT b
  have n1 := Int32.toInt_lt a
  have n2 := Int32.le_toInt a
  omega
theorem own_main (a b : Int32) : own_rd (FP.dmul (FP.ddiv (FP.l2d ((((a >>> ((3 : Int32) &&& 31)).toInt64) * (1024 : Int64)) + ((b &&& (1023 : Int32)).toInt64))) (4652218415073722368 : UInt64)) (4696837146684686336 : UInt64)) = ((((((a >>> ((3 : Int32) &&& 31)).toInt64) * (16000000 : Int64)) + (((b &&& (1023 : Int32)).toInt64) * (15625 : Int64))) + (8 : Int64)) >>> ((4 : Int32) &&& 0x3f).toInt64) := by
  apply Int64.toInt_inj.mp
  rw [own_key (own_NB a b), c_lshr _ _ 4 (by decide), own_NT]
  have a1 := c_lmul ((a >>> ((3 : Int32) &&& 31)).toInt64) 16000000
  have a3 := c_lmul ((b &&& (1023 : Int32)).toInt64) 15625
  have a2 := c_ladd (((a >>> ((3 : Int32) &&& 31)).toInt64) * (16000000 : Int64)) (((b &&& (1023 : Int32)).toInt64) * (15625 : Int64))
  have a4 := c_ladd ((((a >>> ((3 : Int32) &&& 31)).toInt64) * (16000000 : Int64)) + (((b &&& (1023 : Int32)).toInt64) * (15625 : Int64))) 8
  have j1 := own_jT b
  have n1 := Int32.toInt_lt a
  have n2 := Int32.le_toInt a
  rw [own_nT, show (16000000 : Int64).toInt = 16000000 from rfl] at a1
  rw [show (15625 : Int64).toInt = 15625 from rfl] at a3
  rw [show (8 : Int64).toInt = 8 from rfl] at a4
  have b1 := Int64.toInt_lt (((((a >>> ((3 : Int32) &&& 31)).toInt64) * (16000000 : Int64)) + (((b &&& (1023 : Int32)).toInt64) * (15625 : Int64))) + (8 : Int64))
  have b2 := Int64.le_toInt (((((a >>> ((3 : Int32) &&& 31)).toInt64) * (16000000 : Int64)) + (((b &&& (1023 : Int32)).toInt64) * (15625 : Int64))) + (8 : Int64))
  have b3 := Int64.toInt_lt ((((a >>> ((3 : Int32) &&& 31)).toInt64) * (16000000 : Int64)) + (((b &&& (1023 : Int32)).toInt64) * (15625 : Int64)))
  have b4 := Int64.le_toInt ((((a >>> ((3 : Int32) &&& 31)).toInt64) * (16000000 : Int64)) + (((b &&& (1023 : Int32)).toInt64) * (15625 : Int64)))
  have b5 := Int64.toInt_lt (((a >>> ((3 : Int32) &&& 31)).toInt64) * (16000000 : Int64))
  have b6 := Int64.le_toInt (((a >>> ((3 : Int32) &&& 31)).toInt64) * (16000000 : Int64))
  have b7 := Int64.toInt_lt (((b &&& (1023 : Int32)).toInt64) * (15625 : Int64))
  have b8 := Int64.le_toInt (((b &&& (1023 : Int32)).toInt64) * (15625 : Int64))
  generalize (((((a >>> ((3 : Int32) &&& 31)).toInt64) * (16000000 : Int64)) + (((b &&& (1023 : Int32)).toInt64) * (15625 : Int64))) + (8 : Int64)).toInt = w at *
  generalize ((((a >>> ((3 : Int32) &&& 31)).toInt64) * (16000000 : Int64)) + (((b &&& (1023 : Int32)).toInt64) * (15625 : Int64))).toInt = z at *
  generalize (((a >>> ((3 : Int32) &&& 31)).toInt64) * (16000000 : Int64)).toInt = y at *
  generalize (((b &&& (1023 : Int32)).toInt64) * (15625 : Int64)).toInt = x at *
  generalize ((b &&& (1023 : Int32)).toInt64).toInt = j at *
  generalize hd : a.toInt / 8 = d at *
  have d1 : -268435456 ≤ d ∧ d ≤ 268435455 := by omega
  clear hd
  have e1 : y = d * 16000000 := by omega
  have e2 : x = j * 15625 := by omega
  have e3 : z = y + x := by omega
  have e4 : w = z + 8 := by omega
  show _ = w / 16
  rw [e4, e3, e1, e2]
  omega
theorem own_refl (m : Int64) : FP.dcmp (FP.ddiv (FP.l2d m) (4696837146684686336 : UInt64)) (FP.ddiv (FP.l2d m) (4696837146684686336 : UInt64)) = some .eq := FP.Core.dcmp_refl (own_nd m)
theorem dd_jdk_29_method_22_code_0 : decode jdk_29_method_22_code 0 = .ok (.dload_n 0, 1) := by decide +kernel
theorem dd_jdk_29_method_22_code_1 : decode jdk_29_method_22_code 1 = .ok (.invokestatic 79, 3) := by decide +kernel
theorem dd_jdk_29_method_22_code_4 : decode jdk_29_method_22_code 4 = .ok (.lstore_n 2, 1) := by decide +kernel
theorem dd_jdk_29_method_22_code_5 : decode jdk_29_method_22_code 5 = .ok (.lload_n 2, 1) := by decide +kernel
theorem dd_jdk_29_method_22_code_6 : decode jdk_29_method_22_code 6 = .ok (.ldc2_w 87, 3) := by decide +kernel
theorem dd_jdk_29_method_22_code_9 : decode jdk_29_method_22_code 9 = .ok (.land, 1) := by decide +kernel
theorem dd_jdk_29_method_22_code_10 : decode jdk_29_method_22_code 10 = .ok (.bipush 52, 2) := by decide +kernel
theorem dd_jdk_29_method_22_code_12 : decode jdk_29_method_22_code 12 = .ok (.lshr, 1) := by decide +kernel
theorem dd_jdk_29_method_22_code_13 : decode jdk_29_method_22_code 13 = .ok (.lstore 4, 2) := by decide +kernel
theorem dd_jdk_29_method_22_code_15 : decode jdk_29_method_22_code 15 = .ok (.ldc2_w 89, 3) := by decide +kernel
theorem dd_jdk_29_method_22_code_18 : decode jdk_29_method_22_code 18 = .ok (.lload 4, 2) := by decide +kernel
theorem dd_jdk_29_method_22_code_20 : decode jdk_29_method_22_code 20 = .ok (.lsub, 1) := by decide +kernel
theorem dd_jdk_29_method_22_code_21 : decode jdk_29_method_22_code 21 = .ok (.lstore 6, 2) := by decide +kernel
theorem dd_jdk_29_method_22_code_23 : decode jdk_29_method_22_code 23 = .ok (.lload 6, 2) := by decide +kernel
theorem dd_jdk_29_method_22_code_25 : decode jdk_29_method_22_code 25 = .ok (.ldc2_w 91, 3) := by decide +kernel
theorem dd_jdk_29_method_22_code_28 : decode jdk_29_method_22_code 28 = .ok (.land, 1) := by decide +kernel
theorem dd_jdk_29_method_22_code_29 : decode jdk_29_method_22_code 29 = .ok (.lconst 0, 1) := by decide +kernel
theorem dd_jdk_29_method_22_code_30 : decode jdk_29_method_22_code 30 = .ok (.lcmp, 1) := by decide +kernel
theorem dd_jdk_29_method_22_code_31 : decode jdk_29_method_22_code 31 = .ok (.ifCond .ne 36, 3) := by decide +kernel
theorem dd_jdk_29_method_22_code_34 : decode jdk_29_method_22_code 34 = .ok (.lload_n 2, 1) := by decide +kernel
theorem dd_jdk_29_method_22_code_35 : decode jdk_29_method_22_code 35 = .ok (.ldc2_w 93, 3) := by decide +kernel
theorem dd_jdk_29_method_22_code_38 : decode jdk_29_method_22_code 38 = .ok (.land, 1) := by decide +kernel
theorem dd_jdk_29_method_22_code_39 : decode jdk_29_method_22_code 39 = .ok (.ldc2_w 95, 3) := by decide +kernel
theorem dd_jdk_29_method_22_code_42 : decode jdk_29_method_22_code 42 = .ok (.lor, 1) := by decide +kernel
theorem dd_jdk_29_method_22_code_43 : decode jdk_29_method_22_code 43 = .ok (.lstore 8, 2) := by decide +kernel
theorem dd_jdk_29_method_22_code_45 : decode jdk_29_method_22_code 45 = .ok (.lload_n 2, 1) := by decide +kernel
theorem dd_jdk_29_method_22_code_46 : decode jdk_29_method_22_code 46 = .ok (.lconst 0, 1) := by decide +kernel
theorem dd_jdk_29_method_22_code_47 : decode jdk_29_method_22_code 47 = .ok (.lcmp, 1) := by decide +kernel
theorem dd_jdk_29_method_22_code_48 : decode jdk_29_method_22_code 48 = .ok (.ifCond .ge 8, 3) := by decide +kernel
theorem dd_jdk_29_method_22_code_51 : decode jdk_29_method_22_code 51 = .ok (.lload 8, 2) := by decide +kernel
theorem dd_jdk_29_method_22_code_53 : decode jdk_29_method_22_code 53 = .ok (.lneg, 1) := by decide +kernel
theorem dd_jdk_29_method_22_code_54 : decode jdk_29_method_22_code 54 = .ok (.lstore 8, 2) := by decide +kernel
theorem dd_jdk_29_method_22_code_56 : decode jdk_29_method_22_code 56 = .ok (.lload 8, 2) := by decide +kernel
theorem dd_jdk_29_method_22_code_58 : decode jdk_29_method_22_code 58 = .ok (.lload 6, 2) := by decide +kernel
theorem dd_jdk_29_method_22_code_60 : decode jdk_29_method_22_code 60 = .ok (.l2i, 1) := by decide +kernel
theorem dd_jdk_29_method_22_code_61 : decode jdk_29_method_22_code 61 = .ok (.lshr, 1) := by decide +kernel
theorem dd_jdk_29_method_22_code_62 : decode jdk_29_method_22_code 62 = .ok (.lconst 1, 1) := by decide +kernel
theorem dd_jdk_29_method_22_code_63 : decode jdk_29_method_22_code 63 = .ok (.ladd, 1) := by decide +kernel
theorem dd_jdk_29_method_22_code_64 : decode jdk_29_method_22_code 64 = .ok (.iconst 1, 1) := by decide +kernel
theorem dd_jdk_29_method_22_code_65 : decode jdk_29_method_22_code 65 = .ok (.lshr, 1) := by decide +kernel
theorem dd_jdk_29_method_22_code_66 : decode jdk_29_method_22_code 66 = .ok (.lreturn, 1) := by decide +kernel
theorem dd_jdk_29_method_22_code_67 : decode jdk_29_method_22_code 67 = .ok (.dload_n 0, 1) := by decide +kernel
theorem dd_jdk_29_method_22_code_68 : decode jdk_29_method_22_code 68 = .ok (.d2l, 1) := by decide +kernel
theorem dd_jdk_29_method_22_code_69 : decode jdk_29_method_22_code 69 = .ok (.lreturn, 1) := by decide +kernel
theorem dd_prog_24_method_2_code_0 : decode prog_24_method_2_code 0 = .ok (.dload_n 0, 1) := by decide +kernel
theorem dd_prog_24_method_2_code_1 : decode prog_24_method_2_code 1 = .ok (.ldc2_w 17, 3) := by decide +kernel
theorem dd_prog_24_method_2_code_4 : decode prog_24_method_2_code 4 = .ok (.dmul, 1) := by decide +kernel
theorem dd_prog_24_method_2_code_5 : decode prog_24_method_2_code 5 = .ok (.invokestatic 19, 3) := by decide +kernel
theorem dd_prog_24_method_2_code_8 : decode prog_24_method_2_code 8 = .ok (.l2d, 1) := by decide +kernel
theorem dd_prog_24_method_2_code_9 : decode prog_24_method_2_code 9 = .ok (.ldc2_w 17, 3) := by decide +kernel
theorem dd_prog_24_method_2_code_12 : decode prog_24_method_2_code 12 = .ok (.ddiv, 1) := by decide +kernel
theorem dd_prog_24_method_2_code_13 : decode prog_24_method_2_code 13 = .ok (.dreturn, 1) := by decide +kernel
theorem pd__D_J : parseMethodDescriptor "(D)J" = some ⟨[.double], some .long⟩ := by decide +kernel
theorem pd__D_D : parseMethodDescriptor "(D)D" = some ⟨[.double], some .double⟩ := by decide +kernel
set_option maxRecDepth 65536 in
set_option maxHeartbeats 4000000 in
theorem own_mround (l : Launch) {Z : State} {a0 : Array Value} (hE : Ctx Z a0) {n0 : Nat} {h0 : Heap} (O : Old Z n0 h0) {x0 : UInt64}   :
    Met l (⟨"java/lang/Math", "round", "(D)J"⟩ : MethodName) jdk_29_method_22_code 10 (Option.some Jvm.ClassFile.FieldType.long) ({ frames := 1, cells := 0, slots := 0, locals := 15 } : Room) Z consts_1 n0 [] #[(.double x0)] h0 (fun v h => v = some (.long (own_rd x0)) ∧ h0 = h) := by
  have hw := hE.1
  have hEL := own_EW hw
  refine Met.of (by first | (refine plainFor_of_name ?_; simp [plainName, overriddenIn]; done) | decide +kernel) O rfl ?_
  intro p e s m below meth c T0 hx hby hml hret hlk hnm hh0 W0
  have z0 := W0.ge
  refine Go.st (g' := (mkF m 0 #[.val (.double x0), .second, .unset, .unset, .unset, .unset, .unset, .unset, .unset, .unset] [])) (fun _ k => castTop (by first | (simp [entryFrame, mkF, argsToLocals, maxLocals, own_catI, own_catJ, own_catD, own_catF, own_catA, own_catN]; done) | rfl) k) ?_
  refine Go.st (g' := (mkF m 1 #[.val (.double x0), .second, .unset, .unset, .unset, .unset, .unset, .unset, .unset, .unset] [(.double x0)])) (fun _ k => XS.dloadN W0.here hx rfl (hb hby dd_jdk_29_method_22_code_0) rfl  k) ?_
  obtain ⟨T1, W1, st1⟩ := W0.rawJ hx (hw _ (List.mem_of_getElem? (i := 15) rfl)) (hw _ (List.mem_of_getElem? (i := 18) rfl)) (hw _ (List.mem_of_getElem? (i := 16) rfl)) (hw _ (List.mem_of_getElem? (i := 17) rfl)) (g := (mkF m 1 #[.val (.double x0), .second, .unset, .unset, .unset, .unset, .unset, .unset, .unset, .unset] [(.double x0)])) rfl (by rw [hml]; rfl) (rest := []) rfl (hb hby dd_jdk_29_method_22_code_1) (by decide) (Wd := 0) (by show 2 * 0 + _ ≤ _; exact Nat.le_of_eq rfl) (by decide)
  refine Go.st (g' := (mkF m 4 #[.val (.double x0), .second, .unset, .unset, .unset, .unset, .unset, .unset, .unset, .unset] [(.long (x0.toInt64))])) st1 ?_
  refine Go.st (g' := (mkF m 5 #[.val (.double x0), .second, .val (.long (x0.toInt64)), .second, .unset, .unset, .unset, .unset, .unset, .unset] [])) (fun _ k => XS.lstoreN W1.here hx rfl (hb hby dd_jdk_29_method_22_code_4) rfl (l' := #[.val (.double x0), .second, .val (.long (x0.toInt64)), .second, .unset, .unset, .unset, .unset, .unset, .unset]) rfl k) ?_
  refine Go.st (g' := (mkF m 6 #[.val (.double x0), .second, .val (.long (x0.toInt64)), .second, .unset, .unset, .unset, .unset, .unset, .unset] [(.long (x0.toInt64))])) (fun _ k => XS.lloadN W1.here hx rfl (hb hby dd_jdk_29_method_22_code_5) rfl  k) ?_
  refine Go.st (g' := (mkF m 9 #[.val (.double x0), .second, .val (.long (x0.toInt64)), .second, .unset, .unset, .unset, .unset, .unset, .unset] [(.long (9218868437227405312 : Int64)), (.long (x0.toInt64))])) (W1.ldcJ hx (hw _ (List.mem_of_getElem? (i := 19) rfl)) (g := (mkF m 6 #[.val (.double x0), .second, .val (.long (x0.toInt64)), .second, .unset, .unset, .unset, .unset, .unset, .unset] [(.long (x0.toInt64))])) rfl (hb hby dd_jdk_29_method_22_code_6)) ?_
  refine Go.st (g' := (mkF m 10 #[.val (.double x0), .second, .val (.long (x0.toInt64)), .second, .unset, .unset, .unset, .unset, .unset, .unset] [(.long ((x0.toInt64) &&& (9218868437227405312 : Int64)))])) (fun _ k => XS.land W1.here hx rfl (hb hby dd_jdk_29_method_22_code_9) rfl k) ?_
  refine Go.st (g' := (mkF m 12 #[.val (.double x0), .second, .val (.long (x0.toInt64)), .second, .unset, .unset, .unset, .unset, .unset, .unset] [(.int (52 : Int32)), (.long ((x0.toInt64) &&& (9218868437227405312 : Int64)))])) (fun _ k => XS.bipush W1.here hx rfl (hb hby dd_jdk_29_method_22_code_10) k) ?_
  refine Go.st (g' := (mkF m 13 #[.val (.double x0), .second, .val (.long (x0.toInt64)), .second, .unset, .unset, .unset, .unset, .unset, .unset] [(.long (((x0.toInt64) &&& (9218868437227405312 : Int64)) >>> ((52 : Int32) &&& 0x3f).toInt64))])) (fun _ k => XS.lshr W1.here hx rfl (hb hby dd_jdk_29_method_22_code_12) rfl k) ?_
  refine Go.st (g' := (mkF m 15 #[.val (.double x0), .second, .val (.long (x0.toInt64)), .second, .val (.long (((x0.toInt64) &&& (9218868437227405312 : Int64)) >>> ((52 : Int32) &&& 0x3f).toInt64)), .second, .unset, .unset, .unset, .unset] [])) (fun _ k => XS.lstore W1.here hx rfl (hb hby dd_jdk_29_method_22_code_13) rfl (l' := #[.val (.double x0), .second, .val (.long (x0.toInt64)), .second, .val (.long (((x0.toInt64) &&& (9218868437227405312 : Int64)) >>> ((52 : Int32) &&& 0x3f).toInt64)), .second, .unset, .unset, .unset, .unset]) rfl k) ?_
  refine Go.st (g' := (mkF m 18 #[.val (.double x0), .second, .val (.long (x0.toInt64)), .second, .val (.long (((x0.toInt64) &&& (9218868437227405312 : Int64)) >>> ((52 : Int32) &&& 0x3f).toInt64)), .second, .unset, .unset, .unset, .unset] [(.long (1074 : Int64))])) (W1.ldcJ hx (hw _ (List.mem_of_getElem? (i := 20) rfl)) (g := (mkF m 15 #[.val (.double x0), .second, .val (.long (x0.toInt64)), .second, .val (.long (((x0.toInt64) &&& (9218868437227405312 : Int64)) >>> ((52 : Int32) &&& 0x3f).toInt64)), .second, .unset, .unset, .unset, .unset] [])) rfl (hb hby dd_jdk_29_method_22_code_15)) ?_
  refine Go.st (g' := (mkF m 20 #[.val (.double x0), .second, .val (.long (x0.toInt64)), .second, .val (.long (((x0.toInt64) &&& (9218868437227405312 : Int64)) >>> ((52 : Int32) &&& 0x3f).toInt64)), .second, .unset, .unset, .unset, .unset] [(.long (((x0.toInt64) &&& (9218868437227405312 : Int64)) >>> ((52 : Int32) &&& 0x3f).toInt64)), (.long (1074 : Int64))])) (fun _ k => XS.lload W1.here hx rfl (hb hby dd_jdk_29_method_22_code_18) rfl  k) ?_
  refine Go.st (g' := (mkF m 21 #[.val (.double x0), .second, .val (.long (x0.toInt64)), .second, .val (.long (((x0.toInt64) &&& (9218868437227405312 : Int64)) >>> ((52 : Int32) &&& 0x3f).toInt64)), .second, .unset, .unset, .unset, .unset] [(.long ((1074 : Int64) - (((x0.toInt64) &&& (9218868437227405312 : Int64)) >>> ((52 : Int32) &&& 0x3f).toInt64)))])) (fun _ k => XS.lsub W1.here hx rfl (hb hby dd_jdk_29_method_22_code_20) rfl k) ?_
  refine Go.st (g' := (mkF m 23 #[.val (.double x0), .second, .val (.long (x0.toInt64)), .second, .val (.long (((x0.toInt64) &&& (9218868437227405312 : Int64)) >>> ((52 : Int32) &&& 0x3f).toInt64)), .second, .val (.long ((1074 : Int64) - (((x0.toInt64) &&& (9218868437227405312 : Int64)) >>> ((52 : Int32) &&& 0x3f).toInt64))), .second, .unset, .unset] [])) (fun _ k => XS.lstore W1.here hx rfl (hb hby dd_jdk_29_method_22_code_21) rfl (l' := #[.val (.double x0), .second, .val (.long (x0.toInt64)), .second, .val (.long (((x0.toInt64) &&& (9218868437227405312 : Int64)) >>> ((52 : Int32) &&& 0x3f).toInt64)), .second, .val (.long ((1074 : Int64) - (((x0.toInt64) &&& (9218868437227405312 : Int64)) >>> ((52 : Int32) &&& 0x3f).toInt64))), .second, .unset, .unset]) rfl k) ?_
  refine Go.st (g' := (mkF m 25 #[.val (.double x0), .second, .val (.long (x0.toInt64)), .second, .val (.long (((x0.toInt64) &&& (9218868437227405312 : Int64)) >>> ((52 : Int32) &&& 0x3f).toInt64)), .second, .val (.long ((1074 : Int64) - (((x0.toInt64) &&& (9218868437227405312 : Int64)) >>> ((52 : Int32) &&& 0x3f).toInt64))), .second, .unset, .unset] [(.long ((1074 : Int64) - (((x0.toInt64) &&& (9218868437227405312 : Int64)) >>> ((52 : Int32) &&& 0x3f).toInt64)))])) (fun _ k => XS.lload W1.here hx rfl (hb hby dd_jdk_29_method_22_code_23) rfl  k) ?_
  refine Go.st (g' := (mkF m 28 #[.val (.double x0), .second, .val (.long (x0.toInt64)), .second, .val (.long (((x0.toInt64) &&& (9218868437227405312 : Int64)) >>> ((52 : Int32) &&& 0x3f).toInt64)), .second, .val (.long ((1074 : Int64) - (((x0.toInt64) &&& (9218868437227405312 : Int64)) >>> ((52 : Int32) &&& 0x3f).toInt64))), .second, .unset, .unset] [(.long (-64 : Int64)), (.long ((1074 : Int64) - (((x0.toInt64) &&& (9218868437227405312 : Int64)) >>> ((52 : Int32) &&& 0x3f).toInt64)))])) (W1.ldcJ hx (hw _ (List.mem_of_getElem? (i := 21) rfl)) (g := (mkF m 25 #[.val (.double x0), .second, .val (.long (x0.toInt64)), .second, .val (.long (((x0.toInt64) &&& (9218868437227405312 : Int64)) >>> ((52 : Int32) &&& 0x3f).toInt64)), .second, .val (.long ((1074 : Int64) - (((x0.toInt64) &&& (9218868437227405312 : Int64)) >>> ((52 : Int32) &&& 0x3f).toInt64))), .second, .unset, .unset] [(.long ((1074 : Int64) - (((x0.toInt64) &&& (9218868437227405312 : Int64)) >>> ((52 : Int32) &&& 0x3f).toInt64)))])) rfl (hb hby dd_jdk_29_method_22_code_25)) ?_
  refine Go.st (g' := (mkF m 29 #[.val (.double x0), .second, .val (.long (x0.toInt64)), .second, .val (.long (((x0.toInt64) &&& (9218868437227405312 : Int64)) >>> ((52 : Int32) &&& 0x3f).toInt64)), .second, .val (.long ((1074 : Int64) - (((x0.toInt64) &&& (9218868437227405312 : Int64)) >>> ((52 : Int32) &&& 0x3f).toInt64))), .second, .unset, .unset] [(.long (((1074 : Int64) - (((x0.toInt64) &&& (9218868437227405312 : Int64)) >>> ((52 : Int32) &&& 0x3f).toInt64)) &&& (-64 : Int64)))])) (fun _ k => XS.land W1.here hx rfl (hb hby dd_jdk_29_method_22_code_28) rfl k) ?_
  refine Go.st (g' := (mkF m 30 #[.val (.double x0), .second, .val (.long (x0.toInt64)), .second, .val (.long (((x0.toInt64) &&& (9218868437227405312 : Int64)) >>> ((52 : Int32) &&& 0x3f).toInt64)), .second, .val (.long ((1074 : Int64) - (((x0.toInt64) &&& (9218868437227405312 : Int64)) >>> ((52 : Int32) &&& 0x3f).toInt64))), .second, .unset, .unset] [(.long (0 : Int64)), (.long (((1074 : Int64) - (((x0.toInt64) &&& (9218868437227405312 : Int64)) >>> ((52 : Int32) &&& 0x3f).toInt64)) &&& (-64 : Int64)))])) (fun _ k => XS.lconst W1.here hx rfl (hb hby dd_jdk_29_method_22_code_29) k) ?_
  refine Go.st (g' := (mkF m 31 #[.val (.double x0), .second, .val (.long (x0.toInt64)), .second, .val (.long (((x0.toInt64) &&& (9218868437227405312 : Int64)) >>> ((52 : Int32) &&& 0x3f).toInt64)), .second, .val (.long ((1074 : Int64) - (((x0.toInt64) &&& (9218868437227405312 : Int64)) >>> ((52 : Int32) &&& 0x3f).toInt64))), .second, .unset, .unset] [(.int (lcmpW (((1074 : Int64) - (((x0.toInt64) &&& (9218868437227405312 : Int64)) >>> ((52 : Int32) &&& 0x3f).toInt64)) &&& (-64 : Int64)) (0 : Int64)))])) (fun _ k => XS.lcmp W1.here hx rfl (hb hby dd_jdk_29_method_22_code_30) rfl k) ?_
  by_cases hc2 : (lcmpW (((1074 : Int64) - (((x0.toInt64) &&& (9218868437227405312 : Int64)) >>> ((52 : Int32) &&& 0x3f).toInt64)) &&& (-64 : Int64)) (0 : Int64)) = (0 : Int32)
  · refine Go.st (g' := (mkF m 34 #[.val (.double x0), .second, .val (.long (x0.toInt64)), .second, .val (.long (((x0.toInt64) &&& (9218868437227405312 : Int64)) >>> ((52 : Int32) &&& 0x3f).toInt64)), .second, .val (.long ((1074 : Int64) - (((x0.toInt64) &&& (9218868437227405312 : Int64)) >>> ((52 : Int32) &&& 0x3f).toInt64))), .second, .unset, .unset] [])) (fun _ k => XS.ifNo W1.here hx rfl (hb hby dd_jdk_29_method_22_code_31) rfl ((if0 _ _).trans (teq hc2).2) k) ?_
    refine Go.st (g' := (mkF m 35 #[.val (.double x0), .second, .val (.long (x0.toInt64)), .second, .val (.long (((x0.toInt64) &&& (9218868437227405312 : Int64)) >>> ((52 : Int32) &&& 0x3f).toInt64)), .second, .val (.long ((1074 : Int64) - (((x0.toInt64) &&& (9218868437227405312 : Int64)) >>> ((52 : Int32) &&& 0x3f).toInt64))), .second, .unset, .unset] [(.long (x0.toInt64))])) (fun _ k => XS.lloadN W1.here hx rfl (hb hby dd_jdk_29_method_22_code_34) rfl  k) ?_
    refine Go.st (g' := (mkF m 38 #[.val (.double x0), .second, .val (.long (x0.toInt64)), .second, .val (.long (((x0.toInt64) &&& (9218868437227405312 : Int64)) >>> ((52 : Int32) &&& 0x3f).toInt64)), .second, .val (.long ((1074 : Int64) - (((x0.toInt64) &&& (9218868437227405312 : Int64)) >>> ((52 : Int32) &&& 0x3f).toInt64))), .second, .unset, .unset] [(.long (4503599627370495 : Int64)), (.long (x0.toInt64))])) (W1.ldcJ hx (hw _ (List.mem_of_getElem? (i := 22) rfl)) (g := (mkF m 35 #[.val (.double x0), .second, .val (.long (x0.toInt64)), .second, .val (.long (((x0.toInt64) &&& (9218868437227405312 : Int64)) >>> ((52 : Int32) &&& 0x3f).toInt64)), .second, .val (.long ((1074 : Int64) - (((x0.toInt64) &&& (9218868437227405312 : Int64)) >>> ((52 : Int32) &&& 0x3f).toInt64))), .second, .unset, .unset] [(.long (x0.toInt64))])) rfl (hb hby dd_jdk_29_method_22_code_35)) ?_
    refine Go.st (g' := (mkF m 39 #[.val (.double x0), .second, .val (.long (x0.toInt64)), .second, .val (.long (((x0.toInt64) &&& (9218868437227405312 : Int64)) >>> ((52 : Int32) &&& 0x3f).toInt64)), .second, .val (.long ((1074 : Int64) - (((x0.toInt64) &&& (9218868437227405312 : Int64)) >>> ((52 : Int32) &&& 0x3f).toInt64))), .second, .unset, .unset] [(.long ((x0.toInt64) &&& (4503599627370495 : Int64)))])) (fun _ k => XS.land W1.here hx rfl (hb hby dd_jdk_29_method_22_code_38) rfl k) ?_
    refine Go.st (g' := (mkF m 42 #[.val (.double x0), .second, .val (.long (x0.toInt64)), .second, .val (.long (((x0.toInt64) &&& (9218868437227405312 : Int64)) >>> ((52 : Int32) &&& 0x3f).toInt64)), .second, .val (.long ((1074 : Int64) - (((x0.toInt64) &&& (9218868437227405312 : Int64)) >>> ((52 : Int32) &&& 0x3f).toInt64))), .second, .unset, .unset] [(.long (4503599627370496 : Int64)), (.long ((x0.toInt64) &&& (4503599627370495 : Int64)))])) (W1.ldcJ hx (hw _ (List.mem_of_getElem? (i := 23) rfl)) (g := (mkF m 39 #[.val (.double x0), .second, .val (.long (x0.toInt64)), .second, .val (.long (((x0.toInt64) &&& (9218868437227405312 : Int64)) >>> ((52 : Int32) &&& 0x3f).toInt64)), .second, .val (.long ((1074 : Int64) - (((x0.toInt64) &&& (9218868437227405312 : Int64)) >>> ((52 : Int32) &&& 0x3f).toInt64))), .second, .unset, .unset] [(.long ((x0.toInt64) &&& (4503599627370495 : Int64)))])) rfl (hb hby dd_jdk_29_method_22_code_39)) ?_
    refine Go.st (g' := (mkF m 43 #[.val (.double x0), .second, .val (.long (x0.toInt64)), .second, .val (.long (((x0.toInt64) &&& (9218868437227405312 : Int64)) >>> ((52 : Int32) &&& 0x3f).toInt64)), .second, .val (.long ((1074 : Int64) - (((x0.toInt64) &&& (9218868437227405312 : Int64)) >>> ((52 : Int32) &&& 0x3f).toInt64))), .second, .unset, .unset] [(.long (((x0.toInt64) &&& (4503599627370495 : Int64)) ||| (4503599627370496 : Int64)))])) (fun _ k => XS.lor W1.here hx rfl (hb hby dd_jdk_29_method_22_code_42) rfl k) ?_
    refine Go.st (g' := (mkF m 45 #[.val (.double x0), .second, .val (.long (x0.toInt64)), .second, .val (.long (((x0.toInt64) &&& (9218868437227405312 : Int64)) >>> ((52 : Int32) &&& 0x3f).toInt64)), .second, .val (.long ((1074 : Int64) - (((x0.toInt64) &&& (9218868437227405312 : Int64)) >>> ((52 : Int32) &&& 0x3f).toInt64))), .second, .val (.long (((x0.toInt64) &&& (4503599627370495 : Int64)) ||| (4503599627370496 : Int64))), .second] [])) (fun _ k => XS.lstore W1.here hx rfl (hb hby dd_jdk_29_method_22_code_43) rfl (l' := #[.val (.double x0), .second, .val (.long (x0.toInt64)), .second, .val (.long (((x0.toInt64) &&& (9218868437227405312 : Int64)) >>> ((52 : Int32) &&& 0x3f).toInt64)), .second, .val (.long ((1074 : Int64) - (((x0.toInt64) &&& (9218868437227405312 : Int64)) >>> ((52 : Int32) &&& 0x3f).toInt64))), .second, .val (.long (((x0.toInt64) &&& (4503599627370495 : Int64)) ||| (4503599627370496 : Int64))), .second]) rfl k) ?_
    refine Go.st (g' := (mkF m 46 #[.val (.double x0), .second, .val (.long (x0.toInt64)), .second, .val (.long (((x0.toInt64) &&& (9218868437227405312 : Int64)) >>> ((52 : Int32) &&& 0x3f).toInt64)), .second, .val (.long ((1074 : Int64) - (((x0.toInt64) &&& (9218868437227405312 : Int64)) >>> ((52 : Int32) &&& 0x3f).toInt64))), .second, .val (.long (((x0.toInt64) &&& (4503599627370495 : Int64)) ||| (4503599627370496 : Int64))), .second] [(.long (x0.toInt64))])) (fun _ k => XS.lloadN W1.here hx rfl (hb hby dd_jdk_29_method_22_code_45) rfl  k) ?_
    refine Go.st (g' := (mkF m 47 #[.val (.double x0), .second, .val (.long (x0.toInt64)), .second, .val (.long (((x0.toInt64) &&& (9218868437227405312 : Int64)) >>> ((52 : Int32) &&& 0x3f).toInt64)), .second, .val (.long ((1074 : Int64) - (((x0.toInt64) &&& (9218868437227405312 : Int64)) >>> ((52 : Int32) &&& 0x3f).toInt64))), .second, .val (.long (((x0.toInt64) &&& (4503599627370495 : Int64)) ||| (4503599627370496 : Int64))), .second] [(.long (0 : Int64)), (.long (x0.toInt64))])) (fun _ k => XS.lconst W1.here hx rfl (hb hby dd_jdk_29_method_22_code_46) k) ?_
    refine Go.st (g' := (mkF m 48 #[.val (.double x0), .second, .val (.long (x0.toInt64)), .second, .val (.long (((x0.toInt64) &&& (9218868437227405312 : Int64)) >>> ((52 : Int32) &&& 0x3f).toInt64)), .second, .val (.long ((1074 : Int64) - (((x0.toInt64) &&& (9218868437227405312 : Int64)) >>> ((52 : Int32) &&& 0x3f).toInt64))), .second, .val (.long (((x0.toInt64) &&& (4503599627370495 : Int64)) ||| (4503599627370496 : Int64))), .second] [(.int (lcmpW (x0.toInt64) (0 : Int64)))])) (fun _ k => XS.lcmp W1.here hx rfl (hb hby dd_jdk_29_method_22_code_47) rfl k) ?_
    by_cases hc3 : (lcmpW (x0.toInt64) (0 : Int64)) < (0 : Int32)
    · refine Go.st (g' := (mkF m 51 #[.val (.double x0), .second, .val (.long (x0.toInt64)), .second, .val (.long (((x0.toInt64) &&& (9218868437227405312 : Int64)) >>> ((52 : Int32) &&& 0x3f).toInt64)), .second, .val (.long ((1074 : Int64) - (((x0.toInt64) &&& (9218868437227405312 : Int64)) >>> ((52 : Int32) &&& 0x3f).toInt64))), .second, .val (.long (((x0.toInt64) &&& (4503599627370495 : Int64)) ||| (4503599627370496 : Int64))), .second] [])) (fun _ k => XS.ifNo W1.here hx rfl (hb hby dd_jdk_29_method_22_code_48) rfl ((if0 _ _).trans (tlt hc3).2.1) k) ?_
      refine Go.st (g' := (mkF m 53 #[.val (.double x0), .second, .val (.long (x0.toInt64)), .second, .val (.long (((x0.toInt64) &&& (9218868437227405312 : Int64)) >>> ((52 : Int32) &&& 0x3f).toInt64)), .second, .val (.long ((1074 : Int64) - (((x0.toInt64) &&& (9218868437227405312 : Int64)) >>> ((52 : Int32) &&& 0x3f).toInt64))), .second, .val (.long (((x0.toInt64) &&& (4503599627370495 : Int64)) ||| (4503599627370496 : Int64))), .second] [(.long (((x0.toInt64) &&& (4503599627370495 : Int64)) ||| (4503599627370496 : Int64)))])) (fun _ k => XS.lload W1.here hx rfl (hb hby dd_jdk_29_method_22_code_51) rfl  k) ?_
      refine Go.st (g' := (mkF m 54 #[.val (.double x0), .second, .val (.long (x0.toInt64)), .second, .val (.long (((x0.toInt64) &&& (9218868437227405312 : Int64)) >>> ((52 : Int32) &&& 0x3f).toInt64)), .second, .val (.long ((1074 : Int64) - (((x0.toInt64) &&& (9218868437227405312 : Int64)) >>> ((52 : Int32) &&& 0x3f).toInt64))), .second, .val (.long (((x0.toInt64) &&& (4503599627370495 : Int64)) ||| (4503599627370496 : Int64))), .second] [(.long (-(((x0.toInt64) &&& (4503599627370495 : Int64)) ||| (4503599627370496 : Int64))))])) (fun _ k => XS.lneg W1.here hx rfl (hb hby dd_jdk_29_method_22_code_53) rfl k) ?_
      refine Go.st (g' := (mkF m 56 #[.val (.double x0), .second, .val (.long (x0.toInt64)), .second, .val (.long (((x0.toInt64) &&& (9218868437227405312 : Int64)) >>> ((52 : Int32) &&& 0x3f).toInt64)), .second, .val (.long ((1074 : Int64) - (((x0.toInt64) &&& (9218868437227405312 : Int64)) >>> ((52 : Int32) &&& 0x3f).toInt64))), .second, .val (.long (-(((x0.toInt64) &&& (4503599627370495 : Int64)) ||| (4503599627370496 : Int64)))), .second] [])) (fun _ k => XS.lstore W1.here hx rfl (hb hby dd_jdk_29_method_22_code_54) rfl (l' := #[.val (.double x0), .second, .val (.long (x0.toInt64)), .second, .val (.long (((x0.toInt64) &&& (9218868437227405312 : Int64)) >>> ((52 : Int32) &&& 0x3f).toInt64)), .second, .val (.long ((1074 : Int64) - (((x0.toInt64) &&& (9218868437227405312 : Int64)) >>> ((52 : Int32) &&& 0x3f).toInt64))), .second, .val (.long (-(((x0.toInt64) &&& (4503599627370495 : Int64)) ||| (4503599627370496 : Int64)))), .second]) rfl k) ?_
      refine Go.st (g' := (mkF m 58 #[.val (.double x0), .second, .val (.long (x0.toInt64)), .second, .val (.long (((x0.toInt64) &&& (9218868437227405312 : Int64)) >>> ((52 : Int32) &&& 0x3f).toInt64)), .second, .val (.long ((1074 : Int64) - (((x0.toInt64) &&& (9218868437227405312 : Int64)) >>> ((52 : Int32) &&& 0x3f).toInt64))), .second, .val (.long (-(((x0.toInt64) &&& (4503599627370495 : Int64)) ||| (4503599627370496 : Int64)))), .second] [(.long (-(((x0.toInt64) &&& (4503599627370495 : Int64)) ||| (4503599627370496 : Int64))))])) (fun _ k => XS.lload W1.here hx rfl (hb hby dd_jdk_29_method_22_code_56) rfl  k) ?_
      refine Go.st (g' := (mkF m 60 #[.val (.double x0), .second, .val (.long (x0.toInt64)), .second, .val (.long (((x0.toInt64) &&& (9218868437227405312 : Int64)) >>> ((52 : Int32) &&& 0x3f).toInt64)), .second, .val (.long ((1074 : Int64) - (((x0.toInt64) &&& (9218868437227405312 : Int64)) >>> ((52 : Int32) &&& 0x3f).toInt64))), .second, .val (.long (-(((x0.toInt64) &&& (4503599627370495 : Int64)) ||| (4503599627370496 : Int64)))), .second] [(.long ((1074 : Int64) - (((x0.toInt64) &&& (9218868437227405312 : Int64)) >>> ((52 : Int32) &&& 0x3f).toInt64))), (.long (-(((x0.toInt64) &&& (4503599627370495 : Int64)) ||| (4503599627370496 : Int64))))])) (fun _ k => XS.lload W1.here hx rfl (hb hby dd_jdk_29_method_22_code_58) rfl  k) ?_
      refine Go.st (g' := (mkF m 61 #[.val (.double x0), .second, .val (.long (x0.toInt64)), .second, .val (.long (((x0.toInt64) &&& (9218868437227405312 : Int64)) >>> ((52 : Int32) &&& 0x3f).toInt64)), .second, .val (.long ((1074 : Int64) - (((x0.toInt64) &&& (9218868437227405312 : Int64)) >>> ((52 : Int32) &&& 0x3f).toInt64))), .second, .val (.long (-(((x0.toInt64) &&& (4503599627370495 : Int64)) ||| (4503599627370496 : Int64)))), .second] [(.int (((1074 : Int64) - (((x0.toInt64) &&& (9218868437227405312 : Int64)) >>> ((52 : Int32) &&& 0x3f).toInt64)).toInt32)), (.long (-(((x0.toInt64) &&& (4503599627370495 : Int64)) ||| (4503599627370496 : Int64))))])) (fun _ k => XS.l2i W1.here hx rfl (hb hby dd_jdk_29_method_22_code_60) rfl k) ?_
      refine Go.st (g' := (mkF m 62 #[.val (.double x0), .second, .val (.long (x0.toInt64)), .second, .val (.long (((x0.toInt64) &&& (9218868437227405312 : Int64)) >>> ((52 : Int32) &&& 0x3f).toInt64)), .second, .val (.long ((1074 : Int64) - (((x0.toInt64) &&& (9218868437227405312 : Int64)) >>> ((52 : Int32) &&& 0x3f).toInt64))), .second, .val (.long (-(((x0.toInt64) &&& (4503599627370495 : Int64)) ||| (4503599627370496 : Int64)))), .second] [(.long ((-(((x0.toInt64) &&& (4503599627370495 : Int64)) ||| (4503599627370496 : Int64))) >>> ((((1074 : Int64) - (((x0.toInt64) &&& (9218868437227405312 : Int64)) >>> ((52 : Int32) &&& 0x3f).toInt64)).toInt32) &&& 0x3f).toInt64))])) (fun _ k => XS.lshr W1.here hx rfl (hb hby dd_jdk_29_method_22_code_61) rfl k) ?_
      refine Go.st (g' := (mkF m 63 #[.val (.double x0), .second, .val (.long (x0.toInt64)), .second, .val (.long (((x0.toInt64) &&& (9218868437227405312 : Int64)) >>> ((52 : Int32) &&& 0x3f).toInt64)), .second, .val (.long ((1074 : Int64) - (((x0.toInt64) &&& (9218868437227405312 : Int64)) >>> ((52 : Int32) &&& 0x3f).toInt64))), .second, .val (.long (-(((x0.toInt64) &&& (4503599627370495 : Int64)) ||| (4503599627370496 : Int64)))), .second] [(.long (1 : Int64)), (.long ((-(((x0.toInt64) &&& (4503599627370495 : Int64)) ||| (4503599627370496 : Int64))) >>> ((((1074 : Int64) - (((x0.toInt64) &&& (9218868437227405312 : Int64)) >>> ((52 : Int32) &&& 0x3f).toInt64)).toInt32) &&& 0x3f).toInt64))])) (fun _ k => XS.lconst W1.here hx rfl (hb hby dd_jdk_29_method_22_code_62) k) ?_
      refine Go.st (g' := (mkF m 64 #[.val (.double x0), .second, .val (.long (x0.toInt64)), .second, .val (.long (((x0.toInt64) &&& (9218868437227405312 : Int64)) >>> ((52 : Int32) &&& 0x3f).toInt64)), .second, .val (.long ((1074 : Int64) - (((x0.toInt64) &&& (9218868437227405312 : Int64)) >>> ((52 : Int32) &&& 0x3f).toInt64))), .second, .val (.long (-(((x0.toInt64) &&& (4503599627370495 : Int64)) ||| (4503599627370496 : Int64)))), .second] [(.long (((-(((x0.toInt64) &&& (4503599627370495 : Int64)) ||| (4503599627370496 : Int64))) >>> ((((1074 : Int64) - (((x0.toInt64) &&& (9218868437227405312 : Int64)) >>> ((52 : Int32) &&& 0x3f).toInt64)).toInt32) &&& 0x3f).toInt64) + (1 : Int64)))])) (fun _ k => XS.ladd W1.here hx rfl (hb hby dd_jdk_29_method_22_code_63) rfl k) ?_
      refine Go.st (g' := (mkF m 65 #[.val (.double x0), .second, .val (.long (x0.toInt64)), .second, .val (.long (((x0.toInt64) &&& (9218868437227405312 : Int64)) >>> ((52 : Int32) &&& 0x3f).toInt64)), .second, .val (.long ((1074 : Int64) - (((x0.toInt64) &&& (9218868437227405312 : Int64)) >>> ((52 : Int32) &&& 0x3f).toInt64))), .second, .val (.long (-(((x0.toInt64) &&& (4503599627370495 : Int64)) ||| (4503599627370496 : Int64)))), .second] [(.int (1 : Int32)), (.long (((-(((x0.toInt64) &&& (4503599627370495 : Int64)) ||| (4503599627370496 : Int64))) >>> ((((1074 : Int64) - (((x0.toInt64) &&& (9218868437227405312 : Int64)) >>> ((52 : Int32) &&& 0x3f).toInt64)).toInt32) &&& 0x3f).toInt64) + (1 : Int64)))])) (fun _ k => XS.iconst W1.here hx rfl (hb hby dd_jdk_29_method_22_code_64) k) ?_
      refine Go.st (g' := (mkF m 66 #[.val (.double x0), .second, .val (.long (x0.toInt64)), .second, .val (.long (((x0.toInt64) &&& (9218868437227405312 : Int64)) >>> ((52 : Int32) &&& 0x3f).toInt64)), .second, .val (.long ((1074 : Int64) - (((x0.toInt64) &&& (9218868437227405312 : Int64)) >>> ((52 : Int32) &&& 0x3f).toInt64))), .second, .val (.long (-(((x0.toInt64) &&& (4503599627370495 : Int64)) ||| (4503599627370496 : Int64)))), .second] [(.long ((((-(((x0.toInt64) &&& (4503599627370495 : Int64)) ||| (4503599627370496 : Int64))) >>> ((((1074 : Int64) - (((x0.toInt64) &&& (9218868437227405312 : Int64)) >>> ((52 : Int32) &&& 0x3f).toInt64)).toInt32) &&& 0x3f).toInt64) + (1 : Int64)) >>> ((1 : Int32) &&& 0x3f).toInt64))])) (fun _ k => XS.lshr W1.here hx rfl (hb hby dd_jdk_29_method_22_code_65) rfl k) ?_
      exact W1.retJ hx hEL hlk hret (hb hby dd_jdk_29_method_22_code_66) (by decide) (by decide) ⟨(by show some (Value.long ((((-(((x0.toInt64) &&& (4503599627370495 : Int64)) ||| (4503599627370496 : Int64))) >>> ((((1074 : Int64) - (((x0.toInt64) &&& (9218868437227405312 : Int64)) >>> ((52 : Int32) &&& 0x3f).toInt64)).toInt32) &&& 0x3f).toInt64) + (1 : Int64)) >>> ((1 : Int32) &&& 0x3f).toInt64)) = _; unfold own_rd own_half own_sig own_sh own_e; rw [if_pos hc2, if_pos hc3]; first | done | rfl), rfl⟩
    · refine Go.st (g' := (mkF m 56 #[.val (.double x0), .second, .val (.long (x0.toInt64)), .second, .val (.long (((x0.toInt64) &&& (9218868437227405312 : Int64)) >>> ((52 : Int32) &&& 0x3f).toInt64)), .second, .val (.long ((1074 : Int64) - (((x0.toInt64) &&& (9218868437227405312 : Int64)) >>> ((52 : Int32) &&& 0x3f).toInt64))), .second, .val (.long (((x0.toInt64) &&& (4503599627370495 : Int64)) ||| (4503599627370496 : Int64))), .second] [])) (fun _ k => XS.ifYes W1.here hx rfl (pc0 := 48) (pc' := 56) rfl (hb hby dd_jdk_29_method_22_code_48) rfl ((if0 _ _).trans (flt hc3).2.1) (by decide) (by decide) k) ?_
      refine Go.st (g' := (mkF m 58 #[.val (.double x0), .second, .val (.long (x0.toInt64)), .second, .val (.long (((x0.toInt64) &&& (9218868437227405312 : Int64)) >>> ((52 : Int32) &&& 0x3f).toInt64)), .second, .val (.long ((1074 : Int64) - (((x0.toInt64) &&& (9218868437227405312 : Int64)) >>> ((52 : Int32) &&& 0x3f).toInt64))), .second, .val (.long (((x0.toInt64) &&& (4503599627370495 : Int64)) ||| (4503599627370496 : Int64))), .second] [(.long (((x0.toInt64) &&& (4503599627370495 : Int64)) ||| (4503599627370496 : Int64)))])) (fun _ k => XS.lload W1.here hx rfl (hb hby dd_jdk_29_method_22_code_56) rfl  k) ?_
      refine Go.st (g' := (mkF m 60 #[.val (.double x0), .second, .val (.long (x0.toInt64)), .second, .val (.long (((x0.toInt64) &&& (9218868437227405312 : Int64)) >>> ((52 : Int32) &&& 0x3f).toInt64)), .second, .val (.long ((1074 : Int64) - (((x0.toInt64) &&& (9218868437227405312 : Int64)) >>> ((52 : Int32) &&& 0x3f).toInt64))), .second, .val (.long (((x0.toInt64) &&& (4503599627370495 : Int64)) ||| (4503599627370496 : Int64))), .second] [(.long ((1074 : Int64) - (((x0.toInt64) &&& (9218868437227405312 : Int64)) >>> ((52 : Int32) &&& 0x3f).toInt64))), (.long (((x0.toInt64) &&& (4503599627370495 : Int64)) ||| (4503599627370496 : Int64)))])) (fun _ k => XS.lload W1.here hx rfl (hb hby dd_jdk_29_method_22_code_58) rfl  k) ?_
      refine Go.st (g' := (mkF m 61 #[.val (.double x0), .second, .val (.long (x0.toInt64)), .second, .val (.long (((x0.toInt64) &&& (9218868437227405312 : Int64)) >>> ((52 : Int32) &&& 0x3f).toInt64)), .second, .val (.long ((1074 : Int64) - (((x0.toInt64) &&& (9218868437227405312 : Int64)) >>> ((52 : Int32) &&& 0x3f).toInt64))), .second, .val (.long (((x0.toInt64) &&& (4503599627370495 : Int64)) ||| (4503599627370496 : Int64))), .second] [(.int (((1074 : Int64) - (((x0.toInt64) &&& (9218868437227405312 : Int64)) >>> ((52 : Int32) &&& 0x3f).toInt64)).toInt32)), (.long (((x0.toInt64) &&& (4503599627370495 : Int64)) ||| (4503599627370496 : Int64)))])) (fun _ k => XS.l2i W1.here hx rfl (hb hby dd_jdk_29_method_22_code_60) rfl k) ?_
      refine Go.st (g' := (mkF m 62 #[.val (.double x0), .second, .val (.long (x0.toInt64)), .second, .val (.long (((x0.toInt64) &&& (9218868437227405312 : Int64)) >>> ((52 : Int32) &&& 0x3f).toInt64)), .second, .val (.long ((1074 : Int64) - (((x0.toInt64) &&& (9218868437227405312 : Int64)) >>> ((52 : Int32) &&& 0x3f).toInt64))), .second, .val (.long (((x0.toInt64) &&& (4503599627370495 : Int64)) ||| (4503599627370496 : Int64))), .second] [(.long ((((x0.toInt64) &&& (4503599627370495 : Int64)) ||| (4503599627370496 : Int64)) >>> ((((1074 : Int64) - (((x0.toInt64) &&& (9218868437227405312 : Int64)) >>> ((52 : Int32) &&& 0x3f).toInt64)).toInt32) &&& 0x3f).toInt64))])) (fun _ k => XS.lshr W1.here hx rfl (hb hby dd_jdk_29_method_22_code_61) rfl k) ?_
      refine Go.st (g' := (mkF m 63 #[.val (.double x0), .second, .val (.long (x0.toInt64)), .second, .val (.long (((x0.toInt64) &&& (9218868437227405312 : Int64)) >>> ((52 : Int32) &&& 0x3f).toInt64)), .second, .val (.long ((1074 : Int64) - (((x0.toInt64) &&& (9218868437227405312 : Int64)) >>> ((52 : Int32) &&& 0x3f).toInt64))), .second, .val (.long (((x0.toInt64) &&& (4503599627370495 : Int64)) ||| (4503599627370496 : Int64))), .second] [(.long (1 : Int64)), (.long ((((x0.toInt64) &&& (4503599627370495 : Int64)) ||| (4503599627370496 : Int64)) >>> ((((1074 : Int64) - (((x0.toInt64) &&& (9218868437227405312 : Int64)) >>> ((52 : Int32) &&& 0x3f).toInt64)).toInt32) &&& 0x3f).toInt64))])) (fun _ k => XS.lconst W1.here hx rfl (hb hby dd_jdk_29_method_22_code_62) k) ?_
      refine Go.st (g' := (mkF m 64 #[.val (.double x0), .second, .val (.long (x0.toInt64)), .second, .val (.long (((x0.toInt64) &&& (9218868437227405312 : Int64)) >>> ((52 : Int32) &&& 0x3f).toInt64)), .second, .val (.long ((1074 : Int64) - (((x0.toInt64) &&& (9218868437227405312 : Int64)) >>> ((52 : Int32) &&& 0x3f).toInt64))), .second, .val (.long (((x0.toInt64) &&& (4503599627370495 : Int64)) ||| (4503599627370496 : Int64))), .second] [(.long (((((x0.toInt64) &&& (4503599627370495 : Int64)) ||| (4503599627370496 : Int64)) >>> ((((1074 : Int64) - (((x0.toInt64) &&& (9218868437227405312 : Int64)) >>> ((52 : Int32) &&& 0x3f).toInt64)).toInt32) &&& 0x3f).toInt64) + (1 : Int64)))])) (fun _ k => XS.ladd W1.here hx rfl (hb hby dd_jdk_29_method_22_code_63) rfl k) ?_
      refine Go.st (g' := (mkF m 65 #[.val (.double x0), .second, .val (.long (x0.toInt64)), .second, .val (.long (((x0.toInt64) &&& (9218868437227405312 : Int64)) >>> ((52 : Int32) &&& 0x3f).toInt64)), .second, .val (.long ((1074 : Int64) - (((x0.toInt64) &&& (9218868437227405312 : Int64)) >>> ((52 : Int32) &&& 0x3f).toInt64))), .second, .val (.long (((x0.toInt64) &&& (4503599627370495 : Int64)) ||| (4503599627370496 : Int64))), .second] [(.int (1 : Int32)), (.long (((((x0.toInt64) &&& (4503599627370495 : Int64)) ||| (4503599627370496 : Int64)) >>> ((((1074 : Int64) - (((x0.toInt64) &&& (9218868437227405312 : Int64)) >>> ((52 : Int32) &&& 0x3f).toInt64)).toInt32) &&& 0x3f).toInt64) + (1 : Int64)))])) (fun _ k => XS.iconst W1.here hx rfl (hb hby dd_jdk_29_method_22_code_64) k) ?_
      refine Go.st (g' := (mkF m 66 #[.val (.double x0), .second, .val (.long (x0.toInt64)), .second, .val (.long (((x0.toInt64) &&& (9218868437227405312 : Int64)) >>> ((52 : Int32) &&& 0x3f).toInt64)), .second, .val (.long ((1074 : Int64) - (((x0.toInt64) &&& (9218868437227405312 : Int64)) >>> ((52 : Int32) &&& 0x3f).toInt64))), .second, .val (.long (((x0.toInt64) &&& (4503599627370495 : Int64)) ||| (4503599627370496 : Int64))), .second] [(.long ((((((x0.toInt64) &&& (4503599627370495 : Int64)) ||| (4503599627370496 : Int64)) >>> ((((1074 : Int64) - (((x0.toInt64) &&& (9218868437227405312 : Int64)) >>> ((52 : Int32) &&& 0x3f).toInt64)).toInt32) &&& 0x3f).toInt64) + (1 : Int64)) >>> ((1 : Int32) &&& 0x3f).toInt64))])) (fun _ k => XS.lshr W1.here hx rfl (hb hby dd_jdk_29_method_22_code_65) rfl k) ?_
      exact W1.retJ hx hEL hlk hret (hb hby dd_jdk_29_method_22_code_66) (by decide) (by decide) ⟨(by show some (Value.long ((((((x0.toInt64) &&& (4503599627370495 : Int64)) ||| (4503599627370496 : Int64)) >>> ((((1074 : Int64) - (((x0.toInt64) &&& (9218868437227405312 : Int64)) >>> ((52 : Int32) &&& 0x3f).toInt64)).toInt32) &&& 0x3f).toInt64) + (1 : Int64)) >>> ((1 : Int32) &&& 0x3f).toInt64)) = _; unfold own_rd own_half own_sig own_sh own_e; rw [if_pos hc2, if_neg hc3]; first | done | rfl), rfl⟩
  · refine Go.st (g' := (mkF m 67 #[.val (.double x0), .second, .val (.long (x0.toInt64)), .second, .val (.long (((x0.toInt64) &&& (9218868437227405312 : Int64)) >>> ((52 : Int32) &&& 0x3f).toInt64)), .second, .val (.long ((1074 : Int64) - (((x0.toInt64) &&& (9218868437227405312 : Int64)) >>> ((52 : Int32) &&& 0x3f).toInt64))), .second, .unset, .unset] [])) (fun _ k => XS.ifYes W1.here hx rfl (pc0 := 31) (pc' := 67) rfl (hb hby dd_jdk_29_method_22_code_31) rfl ((if0 _ _).trans (feq hc2).2) (by decide) (by decide) k) ?_
    refine Go.st (g' := (mkF m 68 #[.val (.double x0), .second, .val (.long (x0.toInt64)), .second, .val (.long (((x0.toInt64) &&& (9218868437227405312 : Int64)) >>> ((52 : Int32) &&& 0x3f).toInt64)), .second, .val (.long ((1074 : Int64) - (((x0.toInt64) &&& (9218868437227405312 : Int64)) >>> ((52 : Int32) &&& 0x3f).toInt64))), .second, .unset, .unset] [(.double x0)])) (fun _ k => XS.dloadN W1.here hx rfl (hb hby dd_jdk_29_method_22_code_67) rfl  k) ?_
    refine Go.st (g' := (mkF m 69 #[.val (.double x0), .second, .val (.long (x0.toInt64)), .second, .val (.long (((x0.toInt64) &&& (9218868437227405312 : Int64)) >>> ((52 : Int32) &&& 0x3f).toInt64)), .second, .val (.long ((1074 : Int64) - (((x0.toInt64) &&& (9218868437227405312 : Int64)) >>> ((52 : Int32) &&& 0x3f).toInt64))), .second, .unset, .unset] [(.long (FP.d2l x0))])) (fun _ k => XS.d2lS W1.here hx rfl (hb hby dd_jdk_29_method_22_code_68) rfl rfl k) ?_
    exact W1.retJ hx hEL hlk hret (hb hby dd_jdk_29_method_22_code_69) (by decide) (by decide) ⟨(by show some (Value.long (FP.d2l x0)) = _; unfold own_rd own_half own_sig own_sh own_e; rw [if_neg hc2]; first | done | rfl), rfl⟩
set_option maxRecDepth 65536 in
set_option maxHeartbeats 4000000 in
theorem own_wround (l : Launch) {Z : State} {a0 : Array Value} (hE : Ctx Z a0) {n0 : Nat} {h0 : Heap} (O : Old Z n0 h0) {d0 : UInt64} (hm : FP.dIsNaN (FP.dmul d0 (4696837146684686336 : UInt64)) = false)  :
    Met l (⟨"com/example/amherst/amherst/text/RunWriter", "round", "(D)D"⟩ : MethodName) prog_24_method_2_code 2 (Option.some Jvm.ClassFile.FieldType.double) ({ frames := 2, cells := 0, slots := 0, locals := 36 } : Room) Z consts_1 n0 [] #[(.double d0)] h0 (fun v h => v = some (.double (FP.ddiv (FP.l2d (own_rd (FP.dmul d0 (4696837146684686336 : UInt64)))) (4696837146684686336 : UInt64))) ∧ h0 = h) := by
  have hw := hE.1
  have hEL := own_EW hw
  refine Met.of (by first | (refine plainFor_of_name ?_; simp [plainName, overriddenIn]; done) | decide +kernel) O rfl ?_
  intro p e s m below meth c T0 hx hby hml hret hlk hnm hh0 W0
  have z0 := W0.ge
  refine Go.st (g' := (mkF m 0 #[.val (.double d0), .second] [])) (fun _ k => castTop (by first | (simp [entryFrame, mkF, argsToLocals, maxLocals, own_catI, own_catJ, own_catD, own_catF, own_catA, own_catN]; done) | rfl) k) ?_
  refine Go.st (g' := (mkF m 1 #[.val (.double d0), .second] [(.double d0)])) (fun _ k => XS.dloadN W0.here hx rfl (hb hby dd_prog_24_method_2_code_0) rfl  k) ?_
  refine Go.st (g' := (mkF m 4 #[.val (.double d0), .second] [(.double (4696837146684686336 : UInt64)), (.double d0)])) (W0.ldcD hx (hw _ (List.mem_of_getElem? (i := 10) rfl)) (g := (mkF m 1 #[.val (.double d0), .second] [(.double d0)])) rfl (hb hby dd_prog_24_method_2_code_1)) ?_
  refine Go.st (g' := (mkF m 5 #[.val (.double d0), .second] [(.double (FP.dmul d0 (4696837146684686336 : UInt64)))])) (fun _ k => XS.dmulS W0.here hx rfl (hb hby dd_prog_24_method_2_code_4) rfl (Jvm.Free.Fl.noNaN64_no.mpr hm) rfl k) ?_
  obtain ⟨_, vm1, T1, h1, W1, Q1, z1, SF1, st1⟩ := W0.callS hx hEL (own_mround l hE W0.old (x0 := (FP.dmul d0 (4696837146684686336 : UInt64)))  ) (hw _ (List.mem_of_getElem? (i := 11) rfl)) (hw _ (List.mem_of_getElem? (i := 12) rfl)) (hw _ (List.mem_of_getElem? (i := 13) rfl)) (hw _ (List.mem_of_getElem? (i := 14) rfl)) (by decide) (Wd := 0) (by decide) (by decide) (by decide) (by decide) (g := (mkF m 5 #[.val (.double d0), .second] [(.double (FP.dmul d0 (4696837146684686336 : UInt64)))])) rfl (by rw [hml]; rfl) (argsL := [(.double (FP.dmul d0 (4696837146684686336 : UInt64)))]) (rest := []) rfl (lenOf pd__D_J rfl) rfl (by show 2 * 0 + _ ≤ _; exact Nat.le_of_eq rfl) (hb hby dd_prog_24_method_2_code_5)
  obtain ⟨rfl, eh1⟩ := Q1
  subst eh1
  refine Go.tr (g' := (mkF m 8 #[.val (.double d0), .second] [(.long (own_rd (FP.dmul d0 (4696837146684686336 : UInt64))))])) st1 ?_
  refine Go.st (g' := (mkF m 9 #[.val (.double d0), .second] [(.double (FP.l2d (own_rd (FP.dmul d0 (4696837146684686336 : UInt64)))))])) (fun _ k => XS.l2dS W1.here hx rfl (hb hby dd_prog_24_method_2_code_8) rfl rfl k) ?_
  refine Go.st (g' := (mkF m 12 #[.val (.double d0), .second] [(.double (4696837146684686336 : UInt64)), (.double (FP.l2d (own_rd (FP.dmul d0 (4696837146684686336 : UInt64)))))])) (W1.ldcD hx (hw _ (List.mem_of_getElem? (i := 10) rfl)) (g := (mkF m 9 #[.val (.double d0), .second] [(.double (FP.l2d (own_rd (FP.dmul d0 (4696837146684686336 : UInt64)))))])) rfl (hb hby dd_prog_24_method_2_code_9)) ?_
  refine Go.st (g' := (mkF m 13 #[.val (.double d0), .second] [(.double (FP.ddiv (FP.l2d (own_rd (FP.dmul d0 (4696837146684686336 : UInt64)))) (4696837146684686336 : UInt64)))])) (fun _ k => XS.ddivS W1.here hx rfl (hb hby dd_prog_24_method_2_code_12) rfl (Jvm.Free.Fl.noNaN64_no.mpr (own_nd _)) rfl k) ?_
  exact W1.retD hx hEL hlk hret (hb hby dd_prog_24_method_2_code_13) (by decide) (by decide) ⟨rfl, rfl⟩
set_option maxRecDepth 65536 in
set_option maxHeartbeats 4000000 in
theorem own_law (l : Launch) {Z : State} {a0 : Array Value} (hE : Ctx Z a0) {n0 : Nat} {h0 : Heap} (O : Old Z n0 h0) {p0 : Int32} {p1 : Int32}   :
    Met l x code 14 ret room_1 Z consts_1 n0 tables_1 #[(.int p0), (.int p1)] h0 (fun v h => v = some (.int (1 : Int32))) := by
  have hw := hE.1
  have hEL := own_EW hw
  refine Met.of (by first | (refine plainFor_of_name ?_; simp [plainName, overriddenIn]; done) | decide +kernel) O rfl ?_
  intro p e s m below meth c T0 hx hby hml hret hlk hnm hh0 W0
  have z0 := W0.ge
  refine Go.st (g' := (mkF m 0 #[.val (.int p0), .val (.int p1), .unset, .unset, .unset, .unset, .unset, .unset, .unset, .unset, .unset, .unset, .unset, .unset] [])) (fun _ k => castTop (by first | (simp [entryFrame, mkF, argsToLocals, maxLocals, own_catI, own_catJ, own_catD, own_catF, own_catA, own_catN]; done) | rfl) k) ?_
  refine Go.st (g' := (mkF m 1 #[.val (.int p0), .val (.int p1), .unset, .unset, .unset, .unset, .unset, .unset, .unset, .unset, .unset, .unset, .unset, .unset] [(.int p0)])) (fun _ k => XS.iloadN W0.here hx rfl (hb hby at_0) rfl  k) ?_
  refine Go.st (g' := (mkF m 2 #[.val (.int p0), .val (.int p1), .unset, .unset, .unset, .unset, .unset, .unset, .unset, .unset, .unset, .unset, .unset, .unset] [(.int (3 : Int32)), (.int p0)])) (fun _ k => XS.iconst W0.here hx rfl (hb hby at_1) k) ?_
  refine Go.st (g' := (mkF m 3 #[.val (.int p0), .val (.int p1), .unset, .unset, .unset, .unset, .unset, .unset, .unset, .unset, .unset, .unset, .unset, .unset] [(.int (p0 >>> ((3 : Int32) &&& 31)))])) (fun _ k => XS.ishr W0.here hx rfl (hb hby at_2) rfl k) ?_
  refine Go.st (g' := (mkF m 4 #[.val (.int p0), .val (.int p1), .unset, .unset, .unset, .unset, .unset, .unset, .unset, .unset, .unset, .unset, .unset, .unset] [(.long ((p0 >>> ((3 : Int32) &&& 31)).toInt64))])) (fun _ k => XS.i2l W0.here hx rfl (hb hby at_3) rfl k) ?_
  refine Go.st (g' := (mkF m 5 #[.val (.int p0), .val (.int p1), .val (.long ((p0 >>> ((3 : Int32) &&& 31)).toInt64)), .second, .unset, .unset, .unset, .unset, .unset, .unset, .unset, .unset, .unset, .unset] [])) (fun _ k => XS.lstoreN W0.here hx rfl (hb hby at_4) rfl (l' := #[.val (.int p0), .val (.int p1), .val (.long ((p0 >>> ((3 : Int32) &&& 31)).toInt64)), .second, .unset, .unset, .unset, .unset, .unset, .unset, .unset, .unset, .unset, .unset]) rfl k) ?_
  refine Go.st (g' := (mkF m 6 #[.val (.int p0), .val (.int p1), .val (.long ((p0 >>> ((3 : Int32) &&& 31)).toInt64)), .second, .unset, .unset, .unset, .unset, .unset, .unset, .unset, .unset, .unset, .unset] [(.int p1)])) (fun _ k => XS.iloadN W0.here hx rfl (hb hby at_5) rfl  k) ?_
  refine Go.st (g' := (mkF m 9 #[.val (.int p0), .val (.int p1), .val (.long ((p0 >>> ((3 : Int32) &&& 31)).toInt64)), .second, .unset, .unset, .unset, .unset, .unset, .unset, .unset, .unset, .unset, .unset] [(.int (1023 : Int32)), (.int p1)])) (fun _ k => XS.sipush W0.here hx rfl (hb hby at_6) k) ?_
  refine Go.st (g' := (mkF m 10 #[.val (.int p0), .val (.int p1), .val (.long ((p0 >>> ((3 : Int32) &&& 31)).toInt64)), .second, .unset, .unset, .unset, .unset, .unset, .unset, .unset, .unset, .unset, .unset] [(.int (p1 &&& (1023 : Int32)))])) (fun _ k => XS.iand W0.here hx rfl (hb hby at_9) rfl k) ?_
  refine Go.st (g' := (mkF m 11 #[.val (.int p0), .val (.int p1), .val (.long ((p0 >>> ((3 : Int32) &&& 31)).toInt64)), .second, .unset, .unset, .unset, .unset, .unset, .unset, .unset, .unset, .unset, .unset] [(.long ((p1 &&& (1023 : Int32)).toInt64))])) (fun _ k => XS.i2l W0.here hx rfl (hb hby at_10) rfl k) ?_
  refine Go.st (g' := (mkF m 13 #[.val (.int p0), .val (.int p1), .val (.long ((p0 >>> ((3 : Int32) &&& 31)).toInt64)), .second, .val (.long ((p1 &&& (1023 : Int32)).toInt64)), .second, .unset, .unset, .unset, .unset, .unset, .unset, .unset, .unset] [])) (fun _ k => XS.lstore W0.here hx rfl (hb hby at_11) rfl (l' := #[.val (.int p0), .val (.int p1), .val (.long ((p0 >>> ((3 : Int32) &&& 31)).toInt64)), .second, .val (.long ((p1 &&& (1023 : Int32)).toInt64)), .second, .unset, .unset, .unset, .unset, .unset, .unset, .unset, .unset]) rfl k) ?_
  refine Go.st (g' := (mkF m 14 #[.val (.int p0), .val (.int p1), .val (.long ((p0 >>> ((3 : Int32) &&& 31)).toInt64)), .second, .val (.long ((p1 &&& (1023 : Int32)).toInt64)), .second, .unset, .unset, .unset, .unset, .unset, .unset, .unset, .unset] [(.long ((p0 >>> ((3 : Int32) &&& 31)).toInt64))])) (fun _ k => XS.lloadN W0.here hx rfl (hb hby at_13) rfl  k) ?_
  refine Go.st (g' := (mkF m 17 #[.val (.int p0), .val (.int p1), .val (.long ((p0 >>> ((3 : Int32) &&& 31)).toInt64)), .second, .val (.long ((p1 &&& (1023 : Int32)).toInt64)), .second, .unset, .unset, .unset, .unset, .unset, .unset, .unset, .unset] [(.long (1024 : Int64)), (.long ((p0 >>> ((3 : Int32) &&& 31)).toInt64))])) (W0.ldcJ hx (hw _ (List.mem_of_getElem? (i := 0) rfl)) (g := (mkF m 14 #[.val (.int p0), .val (.int p1), .val (.long ((p0 >>> ((3 : Int32) &&& 31)).toInt64)), .second, .val (.long ((p1 &&& (1023 : Int32)).toInt64)), .second, .unset, .unset, .unset, .unset, .unset, .unset, .unset, .unset] [(.long ((p0 >>> ((3 : Int32) &&& 31)).toInt64))])) rfl (hb hby at_14)) ?_
  refine Go.st (g' := (mkF m 18 #[.val (.int p0), .val (.int p1), .val (.long ((p0 >>> ((3 : Int32) &&& 31)).toInt64)), .second, .val (.long ((p1 &&& (1023 : Int32)).toInt64)), .second, .unset, .unset, .unset, .unset, .unset, .unset, .unset, .unset] [(.long (((p0 >>> ((3 : Int32) &&& 31)).toInt64) * (1024 : Int64)))])) (fun _ k => XS.lmul W0.here hx rfl (hb hby at_17) rfl k) ?_
  refine Go.st (g' := (mkF m 20 #[.val (.int p0), .val (.int p1), .val (.long ((p0 >>> ((3 : Int32) &&& 31)).toInt64)), .second, .val (.long ((p1 &&& (1023 : Int32)).toInt64)), .second, .unset, .unset, .unset, .unset, .unset, .unset, .unset, .unset] [(.long ((p1 &&& (1023 : Int32)).toInt64)), (.long (((p0 >>> ((3 : Int32) &&& 31)).toInt64) * (1024 : Int64)))])) (fun _ k => XS.lload W0.here hx rfl (hb hby at_18) rfl  k) ?_
  refine Go.st (g' := (mkF m 21 #[.val (.int p0), .val (.int p1), .val (.long ((p0 >>> ((3 : Int32) &&& 31)).toInt64)), .second, .val (.long ((p1 &&& (1023 : Int32)).toInt64)), .second, .unset, .unset, .unset, .unset, .unset, .unset, .unset, .unset] [(.long ((((p0 >>> ((3 : Int32) &&& 31)).toInt64) * (1024 : Int64)) + ((p1 &&& (1023 : Int32)).toInt64)))])) (fun _ k => XS.ladd W0.here hx rfl (hb hby at_20) rfl k) ?_
  refine Go.st (g' := (mkF m 22 #[.val (.int p0), .val (.int p1), .val (.long ((p0 >>> ((3 : Int32) &&& 31)).toInt64)), .second, .val (.long ((p1 &&& (1023 : Int32)).toInt64)), .second, .unset, .unset, .unset, .unset, .unset, .unset, .unset, .unset] [(.double (FP.l2d ((((p0 >>> ((3 : Int32) &&& 31)).toInt64) * (1024 : Int64)) + ((p1 &&& (1023 : Int32)).toInt64))))])) (fun _ k => XS.l2dS W0.here hx rfl (hb hby at_21) rfl rfl k) ?_
  refine Go.st (g' := (mkF m 25 #[.val (.int p0), .val (.int p1), .val (.long ((p0 >>> ((3 : Int32) &&& 31)).toInt64)), .second, .val (.long ((p1 &&& (1023 : Int32)).toInt64)), .second, .unset, .unset, .unset, .unset, .unset, .unset, .unset, .unset] [(.double (4652218415073722368 : UInt64)), (.double (FP.l2d ((((p0 >>> ((3 : Int32) &&& 31)).toInt64) * (1024 : Int64)) + ((p1 &&& (1023 : Int32)).toInt64))))])) (W0.ldcD hx (hw _ (List.mem_of_getElem? (i := 1) rfl)) (g := (mkF m 22 #[.val (.int p0), .val (.int p1), .val (.long ((p0 >>> ((3 : Int32) &&& 31)).toInt64)), .second, .val (.long ((p1 &&& (1023 : Int32)).toInt64)), .second, .unset, .unset, .unset, .unset, .unset, .unset, .unset, .unset] [(.double (FP.l2d ((((p0 >>> ((3 : Int32) &&& 31)).toInt64) * (1024 : Int64)) + ((p1 &&& (1023 : Int32)).toInt64))))])) rfl (hb hby at_22)) ?_
  refine Go.st (g' := (mkF m 26 #[.val (.int p0), .val (.int p1), .val (.long ((p0 >>> ((3 : Int32) &&& 31)).toInt64)), .second, .val (.long ((p1 &&& (1023 : Int32)).toInt64)), .second, .unset, .unset, .unset, .unset, .unset, .unset, .unset, .unset] [(.double (FP.ddiv (FP.l2d ((((p0 >>> ((3 : Int32) &&& 31)).toInt64) * (1024 : Int64)) + ((p1 &&& (1023 : Int32)).toInt64))) (4652218415073722368 : UInt64)))])) (fun _ k => XS.ddivS W0.here hx rfl (hb hby at_25) rfl (Jvm.Free.Fl.noNaN64_no.mpr (own_nd2 _)) rfl k) ?_
  refine Go.st (g' := (mkF m 28 #[.val (.int p0), .val (.int p1), .val (.long ((p0 >>> ((3 : Int32) &&& 31)).toInt64)), .second, .val (.long ((p1 &&& (1023 : Int32)).toInt64)), .second, .val (.double (FP.ddiv (FP.l2d ((((p0 >>> ((3 : Int32) &&& 31)).toInt64) * (1024 : Int64)) + ((p1 &&& (1023 : Int32)).toInt64))) (4652218415073722368 : UInt64))), .second, .unset, .unset, .unset, .unset, .unset, .unset] [])) (fun _ k => XS.dstore W0.here hx rfl (hb hby at_26) rfl (l' := #[.val (.int p0), .val (.int p1), .val (.long ((p0 >>> ((3 : Int32) &&& 31)).toInt64)), .second, .val (.long ((p1 &&& (1023 : Int32)).toInt64)), .second, .val (.double (FP.ddiv (FP.l2d ((((p0 >>> ((3 : Int32) &&& 31)).toInt64) * (1024 : Int64)) + ((p1 &&& (1023 : Int32)).toInt64))) (4652218415073722368 : UInt64))), .second, .unset, .unset, .unset, .unset, .unset, .unset]) rfl k) ?_
  refine Go.st (g' := (mkF m 29 #[.val (.int p0), .val (.int p1), .val (.long ((p0 >>> ((3 : Int32) &&& 31)).toInt64)), .second, .val (.long ((p1 &&& (1023 : Int32)).toInt64)), .second, .val (.double (FP.ddiv (FP.l2d ((((p0 >>> ((3 : Int32) &&& 31)).toInt64) * (1024 : Int64)) + ((p1 &&& (1023 : Int32)).toInt64))) (4652218415073722368 : UInt64))), .second, .unset, .unset, .unset, .unset, .unset, .unset] [(.long ((p0 >>> ((3 : Int32) &&& 31)).toInt64))])) (fun _ k => XS.lloadN W0.here hx rfl (hb hby at_28) rfl  k) ?_
  refine Go.st (g' := (mkF m 32 #[.val (.int p0), .val (.int p1), .val (.long ((p0 >>> ((3 : Int32) &&& 31)).toInt64)), .second, .val (.long ((p1 &&& (1023 : Int32)).toInt64)), .second, .val (.double (FP.ddiv (FP.l2d ((((p0 >>> ((3 : Int32) &&& 31)).toInt64) * (1024 : Int64)) + ((p1 &&& (1023 : Int32)).toInt64))) (4652218415073722368 : UInt64))), .second, .unset, .unset, .unset, .unset, .unset, .unset] [(.long (16000000 : Int64)), (.long ((p0 >>> ((3 : Int32) &&& 31)).toInt64))])) (W0.ldcJ hx (hw _ (List.mem_of_getElem? (i := 2) rfl)) (g := (mkF m 29 #[.val (.int p0), .val (.int p1), .val (.long ((p0 >>> ((3 : Int32) &&& 31)).toInt64)), .second, .val (.long ((p1 &&& (1023 : Int32)).toInt64)), .second, .val (.double (FP.ddiv (FP.l2d ((((p0 >>> ((3 : Int32) &&& 31)).toInt64) * (1024 : Int64)) + ((p1 &&& (1023 : Int32)).toInt64))) (4652218415073722368 : UInt64))), .second, .unset, .unset, .unset, .unset, .unset, .unset] [(.long ((p0 >>> ((3 : Int32) &&& 31)).toInt64))])) rfl (hb hby at_29)) ?_
  refine Go.st (g' := (mkF m 33 #[.val (.int p0), .val (.int p1), .val (.long ((p0 >>> ((3 : Int32) &&& 31)).toInt64)), .second, .val (.long ((p1 &&& (1023 : Int32)).toInt64)), .second, .val (.double (FP.ddiv (FP.l2d ((((p0 >>> ((3 : Int32) &&& 31)).toInt64) * (1024 : Int64)) + ((p1 &&& (1023 : Int32)).toInt64))) (4652218415073722368 : UInt64))), .second, .unset, .unset, .unset, .unset, .unset, .unset] [(.long (((p0 >>> ((3 : Int32) &&& 31)).toInt64) * (16000000 : Int64)))])) (fun _ k => XS.lmul W0.here hx rfl (hb hby at_32) rfl k) ?_
  refine Go.st (g' := (mkF m 35 #[.val (.int p0), .val (.int p1), .val (.long ((p0 >>> ((3 : Int32) &&& 31)).toInt64)), .second, .val (.long ((p1 &&& (1023 : Int32)).toInt64)), .second, .val (.double (FP.ddiv (FP.l2d ((((p0 >>> ((3 : Int32) &&& 31)).toInt64) * (1024 : Int64)) + ((p1 &&& (1023 : Int32)).toInt64))) (4652218415073722368 : UInt64))), .second, .unset, .unset, .unset, .unset, .unset, .unset] [(.long ((p1 &&& (1023 : Int32)).toInt64)), (.long (((p0 >>> ((3 : Int32) &&& 31)).toInt64) * (16000000 : Int64)))])) (fun _ k => XS.lload W0.here hx rfl (hb hby at_33) rfl  k) ?_
  refine Go.st (g' := (mkF m 38 #[.val (.int p0), .val (.int p1), .val (.long ((p0 >>> ((3 : Int32) &&& 31)).toInt64)), .second, .val (.long ((p1 &&& (1023 : Int32)).toInt64)), .second, .val (.double (FP.ddiv (FP.l2d ((((p0 >>> ((3 : Int32) &&& 31)).toInt64) * (1024 : Int64)) + ((p1 &&& (1023 : Int32)).toInt64))) (4652218415073722368 : UInt64))), .second, .unset, .unset, .unset, .unset, .unset, .unset] [(.long (15625 : Int64)), (.long ((p1 &&& (1023 : Int32)).toInt64)), (.long (((p0 >>> ((3 : Int32) &&& 31)).toInt64) * (16000000 : Int64)))])) (W0.ldcJ hx (hw _ (List.mem_of_getElem? (i := 3) rfl)) (g := (mkF m 35 #[.val (.int p0), .val (.int p1), .val (.long ((p0 >>> ((3 : Int32) &&& 31)).toInt64)), .second, .val (.long ((p1 &&& (1023 : Int32)).toInt64)), .second, .val (.double (FP.ddiv (FP.l2d ((((p0 >>> ((3 : Int32) &&& 31)).toInt64) * (1024 : Int64)) + ((p1 &&& (1023 : Int32)).toInt64))) (4652218415073722368 : UInt64))), .second, .unset, .unset, .unset, .unset, .unset, .unset] [(.long ((p1 &&& (1023 : Int32)).toInt64)), (.long (((p0 >>> ((3 : Int32) &&& 31)).toInt64) * (16000000 : Int64)))])) rfl (hb hby at_35)) ?_
  refine Go.st (g' := (mkF m 39 #[.val (.int p0), .val (.int p1), .val (.long ((p0 >>> ((3 : Int32) &&& 31)).toInt64)), .second, .val (.long ((p1 &&& (1023 : Int32)).toInt64)), .second, .val (.double (FP.ddiv (FP.l2d ((((p0 >>> ((3 : Int32) &&& 31)).toInt64) * (1024 : Int64)) + ((p1 &&& (1023 : Int32)).toInt64))) (4652218415073722368 : UInt64))), .second, .unset, .unset, .unset, .unset, .unset, .unset] [(.long (((p1 &&& (1023 : Int32)).toInt64) * (15625 : Int64))), (.long (((p0 >>> ((3 : Int32) &&& 31)).toInt64) * (16000000 : Int64)))])) (fun _ k => XS.lmul W0.here hx rfl (hb hby at_38) rfl k) ?_
  refine Go.st (g' := (mkF m 40 #[.val (.int p0), .val (.int p1), .val (.long ((p0 >>> ((3 : Int32) &&& 31)).toInt64)), .second, .val (.long ((p1 &&& (1023 : Int32)).toInt64)), .second, .val (.double (FP.ddiv (FP.l2d ((((p0 >>> ((3 : Int32) &&& 31)).toInt64) * (1024 : Int64)) + ((p1 &&& (1023 : Int32)).toInt64))) (4652218415073722368 : UInt64))), .second, .unset, .unset, .unset, .unset, .unset, .unset] [(.long ((((p0 >>> ((3 : Int32) &&& 31)).toInt64) * (16000000 : Int64)) + (((p1 &&& (1023 : Int32)).toInt64) * (15625 : Int64))))])) (fun _ k => XS.ladd W0.here hx rfl (hb hby at_39) rfl k) ?_
  refine Go.st (g' := (mkF m 42 #[.val (.int p0), .val (.int p1), .val (.long ((p0 >>> ((3 : Int32) &&& 31)).toInt64)), .second, .val (.long ((p1 &&& (1023 : Int32)).toInt64)), .second, .val (.double (FP.ddiv (FP.l2d ((((p0 >>> ((3 : Int32) &&& 31)).toInt64) * (1024 : Int64)) + ((p1 &&& (1023 : Int32)).toInt64))) (4652218415073722368 : UInt64))), .second, .val (.long ((((p0 >>> ((3 : Int32) &&& 31)).toInt64) * (16000000 : Int64)) + (((p1 &&& (1023 : Int32)).toInt64) * (15625 : Int64)))), .second, .unset, .unset, .unset, .unset] [])) (fun _ k => XS.lstore W0.here hx rfl (hb hby at_40) rfl (l' := #[.val (.int p0), .val (.int p1), .val (.long ((p0 >>> ((3 : Int32) &&& 31)).toInt64)), .second, .val (.long ((p1 &&& (1023 : Int32)).toInt64)), .second, .val (.double (FP.ddiv (FP.l2d ((((p0 >>> ((3 : Int32) &&& 31)).toInt64) * (1024 : Int64)) + ((p1 &&& (1023 : Int32)).toInt64))) (4652218415073722368 : UInt64))), .second, .val (.long ((((p0 >>> ((3 : Int32) &&& 31)).toInt64) * (16000000 : Int64)) + (((p1 &&& (1023 : Int32)).toInt64) * (15625 : Int64)))), .second, .unset, .unset, .unset, .unset]) rfl k) ?_
  refine Go.st (g' := (mkF m 44 #[.val (.int p0), .val (.int p1), .val (.long ((p0 >>> ((3 : Int32) &&& 31)).toInt64)), .second, .val (.long ((p1 &&& (1023 : Int32)).toInt64)), .second, .val (.double (FP.ddiv (FP.l2d ((((p0 >>> ((3 : Int32) &&& 31)).toInt64) * (1024 : Int64)) + ((p1 &&& (1023 : Int32)).toInt64))) (4652218415073722368 : UInt64))), .second, .val (.long ((((p0 >>> ((3 : Int32) &&& 31)).toInt64) * (16000000 : Int64)) + (((p1 &&& (1023 : Int32)).toInt64) * (15625 : Int64)))), .second, .unset, .unset, .unset, .unset] [(.long ((((p0 >>> ((3 : Int32) &&& 31)).toInt64) * (16000000 : Int64)) + (((p1 &&& (1023 : Int32)).toInt64) * (15625 : Int64))))])) (fun _ k => XS.lload W0.here hx rfl (hb hby at_42) rfl  k) ?_
  refine Go.st (g' := (mkF m 47 #[.val (.int p0), .val (.int p1), .val (.long ((p0 >>> ((3 : Int32) &&& 31)).toInt64)), .second, .val (.long ((p1 &&& (1023 : Int32)).toInt64)), .second, .val (.double (FP.ddiv (FP.l2d ((((p0 >>> ((3 : Int32) &&& 31)).toInt64) * (1024 : Int64)) + ((p1 &&& (1023 : Int32)).toInt64))) (4652218415073722368 : UInt64))), .second, .val (.long ((((p0 >>> ((3 : Int32) &&& 31)).toInt64) * (16000000 : Int64)) + (((p1 &&& (1023 : Int32)).toInt64) * (15625 : Int64)))), .second, .unset, .unset, .unset, .unset] [(.long (8 : Int64)), (.long ((((p0 >>> ((3 : Int32) &&& 31)).toInt64) * (16000000 : Int64)) + (((p1 &&& (1023 : Int32)).toInt64) * (15625 : Int64))))])) (W0.ldcJ hx (hw _ (List.mem_of_getElem? (i := 4) rfl)) (g := (mkF m 44 #[.val (.int p0), .val (.int p1), .val (.long ((p0 >>> ((3 : Int32) &&& 31)).toInt64)), .second, .val (.long ((p1 &&& (1023 : Int32)).toInt64)), .second, .val (.double (FP.ddiv (FP.l2d ((((p0 >>> ((3 : Int32) &&& 31)).toInt64) * (1024 : Int64)) + ((p1 &&& (1023 : Int32)).toInt64))) (4652218415073722368 : UInt64))), .second, .val (.long ((((p0 >>> ((3 : Int32) &&& 31)).toInt64) * (16000000 : Int64)) + (((p1 &&& (1023 : Int32)).toInt64) * (15625 : Int64)))), .second, .unset, .unset, .unset, .unset] [(.long ((((p0 >>> ((3 : Int32) &&& 31)).toInt64) * (16000000 : Int64)) + (((p1 &&& (1023 : Int32)).toInt64) * (15625 : Int64))))])) rfl (hb hby at_44)) ?_
  refine Go.st (g' := (mkF m 48 #[.val (.int p0), .val (.int p1), .val (.long ((p0 >>> ((3 : Int32) &&& 31)).toInt64)), .second, .val (.long ((p1 &&& (1023 : Int32)).toInt64)), .second, .val (.double (FP.ddiv (FP.l2d ((((p0 >>> ((3 : Int32) &&& 31)).toInt64) * (1024 : Int64)) + ((p1 &&& (1023 : Int32)).toInt64))) (4652218415073722368 : UInt64))), .second, .val (.long ((((p0 >>> ((3 : Int32) &&& 31)).toInt64) * (16000000 : Int64)) + (((p1 &&& (1023 : Int32)).toInt64) * (15625 : Int64)))), .second, .unset, .unset, .unset, .unset] [(.long (((((p0 >>> ((3 : Int32) &&& 31)).toInt64) * (16000000 : Int64)) + (((p1 &&& (1023 : Int32)).toInt64) * (15625 : Int64))) + (8 : Int64)))])) (fun _ k => XS.ladd W0.here hx rfl (hb hby at_47) rfl k) ?_
  refine Go.st (g' := (mkF m 49 #[.val (.int p0), .val (.int p1), .val (.long ((p0 >>> ((3 : Int32) &&& 31)).toInt64)), .second, .val (.long ((p1 &&& (1023 : Int32)).toInt64)), .second, .val (.double (FP.ddiv (FP.l2d ((((p0 >>> ((3 : Int32) &&& 31)).toInt64) * (1024 : Int64)) + ((p1 &&& (1023 : Int32)).toInt64))) (4652218415073722368 : UInt64))), .second, .val (.long ((((p0 >>> ((3 : Int32) &&& 31)).toInt64) * (16000000 : Int64)) + (((p1 &&& (1023 : Int32)).toInt64) * (15625 : Int64)))), .second, .unset, .unset, .unset, .unset] [(.int (4 : Int32)), (.long (((((p0 >>> ((3 : Int32) &&& 31)).toInt64) * (16000000 : Int64)) + (((p1 &&& (1023 : Int32)).toInt64) * (15625 : Int64))) + (8 : Int64)))])) (fun _ k => XS.iconst W0.here hx rfl (hb hby at_48) k) ?_
  refine Go.st (g' := (mkF m 50 #[.val (.int p0), .val (.int p1), .val (.long ((p0 >>> ((3 : Int32) &&& 31)).toInt64)), .second, .val (.long ((p1 &&& (1023 : Int32)).toInt64)), .second, .val (.double (FP.ddiv (FP.l2d ((((p0 >>> ((3 : Int32) &&& 31)).toInt64) * (1024 : Int64)) + ((p1 &&& (1023 : Int32)).toInt64))) (4652218415073722368 : UInt64))), .second, .val (.long ((((p0 >>> ((3 : Int32) &&& 31)).toInt64) * (16000000 : Int64)) + (((p1 &&& (1023 : Int32)).toInt64) * (15625 : Int64)))), .second, .unset, .unset, .unset, .unset] [(.long ((((((p0 >>> ((3 : Int32) &&& 31)).toInt64) * (16000000 : Int64)) + (((p1 &&& (1023 : Int32)).toInt64) * (15625 : Int64))) + (8 : Int64)) >>> ((4 : Int32) &&& 0x3f).toInt64))])) (fun _ k => XS.lshr W0.here hx rfl (hb hby at_49) rfl k) ?_
  refine Go.st (g' := (mkF m 52 #[.val (.int p0), .val (.int p1), .val (.long ((p0 >>> ((3 : Int32) &&& 31)).toInt64)), .second, .val (.long ((p1 &&& (1023 : Int32)).toInt64)), .second, .val (.double (FP.ddiv (FP.l2d ((((p0 >>> ((3 : Int32) &&& 31)).toInt64) * (1024 : Int64)) + ((p1 &&& (1023 : Int32)).toInt64))) (4652218415073722368 : UInt64))), .second, .val (.long ((((p0 >>> ((3 : Int32) &&& 31)).toInt64) * (16000000 : Int64)) + (((p1 &&& (1023 : Int32)).toInt64) * (15625 : Int64)))), .second, .val (.long ((((((p0 >>> ((3 : Int32) &&& 31)).toInt64) * (16000000 : Int64)) + (((p1 &&& (1023 : Int32)).toInt64) * (15625 : Int64))) + (8 : Int64)) >>> ((4 : Int32) &&& 0x3f).toInt64)), .second, .unset, .unset] [])) (fun _ k => XS.lstore W0.here hx rfl (hb hby at_50) rfl (l' := #[.val (.int p0), .val (.int p1), .val (.long ((p0 >>> ((3 : Int32) &&& 31)).toInt64)), .second, .val (.long ((p1 &&& (1023 : Int32)).toInt64)), .second, .val (.double (FP.ddiv (FP.l2d ((((p0 >>> ((3 : Int32) &&& 31)).toInt64) * (1024 : Int64)) + ((p1 &&& (1023 : Int32)).toInt64))) (4652218415073722368 : UInt64))), .second, .val (.long ((((p0 >>> ((3 : Int32) &&& 31)).toInt64) * (16000000 : Int64)) + (((p1 &&& (1023 : Int32)).toInt64) * (15625 : Int64)))), .second, .val (.long ((((((p0 >>> ((3 : Int32) &&& 31)).toInt64) * (16000000 : Int64)) + (((p1 &&& (1023 : Int32)).toInt64) * (15625 : Int64))) + (8 : Int64)) >>> ((4 : Int32) &&& 0x3f).toInt64)), .second, .unset, .unset]) rfl k) ?_
  refine Go.st (g' := (mkF m 54 #[.val (.int p0), .val (.int p1), .val (.long ((p0 >>> ((3 : Int32) &&& 31)).toInt64)), .second, .val (.long ((p1 &&& (1023 : Int32)).toInt64)), .second, .val (.double (FP.ddiv (FP.l2d ((((p0 >>> ((3 : Int32) &&& 31)).toInt64) * (1024 : Int64)) + ((p1 &&& (1023 : Int32)).toInt64))) (4652218415073722368 : UInt64))), .second, .val (.long ((((p0 >>> ((3 : Int32) &&& 31)).toInt64) * (16000000 : Int64)) + (((p1 &&& (1023 : Int32)).toInt64) * (15625 : Int64)))), .second, .val (.long ((((((p0 >>> ((3 : Int32) &&& 31)).toInt64) * (16000000 : Int64)) + (((p1 &&& (1023 : Int32)).toInt64) * (15625 : Int64))) + (8 : Int64)) >>> ((4 : Int32) &&& 0x3f).toInt64)), .second, .unset, .unset] [(.long ((((((p0 >>> ((3 : Int32) &&& 31)).toInt64) * (16000000 : Int64)) + (((p1 &&& (1023 : Int32)).toInt64) * (15625 : Int64))) + (8 : Int64)) >>> ((4 : Int32) &&& 0x3f).toInt64))])) (fun _ k => XS.lload W0.here hx rfl (hb hby at_52) rfl  k) ?_
  refine Go.st (g' := (mkF m 55 #[.val (.int p0), .val (.int p1), .val (.long ((p0 >>> ((3 : Int32) &&& 31)).toInt64)), .second, .val (.long ((p1 &&& (1023 : Int32)).toInt64)), .second, .val (.double (FP.ddiv (FP.l2d ((((p0 >>> ((3 : Int32) &&& 31)).toInt64) * (1024 : Int64)) + ((p1 &&& (1023 : Int32)).toInt64))) (4652218415073722368 : UInt64))), .second, .val (.long ((((p0 >>> ((3 : Int32) &&& 31)).toInt64) * (16000000 : Int64)) + (((p1 &&& (1023 : Int32)).toInt64) * (15625 : Int64)))), .second, .val (.long ((((((p0 >>> ((3 : Int32) &&& 31)).toInt64) * (16000000 : Int64)) + (((p1 &&& (1023 : Int32)).toInt64) * (15625 : Int64))) + (8 : Int64)) >>> ((4 : Int32) &&& 0x3f).toInt64)), .second, .unset, .unset] [(.double (FP.l2d ((((((p0 >>> ((3 : Int32) &&& 31)).toInt64) * (16000000 : Int64)) + (((p1 &&& (1023 : Int32)).toInt64) * (15625 : Int64))) + (8 : Int64)) >>> ((4 : Int32) &&& 0x3f).toInt64)))])) (fun _ k => XS.l2dS W0.here hx rfl (hb hby at_54) rfl rfl k) ?_
  refine Go.st (g' := (mkF m 58 #[.val (.int p0), .val (.int p1), .val (.long ((p0 >>> ((3 : Int32) &&& 31)).toInt64)), .second, .val (.long ((p1 &&& (1023 : Int32)).toInt64)), .second, .val (.double (FP.ddiv (FP.l2d ((((p0 >>> ((3 : Int32) &&& 31)).toInt64) * (1024 : Int64)) + ((p1 &&& (1023 : Int32)).toInt64))) (4652218415073722368 : UInt64))), .second, .val (.long ((((p0 >>> ((3 : Int32) &&& 31)).toInt64) * (16000000 : Int64)) + (((p1 &&& (1023 : Int32)).toInt64) * (15625 : Int64)))), .second, .val (.long ((((((p0 >>> ((3 : Int32) &&& 31)).toInt64) * (16000000 : Int64)) + (((p1 &&& (1023 : Int32)).toInt64) * (15625 : Int64))) + (8 : Int64)) >>> ((4 : Int32) &&& 0x3f).toInt64)), .second, .unset, .unset] [(.double (4696837146684686336 : UInt64)), (.double (FP.l2d ((((((p0 >>> ((3 : Int32) &&& 31)).toInt64) * (16000000 : Int64)) + (((p1 &&& (1023 : Int32)).toInt64) * (15625 : Int64))) + (8 : Int64)) >>> ((4 : Int32) &&& 0x3f).toInt64)))])) (W0.ldcD hx (hw _ (List.mem_of_getElem? (i := 5) rfl)) (g := (mkF m 55 #[.val (.int p0), .val (.int p1), .val (.long ((p0 >>> ((3 : Int32) &&& 31)).toInt64)), .second, .val (.long ((p1 &&& (1023 : Int32)).toInt64)), .second, .val (.double (FP.ddiv (FP.l2d ((((p0 >>> ((3 : Int32) &&& 31)).toInt64) * (1024 : Int64)) + ((p1 &&& (1023 : Int32)).toInt64))) (4652218415073722368 : UInt64))), .second, .val (.long ((((p0 >>> ((3 : Int32) &&& 31)).toInt64) * (16000000 : Int64)) + (((p1 &&& (1023 : Int32)).toInt64) * (15625 : Int64)))), .second, .val (.long ((((((p0 >>> ((3 : Int32) &&& 31)).toInt64) * (16000000 : Int64)) + (((p1 &&& (1023 : Int32)).toInt64) * (15625 : Int64))) + (8 : Int64)) >>> ((4 : Int32) &&& 0x3f).toInt64)), .second, .unset, .unset] [(.double (FP.l2d ((((((p0 >>> ((3 : Int32) &&& 31)).toInt64) * (16000000 : Int64)) + (((p1 &&& (1023 : Int32)).toInt64) * (15625 : Int64))) + (8 : Int64)) >>> ((4 : Int32) &&& 0x3f).toInt64)))])) rfl (hb hby at_55)) ?_
  refine Go.st (g' := (mkF m 59 #[.val (.int p0), .val (.int p1), .val (.long ((p0 >>> ((3 : Int32) &&& 31)).toInt64)), .second, .val (.long ((p1 &&& (1023 : Int32)).toInt64)), .second, .val (.double (FP.ddiv (FP.l2d ((((p0 >>> ((3 : Int32) &&& 31)).toInt64) * (1024 : Int64)) + ((p1 &&& (1023 : Int32)).toInt64))) (4652218415073722368 : UInt64))), .second, .val (.long ((((p0 >>> ((3 : Int32) &&& 31)).toInt64) * (16000000 : Int64)) + (((p1 &&& (1023 : Int32)).toInt64) * (15625 : Int64)))), .second, .val (.long ((((((p0 >>> ((3 : Int32) &&& 31)).toInt64) * (16000000 : Int64)) + (((p1 &&& (1023 : Int32)).toInt64) * (15625 : Int64))) + (8 : Int64)) >>> ((4 : Int32) &&& 0x3f).toInt64)), .second, .unset, .unset] [(.double (FP.ddiv (FP.l2d ((((((p0 >>> ((3 : Int32) &&& 31)).toInt64) * (16000000 : Int64)) + (((p1 &&& (1023 : Int32)).toInt64) * (15625 : Int64))) + (8 : Int64)) >>> ((4 : Int32) &&& 0x3f).toInt64)) (4696837146684686336 : UInt64)))])) (fun _ k => XS.ddivS W0.here hx rfl (hb hby at_58) rfl (Jvm.Free.Fl.noNaN64_no.mpr (own_nd _)) rfl k) ?_
  refine Go.st (g' := (mkF m 61 #[.val (.int p0), .val (.int p1), .val (.long ((p0 >>> ((3 : Int32) &&& 31)).toInt64)), .second, .val (.long ((p1 &&& (1023 : Int32)).toInt64)), .second, .val (.double (FP.ddiv (FP.l2d ((((p0 >>> ((3 : Int32) &&& 31)).toInt64) * (1024 : Int64)) + ((p1 &&& (1023 : Int32)).toInt64))) (4652218415073722368 : UInt64))), .second, .val (.long ((((p0 >>> ((3 : Int32) &&& 31)).toInt64) * (16000000 : Int64)) + (((p1 &&& (1023 : Int32)).toInt64) * (15625 : Int64)))), .second, .val (.long ((((((p0 >>> ((3 : Int32) &&& 31)).toInt64) * (16000000 : Int64)) + (((p1 &&& (1023 : Int32)).toInt64) * (15625 : Int64))) + (8 : Int64)) >>> ((4 : Int32) &&& 0x3f).toInt64)), .second, .val (.double (FP.ddiv (FP.l2d ((((((p0 >>> ((3 : Int32) &&& 31)).toInt64) * (16000000 : Int64)) + (((p1 &&& (1023 : Int32)).toInt64) * (15625 : Int64))) + (8 : Int64)) >>> ((4 : Int32) &&& 0x3f).toInt64)) (4696837146684686336 : UInt64))), .second] [])) (fun _ k => XS.dstore W0.here hx rfl (hb hby at_59) rfl (l' := #[.val (.int p0), .val (.int p1), .val (.long ((p0 >>> ((3 : Int32) &&& 31)).toInt64)), .second, .val (.long ((p1 &&& (1023 : Int32)).toInt64)), .second, .val (.double (FP.ddiv (FP.l2d ((((p0 >>> ((3 : Int32) &&& 31)).toInt64) * (1024 : Int64)) + ((p1 &&& (1023 : Int32)).toInt64))) (4652218415073722368 : UInt64))), .second, .val (.long ((((p0 >>> ((3 : Int32) &&& 31)).toInt64) * (16000000 : Int64)) + (((p1 &&& (1023 : Int32)).toInt64) * (15625 : Int64)))), .second, .val (.long ((((((p0 >>> ((3 : Int32) &&& 31)).toInt64) * (16000000 : Int64)) + (((p1 &&& (1023 : Int32)).toInt64) * (15625 : Int64))) + (8 : Int64)) >>> ((4 : Int32) &&& 0x3f).toInt64)), .second, .val (.double (FP.ddiv (FP.l2d ((((((p0 >>> ((3 : Int32) &&& 31)).toInt64) * (16000000 : Int64)) + (((p1 &&& (1023 : Int32)).toInt64) * (15625 : Int64))) + (8 : Int64)) >>> ((4 : Int32) &&& 0x3f).toInt64)) (4696837146684686336 : UInt64))), .second]) rfl k) ?_
  refine Go.st (g' := (mkF m 63 #[.val (.int p0), .val (.int p1), .val (.long ((p0 >>> ((3 : Int32) &&& 31)).toInt64)), .second, .val (.long ((p1 &&& (1023 : Int32)).toInt64)), .second, .val (.double (FP.ddiv (FP.l2d ((((p0 >>> ((3 : Int32) &&& 31)).toInt64) * (1024 : Int64)) + ((p1 &&& (1023 : Int32)).toInt64))) (4652218415073722368 : UInt64))), .second, .val (.long ((((p0 >>> ((3 : Int32) &&& 31)).toInt64) * (16000000 : Int64)) + (((p1 &&& (1023 : Int32)).toInt64) * (15625 : Int64)))), .second, .val (.long ((((((p0 >>> ((3 : Int32) &&& 31)).toInt64) * (16000000 : Int64)) + (((p1 &&& (1023 : Int32)).toInt64) * (15625 : Int64))) + (8 : Int64)) >>> ((4 : Int32) &&& 0x3f).toInt64)), .second, .val (.double (FP.ddiv (FP.l2d ((((((p0 >>> ((3 : Int32) &&& 31)).toInt64) * (16000000 : Int64)) + (((p1 &&& (1023 : Int32)).toInt64) * (15625 : Int64))) + (8 : Int64)) >>> ((4 : Int32) &&& 0x3f).toInt64)) (4696837146684686336 : UInt64))), .second] [(.double (FP.ddiv (FP.l2d ((((p0 >>> ((3 : Int32) &&& 31)).toInt64) * (1024 : Int64)) + ((p1 &&& (1023 : Int32)).toInt64))) (4652218415073722368 : UInt64)))])) (fun _ k => XS.dload W0.here hx rfl (hb hby at_61) rfl  k) ?_
  obtain ⟨_, vm1, T1, h1, W1, Q1, z1, SF1, st1⟩ := W0.callS hx hEL (own_wround l hE W0.old (d0 := (FP.ddiv (FP.l2d ((((p0 >>> ((3 : Int32) &&& 31)).toInt64) * (1024 : Int64)) + ((p1 &&& (1023 : Int32)).toInt64))) (4652218415073722368 : UInt64))) (own_nm (own_NB _ _)) ) (hw _ (List.mem_of_getElem? (i := 6) rfl)) (hw _ (List.mem_of_getElem? (i := 7) rfl)) (hw _ (List.mem_of_getElem? (i := 8) rfl)) (hw _ (List.mem_of_getElem? (i := 9) rfl)) (by decide) (Wd := 0) (by decide) (by decide) (by decide) (by decide) (g := (mkF m 63 #[.val (.int p0), .val (.int p1), .val (.long ((p0 >>> ((3 : Int32) &&& 31)).toInt64)), .second, .val (.long ((p1 &&& (1023 : Int32)).toInt64)), .second, .val (.double (FP.ddiv (FP.l2d ((((p0 >>> ((3 : Int32) &&& 31)).toInt64) * (1024 : Int64)) + ((p1 &&& (1023 : Int32)).toInt64))) (4652218415073722368 : UInt64))), .second, .val (.long ((((p0 >>> ((3 : Int32) &&& 31)).toInt64) * (16000000 : Int64)) + (((p1 &&& (1023 : Int32)).toInt64) * (15625 : Int64)))), .second, .val (.long ((((((p0 >>> ((3 : Int32) &&& 31)).toInt64) * (16000000 : Int64)) + (((p1 &&& (1023 : Int32)).toInt64) * (15625 : Int64))) + (8 : Int64)) >>> ((4 : Int32) &&& 0x3f).toInt64)), .second, .val (.double (FP.ddiv (FP.l2d ((((((p0 >>> ((3 : Int32) &&& 31)).toInt64) * (16000000 : Int64)) + (((p1 &&& (1023 : Int32)).toInt64) * (15625 : Int64))) + (8 : Int64)) >>> ((4 : Int32) &&& 0x3f).toInt64)) (4696837146684686336 : UInt64))), .second] [(.double (FP.ddiv (FP.l2d ((((p0 >>> ((3 : Int32) &&& 31)).toInt64) * (1024 : Int64)) + ((p1 &&& (1023 : Int32)).toInt64))) (4652218415073722368 : UInt64)))])) rfl (by rw [hml]; rfl) (argsL := [(.double (FP.ddiv (FP.l2d ((((p0 >>> ((3 : Int32) &&& 31)).toInt64) * (1024 : Int64)) + ((p1 &&& (1023 : Int32)).toInt64))) (4652218415073722368 : UInt64)))]) (rest := []) rfl (lenOf pd__D_D rfl) rfl (by show 2 * 0 + _ ≤ _; exact Nat.le_of_eq rfl) (hb hby at_63)
  obtain ⟨rfl, eh1⟩ := Q1
  subst eh1
  refine Go.tr (g' := (mkF m 66 #[.val (.int p0), .val (.int p1), .val (.long ((p0 >>> ((3 : Int32) &&& 31)).toInt64)), .second, .val (.long ((p1 &&& (1023 : Int32)).toInt64)), .second, .val (.double (FP.ddiv (FP.l2d ((((p0 >>> ((3 : Int32) &&& 31)).toInt64) * (1024 : Int64)) + ((p1 &&& (1023 : Int32)).toInt64))) (4652218415073722368 : UInt64))), .second, .val (.long ((((p0 >>> ((3 : Int32) &&& 31)).toInt64) * (16000000 : Int64)) + (((p1 &&& (1023 : Int32)).toInt64) * (15625 : Int64)))), .second, .val (.long ((((((p0 >>> ((3 : Int32) &&& 31)).toInt64) * (16000000 : Int64)) + (((p1 &&& (1023 : Int32)).toInt64) * (15625 : Int64))) + (8 : Int64)) >>> ((4 : Int32) &&& 0x3f).toInt64)), .second, .val (.double (FP.ddiv (FP.l2d ((((((p0 >>> ((3 : Int32) &&& 31)).toInt64) * (16000000 : Int64)) + (((p1 &&& (1023 : Int32)).toInt64) * (15625 : Int64))) + (8 : Int64)) >>> ((4 : Int32) &&& 0x3f).toInt64)) (4696837146684686336 : UInt64))), .second] [(.double (FP.ddiv (FP.l2d (own_rd (FP.dmul (FP.ddiv (FP.l2d ((((p0 >>> ((3 : Int32) &&& 31)).toInt64) * (1024 : Int64)) + ((p1 &&& (1023 : Int32)).toInt64))) (4652218415073722368 : UInt64)) (4696837146684686336 : UInt64)))) (4696837146684686336 : UInt64)))])) st1 ?_
  refine Go.st (g' := (mkF m 68 #[.val (.int p0), .val (.int p1), .val (.long ((p0 >>> ((3 : Int32) &&& 31)).toInt64)), .second, .val (.long ((p1 &&& (1023 : Int32)).toInt64)), .second, .val (.double (FP.ddiv (FP.l2d ((((p0 >>> ((3 : Int32) &&& 31)).toInt64) * (1024 : Int64)) + ((p1 &&& (1023 : Int32)).toInt64))) (4652218415073722368 : UInt64))), .second, .val (.long ((((p0 >>> ((3 : Int32) &&& 31)).toInt64) * (16000000 : Int64)) + (((p1 &&& (1023 : Int32)).toInt64) * (15625 : Int64)))), .second, .val (.long ((((((p0 >>> ((3 : Int32) &&& 31)).toInt64) * (16000000 : Int64)) + (((p1 &&& (1023 : Int32)).toInt64) * (15625 : Int64))) + (8 : Int64)) >>> ((4 : Int32) &&& 0x3f).toInt64)), .second, .val (.double (FP.ddiv (FP.l2d ((((((p0 >>> ((3 : Int32) &&& 31)).toInt64) * (16000000 : Int64)) + (((p1 &&& (1023 : Int32)).toInt64) * (15625 : Int64))) + (8 : Int64)) >>> ((4 : Int32) &&& 0x3f).toInt64)) (4696837146684686336 : UInt64))), .second] [(.double (FP.ddiv (FP.l2d ((((((p0 >>> ((3 : Int32) &&& 31)).toInt64) * (16000000 : Int64)) + (((p1 &&& (1023 : Int32)).toInt64) * (15625 : Int64))) + (8 : Int64)) >>> ((4 : Int32) &&& 0x3f).toInt64)) (4696837146684686336 : UInt64))), (.double (FP.ddiv (FP.l2d (own_rd (FP.dmul (FP.ddiv (FP.l2d ((((p0 >>> ((3 : Int32) &&& 31)).toInt64) * (1024 : Int64)) + ((p1 &&& (1023 : Int32)).toInt64))) (4652218415073722368 : UInt64)) (4696837146684686336 : UInt64)))) (4696837146684686336 : UInt64)))])) (fun _ k => XS.dload W1.here hx rfl (hb hby at_66) rfl  k) ?_
  refine Go.st (g' := (mkF m 69 #[.val (.int p0), .val (.int p1), .val (.long ((p0 >>> ((3 : Int32) &&& 31)).toInt64)), .second, .val (.long ((p1 &&& (1023 : Int32)).toInt64)), .second, .val (.double (FP.ddiv (FP.l2d ((((p0 >>> ((3 : Int32) &&& 31)).toInt64) * (1024 : Int64)) + ((p1 &&& (1023 : Int32)).toInt64))) (4652218415073722368 : UInt64))), .second, .val (.long ((((p0 >>> ((3 : Int32) &&& 31)).toInt64) * (16000000 : Int64)) + (((p1 &&& (1023 : Int32)).toInt64) * (15625 : Int64)))), .second, .val (.long ((((((p0 >>> ((3 : Int32) &&& 31)).toInt64) * (16000000 : Int64)) + (((p1 &&& (1023 : Int32)).toInt64) * (15625 : Int64))) + (8 : Int64)) >>> ((4 : Int32) &&& 0x3f).toInt64)), .second, .val (.double (FP.ddiv (FP.l2d ((((((p0 >>> ((3 : Int32) &&& 31)).toInt64) * (16000000 : Int64)) + (((p1 &&& (1023 : Int32)).toInt64) * (15625 : Int64))) + (8 : Int64)) >>> ((4 : Int32) &&& 0x3f).toInt64)) (4696837146684686336 : UInt64))), .second] [(.int (cmpValue (FP.dcmp (FP.ddiv (FP.l2d (own_rd (FP.dmul (FP.ddiv (FP.l2d ((((p0 >>> ((3 : Int32) &&& 31)).toInt64) * (1024 : Int64)) + ((p1 &&& (1023 : Int32)).toInt64))) (4652218415073722368 : UInt64)) (4696837146684686336 : UInt64)))) (4696837146684686336 : UInt64)) (FP.ddiv (FP.l2d ((((((p0 >>> ((3 : Int32) &&& 31)).toInt64) * (16000000 : Int64)) + (((p1 &&& (1023 : Int32)).toInt64) * (15625 : Int64))) + (8 : Int64)) >>> ((4 : Int32) &&& 0x3f).toInt64)) (4696837146684686336 : UInt64))) .l))])) (fun _ k => XS.dcmpS W1.here hx rfl (hb hby at_68) rfl rfl k) ?_
  refine Go.st (g' := (mkF m 72 #[.val (.int p0), .val (.int p1), .val (.long ((p0 >>> ((3 : Int32) &&& 31)).toInt64)), .second, .val (.long ((p1 &&& (1023 : Int32)).toInt64)), .second, .val (.double (FP.ddiv (FP.l2d ((((p0 >>> ((3 : Int32) &&& 31)).toInt64) * (1024 : Int64)) + ((p1 &&& (1023 : Int32)).toInt64))) (4652218415073722368 : UInt64))), .second, .val (.long ((((p0 >>> ((3 : Int32) &&& 31)).toInt64) * (16000000 : Int64)) + (((p1 &&& (1023 : Int32)).toInt64) * (15625 : Int64)))), .second, .val (.long ((((((p0 >>> ((3 : Int32) &&& 31)).toInt64) * (16000000 : Int64)) + (((p1 &&& (1023 : Int32)).toInt64) * (15625 : Int64))) + (8 : Int64)) >>> ((4 : Int32) &&& 0x3f).toInt64)), .second, .val (.double (FP.ddiv (FP.l2d ((((((p0 >>> ((3 : Int32) &&& 31)).toInt64) * (16000000 : Int64)) + (((p1 &&& (1023 : Int32)).toInt64) * (15625 : Int64))) + (8 : Int64)) >>> ((4 : Int32) &&& 0x3f).toInt64)) (4696837146684686336 : UInt64))), .second] [])) (fun _ k => XS.ifNo W1.here hx rfl (hb hby at_69) rfl ((if0 _ _).trans (teq (by rw [own_main, own_refl]; rfl)).2) k) ?_
  refine Go.st (g' := (mkF m 73 #[.val (.int p0), .val (.int p1), .val (.long ((p0 >>> ((3 : Int32) &&& 31)).toInt64)), .second, .val (.long ((p1 &&& (1023 : Int32)).toInt64)), .second, .val (.double (FP.ddiv (FP.l2d ((((p0 >>> ((3 : Int32) &&& 31)).toInt64) * (1024 : Int64)) + ((p1 &&& (1023 : Int32)).toInt64))) (4652218415073722368 : UInt64))), .second, .val (.long ((((p0 >>> ((3 : Int32) &&& 31)).toInt64) * (16000000 : Int64)) + (((p1 &&& (1023 : Int32)).toInt64) * (15625 : Int64)))), .second, .val (.long ((((((p0 >>> ((3 : Int32) &&& 31)).toInt64) * (16000000 : Int64)) + (((p1 &&& (1023 : Int32)).toInt64) * (15625 : Int64))) + (8 : Int64)) >>> ((4 : Int32) &&& 0x3f).toInt64)), .second, .val (.double (FP.ddiv (FP.l2d ((((((p0 >>> ((3 : Int32) &&& 31)).toInt64) * (16000000 : Int64)) + (((p1 &&& (1023 : Int32)).toInt64) * (15625 : Int64))) + (8 : Int64)) >>> ((4 : Int32) &&& 0x3f).toInt64)) (4696837146684686336 : UInt64))), .second] [(.int (1 : Int32))])) (fun _ k => XS.iconst W1.here hx rfl (hb hby at_72) k) ?_
  refine Go.st (g' := (mkF m 77 #[.val (.int p0), .val (.int p1), .val (.long ((p0 >>> ((3 : Int32) &&& 31)).toInt64)), .second, .val (.long ((p1 &&& (1023 : Int32)).toInt64)), .second, .val (.double (FP.ddiv (FP.l2d ((((p0 >>> ((3 : Int32) &&& 31)).toInt64) * (1024 : Int64)) + ((p1 &&& (1023 : Int32)).toInt64))) (4652218415073722368 : UInt64))), .second, .val (.long ((((p0 >>> ((3 : Int32) &&& 31)).toInt64) * (16000000 : Int64)) + (((p1 &&& (1023 : Int32)).toInt64) * (15625 : Int64)))), .second, .val (.long ((((((p0 >>> ((3 : Int32) &&& 31)).toInt64) * (16000000 : Int64)) + (((p1 &&& (1023 : Int32)).toInt64) * (15625 : Int64))) + (8 : Int64)) >>> ((4 : Int32) &&& 0x3f).toInt64)), .second, .val (.double (FP.ddiv (FP.l2d ((((((p0 >>> ((3 : Int32) &&& 31)).toInt64) * (16000000 : Int64)) + (((p1 &&& (1023 : Int32)).toInt64) * (15625 : Int64))) + (8 : Int64)) >>> ((4 : Int32) &&& 0x3f).toInt64)) (4696837146684686336 : UInt64))), .second] [(.int (1 : Int32))])) (fun _ k => XS.goto W1.here hx rfl (pc0 := 73) (pc' := 77) rfl (hb hby at_73) (by decide) (by decide) k) ?_
  exact W1.retN hx hEL hlk (t := .boolean) hret (by decide) (hb hby at_77) (by decide) (by decide) rfl
set_option maxRecDepth 65536 in
set_option maxHeartbeats 4000000 in
theorem comes_1 {Post : Tables → Env → Array Value → State → Outcome → State → Prop} (hpost : ∀ tb e args s v u, (limb_1_1.after args s (.returned v) u = true ∧ limb_1_2.after args s (.returned v) u = true ∧ True) → FrameEnd s (.returned v) u (Jvm.fieldLocs frame_1_writes args s ++ Jvm.arrayLocs frame_1_arrays args s ++ Jvm.staticLocs frame_1_statics s) 0 0 → Post tb e args s (.returned v) u) :
    ArmFor flags0 classFile x code maxLocals ret World_1 tables_1 room_1 Calls_1 rest_1 Pre_1 Post := by
  intro l hfl _ _ p e ha hc hk s m args below hf hA hF happ hP
  obtain ⟨hcalls, hrest, hpre⟩ := hP
  obtain ⟨-, -, -, hnamed, -, -, -, hat⟩ := (Spec.applies_iff hf).mp happ
  obtain ⟨hg, hn⟩ := and_e (Cond.before_iff.mp (show (Jvm.Cond.and given_1 narrow_1).before args s = true from hpre))
  obtain ⟨h1, h2⟩ := and_e hg
  obtain ⟨w0, w1, rfl⟩ : ∃ w0 w1 : Value, args = #[w0, w1] := by
    have hs : args.size = 2 := by simpa [Cond.value, given_1] using h1
    obtain ⟨L⟩ := args
    match L, hs with
    | [w0, w1], _ => exact ⟨w0, w1, rfl⟩
  have hw := fun d (hd : d ∈ tables_1) => atoms_spec (ws := Jvm.Cond.code x code maxLocals ret :: tables_1) hat d (List.mem_cons_of_mem _ hd)
  obtain ⟨q0, h2⟩ := and_e h2
  obtain ⟨i0, e0⟩ := is_v q0
  obtain rfl : w0 = (.int i0) := Option.some.inj e0
  have q1 := h2
  obtain ⟨i1, e1⟩ := is_v q1
  obtain rfl : w1 = (.int i1) := Option.some.inj e1
  have hE : Ctx s #[(.int i0), (.int i1)] := ⟨hw, trivial⟩
  obtain ⟨n, o, h1, h2, h3, _, L, rfl, ⟨rfl, N, -⟩, hq⟩ := own_law l hE (Old.start s)  p e ha hc hk s m _ below hf ((Spec.applies_iff_loose hf).mp happ).1 ⟨rfl, State.Warmed39.refl s, rfl⟩ trivial
  refine ⟨n, _, h1, h2, h3, hpost _ _ _ _ _ _ ⟨Cond.after_iff.mpr rfl, Cond.after_iff.mpr (eq_i res_at (Term.int_eval (1)) rfl), trivial⟩ ⟨hq.1, hq.2.1, (hq.2.2.sift fun y hy => Or.inr (N y hy)).mono (by decide) (by decide)⟩⟩
theorem main_1_1 : Claimed_1_1 := comes_1 fun _ _ _ _ _ _ h hF => ⟨h.1, hF⟩
theorem main_1_2 : Claimed_1_2 := comes_1 fun _ _ _ _ _ _ h hF => ⟨h.2.1, hF⟩
end Jvm.Pilot.@@N@@
namespace Jvm.Pilot.@@N@@
open Jvm Jvm.ClassFile Sem Op Lib Jvm.Free Jvm.Stand Jvm.Pilot.@@N@@.Jvm.D
/-! MADE BY PROGRAM (witnessworld.py) out of the Statement's table words and the real class files: 13 classes; the members and pool entries that the words name. The judged class is class 1, her method 1. -/
namespace start1
open Jvm.ClassFile
def u (s : String) : CpInfo := .utf8 (stringToUtf16 s)
/-- a pool by its gaps: so many unusable entries, then the entry; so many at the end -/
def gap : Nat → List CpInfo → List CpInfo
  | 0, r => r
  | n + 1, r => .unusable :: gap n r
def poolList (es : List (Nat × CpInfo)) (last : Nat) : List CpInfo := es.foldr (fun e r => gap e.1 (e.2 :: r)) (gap last [])
def pool (es : List (Nat × CpInfo)) (last : Nat) : Array CpInfo := ⟨poolList es last⟩
def fileOf (pool : Array CpInfo) (this : Nat) (attrs : Array Attribute := #[]) (ms : Array MethodInfo := #[]) (fl : Nat := 33) (sup : Nat := 0) (ifs : Array Nat := #[]) (fds : Array FieldInfo := #[]) : ClassFile where
  minorVersion := 0
  majorVersion := 65
  constantPool := pool
  accessFlags := fl
  thisClass := this
  superClass := sup
  interfaces := ifs
  fields := fds
  methods := ms
  attributes := attrs
def plain (name : String) (sup : Option ClassId) : Class where
  name := name
  kind := .ordinary
  loader := none
  accessFlags := 33
  super := sup
  interfaces := #[]
  cf := none
  fields := #[]
  methods := #[]
  instanceTypes := #[]
  staticTypes := #[]
  resolved := #[]
  callSites := []
  init := .initialized
  statics := none
  mirror := none

def pool0 : Array CpInfo := pool [(5, u "<init>"), (0, u "()V"), (1, .class_ 10), (1, u "java/lang/Object")] 113

def k0m0 : Method := { name := "<init>", desc := "()V", sig := { parameters := [], returnType := none }, accessFlags := 1, code := none }
/-- java/lang/Object -/
def k0 : Class := { plain "java/lang/Object" none with
  accessFlags := 33
  interfaces := #[]
  cf := some (fileOf pool0 8 #[] #[{ accessFlags := 1, nameIndex := 5, descriptorIndex := 6, attributes := #[] }] 33 0 #[] #[])
  fields := #[]
  methods := #[k0m0]
  instanceTypes := #[]
  staticTypes := #[]
  resolved := Array.replicate 124 none
  statics := none }

def pool1 : Array CpInfo := pool [(2, .class_ 4), (1, u "java/lang/Object"), (0, u "<init>"), (0, u "()V"), (0, .long 1024), (1, .double 4652218415073722368), (1, .long 16000000), (1, .long 15625), (1, .long 8), (1, .double 4696837146684686336), (1, .methodref 20 21), (0, .class_ 22), (0, .nameAndType 23 24), (0, u "com/example/amherst/amherst/text/RunWriter"), (0, u "round"), (0, u "(D)D"), (0, .class_ 26), (0, u "com/example/amherst/amherst/text/RunWriterRoundPinLaw"), (2, u "law"), (0, u "(II)Z")] 3

def k1m0 : Method := { name := "<init>", desc := "()V", sig := { parameters := [], returnType := none }, accessFlags := 1, code := none }
def k1c1 : Code := { maxStack := 6, maxLocals := 14, code := code, exceptionTable := #[], attributes := #[] }
def k1m1 : Method := { name := "law", desc := "(II)Z", sig := { parameters := [.int, .int], returnType := some .boolean }, accessFlags := 9, code := some k1c1 }
/-- com/example/amherst/amherst/text/RunWriterRoundPinLaw -/
def k1 : Class := { plain "com/example/amherst/amherst/text/RunWriterRoundPinLaw" (some 0) with
  accessFlags := 49
  interfaces := #[]
  cf := some (fileOf pool1 25 #[] #[{ accessFlags := 1, nameIndex := 5, descriptorIndex := 6, attributes := #[] }, { accessFlags := 9, nameIndex := 29, descriptorIndex := 30, attributes := #[] }] 49 2 #[] #[])
  fields := #[]
  methods := #[k1m0, k1m1]
  instanceTypes := #[]
  staticTypes := #[]
  resolved := Array.replicate 34 none
  statics := none }

def pool2 : Array CpInfo := pool [(2, .class_ 4), (1, u "java/lang/Object"), (3, .class_ 10), (1, u "com/example/amherst/amherst/text/RunWriter"), (0, u "out"), (0, u "Ljava/io/Writer;"), (2, u "tag"), (0, u "Ljava/lang/String;"), (0, .double 4696837146684686336), (1, .methodref 20 21), (0, .class_ 22), (0, .nameAndType 23 24), (0, u "java/lang/Math"), (0, u "round"), (0, u "(D)J"), (37, u "(D)D"), (58, u "SCALE"), (0, u "D")] 30

def k2c0 : Code := { maxStack := 4, maxLocals := 2, code := prog_24_method_2_code, exceptionTable := #[], attributes := #[] }
def k2m0 : Method := { name := "round", desc := "(D)D", sig := { parameters := [.double], returnType := some .double }, accessFlags := 9, code := some k2c0 }
/-- com/example/amherst/amherst/text/RunWriter -/
def k2 : Class := { plain "com/example/amherst/amherst/text/RunWriter" (some 0) with
  accessFlags := 33
  interfaces := #[]
  cf := some (fileOf pool2 8 #[] #[{ accessFlags := 9, nameIndex := 23, descriptorIndex := 62, attributes := #[] }] 33 2 #[] #[{ accessFlags := 26, nameIndex := 121, descriptorIndex := 122, attributes := #[] }, { accessFlags := 18, nameIndex := 11, descriptorIndex := 12, attributes := #[] }, { accessFlags := 18, nameIndex := 15, descriptorIndex := 16, attributes := #[] }])
  fields := #[{ name := "SCALE", type := .double, accessFlags := 26, slot := 0, constantValue := 0 }, { name := "out", type := (.object "java/io/Writer"), accessFlags := 18, slot := 0, constantValue := 0 }, { name := "tag", type := (.object "java/lang/String"), accessFlags := 18, slot := 1, constantValue := 0 }]
  methods := #[k2m0]
  instanceTypes := #[(.object "java/io/Writer"), (.object "java/lang/String")]
  staticTypes := #[.double]
  resolved := Array.replicate 153 none
  statics := none }

def pool3 : Array CpInfo := pool [(1, .class_ 2), (0, u "java/lang/Math"), (1, .class_ 6), (1, u "java/lang/Object"), (0, u "<init>"), (0, u "()V"), (70, .methodref 80 81), (0, .class_ 82), (0, .nameAndType 83 84), (0, u "java/lang/Double"), (0, u "doubleToRawLongBits"), (0, u "(D)J"), (2, .long 9218868437227405312), (1, .long 1074), (1, .long 18446744073709551552), (1, .long 4503599627370495), (1, .long 4503599627370496), (2, .class_ 100), (1, u "java/lang/Math$RandomNumberGeneratorHolder"), (71, u "negativeZeroFloatBits"), (0, u "J"), (2, u "negativeZeroDoubleBits"), (68, u "$assertionsDisabled"), (0, u "Z"), (91, u "twoToTheDoubleScaleDown"), (0, u "D"), (4, u "twoToTheDoubleScaleUp"), (9, u "E"), (3, u "PI"), (2, u "TAU"), (2, u "DEGREES_TO_RADIANS"), (0, u "RADIANS_TO_DEGREES"), (17, u "round")] 76

def k3m0 : Method := { name := "<init>", desc := "()V", sig := { parameters := [], returnType := none }, accessFlags := 2, code := none }
def k3c1 : Code := { maxStack := 4, maxLocals := 10, code := jdk_29_method_22_code, exceptionTable := #[], attributes := #[] }
def k3m1 : Method := { name := "round", desc := "(D)J", sig := { parameters := [.double], returnType := some .long }, accessFlags := 9, code := some k3c1 }
/-- java/lang/Math -/
def k3 : Class := { plain "java/lang/Math" (some 0) with
  accessFlags := 49
  interfaces := #[]
  cf := some (fileOf pool3 1 #[.nestMembers #[98]] #[{ accessFlags := 2, nameIndex := 7, descriptorIndex := 8, attributes := #[] }, { accessFlags := 9, nameIndex := 383, descriptorIndex := 84, attributes := #[] }] 49 4 #[] #[{ accessFlags := 25, nameIndex := 354, descriptorIndex := 339, attributes := #[] }, { accessFlags := 25, nameIndex := 358, descriptorIndex := 339, attributes := #[] }, { accessFlags := 25, nameIndex := 361, descriptorIndex := 339, attributes := #[] }, { accessFlags := 26, nameIndex := 364, descriptorIndex := 339, attributes := #[] }, { accessFlags := 26, nameIndex := 365, descriptorIndex := 339, attributes := #[] }, { accessFlags := 26, nameIndex := 172, descriptorIndex := 173, attributes := #[] }, { accessFlags := 26, nameIndex := 176, descriptorIndex := 173, attributes := #[] }, { accessFlags := 8, nameIndex := 344, descriptorIndex := 339, attributes := #[] }, { accessFlags := 8, nameIndex := 338, descriptorIndex := 339, attributes := #[] }, { accessFlags := 4120, nameIndex := 245, descriptorIndex := 246, attributes := #[] }])
  fields := #[{ name := "E", type := .double, accessFlags := 25, slot := 0, constantValue := 0 }, { name := "PI", type := .double, accessFlags := 25, slot := 1, constantValue := 0 }, { name := "TAU", type := .double, accessFlags := 25, slot := 2, constantValue := 0 }, { name := "DEGREES_TO_RADIANS", type := .double, accessFlags := 26, slot := 3, constantValue := 0 }, { name := "RADIANS_TO_DEGREES", type := .double, accessFlags := 26, slot := 4, constantValue := 0 }, { name := "negativeZeroFloatBits", type := .long, accessFlags := 26, slot := 5, constantValue := 0 }, { name := "negativeZeroDoubleBits", type := .long, accessFlags := 26, slot := 6, constantValue := 0 }, { name := "twoToTheDoubleScaleUp", type := .double, accessFlags := 8, slot := 7, constantValue := 0 }, { name := "twoToTheDoubleScaleDown", type := .double, accessFlags := 8, slot := 8, constantValue := 0 }, { name := "$assertionsDisabled", type := .boolean, accessFlags := 4120, slot := 9, constantValue := 0 }]
  methods := #[k3m0, k3m1]
  instanceTypes := #[]
  staticTypes := #[.double, .double, .double, .double, .double, .long, .long, .double, .double, .boolean]
  resolved := Array.replicate 460 none
  statics := none }

def pool4 : Array CpInfo := pool [(1, .class_ 2), (0, u "java/io/Serializable"), (0, .class_ 4), (0, u "java/lang/Object")] 2

/-- java/io/Serializable -/
def k4 : Class := { plain "java/io/Serializable" (some 0) with
  accessFlags := 1537
  interfaces := #[]
  cf := some (fileOf pool4 1 #[] #[] 1537 3 #[] #[])
  fields := #[]
  methods := #[]
  instanceTypes := #[]
  staticTypes := #[]
  resolved := Array.replicate 7 none
  statics := none }

def pool5 : Array CpInfo := pool [(2, .class_ 4), (1, u "java/lang/Object"), (0, u "<init>"), (0, u "()V"), (1, .class_ 10), (1, u "java/lang/Number"), (2, .class_ 14), (0, u "java/io/Serializable"), (0, u "serialVersionUID"), (0, u "J")] 20

def k5m0 : Method := { name := "<init>", desc := "()V", sig := { parameters := [], returnType := none }, accessFlags := 1, code := none }
/-- java/lang/Number -/
def k5 : Class := { plain "java/lang/Number" (some 0) with
  accessFlags := 1057
  interfaces := #[4]
  cf := some (fileOf pool5 8 #[] #[{ accessFlags := 1, nameIndex := 5, descriptorIndex := 6, attributes := #[] }] 1057 2 #[13] #[{ accessFlags := 26, nameIndex := 15, descriptorIndex := 16, attributes := #[] }])
  fields := #[{ name := "serialVersionUID", type := .long, accessFlags := 26, slot := 0, constantValue := 0 }]
  methods := #[k5m0]
  instanceTypes := #[]
  staticTypes := #[.long]
  resolved := Array.replicate 37 none
  statics := none }

def pool6 : Array CpInfo := pool [(1, .class_ 2), (0, u "java/lang/Comparable"), (0, .class_ 4), (0, u "java/lang/Object")] 7

/-- java/lang/Comparable -/
def k6 : Class := { plain "java/lang/Comparable" (some 0) with
  accessFlags := 1537
  interfaces := #[]
  cf := some (fileOf pool6 1 #[] #[] 1537 3 #[] #[])
  fields := #[]
  methods := #[]
  instanceTypes := #[]
  staticTypes := #[]
  resolved := Array.replicate 12 none
  statics := none }

def pool7 : Array CpInfo := pool [(1, .class_ 2), (0, u "java/lang/constant/Constable"), (0, .class_ 4), (0, u "java/lang/Object")] 6

/-- java/lang/constant/Constable -/
def k7 : Class := { plain "java/lang/constant/Constable" (some 0) with
  accessFlags := 1537
  interfaces := #[]
  cf := some (fileOf pool7 1 #[] #[] 1537 3 #[] #[])
  fields := #[]
  methods := #[]
  instanceTypes := #[]
  staticTypes := #[]
  resolved := Array.replicate 11 none
  statics := none }

def pool8 : Array CpInfo := pool [(1, .class_ 2), (0, u "java/lang/constant/ConstantDesc"), (0, .class_ 4), (0, u "java/lang/Object")] 32

/-- java/lang/constant/ConstantDesc -/
def k8 : Class := { plain "java/lang/constant/ConstantDesc" (some 0) with
  accessFlags := 1537
  interfaces := #[]
  cf := some (fileOf pool8 1 #[] #[] 1537 3 #[] #[])
  fields := #[]
  methods := #[]
  instanceTypes := #[]
  staticTypes := #[]
  resolved := Array.replicate 37 none
  statics := none }

def pool9 : Array CpInfo := pool [(1, .class_ 2), (0, u "java/lang/Double"), (46, u "(D)J"), (64, .class_ 116), (1, u "java/lang/Number"), (3, u "value"), (0, u "D"), (14, u "doubleToRawLongBits"), (36, u "TYPE"), (0, u "Ljava/lang/Class;"), (0, .class_ 176), (0, u "java/lang/Comparable"), (0, .class_ 178), (0, u "java/lang/constant/Constable"), (0, .class_ 180), (0, u "java/lang/constant/ConstantDesc"), (0, u "POSITIVE_INFINITY"), (3, u "NEGATIVE_INFINITY"), (2, u "NaN"), (2, u "MAX_VALUE"), (0, u "MIN_NORMAL"), (0, u "MIN_VALUE"), (2, u "SIZE"), (0, u "I"), (1, u "PRECISION"), (1, u "MAX_EXPONENT"), (1, u "MIN_EXPONENT"), (1, u "BYTES"), (3, u "serialVersionUID"), (0, u "J")] 79

def k9m0 : Method := { name := "doubleToRawLongBits", desc := "(D)J", sig := { parameters := [.double], returnType := some .long }, accessFlags := 265, code := none }
/-- java/lang/Double -/
def k9 : Class := { plain "java/lang/Double" (some 5) with
  accessFlags := 49
  interfaces := #[6, 7, 8]
  cf := some (fileOf pool9 1 #[] #[{ accessFlags := 265, nameIndex := 136, descriptorIndex := 49, attributes := #[] }] 49 114 #[175, 177, 179] #[{ accessFlags := 25, nameIndex := 181, descriptorIndex := 121, attributes := #[] }, { accessFlags := 25, nameIndex := 185, descriptorIndex := 121, attributes := #[] }, { accessFlags := 25, nameIndex := 188, descriptorIndex := 121, attributes := #[] }, { accessFlags := 25, nameIndex := 191, descriptorIndex := 121, attributes := #[] }, { accessFlags := 25, nameIndex := 192, descriptorIndex := 121, attributes := #[] }, { accessFlags := 25, nameIndex := 193, descriptorIndex := 121, attributes := #[] }, { accessFlags := 25, nameIndex := 196, descriptorIndex := 197, attributes := #[] }, { accessFlags := 25, nameIndex := 199, descriptorIndex := 197, attributes := #[] }, { accessFlags := 25, nameIndex := 201, descriptorIndex := 197, attributes := #[] }, { accessFlags := 25, nameIndex := 203, descriptorIndex := 197, attributes := #[] }, { accessFlags := 25, nameIndex := 205, descriptorIndex := 197, attributes := #[] }, { accessFlags := 25, nameIndex := 173, descriptorIndex := 174, attributes := #[] }, { accessFlags := 18, nameIndex := 120, descriptorIndex := 121, attributes := #[] }, { accessFlags := 26, nameIndex := 209, descriptorIndex := 210, attributes := #[] }])
  fields := #[{ name := "POSITIVE_INFINITY", type := .double, accessFlags := 25, slot := 0, constantValue := 0 }, { name := "NEGATIVE_INFINITY", type := .double, accessFlags := 25, slot := 1, constantValue := 0 }, { name := "NaN", type := .double, accessFlags := 25, slot := 2, constantValue := 0 }, { name := "MAX_VALUE", type := .double, accessFlags := 25, slot := 3, constantValue := 0 }, { name := "MIN_NORMAL", type := .double, accessFlags := 25, slot := 4, constantValue := 0 }, { name := "MIN_VALUE", type := .double, accessFlags := 25, slot := 5, constantValue := 0 }, { name := "SIZE", type := .int, accessFlags := 25, slot := 6, constantValue := 0 }, { name := "PRECISION", type := .int, accessFlags := 25, slot := 7, constantValue := 0 }, { name := "MAX_EXPONENT", type := .int, accessFlags := 25, slot := 8, constantValue := 0 }, { name := "MIN_EXPONENT", type := .int, accessFlags := 25, slot := 9, constantValue := 0 }, { name := "BYTES", type := .int, accessFlags := 25, slot := 10, constantValue := 0 }, { name := "TYPE", type := (.object "java/lang/Class"), accessFlags := 25, slot := 11, constantValue := 0 }, { name := "value", type := .double, accessFlags := 18, slot := 0, constantValue := 0 }, { name := "serialVersionUID", type := .long, accessFlags := 26, slot := 12, constantValue := 0 }]
  methods := #[k9m0]
  instanceTypes := #[.double]
  staticTypes := #[.double, .double, .double, .double, .double, .double, .int, .int, .int, .int, .int, (.object "java/lang/Class"), .long]
  resolved := Array.replicate 290 none
  statics := none }

def pool10 : Array CpInfo := pool [(1, u "java/lang/Cloneable"), (0, .class_ 1), (0, u "java/lang/Object"), (0, .class_ 3)] 3

/-- java/lang/Cloneable -/
def k10 : Class := { plain "java/lang/Cloneable" (some 0) with
  accessFlags := 1537
  interfaces := #[]
  cf := some (fileOf pool10 2 #[] #[] 1537 4 #[] #[])
  fields := #[]
  methods := #[]
  instanceTypes := #[]
  staticTypes := #[]
  resolved := Array.replicate 8 none
  statics := none }

/-- the primitive byte -/
def k11 : Class := { plain "byte" none with kind := .primitive 'B', accessFlags := 0x411 }
/-- [B -/
def k12 : Class := { plain "[B" (some 0) with kind := .array 11 .byte, interfaces := #[10, 4], accessFlags := 1041 }

def heap : Heap := #[]
def classes : Array Class := #[k0, k1, k2, k3, k4, k5, k6, k7, k8, k9, k10, k11, k12]
def interned : List (Array UInt16 × Addr) := []
def slotsUsed : Nat := 0
def theMethod : MethodId := ⟨1, 1⟩
def args0 : Array Value := #[.int 100, .int 7]
def aboutOver (below : List Frame) : State where
  vm := { classes := classes, interned := interned.toArray }
  heap := heap
  slotsUsed := slotsUsed
  threads := #[{ frames := .invoking theMethod args0 :: below }]
def below0 : List Frame := [.native { method := ⟨0, 0⟩, args := #[] }]
def about1 : State := aboutOver below0
def p0 : Program := .bare "" "" ""
def e0 : Env := launch0.env 0 0 0
theorem w_frames : about1.frames = Frame.invoking theMethod args0 :: below0 := rfl
set_option maxRecDepth 65536 in
theorem w_args : argsFit about1.vm theMethod args0 = true := by decide +kernel
set_option maxRecDepth 65536 in
theorem w_heap : heapFits about1 = true := by decide +kernel
set_option maxRecDepth 65536 in
theorem w_runnable : about1.curStatus? = some .runnable := by decide +kernel
set_option maxRecDepth 65536 in
theorem w_alone : about1.alone = true := by decide +kernel
set_option maxRecDepth 65536 in
theorem w_named : about1.methodNamed? x = some theMethod := by decide +kernel
set_option maxRecDepth 65536 in
theorem w_hears : about1.hears theMethod below0 = true := by decide +kernel
set_option maxRecDepth 65536 in
theorem w_ripe : about1.ripe theMethod args0 below0 = true := by decide +kernel
theorem w_running : about1.status = .running := rfl
set_option maxRecDepth 65536 in
theorem w_room : about1.hasRoom e0.platform room_1 = true :=
  launch0.hasRoom_least _ room_1 (by decide +kernel) (by decide +kernel) (by decide +kernel) (by decide +kernel) (by decide +kernel) (by decide +kernel)
theorem allAtoms_all (ts : List Jvm.Cond) (a : Array Jvm.Value) (st : Jvm.State) : (allAtoms ts).before a st = ts.all (fun c => c.before a st) := by
  induction ts with
  | nil => rfl
  | cons c t ih =>
    show (Jvm.Cond.and c (allAtoms t)).before a st = _
    rw [Jvm.Cond.before_and, ih, List.all_cons]
def words1 : List Jvm.Cond := Jvm.Cond.code x code maxLocals ret :: tables_1
/-- a 'code' word, met by the world's own term for the bytes: nothing is compared byte by byte -/
theorem code_word {y : MethodName} {bytes : ByteArray} {mx : Nat} {rt : Option FieldType} {a : Array Value} {s : State} {m : MethodId} {meth : Method} {c : Code} (h1 : s.methodNamed? y = some m) (h2 : s.vm.method? m = some meth) (h3 : meth.code = some c) (h4 : c.code = bytes)
    (h5 : (c.maxLocals == mx && c.exceptionTable.isEmpty && decide (c.maxStack ≤ mostOperands) && decide (meth.sig.returnType = rt) && !meth.locks && decide (parseMethodDescriptor y.desc = some meth.sig)) = true) : (Jvm.Cond.code y bytes mx rt).before a s = true := by
  simp only [Bool.and_eq_true, beq_iff_eq, Bool.not_eq_true', decide_eq_true_eq] at h5
  obtain ⟨⟨⟨⟨⟨g1, g2⟩, g3⟩, g4⟩, g5⟩, g6⟩ := h5
  simp [Cond.before, Cond.holds, Cond.value, h1, h2, h3, h4, g1, g2, g3, g4, g5, g6]
def isCode : Jvm.Cond → Bool
  | .code _ _ _ _ => true
  | _ => false
theorem all_split {L : List Jvm.Cond} {P : Jvm.Cond → Bool} (h1 : L.all (fun c => isCode c || P c) = true) (h2 : ∀ c ∈ L.filter isCode, P c = true) : L.all P = true := by
  refine List.all_eq_true.mpr fun c hc => ?_
  have h := List.all_eq_true.mp h1 c hc
  rcases Bool.eq_false_or_eq_true (isCode c) with hi | hi
  · exact h2 c (List.mem_filter.mpr ⟨hc, hi⟩)
  · simpa [hi] using h
set_option maxRecDepth 65536 in
theorem w_c0 : (Jvm.Cond.code x code maxLocals ret).before args0 about1 = true := code_word (m := ⟨1, 1⟩) (meth := k1m1) (c := k1c1) (by decide +kernel) rfl rfl rfl (by decide +kernel)
set_option maxRecDepth 65536 in
theorem w_c1 : (Jvm.Cond.code ({ cls := "com/example/amherst/amherst/text/RunWriter", name := "round", desc := "(D)D" } : Jvm.MethodName) prog_24_method_2_code (2 : Nat) (Option.some Jvm.ClassFile.FieldType.double)).before args0 about1 = true := code_word (m := ⟨2, 0⟩) (meth := k2m0) (c := k2c0) (by decide +kernel) rfl rfl rfl (by decide +kernel)
set_option maxRecDepth 65536 in
theorem w_c2 : (Jvm.Cond.code ({ cls := "java/lang/Math", name := "round", desc := "(D)J" } : Jvm.MethodName) jdk_29_method_22_code (10 : Nat) (Option.some Jvm.ClassFile.FieldType.long)).before args0 about1 = true := code_word (m := ⟨3, 1⟩) (meth := k3m1) (c := k3c1) (by decide +kernel) rfl rfl rfl (by decide +kernel)
def codes1 : List Jvm.Cond := [Jvm.Cond.code x code maxLocals ret, Jvm.Cond.code ({ cls := "com/example/amherst/amherst/text/RunWriter", name := "round", desc := "(D)D" } : Jvm.MethodName) prog_24_method_2_code (2 : Nat) (Option.some Jvm.ClassFile.FieldType.double), Jvm.Cond.code ({ cls := "java/lang/Math", name := "round", desc := "(D)J" } : Jvm.MethodName) jdk_29_method_22_code (10 : Nat) (Option.some Jvm.ClassFile.FieldType.long)]
set_option maxRecDepth 65536 in
theorem codes_eq : words1.filter isCode = codes1 := rfl
theorem w_codes : ∀ c ∈ words1.filter isCode, c.before args0 about1 = true := by
  rw [codes_eq]
  intro c hc
  simp only [codes1, List.mem_cons, List.not_mem_nil, or_false] at hc
  rcases hc with rfl | rfl | rfl
  · exact w_c0
  · exact w_c1
  · exact w_c2
set_option maxRecDepth 65536 in
theorem w_t1 : (words1.take 24).all (fun c => isCode c || c.before args0 about1) = true := by decide +kernel
set_option maxRecDepth 65536 in
theorem w_t2 : (words1.drop 24).all (fun c => isCode c || c.before args0 about1) = true := by decide +kernel
theorem w_tables : (allAtoms (Jvm.Cond.code x code maxLocals ret :: tables_1)).before args0 about1 = true := by
  rw [allAtoms_all]
  show words1.all (fun c => c.before args0 about1) = true
  refine all_split ?_ w_codes
  rw [← List.take_append_drop 24 words1, List.all_append, w_t1, w_t2]
  rfl
set_option maxRecDepth 65536 in
theorem w_case : (Jvm.Cond.and given_1 narrow_1).before args0 about1 = true := by decide +kernel
theorem w_applies : (headSpec (Jvm.Cond.code x code maxLocals ret :: tables_1) room_1).applies x e0.platform about1 = true :=
  (Spec.applies_iff w_frames).mpr ⟨w_running, w_runnable, w_alone, w_named, w_hears, w_ripe, w_room, w_tables⟩
theorem atStart : AtStart classFile x code maxLocals ret World_1 tables_1 room_1 Calls_1 rest_1 Pre_1 launch0 p0 e0 about1 theMethod args0 below0 :=
  ⟨lists_1, trivial, launch0.admits_env _ _ _, launch0.least_env, fairChoices_fair.cas, fairChoices_fair.clock, w_frames, w_args, w_heap, w_applies, trivial, trivial, w_case⟩
end start1
theorem witness_1 : WitnessClaimed_1 := ⟨start1.p0, start1.e0, start1.about1, start1.theMethod, start1.args0, start1.below0, start1.atStart⟩
end Jvm.Pilot.@@N@@
