import JvmDerived
import JvmDerived.Pilot.@@N@@Statement
import JvmDerived.Pilot.@@N@@Code
set_option linter.unusedVariables false
set_option linter.unusedSimpArgs false
namespace Jvm.Pilot.@@N@@
open Jvm Jvm.ClassFile Sem Op Lib Jvm.Free Jvm.Stand Jvm.LawKit Jvm.RoadKit Bundle Jvm.Pilot.@@N@@.Jvm.D
section OwnKit
variable {p : Program} {l : Launch} {e : Env} {R : Room} {s : State} {m : MethodId} {args : Array Value} {below : List Frame} {meth : Method} {c : Code} {T T' : State} {cells slots : Nat} {Z : State} {a0 : Array Value} {EL : List (String × Nat)} {vm0 : Vm} {h h' : Heap} {own : String} {n0 : Nat} {Q : Outcome → State → Prop} {g g' : JFrame}
/-- from this frame the run comes to an end of which Q holds -/
def Go (p : Program) (e : Env) (below : List Frame) (Q : Outcome → State → Prop) (T : State) (g : JFrame) : Prop :=
  ∃ s₂ o, Steps p.tables e below (T.setTop g) s₂ ∧ s₂.status = .running ∧ Ended s₂ below o ∧ Q o s₂
theorem Go.st (st : ∀ t, Steps p.tables e below (T'.setTop g') t → Steps p.tables e below (T.setTop g) t) (k : Go p e below Q T' g') : Go p e below Q T g := by
  obtain ⟨s₂, o, h1, h2⟩ := k
  exact ⟨s₂, o, st _ h1, h2⟩
theorem Go.tr (st : Steps p.tables e below (T.setTop g) (T'.setTop g')) (k : Go p e below Q T' g') : Go p e below Q T g := by
  obtain ⟨s₂, o, h1, h2⟩ := k
  exact ⟨s₂, o, st.trans h1, h2⟩
theorem own_ne {x y : Nat} (h : ¬ @Eq Nat x y) : @Ne Addr x y := h
theorem own_nn {x y : Addr} (h : x ≠ y) : ¬ @Eq Nat x y := h
theorem own_cat {v : Value} (h : v.isRef = true) : v.category = 1 := by cases v <;> simp [Value.isRef] at h <;> rfl
theorem own_catI (x : Int32) : (Value.int x).category = 1 := rfl
theorem own_catJ (x : Int64) : (Value.long x).category = 2 := rfl
theorem own_catD (x : UInt64) : (Value.double x).category = 2 := rfl
theorem own_catF (x : UInt32) : (Value.float x).category = 1 := rfl
theorem own_catA (x : Addr) : (Value.ref x).category = 1 := rfl
theorem own_catN : Value.null.category = 1 := rfl
theorem own_safe0 {vm : Vm} {x : Addr} (hE : EL = []) : Safe Z EL vm h x := fun B => by
  obtain ⟨q, hq, -⟩ := B
  rw [hE] at hq; cases hq
/-- where the walk stands -/
def Wk (p : Program) (l : Launch) (e : Env) (R : Room) (s : State) (m : MethodId) (args : Array Value) (below : List Frame) (meth : Method) (c : Code) (Z : State) (EL : List (String × Nat)) (own : String) (n0 : Nat) (vm0 : Vm) (T : State) (h : Heap) (cells slots : Nat) : Prop :=
  ∃ (locs : List Loc), vm0 = s.vm ∧ Stand p l e R s m args below meth c T locs cells slots ∧ T.heap = h ∧ Z.Warmed39 s.vm ∧ s.vm.findClass own = some m.cls ∧ Fr n0 locs ∧ Old Z n0 h ∧ EL = [] ∧ True
theorem Wk.here (W : Wk p l e R s m args below meth c Z EL own n0 vm0 T h cells slots) : At T m c below := by
  obtain ⟨locs, rfl, X, eT, hZ, hown, N, O, hEn, hKK⟩ := W
  exact X.here
theorem Wk.warm (W : Wk p l e R s m args below meth c Z EL own n0 vm0 T h cells slots) : Z.Warmed39 vm0 := by
  obtain ⟨locs, rfl, X, eT, hZ, hown, N, O, hEn, hKK⟩ := W
  exact hZ
theorem Wk.warmS (W : Wk p l e R s m args below meth c Z EL own n0 vm0 T h cells slots) : Z.Warmed39 s.vm := by
  obtain ⟨locs, rfl, X, eT, hZ, hown, N, O, hEn, hKK⟩ := W
  exact hZ
theorem Wk.old (W : Wk p l e R s m args below meth c Z EL own n0 vm0 T h cells slots) : Old Z n0 h := by
  obtain ⟨locs, rfl, X, eT, hZ, hown, N, O, hEn, hKK⟩ := W
  exact O
theorem Wk.ge (W : Wk p l e R s m args below meth c Z EL own n0 vm0 T h cells slots) : n0 ≤ h.size := by have q := W.old; exact q.1 ▸ q.2.1
theorem Wk.stand (W : Wk p l e R s m args below meth c Z EL own n0 vm0 T h cells slots) : ∃ locs, Stand p l e R s m args below meth c T locs cells slots := by
  obtain ⟨locs, rfl, X, eT, hZ, hown, N, O, hEn, hKK⟩ := W
  exact ⟨_, X⟩
theorem Wk.heap (W : Wk p l e R s m args below meth c Z EL own n0 vm0 T h cells slots) : T.heap = h := by
  obtain ⟨locs, rfl, X, eT, hZ, hown, N, O, hEn, hKK⟩ := W
  exact eT
theorem Wk.owns (W : Wk p l e R s m args below meth c Z EL own n0 vm0 T h cells slots) : s.vm.findClass own = some m.cls := by
  obtain ⟨locs, rfl, X, eT, hZ, hown, N, O, hEn, hKK⟩ := W
  exact hown
theorem Wk.sta {C n d : String} {v : Value} (W : Wk p l e R s m args below meth c Z EL own n0 vm0 T h cells slots) (S : Sta Z Z.heap C n d v) : Sta Z h C n d v := S.ext W.old.2
theorem Wk.safeArv {x : Addr} {k : ClassId} {ty : FieldType} {z : Int32} {vs : List Value} {d : Value} (W : Wk p l e R s m args below meth c Z EL own n0 vm0 T h cells slots) (A : Arv Z h x k ty z vs d) (ht : ty ≠ .byte) : Safe Z EL vm0 h x := Safe.arv W.warm.alike A ht
theorem Wk.safeExa {x : Addr} {C : String} (W : Wk p l e R s m args below meth c Z EL own n0 vm0 T h cells slots) (E : Exa Z h x C) (h1 : C ≠ "java/lang/String") (h2 : C ≠ "[B") : Safe Z EL vm0 h x := Safe.exa W.warm.alike E h1 h2
theorem Wk.safeN {x : Addr} (W : Wk p l e R s m args below meth c Z EL own n0 vm0 T h cells slots) : Safe Z EL vm0 h x := by
  obtain ⟨locs, rfl, X, eT, hZ, hown, N, O, hEn, hKK⟩ := W
  exact own_safe0 hEn
theorem Wk.more {cells' slots' : Nat} (W : Wk p l e R s m args below meth c Z EL own n0 vm0 T h cells slots) (h1 : cells ≤ cells') (h2 : slots ≤ slots') : Wk p l e R s m args below meth c Z EL own n0 vm0 T h cells' slots' := by
  obtain ⟨locs, r⟩ := W
  obtain ⟨q, X, r⟩ := r
  exact ⟨locs, q, X.more h1 h2, r⟩
theorem Wk.newO (W : Wk p l e R s m args below meth c Z EL own n0 vm0 T h cells slots) (hx : p.tables.exec = Jvm.exec) {C : String} {index n : Nat} (w : (Cond.classLink own index C).before a0 Z = true) (wi : (Cond.instantiable C n).before a0 Z = true) (wz : (Cond.initialized C).before a0 Z = true)
    (hg : g.method = m) (hd : decode c.code g.pc = .ok (.new index, 3)) (hc : cells + 1 ≤ R.cells) (hl : slots + n ≤ R.slots) :
    ∃ T' h' a, a = h.size ∧ Wk p l e R s m args below meth c Z EL own n0 vm0 T' h' (cells + 1) (slots + n) ∧ Ext h h' ∧ h.size < h'.size ∧ Exa Z h' a C ∧ (∀ {O nm d : String} {ty : FieldType}, Laid Z a0 C O nm d → parseFieldDescriptor d = some ty → Fld Z h' a O nm d (defaultValue ty)) ∧ Safe Z EL vm0 h' a ∧ (∀ x, x < h.size → Safe Z EL vm0 h x → Safe Z EL vm0 h' x) ∧ (∃ cell : Cell, h'[a]? = some cell ∧ cell.vm = .none ∧ cell.monitor = {}) ∧
      ∀ target, Steps p.tables e below (T'.setTop { g with pc := g.pc + 3, stack := .ref a :: g.stack }) target → Steps p.tables e below (T.setTop g) target := by
  obtain ⟨locs, rfl, X, eT, hZ, hown, N, O, hEn, hKK⟩ := W
  obtain ⟨T', h', X', e', E, A, D, U, st⟩ := RoadKit.newO X hx hZ hown w wi wz eT hg hd hc hl
  exact ⟨T', h', h.size, rfl, ⟨_, rfl, X', e', hZ, hown, N, O.ext E, hEn, hKK⟩, E, A.lt, A, D, own_safe0 hEn, fun x _ q => own_safe0 hEn, U, st⟩
theorem Wk.newP (W : Wk p l e R s m args below meth c Z EL own n0 vm0 T h cells slots) (hx : p.tables.exec = Jvm.exec) {aty : ArrayType} {ty : FieldType} (hty : newarray.typeOf aty = ty) (w : (Cond.arrayClass ty).before a0 Z = true)
    (hg : g.method = m) (hd : decode c.code g.pc = .ok (.newarray aty, 2)) {n : Int32} {rest : List Value} (hs : g.stack = .int n :: rest) (hn : ¬ n < 0) {cap : Nat} (hcap : n.toNatClampNeg ≤ cap) (hb : cap * 8 ≤ 536870912) (hc : cells + 1 ≤ R.cells) (hl : slots + cap ≤ R.slots) (NN : Nat) :
    ∃ T' h' a k, a = h.size ∧ Wk p l e R s m args below meth c Z EL own n0 vm0 T' h' (cells + 1) (slots + cap) ∧ Ext h h' ∧ h.size < h'.size ∧ Arv Z h' a k ty n (List.replicate NN (defaultValue ty)) (defaultValue ty) ∧ Safe Z EL vm0 h' a ∧ (∀ x, x < h.size → Safe Z EL vm0 h x → Safe Z EL vm0 h' x) ∧
      ∀ target, Steps p.tables e below (T'.setTop { g with pc := g.pc + 2, stack := .ref a :: rest }) target → Steps p.tables e below (T.setTop g) target := by
  subst hty
  obtain ⟨locs, rfl, X, eT, hZ, hown, N, O, hEn, hKK⟩ := W
  obtain ⟨T', h', cA, X', e', E, A, st⟩ := RoadKit.newP X hx hZ w eT hg hd hs hn hcap hb hc hl
  exact ⟨T', h', h.size, cA, rfl, ⟨_, rfl, X', e', hZ, hown, N, O.ext E, hEn, hKK⟩, E, A.lt, (Arv.new A hn).pad (pad_rep [] _ NN), own_safe0 hEn, fun x _ q => own_safe0 hEn, st⟩
theorem Wk.stC (W : Wk p l e R s m args below meth c Z EL own n0 vm0 T h cells slots) (hx : p.tables.exec = Jvm.exec) {a : Addr} {k : ClassId} {z j : Int32} {x : Int32} {vs : List Value} {d : Value} (A : Arv Z h a k .char z vs d) (hj : ¬ j < 0 ∧ j < z) (i : Nat) (hi : j.toNatClampNeg = i) (hlen : i < vs.length) (ha : n0 ≤ a)
    (hg : g.method = m) {rest : List Value} (hs : g.stack = .int x :: .int j :: .ref a :: rest) (hd : decode c.code g.pc = .ok (.castore, 1)) :
    ∃ T' h', Wk p l e R s m args below meth c Z EL own n0 vm0 T' h' cells slots ∧ Wr h h' a i (.int (nar .char x)) ∧ h'.size = h.size ∧ Arv Z h' a k .char z (vs.set i (.int (nar .char x))) d ∧ (∀ x, x < h.size → Safe Z EL vm0 h x → Safe Z EL vm0 h' x) ∧
      ∀ target, Steps p.tables e below (T'.setTop { g with pc := g.pc + 1, stack := rest }) target → Steps p.tables e below (T.setTop g) target := by
  have S := W.safeArv A (by decide)
  obtain ⟨locs, rfl, X, eT, hZ, hown, N, O, hEn, hKK⟩ := W
  obtain ⟨cl, A1, q1, q2, q3, q4, q5⟩ := A
  obtain ⟨T', h', X', e', Wr', st⟩ := RoadKit.stC X hx hZ eT A1 (inb_of q2 hj) hg hs hd
  have Wr2 := Wr'
  rw [hi] at Wr2
  exact ⟨T', h', ⟨_, rfl, X', e', hZ, hown, Fr.snoc X' N ha, O.wr Wr' ha, hEn, hKK⟩, Wr2, Wr'.size, Arv.set A1 q1 q2 q3 q4 q5 (fits_nar_char _) Wr' i hi hlen, fun x _ q => own_safe0 hEn, st⟩
theorem Wk.stB (W : Wk p l e R s m args below meth c Z EL own n0 vm0 T h cells slots) (hx : p.tables.exec = Jvm.exec) {a : Addr} {k : ClassId} {z j : Int32} {x : Int32} {vs : List Value} {d : Value} (A : Arv Z h a k .byte z vs d) (S : Safe Z EL vm0 h a) (hj : ¬ j < 0 ∧ j < z) (i : Nat) (hi : j.toNatClampNeg = i) (hlen : i < vs.length) (ha : n0 ≤ a)
    (hg : g.method = m) {rest : List Value} (hs : g.stack = .int x :: .int j :: .ref a :: rest) (hd : decode c.code g.pc = .ok (.bastore, 1)) :
    ∃ T' h', Wk p l e R s m args below meth c Z EL own n0 vm0 T' h' cells slots ∧ Wr h h' a i (.int (nar .byte x)) ∧ h'.size = h.size ∧ Arv Z h' a k .byte z (vs.set i (.int (nar .byte x))) d ∧ (∀ x, x < h.size → Safe Z EL vm0 h x → Safe Z EL vm0 h' x) ∧
      ∀ target, Steps p.tables e below (T'.setTop { g with pc := g.pc + 1, stack := rest }) target → Steps p.tables e below (T.setTop g) target := by
  obtain ⟨locs, rfl, X, eT, hZ, hown, N, O, hEn, hKK⟩ := W
  obtain ⟨cl, A1, q1, q2, q3, q4, q5⟩ := A
  obtain ⟨T', h', X', e', Wr', st⟩ := RoadKit.stB X hx hZ eT A1 (inb_of q2 hj) hg hs hd
  have Wr2 := Wr'
  rw [hi] at Wr2
  exact ⟨T', h', ⟨_, rfl, X', e', hZ, hown, Fr.snoc X' N ha, O.wr Wr' ha, hEn, hKK⟩, Wr2, Wr'.size, Arv.set A1 q1 q2 q3 q4 q5 (fits_nar_byte _) Wr' i hi hlen, fun x _ q => own_safe0 hEn, st⟩
theorem Wk.stI (W : Wk p l e R s m args below meth c Z EL own n0 vm0 T h cells slots) (hx : p.tables.exec = Jvm.exec) {a : Addr} {k : ClassId} {z j : Int32} {x : Int32} {vs : List Value} {d : Value} (A : Arv Z h a k .int z vs d) (hj : ¬ j < 0 ∧ j < z) (i : Nat) (hi : j.toNatClampNeg = i) (hlen : i < vs.length) (ha : n0 ≤ a)
    (hg : g.method = m) {rest : List Value} (hs : g.stack = .int x :: .int j :: .ref a :: rest) (hd : decode c.code g.pc = .ok (.iastore, 1)) :
    ∃ T' h', Wk p l e R s m args below meth c Z EL own n0 vm0 T' h' cells slots ∧ Wr h h' a i (.int x) ∧ h'.size = h.size ∧ Arv Z h' a k .int z (vs.set i (.int x)) d ∧ (∀ x, x < h.size → Safe Z EL vm0 h x → Safe Z EL vm0 h' x) ∧
      ∀ target, Steps p.tables e below (T'.setTop { g with pc := g.pc + 1, stack := rest }) target → Steps p.tables e below (T.setTop g) target := by
  have S := W.safeArv A (by decide)
  obtain ⟨locs, rfl, X, eT, hZ, hown, N, O, hEn, hKK⟩ := W
  obtain ⟨cl, A1, q1, q2, q3, q4, q5⟩ := A
  obtain ⟨T', h', X', e', Wr', st⟩ := RoadKit.stI X hx hZ eT A1 (inb_of q2 hj) hg hs hd
  have Wr2 := Wr'
  rw [hi] at Wr2
  exact ⟨T', h', ⟨_, rfl, X', e', hZ, hown, Fr.snoc X' N ha, O.wr Wr' ha, hEn, hKK⟩, Wr2, Wr'.size, Arv.set A1 q1 q2 q3 q4 q5 rfl Wr' i hi hlen, fun x _ q => own_safe0 hEn, st⟩
theorem Wk.stJ (W : Wk p l e R s m args below meth c Z EL own n0 vm0 T h cells slots) (hx : p.tables.exec = Jvm.exec) {a : Addr} {k : ClassId} {z j : Int32} {x : Int64} {vs : List Value} {d : Value} (A : Arv Z h a k .long z vs d) (hj : ¬ j < 0 ∧ j < z) (i : Nat) (hi : j.toNatClampNeg = i) (hlen : i < vs.length) (ha : n0 ≤ a)
    (hg : g.method = m) {rest : List Value} (hs : g.stack = .long x :: .int j :: .ref a :: rest) (hd : decode c.code g.pc = .ok (.lastore, 1)) :
    ∃ T' h', Wk p l e R s m args below meth c Z EL own n0 vm0 T' h' cells slots ∧ Wr h h' a i (.long x) ∧ h'.size = h.size ∧ Arv Z h' a k .long z (vs.set i (.long x)) d ∧ (∀ x, x < h.size → Safe Z EL vm0 h x → Safe Z EL vm0 h' x) ∧
      ∀ target, Steps p.tables e below (T'.setTop { g with pc := g.pc + 1, stack := rest }) target → Steps p.tables e below (T.setTop g) target := by
  have S := W.safeArv A (by decide)
  obtain ⟨locs, rfl, X, eT, hZ, hown, N, O, hEn, hKK⟩ := W
  obtain ⟨cl, A1, q1, q2, q3, q4, q5⟩ := A
  obtain ⟨T', h', X', e', Wr', st⟩ := RoadKit.stJ X hx hZ eT A1 (inb_of q2 hj) hg hs hd
  have Wr2 := Wr'
  rw [hi] at Wr2
  exact ⟨T', h', ⟨_, rfl, X', e', hZ, hown, Fr.snoc X' N ha, O.wr Wr' ha, hEn, hKK⟩, Wr2, Wr'.size, Arv.set A1 q1 q2 q3 q4 q5 rfl Wr' i hi hlen, fun x _ q => own_safe0 hEn, st⟩
theorem Wk.stD (W : Wk p l e R s m args below meth c Z EL own n0 vm0 T h cells slots) (hx : p.tables.exec = Jvm.exec) {a : Addr} {k : ClassId} {z j : Int32} {x : UInt64} {vs : List Value} {d : Value} (A : Arv Z h a k .double z vs d) (hj : ¬ j < 0 ∧ j < z) (i : Nat) (hi : j.toNatClampNeg = i) (hlen : i < vs.length) (ha : n0 ≤ a)
    (hg : g.method = m) {rest : List Value} (hs : g.stack = .double x :: .int j :: .ref a :: rest) (hd : decode c.code g.pc = .ok (.dastore, 1)) :
    ∃ T' h', Wk p l e R s m args below meth c Z EL own n0 vm0 T' h' cells slots ∧ Wr h h' a i (.double x) ∧ h'.size = h.size ∧ Arv Z h' a k .double z (vs.set i (.double x)) d ∧ (∀ x, x < h.size → Safe Z EL vm0 h x → Safe Z EL vm0 h' x) ∧
      ∀ target, Steps p.tables e below (T'.setTop { g with pc := g.pc + 1, stack := rest }) target → Steps p.tables e below (T.setTop g) target := by
  have S := W.safeArv A (by decide)
  obtain ⟨locs, rfl, X, eT, hZ, hown, N, O, hEn, hKK⟩ := W
  obtain ⟨cl, A1, q1, q2, q3, q4, q5⟩ := A
  obtain ⟨T', h', X', e', Wr', st⟩ := RoadKit.stD X hx hZ eT A1 (inb_of q2 hj) hg hs hd
  have Wr2 := Wr'
  rw [hi] at Wr2
  exact ⟨T', h', ⟨_, rfl, X', e', hZ, hown, Fr.snoc X' N ha, O.wr Wr' ha, hEn, hKK⟩, Wr2, Wr'.size, Arv.set A1 q1 q2 q3 q4 q5 rfl Wr' i hi hlen, fun x _ q => own_safe0 hEn, st⟩
theorem Wk.putF (W : Wk p l e R s m args below meth c Z EL own n0 vm0 T h cells slots) (hx : p.tables.exec = Jvm.exec) {R0 O n d C : String} {index kk : Nat} {ty : FieldType} (w : (Cond.fieldLink own index R0 n d).before a0 Z = true) (via : Via Z R0 O n d)
    {a : Addr} {v old : Value} (F : Fld Z h a O n d old) (E : Exa Z h a C) (L : (Cond.lays C O n d).before a0 Z = true ∨ ((Cond.laysFinal C O n d).before a0 Z = true ∧ own = O ∧ meth.name = "<init>")) (wi : (Cond.instantiable C kk).before a0 Z = true)
    (hty : parseFieldDescriptor d = some ty) (hn : narrow ty v = v) (hf : fits ty v = true) (S : Safe Z EL vm0 h a) (ha : n0 ≤ a) (hg : g.method = m) {rest : List Value} (hs : g.stack = v :: .ref a :: rest) (hd : decode c.code g.pc = .ok (.putfield index, 3)) :
    ∃ T' h', Wk p l e R s m args below meth c Z EL own n0 vm0 T' h' cells slots ∧ Wr h h' a (RoadKit.slotOf Z O n d) v ∧ h'.size = h.size ∧ Fld Z h' a O n d v ∧ (∀ x, x < h.size → Safe Z EL vm0 h x → Safe Z EL vm0 h' x) ∧
      ∀ target, Steps p.tables e below (T'.setTop { g with pc := g.pc + 3, stack := rest }) target → Steps p.tables e below (T.setTop g) target := by
  obtain ⟨locs, rfl, X, eT, hZ, hown, N, O', hEn, hKK⟩ := W
  obtain ⟨T', h', X', e', Wr', st⟩ := RoadKit.putF X hx hZ hown (host := "") (Or.inl w) via eT F E L wi hty hn hf hg hs hd
  exact ⟨T', h', ⟨_, rfl, X', e', hZ, hown, Fr.snoc X' N ha, O'.wr Wr' ha, hEn, hKK⟩, Wr', Wr'.size, F.same Wr', fun x _ q => own_safe0 hEn, st⟩
theorem Wk.getF (W : Wk p l e R s m args below meth c Z EL own n0 vm0 T h cells slots) (hx : p.tables.exec = Jvm.exec) {R0 O n d : String} {index : Nat} (w : (Cond.fieldLink own index R0 n d).before a0 Z = true) (via : Via Z R0 O n d) {a : Addr} {v : Value} (F : Fld Z h a O n d v) (hg : g.method = m) {rest : List Value} (hs : g.stack = .ref a :: rest) (hd : decode c.code g.pc = .ok (.getfield index, 3)) :
    ∃ T', Wk p l e R s m args below meth c Z EL own n0 vm0 T' h cells slots ∧ ∀ target, Steps p.tables e below (T'.setTop { g with pc := g.pc + 3, stack := v :: rest }) target → Steps p.tables e below (T.setTop g) target := by
  obtain ⟨locs, rfl, X, eT, hZ, hown, N, O', hEn, hKK⟩ := W
  obtain ⟨T', X', e', st⟩ := RoadKit.getF X hx hZ hown (host := "") (Or.inl w) via eT F hg hs hd
  exact ⟨T', ⟨_, rfl, X', e', hZ, hown, N, O', hEn, hKK⟩, st⟩
theorem Wk.getS (W : Wk p l e R s m args below meth c Z EL own n0 vm0 T h cells slots) (hx : p.tables.exec = Jvm.exec) {R0 O n d : String} {index : Nat} (w : (Cond.fieldLink own index R0 n d).before a0 Z = true) (via : Via Z R0 O n d) {v : Value} (F : Sta Z h O n d v) (hg : g.method = m) (hd : decode c.code g.pc = .ok (.getstatic index, 3)) :
    ∃ T', Wk p l e R s m args below meth c Z EL own n0 vm0 T' h cells slots ∧ ∀ target, Steps p.tables e below (T'.setTop { g with pc := g.pc + 3, stack := v :: g.stack }) target → Steps p.tables e below (T.setTop g) target := by
  obtain ⟨locs, rfl, X, eT, hZ, hown, N, O', hEn, hKK⟩ := W
  obtain ⟨T', X', e', st⟩ := RoadKit.getS (host := "") X hx hZ hown w via eT F hg hd
  exact ⟨T', ⟨_, rfl, X', e', hZ, hown, N, O', hEn, hKK⟩, st⟩
theorem Wk.initO (W : Wk p l e R s m args below meth c Z EL own n0 vm0 T h cells slots) (hx : p.tables.exec = Jvm.exec) {idx : Nat} (w1 : (Cond.methodLink own idx Lib.objectInit).before a0 Z = true) (w2 : (Cond.instanceMethod Lib.objectInit).before a0 Z = true) (w3 : (Cond.code Lib.objectInit ⟨#[0xb1]⟩ 1 none).before a0 Z = true) (hg : g.method = m) (hsize : g.locals.size = c.maxLocals) {a : Addr} {rest : List Value} (hs : g.stack = .ref a :: rest) (hd : decode c.code g.pc = .ok (.invokespecial idx, 3)) (hf : 1 ≤ R.frames) {Wd : Nat} (hW : 2 * g.monitorRoom + (rest.map fun v => v.category).sum ≤ Wd) (hl : Wd + 12 ≤ R.locals) :
    ∃ T', Wk p l e R s m args below meth c Z EL own n0 vm0 T' h cells slots ∧ ∀ target, Steps p.tables e below (T'.setTop { g with pc := g.pc + 3, stack := rest }) target → Steps p.tables e below (T.setTop g) target := by
  obtain ⟨locs, rfl, X, eT, hZ, hown, N, O', hEn, hKK⟩ := W
  obtain ⟨T', X', e', st⟩ := RoadKit.initO X hx hZ hown w1 w2 w3 eT hg hsize hs hd hf hW hl
  exact ⟨T', ⟨_, rfl, X', e', hZ, hown, N, O', hEn, hKK⟩, st⟩
theorem Wk.cast (W : Wk p l e R s m args below meth c Z EL own n0 vm0 T h cells slots) (hx : p.tables.exec = Jvm.exec) {K : String} {index : Nat} (w : (Cond.classLink own index K).before a0 Z = true) {a : Addr} (F : Ins Z h a K true) (hg : g.method = m) {rest : List Value} (hs : g.stack = .ref a :: rest) (hd : decode c.code g.pc = .ok (.checkcast index, 3)) :
    ∃ T', Wk p l e R s m args below meth c Z EL own n0 vm0 T' h cells slots ∧ ∀ target, Steps p.tables e below (T'.setTop { g with pc := g.pc + 3 }) target → Steps p.tables e below (T.setTop g) target := by
  obtain ⟨locs, rfl, X, eT, hZ, hown, N, O', hEn, hKK⟩ := W
  obtain ⟨T', X', e', st⟩ := RoadKit.castY X hx hZ hown w eT F hg hs hd
  exact ⟨T', ⟨_, rfl, X', e', hZ, hown, N, O', hEn, hKK⟩, st⟩
theorem Wk.instY (W : Wk p l e R s m args below meth c Z EL own n0 vm0 T h cells slots) (hx : p.tables.exec = Jvm.exec) {K : String} {index : Nat} (w : (Cond.classLink own index K).before a0 Z = true) {a : Addr} (F : Ins Z h a K true) (hg : g.method = m) {rest : List Value} (hs : g.stack = .ref a :: rest) (hd : decode c.code g.pc = .ok (.instanceof index, 3)) :
    ∃ T', Wk p l e R s m args below meth c Z EL own n0 vm0 T' h cells slots ∧ ∀ target, Steps p.tables e below (T'.setTop { g with pc := g.pc + 3, stack := .int 1 :: rest }) target → Steps p.tables e below (T.setTop g) target := by
  obtain ⟨locs, rfl, X, eT, hZ, hown, N, O', hEn, hKK⟩ := W
  obtain ⟨T', X', e', st⟩ := RoadKit.instY X hx hZ hown w eT F hg hs hd
  exact ⟨T', ⟨_, rfl, X', e', hZ, hown, N, O', hEn, hKK⟩, st⟩
/-- the contract of a callee -/
def Met (l : Launch) (y : MethodName) (bytes : ByteArray) (maxL : Nat) (ret : Option FieldType) (rm : Room) (Z : State) (EL : List (String × Nat)) (n0 : Nat) (ws : List Jvm.Cond) (as' : Array Value) (h : Heap) (Q : Option Value → Heap → Prop) : Prop :=
  MetFree l y (head1 (Jvm.Cond.code y bytes maxL ret :: ws) rm) (fun a U => a = as' ∧ Z.Warmed39 U.vm ∧ U.heap = h) (fun _ _ _ _ _ => True) (fun _ U o U' => ∃ v L, o = .returned v ∧ (Q v U'.heap ∧ Fr n0 L ∧ Old Z n0 U'.heap ∧ h.size ≤ U'.heap.size) ∧ FrameEnd U o U' L rm.cells rm.slots)
/-- the end that a contract asks, as the walk's goal has it -/
def OFin (s : State) (rm : Room) (Z : State) (EL : List (String × Nat)) (n0 : Nat) (Q : Option Value → Heap → Prop) (o : Outcome) (u : State) : Prop := ∃ v L, o = .returned v ∧ (Q v u.heap ∧ Fr n0 L ∧ Old Z n0 u.heap ∧ s.heap.size ≤ u.heap.size) ∧ FrameEnd s o u L rm.cells rm.slots
theorem Met.of {y : MethodName} {bytes : ByteArray} {maxL : Nat} {ret : Option FieldType} {rm : Room} {ws : List Jvm.Cond} {as' : Array Value} {Qb : Option Value → Heap → Prop} (hpl : plainFor y = true) (O : Old Z n0 h) (hEn : EL = [])
    (body : ∀ (p : Program) (e : Env) (s : State) (m : MethodId) (below : List Frame) (meth : Method) (c : Code) (T : State), p.tables.exec = Jvm.exec → c.code = bytes → c.maxLocals = maxL → meth.sig.returnType = ret → meth.locks = false → meth.name = y.name → s.heap = h →
      Wk p l e rm s m as' below meth c Z EL y.cls n0 s.vm T h 0 0 → Go p e below (OFin s rm Z EL n0 Qb) T (entryFrame m as' maxL)) :
    Met l y bytes maxL ret rm Z EL n0 ws as' h Qb := by
  refine MetFree.of_bodySF hpl hisR ?_
  intro p e s m args below meth c s₁ Bd hml hP hK
  obtain ⟨rfl, hZ, hh⟩ := hP
  subst hh
  have hh : s.heap = s.heap := rfl
  have hown : s.vm.findClass y.cls = some m.cls := findClass_of_methodNamed Bd.named
  have X0 : Stand p l e rm s m args below meth c s₁ [] 0 0 := Stand.of_body Bd
  have e0 : s₁.heap = s.heap := by rw [Bd.state]; rfl
  refine body p e s m below meth c s₁ Bd.exec Bd.bytes hml Bd.returns Bd.notSynchronized (name_of_methodNamed Bd.named Bd.method).1 hh ?_
  exact ⟨[], rfl, X0, e0, hZ, hown, Fr.nil _, O, hEn, trivial⟩
/-- the end of a walk -/
theorem Wk.fin {rm : Room} {Qb : Option Value → Heap → Prop} (W : Wk p l e R s m args below meth c Z EL own n0 vm0 T h cells slots) (hEL : EW Z a0 EL) (hlk : meth.locks = false) {v : Option Value} (hv : meth.sig.returnType = none → v = none) (hc : cells ≤ rm.cells) (hs : slots ≤ rm.slots) (hq : Qb v h)
    (st : ∀ fs, (∀ (f : JFrame) (acts : List Action), f.method = m → f.locked = none → f.entered = [] → (doReturn e (T.setTop f) acts v).1 = T.setFrames fs) → Steps p.tables e below (T.setTop g) (T.setFrames fs)) : Go p e below (OFin s rm Z EL n0 Qb) T g := by
  obtain ⟨locs, rfl, X, eT, hZ, hown, N, O, hEn, hKK⟩ := W
  subst eT
  obtain ⟨fs, hr, hrun, hended, hW, hsame⟩ := X.leave (v := v) hv hlk
  exact ⟨T.setFrames fs, .returned v, st fs hr, hrun, hended, v, locs, rfl, ⟨hq, N, O, hsame.2.1⟩, ⟨_, rfl⟩, hW, hsame.mono hc hs⟩
theorem Wk.retN {rm : Room} {Qb : Option Value → Heap → Prop} (W : Wk p l e R s m args below meth c Z EL own n0 vm0 T h cells slots) (hx : p.tables.exec = Jvm.exec) (hEL : EW Z a0 EL) (hlk : meth.locks = false) {pc : Nat} {Ls : Array Slot} {z : Int32} {t : FieldType} {rest : List Value} (hret : meth.sig.returnType = some t) (ht : t = .boolean ∨ t = .byte ∨ t = .char ∨ t = .short)
    (hd : decode c.code pc = .ok (.ireturn, 1)) (hc : cells ≤ rm.cells) (hs : slots ≤ rm.slots) (hq : Qb (some (.int (nar t z))) h) : Go p e below (OFin s rm Z EL n0 Qb) T (mkF m pc Ls (.int z :: rest)) := by
  obtain ⟨locs, X⟩ := W.stand
  exact W.fin hEL hlk (v := some (.int (nar t z))) (fun q => by first | rfl | (rw [hret] at q; cases q)) hc hs hq fun fs hr => RoadKit.retN X hx hret ht hd hr
theorem Wk.retI {rm : Room} {Qb : Option Value → Heap → Prop} (W : Wk p l e R s m args below meth c Z EL own n0 vm0 T h cells slots) (hx : p.tables.exec = Jvm.exec) (hEL : EW Z a0 EL) (hlk : meth.locks = false) {pc : Nat} {Ls : Array Slot} {z : Int32} {rest : List Value} (hret : meth.sig.returnType = some .int)
    (hd : decode c.code pc = .ok (.ireturn, 1)) (hc : cells ≤ rm.cells) (hs : slots ≤ rm.slots) (hq : Qb (some (.int z)) h) : Go p e below (OFin s rm Z EL n0 Qb) T (mkF m pc Ls (.int z :: rest)) := by
  obtain ⟨locs, X⟩ := W.stand
  exact W.fin hEL hlk (v := some (.int z)) (fun q => by first | rfl | (rw [hret] at q; cases q)) hc hs hq fun fs hr => RoadKit.retOut X hx hret rfl (Or.inl ⟨rfl, Or.inl rfl, _, rfl⟩) hd hr
theorem Wk.retJ {rm : Room} {Qb : Option Value → Heap → Prop} (W : Wk p l e R s m args below meth c Z EL own n0 vm0 T h cells slots) (hx : p.tables.exec = Jvm.exec) (hEL : EW Z a0 EL) (hlk : meth.locks = false) {pc : Nat} {Ls : Array Slot} {z : Int64} {rest : List Value} (hret : meth.sig.returnType = some .long)
    (hd : decode c.code pc = .ok (.lreturn, 1)) (hc : cells ≤ rm.cells) (hs : slots ≤ rm.slots) (hq : Qb (some (.long z)) h) : Go p e below (OFin s rm Z EL n0 Qb) T (mkF m pc Ls (.long z :: rest)) := by
  obtain ⟨locs, X⟩ := W.stand
  exact W.fin hEL hlk (v := some (.long z)) (fun q => by first | rfl | (rw [hret] at q; cases q)) hc hs hq fun fs hr => RoadKit.retOut X hx hret rfl (Or.inr (Or.inl ⟨rfl, rfl, _, rfl⟩)) hd hr
theorem Wk.retD {rm : Room} {Qb : Option Value → Heap → Prop} (W : Wk p l e R s m args below meth c Z EL own n0 vm0 T h cells slots) (hx : p.tables.exec = Jvm.exec) (hEL : EW Z a0 EL) (hlk : meth.locks = false) {pc : Nat} {Ls : Array Slot} {z : UInt64} {rest : List Value} (hret : meth.sig.returnType = some .double)
    (hd : decode c.code pc = .ok (.dreturn, 1)) (hc : cells ≤ rm.cells) (hs : slots ≤ rm.slots) (hq : Qb (some (.double z)) h) : Go p e below (OFin s rm Z EL n0 Qb) T (mkF m pc Ls (.double z :: rest)) := by
  obtain ⟨locs, X⟩ := W.stand
  exact W.fin hEL hlk (v := some (.double z)) (fun q => by first | rfl | (rw [hret] at q; cases q)) hc hs hq fun fs hr => RoadKit.retOut X hx hret rfl (Or.inr (Or.inr (Or.inl ⟨rfl, rfl, _, rfl⟩))) hd hr
theorem Wk.retA {rm : Room} {Qb : Option Value → Heap → Prop} (W : Wk p l e R s m args below meth c Z EL own n0 vm0 T h cells slots) (hx : p.tables.exec = Jvm.exec) (hEL : EW Z a0 EL) (hlk : meth.locks = false) {pc : Nat} {Ls : Array Slot} {v : Value} {t : FieldType} {rest : List Value} (hret : meth.sig.returnType = some t) (ht : t.isReference = true) (hn : narrow t v = v) (hv : v.isRef = true)
    (hd : decode c.code pc = .ok (.areturn, 1)) (hc : cells ≤ rm.cells) (hs : slots ≤ rm.slots) (hq : Qb (some v) h) : Go p e below (OFin s rm Z EL n0 Qb) T (mkF m pc Ls (v :: rest)) := by
  obtain ⟨locs, X⟩ := W.stand
  exact W.fin hEL hlk (v := some v) (fun q => by first | rfl | (rw [hret] at q; cases q)) hc hs hq fun fs hr => RoadKit.retOut X hx hret hn (Or.inr (Or.inr (Or.inr (Or.inr ⟨rfl, ht, hv⟩)))) hd hr
theorem Wk.retV {rm : Room} {Qb : Option Value → Heap → Prop} (W : Wk p l e R s m args below meth c Z EL own n0 vm0 T h cells slots) (hx : p.tables.exec = Jvm.exec) (hEL : EW Z a0 EL) (hlk : meth.locks = false) {pc : Nat} {Ls : Array Slot} (hret : meth.sig.returnType = none)
    (hd : decode c.code pc = .ok (.return_, 1)) (hc : cells ≤ rm.cells) (hs : slots ≤ rm.slots) (hq : Qb (none) h) : Go p e below (OFin s rm Z EL n0 Qb) T (mkF m pc Ls []) := by
  obtain ⟨locs, X⟩ := W.stand
  exact W.fin hEL hlk (v := none) (fun q => by first | rfl | (rw [hret] at q; cases q)) hc hs hq fun fs hr => X.returnOut hx hret hd hr
theorem Wk.behind {B : Pt} {rm : Room} {Qb : Option Value → Heap → Prop} {v : Option Value} {locs L : List Loc} (hZ : Z.Warmed39 s.vm) (hown : s.vm.findClass own = some m.cls) (N : Fr n0 locs) (hEn : EL = []) (hKK : True)
    (X : Stand p l e R s m args below meth c B.U B.locs B.cells B.slots) (hq : Qb v B.U.heap ∧ Fr n0 L ∧ Old Z n0 B.U.heap ∧ h.size ≤ B.U.heap.size) (hl : B.locs = locs ++ L) (hc : B.cells = cells + rm.cells) (hs : B.slots = slots + rm.slots) :
    Wk p l e R s m args below meth c Z EL own n0 s.vm B.U B.U.heap (cells + rm.cells) (slots + rm.slots) :=
  ⟨B.locs, rfl, hc ▸ hs ▸ X, rfl, hZ, hown, hl ▸ N.app hq.2.1, hq.2.2.1, hEn, hKK⟩
theorem Wk.callS {y : MethodName} {rm : Room} {as' : Array Value} {Qb : Option Value → Heap → Prop} {bytes : ByteArray} {maxL index : Nat} {ret : Option FieldType} (W : Wk p l e R s m args below meth c Z EL own n0 vm0 T h cells slots) (hx : p.tables.exec = Jvm.exec) (hEL : EW Z a0 EL) (hM : Met l y bytes maxL ret rm Z EL n0 [] as' h Qb)
    (w1 : (Cond.methodLink own index y).before a0 Z = true) (w2 : (Cond.static y).before a0 Z = true) (wz : (Cond.initialized y.cls).before a0 Z = true) (wc : (Cond.code y bytes maxL ret).before a0 Z = true) (hy : y.cls ≠ "java/lang/invoke/MethodHandle" ∧ y.cls ≠ "java/lang/invoke/VarHandle")
    {Wd : Nat} (hf : rm.frames + 1 ≤ R.frames) (hl : Wd + (maxL + 11) + rm.locals ≤ R.locals) (hc : cells + rm.cells ≤ R.cells) (hs : slots + rm.slots ≤ R.slots)
    (hg : g.method = m) (hsize : g.locals.size = c.maxLocals) {argsL rest : List Value} (has : argsL.toArray = as') (hlen : ∀ sig, parseMethodDescriptor y.desc = some sig → argsL.length = sig.parameters.length) (hstack : g.stack = argsL.reverse ++ rest) (hW : 2 * g.monitorRoom + (rest.map fun v => v.category).sum ≤ Wd) (hdg : decode c.code g.pc = .ok (.invokestatic index, 3)) :
    ∃ (v : Option Value) (vm1 : Vm) (T' : State) (h' : Heap), Wk p l e R s m args below meth c Z EL own n0 vm1 T' h' (cells + rm.cells) (slots + rm.slots) ∧ Qb v h' ∧ h.size ≤ h'.size ∧ (∀ x, x < h.size → Safe Z EL vm0 h x → Safe Z EL vm1 h' x) ∧
      Steps p.tables e below (T.setTop g) (T'.setTop { g with pc := g.pc + 3, stack := v.toList ++ rest }) := by
  obtain ⟨locs, rfl, X, eT, hZ, hown, N, O, hEn, hKK⟩ := W
  have hZ' : Z.Warmed39 s.vm := hZ
  have hB := backOf (R := R) (p := p) (e := e) (below := below) (args := args) (len := 3) (W := Wd) (Q := fun v h' L => Qb v h' ∧ Fr n0 L ∧ Old Z n0 h' ∧ h.size ≤ h'.size) hM hZ wc wz hf hl
  obtain ⟨v, vm1, B, -, X', ⟨L, hq, q1, q2, q3⟩, st⟩ := Jvm.LawKit.callS X hx hown (mvT hZ' w1) (mvT hZ' w2) (mvT hZ' wz) (mvT hZ' wc) hy hB hg hsize hlen hstack hW hdg (fun _ _ => ⟨has, eT, hc, hs⟩)
  exact ⟨v, s.vm, B.U, B.U.heap, Wk.behind hZ hown N hEn hKK X' hq q1 q2 q3, hq.1, hq.2.2.2, fun x q r => own_safe0 hEn, st _ (Steps.refl _)⟩
theorem Wk.callI {y : MethodName} {rm : Room} {as' : Array Value} {Qb : Option Value → Heap → Prop} {bytes : ByteArray} {maxL index : Nat} (W : Wk p l e R s m args below meth c Z EL own n0 vm0 T h cells slots) (hx : p.tables.exec = Jvm.exec) (hEL : EW Z a0 EL) (hM : Met l y bytes maxL none rm Z EL n0 [] as' h Qb) (hy1 : y.name = "<init>")
    (w1 : (Cond.methodLink own index y).before a0 Z = true) (w2 : (Cond.instanceMethod y).before a0 Z = true) (wz : (Cond.initialized y.cls).before a0 Z = true) (wc : (Cond.code y bytes maxL none).before a0 Z = true) (hy : y.cls ≠ "java/lang/invoke/MethodHandle" ∧ y.cls ≠ "java/lang/invoke/VarHandle")
    {Wd : Nat} (hf : rm.frames + 1 ≤ R.frames) (hl : Wd + (maxL + 11) + rm.locals ≤ R.locals) (hc : cells + rm.cells ≤ R.cells) (hs : slots + rm.slots ≤ R.slots)
    (hg : g.method = m) (hsize : g.locals.size = c.maxLocals) {a : Addr} {argsL rest : List Value} (has : (.ref a :: argsL).toArray = as') (hlen : ∀ sig, parseMethodDescriptor y.desc = some sig → argsL.length = sig.parameters.length) (hstack : g.stack = argsL.reverse ++ .ref a :: rest) (hW : 2 * g.monitorRoom + (rest.map fun v => v.category).sum ≤ Wd) (hdg : decode c.code g.pc = .ok (.invokespecial index, 3)) :
    ∃ (v : Option Value) (vm1 : Vm) (T' : State) (h' : Heap), Wk p l e R s m args below meth c Z EL own n0 vm1 T' h' (cells + rm.cells) (slots + rm.slots) ∧ Qb v h' ∧ h.size ≤ h'.size ∧ (∀ x, x < h.size → Safe Z EL vm0 h x → Safe Z EL vm1 h' x) ∧
      Steps p.tables e below (T.setTop g) (T'.setTop { g with pc := g.pc + 3, stack := v.toList ++ rest }) := by
  obtain ⟨locs, rfl, X, eT, hZ, hown, N, O, hEn, hKK⟩ := W
  have hZ' : Z.Warmed39 s.vm := hZ
  have hB := backOf (R := R) (p := p) (e := e) (below := below) (args := args) (len := 3) (W := Wd) (Q := fun v h' L => Qb v h' ∧ Fr n0 L ∧ Old Z n0 h' ∧ h.size ≤ h'.size) hM hZ wc wz hf hl
  obtain ⟨v, vm1, B, -, X', ⟨L, hq, q1, q2, q3⟩, st⟩ := Stand.specialBack X hx hy1 hown (mvT hZ' w1) (mvT hZ' w2) (mvT hZ' wc) hy hB hg hsize (Steps.refl _) hlen hstack hW hdg (fun _ _ => ⟨has, eT, hc, hs⟩)
  exact ⟨v, s.vm, B.U, B.U.heap, Wk.behind hZ hown N hEn hKK X' hq q1 q2 q3, hq.1, hq.2.2.2, fun x q r => own_safe0 hEn, st⟩
theorem Wk.callV {y : MethodName} {C : String} {rm : Room} {as' : Array Value} {Qb : Option Value → Heap → Prop} {bytes : ByteArray} {maxL index : Nat} {ret : Option FieldType} (W : Wk p l e R s m args below meth c Z EL own n0 vm0 T h cells slots) (hx : p.tables.exec = Jvm.exec) (hEL : EW Z a0 EL) (hM : Met l y bytes maxL ret rm Z EL n0 [] as' h Qb)
    (w1 : (Cond.methodLink own index y).before a0 Z = true) (w2 : (Cond.declares y).before a0 Z = true) (w3 : (Cond.selects C y y).before a0 Z = true) (w4 : (Cond.instanceMethod y).before a0 Z = true) (wz : (Cond.initialized y.cls).before a0 Z = true) (wc : (Cond.code y bytes maxL ret).before a0 Z = true) (hy : y.cls ≠ "java/lang/invoke/MethodHandle" ∧ y.cls ≠ "java/lang/invoke/VarHandle")
    {Wd : Nat} (hf : rm.frames + 1 ≤ R.frames) (hl : Wd + (maxL + 11) + rm.locals ≤ R.locals) (hc : cells + rm.cells ≤ R.cells) (hs : slots + rm.slots ≤ R.slots)
    (hg : g.method = m) (hsize : g.locals.size = c.maxLocals) {a : Addr} (E : Exa Z h a C) {argsL rest : List Value} (has : (.ref a :: argsL).toArray = as') (hlen : ∀ sig, parseMethodDescriptor y.desc = some sig → argsL.length = sig.parameters.length) (hstack : g.stack = argsL.reverse ++ .ref a :: rest) (hW : 2 * g.monitorRoom + (rest.map fun v => v.category).sum ≤ Wd) (hdg : decode c.code g.pc = .ok (.invokevirtual index, 3)) :
    ∃ (v : Option Value) (vm1 : Vm) (T' : State) (h' : Heap), Wk p l e R s m args below meth c Z EL own n0 vm1 T' h' (cells + rm.cells) (slots + rm.slots) ∧ Qb v h' ∧ h.size ≤ h'.size ∧ (∀ x, x < h.size → Safe Z EL vm0 h x → Safe Z EL vm1 h' x) ∧
      Steps p.tables e below (T.setTop g) (T'.setTop { g with pc := g.pc + 3, stack := v.toList ++ rest }) := by
  obtain ⟨locs, rfl, X, eT, hZ, hown, N, O, hEn, hKK⟩ := W
  have hZ' : Z.Warmed39 s.vm := hZ
  have hB := backOf (R := R) (p := p) (e := e) (below := below) (args := args) (len := 3) (W := Wd) (Q := fun v h' L => Qb v h' ∧ Fr n0 L ∧ Old Z n0 h' ∧ h.size ≤ h'.size) hM hZ wc wz hf hl
  obtain ⟨cB, kB, i1, i2, i3⟩ := isOf (s := s) hZ' eT E
  obtain ⟨v, vm1, B, -, X', ⟨L, hq, q1, q2, q3⟩, st⟩ := Stand.virtualBack X hx hown (mvT hZ' w1) (mvT hZ' w2) (notFace_of_selects (args := #[]) (mvT hZ' w3)) (mvT hZ' w3) (mvT hZ' w4) hy hB i1 i3 hg hsize (Steps.refl _) hlen hstack hW hdg (fun _ _ => ⟨has, eT, hc, hs⟩)
  exact ⟨v, s.vm, B.U, B.U.heap, Wk.behind hZ hown N hEn hKK X' hq q1 q2 q3, hq.1, hq.2.2.2, fun x q r => own_safe0 hEn, st⟩
theorem Wk.callU {y : MethodName} {z : MethodName} {C owner : String} {rm : Room} {as' : Array Value} {Qb : Option Value → Heap → Prop} {bytes : ByteArray} {maxL index : Nat} {ret : Option FieldType} (W : Wk p l e R s m args below meth c Z EL own n0 vm0 T h cells slots) (hx : p.tables.exec = Jvm.exec) (hEL : EW Z a0 EL) (hM : Met l z bytes maxL ret rm Z EL n0 [] as' h Qb)
    (w1 : (Cond.methodLink own index y).before a0 Z = true) (wsm : (Cond.sameMethod y.cls owner y.name y.desc).before a0 Z = true) (w2 : (Cond.declares ⟨owner, y.name, y.desc⟩).before a0 Z = true) (ho : owner ≠ "java/lang/invoke/MethodHandle" ∧ owner ≠ "java/lang/invoke/VarHandle") (w3 : (Cond.selects C y z).before a0 Z = true) (w4 : (Cond.instanceMethod z).before a0 Z = true) (wz : (Cond.initialized z.cls).before a0 Z = true) (wc : (Cond.code z bytes maxL ret).before a0 Z = true)
    {Wd : Nat} (hf : rm.frames + 1 ≤ R.frames) (hl : Wd + (maxL + 11) + rm.locals ≤ R.locals) (hc : cells + rm.cells ≤ R.cells) (hs : slots + rm.slots ≤ R.slots)
    (hg : g.method = m) (hsize : g.locals.size = c.maxLocals) {a : Addr} (E : Exa Z h a C) {argsL rest : List Value} (has : (.ref a :: argsL).toArray = as') (hlen : ∀ sig, parseMethodDescriptor y.desc = some sig → argsL.length = sig.parameters.length) (hstack : g.stack = argsL.reverse ++ .ref a :: rest) (hW : 2 * g.monitorRoom + (rest.map fun v => v.category).sum ≤ Wd) (hdg : decode c.code g.pc = .ok (.invokevirtual index, 3)) :
    ∃ (v : Option Value) (vm1 : Vm) (T' : State) (h' : Heap), Wk p l e R s m args below meth c Z EL own n0 vm1 T' h' (cells + rm.cells) (slots + rm.slots) ∧ Qb v h' ∧ h.size ≤ h'.size ∧ (∀ x, x < h.size → Safe Z EL vm0 h x → Safe Z EL vm1 h' x) ∧
      Steps p.tables e below (T.setTop g) (T'.setTop { g with pc := g.pc + 3, stack := v.toList ++ rest }) := by
  obtain ⟨locs, rfl, X, eT, hZ, hown, N, O, hEn, hKK⟩ := W
  have hZ' : Z.Warmed39 s.vm := hZ
  have hB := backOf (R := R) (p := p) (e := e) (below := below) (args := args) (len := 3) (W := Wd) (Q := fun v h' L => Qb v h' ∧ Fr n0 L ∧ Old Z n0 h' ∧ h.size ≤ h'.size) hM hZ wc wz hf hl
  obtain ⟨cB, kB, i1, i2, i3⟩ := isOf (s := s) hZ' eT E
  obtain ⟨v, vm1, B, -, X', ⟨L, hq, q1, q2, q3⟩, st⟩ := X.virtualBackUp hx hown (mvT hZ' w1) (mvT hZ' wsm) (mvT hZ' w2) ho (mvT hZ' w3) (mvT hZ' w4) hB i1 i3 hg hsize (Steps.refl _) hlen hstack hW hdg (fun _ _ => ⟨has, eT, hc, hs⟩)
  exact ⟨v, s.vm, B.U, B.U.heap, Wk.behind hZ hown N hEn hKK X' hq q1 q2 q3, hq.1, hq.2.2.2, fun x q r => own_safe0 hEn, st⟩
theorem Wk.paySt {y : MethodName} {as' : Array Value} {Qb : Option Value → Heap → List Loc → Prop} {bytes : ByteArray} {maxL : Nat} {ret : Option FieldType} {k n index : Nat} {ws : List Addr} (W : Wk p l e R s m args below meth c Z EL own n0 vm0 T h cells slots) (hx : p.tables.exec = Jvm.exec)
    (w1 : (Cond.methodLink own index y).before a0 Z = true) (w2 : (Cond.static y).before a0 Z = true) (wz : (Cond.initialized y.cls).before a0 Z = true) (wc : (Cond.code y bytes maxL ret).before a0 Z = true) (hy : y.cls ≠ "java/lang/invoke/MethodHandle" ∧ y.cls ≠ "java/lang/invoke/VarHandle")
    {Wd : Nat} (hB : Back l R p e below s args y 3 Wd (fun A a => a = as' ∧ A.U.heap = h ∧ A.cells + k ≤ R.cells ∧ A.slots + n ≤ R.slots) (fun A _ v B => ∃ L, Qb v B.U.heap L ∧ B.locs = A.locs ++ L ∧ B.cells = A.cells + k ∧ B.slots = A.slots + n))
    (hQ : ∀ v h' L, Qb v h' L → Keep h h' ws ∧ Fr n0 L) (sf : ∀ x ∈ ws, Safe Z EL vm0 h x) (sn : ∀ x ∈ ws, n0 ≤ x) (hc : cells + k ≤ R.cells) (hs : slots + n ≤ R.slots)
    (hg : g.method = m) (hsize : g.locals.size = c.maxLocals) {argsL rest : List Value} (has : argsL.toArray = as') (hlen : ∀ sig, parseMethodDescriptor y.desc = some sig → argsL.length = sig.parameters.length) (hstack : g.stack = argsL.reverse ++ rest) (hW : 2 * g.monitorRoom + (rest.map fun v => v.category).sum ≤ Wd) (hdg : decode c.code g.pc = .ok (.invokestatic index, 3)) :
    ∃ (v : Option Value) (T' : State) (h' : Heap) (L : List Loc), Wk p l e R s m args below meth c Z EL own n0 vm0 T' h' (cells + k) (slots + n) ∧ Qb v h' L ∧ h.size ≤ h'.size ∧ (∀ x, x < h.size → Safe Z EL vm0 h x → Safe Z EL vm0 h' x) ∧
      Steps p.tables e below (T.setTop g) (T'.setTop { g with pc := g.pc + 3, stack := v.toList ++ rest }) := by
  obtain ⟨locs, rfl, X, eT, hZ, hown, N, O, hEn, hKK⟩ := W
  have hZ' : Z.Warmed39 s.vm := hZ
  obtain ⟨v, vm1, B, -, X', ⟨L, hq, q1, q2, q3⟩, st⟩ := Jvm.LawKit.callS X hx hown (mvT hZ' w1) (mvT hZ' w2) (mvT hZ' wz) (mvT hZ' wc) hy hB hg hsize hlen hstack hW hdg (fun _ _ => ⟨has, eT, hc, hs⟩)
  obtain ⟨K, NL⟩ := hQ _ _ _ hq
  have W' : Wk p l e R s m args below meth c Z EL own n0 s.vm B.U B.U.heap (cells + k) (slots + n) := ⟨B.locs, rfl, q2 ▸ q3 ▸ X', rfl, hZ, hown, q1 ▸ N.app NL, O.keep K sn, hEn, hKK⟩
  have sf' : ∀ x, x < h.size → Safe Z EL s.vm h x → Safe Z EL s.vm B.U.heap x := fun x _ _ => own_safe0 hEn
  exact ⟨v, B.U, B.U.heap, L, W', hq, K.1, sf', st _ (Steps.refl _)⟩
theorem Wk.paySp {y : MethodName} {as' : Array Value} {Qb : Option Value → Heap → List Loc → Prop} {bytes : ByteArray} {maxL : Nat} {k n index : Nat} {ws : List Addr} (W : Wk p l e R s m args below meth c Z EL own n0 vm0 T h cells slots) (hx : p.tables.exec = Jvm.exec) (hy1 : y.name = "<init>")
    (w1 : (Cond.methodLink own index y).before a0 Z = true) (w2 : (Cond.instanceMethod y).before a0 Z = true) (wc : (Cond.code y bytes maxL none).before a0 Z = true) (hy : y.cls ≠ "java/lang/invoke/MethodHandle" ∧ y.cls ≠ "java/lang/invoke/VarHandle")
    {Wd : Nat} (hB : Back l R p e below s args y 3 Wd (fun A a => a = as' ∧ A.U.heap = h ∧ A.cells + k ≤ R.cells ∧ A.slots + n ≤ R.slots) (fun A _ v B => ∃ L, Qb v B.U.heap L ∧ B.locs = A.locs ++ L ∧ B.cells = A.cells + k ∧ B.slots = A.slots + n))
    (hQ : ∀ v h' L, Qb v h' L → Keep h h' ws ∧ Fr n0 L) (sf : ∀ x ∈ ws, Safe Z EL vm0 h x) (sn : ∀ x ∈ ws, n0 ≤ x) (hc : cells + k ≤ R.cells) (hs : slots + n ≤ R.slots)
    (hg : g.method = m) (hsize : g.locals.size = c.maxLocals) {a : Addr} {argsL rest : List Value} (has : (.ref a :: argsL).toArray = as') (hlen : ∀ sig, parseMethodDescriptor y.desc = some sig → argsL.length = sig.parameters.length) (hstack : g.stack = argsL.reverse ++ .ref a :: rest) (hW : 2 * g.monitorRoom + (rest.map fun v => v.category).sum ≤ Wd) (hdg : decode c.code g.pc = .ok (.invokespecial index, 3)) :
    ∃ (v : Option Value) (T' : State) (h' : Heap) (L : List Loc), Wk p l e R s m args below meth c Z EL own n0 vm0 T' h' (cells + k) (slots + n) ∧ Qb v h' L ∧ h.size ≤ h'.size ∧ (∀ x, x < h.size → Safe Z EL vm0 h x → Safe Z EL vm0 h' x) ∧
      Steps p.tables e below (T.setTop g) (T'.setTop { g with pc := g.pc + 3, stack := v.toList ++ rest }) := by
  obtain ⟨locs, rfl, X, eT, hZ, hown, N, O, hEn, hKK⟩ := W
  have hZ' : Z.Warmed39 s.vm := hZ
  obtain ⟨v, vm1, B, -, X', ⟨L, hq, q1, q2, q3⟩, st⟩ := Stand.specialBack X hx hy1 hown (mvT hZ' w1) (mvT hZ' w2) (mvT hZ' wc) hy hB hg hsize (Steps.refl _) hlen hstack hW hdg (fun _ _ => ⟨has, eT, hc, hs⟩)
  obtain ⟨K, NL⟩ := hQ _ _ _ hq
  have W' : Wk p l e R s m args below meth c Z EL own n0 s.vm B.U B.U.heap (cells + k) (slots + n) := ⟨B.locs, rfl, q2 ▸ q3 ▸ X', rfl, hZ, hown, q1 ▸ N.app NL, O.keep K sn, hEn, hKK⟩
  have sf' : ∀ x, x < h.size → Safe Z EL s.vm h x → Safe Z EL s.vm B.U.heap x := fun x _ _ => own_safe0 hEn
  exact ⟨v, B.U, B.U.heap, L, W', hq, K.1, sf', st⟩
theorem Wk.payVi {y : MethodName} {C : String} {as' : Array Value} {Qb : Option Value → Heap → List Loc → Prop} {k n index : Nat} {ws : List Addr} (W : Wk p l e R s m args below meth c Z EL own n0 vm0 T h cells slots) (hx : p.tables.exec = Jvm.exec)
    (w1 : (Cond.methodLink own index y).before a0 Z = true) (w2 : (Cond.declares y).before a0 Z = true) (w3 : (Cond.selects C y y).before a0 Z = true) (w4 : (Cond.instanceMethod y).before a0 Z = true) (hy : y.cls ≠ "java/lang/invoke/MethodHandle" ∧ y.cls ≠ "java/lang/invoke/VarHandle")
    {Wd : Nat} (hB : Back l R p e below s args y 3 Wd (fun A a => a = as' ∧ A.U.heap = h ∧ A.cells + k ≤ R.cells ∧ A.slots + n ≤ R.slots) (fun A _ v B => ∃ L, Qb v B.U.heap L ∧ B.locs = A.locs ++ L ∧ B.cells = A.cells + k ∧ B.slots = A.slots + n))
    (hQ : ∀ v h' L, Qb v h' L → Keep h h' ws ∧ Fr n0 L) (sf : ∀ x ∈ ws, Safe Z EL vm0 h x) (sn : ∀ x ∈ ws, n0 ≤ x) (hc : cells + k ≤ R.cells) (hs : slots + n ≤ R.slots)
    (hg : g.method = m) (hsize : g.locals.size = c.maxLocals) {a : Addr} (E : Exa Z h a C) {argsL rest : List Value} (has : (.ref a :: argsL).toArray = as') (hlen : ∀ sig, parseMethodDescriptor y.desc = some sig → argsL.length = sig.parameters.length) (hstack : g.stack = argsL.reverse ++ .ref a :: rest) (hW : 2 * g.monitorRoom + (rest.map fun v => v.category).sum ≤ Wd) (hdg : decode c.code g.pc = .ok (.invokevirtual index, 3)) :
    ∃ (v : Option Value) (T' : State) (h' : Heap) (L : List Loc), Wk p l e R s m args below meth c Z EL own n0 vm0 T' h' (cells + k) (slots + n) ∧ Qb v h' L ∧ h.size ≤ h'.size ∧ (∀ x, x < h.size → Safe Z EL vm0 h x → Safe Z EL vm0 h' x) ∧
      Steps p.tables e below (T.setTop g) (T'.setTop { g with pc := g.pc + 3, stack := v.toList ++ rest }) := by
  obtain ⟨locs, rfl, X, eT, hZ, hown, N, O, hEn, hKK⟩ := W
  have hZ' : Z.Warmed39 s.vm := hZ
  obtain ⟨cB, kB, i1, i2, i3⟩ := isOf (s := s) hZ' eT E
  obtain ⟨v, vm1, B, -, X', ⟨L, hq, q1, q2, q3⟩, st⟩ := Stand.virtualBack X hx hown (mvT hZ' w1) (mvT hZ' w2) (notFace_of_selects (args := #[]) (mvT hZ' w3)) (mvT hZ' w3) (mvT hZ' w4) hy hB i1 i3 hg hsize (Steps.refl _) hlen hstack hW hdg (fun _ _ => ⟨has, eT, hc, hs⟩)
  obtain ⟨K, NL⟩ := hQ _ _ _ hq
  have W' : Wk p l e R s m args below meth c Z EL own n0 s.vm B.U B.U.heap (cells + k) (slots + n) := ⟨B.locs, rfl, q2 ▸ q3 ▸ X', rfl, hZ, hown, q1 ▸ N.app NL, O.keep K sn, hEn, hKK⟩
  have sf' : ∀ x, x < h.size → Safe Z EL s.vm h x → Safe Z EL s.vm B.U.heap x := fun x _ _ => own_safe0 hEn
  exact ⟨v, B.U, B.U.heap, L, W', hq, K.1, sf', st⟩
theorem Wk.payUp {y z : MethodName} {C owner : String} {as' : Array Value} {Qb : Option Value → Heap → List Loc → Prop} {k n index : Nat} {ws : List Addr} (W : Wk p l e R s m args below meth c Z EL own n0 vm0 T h cells slots) (hx : p.tables.exec = Jvm.exec)
    (w1 : (Cond.methodLink own index y).before a0 Z = true) (wsm : (Cond.sameMethod y.cls owner y.name y.desc).before a0 Z = true) (w2 : (Cond.declares ⟨owner, y.name, y.desc⟩).before a0 Z = true) (ho : owner ≠ "java/lang/invoke/MethodHandle" ∧ owner ≠ "java/lang/invoke/VarHandle") (w3 : (Cond.selects C y z).before a0 Z = true) (w4 : (Cond.instanceMethod z).before a0 Z = true) (hy : y.cls ≠ "java/lang/invoke/MethodHandle" ∧ y.cls ≠ "java/lang/invoke/VarHandle")
    {Wd : Nat} (hB : Back l R p e below s args z 3 Wd (fun A a => a = as' ∧ A.U.heap = h ∧ A.cells + k ≤ R.cells ∧ A.slots + n ≤ R.slots) (fun A _ v B => ∃ L, Qb v B.U.heap L ∧ B.locs = A.locs ++ L ∧ B.cells = A.cells + k ∧ B.slots = A.slots + n))
    (hQ : ∀ v h' L, Qb v h' L → Keep h h' ws ∧ Fr n0 L) (sf : ∀ x ∈ ws, Safe Z EL vm0 h x) (sn : ∀ x ∈ ws, n0 ≤ x) (hc : cells + k ≤ R.cells) (hs : slots + n ≤ R.slots)
    (hg : g.method = m) (hsize : g.locals.size = c.maxLocals) {a : Addr} (E : Exa Z h a C) {argsL rest : List Value} (has : (.ref a :: argsL).toArray = as') (hlen : ∀ sig, parseMethodDescriptor y.desc = some sig → argsL.length = sig.parameters.length) (hstack : g.stack = argsL.reverse ++ .ref a :: rest) (hW : 2 * g.monitorRoom + (rest.map fun v => v.category).sum ≤ Wd) (hdg : decode c.code g.pc = .ok (.invokevirtual index, 3)) :
    ∃ (v : Option Value) (T' : State) (h' : Heap) (L : List Loc), Wk p l e R s m args below meth c Z EL own n0 vm0 T' h' (cells + k) (slots + n) ∧ Qb v h' L ∧ h.size ≤ h'.size ∧ (∀ x, x < h.size → Safe Z EL vm0 h x → Safe Z EL vm0 h' x) ∧
      Steps p.tables e below (T.setTop g) (T'.setTop { g with pc := g.pc + 3, stack := v.toList ++ rest }) := by
  obtain ⟨locs, rfl, X, eT, hZ, hown, N, O, hEn, hKK⟩ := W
  have hZ' : Z.Warmed39 s.vm := hZ
  obtain ⟨cB, kB, i1, i2, i3⟩ := isOf (s := s) hZ' eT E
  obtain ⟨v, vm1, B, -, X', ⟨L, hq, q1, q2, q3⟩, st⟩ := X.virtualBackUp hx hown (mvT hZ' w1) (mvT hZ' wsm) (mvT hZ' w2) ho (mvT hZ' w3) (mvT hZ' w4) hB i1 i3 hg hsize (Steps.refl _) hlen hstack hW hdg (fun _ _ => ⟨has, eT, hc, hs⟩)
  obtain ⟨K, NL⟩ := hQ _ _ _ hq
  have W' : Wk p l e R s m args below meth c Z EL own n0 s.vm B.U B.U.heap (cells + k) (slots + n) := ⟨B.locs, rfl, q2 ▸ q3 ▸ X', rfl, hZ, hown, q1 ▸ N.app NL, O.keep K sn, hEn, hKK⟩
  have sf' : ∀ x, x < h.size → Safe Z EL s.vm h x → Safe Z EL s.vm B.U.heap x := fun x _ _ => own_safe0 hEn
  exact ⟨v, B.U, B.U.heap, L, W', hq, K.1, sf', st⟩
theorem Wk.len (W : Wk p l e R s m args below meth c Z EL own n0 vm0 T h cells slots) (hx : p.tables.exec = Jvm.exec) {a : Addr} {k : ClassId} {ty : FieldType} {z : Int32} {vs : List Value} {d : Value} (A : Arv Z h a k ty z vs d)
    (hg : g.method = m) {rest : List Value} (hs : g.stack = .ref a :: rest) (hd : decode c.code g.pc = .ok (.arraylength, 1)) :
    ∀ target, Steps p.tables e below (T.setTop { g with pc := g.pc + 1, stack := .int z :: rest }) target → Steps p.tables e below (T.setTop g) target := fun target k => by
  obtain ⟨locs, X⟩ := W.stand
  obtain ⟨cl, A1, q1, q2, q3, -⟩ := A
  refine X.arraylength hx (by rw [W.heap]; exact A1.1) (State.isArrayOf_alike W.warmS.alike A1.2.1) (g := g) hg hs hd _ ?_
  rw [len_of q2 q3]; exact k
theorem Wk.ldC (W : Wk p l e R s m args below meth c Z EL own n0 vm0 T h cells slots) (hx : p.tables.exec = Jvm.exec) {a : Addr} {k : ClassId} {z j : Int32} {vs : List Value} {d : Value} (A : Arv Z h a k .char z vs d) (hj : ¬ j < 0 ∧ j < z) {v : Value} (hv : vs.getD j.toNatClampNeg d = v)
    (hg : g.method = m) {rest : List Value} (hs : g.stack = .int j :: .ref a :: rest) (hd : decode c.code g.pc = .ok (.caload, 1)) :
    ∀ target, Steps p.tables e below (T.setTop { g with pc := g.pc + 1, stack := v :: rest }) target → Steps p.tables e below (T.setTop g) target := fun target k => by
  obtain ⟨locs, X⟩ := W.stand
  obtain ⟨cl, A1, q1, q2, q3, q4, -⟩ := A
  exact X.caload hx (by rw [W.heap]; exact A1.1) (State.isArrayOf_alike W.warmS.alike A1.2.1) A1.2.2 (inb_of q2 hj) (q4.at (inb_of q2 hj) hv) hg hs hd _ k
theorem Wk.ldB (W : Wk p l e R s m args below meth c Z EL own n0 vm0 T h cells slots) (hx : p.tables.exec = Jvm.exec) {a : Addr} {k : ClassId} {z j : Int32} {vs : List Value} {d : Value} (A : Arv Z h a k .byte z vs d) (hj : ¬ j < 0 ∧ j < z) {v : Value} (hv : vs.getD j.toNatClampNeg d = v)
    (hg : g.method = m) {rest : List Value} (hs : g.stack = .int j :: .ref a :: rest) (hd : decode c.code g.pc = .ok (.baload, 1)) :
    ∀ target, Steps p.tables e below (T.setTop { g with pc := g.pc + 1, stack := v :: rest }) target → Steps p.tables e below (T.setTop g) target := fun target k => by
  obtain ⟨locs, X⟩ := W.stand
  obtain ⟨cl, A1, q1, q2, q3, q4, -⟩ := A
  exact X.baloadBytes hx (by rw [W.heap]; exact A1.1) (State.isArrayOf_alike W.warmS.alike A1.2.1) A1.2.2 (inb_of q2 hj) (q4.at (inb_of q2 hj) hv) hg hs hd _ k
theorem Wk.ldI (W : Wk p l e R s m args below meth c Z EL own n0 vm0 T h cells slots) (hx : p.tables.exec = Jvm.exec) {a : Addr} {k : ClassId} {z j : Int32} {vs : List Value} {d : Value} (A : Arv Z h a k .int z vs d) (hj : ¬ j < 0 ∧ j < z) {v : Value} (hv : vs.getD j.toNatClampNeg d = v)
    (hg : g.method = m) {rest : List Value} (hs : g.stack = .int j :: .ref a :: rest) (hd : decode c.code g.pc = .ok (.iaload, 1)) :
    ∀ target, Steps p.tables e below (T.setTop { g with pc := g.pc + 1, stack := v :: rest }) target → Steps p.tables e below (T.setTop g) target := fun target k => by
  obtain ⟨locs, X⟩ := W.stand
  obtain ⟨cl, A1, q1, q2, q3, q4, -⟩ := A
  exact X.iaload hx (by rw [W.heap]; exact A1.1) (State.isArrayOf_alike W.warmS.alike A1.2.1) A1.2.2 (inb_of q2 hj) (q4.at (inb_of q2 hj) hv) hg hs hd _ k
theorem Wk.ldD (W : Wk p l e R s m args below meth c Z EL own n0 vm0 T h cells slots) (hx : p.tables.exec = Jvm.exec) {a : Addr} {k : ClassId} {z j : Int32} {vs : List Value} {d : Value} (A : Arv Z h a k .double z vs d) (hj : ¬ j < 0 ∧ j < z) {v : Value} (hv : vs.getD j.toNatClampNeg d = v)
    (hg : g.method = m) {rest : List Value} (hs : g.stack = .int j :: .ref a :: rest) (hd : decode c.code g.pc = .ok (.daload, 1)) :
    ∀ target, Steps p.tables e below (T.setTop { g with pc := g.pc + 1, stack := v :: rest }) target → Steps p.tables e below (T.setTop g) target := fun target k => by
  obtain ⟨locs, X⟩ := W.stand
  obtain ⟨cl, A1, q1, q2, q3, q4, -⟩ := A
  exact X.daload hx (by rw [W.heap]; exact A1.1) (State.isArrayOf_alike W.warmS.alike A1.2.1) A1.2.2 (inb_of q2 hj) (q4.at (inb_of q2 hj) hv) hg hs hd _ k
theorem Wk.ldA (W : Wk p l e R s m args below meth c Z EL own n0 vm0 T h cells slots) (hx : p.tables.exec = Jvm.exec) {a : Addr} {k : ClassId} {ty : FieldType} {z j : Int32} {vs : List Value} {d : Value} (A : Arv Z h a k ty z vs d) (hty : ty.isReference = true) (hj : ¬ j < 0 ∧ j < z) {v : Value} (hv : vs.getD j.toNatClampNeg d = v)
    (hg : g.method = m) {rest : List Value} (hs : g.stack = .int j :: .ref a :: rest) (hd : decode c.code g.pc = .ok (.aaload, 1)) :
    ∀ target, Steps p.tables e below (T.setTop { g with pc := g.pc + 1, stack := v :: rest }) target → Steps p.tables e below (T.setTop g) target := fun target k => by
  obtain ⟨locs, X⟩ := W.stand
  obtain ⟨cl, A1, q1, q2, q3, q4, -⟩ := A
  exact X.aaload hx (by rw [W.heap]; exact A1.1) (State.isArrayOf_alike W.warmS.alike A1.2.1) hty A1.2.2 (inb_of q2 hj) (q4.at (inb_of q2 hj) hv) hg hs hd _ k
theorem Wk.clone (W : Wk p l e R s m args below meth c Z EL own n0 vm0 T h cells slots) (hx : p.tables.exec = Jvm.exec) {ad : String} {index : Nat} (w1 : (Cond.methodLink own index ⟨ad, "clone", "()Ljava/lang/Object;"⟩).before a0 Z = true) (w2 : (Cond.sameMethod ad "java/lang/Object" "clone" "()Ljava/lang/Object;").before a0 Z = true) (w3 : (Cond.native ⟨"java/lang/Object", "clone", "()Ljava/lang/Object;"⟩).before a0 Z = true)
    (w4 : (Cond.instanceMethod ⟨"java/lang/Object", "clone", "()Ljava/lang/Object;"⟩).before a0 Z = true) (w5 : (Cond.selects ad ⟨ad, "clone", "()Ljava/lang/Object;"⟩ ⟨"java/lang/Object", "clone", "()Ljava/lang/Object;"⟩).before a0 Z = true) (w6 : (Cond.castable ad "java/lang/Cloneable").before a0 Z = true)
    {a : Addr} {k : ClassId} {ty : FieldType} {z : Int32} {vs : List Value} {dv : Value} (F : Arv Z h a k ty z vs dv) (E : Exa Z h a ad) (hg : g.method = m) (hsize : g.locals.size = c.maxLocals) {rest : List Value} (hst : g.stack = .ref a :: rest) (hd : decode c.code g.pc = .ok (.invokevirtual index, 3))
    (hf : 1 ≤ R.frames) {Wd cap : Nat} (hW : 2 * g.monitorRoom + (rest.map fun v => v.category).sum ≤ Wd) (hl : Wd + 14 ≤ R.locals) (hcap : z.toNatClampNeg ≤ cap) (hc : cells + 1 ≤ R.cells) (hsl : slots + cap ≤ R.slots) :
    ∃ T' h' b, b = h.size ∧ Wk p l e R s m args below meth c Z EL own n0 vm0 T' h' (cells + 1) (slots + cap) ∧ Ext h h' ∧ h.size < h'.size ∧ Arv Z h' b k ty z vs dv ∧ Exa Z h' b ad ∧ Safe Z EL vm0 h' b ∧ (∀ x, x < h.size → Safe Z EL vm0 h x → Safe Z EL vm0 h' x) ∧
      ∀ target, Steps p.tables e below (T'.setTop { g with pc := g.pc + 3, stack := .ref b :: rest }) target → Steps p.tables e below (T.setTop g) target := by
  obtain ⟨locs, rfl, X, eT, hZ, hown, N, O, hEn, hKK⟩ := W
  obtain ⟨T', h', X', e', E1, A, E2, st⟩ := RoadKit.cloneH X hx hZ hown w1 w2 w3 w4 w5 w6 eT F.arh E hg hsize hst hd hf hW hl hcap hc hsl
  exact ⟨T', h', h.size, rfl, ⟨_, rfl, X', e', hZ, hown, N, O.ext E1, hEn, hKK⟩, E1, E2.lt, A, E2, own_safe0 hEn, fun x _ q => own_safe0 hEn, st⟩
/-- System.arraycopy between arrays of one primitive kind -/
theorem Wk.copy (W : Wk p l e R s m args below meth c Z EL own n0 vm0 T h cells slots) (hx : p.tables.exec = Jvm.exec) {index : Nat} (w1 : (Cond.methodLink own index Jvm.Stand.acN).before a0 Z = true) (w2 : (Cond.native Jvm.Stand.acN).before a0 Z = true) (w3 : (Cond.static Jvm.Stand.acN).before a0 Z = true) (w4 : (Cond.initialized "java/lang/System").before a0 Z = true)
    {a b : Addr} {k k' : ClassId} {ty : FieldType} {z z' sp dp nn : Int32} {vs vd : List Value} (us : List Value) {dv dd : Value} (A : Arv Z h a k ty z vs dv) (B : Arv Z h b k' ty z' vd dd) (hty : refKind ty = false)
    (h1 : ¬ sp < 0) (h2 : ¬ dp < 0) (h3 : ¬ nn < 0) (h4 : sp.toNatClampNeg + nn.toNatClampNeg ≤ z.toNatClampNeg) (h5 : dp.toNatClampNeg + nn.toNatClampNeg ≤ z'.toNatClampNeg)
    (hus : us = (List.range nn.toNatClampNeg).map fun i => vs.getD (sp.toNatClampNeg + i) dv) (hl : dp.toNatClampNeg + nn.toNatClampNeg ≤ vd.length) (S : Safe Z EL vm0 h b) (ge : n0 ≤ b)
    (hg : g.method = m) (hsize : g.locals.size = c.maxLocals) {rest : List Value} (hs : g.stack = .int nn :: .int dp :: .ref b :: .int sp :: .ref a :: rest) (hd : decode c.code g.pc = .ok (.invokestatic index, 3))
    (hf : 1 ≤ R.frames) {Wd : Nat} (hW : 2 * g.monitorRoom + (rest.map fun v => v.category).sum ≤ Wd) (hlo : Wd + 18 ≤ R.locals) :
    ∃ T' h', Wk p l e R s m args below meth c Z EL own n0 vm0 T' h' cells slots ∧ Keep h h' [b] ∧ h.size ≤ h'.size ∧ Arv Z h' b k' ty z' (vd.take dp.toNatClampNeg ++ us ++ vd.drop (dp.toNatClampNeg + nn.toNatClampNeg)) dd ∧ (∀ x, x < h.size → Safe Z EL vm0 h x → Safe Z EL vm0 h' x) ∧
      ∀ target, Steps p.tables e below (T'.setTop { g with pc := g.pc + 3, stack := rest }) target → Steps p.tables e below (T.setTop g) target := by
  obtain ⟨locs, rfl, X, eT, hZ, hown, N, O, hEn, hKK⟩ := W
  obtain ⟨T', h', L, X', e', N', KK, A', st⟩ := RoadKit.cpA X hx hZ hown w1 w2 w3 w4 eT A B (Or.inl ⟨rfl, hty⟩) h1 h2 h3 h4 h5 hus hl N ge hg hsize hs hd hf hW hlo
  exact ⟨T', h', ⟨_, rfl, X', e', hZ, hown, N', O.keep KK (allS ge all0), hEn, hKK⟩, KK, KK.1, A', fun x _ q => own_safe0 hEn, st⟩
theorem Wk.ldcJ (W : Wk p l e R s m args below meth c Z EL own n0 vm0 T h cells slots) (hx : p.tables.exec = Jvm.exec) {index : Nat} {v : Int64} (w : (Cond.constantLong own index v).before a0 Z = true) (hg : g.method = m) (hd : decode c.code g.pc = .ok (.ldc2_w index, 3)) :
    ∀ target, Steps p.tables e below (T.setTop { g with pc := g.pc + 3, stack := .long v :: g.stack }) target → Steps p.tables e below (T.setTop g) target := by
  obtain ⟨locs, X⟩ := W.stand
  exact X.ldc2Long hx W.owns (mvT W.warmS w) hg hd
theorem Wk.ldcD (W : Wk p l e R s m args below meth c Z EL own n0 vm0 T h cells slots) (hx : p.tables.exec = Jvm.exec) {index : Nat} {v : UInt64} (w : (Cond.constantDouble own index v).before a0 Z = true) (hg : g.method = m) (hd : decode c.code g.pc = .ok (.ldc2_w index, 3)) :
    ∀ target, Steps p.tables e below (T.setTop { g with pc := g.pc + 3, stack := .double v :: g.stack }) target → Steps p.tables e below (T.setTop g) target := by
  obtain ⟨locs, X⟩ := W.stand
  exact X.ldc2DoubleC hx W.owns (mvT W.warmS w) hg hd
theorem Go.lem {J : (Outcome → State → Prop) → Prop} (h1 : J Q) (h2 : J Q → Go p e below Q T g) : Go p e below Q T g := h2 h1
abbrev WkAt (W : Wk p l e R s m args below meth c Z EL own n0 vm0 T h cells slots) (vm' : Vm) (T' : State) : Prop := Wk p l e R s m args below meth c Z EL own n0 vm' T' h cells slots
theorem Go.join {α : Type} {f : α → JFrame} (hb : (∀ y, Go p e below Q T (f y)) → Go p e below Q T g) (k : ∀ y, Go p e below Q T (f y)) : Go p e below Q T g := hb k
theorem Wk.ldcI (W : Wk p l e R s m args below meth c Z EL own n0 vm0 T h cells slots) (hx : p.tables.exec = Jvm.exec) {index : Nat} {v : Int32} (w : (Cond.constant own index v).before a0 Z = true) (hg : g.method = m) (hd : decode c.code g.pc = .ok (.ldc index, 2)) :
    ∀ target, Steps p.tables e below (T.setTop { g with pc := g.pc + 2, stack := .int v :: g.stack }) target → Steps p.tables e below (T.setTop g) target := by
  obtain ⟨locs, X⟩ := W.stand
  exact X.ldcInt hx W.owns (mvT W.warmS w) hg hd
theorem Wk.acmp {target : State} (W : Wk p l e R s m args below meth c Z EL own n0 vm0 T h cells slots) (hx : p.tables.exec = Jvm.exec) (hg : g.method = m) {cd : ACond} {x y : Value} (h1 : x.isRef = true) (h2 : y.isRef = true) {rest : List Value} {o : Int} {pc0 pc' : Nat} {same : Bool} (hpc : g.pc = pc0)
    (hd : decode c.code g.pc = .ok (.if_acmp cd o, 3)) (hs : g.stack = y :: x :: rest) (hq : decide (x = y) = same) (ho : 0 ≤ (pc0 : Int) + o) (hp : pc' = if acV cd same = true then ((pc0 : Int) + o).toNat else pc0 + 3)
    (hr : Steps p.tables e below (T.setTop { g with pc := pc', stack := rest }) target) : Steps p.tables e below (T.setTop g) target := by
  obtain ⟨locs, X⟩ := W.stand
  exact RoadKit.acmp X hx hg h1 h2 hpc hd hs hq ho hp hr
theorem Wk.irem {target : State} (W : Wk p l e R s m args below meth c Z EL own n0 vm0 T h cells slots) (hx : p.tables.exec = Jvm.exec) (hg : g.method = m) {x y : Int32} {rest : List Value} (hd : decode c.code g.pc = .ok (.irem, 1)) (hs : g.stack = .int y :: .int x :: rest) (hy : y ≠ 0)
    (hr : Steps p.tables e below (T.setTop { g with pc := g.pc + 1, stack := .int (x % y) :: rest }) target) : Steps p.tables e below (T.setTop g) target := by
  obtain ⟨locs, X⟩ := W.stand
  exact RoadKit.iremM X hx hg hd hs hy hr
theorem Wk.rawJ (W : Wk p l e R s m args below meth c Z EL own n0 vm0 T h cells slots) (hx : p.tables.exec = Jvm.exec) {index : Nat} (w1 : (Cond.methodLink own index doubleToRawLongBitsName).before a0 Z = true) (w2 : (Cond.native doubleToRawLongBitsName).before a0 Z = true) (w3 : (Cond.static doubleToRawLongBitsName).before a0 Z = true) (w4 : (Cond.initialized "java/lang/Double").before a0 Z = true) {b : UInt64}
    (hg : g.method = m) (hsize : g.locals.size = c.maxLocals) {rest : List Value} (hs : g.stack = .double b :: rest) (hd : decode c.code g.pc = .ok (.invokestatic index, 3)) (hf : 1 ≤ R.frames) {Wd : Nat} (hW : 2 * g.monitorRoom + (rest.map fun v => v.category).sum ≤ Wd) (hl : Wd + 15 ≤ R.locals) :
    ∃ T', Wk p l e R s m args below meth c Z EL own n0 vm0 T' h cells slots ∧ ∀ target, Steps p.tables e below (T'.setTop { g with pc := g.pc + 3, stack := .long b.toInt64 :: rest }) target → Steps p.tables e below (T.setTop g) target := by
  obtain ⟨locs, rfl, X, eT, hZ, hown, N, O', hEn, hKK⟩ := W
  have e4 : nativeFrameWords "java/lang/Double" "doubleToRawLongBits" 2 = 4 := by decide
  obtain ⟨vm', X', st⟩ := X.doubleToRawLongBits hx hown (mvT hZ w1) (mvT hZ w2) (mvT hZ w3) (mvT hZ w4) hg hsize hs hd hf (by rw [e4]; omega)
  exact ⟨T.setVm vm', ⟨_, rfl, X', eT, hZ, hown, N, O', hEn, hKK⟩, st⟩
theorem Wk.rawI (W : Wk p l e R s m args below meth c Z EL own n0 vm0 T h cells slots) (hx : p.tables.exec = Jvm.exec) {index : Nat} (w1 : (Cond.methodLink own index floatToRawIntBitsName).before a0 Z = true) (w2 : (Cond.native floatToRawIntBitsName).before a0 Z = true) (w3 : (Cond.static floatToRawIntBitsName).before a0 Z = true) (w4 : (Cond.initialized "java/lang/Float").before a0 Z = true) {b : UInt32}
    (hg : g.method = m) (hsize : g.locals.size = c.maxLocals) {rest : List Value} (hs : g.stack = .float b :: rest) (hd : decode c.code g.pc = .ok (.invokestatic index, 3)) (hf : 1 ≤ R.frames) {Wd : Nat} (hW : 2 * g.monitorRoom + (rest.map fun v => v.category).sum ≤ Wd) (hl : Wd + 15 ≤ R.locals) :
    ∃ T', Wk p l e R s m args below meth c Z EL own n0 vm0 T' h cells slots ∧ ∀ target, Steps p.tables e below (T'.setTop { g with pc := g.pc + 3, stack := .int b.toInt32 :: rest }) target → Steps p.tables e below (T.setTop g) target := by
  obtain ⟨locs, rfl, X, eT, hZ, hown, N, O', hEn, hKK⟩ := W
  have e4 : nativeFrameWords "java/lang/Float" "floatToRawIntBits" 1 = 3 := by decide
  obtain ⟨vm', X', st⟩ := X.floatToRawIntBits hx hown (mvT hZ w1) (mvT hZ w2) (mvT hZ w3) (mvT hZ w4) hg hsize hs hd hf (by rw [e4]; omega)
  exact ⟨T.setVm vm', ⟨_, rfl, X', eT, hZ, hown, N, O', hEn, hKK⟩, st⟩
end OwnKit
end Jvm.Pilot.@@N@@
namespace Jvm.Pilot.@@N@@
open Jvm Jvm.ClassFile Sem Op Lib Jvm.Free Jvm.Stand Jvm.LawKit Jvm.RoadKit Bundle Jvm.Pilot.@@N@@.Jvm.D
section OwnKit2
variable {p : Program} {l : Launch} {e : Env} {R : Room} {s : State} {m : MethodId} {args : Array Value} {below : List Frame} {meth : Method} {c : Code} {T T' : State} {cells slots : Nat} {Z : State} {a0 : Array Value} {EL : List (String × Nat)} {vm0 : Vm} {h h' : Heap} {own : String} {n0 : Nat} {Q : Outcome → State → Prop} {g g' : JFrame}
theorem own_fitsR {v : Value} {C : String} (h : v.isRef = true) : fits (.object C) v = true := by cases v <;> simp [Value.isRef, fits] at h ⊢
theorem own_fitsA {v : Value} {t : FieldType} (h : v.isRef = true) : fits (.array t) v = true := by cases v <;> simp [Value.isRef, fits] at h ⊢
/-- a String whose value is null yet is no booked constant -/
theorem own_safe_blank {x : Addr} {vm : Vm} (hal : Z.vm.Alike vm) (E : Exa Z h x "java/lang/String") (F : Fld Z h x "java/lang/String" "value" "[B" .null) : Safe Z EL vm h x := fun B => by
  obtain ⟨pe, -, u, a, -, q, -, F', rfl | rfl⟩ := B
  · obtain ⟨cell, cf, k, i, f, f1, f2, f3, f4, f5, f6, f7⟩ := F
    obtain ⟨cS, ⟨⟨s1, s2, s3, ⟨c1, k1, i1, g1, -⟩, -, s6, s7, v1, -⟩, -⟩, -⟩ := F'
    obtain ⟨k3, e3, -⟩ := State.fieldFound?_setVm (s := Z) hal f2
    have e4 := (show (Wst Z vm h).fieldFound? _ _ _ = _ from e3).symm.trans g1
    simp only [Option.some.injEq, Prod.mk.injEq] at e4
    cases (show h[q.sa]? = some q.sC from s1).symm.trans f1
    rw [← e4.2.2.2, f7] at v1
    cases v1
  · obtain ⟨cell, k, e1, e2, e3, -, -⟩ := E
    have hd := F'.hd
    obtain ⟨cS, -, -, f, -⟩ := F'
    cases (show h[q.sd]? = some q.SA from hd).symm.trans e1
    have f' : vm.findClass "[B" = some q.SA.cls := f
    rw [hal.findClass] at f'
    obtain ⟨k1, q1, q2⟩ := Vm.findClass_spec f'
    obtain ⟨k2, q3, q4⟩ := Vm.findClass_spec e2
    cases q1.symm.trans q3
    have := q2.symm.trans q4
    exact absurd this (by decide)
end OwnKit2
end Jvm.Pilot.@@N@@
namespace Jvm.Pilot.@@N@@
open Jvm Jvm.ClassFile Sem Op Lib Jvm.Free Jvm.Stand Jvm.LawKit Jvm.RoadKit Bundle Jvm.Pilot.@@N@@.Jvm.D
/-- what every walk of this claim rests on -/
def Ctx (Z : State) (a0 : Array Value) : Prop := (∀ d ∈ tables_1, d.before a0 Z = true) ∧ True
abbrev consts_1 : List (String × Nat) := []
theorem own_EW {Z : State} {a0 : Array Value} (hw : ∀ d ∈ tables_1, d.before a0 Z = true) : EW Z a0 consts_1 := EW.nil
theorem own_eqI {args : Array Value} {s : State} {t : Term} {n : Int32} (h : (Jvm.Cond.eq t (Jvm.Term.int n)).value args s none s [] = some true) : t.eval args s none [] s = some (.int n) := by
  obtain ⟨x, y, e1, e2, k1, k2⟩ := cmp_v (Or.inl h)
  rw [Term.int_eval] at e2
  cases e2
  obtain ⟨z, rfl⟩ := k2
  have q := gotT (Cond.eq_ints e1 (Term.int_eval n)) h
  rw [e1, q]
theorem own_eqJ {args : Array Value} {s : State} {t : Term} {n : Int64} (h : (Jvm.Cond.eq t (Jvm.Term.long n)).value args s none s [] = some true) : t.eval args s none [] s = some (.long n) := by
  obtain ⟨x, y, e1, e2, k1, k2⟩ := cmp_v (Or.inl h)
  have e3 : (Jvm.Term.long n).eval args s none [] s = some (.long n) := rfl
  rw [e3] at e2
  cases e2
  obtain ⟨z, rfl⟩ := k2
  have q := gotT (eq_L e1 e3) h
  rw [e1, q]
theorem own_exa {args : Array Value} {s : State} {t : Term} {C : String} (h : (Jvm.Cond.exactly t C).value args s none s [] = some true) : ∃ x, t.eval args s none [] s = some (.ref x) := exa_v h
theorem own_all0 {α : Type} {P : α → Prop} : ∀ x ∈ ([] : List α), P x := fun _ q => nomatch q
theorem own_allS {α : Type} {P : α → Prop} {y : α} {L : List α} (q : P y) (r : ∀ x ∈ L, P x) : ∀ x ∈ y :: L, P x := fun x z => (List.mem_cons.mp z).elim (fun u => u ▸ q) (r x)
theorem own_and255 (x : Int32) : ¬ (x &&& (255 : Int32)) < 0 ∧ ¬ (255 : Int32) < (x &&& (255 : Int32)) := by
  have q := c_and x 255 (by decide)
  have e : (255 : Int32).toInt = 255 := rfl
  simp only [Int32.lt_iff_toInt_lt, Int32.reduceToInt, e] at q ⊢
  omega
theorem own_narB (x : Int32) : nar .byte (x.toInt8.toInt32) = x.toInt8.toInt32 := by simp [nar]
theorem own_nochar (x : Int32) : nar .char (x &&& (255 : Int32)) = x &&& (255 : Int32) := i2c_mask x
theorem own_mulN {a b : UInt64} (ha : FP.Core.DFin a) (hb : FP.Core.DFin b) : FP.dIsNaN (FP.dmul a b) = false := by
  refine (FP.Core.notNaN_iff _).mpr ?_
  rw [show FP.dmul a b = FP.Core.dmul a b from rfl, FP.Core.val64_dmul]
  obtain ⟨s, c, q, h⟩ := ha
  obtain ⟨t, d, r, g⟩ := hb
  rw [h, g]
  exact FP.Core.roundRatio_ne_nan _ _ _ _ _
theorem own_add0 {f : UInt32} (h : FP.fIsNaN f = false) : FP.fIsNaN (FP.fadd f FP.fconst0) = false ∧ FP.fadd f FP.fconst0 ≠ FP.Core.fzeroNeg ∧ FP.Core.zval FP.Core.b32 (FP.Core.val32 (FP.fadd f FP.fconst0)) = FP.Core.zval FP.Core.b32 (FP.Core.val32 f) := by
  by_cases hz : f = FP.Core.fzeroNeg
  · subst hz; decide +kernel
  · have e : FP.fadd f FP.fconst0 = f := FP.Core.fadd_zero ((FP.Core.notNaN_iff32 f).mp h) hz
    rw [e]; exact ⟨h, hz, rfl⟩
theorem own_cmp0 {f g : UInt32} (hf : FP.fIsNaN f = false) (hg : FP.fIsNaN g = false) : FP.fcmp (FP.fadd f FP.fconst0) (FP.fadd g FP.fconst0) = FP.fcmp f g := by
  obtain ⟨a1, -, a3⟩ := own_add0 hf
  obtain ⟨b1, -, b3⟩ := own_add0 hg
  show FP.Core.fcmp _ _ = FP.Core.fcmp f g
  rw [FP.Core.fcmp_zval ((FP.Core.notNaN_iff32 _).mp a1) ((FP.Core.notNaN_iff32 _).mp b1), FP.Core.fcmp_zval ((FP.Core.notNaN_iff32 _).mp hf) ((FP.Core.notNaN_iff32 _).mp hg), a3, b3]
theorem own_bits {f g : UInt32} (hf : FP.fIsNaN f = false) (hg : FP.fIsNaN g = false) (zf : f ≠ FP.Core.fzeroNeg) (zg : g ≠ FP.Core.fzeroNeg) (h : FP.fcmp f g = some .eq) : f = g := by
  have q : FP.Core.fcmp f g = some .eq := h
  rw [FP.Core.fcmp_key ((FP.Core.notNaN_iff32 _).mp hf) ((FP.Core.notNaN_iff32 _).mp hg)] at q
  have e : FP.Core.fkey f = FP.Core.fkey g := by
    have := Option.some.inj q
    rw [FP.Core.compare_ite] at this
    split at this
    · cases this
    · split at this
      · assumption
      · cases this
  have zf' : f.toNat ≠ 2 ^ 31 := fun z => zf (UInt32.toNat_inj.mp z)
  have zg' : g.toNat ≠ 2 ^ 31 := fun z => zg (UInt32.toNat_inj.mp z)
  have ek : ∀ a : UInt32, FP.Core.fkey a = if 2 ^ 31 ≤ a.toNat then ((2 ^ 31 : Nat) : Int) - (a.toNat : Int) else (a.toNat : Int) := fun _ => rfl
  rw [ek, ek] at e
  apply UInt32.toNat_inj.mp
  split at e <;> split at e <;> omega
theorem own_swap (f g : UInt32) : FP.fcmp g f = (FP.fcmp f g).map Ordering.swap := FP.Core.fcmp_swap f g
theorem own_ord4 {f g : UInt32} (hf : FP.fIsNaN f = false) (hg : FP.fIsNaN g = false) : FP.fcmp f g = some .lt ∨ FP.fcmp f g = some .gt ∨ FP.fcmp f g = some .eq := by
  obtain ⟨o, h⟩ := FP.Core.fcmp_of_notNaN hf hg
  have h' : FP.fcmp f g = some o := h
  rw [h']
  cases o <;> simp
theorem own_pw1 {m : Int32} (h0 : m < 0) (h1 : ¬ m < (-62 : Int32)) : FP.Core.DFin (FP.ddiv FP.dconst1 (FP.l2d ((1 : Int64) <<< ((-m) &&& 0x3f).toInt64))) := by
  have q : ∀ k, k < 63 → (FP.ddiv FP.dconst1 (FP.l2d ((1 : Int64) <<< ((-(-(Int32.ofNat k))) &&& 0x3f).toInt64))).toNat % 2 ^ 63 < 9218868437227405312 := by decide +kernel
  have e0 : (0 : Int32).toInt = 0 := rfl
  have e1 : (-62 : Int32).toInt = -62 := rfl
  rw [Int32.lt_iff_toInt_lt, e0] at h0
  rw [Int32.lt_iff_toInt_lt, e1] at h1
  obtain ⟨k, hk, e⟩ : ∃ k : Nat, k < 63 ∧ m = -(Int32.ofNat k) := ⟨(-m.toInt).toNat, by omega, Int32.toInt_inj.mp (by rw [Int32.toInt_neg, Int32.toInt_ofNat_of_lt (by omega), Int.bmod_eq_of_le (by omega) (by omega)]; omega)⟩
  rw [e]; exact (FP.Core.fin_bits _).mpr (q k hk)
theorem own_pw3 {m : Int32} (h0 : (62 : Int32) < m) (h1 : ¬ (124 : Int32) < m) : FP.Core.DFin (FP.dmul (4886405595696988160 : UInt64) (FP.l2d ((1 : Int64) <<< ((m - (62 : Int32)) &&& 0x3f).toInt64))) := by
  have q : ∀ k, k < 63 → (FP.dmul (4886405595696988160 : UInt64) (FP.l2d ((1 : Int64) <<< ((Int32.ofNat (k + 62) - (62 : Int32)) &&& 0x3f).toInt64))).toNat % 2 ^ 63 < 9218868437227405312 := by decide +kernel
  have e0 : (62 : Int32).toInt = 62 := rfl
  have e1 : (124 : Int32).toInt = 124 := rfl
  rw [Int32.lt_iff_toInt_lt, e0] at h0
  rw [Int32.lt_iff_toInt_lt, e1] at h1
  obtain ⟨k, hk, e⟩ : ∃ k : Nat, k < 63 ∧ m = Int32.ofNat (k + 62) := ⟨(m.toInt - 62).toNat, by omega, Int32.toInt_inj.mp (by rw [Int32.toInt_ofNat_of_lt (by omega)]; omega)⟩
  rw [e]; exact (FP.Core.fin_bits _).mpr (q k hk)
theorem own_m (e : Int32) : ¬ ((e &&& (2147483647 : Int32)) % (187 : Int32)) - (62 : Int32) < (-62 : Int32) ∧ ¬ (124 : Int32) < ((e &&& (2147483647 : Int32)) % (187 : Int32)) - (62 : Int32) := by
  have hp := (c_and e 2147483647 (by decide)).1
  have m : ((e &&& (2147483647 : Int32)) % (187 : Int32)).toInt = (e &&& (2147483647 : Int32)).toInt.tmod (187 : Int32).toInt := Int32.toInt_mod _ _
  have e7 : (187 : Int32).toInt = 187 := rfl
  rw [e7] at m
  have m1 := Int.tmod_nonneg 187 hp
  have m2 := Int.tmod_lt_of_pos (e &&& (2147483647 : Int32)).toInt (show (0 : Int) < 187 by decide)
  generalize ((e &&& (2147483647 : Int32)) % (187 : Int32)) = y at m
  obtain ⟨k, hk, e⟩ : ∃ k : Nat, k < 187 ∧ y = Int32.ofNat k := ⟨y.toInt.toNat, by omega, Int32.toInt_inj.mp (by rw [Int32.toInt_ofNat_of_lt (by omega)]; omega)⟩
  have q : ∀ k, k < 187 → ¬ (Int32.ofNat k) - (62 : Int32) < (-62 : Int32) ∧ ¬ (124 : Int32) < (Int32.ofNat k) - (62 : Int32) := by decide +kernel
  rw [e]; exact q k hk
theorem own_self {f : UInt32} (h : FP.fIsNaN f = false) : FP.fcmp f f = some .eq := FP.Core.fcmp_refl h
def own_ord (o : Option Ordering) : Int32 := match o with | some .lt => -1 | some .gt => 1 | _ => 0
def own_sg (r : Int32) : Int32 := if r < (0 : Int32) then -1 else if (0 : Int32) < r then 1 else 0
theorem own_sgo (o : Option Ordering) : own_sg (own_ord o) = own_ord o := by
  cases o with
  | none => rfl
  | some o => cases o <;> rfl
theorem own_neg (f g : UInt32) : own_sg (own_ord (FP.fcmp g f)) = -(own_ord (FP.fcmp f g)) := by
  rw [own_sgo, own_swap f g]
  cases FP.fcmp f g with
  | none => rfl
  | some o => cases o <;> rfl
theorem dd_jdk_118_method_24_code_0 : decode jdk_118_method_24_code 0 = .ok (.fload_n 0, 1) := by decide +kernel
theorem dd_jdk_118_method_24_code_1 : decode jdk_118_method_24_code 1 = .ok (.invokestatic 59, 3) := by decide +kernel
theorem dd_jdk_118_method_24_code_4 : decode jdk_118_method_24_code 4 = .ok (.ifCond .ne 8, 3) := by decide +kernel
theorem dd_jdk_118_method_24_code_7 : decode jdk_118_method_24_code 7 = .ok (.fload_n 0, 1) := by decide +kernel
theorem dd_jdk_118_method_24_code_8 : decode jdk_118_method_24_code 8 = .ok (.invokestatic 74, 3) := by decide +kernel
theorem dd_jdk_118_method_24_code_11 : decode jdk_118_method_24_code 11 = .ok (.ireturn, 1) := by decide +kernel
theorem dd_jdk_118_method_30_code_0 : decode jdk_118_method_30_code 0 = .ok (.fload_n 0, 1) := by decide +kernel
theorem dd_jdk_118_method_30_code_1 : decode jdk_118_method_30_code 1 = .ok (.fload_n 1, 1) := by decide +kernel
theorem dd_jdk_118_method_30_code_2 : decode jdk_118_method_30_code 2 = .ok (.fcmp .g, 1) := by decide +kernel
theorem dd_jdk_118_method_30_code_3 : decode jdk_118_method_30_code 3 = .ok (.ifCond .ge 5, 3) := by decide +kernel
theorem dd_jdk_118_method_30_code_6 : decode jdk_118_method_30_code 6 = .ok (.iconst (-1), 1) := by decide +kernel
theorem dd_jdk_118_method_30_code_7 : decode jdk_118_method_30_code 7 = .ok (.ireturn, 1) := by decide +kernel
theorem dd_jdk_118_method_30_code_8 : decode jdk_118_method_30_code 8 = .ok (.fload_n 0, 1) := by decide +kernel
theorem dd_jdk_118_method_30_code_9 : decode jdk_118_method_30_code 9 = .ok (.fload_n 1, 1) := by decide +kernel
theorem dd_jdk_118_method_30_code_10 : decode jdk_118_method_30_code 10 = .ok (.fcmp .l, 1) := by decide +kernel
theorem dd_jdk_118_method_30_code_11 : decode jdk_118_method_30_code 11 = .ok (.ifCond .le 5, 3) := by decide +kernel
theorem dd_jdk_118_method_30_code_14 : decode jdk_118_method_30_code 14 = .ok (.iconst 1, 1) := by decide +kernel
theorem dd_jdk_118_method_30_code_15 : decode jdk_118_method_30_code 15 = .ok (.ireturn, 1) := by decide +kernel
theorem dd_jdk_118_method_30_code_16 : decode jdk_118_method_30_code 16 = .ok (.fload_n 0, 1) := by decide +kernel
theorem dd_jdk_118_method_30_code_17 : decode jdk_118_method_30_code 17 = .ok (.invokestatic 71, 3) := by decide +kernel
theorem dd_jdk_118_method_30_code_20 : decode jdk_118_method_30_code 20 = .ok (.istore_n 2, 1) := by decide +kernel
theorem dd_jdk_118_method_30_code_21 : decode jdk_118_method_30_code 21 = .ok (.fload_n 1, 1) := by decide +kernel
theorem dd_jdk_118_method_30_code_22 : decode jdk_118_method_30_code 22 = .ok (.invokestatic 71, 3) := by decide +kernel
theorem dd_jdk_118_method_30_code_25 : decode jdk_118_method_30_code 25 = .ok (.istore_n 3, 1) := by decide +kernel
theorem dd_jdk_118_method_30_code_26 : decode jdk_118_method_30_code 26 = .ok (.iload_n 2, 1) := by decide +kernel
theorem dd_jdk_118_method_30_code_27 : decode jdk_118_method_30_code 27 = .ok (.iload_n 3, 1) := by decide +kernel
theorem dd_jdk_118_method_30_code_28 : decode jdk_118_method_30_code 28 = .ok (.if_icmp .ne 7, 3) := by decide +kernel
theorem dd_jdk_118_method_30_code_31 : decode jdk_118_method_30_code 31 = .ok (.iconst 0, 1) := by decide +kernel
theorem dd_jdk_118_method_30_code_32 : decode jdk_118_method_30_code 32 = .ok (.goto 13, 3) := by decide +kernel
theorem dd_jdk_118_method_30_code_45 : decode jdk_118_method_30_code 45 = .ok (.ireturn, 1) := by decide +kernel
theorem dd_jdk_118_method_6_code_0 : decode jdk_118_method_6_code 0 = .ok (.fload_n 0, 1) := by decide +kernel
theorem dd_jdk_118_method_6_code_1 : decode jdk_118_method_6_code 1 = .ok (.fload_n 0, 1) := by decide +kernel
theorem dd_jdk_118_method_6_code_2 : decode jdk_118_method_6_code 2 = .ok (.fcmp .l, 1) := by decide +kernel
theorem dd_jdk_118_method_6_code_3 : decode jdk_118_method_6_code 3 = .ok (.ifCond .eq 7, 3) := by decide +kernel
theorem dd_jdk_118_method_6_code_10 : decode jdk_118_method_6_code 10 = .ok (.iconst 0, 1) := by decide +kernel
theorem dd_jdk_118_method_6_code_11 : decode jdk_118_method_6_code 11 = .ok (.ireturn, 1) := by decide +kernel
theorem dd_method_2_code_0 : decode method_2_code 0 = .ok (.iload_n 0, 1) := by decide +kernel
theorem dd_method_2_code_1 : decode method_2_code 1 = .ok (.ifCond .ge 11, 3) := by decide +kernel
theorem dd_method_2_code_4 : decode method_2_code 4 = .ok (.dconst 1, 1) := by decide +kernel
theorem dd_method_2_code_5 : decode method_2_code 5 = .ok (.lconst 1, 1) := by decide +kernel
theorem dd_method_2_code_6 : decode method_2_code 6 = .ok (.iload_n 0, 1) := by decide +kernel
theorem dd_method_2_code_7 : decode method_2_code 7 = .ok (.ineg, 1) := by decide +kernel
theorem dd_method_2_code_8 : decode method_2_code 8 = .ok (.lshl, 1) := by decide +kernel
theorem dd_method_2_code_9 : decode method_2_code 9 = .ok (.l2d, 1) := by decide +kernel
theorem dd_method_2_code_10 : decode method_2_code 10 = .ok (.ddiv, 1) := by decide +kernel
theorem dd_method_2_code_11 : decode method_2_code 11 = .ok (.dreturn, 1) := by decide +kernel
theorem dd_method_2_code_12 : decode method_2_code 12 = .ok (.iload_n 0, 1) := by decide +kernel
theorem dd_method_2_code_13 : decode method_2_code 13 = .ok (.bipush 62, 2) := by decide +kernel
theorem dd_method_2_code_15 : decode method_2_code 15 = .ok (.if_icmp .gt 8, 3) := by decide +kernel
theorem dd_method_2_code_18 : decode method_2_code 18 = .ok (.lconst 1, 1) := by decide +kernel
theorem dd_method_2_code_19 : decode method_2_code 19 = .ok (.iload_n 0, 1) := by decide +kernel
theorem dd_method_2_code_20 : decode method_2_code 20 = .ok (.lshl, 1) := by decide +kernel
theorem dd_method_2_code_21 : decode method_2_code 21 = .ok (.l2d, 1) := by decide +kernel
theorem dd_method_2_code_22 : decode method_2_code 22 = .ok (.dreturn, 1) := by decide +kernel
theorem dd_method_2_code_23 : decode method_2_code 23 = .ok (.ldc2_w 7, 3) := by decide +kernel
theorem dd_method_2_code_26 : decode method_2_code 26 = .ok (.lconst 1, 1) := by decide +kernel
theorem dd_method_2_code_27 : decode method_2_code 27 = .ok (.iload_n 0, 1) := by decide +kernel
theorem dd_method_2_code_28 : decode method_2_code 28 = .ok (.bipush 62, 2) := by decide +kernel
theorem dd_method_2_code_30 : decode method_2_code 30 = .ok (.isub, 1) := by decide +kernel
theorem dd_method_2_code_31 : decode method_2_code 31 = .ok (.lshl, 1) := by decide +kernel
theorem dd_method_2_code_32 : decode method_2_code 32 = .ok (.l2d, 1) := by decide +kernel
theorem dd_method_2_code_33 : decode method_2_code 33 = .ok (.dmul, 1) := by decide +kernel
theorem dd_method_2_code_34 : decode method_2_code 34 = .ok (.dreturn, 1) := by decide +kernel
theorem dd_method_3_code_0 : decode method_3_code 0 = .ok (.iload_n 1, 1) := by decide +kernel
theorem dd_method_3_code_1 : decode method_3_code 1 = .ok (.ldc 9, 2) := by decide +kernel
theorem dd_method_3_code_3 : decode method_3_code 3 = .ok (.iand, 1) := by decide +kernel
theorem dd_method_3_code_4 : decode method_3_code 4 = .ok (.sipush 187, 3) := by decide +kernel
theorem dd_method_3_code_7 : decode method_3_code 7 = .ok (.irem, 1) := by decide +kernel
theorem dd_method_3_code_8 : decode method_3_code 8 = .ok (.bipush 62, 2) := by decide +kernel
theorem dd_method_3_code_10 : decode method_3_code 10 = .ok (.isub, 1) := by decide +kernel
theorem dd_method_3_code_11 : decode method_3_code 11 = .ok (.istore_n 3, 1) := by decide +kernel
theorem dd_method_3_code_12 : decode method_3_code 12 = .ok (.iload_n 0, 1) := by decide +kernel
theorem dd_method_3_code_13 : decode method_3_code 13 = .ok (.i2d, 1) := by decide +kernel
theorem dd_method_3_code_14 : decode method_3_code 14 = .ok (.iload_n 3, 1) := by decide +kernel
theorem dd_method_3_code_15 : decode method_3_code 15 = .ok (.invokestatic 10, 3) := by decide +kernel
theorem dd_method_3_code_18 : decode method_3_code 18 = .ok (.dmul, 1) := by decide +kernel
theorem dd_method_3_code_19 : decode method_3_code 19 = .ok (.dstore 4, 2) := by decide +kernel
theorem dd_method_3_code_21 : decode method_3_code 21 = .ok (.iload_n 2, 1) := by decide +kernel
theorem dd_method_3_code_22 : decode method_3_code 22 = .ok (.ifCond .eq 9, 3) := by decide +kernel
theorem dd_method_3_code_25 : decode method_3_code 25 = .ok (.dload 4, 2) := by decide +kernel
theorem dd_method_3_code_27 : decode method_3_code 27 = .ok (.dneg, 1) := by decide +kernel
theorem dd_method_3_code_28 : decode method_3_code 28 = .ok (.goto 5, 3) := by decide +kernel
theorem dd_method_3_code_31 : decode method_3_code 31 = .ok (.dload 4, 2) := by decide +kernel
theorem dd_method_3_code_33 : decode method_3_code 33 = .ok (.dreturn, 1) := by decide +kernel
theorem dd_method_4_code_0 : decode method_4_code 0 = .ok (.dload_n 0, 1) := by decide +kernel
theorem dd_method_4_code_1 : decode method_4_code 1 = .ok (.d2f, 1) := by decide +kernel
theorem dd_method_4_code_2 : decode method_4_code 2 = .ok (.fstore 4, 2) := by decide +kernel
theorem dd_method_4_code_4 : decode method_4_code 4 = .ok (.dload_n 2, 1) := by decide +kernel
theorem dd_method_4_code_5 : decode method_4_code 5 = .ok (.d2f, 1) := by decide +kernel
theorem dd_method_4_code_6 : decode method_4_code 6 = .ok (.fstore 5, 2) := by decide +kernel
theorem dd_method_4_code_8 : decode method_4_code 8 = .ok (.fload 4, 2) := by decide +kernel
theorem dd_method_4_code_10 : decode method_4_code 10 = .ok (.fload 5, 2) := by decide +kernel
theorem dd_method_4_code_12 : decode method_4_code 12 = .ok (.fcmp .g, 1) := by decide +kernel
theorem dd_method_4_code_13 : decode method_4_code 13 = .ok (.ifCond .ge 5, 3) := by decide +kernel
theorem dd_method_4_code_16 : decode method_4_code 16 = .ok (.iconst (-1), 1) := by decide +kernel
theorem dd_method_4_code_17 : decode method_4_code 17 = .ok (.ireturn, 1) := by decide +kernel
theorem dd_method_4_code_18 : decode method_4_code 18 = .ok (.fload 5, 2) := by decide +kernel
theorem dd_method_4_code_20 : decode method_4_code 20 = .ok (.fload 4, 2) := by decide +kernel
theorem dd_method_4_code_22 : decode method_4_code 22 = .ok (.fcmp .g, 1) := by decide +kernel
theorem dd_method_4_code_23 : decode method_4_code 23 = .ok (.ifCond .ge 5, 3) := by decide +kernel
theorem dd_method_4_code_26 : decode method_4_code 26 = .ok (.iconst 1, 1) := by decide +kernel
theorem dd_method_4_code_27 : decode method_4_code 27 = .ok (.ireturn, 1) := by decide +kernel
theorem dd_method_4_code_28 : decode method_4_code 28 = .ok (.iconst 0, 1) := by decide +kernel
theorem dd_method_4_code_29 : decode method_4_code 29 = .ok (.ireturn, 1) := by decide +kernel
theorem dd_method_5_code_0 : decode method_5_code 0 = .ok (.iload_n 0, 1) := by decide +kernel
theorem dd_method_5_code_1 : decode method_5_code 1 = .ok (.ifCond .ge 5, 3) := by decide +kernel
theorem dd_method_5_code_4 : decode method_5_code 4 = .ok (.iconst (-1), 1) := by decide +kernel
theorem dd_method_5_code_5 : decode method_5_code 5 = .ok (.ireturn, 1) := by decide +kernel
theorem dd_method_5_code_6 : decode method_5_code 6 = .ok (.iload_n 0, 1) := by decide +kernel
theorem dd_method_5_code_7 : decode method_5_code 7 = .ok (.ifCond .le 5, 3) := by decide +kernel
theorem dd_method_5_code_10 : decode method_5_code 10 = .ok (.iconst 1, 1) := by decide +kernel
theorem dd_method_5_code_11 : decode method_5_code 11 = .ok (.ireturn, 1) := by decide +kernel
theorem dd_method_5_code_12 : decode method_5_code 12 = .ok (.iconst 0, 1) := by decide +kernel
theorem dd_method_5_code_13 : decode method_5_code 13 = .ok (.ireturn, 1) := by decide +kernel
theorem dd_prog_25_method_4_code_0 : decode prog_25_method_4_code 0 = .ok (.dload_n 0, 1) := by decide +kernel
theorem dd_prog_25_method_4_code_1 : decode prog_25_method_4_code 1 = .ok (.d2f, 1) := by decide +kernel
theorem dd_prog_25_method_4_code_2 : decode prog_25_method_4_code 2 = .ok (.fconst 0, 1) := by decide +kernel
theorem dd_prog_25_method_4_code_3 : decode prog_25_method_4_code 3 = .ok (.fadd, 1) := by decide +kernel
theorem dd_prog_25_method_4_code_4 : decode prog_25_method_4_code 4 = .ok (.dload_n 2, 1) := by decide +kernel
theorem dd_prog_25_method_4_code_5 : decode prog_25_method_4_code 5 = .ok (.d2f, 1) := by decide +kernel
theorem dd_prog_25_method_4_code_6 : decode prog_25_method_4_code 6 = .ok (.fconst 0, 1) := by decide +kernel
theorem dd_prog_25_method_4_code_7 : decode prog_25_method_4_code 7 = .ok (.fadd, 1) := by decide +kernel
theorem dd_prog_25_method_4_code_8 : decode prog_25_method_4_code 8 = .ok (.invokestatic 17, 3) := by decide +kernel
theorem dd_prog_25_method_4_code_11 : decode prog_25_method_4_code 11 = .ok (.ireturn, 1) := by decide +kernel
theorem pd__I_D : parseMethodDescriptor "(I)D" = some ⟨[.int], some .double⟩ := by decide +kernel
theorem pd__F_Z : parseMethodDescriptor "(F)Z" = some ⟨[.float], some .boolean⟩ := by decide +kernel
theorem pd__F_I : parseMethodDescriptor "(F)I" = some ⟨[.float], some .int⟩ := by decide +kernel
theorem pd__FF_I : parseMethodDescriptor "(FF)I" = some ⟨[.float, .float], some .int⟩ := by decide +kernel
theorem pd__IIZ_D : parseMethodDescriptor "(IIZ)D" = some ⟨[.int, .int, .boolean], some .double⟩ := by decide +kernel
theorem pd__DD_I : parseMethodDescriptor "(DD)I" = some ⟨[.double, .double], some .int⟩ := by decide +kernel
theorem pd__I_I : parseMethodDescriptor "(I)I" = some ⟨[.int], some .int⟩ := by decide +kernel
set_option maxRecDepth 65536 in
set_option maxHeartbeats 4000000 in
theorem own_pw (l : Launch) {Z : State} {a0 : Array Value} (hE : Ctx Z a0) {n0 : Nat} {h0 : Heap} (O : Old Z n0 h0) {m0 : Int32} (h1 : ¬ m0 < (-62 : Int32)) (h2 : ¬ (124 : Int32) < m0)  :
    Met l (⟨"com/example/amherst/amherst/text/ScoredDocumentCompareScoresPinLaw", "pw", "(I)D"⟩ : MethodName) method_2_code 1 (Option.some Jvm.ClassFile.FieldType.double) ({ frames := 0, cells := 0, slots := 0, locals := 0 } : Room) Z consts_1 n0 [] #[(.int m0)] h0 (fun v h => ∃ (r : UInt64), v = some (.double r) ∧ FP.Core.DFin r ∧ h0 = h) := by
  have hw := hE.1
  have hEL := own_EW hw
  refine Met.of (by first | (refine plainFor_of_name ?_; simp [plainName, overriddenIn]; done) | decide +kernel) O rfl ?_
  intro p e s m below meth c T0 hx hby hml hret hlk hnm hh0 W0
  have z0 := W0.ge
  refine Go.st (g' := (mkF m 0 #[.val (.int m0)] [])) (fun _ k => castTop (by first | (simp [entryFrame, mkF, argsToLocals, maxLocals, own_catI, own_catJ, own_catD, own_catF, own_catA, own_catN]; done) | rfl) k) ?_
  refine Go.st (g' := (mkF m 1 #[.val (.int m0)] [(.int m0)])) (fun _ k => XS.iloadN W0.here hx rfl (hb hby dd_method_2_code_0) rfl  k) ?_
  by_cases hc1 : m0 < (0 : Int32)
  · refine Go.st (g' := (mkF m 4 #[.val (.int m0)] [])) (fun _ k => XS.ifNo W0.here hx rfl (hb hby dd_method_2_code_1) rfl ((if0 _ _).trans (tlt hc1).2.1) k) ?_
    refine Go.st (g' := (mkF m 5 #[.val (.int m0)] [(.double FP.dconst1)])) (fun _ k => XS.dconst1 W0.here hx rfl (hb hby dd_method_2_code_4) rfl k) ?_
    refine Go.st (g' := (mkF m 6 #[.val (.int m0)] [(.long (1 : Int64)), (.double FP.dconst1)])) (fun _ k => XS.lconst W0.here hx rfl (hb hby dd_method_2_code_5) k) ?_
    refine Go.st (g' := (mkF m 7 #[.val (.int m0)] [(.int m0), (.long (1 : Int64)), (.double FP.dconst1)])) (fun _ k => XS.iloadN W0.here hx rfl (hb hby dd_method_2_code_6) rfl  k) ?_
    refine Go.st (g' := (mkF m 8 #[.val (.int m0)] [(.int (-m0)), (.long (1 : Int64)), (.double FP.dconst1)])) (fun _ k => XS.ineg W0.here hx rfl (hb hby dd_method_2_code_7) rfl k) ?_
    refine Go.st (g' := (mkF m 9 #[.val (.int m0)] [(.long ((1 : Int64) <<< ((-m0) &&& 0x3f).toInt64)), (.double FP.dconst1)])) (fun _ k => XS.lshl W0.here hx rfl (hb hby dd_method_2_code_8) rfl k) ?_
    refine Go.st (g' := (mkF m 10 #[.val (.int m0)] [(.double (FP.l2d ((1 : Int64) <<< ((-m0) &&& 0x3f).toInt64))), (.double FP.dconst1)])) (fun _ k => XS.l2dS W0.here hx rfl (hb hby dd_method_2_code_9) rfl rfl k) ?_
    refine Go.st (g' := (mkF m 11 #[.val (.int m0)] [(.double (FP.ddiv FP.dconst1 (FP.l2d ((1 : Int64) <<< ((-m0) &&& 0x3f).toInt64))))])) (fun _ k => XS.ddivS W0.here hx rfl (hb hby dd_method_2_code_10) rfl (Jvm.Free.Fl.noNaN64_no.mpr (own_pw1 hc1 h1).notNaN) rfl k) ?_
    exact W0.retD hx hEL hlk hret (hb hby dd_method_2_code_11) (by decide) (by decide) ⟨(FP.ddiv FP.dconst1 (FP.l2d ((1 : Int64) <<< ((-m0) &&& 0x3f).toInt64))), rfl, (own_pw1 hc1 h1), rfl⟩
  · refine Go.st (g' := (mkF m 12 #[.val (.int m0)] [])) (fun _ k => XS.ifYes W0.here hx rfl (pc0 := 1) (pc' := 12) rfl (hb hby dd_method_2_code_1) rfl ((if0 _ _).trans (flt hc1).2.1) (by decide) (by decide) k) ?_
    refine Go.st (g' := (mkF m 13 #[.val (.int m0)] [(.int m0)])) (fun _ k => XS.iloadN W0.here hx rfl (hb hby dd_method_2_code_12) rfl  k) ?_
    refine Go.st (g' := (mkF m 15 #[.val (.int m0)] [(.int (62 : Int32)), (.int m0)])) (fun _ k => XS.bipush W0.here hx rfl (hb hby dd_method_2_code_13) k) ?_
    by_cases hc2 : (62 : Int32) < m0
    · refine Go.st (g' := (mkF m 23 #[.val (.int m0)] [])) (fun _ k => XS.icmpYes W0.here hx rfl (pc0 := 15) (pc' := 23) rfl (hb hby dd_method_2_code_15) rfl (tlt hc2).2.2.1 (by decide) (by decide) k) ?_
      refine Go.st (g' := (mkF m 26 #[.val (.int m0)] [(.double (4886405595696988160 : UInt64))])) (W0.ldcD hx (hw _ (List.mem_of_getElem? (i := 22) rfl)) (g := (mkF m 23 #[.val (.int m0)] [])) rfl (hb hby dd_method_2_code_23)) ?_
      refine Go.st (g' := (mkF m 27 #[.val (.int m0)] [(.long (1 : Int64)), (.double (4886405595696988160 : UInt64))])) (fun _ k => XS.lconst W0.here hx rfl (hb hby dd_method_2_code_26) k) ?_
      refine Go.st (g' := (mkF m 28 #[.val (.int m0)] [(.int m0), (.long (1 : Int64)), (.double (4886405595696988160 : UInt64))])) (fun _ k => XS.iloadN W0.here hx rfl (hb hby dd_method_2_code_27) rfl  k) ?_
      refine Go.st (g' := (mkF m 30 #[.val (.int m0)] [(.int (62 : Int32)), (.int m0), (.long (1 : Int64)), (.double (4886405595696988160 : UInt64))])) (fun _ k => XS.bipush W0.here hx rfl (hb hby dd_method_2_code_28) k) ?_
      refine Go.st (g' := (mkF m 31 #[.val (.int m0)] [(.int (m0 - (62 : Int32))), (.long (1 : Int64)), (.double (4886405595696988160 : UInt64))])) (fun _ k => XS.isub W0.here hx rfl (hb hby dd_method_2_code_30) rfl k) ?_
      refine Go.st (g' := (mkF m 32 #[.val (.int m0)] [(.long ((1 : Int64) <<< ((m0 - (62 : Int32)) &&& 0x3f).toInt64)), (.double (4886405595696988160 : UInt64))])) (fun _ k => XS.lshl W0.here hx rfl (hb hby dd_method_2_code_31) rfl k) ?_
      refine Go.st (g' := (mkF m 33 #[.val (.int m0)] [(.double (FP.l2d ((1 : Int64) <<< ((m0 - (62 : Int32)) &&& 0x3f).toInt64))), (.double (4886405595696988160 : UInt64))])) (fun _ k => XS.l2dS W0.here hx rfl (hb hby dd_method_2_code_32) rfl rfl k) ?_
      refine Go.st (g' := (mkF m 34 #[.val (.int m0)] [(.double (FP.dmul (4886405595696988160 : UInt64) (FP.l2d ((1 : Int64) <<< ((m0 - (62 : Int32)) &&& 0x3f).toInt64))))])) (fun _ k => XS.dmulS W0.here hx rfl (hb hby dd_method_2_code_33) rfl (Jvm.Free.Fl.noNaN64_no.mpr (own_pw3 hc2 h2).notNaN) rfl k) ?_
      exact W0.retD hx hEL hlk hret (hb hby dd_method_2_code_34) (by decide) (by decide) ⟨(FP.dmul (4886405595696988160 : UInt64) (FP.l2d ((1 : Int64) <<< ((m0 - (62 : Int32)) &&& 0x3f).toInt64))), rfl, (own_pw3 hc2 h2), rfl⟩
    · refine Go.st (g' := (mkF m 18 #[.val (.int m0)] [])) (fun _ k => XS.icmpNo W0.here hx rfl (hb hby dd_method_2_code_15) rfl (flt hc2).2.2.1 k) ?_
      refine Go.st (g' := (mkF m 19 #[.val (.int m0)] [(.long (1 : Int64))])) (fun _ k => XS.lconst W0.here hx rfl (hb hby dd_method_2_code_18) k) ?_
      refine Go.st (g' := (mkF m 20 #[.val (.int m0)] [(.int m0), (.long (1 : Int64))])) (fun _ k => XS.iloadN W0.here hx rfl (hb hby dd_method_2_code_19) rfl  k) ?_
      refine Go.st (g' := (mkF m 21 #[.val (.int m0)] [(.long ((1 : Int64) <<< (m0 &&& 0x3f).toInt64))])) (fun _ k => XS.lshl W0.here hx rfl (hb hby dd_method_2_code_20) rfl k) ?_
      refine Go.st (g' := (mkF m 22 #[.val (.int m0)] [(.double (FP.l2d ((1 : Int64) <<< (m0 &&& 0x3f).toInt64)))])) (fun _ k => XS.l2dS W0.here hx rfl (hb hby dd_method_2_code_21) rfl rfl k) ?_
      exact W0.retD hx hEL hlk hret (hb hby dd_method_2_code_22) (by decide) (by decide) ⟨(FP.l2d ((1 : Int64) <<< (m0 &&& 0x3f).toInt64)), rfl, (FP.Core.l2d_fin _), rfl⟩
set_option maxRecDepth 65536 in
set_option maxHeartbeats 4000000 in
theorem own_score (l : Launch) {Z : State} {a0 : Array Value} (hE : Ctx Z a0) {n0 : Nat} {h0 : Heap} (O : Old Z n0 h0) {p0 : Int32} {e0 : Int32} {bz : Int32}   :
    Met l (⟨"com/example/amherst/amherst/text/ScoredDocumentCompareScoresPinLaw", "score", "(IIZ)D"⟩ : MethodName) method_3_code 6 (Option.some Jvm.ClassFile.FieldType.double) ({ frames := 1, cells := 0, slots := 0, locals := 14 } : Room) Z consts_1 n0 [] #[(.int p0), (.int e0), (.int bz)] h0 (fun v h => ∃ (r : UInt64), v = some (.double r) ∧ FP.dIsNaN r = false ∧ h0 = h) := by
  have hw := hE.1
  have hEL := own_EW hw
  refine Met.of (by first | (refine plainFor_of_name ?_; simp [plainName, overriddenIn]; done) | decide +kernel) O rfl ?_
  intro p e s m below meth c T0 hx hby hml hret hlk hnm hh0 W0
  have z0 := W0.ge
  refine Go.st (g' := (mkF m 0 #[.val (.int p0), .val (.int e0), .val (.int bz), .unset, .unset, .unset] [])) (fun _ k => castTop (by first | (simp [entryFrame, mkF, argsToLocals, maxLocals, own_catI, own_catJ, own_catD, own_catF, own_catA, own_catN]; done) | rfl) k) ?_
  refine Go.st (g' := (mkF m 1 #[.val (.int p0), .val (.int e0), .val (.int bz), .unset, .unset, .unset] [(.int e0)])) (fun _ k => XS.iloadN W0.here hx rfl (hb hby dd_method_3_code_0) rfl  k) ?_
  refine Go.st (g' := (mkF m 3 #[.val (.int p0), .val (.int e0), .val (.int bz), .unset, .unset, .unset] [(.int (2147483647 : Int32)), (.int e0)])) (W0.ldcI hx (hw _ (List.mem_of_getElem? (i := 4) rfl)) (g := (mkF m 1 #[.val (.int p0), .val (.int e0), .val (.int bz), .unset, .unset, .unset] [(.int e0)])) rfl (hb hby dd_method_3_code_1)) ?_
  refine Go.st (g' := (mkF m 4 #[.val (.int p0), .val (.int e0), .val (.int bz), .unset, .unset, .unset] [(.int (e0 &&& (2147483647 : Int32)))])) (fun _ k => XS.iand W0.here hx rfl (hb hby dd_method_3_code_3) rfl k) ?_
  refine Go.st (g' := (mkF m 7 #[.val (.int p0), .val (.int e0), .val (.int bz), .unset, .unset, .unset] [(.int (187 : Int32)), (.int (e0 &&& (2147483647 : Int32)))])) (fun _ k => XS.sipush W0.here hx rfl (hb hby dd_method_3_code_4) k) ?_
  refine Go.st (g' := (mkF m 8 #[.val (.int p0), .val (.int e0), .val (.int bz), .unset, .unset, .unset] [(.int ((e0 &&& (2147483647 : Int32)) % (187 : Int32)))])) (fun _ k => W0.irem hx (g := (mkF m 7 #[.val (.int p0), .val (.int e0), .val (.int bz), .unset, .unset, .unset] [(.int (187 : Int32)), (.int (e0 &&& (2147483647 : Int32)))])) rfl (hb hby dd_method_3_code_7) rfl (by decide) k) ?_
  refine Go.st (g' := (mkF m 10 #[.val (.int p0), .val (.int e0), .val (.int bz), .unset, .unset, .unset] [(.int (62 : Int32)), (.int ((e0 &&& (2147483647 : Int32)) % (187 : Int32)))])) (fun _ k => XS.bipush W0.here hx rfl (hb hby dd_method_3_code_8) k) ?_
  refine Go.st (g' := (mkF m 11 #[.val (.int p0), .val (.int e0), .val (.int bz), .unset, .unset, .unset] [(.int (((e0 &&& (2147483647 : Int32)) % (187 : Int32)) - (62 : Int32)))])) (fun _ k => XS.isub W0.here hx rfl (hb hby dd_method_3_code_10) rfl k) ?_
  refine Go.st (g' := (mkF m 12 #[.val (.int p0), .val (.int e0), .val (.int bz), .val (.int (((e0 &&& (2147483647 : Int32)) % (187 : Int32)) - (62 : Int32))), .unset, .unset] [])) (fun _ k => XS.istoreN W0.here hx rfl (hb hby dd_method_3_code_11) rfl (l' := #[.val (.int p0), .val (.int e0), .val (.int bz), .val (.int (((e0 &&& (2147483647 : Int32)) % (187 : Int32)) - (62 : Int32))), .unset, .unset]) rfl k) ?_
  refine Go.st (g' := (mkF m 13 #[.val (.int p0), .val (.int e0), .val (.int bz), .val (.int (((e0 &&& (2147483647 : Int32)) % (187 : Int32)) - (62 : Int32))), .unset, .unset] [(.int p0)])) (fun _ k => XS.iloadN W0.here hx rfl (hb hby dd_method_3_code_12) rfl  k) ?_
  refine Go.st (g' := (mkF m 14 #[.val (.int p0), .val (.int e0), .val (.int bz), .val (.int (((e0 &&& (2147483647 : Int32)) % (187 : Int32)) - (62 : Int32))), .unset, .unset] [(.double (FP.i2d p0))])) (fun _ k => XS.i2dS W0.here hx rfl (hb hby dd_method_3_code_13) rfl rfl k) ?_
  refine Go.st (g' := (mkF m 15 #[.val (.int p0), .val (.int e0), .val (.int bz), .val (.int (((e0 &&& (2147483647 : Int32)) % (187 : Int32)) - (62 : Int32))), .unset, .unset] [(.int (((e0 &&& (2147483647 : Int32)) % (187 : Int32)) - (62 : Int32))), (.double (FP.i2d p0))])) (fun _ k => XS.iloadN W0.here hx rfl (hb hby dd_method_3_code_14) rfl  k) ?_
  obtain ⟨_, vm1, T1, h1, W1, Q1, z1, SF1, st1⟩ := W0.callS hx hEL (own_pw l hE W0.old (m0 := (((e0 &&& (2147483647 : Int32)) % (187 : Int32)) - (62 : Int32))) (own_m _).1 (own_m _).2 ) (hw _ (List.mem_of_getElem? (i := 5) rfl)) (hw _ (List.mem_of_getElem? (i := 6) rfl)) (hw _ (List.mem_of_getElem? (i := 2) rfl)) (hw _ (List.mem_of_getElem? (i := 7) rfl)) (by decide) (Wd := 2) (by decide) (by decide) (by decide) (by decide) (g := (mkF m 15 #[.val (.int p0), .val (.int e0), .val (.int bz), .val (.int (((e0 &&& (2147483647 : Int32)) % (187 : Int32)) - (62 : Int32))), .unset, .unset] [(.int (((e0 &&& (2147483647 : Int32)) % (187 : Int32)) - (62 : Int32))), (.double (FP.i2d p0))])) rfl (by rw [hml]; rfl) (argsL := [(.int (((e0 &&& (2147483647 : Int32)) % (187 : Int32)) - (62 : Int32)))]) (rest := [(.double (FP.i2d p0))]) rfl (lenOf pd__I_D rfl) rfl (by show 2 * 0 + _ ≤ _; exact Nat.le_of_eq rfl) (hb hby dd_method_3_code_15)
  obtain ⟨r_1, rfl, p1_0, eh1⟩ := Q1
  subst eh1
  refine Go.tr (g' := (mkF m 18 #[.val (.int p0), .val (.int e0), .val (.int bz), .val (.int (((e0 &&& (2147483647 : Int32)) % (187 : Int32)) - (62 : Int32))), .unset, .unset] [(.double r_1), (.double (FP.i2d p0))])) st1 ?_
  refine Go.st (g' := (mkF m 19 #[.val (.int p0), .val (.int e0), .val (.int bz), .val (.int (((e0 &&& (2147483647 : Int32)) % (187 : Int32)) - (62 : Int32))), .unset, .unset] [(.double (FP.dmul (FP.i2d p0) r_1))])) (fun _ k => XS.dmulS W1.here hx rfl (hb hby dd_method_3_code_18) rfl (Jvm.Free.Fl.noNaN64_no.mpr (own_mulN (FP.Core.i2d_fin _) p1_0)) rfl k) ?_
  refine Go.st (g' := (mkF m 21 #[.val (.int p0), .val (.int e0), .val (.int bz), .val (.int (((e0 &&& (2147483647 : Int32)) % (187 : Int32)) - (62 : Int32))), .val (.double (FP.dmul (FP.i2d p0) r_1)), .second] [])) (fun _ k => XS.dstore W1.here hx rfl (hb hby dd_method_3_code_19) rfl (l' := #[.val (.int p0), .val (.int e0), .val (.int bz), .val (.int (((e0 &&& (2147483647 : Int32)) % (187 : Int32)) - (62 : Int32))), .val (.double (FP.dmul (FP.i2d p0) r_1)), .second]) rfl k) ?_
  refine Go.st (g' := (mkF m 22 #[.val (.int p0), .val (.int e0), .val (.int bz), .val (.int (((e0 &&& (2147483647 : Int32)) % (187 : Int32)) - (62 : Int32))), .val (.double (FP.dmul (FP.i2d p0) r_1)), .second] [(.int bz)])) (fun _ k => XS.iloadN W1.here hx rfl (hb hby dd_method_3_code_21) rfl  k) ?_
  by_cases hc2 : bz = (0 : Int32)
  · refine Go.st (g' := (mkF m 31 #[.val (.int p0), .val (.int e0), .val (.int bz), .val (.int (((e0 &&& (2147483647 : Int32)) % (187 : Int32)) - (62 : Int32))), .val (.double (FP.dmul (FP.i2d p0) r_1)), .second] [])) (fun _ k => XS.ifYes W1.here hx rfl (pc0 := 22) (pc' := 31) rfl (hb hby dd_method_3_code_22) rfl ((if0 _ _).trans (teq hc2).1) (by decide) (by decide) k) ?_
    refine Go.st (g' := (mkF m 33 #[.val (.int p0), .val (.int e0), .val (.int bz), .val (.int (((e0 &&& (2147483647 : Int32)) % (187 : Int32)) - (62 : Int32))), .val (.double (FP.dmul (FP.i2d p0) r_1)), .second] [(.double (FP.dmul (FP.i2d p0) r_1))])) (fun _ k => XS.dload W1.here hx rfl (hb hby dd_method_3_code_31) rfl  k) ?_
    exact W1.retD hx hEL hlk hret (hb hby dd_method_3_code_33) (by decide) (by decide) ⟨(FP.dmul (FP.i2d p0) r_1), rfl, (own_mulN (FP.Core.i2d_fin _) p1_0), rfl⟩
  · refine Go.st (g' := (mkF m 25 #[.val (.int p0), .val (.int e0), .val (.int bz), .val (.int (((e0 &&& (2147483647 : Int32)) % (187 : Int32)) - (62 : Int32))), .val (.double (FP.dmul (FP.i2d p0) r_1)), .second] [])) (fun _ k => XS.ifNo W1.here hx rfl (hb hby dd_method_3_code_22) rfl ((if0 _ _).trans (feq hc2).1) k) ?_
    refine Go.st (g' := (mkF m 27 #[.val (.int p0), .val (.int e0), .val (.int bz), .val (.int (((e0 &&& (2147483647 : Int32)) % (187 : Int32)) - (62 : Int32))), .val (.double (FP.dmul (FP.i2d p0) r_1)), .second] [(.double (FP.dmul (FP.i2d p0) r_1))])) (fun _ k => XS.dload W1.here hx rfl (hb hby dd_method_3_code_25) rfl  k) ?_
    refine Go.st (g' := (mkF m 28 #[.val (.int p0), .val (.int e0), .val (.int bz), .val (.int (((e0 &&& (2147483647 : Int32)) % (187 : Int32)) - (62 : Int32))), .val (.double (FP.dmul (FP.i2d p0) r_1)), .second] [(.double (FP.dneg (FP.dmul (FP.i2d p0) r_1)))])) (fun _ k => XS.dnegS W1.here hx rfl (hb hby dd_method_3_code_27) rfl rfl k) ?_
    refine Go.st (g' := (mkF m 33 #[.val (.int p0), .val (.int e0), .val (.int bz), .val (.int (((e0 &&& (2147483647 : Int32)) % (187 : Int32)) - (62 : Int32))), .val (.double (FP.dmul (FP.i2d p0) r_1)), .second] [(.double (FP.dneg (FP.dmul (FP.i2d p0) r_1)))])) (fun _ k => XS.goto W1.here hx rfl (pc0 := 28) (pc' := 33) rfl (hb hby dd_method_3_code_28) (by decide) (by decide) k) ?_
    exact W1.retD hx hEL hlk hret (hb hby dd_method_3_code_33) (by decide) (by decide) ⟨(FP.dneg (FP.dmul (FP.i2d p0) r_1)), rfl, ((FP.dneg_nan _).trans (own_mulN (FP.Core.i2d_fin _) p1_0)), rfl⟩
set_option maxRecDepth 65536 in
set_option maxHeartbeats 4000000 in
theorem own_expd (l : Launch) {Z : State} {a0 : Array Value} (hE : Ctx Z a0) {n0 : Nat} {h0 : Heap} (O : Old Z n0 h0) {d0 : UInt64} {d1 : UInt64} (hn0 : FP.dIsNaN d0 = false) (hn1 : FP.dIsNaN d1 = false)  :
    Met l (⟨"com/example/amherst/amherst/text/ScoredDocumentCompareScoresPinLaw", "expected", "(DD)I"⟩ : MethodName) method_4_code 6 (Option.some Jvm.ClassFile.FieldType.int) ({ frames := 0, cells := 0, slots := 0, locals := 0 } : Room) Z consts_1 n0 [] #[(.double d0), (.double d1)] h0 (fun v h => v = some (.int (own_ord (FP.fcmp (FP.d2f d0) (FP.d2f d1)))) ∧ h0 = h) := by
  have hw := hE.1
  have hEL := own_EW hw
  refine Met.of (by first | (refine plainFor_of_name ?_; simp [plainName, overriddenIn]; done) | decide +kernel) O rfl ?_
  intro p e s m below meth c T0 hx hby hml hret hlk hnm hh0 W0
  have z0 := W0.ge
  refine Go.st (g' := (mkF m 0 #[.val (.double d0), .second, .val (.double d1), .second, .unset, .unset] [])) (fun _ k => castTop (by first | (simp [entryFrame, mkF, argsToLocals, maxLocals, own_catI, own_catJ, own_catD, own_catF, own_catA, own_catN]; done) | rfl) k) ?_
  refine Go.st (g' := (mkF m 1 #[.val (.double d0), .second, .val (.double d1), .second, .unset, .unset] [(.double d0)])) (fun _ k => XS.dloadN W0.here hx rfl (hb hby dd_method_4_code_0) rfl  k) ?_
  refine Go.st (g' := (mkF m 2 #[.val (.double d0), .second, .val (.double d1), .second, .unset, .unset] [(.float (FP.d2f d0))])) (fun _ k => XS.d2fS W0.here hx rfl (hb hby dd_method_4_code_1) rfl (Jvm.Free.Fl.noNaN32_no.mpr ((FP.d2f_nan d0).trans hn0)) rfl k) ?_
  refine Go.st (g' := (mkF m 4 #[.val (.double d0), .second, .val (.double d1), .second, .val (.float (FP.d2f d0)), .unset] [])) (fun _ k => XS.fstore W0.here hx rfl (hb hby dd_method_4_code_2) rfl (l' := #[.val (.double d0), .second, .val (.double d1), .second, .val (.float (FP.d2f d0)), .unset]) rfl k) ?_
  refine Go.st (g' := (mkF m 5 #[.val (.double d0), .second, .val (.double d1), .second, .val (.float (FP.d2f d0)), .unset] [(.double d1)])) (fun _ k => XS.dloadN W0.here hx rfl (hb hby dd_method_4_code_4) rfl  k) ?_
  refine Go.st (g' := (mkF m 6 #[.val (.double d0), .second, .val (.double d1), .second, .val (.float (FP.d2f d0)), .unset] [(.float (FP.d2f d1))])) (fun _ k => XS.d2fS W0.here hx rfl (hb hby dd_method_4_code_5) rfl (Jvm.Free.Fl.noNaN32_no.mpr ((FP.d2f_nan d1).trans hn1)) rfl k) ?_
  refine Go.st (g' := (mkF m 8 #[.val (.double d0), .second, .val (.double d1), .second, .val (.float (FP.d2f d0)), .val (.float (FP.d2f d1))] [])) (fun _ k => XS.fstore W0.here hx rfl (hb hby dd_method_4_code_6) rfl (l' := #[.val (.double d0), .second, .val (.double d1), .second, .val (.float (FP.d2f d0)), .val (.float (FP.d2f d1))]) rfl k) ?_
  rcases own_ord4 ((FP.d2f_nan d0).trans hn0) ((FP.d2f_nan d1).trans hn1) with ho | ho | ho
  · refine Go.st (g' := (mkF m 10 #[.val (.double d0), .second, .val (.double d1), .second, .val (.float (FP.d2f d0)), .val (.float (FP.d2f d1))] [(.float (FP.d2f d0))])) (fun _ k => XS.fload W0.here hx rfl (hb hby dd_method_4_code_8) rfl  k) ?_
    refine Go.st (g' := (mkF m 12 #[.val (.double d0), .second, .val (.double d1), .second, .val (.float (FP.d2f d0)), .val (.float (FP.d2f d1))] [(.float (FP.d2f d1)), (.float (FP.d2f d0))])) (fun _ k => XS.fload W0.here hx rfl (hb hby dd_method_4_code_10) rfl  k) ?_
    refine Go.st (g' := (mkF m 13 #[.val (.double d0), .second, .val (.double d1), .second, .val (.float (FP.d2f d0)), .val (.float (FP.d2f d1))] [(.int (cmpValue (FP.fcmp (FP.d2f d0) (FP.d2f d1)) .g))])) (fun _ k => XS.fcmpS W0.here hx rfl (hb hby dd_method_4_code_12) rfl rfl k) ?_
    refine Go.st (g' := (mkF m 16 #[.val (.double d0), .second, .val (.double d1), .second, .val (.float (FP.d2f d0)), .val (.float (FP.d2f d1))] [])) (fun _ k => XS.ifNo W0.here hx rfl (hb hby dd_method_4_code_13) rfl ((if0 _ _).trans (tlt (by rw [ho]; decide)).2.1) k) ?_
    refine Go.st (g' := (mkF m 17 #[.val (.double d0), .second, .val (.double d1), .second, .val (.float (FP.d2f d0)), .val (.float (FP.d2f d1))] [(.int (-1 : Int32))])) (fun _ k => XS.iconst W0.here hx rfl (hb hby dd_method_4_code_16) k) ?_
    exact W0.retI hx hEL hlk hret (hb hby dd_method_4_code_17) (by decide) (by decide) ⟨(by show some (Value.int (-1 : Int32)) = _; rw [ho]; rfl), rfl⟩
  · refine Go.st (g' := (mkF m 10 #[.val (.double d0), .second, .val (.double d1), .second, .val (.float (FP.d2f d0)), .val (.float (FP.d2f d1))] [(.float (FP.d2f d0))])) (fun _ k => XS.fload W0.here hx rfl (hb hby dd_method_4_code_8) rfl  k) ?_
    refine Go.st (g' := (mkF m 12 #[.val (.double d0), .second, .val (.double d1), .second, .val (.float (FP.d2f d0)), .val (.float (FP.d2f d1))] [(.float (FP.d2f d1)), (.float (FP.d2f d0))])) (fun _ k => XS.fload W0.here hx rfl (hb hby dd_method_4_code_10) rfl  k) ?_
    refine Go.st (g' := (mkF m 13 #[.val (.double d0), .second, .val (.double d1), .second, .val (.float (FP.d2f d0)), .val (.float (FP.d2f d1))] [(.int (cmpValue (FP.fcmp (FP.d2f d0) (FP.d2f d1)) .g))])) (fun _ k => XS.fcmpS W0.here hx rfl (hb hby dd_method_4_code_12) rfl rfl k) ?_
    refine Go.st (g' := (mkF m 18 #[.val (.double d0), .second, .val (.double d1), .second, .val (.float (FP.d2f d0)), .val (.float (FP.d2f d1))] [])) (fun _ k => XS.ifYes W0.here hx rfl (pc0 := 13) (pc' := 18) rfl (hb hby dd_method_4_code_13) rfl ((if0 _ _).trans (flt (by rw [ho]; decide)).2.1) (by decide) (by decide) k) ?_
    refine Go.st (g' := (mkF m 20 #[.val (.double d0), .second, .val (.double d1), .second, .val (.float (FP.d2f d0)), .val (.float (FP.d2f d1))] [(.float (FP.d2f d1))])) (fun _ k => XS.fload W0.here hx rfl (hb hby dd_method_4_code_18) rfl  k) ?_
    refine Go.st (g' := (mkF m 22 #[.val (.double d0), .second, .val (.double d1), .second, .val (.float (FP.d2f d0)), .val (.float (FP.d2f d1))] [(.float (FP.d2f d0)), (.float (FP.d2f d1))])) (fun _ k => XS.fload W0.here hx rfl (hb hby dd_method_4_code_20) rfl  k) ?_
    refine Go.st (g' := (mkF m 23 #[.val (.double d0), .second, .val (.double d1), .second, .val (.float (FP.d2f d0)), .val (.float (FP.d2f d1))] [(.int (cmpValue (FP.fcmp (FP.d2f d1) (FP.d2f d0)) .g))])) (fun _ k => XS.fcmpS W0.here hx rfl (hb hby dd_method_4_code_22) rfl rfl k) ?_
    refine Go.st (g' := (mkF m 26 #[.val (.double d0), .second, .val (.double d1), .second, .val (.float (FP.d2f d0)), .val (.float (FP.d2f d1))] [])) (fun _ k => XS.ifNo W0.here hx rfl (hb hby dd_method_4_code_23) rfl ((if0 _ _).trans (tlt (by rw [own_swap, ho]; decide)).2.1) k) ?_
    refine Go.st (g' := (mkF m 27 #[.val (.double d0), .second, .val (.double d1), .second, .val (.float (FP.d2f d0)), .val (.float (FP.d2f d1))] [(.int (1 : Int32))])) (fun _ k => XS.iconst W0.here hx rfl (hb hby dd_method_4_code_26) k) ?_
    exact W0.retI hx hEL hlk hret (hb hby dd_method_4_code_27) (by decide) (by decide) ⟨(by show some (Value.int (1 : Int32)) = _; rw [ho]; rfl), rfl⟩
  · refine Go.st (g' := (mkF m 10 #[.val (.double d0), .second, .val (.double d1), .second, .val (.float (FP.d2f d0)), .val (.float (FP.d2f d1))] [(.float (FP.d2f d0))])) (fun _ k => XS.fload W0.here hx rfl (hb hby dd_method_4_code_8) rfl  k) ?_
    refine Go.st (g' := (mkF m 12 #[.val (.double d0), .second, .val (.double d1), .second, .val (.float (FP.d2f d0)), .val (.float (FP.d2f d1))] [(.float (FP.d2f d1)), (.float (FP.d2f d0))])) (fun _ k => XS.fload W0.here hx rfl (hb hby dd_method_4_code_10) rfl  k) ?_
    refine Go.st (g' := (mkF m 13 #[.val (.double d0), .second, .val (.double d1), .second, .val (.float (FP.d2f d0)), .val (.float (FP.d2f d1))] [(.int (cmpValue (FP.fcmp (FP.d2f d0) (FP.d2f d1)) .g))])) (fun _ k => XS.fcmpS W0.here hx rfl (hb hby dd_method_4_code_12) rfl rfl k) ?_
    refine Go.st (g' := (mkF m 18 #[.val (.double d0), .second, .val (.double d1), .second, .val (.float (FP.d2f d0)), .val (.float (FP.d2f d1))] [])) (fun _ k => XS.ifYes W0.here hx rfl (pc0 := 13) (pc' := 18) rfl (hb hby dd_method_4_code_13) rfl ((if0 _ _).trans (flt (by rw [ho]; decide)).2.1) (by decide) (by decide) k) ?_
    refine Go.st (g' := (mkF m 20 #[.val (.double d0), .second, .val (.double d1), .second, .val (.float (FP.d2f d0)), .val (.float (FP.d2f d1))] [(.float (FP.d2f d1))])) (fun _ k => XS.fload W0.here hx rfl (hb hby dd_method_4_code_18) rfl  k) ?_
    refine Go.st (g' := (mkF m 22 #[.val (.double d0), .second, .val (.double d1), .second, .val (.float (FP.d2f d0)), .val (.float (FP.d2f d1))] [(.float (FP.d2f d0)), (.float (FP.d2f d1))])) (fun _ k => XS.fload W0.here hx rfl (hb hby dd_method_4_code_20) rfl  k) ?_
    refine Go.st (g' := (mkF m 23 #[.val (.double d0), .second, .val (.double d1), .second, .val (.float (FP.d2f d0)), .val (.float (FP.d2f d1))] [(.int (cmpValue (FP.fcmp (FP.d2f d1) (FP.d2f d0)) .g))])) (fun _ k => XS.fcmpS W0.here hx rfl (hb hby dd_method_4_code_22) rfl rfl k) ?_
    refine Go.st (g' := (mkF m 28 #[.val (.double d0), .second, .val (.double d1), .second, .val (.float (FP.d2f d0)), .val (.float (FP.d2f d1))] [])) (fun _ k => XS.ifYes W0.here hx rfl (pc0 := 23) (pc' := 28) rfl (hb hby dd_method_4_code_23) rfl ((if0 _ _).trans (flt (by rw [own_swap, ho]; decide)).2.1) (by decide) (by decide) k) ?_
    refine Go.st (g' := (mkF m 29 #[.val (.double d0), .second, .val (.double d1), .second, .val (.float (FP.d2f d0)), .val (.float (FP.d2f d1))] [(.int (0 : Int32))])) (fun _ k => XS.iconst W0.here hx rfl (hb hby dd_method_4_code_28) k) ?_
    exact W0.retI hx hEL hlk hret (hb hby dd_method_4_code_29) (by decide) (by decide) ⟨(by show some (Value.int (0 : Int32)) = _; rw [ho]; rfl), rfl⟩
set_option maxRecDepth 65536 in
set_option maxHeartbeats 4000000 in
theorem own_isNaN (l : Launch) {Z : State} {a0 : Array Value} (hE : Ctx Z a0) {n0 : Nat} {h0 : Heap} (O : Old Z n0 h0) {f0 : UInt32} (hf : FP.fIsNaN f0 = false)  :
    Met l (⟨"java/lang/Float", "isNaN", "(F)Z"⟩ : MethodName) jdk_118_method_6_code 1 (Option.some Jvm.ClassFile.FieldType.boolean) ({ frames := 0, cells := 0, slots := 0, locals := 0 } : Room) Z consts_1 n0 [] #[(.float f0)] h0 (fun v h => v = some (.int (0 : Int32)) ∧ h0 = h) := by
  have hw := hE.1
  have hEL := own_EW hw
  refine Met.of (by first | (refine plainFor_of_name ?_; simp [plainName, overriddenIn]; done) | decide +kernel) O rfl ?_
  intro p e s m below meth c T0 hx hby hml hret hlk hnm hh0 W0
  have z0 := W0.ge
  refine Go.st (g' := (mkF m 0 #[.val (.float f0)] [])) (fun _ k => castTop (by first | (simp [entryFrame, mkF, argsToLocals, maxLocals, own_catI, own_catJ, own_catD, own_catF, own_catA, own_catN]; done) | rfl) k) ?_
  refine Go.st (g' := (mkF m 1 #[.val (.float f0)] [(.float f0)])) (fun _ k => XS.floadN W0.here hx rfl (hb hby dd_jdk_118_method_6_code_0) rfl  k) ?_
  refine Go.st (g' := (mkF m 2 #[.val (.float f0)] [(.float f0), (.float f0)])) (fun _ k => XS.floadN W0.here hx rfl (hb hby dd_jdk_118_method_6_code_1) rfl  k) ?_
  refine Go.st (g' := (mkF m 3 #[.val (.float f0)] [(.int (cmpValue (FP.fcmp f0 f0) .l))])) (fun _ k => XS.fcmpS W0.here hx rfl (hb hby dd_jdk_118_method_6_code_2) rfl rfl k) ?_
  refine Go.st (g' := (mkF m 10 #[.val (.float f0)] [])) (fun _ k => XS.ifYes W0.here hx rfl (pc0 := 3) (pc' := 10) rfl (hb hby dd_jdk_118_method_6_code_3) rfl ((if0 _ _).trans (teq (by rw [own_self hf]; rfl)).1) (by decide) (by decide) k) ?_
  refine Go.st (g' := (mkF m 11 #[.val (.float f0)] [(.int (0 : Int32))])) (fun _ k => XS.iconst W0.here hx rfl (hb hby dd_jdk_118_method_6_code_10) k) ?_
  exact W0.retN hx hEL hlk (t := .boolean) hret (by decide) (hb hby dd_jdk_118_method_6_code_11) (by decide) (by decide) ⟨rfl, rfl⟩
set_option maxRecDepth 65536 in
set_option maxHeartbeats 4000000 in
theorem own_fti (l : Launch) {Z : State} {a0 : Array Value} (hE : Ctx Z a0) {n0 : Nat} {h0 : Heap} (O : Old Z n0 h0) {f0 : UInt32} (hf : FP.fIsNaN f0 = false)  :
    Met l (⟨"java/lang/Float", "floatToIntBits", "(F)I"⟩ : MethodName) jdk_118_method_24_code 1 (Option.some Jvm.ClassFile.FieldType.int) ({ frames := 1, cells := 0, slots := 0, locals := 15 } : Room) Z consts_1 n0 [] #[(.float f0)] h0 (fun v h => v = some (.int (f0.toInt32)) ∧ h0 = h) := by
  have hw := hE.1
  have hEL := own_EW hw
  refine Met.of (by first | (refine plainFor_of_name ?_; simp [plainName, overriddenIn]; done) | decide +kernel) O rfl ?_
  intro p e s m below meth c T0 hx hby hml hret hlk hnm hh0 W0
  have z0 := W0.ge
  refine Go.st (g' := (mkF m 0 #[.val (.float f0)] [])) (fun _ k => castTop (by first | (simp [entryFrame, mkF, argsToLocals, maxLocals, own_catI, own_catJ, own_catD, own_catF, own_catA, own_catN]; done) | rfl) k) ?_
  refine Go.st (g' := (mkF m 1 #[.val (.float f0)] [(.float f0)])) (fun _ k => XS.floadN W0.here hx rfl (hb hby dd_jdk_118_method_24_code_0) rfl  k) ?_
  obtain ⟨_, vm1, T1, h1, W1, Q1, z1, SF1, st1⟩ := W0.callS hx hEL (own_isNaN l hE W0.old (f0 := f0) hf ) (hw _ (List.mem_of_getElem? (i := 26) rfl)) (hw _ (List.mem_of_getElem? (i := 27) rfl)) (hw _ (List.mem_of_getElem? (i := 17) rfl)) (hw _ (List.mem_of_getElem? (i := 28) rfl)) (by decide) (Wd := 0) (by decide) (by decide) (by decide) (by decide) (g := (mkF m 1 #[.val (.float f0)] [(.float f0)])) rfl (by rw [hml]; rfl) (argsL := [(.float f0)]) (rest := []) rfl (lenOf pd__F_Z rfl) rfl (by show 2 * 0 + _ ≤ _; exact Nat.le_of_eq rfl) (hb hby dd_jdk_118_method_24_code_1)
  obtain ⟨rfl, eh1⟩ := Q1
  subst eh1
  refine Go.tr (g' := (mkF m 4 #[.val (.float f0)] [(.int (0 : Int32))])) st1 ?_
  refine Go.st (g' := (mkF m 7 #[.val (.float f0)] [])) (fun _ k => XS.ifNo W1.here hx rfl (hb hby dd_jdk_118_method_24_code_4) rfl ((if0 _ _).trans (teq (by decide)).2) k) ?_
  refine Go.st (g' := (mkF m 8 #[.val (.float f0)] [(.float f0)])) (fun _ k => XS.floadN W1.here hx rfl (hb hby dd_jdk_118_method_24_code_7) rfl  k) ?_
  obtain ⟨T2, W2, st2⟩ := W1.rawI hx (hw _ (List.mem_of_getElem? (i := 29) rfl)) (hw _ (List.mem_of_getElem? (i := 31) rfl)) (hw _ (List.mem_of_getElem? (i := 30) rfl)) (hw _ (List.mem_of_getElem? (i := 17) rfl)) (g := (mkF m 8 #[.val (.float f0)] [(.float f0)])) rfl (by rw [hml]; rfl) (rest := []) rfl (hb hby dd_jdk_118_method_24_code_8) (by decide) (Wd := 0) (by show 2 * 0 + _ ≤ _; exact Nat.le_of_eq rfl) (by decide)
  refine Go.st (g' := (mkF m 11 #[.val (.float f0)] [(.int (f0.toInt32))])) st2 ?_
  exact W2.retI hx hEL hlk hret (hb hby dd_jdk_118_method_24_code_11) (by decide) (by decide) ⟨rfl, rfl⟩
set_option maxRecDepth 65536 in
set_option maxHeartbeats 4000000 in
theorem own_fcmp (l : Launch) {Z : State} {a0 : Array Value} (hE : Ctx Z a0) {n0 : Nat} {h0 : Heap} (O : Old Z n0 h0) {f0 : UInt32} {g0 : UInt32} (hf : FP.fIsNaN f0 = false) (hg : FP.fIsNaN g0 = false) (zf : f0 ≠ FP.Core.fzeroNeg) (zg : g0 ≠ FP.Core.fzeroNeg)  :
    Met l (⟨"java/lang/Float", "compare", "(FF)I"⟩ : MethodName) jdk_118_method_30_code 4 (Option.some Jvm.ClassFile.FieldType.int) ({ frames := 2, cells := 0, slots := 0, locals := 27 } : Room) Z consts_1 n0 [] #[(.float f0), (.float g0)] h0 (fun v h => v = some (.int (own_ord (FP.fcmp f0 g0))) ∧ h0 = h) := by
  have hw := hE.1
  have hEL := own_EW hw
  refine Met.of (by first | (refine plainFor_of_name ?_; simp [plainName, overriddenIn]; done) | decide +kernel) O rfl ?_
  intro p e s m below meth c T0 hx hby hml hret hlk hnm hh0 W0
  have z0 := W0.ge
  refine Go.st (g' := (mkF m 0 #[.val (.float f0), .val (.float g0), .unset, .unset] [])) (fun _ k => castTop (by first | (simp [entryFrame, mkF, argsToLocals, maxLocals, own_catI, own_catJ, own_catD, own_catF, own_catA, own_catN]; done) | rfl) k) ?_
  rcases own_ord4 hf hg with ho | ho | ho
  · refine Go.st (g' := (mkF m 1 #[.val (.float f0), .val (.float g0), .unset, .unset] [(.float f0)])) (fun _ k => XS.floadN W0.here hx rfl (hb hby dd_jdk_118_method_30_code_0) rfl  k) ?_
    refine Go.st (g' := (mkF m 2 #[.val (.float f0), .val (.float g0), .unset, .unset] [(.float g0), (.float f0)])) (fun _ k => XS.floadN W0.here hx rfl (hb hby dd_jdk_118_method_30_code_1) rfl  k) ?_
    refine Go.st (g' := (mkF m 3 #[.val (.float f0), .val (.float g0), .unset, .unset] [(.int (cmpValue (FP.fcmp f0 g0) .g))])) (fun _ k => XS.fcmpS W0.here hx rfl (hb hby dd_jdk_118_method_30_code_2) rfl rfl k) ?_
    refine Go.st (g' := (mkF m 6 #[.val (.float f0), .val (.float g0), .unset, .unset] [])) (fun _ k => XS.ifNo W0.here hx rfl (hb hby dd_jdk_118_method_30_code_3) rfl ((if0 _ _).trans (tlt (by rw [ho]; decide)).2.1) k) ?_
    refine Go.st (g' := (mkF m 7 #[.val (.float f0), .val (.float g0), .unset, .unset] [(.int (-1 : Int32))])) (fun _ k => XS.iconst W0.here hx rfl (hb hby dd_jdk_118_method_30_code_6) k) ?_
    exact W0.retI hx hEL hlk hret (hb hby dd_jdk_118_method_30_code_7) (by decide) (by decide) ⟨(by show some (Value.int (-1 : Int32)) = _; rw [ho]; rfl), rfl⟩
  · refine Go.st (g' := (mkF m 1 #[.val (.float f0), .val (.float g0), .unset, .unset] [(.float f0)])) (fun _ k => XS.floadN W0.here hx rfl (hb hby dd_jdk_118_method_30_code_0) rfl  k) ?_
    refine Go.st (g' := (mkF m 2 #[.val (.float f0), .val (.float g0), .unset, .unset] [(.float g0), (.float f0)])) (fun _ k => XS.floadN W0.here hx rfl (hb hby dd_jdk_118_method_30_code_1) rfl  k) ?_
    refine Go.st (g' := (mkF m 3 #[.val (.float f0), .val (.float g0), .unset, .unset] [(.int (cmpValue (FP.fcmp f0 g0) .g))])) (fun _ k => XS.fcmpS W0.here hx rfl (hb hby dd_jdk_118_method_30_code_2) rfl rfl k) ?_
    refine Go.st (g' := (mkF m 8 #[.val (.float f0), .val (.float g0), .unset, .unset] [])) (fun _ k => XS.ifYes W0.here hx rfl (pc0 := 3) (pc' := 8) rfl (hb hby dd_jdk_118_method_30_code_3) rfl ((if0 _ _).trans (flt (by rw [ho]; decide)).2.1) (by decide) (by decide) k) ?_
    refine Go.st (g' := (mkF m 9 #[.val (.float f0), .val (.float g0), .unset, .unset] [(.float f0)])) (fun _ k => XS.floadN W0.here hx rfl (hb hby dd_jdk_118_method_30_code_8) rfl  k) ?_
    refine Go.st (g' := (mkF m 10 #[.val (.float f0), .val (.float g0), .unset, .unset] [(.float g0), (.float f0)])) (fun _ k => XS.floadN W0.here hx rfl (hb hby dd_jdk_118_method_30_code_9) rfl  k) ?_
    refine Go.st (g' := (mkF m 11 #[.val (.float f0), .val (.float g0), .unset, .unset] [(.int (cmpValue (FP.fcmp f0 g0) .l))])) (fun _ k => XS.fcmpS W0.here hx rfl (hb hby dd_jdk_118_method_30_code_10) rfl rfl k) ?_
    refine Go.st (g' := (mkF m 14 #[.val (.float f0), .val (.float g0), .unset, .unset] [])) (fun _ k => XS.ifNo W0.here hx rfl (hb hby dd_jdk_118_method_30_code_11) rfl ((if0 _ _).trans (tlt (by rw [ho]; decide)).2.2.2) k) ?_
    refine Go.st (g' := (mkF m 15 #[.val (.float f0), .val (.float g0), .unset, .unset] [(.int (1 : Int32))])) (fun _ k => XS.iconst W0.here hx rfl (hb hby dd_jdk_118_method_30_code_14) k) ?_
    exact W0.retI hx hEL hlk hret (hb hby dd_jdk_118_method_30_code_15) (by decide) (by decide) ⟨(by show some (Value.int (1 : Int32)) = _; rw [ho]; rfl), rfl⟩
  · refine Go.st (g' := (mkF m 1 #[.val (.float f0), .val (.float g0), .unset, .unset] [(.float f0)])) (fun _ k => XS.floadN W0.here hx rfl (hb hby dd_jdk_118_method_30_code_0) rfl  k) ?_
    refine Go.st (g' := (mkF m 2 #[.val (.float f0), .val (.float g0), .unset, .unset] [(.float g0), (.float f0)])) (fun _ k => XS.floadN W0.here hx rfl (hb hby dd_jdk_118_method_30_code_1) rfl  k) ?_
    refine Go.st (g' := (mkF m 3 #[.val (.float f0), .val (.float g0), .unset, .unset] [(.int (cmpValue (FP.fcmp f0 g0) .g))])) (fun _ k => XS.fcmpS W0.here hx rfl (hb hby dd_jdk_118_method_30_code_2) rfl rfl k) ?_
    refine Go.st (g' := (mkF m 8 #[.val (.float f0), .val (.float g0), .unset, .unset] [])) (fun _ k => XS.ifYes W0.here hx rfl (pc0 := 3) (pc' := 8) rfl (hb hby dd_jdk_118_method_30_code_3) rfl ((if0 _ _).trans (flt (by rw [ho]; decide)).2.1) (by decide) (by decide) k) ?_
    refine Go.st (g' := (mkF m 9 #[.val (.float f0), .val (.float g0), .unset, .unset] [(.float f0)])) (fun _ k => XS.floadN W0.here hx rfl (hb hby dd_jdk_118_method_30_code_8) rfl  k) ?_
    refine Go.st (g' := (mkF m 10 #[.val (.float f0), .val (.float g0), .unset, .unset] [(.float g0), (.float f0)])) (fun _ k => XS.floadN W0.here hx rfl (hb hby dd_jdk_118_method_30_code_9) rfl  k) ?_
    refine Go.st (g' := (mkF m 11 #[.val (.float f0), .val (.float g0), .unset, .unset] [(.int (cmpValue (FP.fcmp f0 g0) .l))])) (fun _ k => XS.fcmpS W0.here hx rfl (hb hby dd_jdk_118_method_30_code_10) rfl rfl k) ?_
    refine Go.st (g' := (mkF m 16 #[.val (.float f0), .val (.float g0), .unset, .unset] [])) (fun _ k => XS.ifYes W0.here hx rfl (pc0 := 11) (pc' := 16) rfl (hb hby dd_jdk_118_method_30_code_11) rfl ((if0 _ _).trans (flt (by rw [ho]; decide)).2.2.2) (by decide) (by decide) k) ?_
    refine Go.st (g' := (mkF m 17 #[.val (.float f0), .val (.float g0), .unset, .unset] [(.float f0)])) (fun _ k => XS.floadN W0.here hx rfl (hb hby dd_jdk_118_method_30_code_16) rfl  k) ?_
    obtain ⟨_, vm1, T1, h1, W1, Q1, z1, SF1, st1⟩ := W0.callS hx hEL (own_fti l hE W0.old (f0 := f0) hf ) (hw _ (List.mem_of_getElem? (i := 23) rfl)) (hw _ (List.mem_of_getElem? (i := 24) rfl)) (hw _ (List.mem_of_getElem? (i := 17) rfl)) (hw _ (List.mem_of_getElem? (i := 25) rfl)) (by decide) (Wd := 0) (by decide) (by decide) (by decide) (by decide) (g := (mkF m 17 #[.val (.float f0), .val (.float g0), .unset, .unset] [(.float f0)])) rfl (by rw [hml]; rfl) (argsL := [(.float f0)]) (rest := []) rfl (lenOf pd__F_I rfl) rfl (by show 2 * 0 + _ ≤ _; exact Nat.le_of_eq rfl) (hb hby dd_jdk_118_method_30_code_17)
    obtain ⟨rfl, eh1⟩ := Q1
    subst eh1
    refine Go.tr (g' := (mkF m 20 #[.val (.float f0), .val (.float g0), .unset, .unset] [(.int (f0.toInt32))])) st1 ?_
    refine Go.st (g' := (mkF m 21 #[.val (.float f0), .val (.float g0), .val (.int (f0.toInt32)), .unset] [])) (fun _ k => XS.istoreN W1.here hx rfl (hb hby dd_jdk_118_method_30_code_20) rfl (l' := #[.val (.float f0), .val (.float g0), .val (.int (f0.toInt32)), .unset]) rfl k) ?_
    refine Go.st (g' := (mkF m 22 #[.val (.float f0), .val (.float g0), .val (.int (f0.toInt32)), .unset] [(.float g0)])) (fun _ k => XS.floadN W1.here hx rfl (hb hby dd_jdk_118_method_30_code_21) rfl  k) ?_
    obtain ⟨_, vm2, T2, h2, W2, Q2, z2, SF2, st2⟩ := W1.callS hx hEL (own_fti l hE W1.old (f0 := g0) hg ) (hw _ (List.mem_of_getElem? (i := 23) rfl)) (hw _ (List.mem_of_getElem? (i := 24) rfl)) (hw _ (List.mem_of_getElem? (i := 17) rfl)) (hw _ (List.mem_of_getElem? (i := 25) rfl)) (by decide) (Wd := 0) (by decide) (by decide) (by decide) (by decide) (g := (mkF m 22 #[.val (.float f0), .val (.float g0), .val (.int (f0.toInt32)), .unset] [(.float g0)])) rfl (by rw [hml]; rfl) (argsL := [(.float g0)]) (rest := []) rfl (lenOf pd__F_I rfl) rfl (by show 2 * 0 + _ ≤ _; exact Nat.le_of_eq rfl) (hb hby dd_jdk_118_method_30_code_22)
    obtain ⟨rfl, eh2⟩ := Q2
    subst eh2
    refine Go.tr (g' := (mkF m 25 #[.val (.float f0), .val (.float g0), .val (.int (f0.toInt32)), .unset] [(.int (g0.toInt32))])) st2 ?_
    refine Go.st (g' := (mkF m 26 #[.val (.float f0), .val (.float g0), .val (.int (f0.toInt32)), .val (.int (g0.toInt32))] [])) (fun _ k => XS.istoreN W2.here hx rfl (hb hby dd_jdk_118_method_30_code_25) rfl (l' := #[.val (.float f0), .val (.float g0), .val (.int (f0.toInt32)), .val (.int (g0.toInt32))]) rfl k) ?_
    refine Go.st (g' := (mkF m 27 #[.val (.float f0), .val (.float g0), .val (.int (f0.toInt32)), .val (.int (g0.toInt32))] [(.int (f0.toInt32))])) (fun _ k => XS.iloadN W2.here hx rfl (hb hby dd_jdk_118_method_30_code_26) rfl  k) ?_
    refine Go.st (g' := (mkF m 28 #[.val (.float f0), .val (.float g0), .val (.int (f0.toInt32)), .val (.int (g0.toInt32))] [(.int (g0.toInt32)), (.int (f0.toInt32))])) (fun _ k => XS.iloadN W2.here hx rfl (hb hby dd_jdk_118_method_30_code_27) rfl  k) ?_
    refine Go.st (g' := (mkF m 31 #[.val (.float f0), .val (.float g0), .val (.int (f0.toInt32)), .val (.int (g0.toInt32))] [])) (fun _ k => XS.icmpNo W2.here hx rfl (hb hby dd_jdk_118_method_30_code_28) rfl (teq (congrArg UInt32.toInt32 (own_bits hf hg zf zg ho))).2 k) ?_
    refine Go.st (g' := (mkF m 32 #[.val (.float f0), .val (.float g0), .val (.int (f0.toInt32)), .val (.int (g0.toInt32))] [(.int (0 : Int32))])) (fun _ k => XS.iconst W2.here hx rfl (hb hby dd_jdk_118_method_30_code_31) k) ?_
    refine Go.st (g' := (mkF m 45 #[.val (.float f0), .val (.float g0), .val (.int (f0.toInt32)), .val (.int (g0.toInt32))] [(.int (0 : Int32))])) (fun _ k => XS.goto W2.here hx rfl (pc0 := 32) (pc' := 45) rfl (hb hby dd_jdk_118_method_30_code_32) (by decide) (by decide) k) ?_
    exact W2.retI hx hEL hlk hret (hb hby dd_jdk_118_method_30_code_45) (by decide) (by decide) ⟨(by show some (Value.int (0 : Int32)) = _; rw [ho]; rfl), rfl⟩
set_option maxRecDepth 65536 in
set_option maxHeartbeats 4000000 in
theorem own_cs (l : Launch) {Z : State} {a0 : Array Value} (hE : Ctx Z a0) {n0 : Nat} {h0 : Heap} (O : Old Z n0 h0) {d0 : UInt64} {d1 : UInt64} (hn0 : FP.dIsNaN d0 = false) (hn1 : FP.dIsNaN d1 = false)  :
    Met l (⟨"com/example/amherst/amherst/text/ScoredDocument", "compareScores", "(DD)I"⟩ : MethodName) prog_25_method_4_code 4 (Option.some Jvm.ClassFile.FieldType.int) ({ frames := 3, cells := 0, slots := 0, locals := 42 } : Room) Z consts_1 n0 [] #[(.double d0), (.double d1)] h0 (fun v h => v = some (.int (own_ord (FP.fcmp (FP.d2f d0) (FP.d2f d1)))) ∧ h0 = h) := by
  have hw := hE.1
  have hEL := own_EW hw
  refine Met.of (by first | (refine plainFor_of_name ?_; simp [plainName, overriddenIn]; done) | decide +kernel) O rfl ?_
  intro p e s m below meth c T0 hx hby hml hret hlk hnm hh0 W0
  have z0 := W0.ge
  refine Go.st (g' := (mkF m 0 #[.val (.double d0), .second, .val (.double d1), .second] [])) (fun _ k => castTop (by first | (simp [entryFrame, mkF, argsToLocals, maxLocals, own_catI, own_catJ, own_catD, own_catF, own_catA, own_catN]; done) | rfl) k) ?_
  refine Go.st (g' := (mkF m 1 #[.val (.double d0), .second, .val (.double d1), .second] [(.double d0)])) (fun _ k => XS.dloadN W0.here hx rfl (hb hby dd_prog_25_method_4_code_0) rfl  k) ?_
  refine Go.st (g' := (mkF m 2 #[.val (.double d0), .second, .val (.double d1), .second] [(.float (FP.d2f d0))])) (fun _ k => XS.d2fS W0.here hx rfl (hb hby dd_prog_25_method_4_code_1) rfl (Jvm.Free.Fl.noNaN32_no.mpr ((FP.d2f_nan d0).trans hn0)) rfl k) ?_
  refine Go.st (g' := (mkF m 3 #[.val (.double d0), .second, .val (.double d1), .second] [(.float FP.fconst0), (.float (FP.d2f d0))])) (fun _ k => XS.fconst0 W0.here hx rfl (hb hby dd_prog_25_method_4_code_2) rfl k) ?_
  refine Go.st (g' := (mkF m 4 #[.val (.double d0), .second, .val (.double d1), .second] [(.float (FP.fadd (FP.d2f d0) FP.fconst0))])) (fun _ k => XS.faddS W0.here hx rfl (hb hby dd_prog_25_method_4_code_3) rfl (Jvm.Free.Fl.noNaN32_no.mpr (own_add0 ((FP.d2f_nan d0).trans hn0)).1) rfl k) ?_
  refine Go.st (g' := (mkF m 5 #[.val (.double d0), .second, .val (.double d1), .second] [(.double d1), (.float (FP.fadd (FP.d2f d0) FP.fconst0))])) (fun _ k => XS.dloadN W0.here hx rfl (hb hby dd_prog_25_method_4_code_4) rfl  k) ?_
  refine Go.st (g' := (mkF m 6 #[.val (.double d0), .second, .val (.double d1), .second] [(.float (FP.d2f d1)), (.float (FP.fadd (FP.d2f d0) FP.fconst0))])) (fun _ k => XS.d2fS W0.here hx rfl (hb hby dd_prog_25_method_4_code_5) rfl (Jvm.Free.Fl.noNaN32_no.mpr ((FP.d2f_nan d1).trans hn1)) rfl k) ?_
  refine Go.st (g' := (mkF m 7 #[.val (.double d0), .second, .val (.double d1), .second] [(.float FP.fconst0), (.float (FP.d2f d1)), (.float (FP.fadd (FP.d2f d0) FP.fconst0))])) (fun _ k => XS.fconst0 W0.here hx rfl (hb hby dd_prog_25_method_4_code_6) rfl k) ?_
  refine Go.st (g' := (mkF m 8 #[.val (.double d0), .second, .val (.double d1), .second] [(.float (FP.fadd (FP.d2f d1) FP.fconst0)), (.float (FP.fadd (FP.d2f d0) FP.fconst0))])) (fun _ k => XS.faddS W0.here hx rfl (hb hby dd_prog_25_method_4_code_7) rfl (Jvm.Free.Fl.noNaN32_no.mpr (own_add0 ((FP.d2f_nan d1).trans hn1)).1) rfl k) ?_
  obtain ⟨_, vm1, T1, h1, W1, Q1, z1, SF1, st1⟩ := W0.callS hx hEL (own_fcmp l hE W0.old (f0 := (FP.fadd (FP.d2f d0) FP.fconst0)) (g0 := (FP.fadd (FP.d2f d1) FP.fconst0)) (own_add0 ((FP.d2f_nan d0).trans hn0)).1 (own_add0 ((FP.d2f_nan d1).trans hn1)).1 (own_add0 ((FP.d2f_nan d0).trans hn0)).2.1 (own_add0 ((FP.d2f_nan d1).trans hn1)).2.1 ) (hw _ (List.mem_of_getElem? (i := 15) rfl)) (hw _ (List.mem_of_getElem? (i := 16) rfl)) (hw _ (List.mem_of_getElem? (i := 17) rfl)) (hw _ (List.mem_of_getElem? (i := 18) rfl)) (by decide) (Wd := 0) (by decide) (by decide) (by decide) (by decide) (g := (mkF m 8 #[.val (.double d0), .second, .val (.double d1), .second] [(.float (FP.fadd (FP.d2f d1) FP.fconst0)), (.float (FP.fadd (FP.d2f d0) FP.fconst0))])) rfl (by rw [hml]; rfl) (argsL := [(.float (FP.fadd (FP.d2f d0) FP.fconst0)), (.float (FP.fadd (FP.d2f d1) FP.fconst0))]) (rest := []) rfl (lenOf pd__FF_I rfl) rfl (by show 2 * 0 + _ ≤ _; exact Nat.le_of_eq rfl) (hb hby dd_prog_25_method_4_code_8)
  obtain ⟨rfl, eh1⟩ := Q1
  subst eh1
  refine Go.tr (g' := (mkF m 11 #[.val (.double d0), .second, .val (.double d1), .second] [(.int (own_ord (FP.fcmp (FP.fadd (FP.d2f d0) FP.fconst0) (FP.fadd (FP.d2f d1) FP.fconst0))))])) st1 ?_
  exact W1.retI hx hEL hlk hret (hb hby dd_prog_25_method_4_code_11) (by decide) (by decide) ⟨(congrArg (fun o => some (Value.int (own_ord o))) (own_cmp0 ((FP.d2f_nan d0).trans hn0) ((FP.d2f_nan d1).trans hn1))), rfl⟩
set_option maxRecDepth 65536 in
set_option maxHeartbeats 4000000 in
theorem own_sign (l : Launch) {Z : State} {a0 : Array Value} (hE : Ctx Z a0) {n0 : Nat} {h0 : Heap} (O : Old Z n0 h0) {r0 : Int32}   :
    Met l (⟨"com/example/amherst/amherst/text/ScoredDocumentCompareScoresPinLaw", "sign", "(I)I"⟩ : MethodName) method_5_code 1 (Option.some Jvm.ClassFile.FieldType.int) ({ frames := 0, cells := 0, slots := 0, locals := 0 } : Room) Z consts_1 n0 [] #[(.int r0)] h0 (fun v h => v = some (.int (own_sg r0)) ∧ h0 = h) := by
  have hw := hE.1
  have hEL := own_EW hw
  refine Met.of (by first | (refine plainFor_of_name ?_; simp [plainName, overriddenIn]; done) | decide +kernel) O rfl ?_
  intro p e s m below meth c T0 hx hby hml hret hlk hnm hh0 W0
  have z0 := W0.ge
  refine Go.st (g' := (mkF m 0 #[.val (.int r0)] [])) (fun _ k => castTop (by first | (simp [entryFrame, mkF, argsToLocals, maxLocals, own_catI, own_catJ, own_catD, own_catF, own_catA, own_catN]; done) | rfl) k) ?_
  refine Go.st (g' := (mkF m 1 #[.val (.int r0)] [(.int r0)])) (fun _ k => XS.iloadN W0.here hx rfl (hb hby dd_method_5_code_0) rfl  k) ?_
  by_cases hc1 : r0 < (0 : Int32)
  · refine Go.st (g' := (mkF m 4 #[.val (.int r0)] [])) (fun _ k => XS.ifNo W0.here hx rfl (hb hby dd_method_5_code_1) rfl ((if0 _ _).trans (tlt hc1).2.1) k) ?_
    refine Go.st (g' := (mkF m 5 #[.val (.int r0)] [(.int (-1 : Int32))])) (fun _ k => XS.iconst W0.here hx rfl (hb hby dd_method_5_code_4) k) ?_
    exact W0.retI hx hEL hlk hret (hb hby dd_method_5_code_5) (by decide) (by decide) ⟨(by show some (Value.int (-1 : Int32)) = _; unfold own_sg; simp [hc1]), rfl⟩
  · refine Go.st (g' := (mkF m 6 #[.val (.int r0)] [])) (fun _ k => XS.ifYes W0.here hx rfl (pc0 := 1) (pc' := 6) rfl (hb hby dd_method_5_code_1) rfl ((if0 _ _).trans (flt hc1).2.1) (by decide) (by decide) k) ?_
    refine Go.st (g' := (mkF m 7 #[.val (.int r0)] [(.int r0)])) (fun _ k => XS.iloadN W0.here hx rfl (hb hby dd_method_5_code_6) rfl  k) ?_
    by_cases hc2 : (0 : Int32) < r0
    · refine Go.st (g' := (mkF m 10 #[.val (.int r0)] [])) (fun _ k => XS.ifNo W0.here hx rfl (hb hby dd_method_5_code_7) rfl ((if0 _ _).trans (tlt hc2).2.2.2) k) ?_
      refine Go.st (g' := (mkF m 11 #[.val (.int r0)] [(.int (1 : Int32))])) (fun _ k => XS.iconst W0.here hx rfl (hb hby dd_method_5_code_10) k) ?_
      exact W0.retI hx hEL hlk hret (hb hby dd_method_5_code_11) (by decide) (by decide) ⟨(by show some (Value.int (1 : Int32)) = _; unfold own_sg; simp [hc1, hc2]), rfl⟩
    · refine Go.st (g' := (mkF m 12 #[.val (.int r0)] [])) (fun _ k => XS.ifYes W0.here hx rfl (pc0 := 7) (pc' := 12) rfl (hb hby dd_method_5_code_7) rfl ((if0 _ _).trans (flt hc2).2.2.2) (by decide) (by decide) k) ?_
      refine Go.st (g' := (mkF m 13 #[.val (.int r0)] [(.int (0 : Int32))])) (fun _ k => XS.iconst W0.here hx rfl (hb hby dd_method_5_code_12) k) ?_
      exact W0.retI hx hEL hlk hret (hb hby dd_method_5_code_13) (by decide) (by decide) ⟨(by show some (Value.int (0 : Int32)) = _; unfold own_sg; simp [hc1, hc2]), rfl⟩
set_option maxRecDepth 65536 in
set_option maxHeartbeats 4000000 in
theorem own_law (l : Launch) {Z : State} {a0 : Array Value} (hE : Ctx Z a0) {n0 : Nat} {h0 : Heap} (O : Old Z n0 h0) {p0 : Int32} {p1 : Int32} {p2 : Int32} {p3 : Int32} {p4 : Int32}   :
    Met l x code 10 ret room_1 Z consts_1 n0 tables_1 #[(.int p0), (.int p1), (.int p2), (.int p3), (.int p4)] h0 (fun v h => v = some (.int (1 : Int32))) := by
  have hw := hE.1
  have hEL := own_EW hw
  refine Met.of (by first | (refine plainFor_of_name ?_; simp [plainName, overriddenIn]; done) | decide +kernel) O rfl ?_
  intro p e s m below meth c T0 hx hby hml hret hlk hnm hh0 W0
  have z0 := W0.ge
  refine Go.st (g' := (mkF m 0 #[.val (.int p0), .val (.int p1), .val (.int p2), .val (.int p3), .val (.int p4), .unset, .unset, .unset, .unset, .unset] [])) (fun _ k => castTop (by first | (simp [entryFrame, mkF, argsToLocals, maxLocals, own_catI, own_catJ, own_catD, own_catF, own_catA, own_catN]; done) | rfl) k) ?_
  refine Go.st (g' := (mkF m 1 #[.val (.int p0), .val (.int p1), .val (.int p2), .val (.int p3), .val (.int p4), .unset, .unset, .unset, .unset, .unset] [(.int p0)])) (fun _ k => XS.iloadN W0.here hx rfl (hb hby at_0) rfl  k) ?_
  refine Go.st (g' := (mkF m 2 #[.val (.int p0), .val (.int p1), .val (.int p2), .val (.int p3), .val (.int p4), .unset, .unset, .unset, .unset, .unset] [(.int p2), (.int p0)])) (fun _ k => XS.iloadN W0.here hx rfl (hb hby at_1) rfl  k) ?_
  refine Go.st (g' := (mkF m 4 #[.val (.int p0), .val (.int p1), .val (.int p2), .val (.int p3), .val (.int p4), .unset, .unset, .unset, .unset, .unset] [(.int p4), (.int p2), (.int p0)])) (fun _ k => XS.iload W0.here hx rfl (hb hby at_2) rfl  k) ?_
  refine Go.st (g' := (mkF m 5 #[.val (.int p0), .val (.int p1), .val (.int p2), .val (.int p3), .val (.int p4), .unset, .unset, .unset, .unset, .unset] [(.int (1 : Int32)), (.int p4), (.int p2), (.int p0)])) (fun _ k => XS.iconst W0.here hx rfl (hb hby at_4) k) ?_
  refine Go.st (g' := (mkF m 6 #[.val (.int p0), .val (.int p1), .val (.int p2), .val (.int p3), .val (.int p4), .unset, .unset, .unset, .unset, .unset] [(.int (p4 &&& (1 : Int32))), (.int p2), (.int p0)])) (fun _ k => XS.iand W0.here hx rfl (hb hby at_5) rfl k) ?_
  refine Go.st (g' := (mkF m 14 #[.val (.int p0), .val (.int p1), .val (.int p2), .val (.int p3), .val (.int p4), .unset, .unset, .unset, .unset, .unset] [(.int (if (p4 &&& (1 : Int32)) = (0 : Int32) then (0 : Int32) else (1 : Int32))), (.int p2), (.int p0)])) (fun t k => by
    by_cases hq : (p4 &&& (1 : Int32)) = (0 : Int32)
    · rw [if_pos hq] at k; exact XS.ifYes W0.here hx rfl (pc0 := 6) (pc' := 13) rfl (hb hby at_6) rfl ((if0 _ _).trans (teq hq).1) (by decide) (by decide) (XS.iconst W0.here hx rfl (hb hby at_13) k)
    · rw [if_neg hq] at k; exact XS.ifNo W0.here hx rfl (hb hby at_6) rfl ((if0 _ _).trans (feq hq).1) (XS.iconst W0.here hx rfl (hb hby at_9) (XS.goto W0.here hx rfl (pc0 := 10) (pc' := 14) rfl (hb hby at_10) (by decide) (by decide) k))) ?_
  obtain ⟨_, vm2, T2, h2, W2, Q2, z2, SF2, st2⟩ := W0.callS hx hEL (own_score l hE W0.old (p0 := p0) (e0 := p2) (bz := (if (p4 &&& (1 : Int32)) = (0 : Int32) then (0 : Int32) else (1 : Int32)))  ) (hw _ (List.mem_of_getElem? (i := 0) rfl)) (hw _ (List.mem_of_getElem? (i := 1) rfl)) (hw _ (List.mem_of_getElem? (i := 2) rfl)) (hw _ (List.mem_of_getElem? (i := 3) rfl)) (by decide) (Wd := 0) (by decide) (by decide) (by decide) (by decide) (g := (mkF m 14 #[.val (.int p0), .val (.int p1), .val (.int p2), .val (.int p3), .val (.int p4), .unset, .unset, .unset, .unset, .unset] [(.int (if (p4 &&& (1 : Int32)) = (0 : Int32) then (0 : Int32) else (1 : Int32))), (.int p2), (.int p0)])) rfl (by rw [hml]; rfl) (argsL := [(.int p0), (.int p2), (.int (if (p4 &&& (1 : Int32)) = (0 : Int32) then (0 : Int32) else (1 : Int32)))]) (rest := []) rfl (lenOf pd__IIZ_D rfl) rfl (by show 2 * 0 + _ ≤ _; exact Nat.le_of_eq rfl) (hb hby at_14)
  obtain ⟨r_2, rfl, p2_0, eh2⟩ := Q2
  subst eh2
  refine Go.tr (g' := (mkF m 17 #[.val (.int p0), .val (.int p1), .val (.int p2), .val (.int p3), .val (.int p4), .unset, .unset, .unset, .unset, .unset] [(.double r_2)])) st2 ?_
  refine Go.st (g' := (mkF m 19 #[.val (.int p0), .val (.int p1), .val (.int p2), .val (.int p3), .val (.int p4), .val (.double r_2), .second, .unset, .unset, .unset] [])) (fun _ k => XS.dstore W2.here hx rfl (hb hby at_17) rfl (l' := #[.val (.int p0), .val (.int p1), .val (.int p2), .val (.int p3), .val (.int p4), .val (.double r_2), .second, .unset, .unset, .unset]) rfl k) ?_
  refine Go.st (g' := (mkF m 20 #[.val (.int p0), .val (.int p1), .val (.int p2), .val (.int p3), .val (.int p4), .val (.double r_2), .second, .unset, .unset, .unset] [(.int p1)])) (fun _ k => XS.iloadN W2.here hx rfl (hb hby at_19) rfl  k) ?_
  refine Go.st (g' := (mkF m 21 #[.val (.int p0), .val (.int p1), .val (.int p2), .val (.int p3), .val (.int p4), .val (.double r_2), .second, .unset, .unset, .unset] [(.int p3), (.int p1)])) (fun _ k => XS.iloadN W2.here hx rfl (hb hby at_20) rfl  k) ?_
  refine Go.st (g' := (mkF m 23 #[.val (.int p0), .val (.int p1), .val (.int p2), .val (.int p3), .val (.int p4), .val (.double r_2), .second, .unset, .unset, .unset] [(.int p4), (.int p3), (.int p1)])) (fun _ k => XS.iload W2.here hx rfl (hb hby at_21) rfl  k) ?_
  refine Go.st (g' := (mkF m 24 #[.val (.int p0), .val (.int p1), .val (.int p2), .val (.int p3), .val (.int p4), .val (.double r_2), .second, .unset, .unset, .unset] [(.int (2 : Int32)), (.int p4), (.int p3), (.int p1)])) (fun _ k => XS.iconst W2.here hx rfl (hb hby at_23) k) ?_
  refine Go.st (g' := (mkF m 25 #[.val (.int p0), .val (.int p1), .val (.int p2), .val (.int p3), .val (.int p4), .val (.double r_2), .second, .unset, .unset, .unset] [(.int (p4 &&& (2 : Int32))), (.int p3), (.int p1)])) (fun _ k => XS.iand W2.here hx rfl (hb hby at_24) rfl k) ?_
  refine Go.st (g' := (mkF m 33 #[.val (.int p0), .val (.int p1), .val (.int p2), .val (.int p3), .val (.int p4), .val (.double r_2), .second, .unset, .unset, .unset] [(.int (if (p4 &&& (2 : Int32)) = (0 : Int32) then (0 : Int32) else (1 : Int32))), (.int p3), (.int p1)])) (fun t k => by
    by_cases hq : (p4 &&& (2 : Int32)) = (0 : Int32)
    · rw [if_pos hq] at k; exact XS.ifYes W2.here hx rfl (pc0 := 25) (pc' := 32) rfl (hb hby at_25) rfl ((if0 _ _).trans (teq hq).1) (by decide) (by decide) (XS.iconst W2.here hx rfl (hb hby at_32) k)
    · rw [if_neg hq] at k; exact XS.ifNo W2.here hx rfl (hb hby at_25) rfl ((if0 _ _).trans (feq hq).1) (XS.iconst W2.here hx rfl (hb hby at_28) (XS.goto W2.here hx rfl (pc0 := 29) (pc' := 33) rfl (hb hby at_29) (by decide) (by decide) k))) ?_
  obtain ⟨_, vm4, T4, h4, W4, Q4, z4, SF4, st4⟩ := W2.callS hx hEL (own_score l hE W2.old (p0 := p1) (e0 := p3) (bz := (if (p4 &&& (2 : Int32)) = (0 : Int32) then (0 : Int32) else (1 : Int32)))  ) (hw _ (List.mem_of_getElem? (i := 0) rfl)) (hw _ (List.mem_of_getElem? (i := 1) rfl)) (hw _ (List.mem_of_getElem? (i := 2) rfl)) (hw _ (List.mem_of_getElem? (i := 3) rfl)) (by decide) (Wd := 0) (by decide) (by decide) (by decide) (by decide) (g := (mkF m 33 #[.val (.int p0), .val (.int p1), .val (.int p2), .val (.int p3), .val (.int p4), .val (.double r_2), .second, .unset, .unset, .unset] [(.int (if (p4 &&& (2 : Int32)) = (0 : Int32) then (0 : Int32) else (1 : Int32))), (.int p3), (.int p1)])) rfl (by rw [hml]; rfl) (argsL := [(.int p1), (.int p3), (.int (if (p4 &&& (2 : Int32)) = (0 : Int32) then (0 : Int32) else (1 : Int32)))]) (rest := []) rfl (lenOf pd__IIZ_D rfl) rfl (by show 2 * 0 + _ ≤ _; exact Nat.le_of_eq rfl) (hb hby at_33)
  obtain ⟨r_4, rfl, p4_0, eh4⟩ := Q4
  subst eh4
  refine Go.tr (g' := (mkF m 36 #[.val (.int p0), .val (.int p1), .val (.int p2), .val (.int p3), .val (.int p4), .val (.double r_2), .second, .unset, .unset, .unset] [(.double r_4)])) st4 ?_
  refine Go.st (g' := (mkF m 38 #[.val (.int p0), .val (.int p1), .val (.int p2), .val (.int p3), .val (.int p4), .val (.double r_2), .second, .val (.double r_4), .second, .unset] [])) (fun _ k => XS.dstore W4.here hx rfl (hb hby at_36) rfl (l' := #[.val (.int p0), .val (.int p1), .val (.int p2), .val (.int p3), .val (.int p4), .val (.double r_2), .second, .val (.double r_4), .second, .unset]) rfl k) ?_
  refine Go.st (g' := (mkF m 40 #[.val (.int p0), .val (.int p1), .val (.int p2), .val (.int p3), .val (.int p4), .val (.double r_2), .second, .val (.double r_4), .second, .unset] [(.double r_2)])) (fun _ k => XS.dload W4.here hx rfl (hb hby at_38) rfl  k) ?_
  refine Go.st (g' := (mkF m 42 #[.val (.int p0), .val (.int p1), .val (.int p2), .val (.int p3), .val (.int p4), .val (.double r_2), .second, .val (.double r_4), .second, .unset] [(.double r_4), (.double r_2)])) (fun _ k => XS.dload W4.here hx rfl (hb hby at_40) rfl  k) ?_
  obtain ⟨_, vm5, T5, h5, W5, Q5, z5, SF5, st5⟩ := W4.callS hx hEL (own_expd l hE W4.old (d0 := r_2) (d1 := r_4) p2_0 p4_0 ) (hw _ (List.mem_of_getElem? (i := 8) rfl)) (hw _ (List.mem_of_getElem? (i := 9) rfl)) (hw _ (List.mem_of_getElem? (i := 2) rfl)) (hw _ (List.mem_of_getElem? (i := 10) rfl)) (by decide) (Wd := 0) (by decide) (by decide) (by decide) (by decide) (g := (mkF m 42 #[.val (.int p0), .val (.int p1), .val (.int p2), .val (.int p3), .val (.int p4), .val (.double r_2), .second, .val (.double r_4), .second, .unset] [(.double r_4), (.double r_2)])) rfl (by rw [hml]; rfl) (argsL := [(.double r_2), (.double r_4)]) (rest := []) rfl (lenOf pd__DD_I rfl) rfl (by show 2 * 0 + _ ≤ _; exact Nat.le_of_eq rfl) (hb hby at_42)
  obtain ⟨rfl, eh5⟩ := Q5
  subst eh5
  refine Go.tr (g' := (mkF m 45 #[.val (.int p0), .val (.int p1), .val (.int p2), .val (.int p3), .val (.int p4), .val (.double r_2), .second, .val (.double r_4), .second, .unset] [(.int (own_ord (FP.fcmp (FP.d2f r_2) (FP.d2f r_4))))])) st5 ?_
  refine Go.st (g' := (mkF m 47 #[.val (.int p0), .val (.int p1), .val (.int p2), .val (.int p3), .val (.int p4), .val (.double r_2), .second, .val (.double r_4), .second, .val (.int (own_ord (FP.fcmp (FP.d2f r_2) (FP.d2f r_4))))] [])) (fun _ k => XS.istore W5.here hx rfl (hb hby at_45) rfl (l' := #[.val (.int p0), .val (.int p1), .val (.int p2), .val (.int p3), .val (.int p4), .val (.double r_2), .second, .val (.double r_4), .second, .val (.int (own_ord (FP.fcmp (FP.d2f r_2) (FP.d2f r_4))))]) rfl k) ?_
  refine Go.st (g' := (mkF m 49 #[.val (.int p0), .val (.int p1), .val (.int p2), .val (.int p3), .val (.int p4), .val (.double r_2), .second, .val (.double r_4), .second, .val (.int (own_ord (FP.fcmp (FP.d2f r_2) (FP.d2f r_4))))] [(.double r_2)])) (fun _ k => XS.dload W5.here hx rfl (hb hby at_47) rfl  k) ?_
  refine Go.st (g' := (mkF m 51 #[.val (.int p0), .val (.int p1), .val (.int p2), .val (.int p3), .val (.int p4), .val (.double r_2), .second, .val (.double r_4), .second, .val (.int (own_ord (FP.fcmp (FP.d2f r_2) (FP.d2f r_4))))] [(.double r_4), (.double r_2)])) (fun _ k => XS.dload W5.here hx rfl (hb hby at_49) rfl  k) ?_
  obtain ⟨_, vm6, T6, h6, W6, Q6, z6, SF6, st6⟩ := W5.callS hx hEL (own_cs l hE W5.old (d0 := r_2) (d1 := r_4) p2_0 p4_0 ) (hw _ (List.mem_of_getElem? (i := 11) rfl)) (hw _ (List.mem_of_getElem? (i := 12) rfl)) (hw _ (List.mem_of_getElem? (i := 13) rfl)) (hw _ (List.mem_of_getElem? (i := 14) rfl)) (by decide) (Wd := 0) (by decide) (by decide) (by decide) (by decide) (g := (mkF m 51 #[.val (.int p0), .val (.int p1), .val (.int p2), .val (.int p3), .val (.int p4), .val (.double r_2), .second, .val (.double r_4), .second, .val (.int (own_ord (FP.fcmp (FP.d2f r_2) (FP.d2f r_4))))] [(.double r_4), (.double r_2)])) rfl (by rw [hml]; rfl) (argsL := [(.double r_2), (.double r_4)]) (rest := []) rfl (lenOf pd__DD_I rfl) rfl (by show 2 * 0 + _ ≤ _; exact Nat.le_of_eq rfl) (hb hby at_51)
  obtain ⟨rfl, eh6⟩ := Q6
  subst eh6
  refine Go.tr (g' := (mkF m 54 #[.val (.int p0), .val (.int p1), .val (.int p2), .val (.int p3), .val (.int p4), .val (.double r_2), .second, .val (.double r_4), .second, .val (.int (own_ord (FP.fcmp (FP.d2f r_2) (FP.d2f r_4))))] [(.int (own_ord (FP.fcmp (FP.d2f r_2) (FP.d2f r_4))))])) st6 ?_
  obtain ⟨_, vm7, T7, h7, W7, Q7, z7, SF7, st7⟩ := W6.callS hx hEL (own_sign l hE W6.old (r0 := (own_ord (FP.fcmp (FP.d2f r_2) (FP.d2f r_4))))  ) (hw _ (List.mem_of_getElem? (i := 19) rfl)) (hw _ (List.mem_of_getElem? (i := 20) rfl)) (hw _ (List.mem_of_getElem? (i := 2) rfl)) (hw _ (List.mem_of_getElem? (i := 21) rfl)) (by decide) (Wd := 0) (by decide) (by decide) (by decide) (by decide) (g := (mkF m 54 #[.val (.int p0), .val (.int p1), .val (.int p2), .val (.int p3), .val (.int p4), .val (.double r_2), .second, .val (.double r_4), .second, .val (.int (own_ord (FP.fcmp (FP.d2f r_2) (FP.d2f r_4))))] [(.int (own_ord (FP.fcmp (FP.d2f r_2) (FP.d2f r_4))))])) rfl (by rw [hml]; rfl) (argsL := [(.int (own_ord (FP.fcmp (FP.d2f r_2) (FP.d2f r_4))))]) (rest := []) rfl (lenOf pd__I_I rfl) rfl (by show 2 * 0 + _ ≤ _; exact Nat.le_of_eq rfl) (hb hby at_54)
  obtain ⟨rfl, eh7⟩ := Q7
  subst eh7
  refine Go.tr (g' := (mkF m 57 #[.val (.int p0), .val (.int p1), .val (.int p2), .val (.int p3), .val (.int p4), .val (.double r_2), .second, .val (.double r_4), .second, .val (.int (own_ord (FP.fcmp (FP.d2f r_2) (FP.d2f r_4))))] [(.int (own_sg (own_ord (FP.fcmp (FP.d2f r_2) (FP.d2f r_4)))))])) st7 ?_
  refine Go.st (g' := (mkF m 59 #[.val (.int p0), .val (.int p1), .val (.int p2), .val (.int p3), .val (.int p4), .val (.double r_2), .second, .val (.double r_4), .second, .val (.int (own_ord (FP.fcmp (FP.d2f r_2) (FP.d2f r_4))))] [(.int (own_ord (FP.fcmp (FP.d2f r_2) (FP.d2f r_4)))), (.int (own_sg (own_ord (FP.fcmp (FP.d2f r_2) (FP.d2f r_4)))))])) (fun _ k => XS.iload W7.here hx rfl (hb hby at_57) rfl  k) ?_
  refine Go.st (g' := (mkF m 62 #[.val (.int p0), .val (.int p1), .val (.int p2), .val (.int p3), .val (.int p4), .val (.double r_2), .second, .val (.double r_4), .second, .val (.int (own_ord (FP.fcmp (FP.d2f r_2) (FP.d2f r_4))))] [])) (fun _ k => XS.icmpNo W7.here hx rfl (hb hby at_59) rfl (teq (own_sgo _)).2 k) ?_
  refine Go.st (g' := (mkF m 64 #[.val (.int p0), .val (.int p1), .val (.int p2), .val (.int p3), .val (.int p4), .val (.double r_2), .second, .val (.double r_4), .second, .val (.int (own_ord (FP.fcmp (FP.d2f r_2) (FP.d2f r_4))))] [(.double r_4)])) (fun _ k => XS.dload W7.here hx rfl (hb hby at_62) rfl  k) ?_
  refine Go.st (g' := (mkF m 66 #[.val (.int p0), .val (.int p1), .val (.int p2), .val (.int p3), .val (.int p4), .val (.double r_2), .second, .val (.double r_4), .second, .val (.int (own_ord (FP.fcmp (FP.d2f r_2) (FP.d2f r_4))))] [(.double r_2), (.double r_4)])) (fun _ k => XS.dload W7.here hx rfl (hb hby at_64) rfl  k) ?_
  obtain ⟨_, vm8, T8, h8, W8, Q8, z8, SF8, st8⟩ := W7.callS hx hEL (own_cs l hE W7.old (d0 := r_4) (d1 := r_2) p4_0 p2_0 ) (hw _ (List.mem_of_getElem? (i := 11) rfl)) (hw _ (List.mem_of_getElem? (i := 12) rfl)) (hw _ (List.mem_of_getElem? (i := 13) rfl)) (hw _ (List.mem_of_getElem? (i := 14) rfl)) (by decide) (Wd := 0) (by decide) (by decide) (by decide) (by decide) (g := (mkF m 66 #[.val (.int p0), .val (.int p1), .val (.int p2), .val (.int p3), .val (.int p4), .val (.double r_2), .second, .val (.double r_4), .second, .val (.int (own_ord (FP.fcmp (FP.d2f r_2) (FP.d2f r_4))))] [(.double r_2), (.double r_4)])) rfl (by rw [hml]; rfl) (argsL := [(.double r_4), (.double r_2)]) (rest := []) rfl (lenOf pd__DD_I rfl) rfl (by show 2 * 0 + _ ≤ _; exact Nat.le_of_eq rfl) (hb hby at_66)
  obtain ⟨rfl, eh8⟩ := Q8
  subst eh8
  refine Go.tr (g' := (mkF m 69 #[.val (.int p0), .val (.int p1), .val (.int p2), .val (.int p3), .val (.int p4), .val (.double r_2), .second, .val (.double r_4), .second, .val (.int (own_ord (FP.fcmp (FP.d2f r_2) (FP.d2f r_4))))] [(.int (own_ord (FP.fcmp (FP.d2f r_4) (FP.d2f r_2))))])) st8 ?_
  obtain ⟨_, vm9, T9, h9, W9, Q9, z9, SF9, st9⟩ := W8.callS hx hEL (own_sign l hE W8.old (r0 := (own_ord (FP.fcmp (FP.d2f r_4) (FP.d2f r_2))))  ) (hw _ (List.mem_of_getElem? (i := 19) rfl)) (hw _ (List.mem_of_getElem? (i := 20) rfl)) (hw _ (List.mem_of_getElem? (i := 2) rfl)) (hw _ (List.mem_of_getElem? (i := 21) rfl)) (by decide) (Wd := 0) (by decide) (by decide) (by decide) (by decide) (g := (mkF m 69 #[.val (.int p0), .val (.int p1), .val (.int p2), .val (.int p3), .val (.int p4), .val (.double r_2), .second, .val (.double r_4), .second, .val (.int (own_ord (FP.fcmp (FP.d2f r_2) (FP.d2f r_4))))] [(.int (own_ord (FP.fcmp (FP.d2f r_4) (FP.d2f r_2))))])) rfl (by rw [hml]; rfl) (argsL := [(.int (own_ord (FP.fcmp (FP.d2f r_4) (FP.d2f r_2))))]) (rest := []) rfl (lenOf pd__I_I rfl) rfl (by show 2 * 0 + _ ≤ _; exact Nat.le_of_eq rfl) (hb hby at_69)
  obtain ⟨rfl, eh9⟩ := Q9
  subst eh9
  refine Go.tr (g' := (mkF m 72 #[.val (.int p0), .val (.int p1), .val (.int p2), .val (.int p3), .val (.int p4), .val (.double r_2), .second, .val (.double r_4), .second, .val (.int (own_ord (FP.fcmp (FP.d2f r_2) (FP.d2f r_4))))] [(.int (own_sg (own_ord (FP.fcmp (FP.d2f r_4) (FP.d2f r_2)))))])) st9 ?_
  refine Go.st (g' := (mkF m 74 #[.val (.int p0), .val (.int p1), .val (.int p2), .val (.int p3), .val (.int p4), .val (.double r_2), .second, .val (.double r_4), .second, .val (.int (own_ord (FP.fcmp (FP.d2f r_2) (FP.d2f r_4))))] [(.int (own_ord (FP.fcmp (FP.d2f r_2) (FP.d2f r_4)))), (.int (own_sg (own_ord (FP.fcmp (FP.d2f r_4) (FP.d2f r_2)))))])) (fun _ k => XS.iload W9.here hx rfl (hb hby at_72) rfl  k) ?_
  refine Go.st (g' := (mkF m 75 #[.val (.int p0), .val (.int p1), .val (.int p2), .val (.int p3), .val (.int p4), .val (.double r_2), .second, .val (.double r_4), .second, .val (.int (own_ord (FP.fcmp (FP.d2f r_2) (FP.d2f r_4))))] [(.int (-(own_ord (FP.fcmp (FP.d2f r_2) (FP.d2f r_4))))), (.int (own_sg (own_ord (FP.fcmp (FP.d2f r_4) (FP.d2f r_2)))))])) (fun _ k => XS.ineg W9.here hx rfl (hb hby at_74) rfl k) ?_
  refine Go.st (g' := (mkF m 78 #[.val (.int p0), .val (.int p1), .val (.int p2), .val (.int p3), .val (.int p4), .val (.double r_2), .second, .val (.double r_4), .second, .val (.int (own_ord (FP.fcmp (FP.d2f r_2) (FP.d2f r_4))))] [])) (fun _ k => XS.icmpNo W9.here hx rfl (hb hby at_75) rfl (teq (own_neg _ _)).2 k) ?_
  refine Go.st (g' := (mkF m 79 #[.val (.int p0), .val (.int p1), .val (.int p2), .val (.int p3), .val (.int p4), .val (.double r_2), .second, .val (.double r_4), .second, .val (.int (own_ord (FP.fcmp (FP.d2f r_2) (FP.d2f r_4))))] [(.int (1 : Int32))])) (fun _ k => XS.iconst W9.here hx rfl (hb hby at_78) k) ?_
  refine Go.st (g' := (mkF m 83 #[.val (.int p0), .val (.int p1), .val (.int p2), .val (.int p3), .val (.int p4), .val (.double r_2), .second, .val (.double r_4), .second, .val (.int (own_ord (FP.fcmp (FP.d2f r_2) (FP.d2f r_4))))] [(.int (1 : Int32))])) (fun _ k => XS.goto W9.here hx rfl (pc0 := 79) (pc' := 83) rfl (hb hby at_79) (by decide) (by decide) k) ?_
  exact W9.retN hx hEL hlk (t := .boolean) hret (by decide) (hb hby at_83) (by decide) (by decide) rfl
set_option maxRecDepth 65536 in
set_option maxHeartbeats 4000000 in
theorem comes_1 {Post : Tables → Env → Array Value → State → Outcome → State → Prop} (hpost : ∀ tb e args s v u, (limb_1_1.after args s (.returned v) u = true ∧ limb_1_2.after args s (.returned v) u = true ∧ True) → FrameEnd s (.returned v) u (Jvm.fieldLocs frame_1_writes args s ++ Jvm.arrayLocs frame_1_arrays args s ++ Jvm.staticLocs frame_1_statics s) 0 0 → Post tb e args s (.returned v) u) :
    ArmFor flags0 classFile x code maxLocals ret World_1 tables_1 room_1 Calls_1 rest_1 Pre_1 Post := by
  intro l hfl _ _ p e ha hc hk s m args below hf hA hF happ hP
  obtain ⟨hcalls, hrest, hpre⟩ := hP
  obtain ⟨-, -, -, hnamed, -, -, -, hat⟩ := (Spec.applies_iff hf).mp happ
  obtain ⟨hg, hn⟩ := and_e (Cond.before_iff.mp (show (Jvm.Cond.and given_1 narrow_1).before args s = true from hpre))
  obtain ⟨h1, h2⟩ := and_e hg
  obtain ⟨w0, w1, w2, w3, w4, rfl⟩ : ∃ w0 w1 w2 w3 w4 : Value, args = #[w0, w1, w2, w3, w4] := by
    have hs : args.size = 5 := by simpa [Cond.value, given_1] using h1
    obtain ⟨L⟩ := args
    match L, hs with
    | [w0, w1, w2, w3, w4], _ => exact ⟨w0, w1, w2, w3, w4, rfl⟩
  have hw := fun d (hd : d ∈ tables_1) => atoms_spec (ws := Jvm.Cond.code x code maxLocals ret :: tables_1) hat d (List.mem_cons_of_mem _ hd)
  obtain ⟨q0, h2⟩ := and_e h2
  obtain ⟨i0, e0⟩ := is_v q0
  obtain rfl : w0 = (.int i0) := Option.some.inj e0
  obtain ⟨q1, h2⟩ := and_e h2
  obtain ⟨i1, e1⟩ := is_v q1
  obtain rfl : w1 = (.int i1) := Option.some.inj e1
  obtain ⟨q2, h2⟩ := and_e h2
  obtain ⟨i2, e2⟩ := is_v q2
  obtain rfl : w2 = (.int i2) := Option.some.inj e2
  obtain ⟨q3, h2⟩ := and_e h2
  obtain ⟨i3, e3⟩ := is_v q3
  obtain rfl : w3 = (.int i3) := Option.some.inj e3
  have q4 := h2
  obtain ⟨i4, e4⟩ := is_v q4
  obtain rfl : w4 = (.int i4) := Option.some.inj e4
  have hE : Ctx s #[(.int i0), (.int i1), (.int i2), (.int i3), (.int i4)] := ⟨hw, trivial⟩
  obtain ⟨n, o, h1, h2, h3, _, L, rfl, ⟨rfl, N, -⟩, hq⟩ := own_law l hE (Old.start s)  p e ha hc hk s m _ below hf ((Spec.applies_iff_loose hf).mp happ).1 ⟨rfl, State.Warmed39.refl s, rfl⟩ trivial
  refine ⟨n, _, h1, h2, h3, hpost _ _ _ _ _ _ ⟨Cond.after_iff.mpr rfl, Cond.after_iff.mpr (eq_i res_at (Term.int_eval (1)) rfl), trivial⟩ ⟨hq.1, hq.2.1, (hq.2.2.sift fun y hy => Or.inr (N y hy)).mono (by decide) (by decide)⟩⟩
theorem main_1_1 : Claimed_1_1 := comes_1 fun _ _ _ _ _ _ h hF => ⟨h.1, hF⟩
theorem main_1_2 : Claimed_1_2 := comes_1 fun _ _ _ _ _ _ h hF => ⟨h.2.1, hF⟩
end Jvm.Pilot.@@N@@
namespace Jvm.Pilot.@@N@@
open Jvm Jvm.ClassFile Sem Op Lib Jvm.Free Jvm.Stand Jvm.Pilot.@@N@@.Jvm.D
/-! MADE BY PROGRAM (witnessworld.py) out of the Statement's table words and the real class files: 12 classes; the members and pool entries that the words name. The judged class is class 1, her method 5. -/
namespace start1
open Jvm.ClassFile
def u (s : String) : CpInfo := .utf8 (stringToUtf16 s)
/-- a pool by its gaps: so many unusable entries, then the entry; so many at the end -/
def gap : Nat → List CpInfo → List CpInfo
  | 0, r => r
  | n + 1, r => .unusable :: gap n r
def poolList (es : List (Nat × CpInfo)) (last : Nat) : List CpInfo := es.foldr (fun e r => gap e.1 (e.2 :: r)) (gap last [])
def pool (es : List (Nat × CpInfo)) (last : Nat) : Array CpInfo := ⟨poolList es last⟩
def fileOf (pool : Array CpInfo) (this : Nat) (attrs : Array Attribute := #[]) (ms : Array MethodInfo := #[]) (fl : Nat := 33) (sup : Nat := 0) (ifs : Array Nat := #[]) (fds : Array FieldInfo := #[]) : ClassFile where
  minorVersion := 0
  majorVersion := 65
  constantPool := pool
  accessFlags := fl
  thisClass := this
  superClass := sup
  interfaces := ifs
  fields := fds
  methods := ms
  attributes := attrs
def plain (name : String) (sup : Option ClassId) : Class where
  name := name
  kind := .ordinary
  loader := none
  accessFlags := 33
  super := sup
  interfaces := #[]
  cf := none
  fields := #[]
  methods := #[]
  instanceTypes := #[]
  staticTypes := #[]
  resolved := #[]
  callSites := []
  init := .initialized
  statics := none
  mirror := none

def pool0 : Array CpInfo := pool [(5, u "<init>"), (0, u "()V"), (1, .class_ 10), (1, u "java/lang/Object")] 113

def k0m0 : Method := { name := "<init>", desc := "()V", sig := { parameters := [], returnType := none }, accessFlags := 1, code := none }
/-- java/lang/Object -/
def k0 : Class := { plain "java/lang/Object" none with
  accessFlags := 33
  interfaces := #[]
  cf := some (fileOf pool0 8 #[] #[{ accessFlags := 1, nameIndex := 5, descriptorIndex := 6, attributes := #[] }] 33 0 #[] #[])
  fields := #[]
  methods := #[k0m0]
  instanceTypes := #[]
  staticTypes := #[]
  resolved := Array.replicate 124 none
  statics := none }

def pool1 : Array CpInfo := pool [(2, .class_ 4), (1, u "java/lang/Object"), (0, u "<init>"), (0, u "()V"), (0, .double 4886405595696988160), (1, .integer 2147483647), (0, .methodref 11 12), (0, .class_ 13), (0, .nameAndType 14 15), (0, u "com/example/amherst/amherst/text/ScoredDocumentCompareScoresPinLaw"), (0, u "pw"), (0, u "(I)D"), (0, .methodref 11 17), (0, .nameAndType 18 19), (0, u "score"), (0, u "(IIZ)D"), (0, .methodref 11 21), (0, .nameAndType 22 23), (0, u "expected"), (0, u "(DD)I"), (0, .methodref 25 26), (0, .class_ 27), (0, .nameAndType 28 23), (0, u "com/example/amherst/amherst/text/ScoredDocument"), (0, u "compareScores"), (0, .methodref 11 30), (0, .nameAndType 31 32), (0, u "sign"), (0, u "(I)I"), (3, u "law"), (0, u "(IIIII)Z")] 2

def k1m0 : Method := { name := "<init>", desc := "()V", sig := { parameters := [], returnType := none }, accessFlags := 1, code := none }
def k1c1 : Code := { maxStack := 6, maxLocals := 1, code := method_2_code, exceptionTable := #[], attributes := #[] }
def k1m1 : Method := { name := "pw", desc := "(I)D", sig := { parameters := [.int], returnType := some .double }, accessFlags := 10, code := some k1c1 }
def k1c2 : Code := { maxStack := 4, maxLocals := 6, code := method_3_code, exceptionTable := #[], attributes := #[] }
def k1m2 : Method := { name := "score", desc := "(IIZ)D", sig := { parameters := [.int, .int, .boolean], returnType := some .double }, accessFlags := 10, code := some k1c2 }
def k1c3 : Code := { maxStack := 2, maxLocals := 6, code := method_4_code, exceptionTable := #[], attributes := #[] }
def k1m3 : Method := { name := "expected", desc := "(DD)I", sig := { parameters := [.double, .double], returnType := some .int }, accessFlags := 10, code := some k1c3 }
def k1c4 : Code := { maxStack := 1, maxLocals := 1, code := method_5_code, exceptionTable := #[], attributes := #[] }
def k1m4 : Method := { name := "sign", desc := "(I)I", sig := { parameters := [.int], returnType := some .int }, accessFlags := 10, code := some k1c4 }
def k1c5 : Code := { maxStack := 4, maxLocals := 10, code := code, exceptionTable := #[], attributes := #[] }
def k1m5 : Method := { name := "law", desc := "(IIIII)Z", sig := { parameters := [.int, .int, .int, .int, .int], returnType := some .boolean }, accessFlags := 9, code := some k1c5 }
/-- com/example/amherst/amherst/text/ScoredDocumentCompareScoresPinLaw -/
def k1 : Class := { plain "com/example/amherst/amherst/text/ScoredDocumentCompareScoresPinLaw" (some 0) with
  accessFlags := 49
  interfaces := #[]
  cf := some (fileOf pool1 11 #[] #[{ accessFlags := 1, nameIndex := 5, descriptorIndex := 6, attributes := #[] }, { accessFlags := 10, nameIndex := 14, descriptorIndex := 15, attributes := #[] }, { accessFlags := 10, nameIndex := 18, descriptorIndex := 19, attributes := #[] }, { accessFlags := 10, nameIndex := 22, descriptorIndex := 23, attributes := #[] }, { accessFlags := 10, nameIndex := 31, descriptorIndex := 32, attributes := #[] }, { accessFlags := 9, nameIndex := 36, descriptorIndex := 37, attributes := #[] }] 49 2 #[] #[])
  fields := #[]
  methods := #[k1m0, k1m1, k1m2, k1m3, k1m4, k1m5]
  instanceTypes := #[]
  staticTypes := #[]
  resolved := Array.replicate 40 none
  statics := none }

def pool2 : Array CpInfo := pool [(2, .class_ 4), (1, u "java/lang/Object"), (3, .class_ 10), (1, u "com/example/amherst/amherst/text/ScoredDocument"), (0, u "id"), (0, u "Ljava/lang/String;"), (2, u "score"), (0, u "D"), (0, .methodref 18 19), (0, .class_ 20), (0, .nameAndType 21 22), (0, u "java/lang/Float"), (0, u "compare"), (0, u "(FF)I"), (24, u "compareScores"), (0, u "(DD)I"), (5, u "BY_SCORE"), (0, u "Ljava/util/Comparator;"), (16, u "RANK_ORDER")] 54

def k2c0 : Code := { maxStack := 3, maxLocals := 4, code := prog_25_method_4_code, exceptionTable := #[], attributes := #[] }
def k2m0 : Method := { name := "compareScores", desc := "(DD)I", sig := { parameters := [.double, .double], returnType := some .int }, accessFlags := 9, code := some k2c0 }
/-- com/example/amherst/amherst/text/ScoredDocument -/
def k2 : Class := { plain "com/example/amherst/amherst/text/ScoredDocument" (some 0) with
  accessFlags := 33
  interfaces := #[]
  cf := some (fileOf pool2 8 #[] #[{ accessFlags := 9, nameIndex := 47, descriptorIndex := 48, attributes := #[] }] 33 2 #[] #[{ accessFlags := 26, nameIndex := 54, descriptorIndex := 55, attributes := #[] }, { accessFlags := 25, nameIndex := 72, descriptorIndex := 55, attributes := #[] }, { accessFlags := 18, nameIndex := 11, descriptorIndex := 12, attributes := #[] }, { accessFlags := 18, nameIndex := 15, descriptorIndex := 16, attributes := #[] }])
  fields := #[{ name := "BY_SCORE", type := (.object "java/util/Comparator"), accessFlags := 26, slot := 0, constantValue := 0 }, { name := "RANK_ORDER", type := (.object "java/util/Comparator"), accessFlags := 25, slot := 1, constantValue := 0 }, { name := "id", type := (.object "java/lang/String"), accessFlags := 18, slot := 0, constantValue := 0 }, { name := "score", type := .double, accessFlags := 18, slot := 1, constantValue := 0 }]
  methods := #[k2m0]
  instanceTypes := #[(.object "java/lang/String"), .double]
  staticTypes := #[(.object "java/util/Comparator"), (.object "java/util/Comparator")]
  resolved := Array.replicate 127 none
  statics := none }

def pool3 : Array CpInfo := pool [(1, .class_ 2), (0, u "java/io/Serializable"), (0, .class_ 4), (0, u "java/lang/Object")] 2

/-- java/io/Serializable -/
def k3 : Class := { plain "java/io/Serializable" (some 0) with
  accessFlags := 1537
  interfaces := #[]
  cf := some (fileOf pool3 1 #[] #[] 1537 3 #[] #[])
  fields := #[]
  methods := #[]
  instanceTypes := #[]
  staticTypes := #[]
  resolved := Array.replicate 7 none
  statics := none }

def pool4 : Array CpInfo := pool [(2, .class_ 4), (1, u "java/lang/Object"), (0, u "<init>"), (0, u "()V"), (1, .class_ 10), (1, u "java/lang/Number"), (2, .class_ 14), (0, u "java/io/Serializable"), (0, u "serialVersionUID"), (0, u "J")] 20

def k4m0 : Method := { name := "<init>", desc := "()V", sig := { parameters := [], returnType := none }, accessFlags := 1, code := none }
/-- java/lang/Number -/
def k4 : Class := { plain "java/lang/Number" (some 0) with
  accessFlags := 1057
  interfaces := #[3]
  cf := some (fileOf pool4 8 #[] #[{ accessFlags := 1, nameIndex := 5, descriptorIndex := 6, attributes := #[] }] 1057 2 #[13] #[{ accessFlags := 26, nameIndex := 15, descriptorIndex := 16, attributes := #[] }])
  fields := #[{ name := "serialVersionUID", type := .long, accessFlags := 26, slot := 0, constantValue := 0 }]
  methods := #[k4m0]
  instanceTypes := #[]
  staticTypes := #[.long]
  resolved := Array.replicate 37 none
  statics := none }

def pool5 : Array CpInfo := pool [(1, .class_ 2), (0, u "java/lang/Comparable"), (0, .class_ 4), (0, u "java/lang/Object")] 7

/-- java/lang/Comparable -/
def k5 : Class := { plain "java/lang/Comparable" (some 0) with
  accessFlags := 1537
  interfaces := #[]
  cf := some (fileOf pool5 1 #[] #[] 1537 3 #[] #[])
  fields := #[]
  methods := #[]
  instanceTypes := #[]
  staticTypes := #[]
  resolved := Array.replicate 12 none
  statics := none }

def pool6 : Array CpInfo := pool [(1, .class_ 2), (0, u "java/lang/constant/Constable"), (0, .class_ 4), (0, u "java/lang/Object")] 6

/-- java/lang/constant/Constable -/
def k6 : Class := { plain "java/lang/constant/Constable" (some 0) with
  accessFlags := 1537
  interfaces := #[]
  cf := some (fileOf pool6 1 #[] #[] 1537 3 #[] #[])
  fields := #[]
  methods := #[]
  instanceTypes := #[]
  staticTypes := #[]
  resolved := Array.replicate 11 none
  statics := none }

def pool7 : Array CpInfo := pool [(1, .class_ 2), (0, u "java/lang/constant/ConstantDesc"), (0, .class_ 4), (0, u "java/lang/Object")] 32

/-- java/lang/constant/ConstantDesc -/
def k7 : Class := { plain "java/lang/constant/ConstantDesc" (some 0) with
  accessFlags := 1537
  interfaces := #[]
  cf := some (fileOf pool7 1 #[] #[] 1537 3 #[] #[])
  fields := #[]
  methods := #[]
  instanceTypes := #[]
  staticTypes := #[]
  resolved := Array.replicate 37 none
  statics := none }

def pool8 : Array CpInfo := pool [(1, .class_ 2), (0, u "java/lang/Float"), (48, .class_ 53), (1, u "java/lang/Number"), (3, u "value"), (0, u "F"), (0, .methodref 1 60), (0, .nameAndType 61 62), (0, u "isNaN"), (0, u "(F)Z"), (7, u "(F)I"), (0, .methodref 1 72), (0, .nameAndType 73 70), (0, u "floatToIntBits"), (0, .methodref 1 75), (0, .nameAndType 76 70), (0, u "floatToRawIntBits"), (14, u "$assertionsDisabled"), (0, u "Z"), (15, u "compare"), (0, u "(FF)I"), (35, u "TYPE"), (0, u "Ljava/lang/Class;"), (0, .class_ 148), (0, u "java/lang/Comparable"), (0, .class_ 150), (0, u "java/lang/constant/Constable"), (0, .class_ 152), (0, u "java/lang/constant/ConstantDesc"), (0, u "POSITIVE_INFINITY"), (1, u "NEGATIVE_INFINITY"), (1, u "NaN"), (1, u "MAX_VALUE"), (0, u "MIN_NORMAL"), (0, u "MIN_VALUE"), (1, u "SIZE"), (0, u "I"), (1, u "PRECISION"), (1, u "MAX_EXPONENT"), (1, u "MIN_EXPONENT"), (1, u "BYTES"), (3, u "serialVersionUID"), (0, u "J")] 101

def k8c0 : Code := { maxStack := 2, maxLocals := 1, code := jdk_118_method_6_code, exceptionTable := #[], attributes := #[] }
def k8m0 : Method := { name := "isNaN", desc := "(F)Z", sig := { parameters := [.float], returnType := some .boolean }, accessFlags := 9, code := some k8c0 }
def k8c1 : Code := { maxStack := 1, maxLocals := 1, code := jdk_118_method_24_code, exceptionTable := #[], attributes := #[] }
def k8m1 : Method := { name := "floatToIntBits", desc := "(F)I", sig := { parameters := [.float], returnType := some .int }, accessFlags := 9, code := some k8c1 }
def k8m2 : Method := { name := "floatToRawIntBits", desc := "(F)I", sig := { parameters := [.float], returnType := some .int }, accessFlags := 265, code := none }
def k8c3 : Code := { maxStack := 2, maxLocals := 4, code := jdk_118_method_30_code, exceptionTable := #[], attributes := #[] }
def k8m3 : Method := { name := "compare", desc := "(FF)I", sig := { parameters := [.float, .float], returnType := some .int }, accessFlags := 9, code := some k8c3 }
/-- java/lang/Float -/
def k8 : Class := { plain "java/lang/Float" (some 4) with
  accessFlags := 49
  interfaces := #[5, 6, 7]
  cf := some (fileOf pool8 1 #[] #[{ accessFlags := 9, nameIndex := 61, descriptorIndex := 62, attributes := #[] }, { accessFlags := 9, nameIndex := 73, descriptorIndex := 70, attributes := #[] }, { accessFlags := 265, nameIndex := 76, descriptorIndex := 70, attributes := #[] }, { accessFlags := 9, nameIndex := 108, descriptorIndex := 109, attributes := #[] }] 49 51 #[147, 149, 151] #[{ accessFlags := 25, nameIndex := 153, descriptorIndex := 58, attributes := #[] }, { accessFlags := 25, nameIndex := 155, descriptorIndex := 58, attributes := #[] }, { accessFlags := 25, nameIndex := 157, descriptorIndex := 58, attributes := #[] }, { accessFlags := 25, nameIndex := 159, descriptorIndex := 58, attributes := #[] }, { accessFlags := 25, nameIndex := 160, descriptorIndex := 58, attributes := #[] }, { accessFlags := 25, nameIndex := 161, descriptorIndex := 58, attributes := #[] }, { accessFlags := 25, nameIndex := 163, descriptorIndex := 164, attributes := #[] }, { accessFlags := 25, nameIndex := 166, descriptorIndex := 164, attributes := #[] }, { accessFlags := 25, nameIndex := 168, descriptorIndex := 164, attributes := #[] }, { accessFlags := 25, nameIndex := 170, descriptorIndex := 164, attributes := #[] }, { accessFlags := 25, nameIndex := 172, descriptorIndex := 164, attributes := #[] }, { accessFlags := 25, nameIndex := 145, descriptorIndex := 146, attributes := #[] }, { accessFlags := 18, nameIndex := 57, descriptorIndex := 58, attributes := #[] }, { accessFlags := 26, nameIndex := 176, descriptorIndex := 177, attributes := #[] }, { accessFlags := 4120, nameIndex := 91, descriptorIndex := 92, attributes := #[] }])
  fields := #[{ name := "POSITIVE_INFINITY", type := .float, accessFlags := 25, slot := 0, constantValue := 0 }, { name := "NEGATIVE_INFINITY", type := .float, accessFlags := 25, slot := 1, constantValue := 0 }, { name := "NaN", type := .float, accessFlags := 25, slot := 2, constantValue := 0 }, { name := "MAX_VALUE", type := .float, accessFlags := 25, slot := 3, constantValue := 0 }, { name := "MIN_NORMAL", type := .float, accessFlags := 25, slot := 4, constantValue := 0 }, { name := "MIN_VALUE", type := .float, accessFlags := 25, slot := 5, constantValue := 0 }, { name := "SIZE", type := .int, accessFlags := 25, slot := 6, constantValue := 0 }, { name := "PRECISION", type := .int, accessFlags := 25, slot := 7, constantValue := 0 }, { name := "MAX_EXPONENT", type := .int, accessFlags := 25, slot := 8, constantValue := 0 }, { name := "MIN_EXPONENT", type := .int, accessFlags := 25, slot := 9, constantValue := 0 }, { name := "BYTES", type := .int, accessFlags := 25, slot := 10, constantValue := 0 }, { name := "TYPE", type := (.object "java/lang/Class"), accessFlags := 25, slot := 11, constantValue := 0 }, { name := "value", type := .float, accessFlags := 18, slot := 0, constantValue := 0 }, { name := "serialVersionUID", type := .long, accessFlags := 26, slot := 12, constantValue := 0 }, { name := "$assertionsDisabled", type := .boolean, accessFlags := 4120, slot := 13, constantValue := 0 }]
  methods := #[k8m0, k8m1, k8m2, k8m3]
  instanceTypes := #[.float]
  staticTypes := #[.float, .float, .float, .float, .float, .float, .int, .int, .int, .int, .int, (.object "java/lang/Class"), .long, .boolean]
  resolved := Array.replicate 279 none
  statics := none }

def pool9 : Array CpInfo := pool [(1, u "java/lang/Cloneable"), (0, .class_ 1), (0, u "java/lang/Object"), (0, .class_ 3)] 3

/-- java/lang/Cloneable -/
def k9 : Class := { plain "java/lang/Cloneable" (some 0) with
  accessFlags := 1537
  interfaces := #[]
  cf := some (fileOf pool9 2 #[] #[] 1537 4 #[] #[])
  fields := #[]
  methods := #[]
  instanceTypes := #[]
  staticTypes := #[]
  resolved := Array.replicate 8 none
  statics := none }

/-- the primitive byte -/
def k10 : Class := { plain "byte" none with kind := .primitive 'B', accessFlags := 0x411 }
/-- [B -/
def k11 : Class := { plain "[B" (some 0) with kind := .array 10 .byte, interfaces := #[9, 3], accessFlags := 1041 }

def heap : Heap := #[]
def classes : Array Class := #[k0, k1, k2, k3, k4, k5, k6, k7, k8, k9, k10, k11]
def interned : List (Array UInt16 × Addr) := []
def slotsUsed : Nat := 0
def theMethod : MethodId := ⟨1, 5⟩
def args0 : Array Value := #[.int 5, .int 6, .int 7, .int 8, .int 9]
def aboutOver (below : List Frame) : State where
  vm := { classes := classes, interned := interned.toArray }
  heap := heap
  slotsUsed := slotsUsed
  threads := #[{ frames := .invoking theMethod args0 :: below }]
def below0 : List Frame := [.native { method := ⟨0, 0⟩, args := #[] }]
def about1 : State := aboutOver below0
def p0 : Program := .bare "" "" ""
def e0 : Env := launch0.env 0 0 0
theorem w_frames : about1.frames = Frame.invoking theMethod args0 :: below0 := rfl
set_option maxRecDepth 65536 in
theorem w_args : argsFit about1.vm theMethod args0 = true := by decide +kernel
set_option maxRecDepth 65536 in
theorem w_heap : heapFits about1 = true := by decide +kernel
set_option maxRecDepth 65536 in
theorem w_runnable : about1.curStatus? = some .runnable := by decide +kernel
set_option maxRecDepth 65536 in
theorem w_alone : about1.alone = true := by decide +kernel
set_option maxRecDepth 65536 in
theorem w_named : about1.methodNamed? x = some theMethod := by decide +kernel
set_option maxRecDepth 65536 in
theorem w_hears : about1.hears theMethod below0 = true := by decide +kernel
set_option maxRecDepth 65536 in
theorem w_ripe : about1.ripe theMethod args0 below0 = true := by decide +kernel
theorem w_running : about1.status = .running := rfl
set_option maxRecDepth 65536 in
theorem w_room : about1.hasRoom e0.platform room_1 = true :=
  launch0.hasRoom_least _ room_1 (by decide +kernel) (by decide +kernel) (by decide +kernel) (by decide +kernel) (by decide +kernel) (by decide +kernel)
theorem allAtoms_all (ts : List Jvm.Cond) (a : Array Jvm.Value) (st : Jvm.State) : (allAtoms ts).before a st = ts.all (fun c => c.before a st) := by
  induction ts with
  | nil => rfl
  | cons c t ih =>
    show (Jvm.Cond.and c (allAtoms t)).before a st = _
    rw [Jvm.Cond.before_and, ih, List.all_cons]
def words1 : List Jvm.Cond := Jvm.Cond.code x code maxLocals ret :: tables_1
/-- a 'code' word, met by the world's own term for the bytes: nothing is compared byte by byte -/
theorem code_word {y : MethodName} {bytes : ByteArray} {mx : Nat} {rt : Option FieldType} {a : Array Value} {s : State} {m : MethodId} {meth : Method} {c : Code} (h1 : s.methodNamed? y = some m) (h2 : s.vm.method? m = some meth) (h3 : meth.code = some c) (h4 : c.code = bytes)
    (h5 : (c.maxLocals == mx && c.exceptionTable.isEmpty && decide (c.maxStack ≤ mostOperands) && decide (meth.sig.returnType = rt) && !meth.locks && decide (parseMethodDescriptor y.desc = some meth.sig)) = true) : (Jvm.Cond.code y bytes mx rt).before a s = true := by
  simp only [Bool.and_eq_true, beq_iff_eq, Bool.not_eq_true', decide_eq_true_eq] at h5
  obtain ⟨⟨⟨⟨⟨g1, g2⟩, g3⟩, g4⟩, g5⟩, g6⟩ := h5
  simp [Cond.before, Cond.holds, Cond.value, h1, h2, h3, h4, g1, g2, g3, g4, g5, g6]
def isCode : Jvm.Cond → Bool
  | .code _ _ _ _ => true
  | _ => false
theorem all_split {L : List Jvm.Cond} {P : Jvm.Cond → Bool} (h1 : L.all (fun c => isCode c || P c) = true) (h2 : ∀ c ∈ L.filter isCode, P c = true) : L.all P = true := by
  refine List.all_eq_true.mpr fun c hc => ?_
  have h := List.all_eq_true.mp h1 c hc
  rcases Bool.eq_false_or_eq_true (isCode c) with hi | hi
  · exact h2 c (List.mem_filter.mpr ⟨hc, hi⟩)
  · simpa [hi] using h
set_option maxRecDepth 65536 in
theorem w_c0 : (Jvm.Cond.code x code maxLocals ret).before args0 about1 = true := code_word (m := ⟨1, 5⟩) (meth := k1m5) (c := k1c5) (by decide +kernel) rfl rfl rfl (by decide +kernel)
set_option maxRecDepth 65536 in
theorem w_c1 : (Jvm.Cond.code ({ cls := "com/example/amherst/amherst/text/ScoredDocumentCompareScoresPinLaw", name := "score", desc := "(IIZ)D" } : Jvm.MethodName) method_3_code (6 : Nat) (Option.some Jvm.ClassFile.FieldType.double)).before args0 about1 = true := code_word (m := ⟨1, 2⟩) (meth := k1m2) (c := k1c2) (by decide +kernel) rfl rfl rfl (by decide +kernel)
set_option maxRecDepth 65536 in
theorem w_c2 : (Jvm.Cond.code ({ cls := "com/example/amherst/amherst/text/ScoredDocumentCompareScoresPinLaw", name := "pw", desc := "(I)D" } : Jvm.MethodName) method_2_code (1 : Nat) (Option.some Jvm.ClassFile.FieldType.double)).before args0 about1 = true := code_word (m := ⟨1, 1⟩) (meth := k1m1) (c := k1c1) (by decide +kernel) rfl rfl rfl (by decide +kernel)
set_option maxRecDepth 65536 in
theorem w_c3 : (Jvm.Cond.code ({ cls := "com/example/amherst/amherst/text/ScoredDocumentCompareScoresPinLaw", name := "expected", desc := "(DD)I" } : Jvm.MethodName) method_4_code (6 : Nat) (Option.some Jvm.ClassFile.FieldType.int)).before args0 about1 = true := code_word (m := ⟨1, 3⟩) (meth := k1m3) (c := k1c3) (by decide +kernel) rfl rfl rfl (by decide +kernel)
set_option maxRecDepth 65536 in
theorem w_c4 : (Jvm.Cond.code ({ cls := "com/example/amherst/amherst/text/ScoredDocument", name := "compareScores", desc := "(DD)I" } : Jvm.MethodName) prog_25_method_4_code (4 : Nat) (Option.some Jvm.ClassFile.FieldType.int)).before args0 about1 = true := code_word (m := ⟨2, 0⟩) (meth := k2m0) (c := k2c0) (by decide +kernel) rfl rfl rfl (by decide +kernel)
set_option maxRecDepth 65536 in
theorem w_c5 : (Jvm.Cond.code ({ cls := "java/lang/Float", name := "compare", desc := "(FF)I" } : Jvm.MethodName) jdk_118_method_30_code (4 : Nat) (Option.some Jvm.ClassFile.FieldType.int)).before args0 about1 = true := code_word (m := ⟨8, 3⟩) (meth := k8m3) (c := k8c3) (by decide +kernel) rfl rfl rfl (by decide +kernel)
set_option maxRecDepth 65536 in
theorem w_c6 : (Jvm.Cond.code ({ cls := "com/example/amherst/amherst/text/ScoredDocumentCompareScoresPinLaw", name := "sign", desc := "(I)I" } : Jvm.MethodName) method_5_code (1 : Nat) (Option.some Jvm.ClassFile.FieldType.int)).before args0 about1 = true := code_word (m := ⟨1, 4⟩) (meth := k1m4) (c := k1c4) (by decide +kernel) rfl rfl rfl (by decide +kernel)
set_option maxRecDepth 65536 in
theorem w_c7 : (Jvm.Cond.code ({ cls := "java/lang/Float", name := "floatToIntBits", desc := "(F)I" } : Jvm.MethodName) jdk_118_method_24_code (1 : Nat) (Option.some Jvm.ClassFile.FieldType.int)).before args0 about1 = true := code_word (m := ⟨8, 1⟩) (meth := k8m1) (c := k8c1) (by decide +kernel) rfl rfl rfl (by decide +kernel)
set_option maxRecDepth 65536 in
theorem w_c8 : (Jvm.Cond.code ({ cls := "java/lang/Float", name := "isNaN", desc := "(F)Z" } : Jvm.MethodName) jdk_118_method_6_code (1 : Nat) (Option.some Jvm.ClassFile.FieldType.boolean)).before args0 about1 = true := code_word (m := ⟨8, 0⟩) (meth := k8m0) (c := k8c0) (by decide +kernel) rfl rfl rfl (by decide +kernel)
def codes1 : List Jvm.Cond := [Jvm.Cond.code x code maxLocals ret, Jvm.Cond.code ({ cls := "com/example/amherst/amherst/text/ScoredDocumentCompareScoresPinLaw", name := "score", desc := "(IIZ)D" } : Jvm.MethodName) method_3_code (6 : Nat) (Option.some Jvm.ClassFile.FieldType.double), Jvm.Cond.code ({ cls := "com/example/amherst/amherst/text/ScoredDocumentCompareScoresPinLaw", name := "pw", desc := "(I)D" } : Jvm.MethodName) method_2_code (1 : Nat) (Option.some Jvm.ClassFile.FieldType.double), Jvm.Cond.code ({ cls := "com/example/amherst/amherst/text/ScoredDocumentCompareScoresPinLaw", name := "expected", desc := "(DD)I" } : Jvm.MethodName) method_4_code (6 : Nat) (Option.some Jvm.ClassFile.FieldType.int), Jvm.Cond.code ({ cls := "com/example/amherst/amherst/text/ScoredDocument", name := "compareScores", desc := "(DD)I" } : Jvm.MethodName) prog_25_method_4_code (4 : Nat) (Option.some Jvm.ClassFile.FieldType.int), Jvm.Cond.code ({ cls := "java/lang/Float", name := "compare", desc := "(FF)I" } : Jvm.MethodName) jdk_118_method_30_code (4 : Nat) (Option.some Jvm.ClassFile.FieldType.int), Jvm.Cond.code ({ cls := "com/example/amherst/amherst/text/ScoredDocumentCompareScoresPinLaw", name := "sign", desc := "(I)I" } : Jvm.MethodName) method_5_code (1 : Nat) (Option.some Jvm.ClassFile.FieldType.int), Jvm.Cond.code ({ cls := "java/lang/Float", name := "floatToIntBits", desc := "(F)I" } : Jvm.MethodName) jdk_118_method_24_code (1 : Nat) (Option.some Jvm.ClassFile.FieldType.int), Jvm.Cond.code ({ cls := "java/lang/Float", name := "isNaN", desc := "(F)Z" } : Jvm.MethodName) jdk_118_method_6_code (1 : Nat) (Option.some Jvm.ClassFile.FieldType.boolean)]
set_option maxRecDepth 65536 in
theorem codes_eq : words1.filter isCode = codes1 := rfl
theorem w_codes : ∀ c ∈ words1.filter isCode, c.before args0 about1 = true := by
  rw [codes_eq]
  intro c hc
  simp only [codes1, List.mem_cons, List.not_mem_nil, or_false] at hc
  rcases hc with rfl | rfl | rfl | rfl | rfl | rfl | rfl | rfl | rfl
  · exact w_c0
  · exact w_c1
  · exact w_c2
  · exact w_c3
  · exact w_c4
  · exact w_c5
  · exact w_c6
  · exact w_c7
  · exact w_c8
set_option maxRecDepth 65536 in
theorem w_t1 : (words1.take 24).all (fun c => isCode c || c.before args0 about1) = true := by decide +kernel
set_option maxRecDepth 65536 in
theorem w_t2 : (words1.drop 24).all (fun c => isCode c || c.before args0 about1) = true := by decide +kernel
theorem w_tables : (allAtoms (Jvm.Cond.code x code maxLocals ret :: tables_1)).before args0 about1 = true := by
  rw [allAtoms_all]
  show words1.all (fun c => c.before args0 about1) = true
  refine all_split ?_ w_codes
  rw [← List.take_append_drop 24 words1, List.all_append, w_t1, w_t2]
  rfl
set_option maxRecDepth 65536 in
theorem w_case : (Jvm.Cond.and given_1 narrow_1).before args0 about1 = true := by decide +kernel
theorem w_applies : (headSpec (Jvm.Cond.code x code maxLocals ret :: tables_1) room_1).applies x e0.platform about1 = true :=
  (Spec.applies_iff w_frames).mpr ⟨w_running, w_runnable, w_alone, w_named, w_hears, w_ripe, w_room, w_tables⟩
theorem atStart : AtStart classFile x code maxLocals ret World_1 tables_1 room_1 Calls_1 rest_1 Pre_1 launch0 p0 e0 about1 theMethod args0 below0 :=
  ⟨lists_1, trivial, launch0.admits_env _ _ _, launch0.least_env, fairChoices_fair.cas, fairChoices_fair.clock, w_frames, w_args, w_heap, w_applies, trivial, trivial, w_case⟩
end start1
theorem witness_1 : WitnessClaimed_1 := ⟨start1.p0, start1.e0, start1.about1, start1.theMethod, start1.args0, start1.below0, start1.atStart⟩
end Jvm.Pilot.@@N@@
