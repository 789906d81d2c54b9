import JvmDerived
import JvmDerived.Pilot.@@N@@Statement
import JvmDerived.Pilot.@@N@@Code
set_option linter.unusedVariables false
set_option linter.unusedSimpArgs false
@@BLOCK:NumsL.lean.txt@@
namespace Jvm.Pilot.@@N@@
open Jvm Jvm.ClassFile Sem Op Lib Jvm.Free Jvm.Stand Jvm.LawKit Jvm.RoadKit Bundle Jvm.Pilot.@@N@@.Jvm.D
def own_shl (x y : Int32) : Int32 := x <<< (y &&& 31)
def own_shr (x y : Int32) : Int32 := x >>> (y &&& 31)
def own_ushr (x y : Int32) : Int32 := (x.toUInt32 >>> (y &&& 31).toUInt32).toInt32
def own_shlL (x : Int64) (y : Int32) : Int64 := x <<< (y &&& 0x3f).toInt64
def own_shrL (x : Int64) (y : Int32) : Int64 := x >>> (y &&& 0x3f).toInt64
def own_ushrL (x : Int64) (y : Int32) : Int64 := (x.toUInt64 >>> (y &&& 0x3f).toInt64.toUInt64).toInt64
def own_remL (x y : Int64) : Int64 := x - (x / y) * y
section OwnKit
variable {p : Program} {l : Launch} {e : Env} {R : Room} {s : State} {m : MethodId} {args : Array Value} {below : List Frame} {meth : Method} {c : Code} {T : State} {locs : List Loc} {cells slots : Nat} {Z : State} {h h' : Heap} {a b : Addr}
theorem retI (X : Stand p l e R s m args below meth c T locs cells slots) (hx : p.tables.exec = Jvm.exec) {pc : Nat} {Ls : Array Slot} {z : Int32} {rest : List Value} (hret : meth.sig.returnType = some .int) (hd : decode c.code pc = .ok (.ireturn, 1)) {fs : List Frame}
    (hl : ∀ (f : JFrame) (acts : List Action), f.method = m → f.locked = none → f.entered = [] → (doReturn e (T.setTop f) acts (some (.int z))).1 = T.setFrames fs) : Steps p.tables e below (T.setTop (mkF m pc Ls (.int z :: rest))) (T.setFrames fs) :=
  retOut X hx hret rfl (Or.inl ⟨rfl, Or.inl rfl, _, rfl⟩) hd hl
theorem own_retJ (X : Stand p l e R s m args below meth c T locs cells slots) (hx : p.tables.exec = Jvm.exec) {pc : Nat} {Ls : Array Slot} {z : Int64} {rest : List Value} (hret : meth.sig.returnType = some .long) (hd : decode c.code pc = .ok (.lreturn, 1)) {fs : List Frame}
    (hl : ∀ (f : JFrame) (acts : List Action), f.method = m → f.locked = none → f.entered = [] → (doReturn e (T.setTop f) acts (some (.long z))).1 = T.setFrames fs) : Steps p.tables e below (T.setTop (mkF m pc Ls (.long z :: rest))) (T.setFrames fs) :=
  retOut X hx hret rfl (Or.inr (Or.inl ⟨rfl, rfl, _, rfl⟩)) hd hl
/-- an array of n places of one of the int kinds: place i holds f i -/
def ArI (Z : State) (h : Heap) (a : Addr) (ty : FieldType) (n : Nat) (f : Nat → Int32) : Prop := ∃ c : Cell, Arr Z h a c ty ∧ c.slots.size = n ∧ ∀ i, i < n → c.slots[i]? = some (.int (f i))
def own_upd (f : Nat → Int32) (i : Nat) (x : Int32) : Nat → Int32 := fun k => if k = i then x else f k
theorem ArI.lt {ty : FieldType} {n : Nat} {f : Nat → Int32} (A : ArI Z h a ty n f) : a < h.size := by obtain ⟨c, A, -⟩ := A; exact A.lt
theorem ArI.ext {ty : FieldType} {n : Nat} {f : Nat → Int32} (A : ArI Z h a ty n f) (E : Ext h h') : ArI Z h' a ty n f := by obtain ⟨c, A, r⟩ := A; exact ⟨c, A.ext E, r⟩
theorem ArI.other {ty : FieldType} {n : Nat} {f : Nat → Int32} {sl : Nat} {v : Value} (A : ArI Z h b ty n f) (W : Wr h h' a sl v) (q : b ≠ a) : ArI Z h' b ty n f := by obtain ⟨c, A, r⟩ := A; exact ⟨c, A.other W q, r⟩
theorem ArI.keep {ty : FieldType} {n : Nat} {f : Nat → Int32} {ws : List Addr} (A : ArI Z h a ty n f) (K : Keep h h' ws) (q : a ∉ ws) : ArI Z h' a ty n f := by obtain ⟨c, A, r⟩ := A; exact ⟨c, ⟨K.2.1 a c A.1 q, A.2⟩, r⟩
theorem ArI.new {ty : FieldType} {k : ClassId} {z : Int32} {n : Nat} (hd : defaultValue ty = .int 0) (A : Arr Z h a (newA k ty z) ty) (hn : z.toNatClampNeg = n) : ArI Z h a ty n (fun _ => 0) :=
  ⟨_, A, by rw [sz_new, hn], fun i hi => by rw [newA]; simp [hn, hi, hd]⟩
theorem ArI.set {ty : FieldType} {n i : Nat} {f : Nat → Int32} {cl : Cell} {x : Int32} (A : Arr Z h a cl ty) (S : cl.slots.size = n) (H : ∀ i, i < n → cl.slots[i]? = some (.int (f i))) (W : Wr h h' a i (.int x)) : ArI Z h' a ty n (own_upd f i x) :=
  ⟨cl.setSlot i (.int x), A.same W, by rw [sz_set]; exact S, fun k hk => by
    by_cases q : k = i
    · subst q; simp [Cell.setSlot, own_upd, Array.getElem?_setIfInBounds, S, hk]
    · simp only [Cell.setSlot, own_upd, Array.getElem?_setIfInBounds, if_neg (Ne.symm q), if_neg q]; exact H k hk⟩
theorem own_in {cl : Cell} {j : Int32} {i n : Nat} (S : cl.slots.size = n) (hj : ¬ j < 0 ∧ j.toNatClampNeg = i) (hi : i < n) : ¬ (j < 0 ∨ cl.slots.size ≤ j.toNatClampNeg) := by
  obtain ⟨j0, rfl⟩ := hj
  rw [S]; rintro (q | q)
  · exact j0 q
  · exact absurd hi (Nat.not_lt.mpr q)
theorem own_stI {n i : Nat} {f : Nat → Int32} (X : Stand p l e R s m args below meth c T locs cells slots) (hx : p.tables.exec = Jvm.exec) (hZ : Z.Warmed39 s.vm) (eT : T.heap = h) (A : ArI Z h a .int n f) {j x : Int32} (hj : ¬ j < 0 ∧ j.toNatClampNeg = i) (hi : i < n) {g : JFrame} (hg : g.method = m) {rest : List Value} (hs : g.stack = .int x :: .int j :: .ref a :: rest) (hd : decode c.code g.pc = .ok (.iastore, 1)) :
    ∃ T' h', Stand p l e R s m args below meth c T' (locs ++ [⟨a, i⟩]) cells slots ∧ T'.heap = h' ∧ Wr h h' a i (.int x) ∧ ArI Z h' a .int n (own_upd f i x) ∧ ∀ target, Steps p.tables e below (T'.setTop { g with pc := g.pc + 1, stack := rest }) target → Steps p.tables e below (T.setTop g) target := by
  obtain ⟨cl, Ar, S, H⟩ := A
  have hin := own_in S hj hi
  obtain ⟨T', h', X', e', W', st⟩ := stI X hx hZ eT Ar hin hg hs hd
  rw [hj.2] at X' W'
  exact ⟨T', h', X', e', W', ArI.set Ar S H W', st⟩
theorem own_stC {n i : Nat} {f : Nat → Int32} (X : Stand p l e R s m args below meth c T locs cells slots) (hx : p.tables.exec = Jvm.exec) (hZ : Z.Warmed39 s.vm) (eT : T.heap = h) (A : ArI Z h a .char n f) {j x : Int32} (hj : ¬ j < 0 ∧ j.toNatClampNeg = i) (hi : i < n) {g : JFrame} (hg : g.method = m) {rest : List Value} (hs : g.stack = .int x :: .int j :: .ref a :: rest) (hd : decode c.code g.pc = .ok (.castore, 1)) :
    ∃ T' h', Stand p l e R s m args below meth c T' (locs ++ [⟨a, i⟩]) cells slots ∧ T'.heap = h' ∧ Wr h h' a i (.int (nar .char x)) ∧ ArI Z h' a .char n (own_upd f i (nar .char x)) ∧ ∀ target, Steps p.tables e below (T'.setTop { g with pc := g.pc + 1, stack := rest }) target → Steps p.tables e below (T.setTop g) target := by
  obtain ⟨cl, Ar, S, H⟩ := A
  have hin := own_in S hj hi
  obtain ⟨T', h', X', e', W', st⟩ := stC X hx hZ eT Ar hin hg hs hd
  rw [hj.2] at X' W'
  exact ⟨T', h', X', e', W', ArI.set Ar S H W', st⟩
theorem own_stB {n i : Nat} {f : Nat → Int32} (X : Stand p l e R s m args below meth c T locs cells slots) (hx : p.tables.exec = Jvm.exec) (hZ : Z.Warmed39 s.vm) (eT : T.heap = h) (A : ArI Z h a .byte n f) {j x : Int32} (hj : ¬ j < 0 ∧ j.toNatClampNeg = i) (hi : i < n) {g : JFrame} (hg : g.method = m) {rest : List Value} (hs : g.stack = .int x :: .int j :: .ref a :: rest) (hd : decode c.code g.pc = .ok (.bastore, 1)) :
    ∃ T' h', Stand p l e R s m args below meth c T' (locs ++ [⟨a, i⟩]) cells slots ∧ T'.heap = h' ∧ Wr h h' a i (.int (nar .byte x)) ∧ ArI Z h' a .byte n (own_upd f i (nar .byte x)) ∧ ∀ target, Steps p.tables e below (T'.setTop { g with pc := g.pc + 1, stack := rest }) target → Steps p.tables e below (T.setTop g) target := by
  obtain ⟨cl, Ar, S, H⟩ := A
  have hin := own_in S hj hi
  obtain ⟨T', h', X', e', W', st⟩ := stB X hx hZ eT Ar hin hg hs hd
  rw [hj.2] at X' W'
  exact ⟨T', h', X', e', W', ArI.set Ar S H W', st⟩
theorem own_ldI {n i : Nat} {f : Nat → Int32} (X : Stand p l e R s m args below meth c T locs cells slots) (hx : p.tables.exec = Jvm.exec) (hZ : Z.Warmed39 s.vm) (eT : T.heap = h) (A : ArI Z h a .int n f) {j : Int32} (hj : ¬ j < 0 ∧ j.toNatClampNeg = i) (hi : i < n) {g : JFrame} (hg : g.method = m) {rest : List Value} (hs : g.stack = .int j :: .ref a :: rest) (hd : decode c.code g.pc = .ok (.iaload, 1)) (target : State)
    (k : Steps p.tables e below (T.setTop { g with pc := g.pc + 1, stack := .int (f i) :: rest }) target) : Steps p.tables e below (T.setTop g) target := by
  obtain ⟨cl, Ar, S, H⟩ := A
  exact X.iaload hx (by rw [eT]; exact Ar.1) (State.isArrayOf_alike hZ.alike Ar.2.1) Ar.2.2 (own_in S hj hi) (by rw [hj.2]; exact H i hi) hg hs hd _ k
theorem own_ldC {n i : Nat} {f : Nat → Int32} (X : Stand p l e R s m args below meth c T locs cells slots) (hx : p.tables.exec = Jvm.exec) (hZ : Z.Warmed39 s.vm) (eT : T.heap = h) (A : ArI Z h a .char n f) {j : Int32} (hj : ¬ j < 0 ∧ j.toNatClampNeg = i) (hi : i < n) {g : JFrame} (hg : g.method = m) {rest : List Value} (hs : g.stack = .int j :: .ref a :: rest) (hd : decode c.code g.pc = .ok (.caload, 1)) (target : State)
    (k : Steps p.tables e below (T.setTop { g with pc := g.pc + 1, stack := .int (f i) :: rest }) target) : Steps p.tables e below (T.setTop g) target := by
  obtain ⟨cl, Ar, S, H⟩ := A
  exact X.caload hx (by rw [eT]; exact Ar.1) (State.isArrayOf_alike hZ.alike Ar.2.1) Ar.2.2 (own_in S hj hi) (by rw [hj.2]; exact H i hi) hg hs hd _ k
theorem own_ldB {n i : Nat} {f : Nat → Int32} (X : Stand p l e R s m args below meth c T locs cells slots) (hx : p.tables.exec = Jvm.exec) (hZ : Z.Warmed39 s.vm) (eT : T.heap = h) (A : ArI Z h a .byte n f) {j : Int32} (hj : ¬ j < 0 ∧ j.toNatClampNeg = i) (hi : i < n) {g : JFrame} (hg : g.method = m) {rest : List Value} (hs : g.stack = .int j :: .ref a :: rest) (hd : decode c.code g.pc = .ok (.baload, 1)) (target : State)
    (k : Steps p.tables e below (T.setTop { g with pc := g.pc + 1, stack := .int (f i) :: rest }) target) : Steps p.tables e below (T.setTop g) target := by
  obtain ⟨cl, Ar, S, H⟩ := A
  exact X.baloadBytes hx (by rw [eT]; exact Ar.1) (State.isArrayOf_alike hZ.alike Ar.2.1) Ar.2.2 (own_in S hj hi) (by rw [hj.2]; exact H i hi) hg hs hd _ k
theorem own_len {n : Nat} {ty : FieldType} {f : Nat → Int32} (X : Stand p l e R s m args below meth c T locs cells slots) (hx : p.tables.exec = Jvm.exec) (hZ : Z.Warmed39 s.vm) (eT : T.heap = h) (A : ArI Z h a ty n f) {N : Int32} (hN : n.toInt32 = N) {g : JFrame} (hg : g.method = m) {rest : List Value} (hs : g.stack = .ref a :: rest) (hd : decode c.code g.pc = .ok (.arraylength, 1)) (target : State)
    (k : Steps p.tables e below (T.setTop { g with pc := g.pc + 1, stack := .int N :: rest }) target) : Steps p.tables e below (T.setTop g) target := by
  obtain ⟨cl, Ar, S, H⟩ := A
  exact X.arraylength hx (by rw [eT]; exact Ar.1) (State.isArrayOf_alike hZ.alike Ar.2.1) hg hs hd _ (by rw [S, hN]; exact k)
/-- an array of n longs -/
def ArJ (Z : State) (h : Heap) (a : Addr) (n : Nat) (f : Nat → Int64) : Prop := Exa Z h a "[J" ∧ ∃ c : Cell, Arr Z h a c .long ∧ c.slots.size = n ∧ ∀ i, i < n → c.slots[i]? = some (.long (f i))
def own_updJ (f : Nat → Int64) (i : Nat) (x : Int64) : Nat → Int64 := fun k => if k = i then x else f k
theorem ArJ.lt {n : Nat} {f : Nat → Int64} (A : ArJ Z h a n f) : a < h.size := A.1.lt
theorem ArJ.ext {n : Nat} {f : Nat → Int64} (A : ArJ Z h a n f) (E : Ext h h') : ArJ Z h' a n f := by obtain ⟨e1, c, A, r⟩ := A; exact ⟨e1.ext E, c, A.ext E, r⟩
theorem ArJ.other {n : Nat} {f : Nat → Int64} {sl : Nat} {v : Value} (A : ArJ Z h b n f) (W : Wr h h' a sl v) (q : b ≠ a) : ArJ Z h' b n f := by obtain ⟨e1, c, A, r⟩ := A; exact ⟨e1.wr W, c, A.other W q, r⟩
theorem ArJ.keep {n : Nat} {f : Nat → Int64} {ws : List Addr} (A : ArJ Z h a n f) (K : Keep h h' ws) (q : a ∉ ws) : ArJ Z h' a n f := by obtain ⟨e1, c, A, r⟩ := A; exact ⟨e1.keep K, c, ⟨K.2.1 a c A.1 q, A.2⟩, r⟩
theorem ArJ.new {k : ClassId} {z : Int32} {n : Nat} (A : Arr Z h a (newA k .long z) .long) (E : Exa Z h a "[J") (hn : z.toNatClampNeg = n) : ArJ Z h a n (fun _ => 0) :=
  ⟨E, _, A, by rw [sz_new, hn], fun i hi => by rw [newA]; simp [hn, hi, defaultValue]⟩
theorem ArJ.set {n i : Nat} {f : Nat → Int64} {cl : Cell} {x : Int64} (E : Exa Z h a "[J") (A : Arr Z h a cl .long) (S : cl.slots.size = n) (H : ∀ i, i < n → cl.slots[i]? = some (.long (f i))) (W : Wr h h' a i (.long x)) : ArJ Z h' a n (own_updJ f i x) :=
  ⟨E.wr W, cl.setSlot i (.long x), A.same W, by rw [sz_set]; exact S, fun k hk => by
    by_cases q : k = i
    · subst q; simp [Cell.setSlot, own_updJ, Array.getElem?_setIfInBounds, S, hk]
    · simp only [Cell.setSlot, own_updJ, Array.getElem?_setIfInBounds, if_neg (Ne.symm q), if_neg q]; exact H k hk⟩
theorem own_stJ {n i : Nat} {f : Nat → Int64} (X : Stand p l e R s m args below meth c T locs cells slots) (hx : p.tables.exec = Jvm.exec) (hZ : Z.Warmed39 s.vm) (eT : T.heap = h) (A : ArJ Z h a n f) {j : Int32} {x : Int64} (hj : ¬ j < 0 ∧ j.toNatClampNeg = i) (hi : i < n) {g : JFrame} (hg : g.method = m) {rest : List Value} (hs : g.stack = .long x :: .int j :: .ref a :: rest) (hd : decode c.code g.pc = .ok (.lastore, 1)) :
    ∃ T' h', Stand p l e R s m args below meth c T' (locs ++ [⟨a, i⟩]) cells slots ∧ T'.heap = h' ∧ Wr h h' a i (.long x) ∧ ArJ Z h' a n (own_updJ f i x) ∧ ∀ target, Steps p.tables e below (T'.setTop { g with pc := g.pc + 1, stack := rest }) target → Steps p.tables e below (T.setTop g) target := by
  obtain ⟨E, cl, Ar, S, H⟩ := A
  have hin := own_in S hj hi
  obtain ⟨T', h', X', e', W', st⟩ := stJ X hx hZ eT Ar hin hg hs hd
  rw [hj.2] at X' W'
  exact ⟨T', h', X', e', W', ArJ.set E Ar S H W', st⟩
theorem own_ldJ {n i : Nat} {f : Nat → Int64} (X : Stand p l e R s m args below meth c T locs cells slots) (hx : p.tables.exec = Jvm.exec) (hZ : Z.Warmed39 s.vm) (eT : T.heap = h) (A : ArJ Z h a n f) {j : Int32} (hj : ¬ j < 0 ∧ j.toNatClampNeg = i) (hi : i < n) {g : JFrame} (hg : g.method = m) {rest : List Value} (hs : g.stack = .int j :: .ref a :: rest) (hd : decode c.code g.pc = .ok (.laload, 1)) (target : State)
    (k : Steps p.tables e below (T.setTop { g with pc := g.pc + 1, stack := .long (f i) :: rest }) target) : Steps p.tables e below (T.setTop g) target := by
  obtain ⟨E, cl, Ar, S, H⟩ := A
  exact X.laload hx (by rw [eT]; exact Ar.1) (State.isArrayOf_alike hZ.alike Ar.2.1) Ar.2.2 (own_in S hj hi) (by rw [hj.2]; exact H i hi) hg hs hd _ k
theorem own_lenJ {n : Nat} {f : Nat → Int64} (X : Stand p l e R s m args below meth c T locs cells slots) (hx : p.tables.exec = Jvm.exec) (hZ : Z.Warmed39 s.vm) (eT : T.heap = h) (A : ArJ Z h a n f) {N : Int32} (hN : n.toInt32 = N) {g : JFrame} (hg : g.method = m) {rest : List Value} (hs : g.stack = .ref a :: rest) (hd : decode c.code g.pc = .ok (.arraylength, 1)) (target : State)
    (k : Steps p.tables e below (T.setTop { g with pc := g.pc + 1, stack := .int N :: rest }) target) : Steps p.tables e below (T.setTop g) target := by
  obtain ⟨E, cl, Ar, S, H⟩ := A
  exact X.arraylength hx (by rw [eT]; exact Ar.1) (State.isArrayOf_alike hZ.alike Ar.2.1) hg hs hd _ (by rw [S, hN]; exact k)
theorem own_copyJ {a0 : Array Value} {n N cap : Nat} {f : Nat → Int64} (X : Stand p l e R s m args below meth c T locs cells slots) (hx : p.tables.exec = Jvm.exec) (hZ : Z.Warmed39 s.vm) {own : String} {index : Nat} (hown : s.vm.findClass own = some m.cls)
    (w1 : (Cond.methodLink own index Jvm.Free.JA.CopyOfJ.yN).before a0 Z = true) (w2 : (Cond.static Jvm.Free.JA.CopyOfJ.yN).before a0 Z = true) (w3 : (Cond.initialized "java/util/Arrays").before a0 Z = true) (w4 : (Cond.code Jvm.Free.JA.CopyOfJ.yN Jvm.Free.JA.CopyOfJ.yB 3 (some (.array .long))).before a0 Z = true) (wt : ∀ s' : State, Z.Warmed39 s'.vm → Jvm.Free.JA.CopyOfJ.tab.before args s' = true)
    (eT : T.heap = h) (A : ArJ Z h a n f) (hz : ∀ k, n ≤ k → f k = 0) (hn : n < 2147483648) (hcap : N ≤ cap) {g : JFrame} (hg : g.method = m) (hsize : g.locals.size = c.maxLocals) {rest : List Value} (hst : g.stack = .int (Int32.ofNat N) :: .ref a :: rest) (hd : decode c.code g.pc = .ok (.invokestatic index, 3)) {W : Nat} (hW : 2 * g.monitorRoom + (rest.map fun v => v.category).sum ≤ W)
    (hN : cap ≤ 67108864) (hf : 2 ≤ R.frames) (hlo : W + 54 ≤ R.locals) (hc : cells + 1 ≤ R.cells) (hs : slots + cap ≤ R.slots) :
    ∃ T' h', Stand p l e R s m args below meth c T' locs (cells + 1) (slots + cap) ∧ T'.heap = h' ∧ Ext h h' ∧ ArJ Z h' h.size N f ∧ ∀ target, Steps p.tables e below (T'.setTop { g with pc := g.pc + 3, stack := .ref h.size :: rest }) target → Steps p.tables e below (T.setTop g) target := by
  obtain ⟨E, cl, Ar, Sz, H⟩ := A
  have E' := E
  obtain ⟨ce, k, q1, q2, q3, q4, q5⟩ := E'
  obtain rfl : cl = ce := Option.some.inj (Ar.1.symm.trans q1)
  have hK := Jvm.Free.JA.CopyOfJ.pays (l := l) (R := R) (p := p) (e := e) (below := below) (s := s) (sargs := args) (len := 3) (W := W) a cl N (wt s hZ) hf hlo
  have hpre : ∀ vm₁, s.WarmedH vm₁ → cells + 1 ≤ R.cells ∧ slots + N ≤ R.slots ∧ Jvm.Free.JA.CopyOfJ.P a cl N #[.ref a, .int (Int32.ofNat N)] (T.setVm vm₁) := fun vm₁ hvm => by
    have w : Z.Warmed39 (T.setVm vm₁).vm := wtrans (U := T.setVm vm₁) hZ hvm
    refine ⟨hc, by omega, rfl, ⟨?_, State.isArrayOf_alike w.alike Ar.2.1, Ar.2.2, ?_⟩, ?_, ?_, by omega⟩
    · show T.heap[a]? = _
      rw [eT]; exact Ar.1
    · show cl.slots.size < 2147483648
      omega
    · rw [w.alike.findClass]; exact q2
    · intro i v hv
      by_cases hi : i < n
      · rw [H i hi] at hv; cases hv; rfl
      · rw [Array.getElem?_eq_none (by omega)] at hv; cases hv
  have hcall := Jvm.LawKit.callS X hx (y := Jvm.Free.JA.CopyOfJ.yN) hown (mvT hZ w1) (mvT hZ w2) (mvT hZ w3) (mvT hZ w4) (by decide) hK hg hsize (argsL := [.ref a, .int (Int32.ofNat N)]) (rest := rest) (lenOf (show parseMethodDescriptor "([JI)[J" = some ⟨[.array .long, .int], some (.array .long)⟩ by decide +kernel) rfl) hst hW hd hpre
  obtain ⟨v, vm₁, B, hwm, X', ⟨hE, hl, hcl, hsl⟩, st⟩ := hcall
  obtain ⟨rfl, Bc, b1, b2, b3, b4, b5, b6⟩ := hE
  dsimp only [Pt.U, Pt.locs, Pt.cells, Pt.slots] at hl hcl hsl b1 b3 b6 st
  obtain ⟨U, L, kc, ks⟩ := B
  dsimp only at hl hcl hsl b1 b3 b6 st X'
  rw [List.append_nil] at hl
  subst hl hcl hsl
  have eh : (T.setVm vm₁).heap = h := eT
  rw [eh] at b1 st
  have hU : Z.Warmed39 U.vm := wtrans hZ X'.warmed
  have hcls : Bc.cls = cl.cls := by
    rw [hU.alike.findClass, q2] at b3; exact (Option.some.inj b3).symm
  have hext : Ext h U.heap := by
    refine ⟨?_, fun x c hc => b6 x c (by rw [eh]; exact hc)⟩
    obtain ⟨hlt, -⟩ := Array.getElem?_eq_some_iff.mp b1.1
    omega
  have hAr : Arr Z U.heap h.size Bc .long := ⟨b1.1, by
    obtain ⟨o1, k1, hk1, o2, o3⟩ := Ar.2.1
    exact ⟨by rw [b2]; simp, k1, by rw [hcls]; exact hk1, o2, o3⟩, b1.2.2.1⟩
  have X2 : Stand p l e R s m args below meth c U _ (cells + 1) (slots + N) := X'
  refine ⟨U, U.heap, X2.more (Nat.le_refl _) (Nat.add_le_add_left hcap _), rfl, hext, ⟨⟨Bc, k, b1.1, by rw [hcls]; exact q2, by rw [hcls]; exact q3, by rw [b2]; rfl, fun z => ?_⟩, Bc, hAr, b4, fun i hi => ?_⟩, fun t k => st t k⟩
  · obtain ⟨o1, k1, hk1, o2, o3⟩ := Ar.2.1
    rw [q3] at hk1; cases hk1; rw [o3] at z; cases z
  · rw [b5 i hi]
    show some (cl.slots.getD i (defaultValue FieldType.long)) = _
    by_cases hi2 : i < n
    · rw [Array.getD_eq_getD_getElem?, H i hi2]; rfl
    · rw [Array.getD_eq_getD_getElem?, Array.getElem?_eq_none (by omega), hz i (by omega)]; rfl
end OwnKit
theorem pn_0 : plainName "java/lang/Integer" = true := by first | (simp [plainName, overriddenIn]; done) | decide +kernel
theorem d7_0 : decode jdk_33_method_48_code 0 = .ok (.iload_n 0, 1) := by decide +kernel
theorem d7_1 : decode jdk_33_method_48_code 1 = .ok (.iconst (-1), 1) := by decide +kernel
theorem d7_2 : decode jdk_33_method_48_code 2 = .ok (.ixor, 1) := by decide +kernel
theorem d7_3 : decode jdk_33_method_48_code 3 = .ok (.iload_n 0, 1) := by decide +kernel
theorem d7_4 : decode jdk_33_method_48_code 4 = .ok (.iconst 1, 1) := by decide +kernel
theorem d7_5 : decode jdk_33_method_48_code 5 = .ok (.isub, 1) := by decide +kernel
theorem d7_6 : decode jdk_33_method_48_code 6 = .ok (.iand, 1) := by decide +kernel
theorem d7_7 : decode jdk_33_method_48_code 7 = .ok (.istore_n 0, 1) := by decide +kernel
theorem d7_8 : decode jdk_33_method_48_code 8 = .ok (.iload_n 0, 1) := by decide +kernel
theorem d7_9 : decode jdk_33_method_48_code 9 = .ok (.ifCond .gt 8, 3) := by decide +kernel
theorem d7_12 : decode jdk_33_method_48_code 12 = .ok (.iload_n 0, 1) := by decide +kernel
theorem d7_13 : decode jdk_33_method_48_code 13 = .ok (.bipush 32, 2) := by decide +kernel
theorem d7_15 : decode jdk_33_method_48_code 15 = .ok (.iand, 1) := by decide +kernel
theorem d7_16 : decode jdk_33_method_48_code 16 = .ok (.ireturn, 1) := by decide +kernel
theorem d7_17 : decode jdk_33_method_48_code 17 = .ok (.iconst 1, 1) := by decide +kernel
theorem d7_18 : decode jdk_33_method_48_code 18 = .ok (.istore_n 1, 1) := by decide +kernel
theorem d7_19 : decode jdk_33_method_48_code 19 = .ok (.iload_n 0, 1) := by decide +kernel
theorem d7_20 : decode jdk_33_method_48_code 20 = .ok (.ldc_w 264, 3) := by decide +kernel
theorem d7_23 : decode jdk_33_method_48_code 23 = .ok (.if_icmp .le 11, 3) := by decide +kernel
theorem d7_26 : decode jdk_33_method_48_code 26 = .ok (.iinc 1 16, 3) := by decide +kernel
theorem d7_29 : decode jdk_33_method_48_code 29 = .ok (.iload_n 0, 1) := by decide +kernel
theorem d7_30 : decode jdk_33_method_48_code 30 = .ok (.bipush 16, 2) := by decide +kernel
theorem d7_32 : decode jdk_33_method_48_code 32 = .ok (.iushr, 1) := by decide +kernel
theorem d7_33 : decode jdk_33_method_48_code 33 = .ok (.istore_n 0, 1) := by decide +kernel
theorem d7_34 : decode jdk_33_method_48_code 34 = .ok (.iload_n 0, 1) := by decide +kernel
theorem d7_35 : decode jdk_33_method_48_code 35 = .ok (.sipush 256, 3) := by decide +kernel
theorem d7_38 : decode jdk_33_method_48_code 38 = .ok (.if_icmp .le 11, 3) := by decide +kernel
theorem d7_41 : decode jdk_33_method_48_code 41 = .ok (.iinc 1 8, 3) := by decide +kernel
theorem d7_44 : decode jdk_33_method_48_code 44 = .ok (.iload_n 0, 1) := by decide +kernel
theorem d7_45 : decode jdk_33_method_48_code 45 = .ok (.bipush 8, 2) := by decide +kernel
theorem d7_47 : decode jdk_33_method_48_code 47 = .ok (.iushr, 1) := by decide +kernel
theorem d7_48 : decode jdk_33_method_48_code 48 = .ok (.istore_n 0, 1) := by decide +kernel
theorem d7_49 : decode jdk_33_method_48_code 49 = .ok (.iload_n 0, 1) := by decide +kernel
theorem d7_50 : decode jdk_33_method_48_code 50 = .ok (.bipush 16, 2) := by decide +kernel
theorem d7_52 : decode jdk_33_method_48_code 52 = .ok (.if_icmp .le 10, 3) := by decide +kernel
theorem d7_55 : decode jdk_33_method_48_code 55 = .ok (.iinc 1 4, 3) := by decide +kernel
theorem d7_58 : decode jdk_33_method_48_code 58 = .ok (.iload_n 0, 1) := by decide +kernel
theorem d7_59 : decode jdk_33_method_48_code 59 = .ok (.iconst 4, 1) := by decide +kernel
theorem d7_60 : decode jdk_33_method_48_code 60 = .ok (.iushr, 1) := by decide +kernel
theorem d7_61 : decode jdk_33_method_48_code 61 = .ok (.istore_n 0, 1) := by decide +kernel
theorem d7_62 : decode jdk_33_method_48_code 62 = .ok (.iload_n 0, 1) := by decide +kernel
theorem d7_63 : decode jdk_33_method_48_code 63 = .ok (.iconst 4, 1) := by decide +kernel
theorem d7_64 : decode jdk_33_method_48_code 64 = .ok (.if_icmp .le 10, 3) := by decide +kernel
theorem d7_67 : decode jdk_33_method_48_code 67 = .ok (.iinc 1 2, 3) := by decide +kernel
theorem d7_70 : decode jdk_33_method_48_code 70 = .ok (.iload_n 0, 1) := by decide +kernel
theorem d7_71 : decode jdk_33_method_48_code 71 = .ok (.iconst 2, 1) := by decide +kernel
theorem d7_72 : decode jdk_33_method_48_code 72 = .ok (.iushr, 1) := by decide +kernel
theorem d7_73 : decode jdk_33_method_48_code 73 = .ok (.istore_n 0, 1) := by decide +kernel
theorem d7_74 : decode jdk_33_method_48_code 74 = .ok (.iload_n 1, 1) := by decide +kernel
theorem d7_75 : decode jdk_33_method_48_code 75 = .ok (.iload_n 0, 1) := by decide +kernel
theorem d7_76 : decode jdk_33_method_48_code 76 = .ok (.iconst 1, 1) := by decide +kernel
theorem d7_77 : decode jdk_33_method_48_code 77 = .ok (.iushr, 1) := by decide +kernel
theorem d7_78 : decode jdk_33_method_48_code 78 = .ok (.iadd, 1) := by decide +kernel
theorem d7_79 : decode jdk_33_method_48_code 79 = .ok (.ireturn, 1) := by decide +kernel
theorem ef_7 (m : MethodId) (x0 : Int32) : entryFrame m #[(.int x0)] 2 = mkF m 0 #[.val (.int x0), .unset] [] := by first | (simp [entryFrame, mkF, argsToLocals, Value.category]; done) | rfl
abbrev R7 : Room := { frames := 0, cells := 0, slots := 0, locals := 0 }
def v7_7 (p7_0 : Int32) : Int32 := ((p7_0 ^^^ (-1 : Int32)) &&& (p7_0 - (1 : Int32)))
def v7_33 (p7_0 : Int32) : Int32 := (own_ushr (v7_7 p7_0) (16 : Int32))
def j7_34_0 (p7_0 : Int32) : Int32 := (if (65536 : Int32) < (v7_7 p7_0) then (v7_33 p7_0) else (v7_7 p7_0))
def j7_34_1 (p7_0 : Int32) : Int32 := (if (65536 : Int32) < (v7_7 p7_0) then ((1 : Int32) + (16 : Int32)) else (1 : Int32))
def v7_48 (p7_0 : Int32) : Int32 := (own_ushr (j7_34_0 p7_0) (8 : Int32))
def j7_49_0 (p7_0 : Int32) : Int32 := (if (256 : Int32) < (j7_34_0 p7_0) then (v7_48 p7_0) else (j7_34_0 p7_0))
def j7_49_1 (p7_0 : Int32) : Int32 := (if (256 : Int32) < (j7_34_0 p7_0) then ((j7_34_1 p7_0) + (8 : Int32)) else (j7_34_1 p7_0))
def v7_61 (p7_0 : Int32) : Int32 := (own_ushr (j7_49_0 p7_0) (4 : Int32))
def j7_62_0 (p7_0 : Int32) : Int32 := (if (16 : Int32) < (j7_49_0 p7_0) then (v7_61 p7_0) else (j7_49_0 p7_0))
def j7_62_1 (p7_0 : Int32) : Int32 := (if (16 : Int32) < (j7_49_0 p7_0) then ((j7_49_1 p7_0) + (4 : Int32)) else (j7_49_1 p7_0))
def v7_73 (p7_0 : Int32) : Int32 := (own_ushr (j7_62_0 p7_0) (2 : Int32))
def j7_74_0 (p7_0 : Int32) : Int32 := (if (4 : Int32) < (j7_62_0 p7_0) then (v7_73 p7_0) else (j7_62_0 p7_0))
def j7_74_1 (p7_0 : Int32) : Int32 := (if (4 : Int32) < (j7_62_0 p7_0) then ((j7_62_1 p7_0) + (2 : Int32)) else (j7_62_1 p7_0))
def r7 (p7_0 : Int32) : Int32 := (if (0 : Int32) < (v7_7 p7_0) then ((j7_74_1 p7_0) + (own_ushr (j7_74_0 p7_0) (1 : Int32))) else ((v7_7 p7_0) &&& (32 : Int32)))
def Q7 (Z : State) (p7_0 : Int32) (h0 : Heap) (n0 : Nat) (v : Option Value) (h : Heap) (L : List Loc) : Prop := v = some (.int (r7 p7_0)) ∧ Fr n0 L ∧ h = h0
set_option maxRecDepth 65536 in
set_option maxHeartbeats 40000000 in
theorem rm7 (l : Launch) (Z : State) (a0 : Array Value) (hw : ∀ d ∈ tables_1, d.before a0 Z = true) (ws : List Jvm.Cond) (p7_0 : Int32) (h0 : Heap) (n0 : Nat) (Z0 : n0 ≤ h0.size) :
    MetFree l (⟨"java/lang/Integer", "numberOfTrailingZeros", "(I)I"⟩ : MethodName) (head1 (Jvm.Cond.code (⟨"java/lang/Integer", "numberOfTrailingZeros", "(I)I"⟩ : MethodName) jdk_33_method_48_code 2 (some .int) :: ws) R7) (fun a U => a = #[(.int p7_0)] ∧ Z.Warmed39 U.vm ∧ U.heap = h0) (fun _ _ _ _ _ => True) (fun _ U o U' => ∃ v L, o = .returned v ∧ Q7 Z p7_0 h0 n0 v U'.heap L ∧ FrameEnd U o U' L R7.cells R7.slots) := by
  refine MetFree.of_bodySF (plainFor_of_name pn_0) hisR ?_
  intro p e s m args below meth c s₁ Bd hml0 hP hK
  obtain ⟨rfl, hZ, hh⟩ := hP
  have hx := Bd.exec
  have hby := Bd.bytes
  have hml : c.maxLocals = 2 := hml0
  have hown : s.vm.findClass "java/lang/Integer" = some m.cls := findClass_of_methodNamed Bd.named
  have hnm := (name_of_methodNamed Bd.named Bd.method).1
  have X0 : Stand p l e R7 s m #[(.int p7_0)] below meth c s₁ [] 0 0 := Stand.of_body Bd
  have e0 : s₁.heap = h0 := by rw [← hh, Bd.state]; rfl
  have N0 := Fr.nil n0
  have pre0 : ∀ t, Steps p.tables e below (s₁.setTop (mkF m 0 #[.val (.int p7_0), .unset] [])) t → Steps p.tables e below (s₁.setTop (entryFrame m #[(.int p7_0)] 2)) t := fun t k => castTop (ef_7 m p7_0) k
  have pre1 : ∀ t, Steps p.tables e below (s₁.setTop (mkF m 9 #[.val (.int (v7_7 p7_0)), .unset] [(.int (v7_7 p7_0))])) t → Steps p.tables e below (s₁.setTop (entryFrame m #[(.int p7_0)] 2)) t := fun t k => pre0 t (by
    refine XS.iloadN X0.here hx rfl (hb hby d7_0) rfl ?_
    show Steps p.tables e below (s₁.setTop (mkF m 1 #[.val (.int p7_0), .unset] [(.int p7_0)])) _
    refine XS.iconst X0.here hx rfl (hb hby d7_1) ?_
    show Steps p.tables e below (s₁.setTop (mkF m 2 #[.val (.int p7_0), .unset] [(.int (-1 : Int32)), (.int p7_0)])) _
    refine XS.ixor X0.here hx rfl (hb hby d7_2) rfl ?_
    show Steps p.tables e below (s₁.setTop (mkF m 3 #[.val (.int p7_0), .unset] [(.int (p7_0 ^^^ (-1 : Int32)))])) _
    refine XS.iloadN X0.here hx rfl (hb hby d7_3) rfl ?_
    show Steps p.tables e below (s₁.setTop (mkF m 4 #[.val (.int p7_0), .unset] [(.int p7_0), (.int (p7_0 ^^^ (-1 : Int32)))])) _
    refine XS.iconst X0.here hx rfl (hb hby d7_4) ?_
    show Steps p.tables e below (s₁.setTop (mkF m 5 #[.val (.int p7_0), .unset] [(.int (1 : Int32)), (.int p7_0), (.int (p7_0 ^^^ (-1 : Int32)))])) _
    refine XS.isub X0.here hx rfl (hb hby d7_5) rfl ?_
    show Steps p.tables e below (s₁.setTop (mkF m 6 #[.val (.int p7_0), .unset] [(.int (p7_0 - (1 : Int32))), (.int (p7_0 ^^^ (-1 : Int32)))])) _
    refine XS.iand X0.here hx rfl (hb hby d7_6) rfl ?_
    show Steps p.tables e below (s₁.setTop (mkF m 7 #[.val (.int p7_0), .unset] [(.int ((p7_0 ^^^ (-1 : Int32)) &&& (p7_0 - (1 : Int32))))])) _
    show Steps p.tables e below (s₁.setTop (mkF m 7 #[.val (.int p7_0), .unset] [(.int (v7_7 p7_0))])) _
    refine XS.istoreN X0.here hx rfl (hb hby d7_7) rfl (l' := #[.val (.int (v7_7 p7_0)), .unset]) rfl ?_
    show Steps p.tables e below (s₁.setTop (mkF m 8 #[.val (.int (v7_7 p7_0)), .unset] [])) _
    refine XS.iloadN X0.here hx rfl (hb hby d7_8) rfl ?_
    show Steps p.tables e below (s₁.setTop (mkF m 9 #[.val (.int (v7_7 p7_0)), .unset] [(.int (v7_7 p7_0))])) _
    exact k)
  by_cases hc9_2 : (0 : Int32) < (v7_7 p7_0)
  · have pre3 : ∀ t, Steps p.tables e below (s₁.setTop (mkF m 23 #[.val (.int (v7_7 p7_0)), .val (.int (1 : Int32))] [(.int (65536 : Int32)), (.int (v7_7 p7_0))])) t → Steps p.tables e below (s₁.setTop (entryFrame m #[(.int p7_0)] 2)) t := fun t k => pre1 t (by
      refine XS.ifYes X0.here hx rfl (pc0 := 9) (pc' := 17) rfl (hb hby d7_9) rfl ((if0 _ _).trans (tlt hc9_2).2.2.1) (by decide) (by decide) ?_
      show Steps p.tables e below (s₁.setTop (mkF m 17 #[.val (.int (v7_7 p7_0)), .unset] [])) _
      refine XS.iconst X0.here hx rfl (hb hby d7_17) ?_
      show Steps p.tables e below (s₁.setTop (mkF m 18 #[.val (.int (v7_7 p7_0)), .unset] [(.int (1 : Int32))])) _
      refine XS.istoreN X0.here hx rfl (hb hby d7_18) rfl (l' := #[.val (.int (v7_7 p7_0)), .val (.int (1 : Int32))]) rfl ?_
      show Steps p.tables e below (s₁.setTop (mkF m 19 #[.val (.int (v7_7 p7_0)), .val (.int (1 : Int32))] [])) _
      refine XS.iloadN X0.here hx rfl (hb hby d7_19) rfl ?_
      show Steps p.tables e below (s₁.setTop (mkF m 20 #[.val (.int (v7_7 p7_0)), .val (.int (1 : Int32))] [(.int (v7_7 p7_0))])) _
      refine X0.ldcwInt hx hown (mvT hZ (hw _ (List.mem_of_getElem? (i := 38) rfl))) (g := (mkF m 20 #[.val (.int (v7_7 p7_0)), .val (.int (1 : Int32))] [(.int (v7_7 p7_0))])) rfl (hb hby d7_20) _ ?_
      show Steps p.tables e below (s₁.setTop (mkF m 23 #[.val (.int (v7_7 p7_0)), .val (.int (1 : Int32))] [(.int (65536 : Int32)), (.int (v7_7 p7_0))])) _
      exact k)
    obtain ⟨T4, L4, X4, e4, N4, st4⟩ : ∃ (T' : State) (L' : List Loc), Stand p l e R7 s m #[(.int p7_0)] below meth c T' L' 0 0 ∧ T'.heap = h0 ∧ Fr n0 L' ∧ ∀ t, Steps p.tables e below (T'.setTop (mkF m 34 #[.val (.int (j7_34_0 p7_0)), .val (.int (j7_34_1 p7_0))] [])) t → Steps p.tables e below (s₁.setTop (mkF m 23 #[.val (.int (v7_7 p7_0)), .val (.int (1 : Int32))] [(.int (65536 : Int32)), (.int (v7_7 p7_0))])) t := by
      have pre4 : ∀ t, Steps p.tables e below (s₁.setTop (mkF m 23 #[.val (.int (v7_7 p7_0)), .val (.int (1 : Int32))] [(.int (65536 : Int32)), (.int (v7_7 p7_0))])) t → Steps p.tables e below (s₁.setTop (mkF m 23 #[.val (.int (v7_7 p7_0)), .val (.int (1 : Int32))] [(.int (65536 : Int32)), (.int (v7_7 p7_0))])) t := fun t k => k
      by_cases hc23_5 : (65536 : Int32) < (v7_7 p7_0)
      · have pre6 : ∀ t, Steps p.tables e below (s₁.setTop (mkF m 34 #[.val (.int (v7_33 p7_0)), .val (.int ((1 : Int32) + (16 : Int32)))] [])) t → Steps p.tables e below (s₁.setTop (mkF m 23 #[.val (.int (v7_7 p7_0)), .val (.int (1 : Int32))] [(.int (65536 : Int32)), (.int (v7_7 p7_0))])) t := fun t k => pre4 t (by
          refine XS.icmpNo X0.here hx rfl (hb hby d7_23) rfl (tlt hc23_5).2.2.2 ?_
          show Steps p.tables e below (s₁.setTop (mkF m 26 #[.val (.int (v7_7 p7_0)), .val (.int (1 : Int32))] [])) _
          refine XS.iinc X0.here hx rfl (hb hby d7_26) rfl (l' := #[.val (.int (v7_7 p7_0)), .val (.int ((1 : Int32) + (16 : Int32)))]) rfl ?_
          show Steps p.tables e below (s₁.setTop (mkF m 29 #[.val (.int (v7_7 p7_0)), .val (.int ((1 : Int32) + (16 : Int32)))] [])) _
          refine XS.iloadN X0.here hx rfl (hb hby d7_29) rfl ?_
          show Steps p.tables e below (s₁.setTop (mkF m 30 #[.val (.int (v7_7 p7_0)), .val (.int ((1 : Int32) + (16 : Int32)))] [(.int (v7_7 p7_0))])) _
          refine XS.bipush X0.here hx rfl (hb hby d7_30) ?_
          show Steps p.tables e below (s₁.setTop (mkF m 32 #[.val (.int (v7_7 p7_0)), .val (.int ((1 : Int32) + (16 : Int32)))] [(.int (16 : Int32)), (.int (v7_7 p7_0))])) _
          refine XS.iushr X0.here hx rfl (hb hby d7_32) rfl ?_
          show Steps p.tables e below (s₁.setTop (mkF m 33 #[.val (.int (v7_7 p7_0)), .val (.int ((1 : Int32) + (16 : Int32)))] [(.int (own_ushr (v7_7 p7_0) (16 : Int32)))])) _
          show Steps p.tables e below (s₁.setTop (mkF m 33 #[.val (.int (v7_7 p7_0)), .val (.int ((1 : Int32) + (16 : Int32)))] [(.int (v7_33 p7_0))])) _
          refine XS.istoreN X0.here hx rfl (hb hby d7_33) rfl (l' := #[.val (.int (v7_33 p7_0)), .val (.int ((1 : Int32) + (16 : Int32)))]) rfl ?_
          show Steps p.tables e below (s₁.setTop (mkF m 34 #[.val (.int (v7_33 p7_0)), .val (.int ((1 : Int32) + (16 : Int32)))] [])) _
          exact k)
        have hj8 : (j7_34_0 p7_0) = (v7_33 p7_0) := by unfold j7_34_0; rw [if_pos hc23_5]
        have hj9 : (j7_34_1 p7_0) = ((1 : Int32) + (16 : Int32)) := by unfold j7_34_1; rw [if_pos hc23_5]
        exact ⟨s₁, _, X0, e0, N0, fun t k => pre6 t (by rw [hj8, hj9] at k; exact k)⟩
      · have pre7 : ∀ t, Steps p.tables e below (s₁.setTop (mkF m 34 #[.val (.int (v7_7 p7_0)), .val (.int (1 : Int32))] [])) t → Steps p.tables e below (s₁.setTop (mkF m 23 #[.val (.int (v7_7 p7_0)), .val (.int (1 : Int32))] [(.int (65536 : Int32)), (.int (v7_7 p7_0))])) t := fun t k => pre4 t (by
          refine XS.icmpYes X0.here hx rfl (pc0 := 23) (pc' := 34) rfl (hb hby d7_23) rfl (flt hc23_5).2.2.2 (by decide) (by decide) ?_
          show Steps p.tables e below (s₁.setTop (mkF m 34 #[.val (.int (v7_7 p7_0)), .val (.int (1 : Int32))] [])) _
          exact k)
        have hj10 : (j7_34_0 p7_0) = (v7_7 p7_0) := by unfold j7_34_0; rw [if_neg hc23_5]
        have hj11 : (j7_34_1 p7_0) = (1 : Int32) := by unfold j7_34_1; rw [if_neg hc23_5]
        exact ⟨s₁, _, X0, e0, N0, fun t k => pre7 t (by rw [hj10, hj11] at k; exact k)⟩
    have pre4 : ∀ t, Steps p.tables e below (T4.setTop (mkF m 34 #[.val (.int (j7_34_0 p7_0)), .val (.int (j7_34_1 p7_0))] [])) t → Steps p.tables e below (s₁.setTop (entryFrame m #[(.int p7_0)] 2)) t := fun t k => pre3 t (st4 t k)
    have pre12 : ∀ t, Steps p.tables e below (T4.setTop (mkF m 38 #[.val (.int (j7_34_0 p7_0)), .val (.int (j7_34_1 p7_0))] [(.int (256 : Int32)), (.int (j7_34_0 p7_0))])) t → Steps p.tables e below (s₁.setTop (entryFrame m #[(.int p7_0)] 2)) t := fun t k => pre4 t (by
      refine XS.iloadN X4.here hx rfl (hb hby d7_34) rfl ?_
      show Steps p.tables e below (T4.setTop (mkF m 35 #[.val (.int (j7_34_0 p7_0)), .val (.int (j7_34_1 p7_0))] [(.int (j7_34_0 p7_0))])) _
      refine XS.sipush X4.here hx rfl (hb hby d7_35) ?_
      show Steps p.tables e below (T4.setTop (mkF m 38 #[.val (.int (j7_34_0 p7_0)), .val (.int (j7_34_1 p7_0))] [(.int (256 : Int32)), (.int (j7_34_0 p7_0))])) _
      exact k)
    obtain ⟨T13, L13, X13, e13, N13, st13⟩ : ∃ (T' : State) (L' : List Loc), Stand p l e R7 s m #[(.int p7_0)] below meth c T' L' 0 0 ∧ T'.heap = h0 ∧ Fr n0 L' ∧ ∀ t, Steps p.tables e below (T'.setTop (mkF m 49 #[.val (.int (j7_49_0 p7_0)), .val (.int (j7_49_1 p7_0))] [])) t → Steps p.tables e below (T4.setTop (mkF m 38 #[.val (.int (j7_34_0 p7_0)), .val (.int (j7_34_1 p7_0))] [(.int (256 : Int32)), (.int (j7_34_0 p7_0))])) t := by
      have pre13 : ∀ t, Steps p.tables e below (T4.setTop (mkF m 38 #[.val (.int (j7_34_0 p7_0)), .val (.int (j7_34_1 p7_0))] [(.int (256 : Int32)), (.int (j7_34_0 p7_0))])) t → Steps p.tables e below (T4.setTop (mkF m 38 #[.val (.int (j7_34_0 p7_0)), .val (.int (j7_34_1 p7_0))] [(.int (256 : Int32)), (.int (j7_34_0 p7_0))])) t := fun t k => k
      by_cases hc38_14 : (256 : Int32) < (j7_34_0 p7_0)
      · have pre15 : ∀ t, Steps p.tables e below (T4.setTop (mkF m 49 #[.val (.int (v7_48 p7_0)), .val (.int ((j7_34_1 p7_0) + (8 : Int32)))] [])) t → Steps p.tables e below (T4.setTop (mkF m 38 #[.val (.int (j7_34_0 p7_0)), .val (.int (j7_34_1 p7_0))] [(.int (256 : Int32)), (.int (j7_34_0 p7_0))])) t := fun t k => pre13 t (by
          refine XS.icmpNo X4.here hx rfl (hb hby d7_38) rfl (tlt hc38_14).2.2.2 ?_
          show Steps p.tables e below (T4.setTop (mkF m 41 #[.val (.int (j7_34_0 p7_0)), .val (.int (j7_34_1 p7_0))] [])) _
          refine XS.iinc X4.here hx rfl (hb hby d7_41) rfl (l' := #[.val (.int (j7_34_0 p7_0)), .val (.int ((j7_34_1 p7_0) + (8 : Int32)))]) rfl ?_
          show Steps p.tables e below (T4.setTop (mkF m 44 #[.val (.int (j7_34_0 p7_0)), .val (.int ((j7_34_1 p7_0) + (8 : Int32)))] [])) _
          refine XS.iloadN X4.here hx rfl (hb hby d7_44) rfl ?_
          show Steps p.tables e below (T4.setTop (mkF m 45 #[.val (.int (j7_34_0 p7_0)), .val (.int ((j7_34_1 p7_0) + (8 : Int32)))] [(.int (j7_34_0 p7_0))])) _
          refine XS.bipush X4.here hx rfl (hb hby d7_45) ?_
          show Steps p.tables e below (T4.setTop (mkF m 47 #[.val (.int (j7_34_0 p7_0)), .val (.int ((j7_34_1 p7_0) + (8 : Int32)))] [(.int (8 : Int32)), (.int (j7_34_0 p7_0))])) _
          refine XS.iushr X4.here hx rfl (hb hby d7_47) rfl ?_
          show Steps p.tables e below (T4.setTop (mkF m 48 #[.val (.int (j7_34_0 p7_0)), .val (.int ((j7_34_1 p7_0) + (8 : Int32)))] [(.int (own_ushr (j7_34_0 p7_0) (8 : Int32)))])) _
          show Steps p.tables e below (T4.setTop (mkF m 48 #[.val (.int (j7_34_0 p7_0)), .val (.int ((j7_34_1 p7_0) + (8 : Int32)))] [(.int (v7_48 p7_0))])) _
          refine XS.istoreN X4.here hx rfl (hb hby d7_48) rfl (l' := #[.val (.int (v7_48 p7_0)), .val (.int ((j7_34_1 p7_0) + (8 : Int32)))]) rfl ?_
          show Steps p.tables e below (T4.setTop (mkF m 49 #[.val (.int (v7_48 p7_0)), .val (.int ((j7_34_1 p7_0) + (8 : Int32)))] [])) _
          exact k)
        have hj17 : (j7_49_0 p7_0) = (v7_48 p7_0) := by unfold j7_49_0; rw [if_pos hc38_14]
        have hj18 : (j7_49_1 p7_0) = ((j7_34_1 p7_0) + (8 : Int32)) := by unfold j7_49_1; rw [if_pos hc38_14]
        exact ⟨T4, _, X4, e4, N4, fun t k => pre15 t (by rw [hj17, hj18] at k; exact k)⟩
      · have pre16 : ∀ t, Steps p.tables e below (T4.setTop (mkF m 49 #[.val (.int (j7_34_0 p7_0)), .val (.int (j7_34_1 p7_0))] [])) t → Steps p.tables e below (T4.setTop (mkF m 38 #[.val (.int (j7_34_0 p7_0)), .val (.int (j7_34_1 p7_0))] [(.int (256 : Int32)), (.int (j7_34_0 p7_0))])) t := fun t k => pre13 t (by
          refine XS.icmpYes X4.here hx rfl (pc0 := 38) (pc' := 49) rfl (hb hby d7_38) rfl (flt hc38_14).2.2.2 (by decide) (by decide) ?_
          show Steps p.tables e below (T4.setTop (mkF m 49 #[.val (.int (j7_34_0 p7_0)), .val (.int (j7_34_1 p7_0))] [])) _
          exact k)
        have hj19 : (j7_49_0 p7_0) = (j7_34_0 p7_0) := by unfold j7_49_0; rw [if_neg hc38_14]
        have hj20 : (j7_49_1 p7_0) = (j7_34_1 p7_0) := by unfold j7_49_1; rw [if_neg hc38_14]
        exact ⟨T4, _, X4, e4, N4, fun t k => pre16 t (by rw [hj19, hj20] at k; exact k)⟩
    have pre13 : ∀ t, Steps p.tables e below (T13.setTop (mkF m 49 #[.val (.int (j7_49_0 p7_0)), .val (.int (j7_49_1 p7_0))] [])) t → Steps p.tables e below (s₁.setTop (entryFrame m #[(.int p7_0)] 2)) t := fun t k => pre12 t (st13 t k)
    have pre21 : ∀ t, Steps p.tables e below (T13.setTop (mkF m 52 #[.val (.int (j7_49_0 p7_0)), .val (.int (j7_49_1 p7_0))] [(.int (16 : Int32)), (.int (j7_49_0 p7_0))])) t → Steps p.tables e below (s₁.setTop (entryFrame m #[(.int p7_0)] 2)) t := fun t k => pre13 t (by
      refine XS.iloadN X13.here hx rfl (hb hby d7_49) rfl ?_
      show Steps p.tables e below (T13.setTop (mkF m 50 #[.val (.int (j7_49_0 p7_0)), .val (.int (j7_49_1 p7_0))] [(.int (j7_49_0 p7_0))])) _
      refine XS.bipush X13.here hx rfl (hb hby d7_50) ?_
      show Steps p.tables e below (T13.setTop (mkF m 52 #[.val (.int (j7_49_0 p7_0)), .val (.int (j7_49_1 p7_0))] [(.int (16 : Int32)), (.int (j7_49_0 p7_0))])) _
      exact k)
    obtain ⟨T22, L22, X22, e22, N22, st22⟩ : ∃ (T' : State) (L' : List Loc), Stand p l e R7 s m #[(.int p7_0)] below meth c T' L' 0 0 ∧ T'.heap = h0 ∧ Fr n0 L' ∧ ∀ t, Steps p.tables e below (T'.setTop (mkF m 62 #[.val (.int (j7_62_0 p7_0)), .val (.int (j7_62_1 p7_0))] [])) t → Steps p.tables e below (T13.setTop (mkF m 52 #[.val (.int (j7_49_0 p7_0)), .val (.int (j7_49_1 p7_0))] [(.int (16 : Int32)), (.int (j7_49_0 p7_0))])) t := by
      have pre22 : ∀ t, Steps p.tables e below (T13.setTop (mkF m 52 #[.val (.int (j7_49_0 p7_0)), .val (.int (j7_49_1 p7_0))] [(.int (16 : Int32)), (.int (j7_49_0 p7_0))])) t → Steps p.tables e below (T13.setTop (mkF m 52 #[.val (.int (j7_49_0 p7_0)), .val (.int (j7_49_1 p7_0))] [(.int (16 : Int32)), (.int (j7_49_0 p7_0))])) t := fun t k => k
      by_cases hc52_23 : (16 : Int32) < (j7_49_0 p7_0)
      · have pre24 : ∀ t, Steps p.tables e below (T13.setTop (mkF m 62 #[.val (.int (v7_61 p7_0)), .val (.int ((j7_49_1 p7_0) + (4 : Int32)))] [])) t → Steps p.tables e below (T13.setTop (mkF m 52 #[.val (.int (j7_49_0 p7_0)), .val (.int (j7_49_1 p7_0))] [(.int (16 : Int32)), (.int (j7_49_0 p7_0))])) t := fun t k => pre22 t (by
          refine XS.icmpNo X13.here hx rfl (hb hby d7_52) rfl (tlt hc52_23).2.2.2 ?_
          show Steps p.tables e below (T13.setTop (mkF m 55 #[.val (.int (j7_49_0 p7_0)), .val (.int (j7_49_1 p7_0))] [])) _
          refine XS.iinc X13.here hx rfl (hb hby d7_55) rfl (l' := #[.val (.int (j7_49_0 p7_0)), .val (.int ((j7_49_1 p7_0) + (4 : Int32)))]) rfl ?_
          show Steps p.tables e below (T13.setTop (mkF m 58 #[.val (.int (j7_49_0 p7_0)), .val (.int ((j7_49_1 p7_0) + (4 : Int32)))] [])) _
          refine XS.iloadN X13.here hx rfl (hb hby d7_58) rfl ?_
          show Steps p.tables e below (T13.setTop (mkF m 59 #[.val (.int (j7_49_0 p7_0)), .val (.int ((j7_49_1 p7_0) + (4 : Int32)))] [(.int (j7_49_0 p7_0))])) _
          refine XS.iconst X13.here hx rfl (hb hby d7_59) ?_
          show Steps p.tables e below (T13.setTop (mkF m 60 #[.val (.int (j7_49_0 p7_0)), .val (.int ((j7_49_1 p7_0) + (4 : Int32)))] [(.int (4 : Int32)), (.int (j7_49_0 p7_0))])) _
          refine XS.iushr X13.here hx rfl (hb hby d7_60) rfl ?_
          show Steps p.tables e below (T13.setTop (mkF m 61 #[.val (.int (j7_49_0 p7_0)), .val (.int ((j7_49_1 p7_0) + (4 : Int32)))] [(.int (own_ushr (j7_49_0 p7_0) (4 : Int32)))])) _
          show Steps p.tables e below (T13.setTop (mkF m 61 #[.val (.int (j7_49_0 p7_0)), .val (.int ((j7_49_1 p7_0) + (4 : Int32)))] [(.int (v7_61 p7_0))])) _
          refine XS.istoreN X13.here hx rfl (hb hby d7_61) rfl (l' := #[.val (.int (v7_61 p7_0)), .val (.int ((j7_49_1 p7_0) + (4 : Int32)))]) rfl ?_
          show Steps p.tables e below (T13.setTop (mkF m 62 #[.val (.int (v7_61 p7_0)), .val (.int ((j7_49_1 p7_0) + (4 : Int32)))] [])) _
          exact k)
        have hj26 : (j7_62_0 p7_0) = (v7_61 p7_0) := by unfold j7_62_0; rw [if_pos hc52_23]
        have hj27 : (j7_62_1 p7_0) = ((j7_49_1 p7_0) + (4 : Int32)) := by unfold j7_62_1; rw [if_pos hc52_23]
        exact ⟨T13, _, X13, e13, N13, fun t k => pre24 t (by rw [hj26, hj27] at k; exact k)⟩
      · have pre25 : ∀ t, Steps p.tables e below (T13.setTop (mkF m 62 #[.val (.int (j7_49_0 p7_0)), .val (.int (j7_49_1 p7_0))] [])) t → Steps p.tables e below (T13.setTop (mkF m 52 #[.val (.int (j7_49_0 p7_0)), .val (.int (j7_49_1 p7_0))] [(.int (16 : Int32)), (.int (j7_49_0 p7_0))])) t := fun t k => pre22 t (by
          refine XS.icmpYes X13.here hx rfl (pc0 := 52) (pc' := 62) rfl (hb hby d7_52) rfl (flt hc52_23).2.2.2 (by decide) (by decide) ?_
          show Steps p.tables e below (T13.setTop (mkF m 62 #[.val (.int (j7_49_0 p7_0)), .val (.int (j7_49_1 p7_0))] [])) _
          exact k)
        have hj28 : (j7_62_0 p7_0) = (j7_49_0 p7_0) := by unfold j7_62_0; rw [if_neg hc52_23]
        have hj29 : (j7_62_1 p7_0) = (j7_49_1 p7_0) := by unfold j7_62_1; rw [if_neg hc52_23]
        exact ⟨T13, _, X13, e13, N13, fun t k => pre25 t (by rw [hj28, hj29] at k; exact k)⟩
    have pre22 : ∀ t, Steps p.tables e below (T22.setTop (mkF m 62 #[.val (.int (j7_62_0 p7_0)), .val (.int (j7_62_1 p7_0))] [])) t → Steps p.tables e below (s₁.setTop (entryFrame m #[(.int p7_0)] 2)) t := fun t k => pre21 t (st22 t k)
    have pre30 : ∀ t, Steps p.tables e below (T22.setTop (mkF m 64 #[.val (.int (j7_62_0 p7_0)), .val (.int (j7_62_1 p7_0))] [(.int (4 : Int32)), (.int (j7_62_0 p7_0))])) t → Steps p.tables e below (s₁.setTop (entryFrame m #[(.int p7_0)] 2)) t := fun t k => pre22 t (by
      refine XS.iloadN X22.here hx rfl (hb hby d7_62) rfl ?_
      show Steps p.tables e below (T22.setTop (mkF m 63 #[.val (.int (j7_62_0 p7_0)), .val (.int (j7_62_1 p7_0))] [(.int (j7_62_0 p7_0))])) _
      refine XS.iconst X22.here hx rfl (hb hby d7_63) ?_
      show Steps p.tables e below (T22.setTop (mkF m 64 #[.val (.int (j7_62_0 p7_0)), .val (.int (j7_62_1 p7_0))] [(.int (4 : Int32)), (.int (j7_62_0 p7_0))])) _
      exact k)
    obtain ⟨T31, L31, X31, e31, N31, st31⟩ : ∃ (T' : State) (L' : List Loc), Stand p l e R7 s m #[(.int p7_0)] below meth c T' L' 0 0 ∧ T'.heap = h0 ∧ Fr n0 L' ∧ ∀ t, Steps p.tables e below (T'.setTop (mkF m 74 #[.val (.int (j7_74_0 p7_0)), .val (.int (j7_74_1 p7_0))] [])) t → Steps p.tables e below (T22.setTop (mkF m 64 #[.val (.int (j7_62_0 p7_0)), .val (.int (j7_62_1 p7_0))] [(.int (4 : Int32)), (.int (j7_62_0 p7_0))])) t := by
      have pre31 : ∀ t, Steps p.tables e below (T22.setTop (mkF m 64 #[.val (.int (j7_62_0 p7_0)), .val (.int (j7_62_1 p7_0))] [(.int (4 : Int32)), (.int (j7_62_0 p7_0))])) t → Steps p.tables e below (T22.setTop (mkF m 64 #[.val (.int (j7_62_0 p7_0)), .val (.int (j7_62_1 p7_0))] [(.int (4 : Int32)), (.int (j7_62_0 p7_0))])) t := fun t k => k
      by_cases hc64_32 : (4 : Int32) < (j7_62_0 p7_0)
      · have pre33 : ∀ t, Steps p.tables e below (T22.setTop (mkF m 74 #[.val (.int (v7_73 p7_0)), .val (.int ((j7_62_1 p7_0) + (2 : Int32)))] [])) t → Steps p.tables e below (T22.setTop (mkF m 64 #[.val (.int (j7_62_0 p7_0)), .val (.int (j7_62_1 p7_0))] [(.int (4 : Int32)), (.int (j7_62_0 p7_0))])) t := fun t k => pre31 t (by
          refine XS.icmpNo X22.here hx rfl (hb hby d7_64) rfl (tlt hc64_32).2.2.2 ?_
          show Steps p.tables e below (T22.setTop (mkF m 67 #[.val (.int (j7_62_0 p7_0)), .val (.int (j7_62_1 p7_0))] [])) _
          refine XS.iinc X22.here hx rfl (hb hby d7_67) rfl (l' := #[.val (.int (j7_62_0 p7_0)), .val (.int ((j7_62_1 p7_0) + (2 : Int32)))]) rfl ?_
          show Steps p.tables e below (T22.setTop (mkF m 70 #[.val (.int (j7_62_0 p7_0)), .val (.int ((j7_62_1 p7_0) + (2 : Int32)))] [])) _
          refine XS.iloadN X22.here hx rfl (hb hby d7_70) rfl ?_
          show Steps p.tables e below (T22.setTop (mkF m 71 #[.val (.int (j7_62_0 p7_0)), .val (.int ((j7_62_1 p7_0) + (2 : Int32)))] [(.int (j7_62_0 p7_0))])) _
          refine XS.iconst X22.here hx rfl (hb hby d7_71) ?_
          show Steps p.tables e below (T22.setTop (mkF m 72 #[.val (.int (j7_62_0 p7_0)), .val (.int ((j7_62_1 p7_0) + (2 : Int32)))] [(.int (2 : Int32)), (.int (j7_62_0 p7_0))])) _
          refine XS.iushr X22.here hx rfl (hb hby d7_72) rfl ?_
          show Steps p.tables e below (T22.setTop (mkF m 73 #[.val (.int (j7_62_0 p7_0)), .val (.int ((j7_62_1 p7_0) + (2 : Int32)))] [(.int (own_ushr (j7_62_0 p7_0) (2 : Int32)))])) _
          show Steps p.tables e below (T22.setTop (mkF m 73 #[.val (.int (j7_62_0 p7_0)), .val (.int ((j7_62_1 p7_0) + (2 : Int32)))] [(.int (v7_73 p7_0))])) _
          refine XS.istoreN X22.here hx rfl (hb hby d7_73) rfl (l' := #[.val (.int (v7_73 p7_0)), .val (.int ((j7_62_1 p7_0) + (2 : Int32)))]) rfl ?_
          show Steps p.tables e below (T22.setTop (mkF m 74 #[.val (.int (v7_73 p7_0)), .val (.int ((j7_62_1 p7_0) + (2 : Int32)))] [])) _
          exact k)
        have hj35 : (j7_74_0 p7_0) = (v7_73 p7_0) := by unfold j7_74_0; rw [if_pos hc64_32]
        have hj36 : (j7_74_1 p7_0) = ((j7_62_1 p7_0) + (2 : Int32)) := by unfold j7_74_1; rw [if_pos hc64_32]
        exact ⟨T22, _, X22, e22, N22, fun t k => pre33 t (by rw [hj35, hj36] at k; exact k)⟩
      · have pre34 : ∀ t, Steps p.tables e below (T22.setTop (mkF m 74 #[.val (.int (j7_62_0 p7_0)), .val (.int (j7_62_1 p7_0))] [])) t → Steps p.tables e below (T22.setTop (mkF m 64 #[.val (.int (j7_62_0 p7_0)), .val (.int (j7_62_1 p7_0))] [(.int (4 : Int32)), (.int (j7_62_0 p7_0))])) t := fun t k => pre31 t (by
          refine XS.icmpYes X22.here hx rfl (pc0 := 64) (pc' := 74) rfl (hb hby d7_64) rfl (flt hc64_32).2.2.2 (by decide) (by decide) ?_
          show Steps p.tables e below (T22.setTop (mkF m 74 #[.val (.int (j7_62_0 p7_0)), .val (.int (j7_62_1 p7_0))] [])) _
          exact k)
        have hj37 : (j7_74_0 p7_0) = (j7_62_0 p7_0) := by unfold j7_74_0; rw [if_neg hc64_32]
        have hj38 : (j7_74_1 p7_0) = (j7_62_1 p7_0) := by unfold j7_74_1; rw [if_neg hc64_32]
        exact ⟨T22, _, X22, e22, N22, fun t k => pre34 t (by rw [hj37, hj38] at k; exact k)⟩
    have pre31 : ∀ t, Steps p.tables e below (T31.setTop (mkF m 74 #[.val (.int (j7_74_0 p7_0)), .val (.int (j7_74_1 p7_0))] [])) t → Steps p.tables e below (s₁.setTop (entryFrame m #[(.int p7_0)] 2)) t := fun t k => pre30 t (st31 t k)
    have pre39 : ∀ t, Steps p.tables e below (T31.setTop (mkF m 79 #[.val (.int (j7_74_0 p7_0)), .val (.int (j7_74_1 p7_0))] [(.int ((j7_74_1 p7_0) + (own_ushr (j7_74_0 p7_0) (1 : Int32))))])) t → Steps p.tables e below (s₁.setTop (entryFrame m #[(.int p7_0)] 2)) t := fun t k => pre31 t (by
      refine XS.iloadN X31.here hx rfl (hb hby d7_74) rfl ?_
      show Steps p.tables e below (T31.setTop (mkF m 75 #[.val (.int (j7_74_0 p7_0)), .val (.int (j7_74_1 p7_0))] [(.int (j7_74_1 p7_0))])) _
      refine XS.iloadN X31.here hx rfl (hb hby d7_75) rfl ?_
      show Steps p.tables e below (T31.setTop (mkF m 76 #[.val (.int (j7_74_0 p7_0)), .val (.int (j7_74_1 p7_0))] [(.int (j7_74_0 p7_0)), (.int (j7_74_1 p7_0))])) _
      refine XS.iconst X31.here hx rfl (hb hby d7_76) ?_
      show Steps p.tables e below (T31.setTop (mkF m 77 #[.val (.int (j7_74_0 p7_0)), .val (.int (j7_74_1 p7_0))] [(.int (1 : Int32)), (.int (j7_74_0 p7_0)), (.int (j7_74_1 p7_0))])) _
      refine XS.iushr X31.here hx rfl (hb hby d7_77) rfl ?_
      show Steps p.tables e below (T31.setTop (mkF m 78 #[.val (.int (j7_74_0 p7_0)), .val (.int (j7_74_1 p7_0))] [(.int (own_ushr (j7_74_0 p7_0) (1 : Int32))), (.int (j7_74_1 p7_0))])) _
      refine XS.iadd X31.here hx rfl (hb hby d7_78) rfl ?_
      show Steps p.tables e below (T31.setTop (mkF m 79 #[.val (.int (j7_74_0 p7_0)), .val (.int (j7_74_1 p7_0))] [(.int ((j7_74_1 p7_0) + (own_ushr (j7_74_0 p7_0) (1 : Int32))))])) _
      exact k)
    have hret : (r7 p7_0) = ((j7_74_1 p7_0) + (own_ushr (j7_74_0 p7_0) (1 : Int32))) := by unfold r7; rw [if_pos hc9_2]
    obtain ⟨fs, hr, hrun, hended, hW, hsame⟩ := X31.leave (v := some (.int ((j7_74_1 p7_0) + (own_ushr (j7_74_0 p7_0) (1 : Int32))))) (fun h => by rw [Bd.returns] at h; cases h) Bd.notSynchronized
    refine ⟨_, _, pre39 _ ?_, hrun, hended, _, _, rfl, ?_, ⟨_, rfl⟩, hW, hsame.mono (by decide) (by decide)⟩
    · show Steps p.tables e below (T31.setTop (mkF m 79 #[.val (.int (j7_74_0 p7_0)), .val (.int (j7_74_1 p7_0))] [(.int ((j7_74_1 p7_0) + (own_ushr (j7_74_0 p7_0) (1 : Int32))))])) _
      exact retI X31 hx Bd.returns (hb hby d7_79) hr
    · show Q7 Z p7_0 h0 n0 _ T31.heap _
      rw [e31]
      exact ⟨(by rw [hret]), N31, rfl⟩
  · have pre40 : ∀ t, Steps p.tables e below (s₁.setTop (mkF m 16 #[.val (.int (v7_7 p7_0)), .unset] [(.int ((v7_7 p7_0) &&& (32 : Int32)))])) t → Steps p.tables e below (s₁.setTop (entryFrame m #[(.int p7_0)] 2)) t := fun t k => pre1 t (by
      refine XS.ifNo X0.here hx rfl (hb hby d7_9) rfl ((if0 _ _).trans (flt hc9_2).2.2.1) ?_
      show Steps p.tables e below (s₁.setTop (mkF m 12 #[.val (.int (v7_7 p7_0)), .unset] [])) _
      refine XS.iloadN X0.here hx rfl (hb hby d7_12) rfl ?_
      show Steps p.tables e below (s₁.setTop (mkF m 13 #[.val (.int (v7_7 p7_0)), .unset] [(.int (v7_7 p7_0))])) _
      refine XS.bipush X0.here hx rfl (hb hby d7_13) ?_
      show Steps p.tables e below (s₁.setTop (mkF m 15 #[.val (.int (v7_7 p7_0)), .unset] [(.int (32 : Int32)), (.int (v7_7 p7_0))])) _
      refine XS.iand X0.here hx rfl (hb hby d7_15) rfl ?_
      show Steps p.tables e below (s₁.setTop (mkF m 16 #[.val (.int (v7_7 p7_0)), .unset] [(.int ((v7_7 p7_0) &&& (32 : Int32)))])) _
      exact k)
    have hret : (r7 p7_0) = ((v7_7 p7_0) &&& (32 : Int32)) := by unfold r7; rw [if_neg hc9_2]
    obtain ⟨fs, hr, hrun, hended, hW, hsame⟩ := X0.leave (v := some (.int ((v7_7 p7_0) &&& (32 : Int32)))) (fun h => by rw [Bd.returns] at h; cases h) Bd.notSynchronized
    refine ⟨_, _, pre40 _ ?_, hrun, hended, _, _, rfl, ?_, ⟨_, rfl⟩, hW, hsame.mono (by decide) (by decide)⟩
    · show Steps p.tables e below (s₁.setTop (mkF m 16 #[.val (.int (v7_7 p7_0)), .unset] [(.int ((v7_7 p7_0) &&& (32 : Int32)))])) _
      exact retI X0 hx Bd.returns (hb hby d7_16) hr
    · show Q7 Z p7_0 h0 n0 _ s₁.heap _
      rw [e0]
      exact ⟨(by rw [hret]), N0, rfl⟩
theorem pn_1 : plainName "java/lang/Long" = true := by first | (simp [plainName, overriddenIn]; done) | decide +kernel
theorem pd_0 : parseMethodDescriptor "(I)I" = some ⟨[.int], some .int⟩ := by decide +kernel
theorem d6_0 : decode jdk_35_method_49_code 0 = .ok (.lload_n 0, 1) := by decide +kernel
theorem d6_1 : decode jdk_35_method_49_code 1 = .ok (.l2i, 1) := by decide +kernel
theorem d6_2 : decode jdk_35_method_49_code 2 = .ok (.istore_n 2, 1) := by decide +kernel
theorem d6_3 : decode jdk_35_method_49_code 3 = .ok (.iload_n 2, 1) := by decide +kernel
theorem d6_4 : decode jdk_35_method_49_code 4 = .ok (.ifCond .ne 17, 3) := by decide +kernel
theorem d6_7 : decode jdk_35_method_49_code 7 = .ok (.bipush 32, 2) := by decide +kernel
theorem d6_9 : decode jdk_35_method_49_code 9 = .ok (.lload_n 0, 1) := by decide +kernel
theorem d6_10 : decode jdk_35_method_49_code 10 = .ok (.bipush 32, 2) := by decide +kernel
theorem d6_12 : decode jdk_35_method_49_code 12 = .ok (.lushr, 1) := by decide +kernel
theorem d6_13 : decode jdk_35_method_49_code 13 = .ok (.l2i, 1) := by decide +kernel
theorem d6_14 : decode jdk_35_method_49_code 14 = .ok (.invokestatic 311, 3) := by decide +kernel
theorem d6_17 : decode jdk_35_method_49_code 17 = .ok (.iadd, 1) := by decide +kernel
theorem d6_18 : decode jdk_35_method_49_code 18 = .ok (.goto 7, 3) := by decide +kernel
theorem d6_21 : decode jdk_35_method_49_code 21 = .ok (.iload_n 2, 1) := by decide +kernel
theorem d6_22 : decode jdk_35_method_49_code 22 = .ok (.invokestatic 311, 3) := by decide +kernel
theorem d6_25 : decode jdk_35_method_49_code 25 = .ok (.ireturn, 1) := by decide +kernel
theorem ef_6 (m : MethodId) (x0 : Int64) : entryFrame m #[(.long x0)] 3 = mkF m 0 #[.val (.long x0), .second, .unset] [] := by first | (simp [entryFrame, mkF, argsToLocals, Value.category]; done) | rfl
abbrev R6 : Room := { frames := 1, cells := 0, slots := 0, locals := 14 }
def v6_2 (p6_0 : Int64) : Int32 := ((p6_0).toInt32)
def r6 (p6_0 : Int64) : Int32 := (if (v6_2 p6_0) = (0 : Int32) then ((32 : Int32) + (r7 (((own_ushrL p6_0 (32 : Int32))).toInt32))) else (r7 (v6_2 p6_0)))
def Q6 (Z : State) (p6_0 : Int64) (h0 : Heap) (n0 : Nat) (v : Option Value) (h : Heap) (L : List Loc) : Prop := v = some (.int (r6 p6_0)) ∧ Fr n0 L ∧ h = h0
set_option maxRecDepth 65536 in
set_option maxHeartbeats 40000000 in
theorem rm6 (l : Launch) (Z : State) (a0 : Array Value) (hw : ∀ d ∈ tables_1, d.before a0 Z = true) (ws : List Jvm.Cond) (p6_0 : Int64) (h0 : Heap) (n0 : Nat) (Z0 : n0 ≤ h0.size) :
    MetFree l (⟨"java/lang/Long", "numberOfTrailingZeros", "(J)I"⟩ : MethodName) (head1 (Jvm.Cond.code (⟨"java/lang/Long", "numberOfTrailingZeros", "(J)I"⟩ : MethodName) jdk_35_method_49_code 3 (some .int) :: ws) R6) (fun a U => a = #[(.long p6_0)] ∧ Z.Warmed39 U.vm ∧ U.heap = h0) (fun _ _ _ _ _ => True) (fun _ U o U' => ∃ v L, o = .returned v ∧ Q6 Z p6_0 h0 n0 v U'.heap L ∧ FrameEnd U o U' L R6.cells R6.slots) := by
  refine MetFree.of_bodySF (plainFor_of_name pn_1) hisR ?_
  intro p e s m args below meth c s₁ Bd hml0 hP hK
  obtain ⟨rfl, hZ, hh⟩ := hP
  have hx := Bd.exec
  have hby := Bd.bytes
  have hml : c.maxLocals = 3 := hml0
  have hown : s.vm.findClass "java/lang/Long" = some m.cls := findClass_of_methodNamed Bd.named
  have hnm := (name_of_methodNamed Bd.named Bd.method).1
  have X0 : Stand p l e R6 s m #[(.long p6_0)] below meth c s₁ [] 0 0 := Stand.of_body Bd
  have e0 : s₁.heap = h0 := by rw [← hh, Bd.state]; rfl
  have N0 := Fr.nil n0
  have pre0 : ∀ t, Steps p.tables e below (s₁.setTop (mkF m 0 #[.val (.long p6_0), .second, .unset] [])) t → Steps p.tables e below (s₁.setTop (entryFrame m #[(.long p6_0)] 3)) t := fun t k => castTop (ef_6 m p6_0) k
  have pre1 : ∀ t, Steps p.tables e below (s₁.setTop (mkF m 4 #[.val (.long p6_0), .second, .val (.int (v6_2 p6_0))] [(.int (v6_2 p6_0))])) t → Steps p.tables e below (s₁.setTop (entryFrame m #[(.long p6_0)] 3)) t := fun t k => pre0 t (by
    refine XS.lloadN X0.here hx rfl (hb hby d6_0) rfl ?_
    show Steps p.tables e below (s₁.setTop (mkF m 1 #[.val (.long p6_0), .second, .unset] [(.long p6_0)])) _
    refine XS.l2i X0.here hx rfl (hb hby d6_1) rfl ?_
    show Steps p.tables e below (s₁.setTop (mkF m 2 #[.val (.long p6_0), .second, .unset] [(.int ((p6_0).toInt32))])) _
    show Steps p.tables e below (s₁.setTop (mkF m 2 #[.val (.long p6_0), .second, .unset] [(.int (v6_2 p6_0))])) _
    refine XS.istoreN X0.here hx rfl (hb hby d6_2) rfl (l' := #[.val (.long p6_0), .second, .val (.int (v6_2 p6_0))]) rfl ?_
    show Steps p.tables e below (s₁.setTop (mkF m 3 #[.val (.long p6_0), .second, .val (.int (v6_2 p6_0))] [])) _
    refine XS.iloadN X0.here hx rfl (hb hby d6_3) rfl ?_
    show Steps p.tables e below (s₁.setTop (mkF m 4 #[.val (.long p6_0), .second, .val (.int (v6_2 p6_0))] [(.int (v6_2 p6_0))])) _
    exact k)
  by_cases hc4_2 : (v6_2 p6_0) = (0 : Int32)
  · have pre3 : ∀ t, Steps p.tables e below (s₁.setTop (mkF m 14 #[.val (.long p6_0), .second, .val (.int (v6_2 p6_0))] [(.int (((own_ushrL p6_0 (32 : Int32))).toInt32)), (.int (32 : Int32))])) t → Steps p.tables e below (s₁.setTop (entryFrame m #[(.long p6_0)] 3)) t := fun t k => pre1 t (by
      refine XS.ifNo X0.here hx rfl (hb hby d6_4) rfl ((if0 _ _).trans (teq hc4_2).2) ?_
      show Steps p.tables e below (s₁.setTop (mkF m 7 #[.val (.long p6_0), .second, .val (.int (v6_2 p6_0))] [])) _
      refine XS.bipush X0.here hx rfl (hb hby d6_7) ?_
      show Steps p.tables e below (s₁.setTop (mkF m 9 #[.val (.long p6_0), .second, .val (.int (v6_2 p6_0))] [(.int (32 : Int32))])) _
      refine XS.lloadN X0.here hx rfl (hb hby d6_9) rfl ?_
      show Steps p.tables e below (s₁.setTop (mkF m 10 #[.val (.long p6_0), .second, .val (.int (v6_2 p6_0))] [(.long p6_0), (.int (32 : Int32))])) _
      refine XS.bipush X0.here hx rfl (hb hby d6_10) ?_
      show Steps p.tables e below (s₁.setTop (mkF m 12 #[.val (.long p6_0), .second, .val (.int (v6_2 p6_0))] [(.int (32 : Int32)), (.long p6_0), (.int (32 : Int32))])) _
      refine XS.lushr X0.here hx rfl (hb hby d6_12) rfl ?_
      show Steps p.tables e below (s₁.setTop (mkF m 13 #[.val (.long p6_0), .second, .val (.int (v6_2 p6_0))] [(.long (own_ushrL p6_0 (32 : Int32))), (.int (32 : Int32))])) _
      refine XS.l2i X0.here hx rfl (hb hby d6_13) rfl ?_
      show Steps p.tables e below (s₁.setTop (mkF m 14 #[.val (.long p6_0), .second, .val (.int (v6_2 p6_0))] [(.int (((own_ushrL p6_0 (32 : Int32))).toInt32)), (.int (32 : Int32))])) _
      exact k)
    obtain ⟨_, _, ⟨T4, L4, k4, n4⟩, -, X4, ⟨Lc4, hQ4, l4, y4, z4⟩, st4⟩ := Jvm.LawKit.callS X0 hx (y := (⟨"java/lang/Integer", "numberOfTrailingZeros", "(I)I"⟩ : MethodName)) hown (mvT hZ (hw _ (List.mem_of_getElem? (i := 34) rfl))) (mvT hZ (hw _ (List.mem_of_getElem? (i := 35) rfl))) (mvT hZ (hw _ (List.mem_of_getElem? (i := 36) rfl))) (mvT hZ (hw _ (List.mem_of_getElem? (i := 37) rfl))) (by decide) (backOf (W := 1) (rm7 l Z a0 hw [] (((own_ushrL p6_0 (32 : Int32))).toInt32) h0 n0 Z0 ) hZ (hw _ (List.mem_of_getElem? (i := 37) rfl)) (hw _ (List.mem_of_getElem? (i := 36) rfl)) (by decide) (by decide)) (g := (mkF m 14 #[.val (.long p6_0), .second, .val (.int (v6_2 p6_0))] [(.int (((own_ushrL p6_0 (32 : Int32))).toInt32)), (.int (32 : Int32))])) rfl (by rw [hml]; rfl) (argsL := [(.int (((own_ushrL p6_0 (32 : Int32))).toInt32))]) (rest := [(.int (32 : Int32))]) (lenOf pd_0 rfl) rfl (by show 2 * 0 + _ ≤ _; exact Nat.le_of_eq rfl) (hb hby d6_14) (fun _ _ => ⟨rfl, e0, (by decide : 0 + 0 ≤ _), (by decide : 0 + 0 ≤ _)⟩)
    dsimp only [Pt.U, Pt.locs, Pt.cells, Pt.slots] at X4 l4 y4 z4 st4 hQ4
    rw [l4, y4, z4] at X4
    obtain ⟨rfl, M4, e4⟩ := hQ4
    have N4 := Fr.app N0 M4
    replace X4 : Stand p l e R6 s m #[(.long p6_0)] below meth c T4 _ 0 0 := X4
    have pre4 : ∀ t, Steps p.tables e below (T4.setTop (mkF m 17 #[.val (.long p6_0), .second, .val (.int (v6_2 p6_0))] [(.int (r7 (((own_ushrL p6_0 (32 : Int32))).toInt32))), (.int (32 : Int32))])) t → Steps p.tables e below (s₁.setTop (entryFrame m #[(.long p6_0)] 3)) t := fun t k => pre3 t (st4 t k)
    have pre5 : ∀ t, Steps p.tables e below (T4.setTop (mkF m 25 #[.val (.long p6_0), .second, .val (.int (v6_2 p6_0))] [(.int ((32 : Int32) + (r7 (((own_ushrL p6_0 (32 : Int32))).toInt32))))])) t → Steps p.tables e below (s₁.setTop (entryFrame m #[(.long p6_0)] 3)) t := fun t k => pre4 t (by
      refine XS.iadd X4.here hx rfl (hb hby d6_17) rfl ?_
      show Steps p.tables e below (T4.setTop (mkF m 18 #[.val (.long p6_0), .second, .val (.int (v6_2 p6_0))] [(.int ((32 : Int32) + (r7 (((own_ushrL p6_0 (32 : Int32))).toInt32))))])) _
      refine XS.goto X4.here hx rfl (pc0 := 18) (pc' := 25) rfl (hb hby d6_18) (by decide) (by decide) ?_
      show Steps p.tables e below (T4.setTop (mkF m 25 #[.val (.long p6_0), .second, .val (.int (v6_2 p6_0))] [(.int ((32 : Int32) + (r7 (((own_ushrL p6_0 (32 : Int32))).toInt32))))])) _
      exact k)
    have hret : (r6 p6_0) = ((32 : Int32) + (r7 (((own_ushrL p6_0 (32 : Int32))).toInt32))) := by unfold r6; rw [if_pos hc4_2]
    obtain ⟨fs, hr, hrun, hended, hW, hsame⟩ := X4.leave (v := some (.int ((32 : Int32) + (r7 (((own_ushrL p6_0 (32 : Int32))).toInt32))))) (fun h => by rw [Bd.returns] at h; cases h) Bd.notSynchronized
    refine ⟨_, _, pre5 _ ?_, hrun, hended, _, _, rfl, ?_, ⟨_, rfl⟩, hW, hsame.mono (by decide) (by decide)⟩
    · show Steps p.tables e below (T4.setTop (mkF m 25 #[.val (.long p6_0), .second, .val (.int (v6_2 p6_0))] [(.int ((32 : Int32) + (r7 (((own_ushrL p6_0 (32 : Int32))).toInt32))))])) _
      exact retI X4 hx Bd.returns (hb hby d6_25) hr
    · show Q6 Z p6_0 h0 n0 _ T4.heap _
      rw [e4]
      exact ⟨(by rw [hret]), N4, rfl⟩
  · have pre6 : ∀ t, Steps p.tables e below (s₁.setTop (mkF m 22 #[.val (.long p6_0), .second, .val (.int (v6_2 p6_0))] [(.int (v6_2 p6_0))])) t → Steps p.tables e below (s₁.setTop (entryFrame m #[(.long p6_0)] 3)) t := fun t k => pre1 t (by
      refine XS.ifYes X0.here hx rfl (pc0 := 4) (pc' := 21) rfl (hb hby d6_4) rfl ((if0 _ _).trans (feq hc4_2).2) (by decide) (by decide) ?_
      show Steps p.tables e below (s₁.setTop (mkF m 21 #[.val (.long p6_0), .second, .val (.int (v6_2 p6_0))] [])) _
      refine XS.iloadN X0.here hx rfl (hb hby d6_21) rfl ?_
      show Steps p.tables e below (s₁.setTop (mkF m 22 #[.val (.long p6_0), .second, .val (.int (v6_2 p6_0))] [(.int (v6_2 p6_0))])) _
      exact k)
    obtain ⟨_, _, ⟨T7, L7, k7, n7⟩, -, X7, ⟨Lc7, hQ7, l7, y7, z7⟩, st7⟩ := Jvm.LawKit.callS X0 hx (y := (⟨"java/lang/Integer", "numberOfTrailingZeros", "(I)I"⟩ : MethodName)) hown (mvT hZ (hw _ (List.mem_of_getElem? (i := 34) rfl))) (mvT hZ (hw _ (List.mem_of_getElem? (i := 35) rfl))) (mvT hZ (hw _ (List.mem_of_getElem? (i := 36) rfl))) (mvT hZ (hw _ (List.mem_of_getElem? (i := 37) rfl))) (by decide) (backOf (W := 0) (rm7 l Z a0 hw [] (v6_2 p6_0) h0 n0 Z0 ) hZ (hw _ (List.mem_of_getElem? (i := 37) rfl)) (hw _ (List.mem_of_getElem? (i := 36) rfl)) (by decide) (by decide)) (g := (mkF m 22 #[.val (.long p6_0), .second, .val (.int (v6_2 p6_0))] [(.int (v6_2 p6_0))])) rfl (by rw [hml]; rfl) (argsL := [(.int (v6_2 p6_0))]) (rest := []) (lenOf pd_0 rfl) rfl (by show 2 * 0 + _ ≤ _; exact Nat.le_of_eq rfl) (hb hby d6_22) (fun _ _ => ⟨rfl, e0, (by decide : 0 + 0 ≤ _), (by decide : 0 + 0 ≤ _)⟩)
    dsimp only [Pt.U, Pt.locs, Pt.cells, Pt.slots] at X7 l7 y7 z7 st7 hQ7
    rw [l7, y7, z7] at X7
    obtain ⟨rfl, M7, e7⟩ := hQ7
    have N7 := Fr.app N0 M7
    replace X7 : Stand p l e R6 s m #[(.long p6_0)] below meth c T7 _ 0 0 := X7
    have pre7 : ∀ t, Steps p.tables e below (T7.setTop (mkF m 25 #[.val (.long p6_0), .second, .val (.int (v6_2 p6_0))] [(.int (r7 (v6_2 p6_0)))])) t → Steps p.tables e below (s₁.setTop (entryFrame m #[(.long p6_0)] 3)) t := fun t k => pre6 t (st7 t k)
    have hret : (r6 p6_0) = (r7 (v6_2 p6_0)) := by unfold r6; rw [if_neg hc4_2]
    obtain ⟨fs, hr, hrun, hended, hW, hsame⟩ := X7.leave (v := some (.int (r7 (v6_2 p6_0)))) (fun h => by rw [Bd.returns] at h; cases h) Bd.notSynchronized
    refine ⟨_, _, pre7 _ ?_, hrun, hended, _, _, rfl, ?_, ⟨_, rfl⟩, hW, hsame.mono (by decide) (by decide)⟩
    · show Steps p.tables e below (T7.setTop (mkF m 25 #[.val (.long p6_0), .second, .val (.int (v6_2 p6_0))] [(.int (r7 (v6_2 p6_0)))])) _
      exact retI X7 hx Bd.returns (hb hby d6_25) hr
    · show Q6 Z p6_0 h0 n0 _ T7.heap _
      rw [e7]
      exact ⟨(by rw [hret]), N7, rfl⟩
theorem d9_0 : decode jdk_29_method_65_code 0 = .ok (.iload_n 0, 1) := by decide +kernel
theorem d9_1 : decode jdk_29_method_65_code 1 = .ok (.iload_n 1, 1) := by decide +kernel
theorem d9_2 : decode jdk_29_method_65_code 2 = .ok (.if_icmp .lt 7, 3) := by decide +kernel
theorem d9_5 : decode jdk_29_method_65_code 5 = .ok (.iload_n 0, 1) := by decide +kernel
theorem d9_6 : decode jdk_29_method_65_code 6 = .ok (.goto 4, 3) := by decide +kernel
theorem d9_9 : decode jdk_29_method_65_code 9 = .ok (.iload_n 1, 1) := by decide +kernel
theorem d9_10 : decode jdk_29_method_65_code 10 = .ok (.ireturn, 1) := by decide +kernel
theorem ef_9 (m : MethodId) (x0 : Int32) (x1 : Int32) : entryFrame m #[(.int x0), (.int x1)] 2 = mkF m 0 #[.val (.int x0), .val (.int x1)] [] := by first | (simp [entryFrame, mkF, argsToLocals, Value.category]; done) | rfl
abbrev R9 : Room := { frames := 0, cells := 0, slots := 0, locals := 0 }
def r9 (p9_0 : Int32) (p9_1 : Int32) : Int32 := (if p9_0 < p9_1 then p9_1 else p9_0)
def Q9 (Z : State) (p9_0 : Int32) (p9_1 : Int32) (h0 : Heap) (n0 : Nat) (v : Option Value) (h : Heap) (L : List Loc) : Prop := v = some (.int (r9 p9_0 p9_1)) ∧ Fr n0 L ∧ h = h0
set_option maxRecDepth 65536 in
set_option maxHeartbeats 40000000 in
theorem rm9 (l : Launch) (Z : State) (a0 : Array Value) (hw : ∀ d ∈ tables_1, d.before a0 Z = true) (ws : List Jvm.Cond) (p9_0 : Int32) (p9_1 : Int32) (h0 : Heap) (n0 : Nat) (Z0 : n0 ≤ h0.size) :
    MetFree l (⟨"java/lang/Math", "max", "(II)I"⟩ : MethodName) (head1 (Jvm.Cond.code (⟨"java/lang/Math", "max", "(II)I"⟩ : MethodName) jdk_29_method_65_code 2 (some .int) :: ws) R9) (fun a U => a = #[(.int p9_0), (.int p9_1)] ∧ Z.Warmed39 U.vm ∧ U.heap = h0) (fun _ _ _ _ _ => True) (fun _ U o U' => ∃ v L, o = .returned v ∧ Q9 Z p9_0 p9_1 h0 n0 v U'.heap L ∧ FrameEnd U o U' L R9.cells R9.slots) := by
  refine MetFree.of_bodySF (Jvm.Free.JP.mathPlain rfl (by decide +kernel)) hisR ?_
  intro p e s m args below meth c s₁ Bd hml0 hP hK
  obtain ⟨rfl, hZ, hh⟩ := hP
  have hx := Bd.exec
  have hby := Bd.bytes
  have hml : c.maxLocals = 2 := hml0
  have hown : s.vm.findClass "java/lang/Math" = some m.cls := findClass_of_methodNamed Bd.named
  have hnm := (name_of_methodNamed Bd.named Bd.method).1
  have X0 : Stand p l e R9 s m #[(.int p9_0), (.int p9_1)] below meth c s₁ [] 0 0 := Stand.of_body Bd
  have e0 : s₁.heap = h0 := by rw [← hh, Bd.state]; rfl
  have N0 := Fr.nil n0
  have pre0 : ∀ t, Steps p.tables e below (s₁.setTop (mkF m 0 #[.val (.int p9_0), .val (.int p9_1)] [])) t → Steps p.tables e below (s₁.setTop (entryFrame m #[(.int p9_0), (.int p9_1)] 2)) t := fun t k => castTop (ef_9 m p9_0 p9_1) k
  have pre1 : ∀ t, Steps p.tables e below (s₁.setTop (mkF m 2 #[.val (.int p9_0), .val (.int p9_1)] [(.int p9_1), (.int p9_0)])) t → Steps p.tables e below (s₁.setTop (entryFrame m #[(.int p9_0), (.int p9_1)] 2)) t := fun t k => pre0 t (by
    refine XS.iloadN X0.here hx rfl (hb hby d9_0) rfl ?_
    show Steps p.tables e below (s₁.setTop (mkF m 1 #[.val (.int p9_0), .val (.int p9_1)] [(.int p9_0)])) _
    refine XS.iloadN X0.here hx rfl (hb hby d9_1) rfl ?_
    show Steps p.tables e below (s₁.setTop (mkF m 2 #[.val (.int p9_0), .val (.int p9_1)] [(.int p9_1), (.int p9_0)])) _
    exact k)
  by_cases hc2_2 : p9_0 < p9_1
  · have pre3 : ∀ t, Steps p.tables e below (s₁.setTop (mkF m 10 #[.val (.int p9_0), .val (.int p9_1)] [(.int p9_1)])) t → Steps p.tables e below (s₁.setTop (entryFrame m #[(.int p9_0), (.int p9_1)] 2)) t := fun t k => pre1 t (by
      refine XS.icmpYes X0.here hx rfl (pc0 := 2) (pc' := 9) rfl (hb hby d9_2) rfl (tlt hc2_2).1 (by decide) (by decide) ?_
      show Steps p.tables e below (s₁.setTop (mkF m 9 #[.val (.int p9_0), .val (.int p9_1)] [])) _
      refine XS.iloadN X0.here hx rfl (hb hby d9_9) rfl ?_
      show Steps p.tables e below (s₁.setTop (mkF m 10 #[.val (.int p9_0), .val (.int p9_1)] [(.int p9_1)])) _
      exact k)
    have hret : (r9 p9_0 p9_1) = p9_1 := by unfold r9; rw [if_pos hc2_2]
    obtain ⟨fs, hr, hrun, hended, hW, hsame⟩ := X0.leave (v := some (.int p9_1)) (fun h => by rw [Bd.returns] at h; cases h) Bd.notSynchronized
    refine ⟨_, _, pre3 _ ?_, hrun, hended, _, _, rfl, ?_, ⟨_, rfl⟩, hW, hsame.mono (by decide) (by decide)⟩
    · show Steps p.tables e below (s₁.setTop (mkF m 10 #[.val (.int p9_0), .val (.int p9_1)] [(.int p9_1)])) _
      exact retI X0 hx Bd.returns (hb hby d9_10) hr
    · show Q9 Z p9_0 p9_1 h0 n0 _ s₁.heap _
      rw [e0]
      exact ⟨(by rw [hret]), N0, rfl⟩
  · have pre4 : ∀ t, Steps p.tables e below (s₁.setTop (mkF m 10 #[.val (.int p9_0), .val (.int p9_1)] [(.int p9_0)])) t → Steps p.tables e below (s₁.setTop (entryFrame m #[(.int p9_0), (.int p9_1)] 2)) t := fun t k => pre1 t (by
      refine XS.icmpNo X0.here hx rfl (hb hby d9_2) rfl (flt hc2_2).1 ?_
      show Steps p.tables e below (s₁.setTop (mkF m 5 #[.val (.int p9_0), .val (.int p9_1)] [])) _
      refine XS.iloadN X0.here hx rfl (hb hby d9_5) rfl ?_
      show Steps p.tables e below (s₁.setTop (mkF m 6 #[.val (.int p9_0), .val (.int p9_1)] [(.int p9_0)])) _
      refine XS.goto X0.here hx rfl (pc0 := 6) (pc' := 10) rfl (hb hby d9_6) (by decide) (by decide) ?_
      show Steps p.tables e below (s₁.setTop (mkF m 10 #[.val (.int p9_0), .val (.int p9_1)] [(.int p9_0)])) _
      exact k)
    have hret : (r9 p9_0 p9_1) = p9_0 := by unfold r9; rw [if_neg hc2_2]
    obtain ⟨fs, hr, hrun, hended, hW, hsame⟩ := X0.leave (v := some (.int p9_0)) (fun h => by rw [Bd.returns] at h; cases h) Bd.notSynchronized
    refine ⟨_, _, pre4 _ ?_, hrun, hended, _, _, rfl, ?_, ⟨_, rfl⟩, hW, hsame.mono (by decide) (by decide)⟩
    · show Steps p.tables e below (s₁.setTop (mkF m 10 #[.val (.int p9_0), .val (.int p9_1)] [(.int p9_0)])) _
      exact retI X0 hx Bd.returns (hb hby d9_10) hr
    · show Q9 Z p9_0 p9_1 h0 n0 _ s₁.heap _
      rw [e0]
      exact ⟨(by rw [hret]), N0, rfl⟩
theorem pn_2 : plainName "relayout/PositionSetRemovePinLaw" = true := by first | (simp [plainName, overriddenIn]; done) | decide +kernel
theorem d8_0 : decode method_2_code 0 = .ok (.iconst (-1), 1) := by decide +kernel
theorem d8_1 : decode method_2_code 1 = .ok (.istore 5, 2) := by decide +kernel
theorem d8_3 : decode method_2_code 3 = .ok (.iload_n 1, 1) := by decide +kernel
theorem d8_4 : decode method_2_code 4 = .ok (.ifCond .eq 12, 3) := by decide +kernel
theorem d8_7 : decode method_2_code 7 = .ok (.iload_n 0, 1) := by decide +kernel
theorem d8_8 : decode method_2_code 8 = .ok (.iload 4, 2) := by decide +kernel
theorem d8_10 : decode method_2_code 10 = .ok (.if_icmp .lt 6, 3) := by decide +kernel
theorem d8_13 : decode method_2_code 13 = .ok (.iload_n 0, 1) := by decide +kernel
theorem d8_14 : decode method_2_code 14 = .ok (.istore 5, 2) := by decide +kernel
theorem d8_16 : decode method_2_code 16 = .ok (.iload_n 3, 1) := by decide +kernel
theorem d8_17 : decode method_2_code 17 = .ok (.ifCond .eq 23, 3) := by decide +kernel
theorem d8_20 : decode method_2_code 20 = .ok (.iload_n 2, 1) := by decide +kernel
theorem d8_21 : decode method_2_code 21 = .ok (.iload 4, 2) := by decide +kernel
theorem d8_23 : decode method_2_code 23 = .ok (.if_icmp .lt 17, 3) := by decide +kernel
theorem d8_26 : decode method_2_code 26 = .ok (.iload 5, 2) := by decide +kernel
theorem d8_28 : decode method_2_code 28 = .ok (.ifCond .lt 9, 3) := by decide +kernel
theorem d8_31 : decode method_2_code 31 = .ok (.iload_n 2, 1) := by decide +kernel
theorem d8_32 : decode method_2_code 32 = .ok (.iload 5, 2) := by decide +kernel
theorem d8_34 : decode method_2_code 34 = .ok (.if_icmp .ge 6, 3) := by decide +kernel
theorem d8_37 : decode method_2_code 37 = .ok (.iload_n 2, 1) := by decide +kernel
theorem d8_38 : decode method_2_code 38 = .ok (.istore 5, 2) := by decide +kernel
theorem d8_40 : decode method_2_code 40 = .ok (.iload 5, 2) := by decide +kernel
theorem d8_42 : decode method_2_code 42 = .ok (.ireturn, 1) := by decide +kernel
theorem ef_8 (m : MethodId) (x0 : Int32) (x1 : Int32) (x2 : Int32) (x3 : Int32) (x4 : Int32) : entryFrame m #[(.int x0), (.int x1), (.int x2), (.int x3), (.int x4)] 6 = mkF m 0 #[.val (.int x0), .val (.int x1), .val (.int x2), .val (.int x3), .val (.int x4), .unset] [] := by first | (simp [entryFrame, mkF, argsToLocals, Value.category]; done) | rfl
abbrev R8 : Room := { frames := 0, cells := 0, slots := 0, locals := 0 }
def r8 (p8_0 : Int32) (p8_1 : Int32) (p8_2 : Int32) (p8_3 : Int32) (p8_4 : Int32) : Int32 := (if p8_1 = (0 : Int32) then (if p8_3 = (0 : Int32) then (-1 : Int32) else (if p8_2 < p8_4 then (-1 : Int32) else p8_2)) else (if p8_0 < p8_4 then (if p8_3 = (0 : Int32) then (-1 : Int32) else (if p8_2 < p8_4 then (-1 : Int32) else p8_2)) else (if p8_3 = (0 : Int32) then p8_0 else (if p8_2 < p8_4 then p8_0 else (if p8_0 < (0 : Int32) then p8_2 else (if p8_2 < p8_0 then p8_2 else p8_0))))))
def Q8 (Z : State) (p8_0 : Int32) (p8_1 : Int32) (p8_2 : Int32) (p8_3 : Int32) (p8_4 : Int32) (h0 : Heap) (n0 : Nat) (v : Option Value) (h : Heap) (L : List Loc) : Prop := v = some (.int (r8 p8_0 p8_1 p8_2 p8_3 p8_4)) ∧ Fr n0 L ∧ h = h0
set_option maxRecDepth 65536 in
set_option maxHeartbeats 40000000 in
theorem rm8 (l : Launch) (Z : State) (a0 : Array Value) (hw : ∀ d ∈ tables_1, d.before a0 Z = true) (ws : List Jvm.Cond) (p8_0 : Int32) (p8_1 : Int32) (p8_2 : Int32) (p8_3 : Int32) (p8_4 : Int32) (h0 : Heap) (n0 : Nat) (Z0 : n0 ≤ h0.size) :
    MetFree l (⟨"relayout/PositionSetRemovePinLaw", "expectedNext", "(IZIZI)I"⟩ : MethodName) (head1 (Jvm.Cond.code (⟨"relayout/PositionSetRemovePinLaw", "expectedNext", "(IZIZI)I"⟩ : MethodName) method_2_code 6 (some .int) :: ws) R8) (fun a U => a = #[(.int p8_0), (.int p8_1), (.int p8_2), (.int p8_3), (.int p8_4)] ∧ Z.Warmed39 U.vm ∧ U.heap = h0) (fun _ _ _ _ _ => True) (fun _ U o U' => ∃ v L, o = .returned v ∧ Q8 Z p8_0 p8_1 p8_2 p8_3 p8_4 h0 n0 v U'.heap L ∧ FrameEnd U o U' L R8.cells R8.slots) := by
  refine MetFree.of_bodySF (plainFor_of_name pn_2) hisR ?_
  intro p e s m args below meth c s₁ Bd hml0 hP hK
  obtain ⟨rfl, hZ, hh⟩ := hP
  have hx := Bd.exec
  have hby := Bd.bytes
  have hml : c.maxLocals = 6 := hml0
  have hown : s.vm.findClass "relayout/PositionSetRemovePinLaw" = some m.cls := findClass_of_methodNamed Bd.named
  have hnm := (name_of_methodNamed Bd.named Bd.method).1
  have X0 : Stand p l e R8 s m #[(.int p8_0), (.int p8_1), (.int p8_2), (.int p8_3), (.int p8_4)] below meth c s₁ [] 0 0 := Stand.of_body Bd
  have e0 : s₁.heap = h0 := by rw [← hh, Bd.state]; rfl
  have N0 := Fr.nil n0
  have pre0 : ∀ t, Steps p.tables e below (s₁.setTop (mkF m 0 #[.val (.int p8_0), .val (.int p8_1), .val (.int p8_2), .val (.int p8_3), .val (.int p8_4), .unset] [])) t → Steps p.tables e below (s₁.setTop (entryFrame m #[(.int p8_0), (.int p8_1), (.int p8_2), (.int p8_3), (.int p8_4)] 6)) t := fun t k => castTop (ef_8 m p8_0 p8_1 p8_2 p8_3 p8_4) k
  have pre1 : ∀ t, Steps p.tables e below (s₁.setTop (mkF m 4 #[.val (.int p8_0), .val (.int p8_1), .val (.int p8_2), .val (.int p8_3), .val (.int p8_4), .val (.int (-1 : Int32))] [(.int p8_1)])) t → Steps p.tables e below (s₁.setTop (entryFrame m #[(.int p8_0), (.int p8_1), (.int p8_2), (.int p8_3), (.int p8_4)] 6)) t := fun t k => pre0 t (by
    refine XS.iconst X0.here hx rfl (hb hby d8_0) ?_
    show Steps p.tables e below (s₁.setTop (mkF m 1 #[.val (.int p8_0), .val (.int p8_1), .val (.int p8_2), .val (.int p8_3), .val (.int p8_4), .unset] [(.int (-1 : Int32))])) _
    refine XS.istore X0.here hx rfl (hb hby d8_1) rfl (l' := #[.val (.int p8_0), .val (.int p8_1), .val (.int p8_2), .val (.int p8_3), .val (.int p8_4), .val (.int (-1 : Int32))]) rfl ?_
    show Steps p.tables e below (s₁.setTop (mkF m 3 #[.val (.int p8_0), .val (.int p8_1), .val (.int p8_2), .val (.int p8_3), .val (.int p8_4), .val (.int (-1 : Int32))] [])) _
    refine XS.iloadN X0.here hx rfl (hb hby d8_3) rfl ?_
    show Steps p.tables e below (s₁.setTop (mkF m 4 #[.val (.int p8_0), .val (.int p8_1), .val (.int p8_2), .val (.int p8_3), .val (.int p8_4), .val (.int (-1 : Int32))] [(.int p8_1)])) _
    exact k)
  by_cases hc4_2 : p8_1 = (0 : Int32)
  · have pre3 : ∀ t, Steps p.tables e below (s₁.setTop (mkF m 17 #[.val (.int p8_0), .val (.int p8_1), .val (.int p8_2), .val (.int p8_3), .val (.int p8_4), .val (.int (-1 : Int32))] [(.int p8_3)])) t → Steps p.tables e below (s₁.setTop (entryFrame m #[(.int p8_0), (.int p8_1), (.int p8_2), (.int p8_3), (.int p8_4)] 6)) t := fun t k => pre1 t (by
      refine XS.ifYes X0.here hx rfl (pc0 := 4) (pc' := 16) rfl (hb hby d8_4) rfl ((if0 _ _).trans (teq hc4_2).1) (by decide) (by decide) ?_
      show Steps p.tables e below (s₁.setTop (mkF m 16 #[.val (.int p8_0), .val (.int p8_1), .val (.int p8_2), .val (.int p8_3), .val (.int p8_4), .val (.int (-1 : Int32))] [])) _
      refine XS.iloadN X0.here hx rfl (hb hby d8_16) rfl ?_
      show Steps p.tables e below (s₁.setTop (mkF m 17 #[.val (.int p8_0), .val (.int p8_1), .val (.int p8_2), .val (.int p8_3), .val (.int p8_4), .val (.int (-1 : Int32))] [(.int p8_3)])) _
      exact k)
    by_cases hc17_4 : p8_3 = (0 : Int32)
    · have pre5 : ∀ t, Steps p.tables e below (s₁.setTop (mkF m 42 #[.val (.int p8_0), .val (.int p8_1), .val (.int p8_2), .val (.int p8_3), .val (.int p8_4), .val (.int (-1 : Int32))] [(.int (-1 : Int32))])) t → Steps p.tables e below (s₁.setTop (entryFrame m #[(.int p8_0), (.int p8_1), (.int p8_2), (.int p8_3), (.int p8_4)] 6)) t := fun t k => pre3 t (by
        refine XS.ifYes X0.here hx rfl (pc0 := 17) (pc' := 40) rfl (hb hby d8_17) rfl ((if0 _ _).trans (teq hc17_4).1) (by decide) (by decide) ?_
        show Steps p.tables e below (s₁.setTop (mkF m 40 #[.val (.int p8_0), .val (.int p8_1), .val (.int p8_2), .val (.int p8_3), .val (.int p8_4), .val (.int (-1 : Int32))] [])) _
        refine XS.iload X0.here hx rfl (hb hby d8_40) rfl ?_
        show Steps p.tables e below (s₁.setTop (mkF m 42 #[.val (.int p8_0), .val (.int p8_1), .val (.int p8_2), .val (.int p8_3), .val (.int p8_4), .val (.int (-1 : Int32))] [(.int (-1 : Int32))])) _
        exact k)
      have hret : (r8 p8_0 p8_1 p8_2 p8_3 p8_4) = (-1 : Int32) := by unfold r8; rw [if_pos hc4_2, if_pos hc17_4]
      obtain ⟨fs, hr, hrun, hended, hW, hsame⟩ := X0.leave (v := some (.int (-1 : Int32))) (fun h => by rw [Bd.returns] at h; cases h) Bd.notSynchronized
      refine ⟨_, _, pre5 _ ?_, hrun, hended, _, _, rfl, ?_, ⟨_, rfl⟩, hW, hsame.mono (by decide) (by decide)⟩
      · show Steps p.tables e below (s₁.setTop (mkF m 42 #[.val (.int p8_0), .val (.int p8_1), .val (.int p8_2), .val (.int p8_3), .val (.int p8_4), .val (.int (-1 : Int32))] [(.int (-1 : Int32))])) _
        exact retI X0 hx Bd.returns (hb hby d8_42) hr
      · show Q8 Z p8_0 p8_1 p8_2 p8_3 p8_4 h0 n0 _ s₁.heap _
        rw [e0]
        exact ⟨(by rw [hret]), N0, rfl⟩
    · have pre6 : ∀ t, Steps p.tables e below (s₁.setTop (mkF m 23 #[.val (.int p8_0), .val (.int p8_1), .val (.int p8_2), .val (.int p8_3), .val (.int p8_4), .val (.int (-1 : Int32))] [(.int p8_4), (.int p8_2)])) t → Steps p.tables e below (s₁.setTop (entryFrame m #[(.int p8_0), (.int p8_1), (.int p8_2), (.int p8_3), (.int p8_4)] 6)) t := fun t k => pre3 t (by
        refine XS.ifNo X0.here hx rfl (hb hby d8_17) rfl ((if0 _ _).trans (feq hc17_4).1) ?_
        show Steps p.tables e below (s₁.setTop (mkF m 20 #[.val (.int p8_0), .val (.int p8_1), .val (.int p8_2), .val (.int p8_3), .val (.int p8_4), .val (.int (-1 : Int32))] [])) _
        refine XS.iloadN X0.here hx rfl (hb hby d8_20) rfl ?_
        show Steps p.tables e below (s₁.setTop (mkF m 21 #[.val (.int p8_0), .val (.int p8_1), .val (.int p8_2), .val (.int p8_3), .val (.int p8_4), .val (.int (-1 : Int32))] [(.int p8_2)])) _
        refine XS.iload X0.here hx rfl (hb hby d8_21) rfl ?_
        show Steps p.tables e below (s₁.setTop (mkF m 23 #[.val (.int p8_0), .val (.int p8_1), .val (.int p8_2), .val (.int p8_3), .val (.int p8_4), .val (.int (-1 : Int32))] [(.int p8_4), (.int p8_2)])) _
        exact k)
      by_cases hc23_7 : p8_2 < p8_4
      · have pre8 : ∀ t, Steps p.tables e below (s₁.setTop (mkF m 42 #[.val (.int p8_0), .val (.int p8_1), .val (.int p8_2), .val (.int p8_3), .val (.int p8_4), .val (.int (-1 : Int32))] [(.int (-1 : Int32))])) t → Steps p.tables e below (s₁.setTop (entryFrame m #[(.int p8_0), (.int p8_1), (.int p8_2), (.int p8_3), (.int p8_4)] 6)) t := fun t k => pre6 t (by
          refine XS.icmpYes X0.here hx rfl (pc0 := 23) (pc' := 40) rfl (hb hby d8_23) rfl (tlt hc23_7).1 (by decide) (by decide) ?_
          show Steps p.tables e below (s₁.setTop (mkF m 40 #[.val (.int p8_0), .val (.int p8_1), .val (.int p8_2), .val (.int p8_3), .val (.int p8_4), .val (.int (-1 : Int32))] [])) _
          refine XS.iload X0.here hx rfl (hb hby d8_40) rfl ?_
          show Steps p.tables e below (s₁.setTop (mkF m 42 #[.val (.int p8_0), .val (.int p8_1), .val (.int p8_2), .val (.int p8_3), .val (.int p8_4), .val (.int (-1 : Int32))] [(.int (-1 : Int32))])) _
          exact k)
        have hret : (r8 p8_0 p8_1 p8_2 p8_3 p8_4) = (-1 : Int32) := by unfold r8; rw [if_pos hc4_2, if_neg hc17_4, if_pos hc23_7]
        obtain ⟨fs, hr, hrun, hended, hW, hsame⟩ := X0.leave (v := some (.int (-1 : Int32))) (fun h => by rw [Bd.returns] at h; cases h) Bd.notSynchronized
        refine ⟨_, _, pre8 _ ?_, hrun, hended, _, _, rfl, ?_, ⟨_, rfl⟩, hW, hsame.mono (by decide) (by decide)⟩
        · show Steps p.tables e below (s₁.setTop (mkF m 42 #[.val (.int p8_0), .val (.int p8_1), .val (.int p8_2), .val (.int p8_3), .val (.int p8_4), .val (.int (-1 : Int32))] [(.int (-1 : Int32))])) _
          exact retI X0 hx Bd.returns (hb hby d8_42) hr
        · show Q8 Z p8_0 p8_1 p8_2 p8_3 p8_4 h0 n0 _ s₁.heap _
          rw [e0]
          exact ⟨(by rw [hret]), N0, rfl⟩
      · have pre9 : ∀ t, Steps p.tables e below (s₁.setTop (mkF m 42 #[.val (.int p8_0), .val (.int p8_1), .val (.int p8_2), .val (.int p8_3), .val (.int p8_4), .val (.int p8_2)] [(.int p8_2)])) t → Steps p.tables e below (s₁.setTop (entryFrame m #[(.int p8_0), (.int p8_1), (.int p8_2), (.int p8_3), (.int p8_4)] 6)) t := fun t k => pre6 t (by
          refine XS.icmpNo X0.here hx rfl (hb hby d8_23) rfl (flt hc23_7).1 ?_
          show Steps p.tables e below (s₁.setTop (mkF m 26 #[.val (.int p8_0), .val (.int p8_1), .val (.int p8_2), .val (.int p8_3), .val (.int p8_4), .val (.int (-1 : Int32))] [])) _
          refine XS.iload X0.here hx rfl (hb hby d8_26) rfl ?_
          show Steps p.tables e below (s₁.setTop (mkF m 28 #[.val (.int p8_0), .val (.int p8_1), .val (.int p8_2), .val (.int p8_3), .val (.int p8_4), .val (.int (-1 : Int32))] [(.int (-1 : Int32))])) _
          refine XS.ifYes X0.here hx rfl (pc0 := 28) (pc' := 37) rfl (hb hby d8_28) rfl ((if0 _ _).trans (tlt (by decide : (-1 : Int32) < (0 : Int32))).1) (by decide) (by decide) ?_
          show Steps p.tables e below (s₁.setTop (mkF m 37 #[.val (.int p8_0), .val (.int p8_1), .val (.int p8_2), .val (.int p8_3), .val (.int p8_4), .val (.int (-1 : Int32))] [])) _
          refine XS.iloadN X0.here hx rfl (hb hby d8_37) rfl ?_
          show Steps p.tables e below (s₁.setTop (mkF m 38 #[.val (.int p8_0), .val (.int p8_1), .val (.int p8_2), .val (.int p8_3), .val (.int p8_4), .val (.int (-1 : Int32))] [(.int p8_2)])) _
          refine XS.istore X0.here hx rfl (hb hby d8_38) rfl (l' := #[.val (.int p8_0), .val (.int p8_1), .val (.int p8_2), .val (.int p8_3), .val (.int p8_4), .val (.int p8_2)]) rfl ?_
          show Steps p.tables e below (s₁.setTop (mkF m 40 #[.val (.int p8_0), .val (.int p8_1), .val (.int p8_2), .val (.int p8_3), .val (.int p8_4), .val (.int p8_2)] [])) _
          refine XS.iload X0.here hx rfl (hb hby d8_40) rfl ?_
          show Steps p.tables e below (s₁.setTop (mkF m 42 #[.val (.int p8_0), .val (.int p8_1), .val (.int p8_2), .val (.int p8_3), .val (.int p8_4), .val (.int p8_2)] [(.int p8_2)])) _
          exact k)
        have hret : (r8 p8_0 p8_1 p8_2 p8_3 p8_4) = p8_2 := by unfold r8; rw [if_pos hc4_2, if_neg hc17_4, if_neg hc23_7]
        obtain ⟨fs, hr, hrun, hended, hW, hsame⟩ := X0.leave (v := some (.int p8_2)) (fun h => by rw [Bd.returns] at h; cases h) Bd.notSynchronized
        refine ⟨_, _, pre9 _ ?_, hrun, hended, _, _, rfl, ?_, ⟨_, rfl⟩, hW, hsame.mono (by decide) (by decide)⟩
        · show Steps p.tables e below (s₁.setTop (mkF m 42 #[.val (.int p8_0), .val (.int p8_1), .val (.int p8_2), .val (.int p8_3), .val (.int p8_4), .val (.int p8_2)] [(.int p8_2)])) _
          exact retI X0 hx Bd.returns (hb hby d8_42) hr
        · show Q8 Z p8_0 p8_1 p8_2 p8_3 p8_4 h0 n0 _ s₁.heap _
          rw [e0]
          exact ⟨(by rw [hret]), N0, rfl⟩
  · have pre10 : ∀ t, Steps p.tables e below (s₁.setTop (mkF m 10 #[.val (.int p8_0), .val (.int p8_1), .val (.int p8_2), .val (.int p8_3), .val (.int p8_4), .val (.int (-1 : Int32))] [(.int p8_4), (.int p8_0)])) t → Steps p.tables e below (s₁.setTop (entryFrame m #[(.int p8_0), (.int p8_1), (.int p8_2), (.int p8_3), (.int p8_4)] 6)) t := fun t k => pre1 t (by
      refine XS.ifNo X0.here hx rfl (hb hby d8_4) rfl ((if0 _ _).trans (feq hc4_2).1) ?_
      show Steps p.tables e below (s₁.setTop (mkF m 7 #[.val (.int p8_0), .val (.int p8_1), .val (.int p8_2), .val (.int p8_3), .val (.int p8_4), .val (.int (-1 : Int32))] [])) _
      refine XS.iloadN X0.here hx rfl (hb hby d8_7) rfl ?_
      show Steps p.tables e below (s₁.setTop (mkF m 8 #[.val (.int p8_0), .val (.int p8_1), .val (.int p8_2), .val (.int p8_3), .val (.int p8_4), .val (.int (-1 : Int32))] [(.int p8_0)])) _
      refine XS.iload X0.here hx rfl (hb hby d8_8) rfl ?_
      show Steps p.tables e below (s₁.setTop (mkF m 10 #[.val (.int p8_0), .val (.int p8_1), .val (.int p8_2), .val (.int p8_3), .val (.int p8_4), .val (.int (-1 : Int32))] [(.int p8_4), (.int p8_0)])) _
      exact k)
    by_cases hc10_11 : p8_0 < p8_4
    · have pre12 : ∀ t, Steps p.tables e below (s₁.setTop (mkF m 17 #[.val (.int p8_0), .val (.int p8_1), .val (.int p8_2), .val (.int p8_3), .val (.int p8_4), .val (.int (-1 : Int32))] [(.int p8_3)])) t → Steps p.tables e below (s₁.setTop (entryFrame m #[(.int p8_0), (.int p8_1), (.int p8_2), (.int p8_3), (.int p8_4)] 6)) t := fun t k => pre10 t (by
        refine XS.icmpYes X0.here hx rfl (pc0 := 10) (pc' := 16) rfl (hb hby d8_10) rfl (tlt hc10_11).1 (by decide) (by decide) ?_
        show Steps p.tables e below (s₁.setTop (mkF m 16 #[.val (.int p8_0), .val (.int p8_1), .val (.int p8_2), .val (.int p8_3), .val (.int p8_4), .val (.int (-1 : Int32))] [])) _
        refine XS.iloadN X0.here hx rfl (hb hby d8_16) rfl ?_
        show Steps p.tables e below (s₁.setTop (mkF m 17 #[.val (.int p8_0), .val (.int p8_1), .val (.int p8_2), .val (.int p8_3), .val (.int p8_4), .val (.int (-1 : Int32))] [(.int p8_3)])) _
        exact k)
      by_cases hc17_13 : p8_3 = (0 : Int32)
      · have pre14 : ∀ t, Steps p.tables e below (s₁.setTop (mkF m 42 #[.val (.int p8_0), .val (.int p8_1), .val (.int p8_2), .val (.int p8_3), .val (.int p8_4), .val (.int (-1 : Int32))] [(.int (-1 : Int32))])) t → Steps p.tables e below (s₁.setTop (entryFrame m #[(.int p8_0), (.int p8_1), (.int p8_2), (.int p8_3), (.int p8_4)] 6)) t := fun t k => pre12 t (by
          refine XS.ifYes X0.here hx rfl (pc0 := 17) (pc' := 40) rfl (hb hby d8_17) rfl ((if0 _ _).trans (teq hc17_13).1) (by decide) (by decide) ?_
          show Steps p.tables e below (s₁.setTop (mkF m 40 #[.val (.int p8_0), .val (.int p8_1), .val (.int p8_2), .val (.int p8_3), .val (.int p8_4), .val (.int (-1 : Int32))] [])) _
          refine XS.iload X0.here hx rfl (hb hby d8_40) rfl ?_
          show Steps p.tables e below (s₁.setTop (mkF m 42 #[.val (.int p8_0), .val (.int p8_1), .val (.int p8_2), .val (.int p8_3), .val (.int p8_4), .val (.int (-1 : Int32))] [(.int (-1 : Int32))])) _
          exact k)
        have hret : (r8 p8_0 p8_1 p8_2 p8_3 p8_4) = (-1 : Int32) := by unfold r8; rw [if_neg hc4_2, if_pos hc10_11, if_pos hc17_13]
        obtain ⟨fs, hr, hrun, hended, hW, hsame⟩ := X0.leave (v := some (.int (-1 : Int32))) (fun h => by rw [Bd.returns] at h; cases h) Bd.notSynchronized
        refine ⟨_, _, pre14 _ ?_, hrun, hended, _, _, rfl, ?_, ⟨_, rfl⟩, hW, hsame.mono (by decide) (by decide)⟩
        · show Steps p.tables e below (s₁.setTop (mkF m 42 #[.val (.int p8_0), .val (.int p8_1), .val (.int p8_2), .val (.int p8_3), .val (.int p8_4), .val (.int (-1 : Int32))] [(.int (-1 : Int32))])) _
          exact retI X0 hx Bd.returns (hb hby d8_42) hr
        · show Q8 Z p8_0 p8_1 p8_2 p8_3 p8_4 h0 n0 _ s₁.heap _
          rw [e0]
          exact ⟨(by rw [hret]), N0, rfl⟩
      · have pre15 : ∀ t, Steps p.tables e below (s₁.setTop (mkF m 23 #[.val (.int p8_0), .val (.int p8_1), .val (.int p8_2), .val (.int p8_3), .val (.int p8_4), .val (.int (-1 : Int32))] [(.int p8_4), (.int p8_2)])) t → Steps p.tables e below (s₁.setTop (entryFrame m #[(.int p8_0), (.int p8_1), (.int p8_2), (.int p8_3), (.int p8_4)] 6)) t := fun t k => pre12 t (by
          refine XS.ifNo X0.here hx rfl (hb hby d8_17) rfl ((if0 _ _).trans (feq hc17_13).1) ?_
          show Steps p.tables e below (s₁.setTop (mkF m 20 #[.val (.int p8_0), .val (.int p8_1), .val (.int p8_2), .val (.int p8_3), .val (.int p8_4), .val (.int (-1 : Int32))] [])) _
          refine XS.iloadN X0.here hx rfl (hb hby d8_20) rfl ?_
          show Steps p.tables e below (s₁.setTop (mkF m 21 #[.val (.int p8_0), .val (.int p8_1), .val (.int p8_2), .val (.int p8_3), .val (.int p8_4), .val (.int (-1 : Int32))] [(.int p8_2)])) _
          refine XS.iload X0.here hx rfl (hb hby d8_21) rfl ?_
          show Steps p.tables e below (s₁.setTop (mkF m 23 #[.val (.int p8_0), .val (.int p8_1), .val (.int p8_2), .val (.int p8_3), .val (.int p8_4), .val (.int (-1 : Int32))] [(.int p8_4), (.int p8_2)])) _
          exact k)
        by_cases hc23_16 : p8_2 < p8_4
        · have pre17 : ∀ t, Steps p.tables e below (s₁.setTop (mkF m 42 #[.val (.int p8_0), .val (.int p8_1), .val (.int p8_2), .val (.int p8_3), .val (.int p8_4), .val (.int (-1 : Int32))] [(.int (-1 : Int32))])) t → Steps p.tables e below (s₁.setTop (entryFrame m #[(.int p8_0), (.int p8_1), (.int p8_2), (.int p8_3), (.int p8_4)] 6)) t := fun t k => pre15 t (by
            refine XS.icmpYes X0.here hx rfl (pc0 := 23) (pc' := 40) rfl (hb hby d8_23) rfl (tlt hc23_16).1 (by decide) (by decide) ?_
            show Steps p.tables e below (s₁.setTop (mkF m 40 #[.val (.int p8_0), .val (.int p8_1), .val (.int p8_2), .val (.int p8_3), .val (.int p8_4), .val (.int (-1 : Int32))] [])) _
            refine XS.iload X0.here hx rfl (hb hby d8_40) rfl ?_
            show Steps p.tables e below (s₁.setTop (mkF m 42 #[.val (.int p8_0), .val (.int p8_1), .val (.int p8_2), .val (.int p8_3), .val (.int p8_4), .val (.int (-1 : Int32))] [(.int (-1 : Int32))])) _
            exact k)
          have hret : (r8 p8_0 p8_1 p8_2 p8_3 p8_4) = (-1 : Int32) := by unfold r8; rw [if_neg hc4_2, if_pos hc10_11, if_neg hc17_13, if_pos hc23_16]
          obtain ⟨fs, hr, hrun, hended, hW, hsame⟩ := X0.leave (v := some (.int (-1 : Int32))) (fun h => by rw [Bd.returns] at h; cases h) Bd.notSynchronized
          refine ⟨_, _, pre17 _ ?_, hrun, hended, _, _, rfl, ?_, ⟨_, rfl⟩, hW, hsame.mono (by decide) (by decide)⟩
          · show Steps p.tables e below (s₁.setTop (mkF m 42 #[.val (.int p8_0), .val (.int p8_1), .val (.int p8_2), .val (.int p8_3), .val (.int p8_4), .val (.int (-1 : Int32))] [(.int (-1 : Int32))])) _
            exact retI X0 hx Bd.returns (hb hby d8_42) hr
          · show Q8 Z p8_0 p8_1 p8_2 p8_3 p8_4 h0 n0 _ s₁.heap _
            rw [e0]
            exact ⟨(by rw [hret]), N0, rfl⟩
        · have pre18 : ∀ t, Steps p.tables e below (s₁.setTop (mkF m 42 #[.val (.int p8_0), .val (.int p8_1), .val (.int p8_2), .val (.int p8_3), .val (.int p8_4), .val (.int p8_2)] [(.int p8_2)])) t → Steps p.tables e below (s₁.setTop (entryFrame m #[(.int p8_0), (.int p8_1), (.int p8_2), (.int p8_3), (.int p8_4)] 6)) t := fun t k => pre15 t (by
            refine XS.icmpNo X0.here hx rfl (hb hby d8_23) rfl (flt hc23_16).1 ?_
            show Steps p.tables e below (s₁.setTop (mkF m 26 #[.val (.int p8_0), .val (.int p8_1), .val (.int p8_2), .val (.int p8_3), .val (.int p8_4), .val (.int (-1 : Int32))] [])) _
            refine XS.iload X0.here hx rfl (hb hby d8_26) rfl ?_
            show Steps p.tables e below (s₁.setTop (mkF m 28 #[.val (.int p8_0), .val (.int p8_1), .val (.int p8_2), .val (.int p8_3), .val (.int p8_4), .val (.int (-1 : Int32))] [(.int (-1 : Int32))])) _
            refine XS.ifYes X0.here hx rfl (pc0 := 28) (pc' := 37) rfl (hb hby d8_28) rfl ((if0 _ _).trans (tlt (by decide : (-1 : Int32) < (0 : Int32))).1) (by decide) (by decide) ?_
            show Steps p.tables e below (s₁.setTop (mkF m 37 #[.val (.int p8_0), .val (.int p8_1), .val (.int p8_2), .val (.int p8_3), .val (.int p8_4), .val (.int (-1 : Int32))] [])) _
            refine XS.iloadN X0.here hx rfl (hb hby d8_37) rfl ?_
            show Steps p.tables e below (s₁.setTop (mkF m 38 #[.val (.int p8_0), .val (.int p8_1), .val (.int p8_2), .val (.int p8_3), .val (.int p8_4), .val (.int (-1 : Int32))] [(.int p8_2)])) _
            refine XS.istore X0.here hx rfl (hb hby d8_38) rfl (l' := #[.val (.int p8_0), .val (.int p8_1), .val (.int p8_2), .val (.int p8_3), .val (.int p8_4), .val (.int p8_2)]) rfl ?_
            show Steps p.tables e below (s₁.setTop (mkF m 40 #[.val (.int p8_0), .val (.int p8_1), .val (.int p8_2), .val (.int p8_3), .val (.int p8_4), .val (.int p8_2)] [])) _
            refine XS.iload X0.here hx rfl (hb hby d8_40) rfl ?_
            show Steps p.tables e below (s₁.setTop (mkF m 42 #[.val (.int p8_0), .val (.int p8_1), .val (.int p8_2), .val (.int p8_3), .val (.int p8_4), .val (.int p8_2)] [(.int p8_2)])) _
            exact k)
          have hret : (r8 p8_0 p8_1 p8_2 p8_3 p8_4) = p8_2 := by unfold r8; rw [if_neg hc4_2, if_pos hc10_11, if_neg hc17_13, if_neg hc23_16]
          obtain ⟨fs, hr, hrun, hended, hW, hsame⟩ := X0.leave (v := some (.int p8_2)) (fun h => by rw [Bd.returns] at h; cases h) Bd.notSynchronized
          refine ⟨_, _, pre18 _ ?_, hrun, hended, _, _, rfl, ?_, ⟨_, rfl⟩, hW, hsame.mono (by decide) (by decide)⟩
          · show Steps p.tables e below (s₁.setTop (mkF m 42 #[.val (.int p8_0), .val (.int p8_1), .val (.int p8_2), .val (.int p8_3), .val (.int p8_4), .val (.int p8_2)] [(.int p8_2)])) _
            exact retI X0 hx Bd.returns (hb hby d8_42) hr
          · show Q8 Z p8_0 p8_1 p8_2 p8_3 p8_4 h0 n0 _ s₁.heap _
            rw [e0]
            exact ⟨(by rw [hret]), N0, rfl⟩
    · have pre19 : ∀ t, Steps p.tables e below (s₁.setTop (mkF m 17 #[.val (.int p8_0), .val (.int p8_1), .val (.int p8_2), .val (.int p8_3), .val (.int p8_4), .val (.int p8_0)] [(.int p8_3)])) t → Steps p.tables e below (s₁.setTop (entryFrame m #[(.int p8_0), (.int p8_1), (.int p8_2), (.int p8_3), (.int p8_4)] 6)) t := fun t k => pre10 t (by
        refine XS.icmpNo X0.here hx rfl (hb hby d8_10) rfl (flt hc10_11).1 ?_
        show Steps p.tables e below (s₁.setTop (mkF m 13 #[.val (.int p8_0), .val (.int p8_1), .val (.int p8_2), .val (.int p8_3), .val (.int p8_4), .val (.int (-1 : Int32))] [])) _
        refine XS.iloadN X0.here hx rfl (hb hby d8_13) rfl ?_
        show Steps p.tables e below (s₁.setTop (mkF m 14 #[.val (.int p8_0), .val (.int p8_1), .val (.int p8_2), .val (.int p8_3), .val (.int p8_4), .val (.int (-1 : Int32))] [(.int p8_0)])) _
        refine XS.istore X0.here hx rfl (hb hby d8_14) rfl (l' := #[.val (.int p8_0), .val (.int p8_1), .val (.int p8_2), .val (.int p8_3), .val (.int p8_4), .val (.int p8_0)]) rfl ?_
        show Steps p.tables e below (s₁.setTop (mkF m 16 #[.val (.int p8_0), .val (.int p8_1), .val (.int p8_2), .val (.int p8_3), .val (.int p8_4), .val (.int p8_0)] [])) _
        refine XS.iloadN X0.here hx rfl (hb hby d8_16) rfl ?_
        show Steps p.tables e below (s₁.setTop (mkF m 17 #[.val (.int p8_0), .val (.int p8_1), .val (.int p8_2), .val (.int p8_3), .val (.int p8_4), .val (.int p8_0)] [(.int p8_3)])) _
        exact k)
      by_cases hc17_20 : p8_3 = (0 : Int32)
      · have pre21 : ∀ t, Steps p.tables e below (s₁.setTop (mkF m 42 #[.val (.int p8_0), .val (.int p8_1), .val (.int p8_2), .val (.int p8_3), .val (.int p8_4), .val (.int p8_0)] [(.int p8_0)])) t → Steps p.tables e below (s₁.setTop (entryFrame m #[(.int p8_0), (.int p8_1), (.int p8_2), (.int p8_3), (.int p8_4)] 6)) t := fun t k => pre19 t (by
          refine XS.ifYes X0.here hx rfl (pc0 := 17) (pc' := 40) rfl (hb hby d8_17) rfl ((if0 _ _).trans (teq hc17_20).1) (by decide) (by decide) ?_
          show Steps p.tables e below (s₁.setTop (mkF m 40 #[.val (.int p8_0), .val (.int p8_1), .val (.int p8_2), .val (.int p8_3), .val (.int p8_4), .val (.int p8_0)] [])) _
          refine XS.iload X0.here hx rfl (hb hby d8_40) rfl ?_
          show Steps p.tables e below (s₁.setTop (mkF m 42 #[.val (.int p8_0), .val (.int p8_1), .val (.int p8_2), .val (.int p8_3), .val (.int p8_4), .val (.int p8_0)] [(.int p8_0)])) _
          exact k)
        have hret : (r8 p8_0 p8_1 p8_2 p8_3 p8_4) = p8_0 := by unfold r8; rw [if_neg hc4_2, if_neg hc10_11, if_pos hc17_20]
        obtain ⟨fs, hr, hrun, hended, hW, hsame⟩ := X0.leave (v := some (.int p8_0)) (fun h => by rw [Bd.returns] at h; cases h) Bd.notSynchronized
        refine ⟨_, _, pre21 _ ?_, hrun, hended, _, _, rfl, ?_, ⟨_, rfl⟩, hW, hsame.mono (by decide) (by decide)⟩
        · show Steps p.tables e below (s₁.setTop (mkF m 42 #[.val (.int p8_0), .val (.int p8_1), .val (.int p8_2), .val (.int p8_3), .val (.int p8_4), .val (.int p8_0)] [(.int p8_0)])) _
          exact retI X0 hx Bd.returns (hb hby d8_42) hr
        · show Q8 Z p8_0 p8_1 p8_2 p8_3 p8_4 h0 n0 _ s₁.heap _
          rw [e0]
          exact ⟨(by rw [hret]), N0, rfl⟩
      · have pre22 : ∀ t, Steps p.tables e below (s₁.setTop (mkF m 23 #[.val (.int p8_0), .val (.int p8_1), .val (.int p8_2), .val (.int p8_3), .val (.int p8_4), .val (.int p8_0)] [(.int p8_4), (.int p8_2)])) t → Steps p.tables e below (s₁.setTop (entryFrame m #[(.int p8_0), (.int p8_1), (.int p8_2), (.int p8_3), (.int p8_4)] 6)) t := fun t k => pre19 t (by
          refine XS.ifNo X0.here hx rfl (hb hby d8_17) rfl ((if0 _ _).trans (feq hc17_20).1) ?_
          show Steps p.tables e below (s₁.setTop (mkF m 20 #[.val (.int p8_0), .val (.int p8_1), .val (.int p8_2), .val (.int p8_3), .val (.int p8_4), .val (.int p8_0)] [])) _
          refine XS.iloadN X0.here hx rfl (hb hby d8_20) rfl ?_
          show Steps p.tables e below (s₁.setTop (mkF m 21 #[.val (.int p8_0), .val (.int p8_1), .val (.int p8_2), .val (.int p8_3), .val (.int p8_4), .val (.int p8_0)] [(.int p8_2)])) _
          refine XS.iload X0.here hx rfl (hb hby d8_21) rfl ?_
          show Steps p.tables e below (s₁.setTop (mkF m 23 #[.val (.int p8_0), .val (.int p8_1), .val (.int p8_2), .val (.int p8_3), .val (.int p8_4), .val (.int p8_0)] [(.int p8_4), (.int p8_2)])) _
          exact k)
        by_cases hc23_23 : p8_2 < p8_4
        · have pre24 : ∀ t, Steps p.tables e below (s₁.setTop (mkF m 42 #[.val (.int p8_0), .val (.int p8_1), .val (.int p8_2), .val (.int p8_3), .val (.int p8_4), .val (.int p8_0)] [(.int p8_0)])) t → Steps p.tables e below (s₁.setTop (entryFrame m #[(.int p8_0), (.int p8_1), (.int p8_2), (.int p8_3), (.int p8_4)] 6)) t := fun t k => pre22 t (by
            refine XS.icmpYes X0.here hx rfl (pc0 := 23) (pc' := 40) rfl (hb hby d8_23) rfl (tlt hc23_23).1 (by decide) (by decide) ?_
            show Steps p.tables e below (s₁.setTop (mkF m 40 #[.val (.int p8_0), .val (.int p8_1), .val (.int p8_2), .val (.int p8_3), .val (.int p8_4), .val (.int p8_0)] [])) _
            refine XS.iload X0.here hx rfl (hb hby d8_40) rfl ?_
            show Steps p.tables e below (s₁.setTop (mkF m 42 #[.val (.int p8_0), .val (.int p8_1), .val (.int p8_2), .val (.int p8_3), .val (.int p8_4), .val (.int p8_0)] [(.int p8_0)])) _
            exact k)
          have hret : (r8 p8_0 p8_1 p8_2 p8_3 p8_4) = p8_0 := by unfold r8; rw [if_neg hc4_2, if_neg hc10_11, if_neg hc17_20, if_pos hc23_23]
          obtain ⟨fs, hr, hrun, hended, hW, hsame⟩ := X0.leave (v := some (.int p8_0)) (fun h => by rw [Bd.returns] at h; cases h) Bd.notSynchronized
          refine ⟨_, _, pre24 _ ?_, hrun, hended, _, _, rfl, ?_, ⟨_, rfl⟩, hW, hsame.mono (by decide) (by decide)⟩
          · show Steps p.tables e below (s₁.setTop (mkF m 42 #[.val (.int p8_0), .val (.int p8_1), .val (.int p8_2), .val (.int p8_3), .val (.int p8_4), .val (.int p8_0)] [(.int p8_0)])) _
            exact retI X0 hx Bd.returns (hb hby d8_42) hr
          · show Q8 Z p8_0 p8_1 p8_2 p8_3 p8_4 h0 n0 _ s₁.heap _
            rw [e0]
            exact ⟨(by rw [hret]), N0, rfl⟩
        · have pre25 : ∀ t, Steps p.tables e below (s₁.setTop (mkF m 28 #[.val (.int p8_0), .val (.int p8_1), .val (.int p8_2), .val (.int p8_3), .val (.int p8_4), .val (.int p8_0)] [(.int p8_0)])) t → Steps p.tables e below (s₁.setTop (entryFrame m #[(.int p8_0), (.int p8_1), (.int p8_2), (.int p8_3), (.int p8_4)] 6)) t := fun t k => pre22 t (by
            refine XS.icmpNo X0.here hx rfl (hb hby d8_23) rfl (flt hc23_23).1 ?_
            show Steps p.tables e below (s₁.setTop (mkF m 26 #[.val (.int p8_0), .val (.int p8_1), .val (.int p8_2), .val (.int p8_3), .val (.int p8_4), .val (.int p8_0)] [])) _
            refine XS.iload X0.here hx rfl (hb hby d8_26) rfl ?_
            show Steps p.tables e below (s₁.setTop (mkF m 28 #[.val (.int p8_0), .val (.int p8_1), .val (.int p8_2), .val (.int p8_3), .val (.int p8_4), .val (.int p8_0)] [(.int p8_0)])) _
            exact k)
          by_cases hc28_26 : p8_0 < (0 : Int32)
          · have pre27 : ∀ t, Steps p.tables e below (s₁.setTop (mkF m 42 #[.val (.int p8_0), .val (.int p8_1), .val (.int p8_2), .val (.int p8_3), .val (.int p8_4), .val (.int p8_2)] [(.int p8_2)])) t → Steps p.tables e below (s₁.setTop (entryFrame m #[(.int p8_0), (.int p8_1), (.int p8_2), (.int p8_3), (.int p8_4)] 6)) t := fun t k => pre25 t (by
              refine XS.ifYes X0.here hx rfl (pc0 := 28) (pc' := 37) rfl (hb hby d8_28) rfl ((if0 _ _).trans (tlt hc28_26).1) (by decide) (by decide) ?_
              show Steps p.tables e below (s₁.setTop (mkF m 37 #[.val (.int p8_0), .val (.int p8_1), .val (.int p8_2), .val (.int p8_3), .val (.int p8_4), .val (.int p8_0)] [])) _
              refine XS.iloadN X0.here hx rfl (hb hby d8_37) rfl ?_
              show Steps p.tables e below (s₁.setTop (mkF m 38 #[.val (.int p8_0), .val (.int p8_1), .val (.int p8_2), .val (.int p8_3), .val (.int p8_4), .val (.int p8_0)] [(.int p8_2)])) _
              refine XS.istore X0.here hx rfl (hb hby d8_38) rfl (l' := #[.val (.int p8_0), .val (.int p8_1), .val (.int p8_2), .val (.int p8_3), .val (.int p8_4), .val (.int p8_2)]) rfl ?_
              show Steps p.tables e below (s₁.setTop (mkF m 40 #[.val (.int p8_0), .val (.int p8_1), .val (.int p8_2), .val (.int p8_3), .val (.int p8_4), .val (.int p8_2)] [])) _
              refine XS.iload X0.here hx rfl (hb hby d8_40) rfl ?_
              show Steps p.tables e below (s₁.setTop (mkF m 42 #[.val (.int p8_0), .val (.int p8_1), .val (.int p8_2), .val (.int p8_3), .val (.int p8_4), .val (.int p8_2)] [(.int p8_2)])) _
              exact k)
            have hret : (r8 p8_0 p8_1 p8_2 p8_3 p8_4) = p8_2 := by unfold r8; rw [if_neg hc4_2, if_neg hc10_11, if_neg hc17_20, if_neg hc23_23, if_pos hc28_26]
            obtain ⟨fs, hr, hrun, hended, hW, hsame⟩ := X0.leave (v := some (.int p8_2)) (fun h => by rw [Bd.returns] at h; cases h) Bd.notSynchronized
            refine ⟨_, _, pre27 _ ?_, hrun, hended, _, _, rfl, ?_, ⟨_, rfl⟩, hW, hsame.mono (by decide) (by decide)⟩
            · show Steps p.tables e below (s₁.setTop (mkF m 42 #[.val (.int p8_0), .val (.int p8_1), .val (.int p8_2), .val (.int p8_3), .val (.int p8_4), .val (.int p8_2)] [(.int p8_2)])) _
              exact retI X0 hx Bd.returns (hb hby d8_42) hr
            · show Q8 Z p8_0 p8_1 p8_2 p8_3 p8_4 h0 n0 _ s₁.heap _
              rw [e0]
              exact ⟨(by rw [hret]), N0, rfl⟩
          · have pre28 : ∀ t, Steps p.tables e below (s₁.setTop (mkF m 34 #[.val (.int p8_0), .val (.int p8_1), .val (.int p8_2), .val (.int p8_3), .val (.int p8_4), .val (.int p8_0)] [(.int p8_0), (.int p8_2)])) t → Steps p.tables e below (s₁.setTop (entryFrame m #[(.int p8_0), (.int p8_1), (.int p8_2), (.int p8_3), (.int p8_4)] 6)) t := fun t k => pre25 t (by
              refine XS.ifNo X0.here hx rfl (hb hby d8_28) rfl ((if0 _ _).trans (flt hc28_26).1) ?_
              show Steps p.tables e below (s₁.setTop (mkF m 31 #[.val (.int p8_0), .val (.int p8_1), .val (.int p8_2), .val (.int p8_3), .val (.int p8_4), .val (.int p8_0)] [])) _
              refine XS.iloadN X0.here hx rfl (hb hby d8_31) rfl ?_
              show Steps p.tables e below (s₁.setTop (mkF m 32 #[.val (.int p8_0), .val (.int p8_1), .val (.int p8_2), .val (.int p8_3), .val (.int p8_4), .val (.int p8_0)] [(.int p8_2)])) _
              refine XS.iload X0.here hx rfl (hb hby d8_32) rfl ?_
              show Steps p.tables e below (s₁.setTop (mkF m 34 #[.val (.int p8_0), .val (.int p8_1), .val (.int p8_2), .val (.int p8_3), .val (.int p8_4), .val (.int p8_0)] [(.int p8_0), (.int p8_2)])) _
              exact k)
            by_cases hc34_29 : p8_2 < p8_0
            · have pre30 : ∀ t, Steps p.tables e below (s₁.setTop (mkF m 42 #[.val (.int p8_0), .val (.int p8_1), .val (.int p8_2), .val (.int p8_3), .val (.int p8_4), .val (.int p8_2)] [(.int p8_2)])) t → Steps p.tables e below (s₁.setTop (entryFrame m #[(.int p8_0), (.int p8_1), (.int p8_2), (.int p8_3), (.int p8_4)] 6)) t := fun t k => pre28 t (by
                refine XS.icmpNo X0.here hx rfl (hb hby d8_34) rfl (tlt hc34_29).2.1 ?_
                show Steps p.tables e below (s₁.setTop (mkF m 37 #[.val (.int p8_0), .val (.int p8_1), .val (.int p8_2), .val (.int p8_3), .val (.int p8_4), .val (.int p8_0)] [])) _
                refine XS.iloadN X0.here hx rfl (hb hby d8_37) rfl ?_
                show Steps p.tables e below (s₁.setTop (mkF m 38 #[.val (.int p8_0), .val (.int p8_1), .val (.int p8_2), .val (.int p8_3), .val (.int p8_4), .val (.int p8_0)] [(.int p8_2)])) _
                refine XS.istore X0.here hx rfl (hb hby d8_38) rfl (l' := #[.val (.int p8_0), .val (.int p8_1), .val (.int p8_2), .val (.int p8_3), .val (.int p8_4), .val (.int p8_2)]) rfl ?_
                show Steps p.tables e below (s₁.setTop (mkF m 40 #[.val (.int p8_0), .val (.int p8_1), .val (.int p8_2), .val (.int p8_3), .val (.int p8_4), .val (.int p8_2)] [])) _
                refine XS.iload X0.here hx rfl (hb hby d8_40) rfl ?_
                show Steps p.tables e below (s₁.setTop (mkF m 42 #[.val (.int p8_0), .val (.int p8_1), .val (.int p8_2), .val (.int p8_3), .val (.int p8_4), .val (.int p8_2)] [(.int p8_2)])) _
                exact k)
              have hret : (r8 p8_0 p8_1 p8_2 p8_3 p8_4) = p8_2 := by unfold r8; rw [if_neg hc4_2, if_neg hc10_11, if_neg hc17_20, if_neg hc23_23, if_neg hc28_26, if_pos hc34_29]
              obtain ⟨fs, hr, hrun, hended, hW, hsame⟩ := X0.leave (v := some (.int p8_2)) (fun h => by rw [Bd.returns] at h; cases h) Bd.notSynchronized
              refine ⟨_, _, pre30 _ ?_, hrun, hended, _, _, rfl, ?_, ⟨_, rfl⟩, hW, hsame.mono (by decide) (by decide)⟩
              · show Steps p.tables e below (s₁.setTop (mkF m 42 #[.val (.int p8_0), .val (.int p8_1), .val (.int p8_2), .val (.int p8_3), .val (.int p8_4), .val (.int p8_2)] [(.int p8_2)])) _
                exact retI X0 hx Bd.returns (hb hby d8_42) hr
              · show Q8 Z p8_0 p8_1 p8_2 p8_3 p8_4 h0 n0 _ s₁.heap _
                rw [e0]
                exact ⟨(by rw [hret]), N0, rfl⟩
            · have pre31 : ∀ t, Steps p.tables e below (s₁.setTop (mkF m 42 #[.val (.int p8_0), .val (.int p8_1), .val (.int p8_2), .val (.int p8_3), .val (.int p8_4), .val (.int p8_0)] [(.int p8_0)])) t → Steps p.tables e below (s₁.setTop (entryFrame m #[(.int p8_0), (.int p8_1), (.int p8_2), (.int p8_3), (.int p8_4)] 6)) t := fun t k => pre28 t (by
                refine XS.icmpYes X0.here hx rfl (pc0 := 34) (pc' := 40) rfl (hb hby d8_34) rfl (flt hc34_29).2.1 (by decide) (by decide) ?_
                show Steps p.tables e below (s₁.setTop (mkF m 40 #[.val (.int p8_0), .val (.int p8_1), .val (.int p8_2), .val (.int p8_3), .val (.int p8_4), .val (.int p8_0)] [])) _
                refine XS.iload X0.here hx rfl (hb hby d8_40) rfl ?_
                show Steps p.tables e below (s₁.setTop (mkF m 42 #[.val (.int p8_0), .val (.int p8_1), .val (.int p8_2), .val (.int p8_3), .val (.int p8_4), .val (.int p8_0)] [(.int p8_0)])) _
                exact k)
              have hret : (r8 p8_0 p8_1 p8_2 p8_3 p8_4) = p8_0 := by unfold r8; rw [if_neg hc4_2, if_neg hc10_11, if_neg hc17_20, if_neg hc23_23, if_neg hc28_26, if_neg hc34_29]
              obtain ⟨fs, hr, hrun, hended, hW, hsame⟩ := X0.leave (v := some (.int p8_0)) (fun h => by rw [Bd.returns] at h; cases h) Bd.notSynchronized
              refine ⟨_, _, pre31 _ ?_, hrun, hended, _, _, rfl, ?_, ⟨_, rfl⟩, hW, hsame.mono (by decide) (by decide)⟩
              · show Steps p.tables e below (s₁.setTop (mkF m 42 #[.val (.int p8_0), .val (.int p8_1), .val (.int p8_2), .val (.int p8_3), .val (.int p8_4), .val (.int p8_0)] [(.int p8_0)])) _
                exact retI X0 hx Bd.returns (hb hby d8_42) hr
              · show Q8 Z p8_0 p8_1 p8_2 p8_3 p8_4 h0 n0 _ s₁.heap _
                rw [e0]
                exact ⟨(by rw [hret]), N0, rfl⟩
/-- bit j of a long -/
def own_bt (w : Int64) (j : Nat) : Bool := w.toBitVec.getLsbD j
theorem own_bt_or (x y : Int64) (j : Nat) : own_bt (x ||| y) j = (own_bt x j || own_bt y j) := by unfold own_bt; rw [Int64.toBitVec_or, BitVec.getLsbD_or]
theorem own_bt_and (x y : Int64) (j : Nat) : own_bt (x &&& y) j = (own_bt x j && own_bt y j) := by unfold own_bt; rw [Int64.toBitVec_and, BitVec.getLsbD_and]
theorem own_bt_not (x : Int64) (j : Nat) (hj : j < 64) : own_bt (x ^^^ (-1 : Int64)) j = !own_bt x j := by
  unfold own_bt
  rw [Int64.toBitVec_xor, BitVec.getLsbD_xor, show (-1 : Int64).toBitVec = BitVec.allOnes 64 from rfl, BitVec.getLsbD_allOnes]
  simp [hj]
theorem own_bt_zero (j : Nat) : own_bt 0 j = false := by unfold own_bt; rw [show (0 : Int64).toBitVec = 0#64 from rfl]; simp
theorem own_bt_ge (w : Int64) (j : Nat) (h : 64 ≤ j) : own_bt w j = false := BitVec.getLsbD_of_ge _ _ h
theorem own_bt_eq {x : Int64} (h : ∀ j, j < 64 → own_bt x j = false) : x = 0 := by
  apply Int64.toBitVec_inj.mp
  apply BitVec.eq_of_getLsbD_eq
  intro i hi
  rw [show (0 : Int64).toBitVec = 0#64 from rfl]
  have := h i hi
  unfold own_bt at this
  rw [this]; simp
theorem own_bt_ne {x : Int64} (h : x ≠ 0) : ∃ j, j < 64 ∧ own_bt x j = true := by
  apply Classical.byContradiction
  intro q
  refine h (own_bt_eq fun j hj => ?_)
  cases e : own_bt x j
  · rfl
  · exact absurd ⟨j, hj, e⟩ q
theorem own_bt_nz {x : Int64} {j : Nat} (h : own_bt x j = true) : x ≠ 0 := fun q => by rw [q, own_bt_zero] at h; cases h
theorem own_amt : ∀ n, n < 64 → ((Int32.ofNat n).toInt64.toBitVec.smod 64).toNat = n := by decide +kernel
theorem own_m63 (y : Int32) : y &&& 63 = Int32.ofNat (y.toBitVec.toNat % 64) := by
  apply Int32.toBitVec_inj.mp
  apply BitVec.eq_of_toNat_eq
  rw [Int32.toBitVec_and, BitVec.toNat_and, show (63 : Int32).toBitVec.toNat = 2 ^ 6 - 1 from rfl, Nat.and_two_pow_sub_one_eq_mod]
  show _ = (BitVec.ofNat 32 _).toNat
  rw [BitVec.toNat_ofNat]; omega
theorem own_shlB (x : Int64) (y : Int32) : (own_shlL x y).toBitVec = x.toBitVec <<< (y.toBitVec.toNat % 64) := by
  unfold own_shlL
  rw [show (0x3f : Int32) = 63 from rfl, own_m63]
  show x.toBitVec <<< ((Int32.ofNat (y.toBitVec.toNat % 64)).toInt64.toBitVec.smod 64) = _
  rw [BitVec.shiftLeft_eq', own_amt _ (Nat.mod_lt _ (by decide))]
theorem own_bit (y : Int32) (j : Nat) (hj : j < 64) : own_bt (own_shlL (1 : Int64) y) j = decide (j = y.toBitVec.toNat % 64) := by
  unfold own_bt
  rw [own_shlB, BitVec.getLsbD_shiftLeft, show (1 : Int64).toBitVec = 1#64 from rfl, BitVec.getLsbD_one]
  have h := Nat.mod_lt y.toBitVec.toNat (show 0 < 64 by decide)
  generalize y.toBitVec.toNat % 64 = k at *
  by_cases q : j = k
  · subst q; simp [hj]
  · simp [q] <;> omega
theorem own_mask (y : Int32) (j : Nat) (hj : j < 64) : own_bt (own_shlL (-1 : Int64) y) j = decide (y.toBitVec.toNat % 64 ≤ j) := by
  unfold own_bt
  rw [own_shlB, BitVec.getLsbD_shiftLeft, show (-1 : Int64).toBitVec = BitVec.allOnes 64 from rfl, BitVec.getLsbD_allOnes]
  generalize y.toBitVec.toNat % 64 = k at *
  by_cases q : k ≤ j
  · simp [hj, q] <;> omega
  · simp [q] <;> omega
theorem own_us6 (x : Int32) : own_ushr x 6 = Int32.ofNat (x.toBitVec.toNat / 64) := by
  apply Int32.toBitVec_inj.mp
  apply BitVec.eq_of_toNat_eq
  show (x.toBitVec >>> 6).toNat = (BitVec.ofNat 32 _).toNat
  have b := x.toBitVec.isLt
  rw [BitVec.toNat_ushiftRight, Nat.shiftRight_eq_div_pow, BitVec.toNat_ofNat]; omega
theorem own_on (n : Nat) (h : n < 4294967296) : (Int32.ofNat n).toBitVec.toNat = n := by
  show (BitVec.ofNat 32 n).toNat = n
  rw [BitVec.toNat_ofNat]; omega
theorem own_on6 (n : Nat) (h : n < 4294967296) : own_ushr (Int32.ofNat n) 6 = Int32.ofNat (n / 64) := by rw [own_us6, own_on n h]
theorem own_least {P : Nat → Prop} (n : Nat) (hn : P n) : ∃ j, (∀ i, i < j → ¬ P i) ∧ P j := by
  induction n using Nat.strongRecOn with
  | ind n ih =>
    by_cases h : ∃ i, i < n ∧ P i
    · obtain ⟨i, hi, hp⟩ := h; exact ih i hi hp
    · exact ⟨n, fun i hi hp => h ⟨i, hi, hp⟩, hn⟩
/-- the lowest bit of a long that isn't 0 -/
theorem own_low {x : Int64} (h : x ≠ 0) : ∃ k, k < 64 ∧ own_bt x k = true ∧ ∀ j, j < k → own_bt x j = false := by
  obtain ⟨j, hj, hb⟩ := own_bt_ne h
  obtain ⟨k, h1, h2⟩ := own_least (P := fun j => own_bt x j = true) j hb
  refine ⟨k, ?_, h2, fun i hi => by simpa using h1 i hi⟩
  apply Classical.byContradiction
  intro q
  rw [own_bt_ge x k (by omega)] at h2; cases h2
theorem own_glb {w : Nat} (x : BitVec w) (i : Nat) : x.getLsbD i = x.toNat.testBit i := rfl
theorem own_flip (x : BitVec 32) (k : Nat) (hk : x.getLsbD k = true) (hl : ∀ j, j < k → x.getLsbD j = false) : (x ^^^ BitVec.allOnes 32) &&& (x - 1#32) = BitVec.ofNat 32 (2 ^ k - 1) := by
  have hk32 : k < 32 := by
    apply Classical.byContradiction
    intro q
    rw [BitVec.getLsbD_of_ge x k (by omega)] at hk; cases hk
  have e0 : x.toNat % 2 ^ k = 0 := by
    apply Nat.eq_of_testBit_eq
    intro j
    rw [Nat.testBit_mod_two_pow, Nat.zero_testBit]
    by_cases q : j < k
    · have := hl j q
      rw [own_glb] at this
      simp [q, this]
    · simp [q]
  have e1 : x.toNat / 2 ^ k % 2 = 1 := by
    rw [own_glb, Nat.testBit_eq_decide_div_mod_eq, decide_eq_true_iff] at hk; exact hk
  obtain ⟨t, ht⟩ : ∃ t, t = x.toNat / 2 ^ k / 2 := ⟨_, rfl⟩
  have p : 0 < 2 ^ k := Nat.two_pow_pos k
  have en : x.toNat = 2 ^ (k + 1) * t + 2 ^ k := by
    have a := Nat.div_add_mod x.toNat (2 ^ k)
    have b := Nat.div_add_mod (x.toNat / 2 ^ k) 2
    rw [e0, Nat.add_zero] at a
    rw [e1, ← ht] at b
    rw [← a, ← b, Nat.mul_add, Nat.mul_one, Nat.pow_succ, Nat.mul_assoc]
  have em : (x - 1#32).toNat = 2 ^ (k + 1) * t + (2 ^ k - 1) := by
    have b := x.isLt
    rw [BitVec.toNat_sub, show (1#32).toNat = 1 from rfl, en] 
    rw [en] at b
    omega
  apply BitVec.eq_of_getLsbD_eq
  intro j hj
  rw [BitVec.getLsbD_and, BitVec.getLsbD_xor, BitVec.getLsbD_allOnes]
  simp only [own_glb]
  rw [em, en, Nat.testBit_two_pow_mul_add _ (Nat.pow_lt_pow_right (by decide) (Nat.lt_succ_self k)), Nat.testBit_two_pow_mul_add _ (by rw [Nat.pow_succ]; omega), BitVec.toNat_ofNat, Nat.testBit_mod_two_pow, Nat.testBit_two_pow_sub_one, Nat.testBit_two_pow]
  by_cases q : j < k + 1
  · simp only [if_pos q]
    by_cases q2 : j < k
    · simp [hj, q2] <;> omega
    · simp [hj, q2] <;> omega
  · simp only [if_neg q]
    have : ¬ j < k := by omega
    simp [hj, this]

theorem own_n4 : ∀ k, k < 32 → ∀ x : Int32, v7_7 x = Int32.ofNat (2 ^ k - 1) → r7 x = Int32.ofNat k := by
  intro k hk x h
  unfold r7 j7_74_1 j7_74_0 v7_73 j7_62_1 j7_62_0 v7_61 j7_49_1 j7_49_0 v7_48 j7_34_1 j7_34_0 v7_33
  rw [h]
  clear h x
  revert k
  decide +kernel
theorem own_ntz32 (x : Int32) (k : Nat) (hk : x.toBitVec.getLsbD k = true) (hl : ∀ j, j < k → x.toBitVec.getLsbD j = false) : r7 x = Int32.ofNat k := by
  have hk32 : k < 32 := by
    apply Classical.byContradiction
    intro q
    rw [BitVec.getLsbD_of_ge x.toBitVec k (by omega)] at hk; cases hk
  refine own_n4 k hk32 x ?_
  apply Int32.toBitVec_inj.mp
  show ((x ^^^ (-1 : Int32)) &&& (x - (1 : Int32))).toBitVec = BitVec.ofNat 32 (2 ^ k - 1)
  rw [Int32.toBitVec_and, Int32.toBitVec_xor, Int32.toBitVec_sub]
  exact own_flip x.toBitVec k hk hl
theorem own_i32 (w : Int64) (j : Nat) (hj : j < 32) : w.toInt32.toBitVec.getLsbD j = own_bt w j := by
  unfold own_bt
  show (BitVec.signExtend 32 w.toBitVec).getLsbD j = _
  rw [BitVec.getLsbD_signExtend]
  simp [hj] <;> omega
theorem own_ntz64 (w : Int64) (k : Nat) (hk : own_bt w k = true) (hl : ∀ j, j < k → own_bt w j = false) : r6 w = Int32.ofNat k := by
  have hk64 : k < 64 := by
    apply Classical.byContradiction
    intro q
    rw [own_bt_ge w k (by omega)] at hk; cases hk
  unfold r6 v6_2
  by_cases q : k < 32
  · have e : ¬ w.toInt32 = 0 := fun z => by
      have := own_i32 w k q
      rw [z, hk] at this
      simp at this
    rw [if_neg e]
    exact own_ntz32 _ k (by rw [own_i32 w k q]; exact hk) (fun j hj => by rw [own_i32 w j (by omega)]; exact hl j hj)
  · have e : w.toInt32 = 0 := by
      apply Int32.toBitVec_inj.mp
      apply BitVec.eq_of_getLsbD_eq
      intro j hj
      rw [own_i32 w j hj, hl j (by omega)]
      simp
    have u : ∀ j, own_bt (own_ushrL w 32) j = own_bt w (32 + j) := fun j => by
      show (w.toBitVec >>> 32).getLsbD j = _
      rw [BitVec.getLsbD_ushiftRight]; rfl
    rw [if_pos e, own_ntz32 _ (k - 32) (by rw [own_i32 _ _ (by omega), u, show 32 + (k - 32) = k by omega]; exact hk) (fun j hj => by rw [own_i32 _ _ (by omega), u]; exact hl _ (by omega))]
    rw [show (32 : Int32) = Int32.ofNat 32 from rfl, ← Int32.ofNat_add, show 32 + (k - 32) = k by omega]
/-- the arrays say the set S -/
def OwnG (n m B : Nat) (fw fo : Nat → Int64) (S : Nat → Prop) : Prop := 1 ≤ n ∧ n ≤ B ∧ B ≤ 256 ∧ m = (n + 63) / 64 ∧ m ≤ 4 ∧ (∀ k, n ≤ k → fw k = 0) ∧ (∀ k, m ≤ k → fo k = 0) ∧ (∀ x, S x ↔ own_bt (fw (x / 64)) (x % 64) = true) ∧ (∀ k, own_bt (fo (k / 64)) (k % 64) = true ↔ fw k ≠ 0)
def PSet (Z : State) (h : Heap) (n0 : Nat) (a : Addr) (B : Nat) (S : Nat → Prop) : Prop := ∃ (aw ao : Addr) (n m : Nat) (fw fo : Nat → Int64), Exa Z h a "relayout/PositionSet" ∧ Fld Z h a "relayout/PositionSet" "words" "[J" (.ref aw) ∧ Fld Z h a "relayout/PositionSet" "occupied" "[J" (.ref ao) ∧ ArJ Z h aw n fw ∧ ArJ Z h ao m fo ∧ aw ≠ ao ∧ n0 ≤ aw ∧ n0 ≤ ao ∧ OwnG n m B fw fo S
theorem own_psE {Z : State} {h : Heap} {n0 : Nat} {a : Addr} {B : Nat} {S : Nat → Prop} (P : PSet Z h n0 a B S) : Exa Z h a "relayout/PositionSet" := by obtain ⟨_, _, _, _, _, _, E, -⟩ := P; exact E
def own_ins (S : Nat → Prop) (p : Nat) : Nat → Prop := fun x => S x ∨ x = p
def own_del (S : Nat → Prop) (p : Nat) : Nat → Prop := fun x => S x ∧ x ≠ p
theorem own_G0 : OwnG 1 1 1 (fun _ => 0) (fun _ => 0) (fun _ => False) :=
  ⟨by decide, by decide, by decide, by decide, by decide, fun _ _ => rfl, fun _ _ => rfl, fun x => by rw [own_bt_zero]; simp, fun k => by rw [own_bt_zero]; simp⟩
theorem own_at32 {i : Nat} (h : i < 2147483648) : ¬ (Int32.ofNat i) < 0 ∧ (Int32.ofNat i).toNatClampNeg = i := by
  refine ⟨?_, ?_⟩
  · rw [Int32.lt_iff_toInt_lt, Int32.toInt_ofNat_of_lt (by omega), show (0 : Int32).toInt = 0 from rfl]; omega
  · show (Int32.ofNat i).toInt.toNat = i
    rw [Int32.toInt_ofNat_of_lt (by omega)]; rfl
theorem own_rl (r : Int32) : r.toBitVec.toNat / 64 < 2147483648 := by have := r.toBitVec.isLt; omega
theorem own_rl2 (r : Int32) : r.toBitVec.toNat / 64 / 64 < 2147483648 := by have := r.toBitVec.isLt; omega
theorem own_rl4 (r : Int32) : r.toBitVec.toNat / 64 < 4294967296 := by have := r.toBitVec.isLt; omega
theorem own_lt32 {i n : Nat} (h : Int32.ofNat i < Int32.ofNat n) (hi : i < 2147483648) (hn : n < 2147483648) : i < n := by
  rw [Int32.lt_iff_toInt_lt, Int32.toInt_ofNat_of_lt hi, Int32.toInt_ofNat_of_lt hn] at h; omega
theorem own_ge32 {i n : Nat} (h : ¬ Int32.ofNat i < Int32.ofNat n) (hi : i < 2147483648) (hn : n < 2147483648) : n ≤ i := by
  rw [Int32.lt_iff_toInt_lt, Int32.toInt_ofNat_of_lt hi, Int32.toInt_ofNat_of_lt hn] at h; omega
section Sets
variable {n m B : Nat} {fw fo : Nat → Int64} {S : Nat → Prop}
theorem own_Gn (G : OwnG n m B fw fo S) : n < 2147483648 := by obtain ⟨a, b, c, -⟩ := G; omega
theorem own_Gm (G : OwnG n m B fw fo S) {i : Nat} (h : i < n) : i / 64 < m := by obtain ⟨a, b, c, d, -⟩ := G; omega
theorem own_updJ_hit (f : Nat → Int64) (i : Nat) (x : Int64) : own_updJ f i x i = x := if_pos rfl
theorem own_updJ_miss (f : Nat → Int64) (i k : Nat) (x : Int64) (h : k ≠ i) : own_updJ f i x k = f k := if_neg h
theorem own_Grem0 (G : OwnG n m B fw fo S) (r : Int32) (h : n ≤ r.toBitVec.toNat / 64) : OwnG n m B fw fo (own_del S r.toBitVec.toNat) := by
  obtain ⟨a, b, c, d, e, f, g, i, j⟩ := G
  refine ⟨a, b, c, d, e, f, g, fun x => ?_, j⟩
  unfold own_del
  rw [i]
  constructor
  · intro q; exact q.1
  · intro q
    refine ⟨q, fun z => ?_⟩
    rw [z, f _ h, own_bt_zero] at q; cases q
theorem own_rembits (w : Int64) (r : Int32) (j : Nat) (hj : j < 64) : own_bt (w &&& ((own_shlL (1 : Int64) r) ^^^ (-1 : Int64))) j = (own_bt w j && !decide (j = r.toBitVec.toNat % 64)) := by
  rw [own_bt_and, own_bt_not _ _ hj, own_bit _ _ hj]
theorem own_Gw (r : Int32) (hS : ∀ x, S x ↔ own_bt (fw (x / 64)) (x % 64) = true) : ∀ x, own_del S r.toBitVec.toNat x ↔ own_bt ((own_updJ fw (r.toBitVec.toNat / 64) (fw (r.toBitVec.toNat / 64) &&& ((own_shlL (1 : Int64) r) ^^^ (-1 : Int64)))) (x / 64)) (x % 64) = true := by
  intro x
  unfold own_del
  by_cases q : x / 64 = r.toBitVec.toNat / 64
  · rw [hS, q, own_updJ_hit, own_rembits _ _ _ (Nat.mod_lt _ (by decide))]
    have : x ≠ r.toBitVec.toNat ↔ ¬ x % 64 = r.toBitVec.toNat % 64 := by omega
    rw [this]; simp
  · rw [hS, own_updJ_miss _ _ _ _ q]
    constructor
    · exact fun z => z.1
    · intro z; exact ⟨z, by omega⟩
theorem own_Grem1 (G : OwnG n m B fw fo S) (r : Int32) (h : r.toBitVec.toNat / 64 < n) (hne : ¬ (own_updJ fw (r.toBitVec.toNat / 64) (fw (r.toBitVec.toNat / 64) &&& ((own_shlL (1 : Int64) r) ^^^ (-1 : Int64))) (r.toBitVec.toNat / 64)) = (0 : Int64)) :
    OwnG n m B (own_updJ fw (r.toBitVec.toNat / 64) (fw (r.toBitVec.toNat / 64) &&& ((own_shlL (1 : Int64) r) ^^^ (-1 : Int64)))) fo (own_del S r.toBitVec.toNat) := by
  obtain ⟨a, b, c, d, e, f, g, i, j⟩ := G
  refine ⟨a, b, c, d, e, fun k hk => ?_, g, own_Gw r i, fun k => ?_⟩
  · rw [own_updJ_miss _ _ _ _ (by omega)]; exact f k hk
  · rw [j]
    by_cases q : k = r.toBitVec.toNat / 64
    · rw [q]
      refine iff_of_true ?_ hne
      intro z
      rw [own_updJ_hit, z, Int64.zero_and] at hne
      exact hne rfl
    · rw [own_updJ_miss _ _ _ _ q]
theorem own_Grem2 (G : OwnG n m B fw fo S) (r : Int32) (h : r.toBitVec.toNat / 64 < n) (hz : (own_updJ fw (r.toBitVec.toNat / 64) (fw (r.toBitVec.toNat / 64) &&& ((own_shlL (1 : Int64) r) ^^^ (-1 : Int64))) (r.toBitVec.toNat / 64)) = (0 : Int64)) :
    OwnG n m B (own_updJ fw (r.toBitVec.toNat / 64) (fw (r.toBitVec.toNat / 64) &&& ((own_shlL (1 : Int64) r) ^^^ (-1 : Int64)))) (own_updJ fo (r.toBitVec.toNat / 64 / 64) (fo (r.toBitVec.toNat / 64 / 64) &&& ((own_shlL (1 : Int64) (Int32.ofNat (r.toBitVec.toNat / 64))) ^^^ (-1 : Int64)))) (own_del S r.toBitVec.toNat) := by
  obtain ⟨a, b, c, d, e, f, g, i, j⟩ := G
  have hb := r.toBitVec.isLt
  refine ⟨a, b, c, d, e, fun k hk => ?_, fun k hk => ?_, own_Gw r i, fun k => ?_⟩
  · rw [own_updJ_miss _ _ _ _ (by omega)]; exact f k hk
  · rw [own_updJ_miss _ _ _ _ (by omega)]; exact g k hk
  · by_cases q : k / 64 = r.toBitVec.toNat / 64 / 64
    · rw [q, own_updJ_hit, own_rembits _ _ _ (Nat.mod_lt _ (by decide)), own_on _ (by omega)]
      by_cases q2 : k = r.toBitVec.toNat / 64
      · rw [q2, hz]; simp
      · rw [own_updJ_miss _ _ _ _ q2, ← j k, ← q]
        have : ¬ k % 64 = r.toBitVec.toNat / 64 % 64 := by omega
        simp [this]
    · rw [own_updJ_miss _ _ _ _ q, own_updJ_miss _ _ _ _ (by omega)]; exact j k
theorem own_Gz (G : OwnG n m B fw fo S) : ∀ k, n ≤ k → fw k = 0 := by obtain ⟨a, b, c, d, e, f, -⟩ := G; exact f
theorem own_Gzo (G : OwnG n m B fw fo S) : ∀ k, m ≤ k → fo k = 0 := by obtain ⟨a, b, c, d, e, f, g, -⟩ := G; exact g
theorem own_Gn256 (G : OwnG n m B fw fo S) : n ≤ 256 := by obtain ⟨a, b, c, -⟩ := G; omega
theorem own_Gm31 (G : OwnG n m B fw fo S) : m < 2147483648 := by obtain ⟨a, b, c, d, e, -⟩ := G; omega
theorem own_Gm31' (G : OwnG n m B fw fo S) : m ≤ 4 := by obtain ⟨a, b, c, d, e, -⟩ := G; exact e
theorem own_one (i : Nat) : Int32.ofNat i + (1 : Int32) = Int32.ofNat (i + 1) := (Int32.ofNat_add i 1).symm
theorem own_idx {p : Int32} {pn : Nat} (hp : p = Int32.ofNat pn) (h : pn < 8192) : own_ushr p (6 : Int32) = Int32.ofNat (pn / 64) := by rw [hp]; exact own_on6 pn (by omega)
theorem own_pl {pn : Nat} (h : pn < 8192) : pn / 64 < 2147483648 := by omega
theorem own_pl2 {pn : Nat} (h : pn < 8192) : pn / 64 / 64 < 2147483648 := by omega
theorem own_pl4 {pn : Nat} (h : pn < 8192) : pn / 64 < 4294967296 := by omega
theorem own_pl5 {pn : Nat} (h : pn < 8192) : pn / 64 + 1 < 4294967296 := by omega
theorem own_pl6 {pn : Nat} (h : pn < 8192) : (pn / 64 + 1) / 64 < 2147483648 := by omega
/-- the new length -/
def own_nl (pn n : Nat) : Nat := max (pn / 64 + 1) (2 * n)
theorem own_ngl (pn n : Nat) : pn / 64 < own_nl pn n := by unfold own_nl; omega
theorem own_ngl2 (pn n : Nat) : pn / 64 / 64 < (own_nl pn n + 63) / 64 := by have := own_ngl pn n; omega
theorem own_nlp {pn n : Nat} (h : pn < 8192) (hn : n ≤ 256) : r9 ((Int32.ofNat (pn / 64)) + (1 : Int32)) ((Int32.ofNat n) * (2 : Int32)) = Int32.ofNat (own_nl pn n) := by
  have e1 : ((Int32.ofNat (pn / 64)) + (1 : Int32)).toInt = ((pn / 64 + 1 : Nat) : Int) := by rw [own_one, Int32.toInt_ofNat_of_lt (by omega)]
  have e2 : ((Int32.ofNat n) * (2 : Int32)).toInt = ((2 * n : Nat) : Int) := by
    rw [Jvm.Kit.i32_mul (by rw [Int32.toInt_ofNat_of_lt (by omega), show (2 : Int32).toInt = 2 from rfl]; omega) (by rw [Int32.toInt_ofNat_of_lt (by omega), show (2 : Int32).toInt = 2 from rfl]; omega), Int32.toInt_ofNat_of_lt (by omega), show (2 : Int32).toInt = 2 from rfl]; omega
  have e3 : (Int32.ofNat (own_nl pn n)).toInt = ((own_nl pn n : Nat) : Int) := Int32.toInt_ofNat_of_lt (by unfold own_nl; omega)
  apply Int32.toInt_inj.mp
  unfold r9
  by_cases q : (Int32.ofNat (pn / 64)) + (1 : Int32) < (Int32.ofNat n) * (2 : Int32)
  · rw [if_pos q, e2, e3]
    rw [Int32.lt_iff_toInt_lt, e1, e2] at q
    unfold own_nl; omega
  · rw [if_neg q, e1, e3]
    rw [Int32.lt_iff_toInt_lt, e1, e2] at q
    unfold own_nl; omega
theorem own_ol {pn n : Nat} (h : pn < 8192) (hn : n ≤ 256) : own_ushr ((Int32.ofNat (own_nl pn n)) + (63 : Int32)) (6 : Int32) = Int32.ofNat ((own_nl pn n + 63) / 64) := by
  rw [show (63 : Int32) = Int32.ofNat 63 from rfl, ← Int32.ofNat_add]
  exact own_on6 _ (by unfold own_nl; omega)
theorem own_cn {pn : Nat} (h : pn < 8192) (G : OwnG n m B fw fo S) : n < 2147483648 ∧ m < 2147483648 := ⟨own_Gn G, own_Gm31 G⟩
theorem own_bt_set (w : Int64) (y : Int32) (j : Nat) (hj : j < 64) : own_bt (w ||| (own_shlL (1 : Int64) y)) j = (own_bt w j || decide (j = y.toBitVec.toNat % 64)) := by rw [own_bt_or, own_bit _ _ hj]
theorem own_Gadd {pn n' m' B' : Nat} {p : Int32} (G : OwnG n m B fw fo S) (hp : p = Int32.ofNat pn) (h : pn < 8192) (h1 : n ≤ n') (h2 : m ≤ m') (h3 : pn / 64 < n') (h4 : n' ≤ B') (h5 : B' ≤ 256) (h6 : m' = (n' + 63) / 64) (h7 : m' ≤ 4) :
    OwnG n' m' B' (own_updJ fw (pn / 64) (fw (pn / 64) ||| (own_shlL (1 : Int64) p))) (own_updJ fo (pn / 64 / 64) (fo (pn / 64 / 64) ||| (own_shlL (1 : Int64) (Int32.ofNat (pn / 64))))) (own_ins S pn) := by
  obtain ⟨a, b, c, d, e, f, g, i, j⟩ := G
  have hpn : p.toBitVec.toNat = pn := by rw [hp, own_on _ (by omega)]
  refine ⟨by omega, h4, h5, h6, h7, fun k hk => ?_, fun k hk => ?_, fun x => ?_, fun k => ?_⟩
  · rw [own_updJ_miss _ _ _ _ (by omega)]; exact f k (by omega)
  · rw [own_updJ_miss _ _ _ _ (by omega)]; exact g k (by omega)
  · unfold own_ins
    by_cases q : x / 64 = pn / 64
    · rw [q, own_updJ_hit, own_bt_set _ _ _ (Nat.mod_lt _ (by decide)), hpn, i, q]
      have : x = pn ↔ x % 64 = pn % 64 := by omega
      rw [this]; simp
    · rw [own_updJ_miss _ _ _ _ q, i]
      constructor
      · rintro (z | z)
        · exact z
        · exact absurd (by rw [z]) q
      · exact fun z => Or.inl z
  · by_cases q : k / 64 = pn / 64 / 64
    · rw [q, own_updJ_hit, own_bt_set _ _ _ (Nat.mod_lt _ (by decide)), own_on _ (by omega)]
      by_cases q2 : k = pn / 64
      · refine iff_of_true (by rw [q2]; simp) ?_
        rw [q2, own_updJ_hit]
        refine own_bt_nz (j := pn % 64) ?_
        rw [own_bt_set _ _ _ (Nat.mod_lt _ (by decide)), hpn]; simp
      · rw [own_updJ_miss _ _ _ _ q2, ← j k, ← q]
        have : ¬ k % 64 = pn / 64 % 64 := by omega
        simp [this]
    · rw [own_updJ_miss _ _ _ _ q, own_updJ_miss _ _ _ _ (by intro z; exact q (by rw [z]))]; exact j k
theorem own_GaddN {pn : Nat} {p : Int32} (G : OwnG n m B fw fo S) (hp : p = Int32.ofNat pn) (h : pn < 8192) (hB : B ≤ 128) (hi : pn / 64 < n) :
    OwnG n m (max 128 (2 * B)) (own_updJ fw (pn / 64) (fw (pn / 64) ||| (own_shlL (1 : Int64) p))) (own_updJ fo (pn / 64 / 64) (fo (pn / 64 / 64) ||| (own_shlL (1 : Int64) (Int32.ofNat (pn / 64))))) (own_ins S pn) := by
  have G' := G
  obtain ⟨a, b, c, d, e, -⟩ := G'
  exact own_Gadd G hp h (Nat.le_refl _) (Nat.le_refl _) hi (by omega) (by omega) d e
theorem own_GaddG {pn : Nat} {p : Int32} (G : OwnG n m B fw fo S) (hp : p = Int32.ofNat pn) (h : pn < 8192) (hB : B ≤ 128) (hi : n ≤ pn / 64) :
    OwnG (own_nl pn n) ((own_nl pn n + 63) / 64) (max 128 (2 * B)) (own_updJ fw (pn / 64) (fw (pn / 64) ||| (own_shlL (1 : Int64) p))) (own_updJ fo (pn / 64 / 64) (fo (pn / 64 / 64) ||| (own_shlL (1 : Int64) (Int32.ofNat (pn / 64))))) (own_ins S pn) := by
  have G' := G
  obtain ⟨a, b, c, d, e, -, g, -⟩ := G'
  have q : own_nl pn n ≤ max 128 (2 * B) := by unfold own_nl; omega
  have q2 : n ≤ own_nl pn n := by unfold own_nl; omega
  exact own_Gadd G hp h q2 (by omega) (own_ngl pn n) q (by omega) rfl (by omega)
theorem own_cap256 {pn : Nat} (h : pn < 8192) (G : OwnG n m B fw fo S) (hB : B ≤ 128) : own_nl pn n ≤ 256 := by
  obtain ⟨a, b, -⟩ := G; unfold own_nl; omega
theorem own_cap4 {pn : Nat} (h : pn < 8192) (G : OwnG n m B fw fo S) (hB : B ≤ 128) : (own_nl pn n + 63) / 64 ≤ 4 := by
  have := own_cap256 h G hB; omega
end Sets

theorem pn_3 : plainName "relayout/PositionSet" = true := by first | (simp [plainName, overriddenIn]; done) | decide +kernel
theorem d1_0 : decode prog_24_method_1_code 0 = .ok (.aload_n 0, 1) := by decide +kernel
theorem d1_1 : decode prog_24_method_1_code 1 = .ok (.invokespecial 1, 3) := by decide +kernel
theorem d1_4 : decode prog_24_method_1_code 4 = .ok (.aload_n 0, 1) := by decide +kernel
theorem d1_5 : decode prog_24_method_1_code 5 = .ok (.iconst 1, 1) := by decide +kernel
theorem d1_6 : decode prog_24_method_1_code 6 = .ok (.newarray .long, 2) := by decide +kernel
theorem d1_8 : decode prog_24_method_1_code 8 = .ok (.putfield 7, 3) := by decide +kernel
theorem d1_11 : decode prog_24_method_1_code 11 = .ok (.aload_n 0, 1) := by decide +kernel
theorem d1_12 : decode prog_24_method_1_code 12 = .ok (.iconst 1, 1) := by decide +kernel
theorem d1_13 : decode prog_24_method_1_code 13 = .ok (.newarray .long, 2) := by decide +kernel
theorem d1_15 : decode prog_24_method_1_code 15 = .ok (.putfield 13, 3) := by decide +kernel
theorem d1_18 : decode prog_24_method_1_code 18 = .ok (.return_, 1) := by decide +kernel
theorem ef_1 (m : MethodId) (x0 : Addr) : entryFrame m #[(.ref x0)] 1 = mkF m 0 #[.val (.ref x0)] [] := by first | (simp [entryFrame, mkF, argsToLocals, Value.category]; done) | rfl
abbrev R1 : Room := { frames := 1, cells := 2, slots := 2, locals := 12 }
def Q1 (Z : State) (ax : Addr) (h0 : Heap) (n0 : Nat) (v : Option Value) (h : Heap) (L : List Loc) : Prop := v = none ∧ Fr n0 L ∧ n0 ≤ h.size ∧ PSet Z h n0 ax 1 (fun _ => False)
set_option maxRecDepth 65536 in
set_option maxHeartbeats 40000000 in
theorem rm1 (l : Launch) (Z : State) (a0 : Array Value) (hw : ∀ d ∈ tables_1, d.before a0 Z = true) (ws : List Jvm.Cond) (ax : Addr) (h0 : Heap) (n0 : Nat) (Z0 : n0 ≤ h0.size) (g_ax : n0 ≤ ax) (hE : Exa Z h0 ax "relayout/PositionSet") (hFw : Fld Z h0 ax "relayout/PositionSet" "words" "[J" .null) (hFo : Fld Z h0 ax "relayout/PositionSet" "occupied" "[J" .null) :
    MetFree l (⟨"relayout/PositionSet", "<init>", "()V"⟩ : MethodName) (head1 (Jvm.Cond.code (⟨"relayout/PositionSet", "<init>", "()V"⟩ : MethodName) prog_24_method_1_code 1 none :: ws) R1) (fun a U => a = #[(.ref ax)] ∧ Z.Warmed39 U.vm ∧ U.heap = h0) (fun _ _ _ _ _ => True) (fun _ U o U' => ∃ v L, o = .returned v ∧ Q1 Z ax h0 n0 v U'.heap L ∧ FrameEnd U o U' L R1.cells R1.slots) := by
  refine MetFree.of_bodySF (plainFor_of_name pn_3) hisR ?_
  intro p e s m args below meth c s₁ Bd hml0 hP hK
  obtain ⟨rfl, hZ, hh⟩ := hP
  have hx := Bd.exec
  have hby := Bd.bytes
  have hml : c.maxLocals = 1 := hml0
  have hown : s.vm.findClass "relayout/PositionSet" = some m.cls := findClass_of_methodNamed Bd.named
  have hnm := (name_of_methodNamed Bd.named Bd.method).1
  have X0 : Stand p l e R1 s m #[(.ref ax)] below meth c s₁ [] 0 0 := Stand.of_body Bd
  have e0 : s₁.heap = h0 := by rw [← hh, Bd.state]; rfl
  have N0 := Fr.nil n0
  have pre0 : ∀ t, Steps p.tables e below (s₁.setTop (mkF m 0 #[.val (.ref ax)] [])) t → Steps p.tables e below (s₁.setTop (entryFrame m #[(.ref ax)] 1)) t := fun t k => castTop (ef_1 m ax) k
  have pre1 : ∀ t, Steps p.tables e below (s₁.setTop (mkF m 1 #[.val (.ref ax)] [(.ref ax)])) t → Steps p.tables e below (s₁.setTop (entryFrame m #[(.ref ax)] 1)) t := fun t k => pre0 t (by
    refine XS.aloadN X0.here hx rfl (hb hby d1_0) rfl rfl ?_
    show Steps p.tables e below (s₁.setTop (mkF m 1 #[.val (.ref ax)] [(.ref ax)])) _
    exact k)
  obtain ⟨T2, X2, e2, st2⟩ := initO X0 hx hZ hown (hw _ (List.mem_of_getElem? (i := 6) rfl)) (hw _ (List.mem_of_getElem? (i := 7) rfl)) (hw _ (List.mem_of_getElem? (i := 8) rfl)) e0 (g := (mkF m 1 #[.val (.ref ax)] [(.ref ax)])) rfl (by rw [hml]; rfl) rfl (hb hby d1_1) (by decide) (W := 0) (by show 2 * 0 + _ ≤ _; exact Nat.le_of_eq rfl) (by decide)
  have pre2 : ∀ t, Steps p.tables e below (T2.setTop (mkF m 4 #[.val (.ref ax)] [])) t → Steps p.tables e below (s₁.setTop (entryFrame m #[(.ref ax)] 1)) t := fun t k => pre1 t (st2 t k)
  have pre3 : ∀ t, Steps p.tables e below (T2.setTop (mkF m 6 #[.val (.ref ax)] [(.int (1 : Int32)), (.ref ax)])) t → Steps p.tables e below (s₁.setTop (entryFrame m #[(.ref ax)] 1)) t := fun t k => pre2 t (by
    refine XS.aloadN X2.here hx rfl (hb hby d1_4) rfl rfl ?_
    show Steps p.tables e below (T2.setTop (mkF m 5 #[.val (.ref ax)] [(.ref ax)])) _
    refine XS.iconst X2.here hx rfl (hb hby d1_5) ?_
    show Steps p.tables e below (T2.setTop (mkF m 6 #[.val (.ref ax)] [(.int (1 : Int32)), (.ref ax)])) _
    exact k)
  obtain ⟨T4, h4, k4, X4, e4, E4, A4, Y4, st4⟩ := newPE X2 hx hZ (hw _ (List.mem_of_getElem? (i := 9) rfl)) e2 (g := (mkF m 6 #[.val (.ref ax)] [(.int (1 : Int32)), (.ref ax)])) rfl (hb hby d1_6) rfl (by decide) (cap := 1) (by decide) (by decide) (by decide) (by decide) (ad := "[J") rfl
  obtain ⟨b4, q4⟩ : ∃ z, z = h0.size := ⟨_, rfl⟩
  rw [← q4] at A4 Y4 st4
  have ne_ax_b4 : ax ≠ b4 := Nat.ne_of_lt (Nat.lt_of_lt_of_le hE.lt (Nat.le_of_eq q4.symm))
  have g_b4 : n0 ≤ b4 := Nat.le_trans Z0 (Nat.le_of_eq q4.symm)
  have Ex5 : Exa Z h4 ax "relayout/PositionSet" := hE.ext E4
  have F6 : Fld Z h4 ax "relayout/PositionSet" "words" "[J" .null := hFw.ext E4
  have F7 : Fld Z h4 ax "relayout/PositionSet" "occupied" "[J" .null := hFo.ext E4
  have Z4 : n0 ≤ h4.size := Nat.le_trans Z0 E4.1
  have B4 : ArJ Z h4 b4  1 (fun _ => (0 : Int64)) := ArJ.new A4 Y4 (by decide)
  have pre4 : ∀ t, Steps p.tables e below (T4.setTop (mkF m 8 #[.val (.ref ax)] [(.ref b4), (.ref ax)])) t → Steps p.tables e below (s₁.setTop (entryFrame m #[(.ref ax)] 1)) t := fun t k => pre3 t (st4 t k)
  obtain ⟨T8, h8, X8, e8, W8, st8⟩ := putF X4 hx hZ hown (host := "") (Or.inl (hw _ (List.mem_of_getElem? (i := 10) rfl))) Via.refl e4 F6 Ex5 (Or.inl (hw _ (List.mem_of_getElem? (i := 11) rfl))) (hw _ (List.mem_of_getElem? (i := 1) rfl)) (ty := (.array .long)) (by decide) rfl rfl (g := (mkF m 8 #[.val (.ref ax)] [(.ref b4), (.ref ax)])) rfl rfl (hb hby d1_8)
  have Ex9 : Exa Z h8 ax "relayout/PositionSet" := Ex5.wr W8
  have F10 : Fld Z h8 ax "relayout/PositionSet" "occupied" "[J" .null := F7.other W8 (Or.inr (slot_ne (Or.inl (hw _ (List.mem_of_getElem? (i := 13) rfl))) (Or.inl (hw _ (List.mem_of_getElem? (i := 11) rfl))) (by decide) (t := (.array .long)) (t' := (.array .long)) (by decide) (by decide)))
  have Ar11 : ArJ Z h8 b4  1 (fun _ => (0 : Int64)) := B4.other W8 (Ne.symm ne_ax_b4)
  have N8 := Fr.snoc X8 N0 g_ax
  have Z8 : n0 ≤ h8.size := Nat.le_trans Z4 (Keep.of_wr W8).1
  have F12 : Fld Z h8 ax "relayout/PositionSet" "words" "[J" (.ref b4) := F6.same W8
  have pre8 : ∀ t, Steps p.tables e below (T8.setTop (mkF m 11 #[.val (.ref ax)] [])) t → Steps p.tables e below (s₁.setTop (entryFrame m #[(.ref ax)] 1)) t := fun t k => pre4 t (st8 t k)
  have pre13 : ∀ t, Steps p.tables e below (T8.setTop (mkF m 13 #[.val (.ref ax)] [(.int (1 : Int32)), (.ref ax)])) t → Steps p.tables e below (s₁.setTop (entryFrame m #[(.ref ax)] 1)) t := fun t k => pre8 t (by
    refine XS.aloadN X8.here hx rfl (hb hby d1_11) rfl rfl ?_
    show Steps p.tables e below (T8.setTop (mkF m 12 #[.val (.ref ax)] [(.ref ax)])) _
    refine XS.iconst X8.here hx rfl (hb hby d1_12) ?_
    show Steps p.tables e below (T8.setTop (mkF m 13 #[.val (.ref ax)] [(.int (1 : Int32)), (.ref ax)])) _
    exact k)
  obtain ⟨T14, h14, k14, X14, e14, E14, A14, Y14, st14⟩ := newPE X8 hx hZ (hw _ (List.mem_of_getElem? (i := 9) rfl)) e8 (g := (mkF m 13 #[.val (.ref ax)] [(.int (1 : Int32)), (.ref ax)])) rfl (hb hby d1_13) rfl (by decide) (cap := 1) (by decide) (by decide) (by decide) (by decide) (ad := "[J") rfl
  obtain ⟨b14, q14⟩ : ∃ z, z = h8.size := ⟨_, rfl⟩
  rw [← q14] at A14 Y14 st14
  have ne_ax_b14 : ax ≠ b14 := Nat.ne_of_lt (Nat.lt_of_lt_of_le Ex9.lt (Nat.le_of_eq q14.symm))
  have ne_b4_b14 : b4 ≠ b14 := Nat.ne_of_lt (Nat.lt_of_lt_of_le Ar11.lt (Nat.le_of_eq q14.symm))
  have g_b14 : n0 ≤ b14 := Nat.le_trans Z8 (Nat.le_of_eq q14.symm)
  have Ex15 : Exa Z h14 ax "relayout/PositionSet" := Ex9.ext E14
  have F16 : Fld Z h14 ax "relayout/PositionSet" "words" "[J" (.ref b4) := F12.ext E14
  have F17 : Fld Z h14 ax "relayout/PositionSet" "occupied" "[J" .null := F10.ext E14
  have Ar18 : ArJ Z h14 b4  1 (fun _ => (0 : Int64)) := Ar11.ext E14
  have Z14 : n0 ≤ h14.size := Nat.le_trans Z8 E14.1
  have B14 : ArJ Z h14 b14  1 (fun _ => (0 : Int64)) := ArJ.new A14 Y14 (by decide)
  have pre14 : ∀ t, Steps p.tables e below (T14.setTop (mkF m 15 #[.val (.ref ax)] [(.ref b14), (.ref ax)])) t → Steps p.tables e below (s₁.setTop (entryFrame m #[(.ref ax)] 1)) t := fun t k => pre13 t (st14 t k)
  obtain ⟨T19, h19, X19, e19, W19, st19⟩ := putF X14 hx hZ hown (host := "") (Or.inl (hw _ (List.mem_of_getElem? (i := 12) rfl))) Via.refl e14 F17 Ex15 (Or.inl (hw _ (List.mem_of_getElem? (i := 13) rfl))) (hw _ (List.mem_of_getElem? (i := 1) rfl)) (ty := (.array .long)) (by decide) rfl rfl (g := (mkF m 15 #[.val (.ref ax)] [(.ref b14), (.ref ax)])) rfl rfl (hb hby d1_15)
  have Ex20 : Exa Z h19 ax "relayout/PositionSet" := Ex15.wr W19
  have F21 : Fld Z h19 ax "relayout/PositionSet" "words" "[J" (.ref b4) := F16.other W19 (Or.inr (slot_ne (Or.inl (hw _ (List.mem_of_getElem? (i := 11) rfl))) (Or.inl (hw _ (List.mem_of_getElem? (i := 13) rfl))) (by decide) (t := (.array .long)) (t' := (.array .long)) (by decide) (by decide)))
  have Ar22 : ArJ Z h19 b4  1 (fun _ => (0 : Int64)) := Ar18.other W19 (Ne.symm ne_ax_b4)
  have Ar23 : ArJ Z h19 b14  1 (fun _ => (0 : Int64)) := B14.other W19 (Ne.symm ne_ax_b14)
  have N19 := Fr.snoc X19 N8 g_ax
  have Z19 : n0 ≤ h19.size := Nat.le_trans Z14 (Keep.of_wr W19).1
  have F24 : Fld Z h19 ax "relayout/PositionSet" "occupied" "[J" (.ref b14) := F17.same W19
  have pre19 : ∀ t, Steps p.tables e below (T19.setTop (mkF m 18 #[.val (.ref ax)] [])) t → Steps p.tables e below (s₁.setTop (entryFrame m #[(.ref ax)] 1)) t := fun t k => pre14 t (st19 t k)
  obtain ⟨fs, hr, hrun, hended, hW, hsame⟩ := X19.leave (v := none) (fun _ => rfl) Bd.notSynchronized
  refine ⟨_, _, pre19 _ ?_, hrun, hended, _, _, rfl, ?_, ⟨_, rfl⟩, hW, hsame.mono (by decide) (by decide)⟩
  · show Steps p.tables e below (T19.setTop (mkF m 18 #[.val (.ref ax)] [])) _
    exact X19.returnOut hx Bd.returns (hb hby d1_18) hr
  · show Q1 Z ax h0 n0 _ T19.heap _
    rw [e19]
    exact ⟨rfl, N19, Z19, ⟨b4, b14, _, _, _, _, Ex20, F21, F24, Ar22, Ar23, ne_b4_b14, g_b4, g_b14, own_G0⟩⟩
theorem d4_0 : decode prog_24_method_3_code 0 = .ok (.iload_n 1, 1) := by decide +kernel
theorem d4_1 : decode prog_24_method_3_code 1 = .ok (.bipush 6, 2) := by decide +kernel
theorem d4_3 : decode prog_24_method_3_code 3 = .ok (.iushr, 1) := by decide +kernel
theorem d4_4 : decode prog_24_method_3_code 4 = .ok (.istore_n 2, 1) := by decide +kernel
theorem d4_5 : decode prog_24_method_3_code 5 = .ok (.iload_n 2, 1) := by decide +kernel
theorem d4_6 : decode prog_24_method_3_code 6 = .ok (.aload_n 0, 1) := by decide +kernel
theorem d4_7 : decode prog_24_method_3_code 7 = .ok (.getfield 7, 3) := by decide +kernel
theorem d4_10 : decode prog_24_method_3_code 10 = .ok (.arraylength, 1) := by decide +kernel
theorem d4_11 : decode prog_24_method_3_code 11 = .ok (.if_icmp .ge 49, 3) := by decide +kernel
theorem d4_14 : decode prog_24_method_3_code 14 = .ok (.aload_n 0, 1) := by decide +kernel
theorem d4_15 : decode prog_24_method_3_code 15 = .ok (.getfield 7, 3) := by decide +kernel
theorem d4_18 : decode prog_24_method_3_code 18 = .ok (.iload_n 2, 1) := by decide +kernel
theorem d4_19 : decode prog_24_method_3_code 19 = .ok (.dup2, 1) := by decide +kernel
theorem d4_20 : decode prog_24_method_3_code 20 = .ok (.laload, 1) := by decide +kernel
theorem d4_21 : decode prog_24_method_3_code 21 = .ok (.lconst 1, 1) := by decide +kernel
theorem d4_22 : decode prog_24_method_3_code 22 = .ok (.iload_n 1, 1) := by decide +kernel
theorem d4_23 : decode prog_24_method_3_code 23 = .ok (.lshl, 1) := by decide +kernel
theorem d4_24 : decode prog_24_method_3_code 24 = .ok (.ldc2_w 28, 3) := by decide +kernel
theorem d4_27 : decode prog_24_method_3_code 27 = .ok (.lxor, 1) := by decide +kernel
theorem d4_28 : decode prog_24_method_3_code 28 = .ok (.land, 1) := by decide +kernel
theorem d4_29 : decode prog_24_method_3_code 29 = .ok (.lastore, 1) := by decide +kernel
theorem d4_30 : decode prog_24_method_3_code 30 = .ok (.aload_n 0, 1) := by decide +kernel
theorem d4_31 : decode prog_24_method_3_code 31 = .ok (.getfield 7, 3) := by decide +kernel
theorem d4_34 : decode prog_24_method_3_code 34 = .ok (.iload_n 2, 1) := by decide +kernel
theorem d4_35 : decode prog_24_method_3_code 35 = .ok (.laload, 1) := by decide +kernel
theorem d4_36 : decode prog_24_method_3_code 36 = .ok (.lconst 0, 1) := by decide +kernel
theorem d4_37 : decode prog_24_method_3_code 37 = .ok (.lcmp, 1) := by decide +kernel
theorem d4_38 : decode prog_24_method_3_code 38 = .ok (.ifCond .ne 22, 3) := by decide +kernel
theorem d4_41 : decode prog_24_method_3_code 41 = .ok (.aload_n 0, 1) := by decide +kernel
theorem d4_42 : decode prog_24_method_3_code 42 = .ok (.getfield 13, 3) := by decide +kernel
theorem d4_45 : decode prog_24_method_3_code 45 = .ok (.iload_n 2, 1) := by decide +kernel
theorem d4_46 : decode prog_24_method_3_code 46 = .ok (.bipush 6, 2) := by decide +kernel
theorem d4_48 : decode prog_24_method_3_code 48 = .ok (.iushr, 1) := by decide +kernel
theorem d4_49 : decode prog_24_method_3_code 49 = .ok (.dup2, 1) := by decide +kernel
theorem d4_50 : decode prog_24_method_3_code 50 = .ok (.laload, 1) := by decide +kernel
theorem d4_51 : decode prog_24_method_3_code 51 = .ok (.lconst 1, 1) := by decide +kernel
theorem d4_52 : decode prog_24_method_3_code 52 = .ok (.iload_n 2, 1) := by decide +kernel
theorem d4_53 : decode prog_24_method_3_code 53 = .ok (.lshl, 1) := by decide +kernel
theorem d4_54 : decode prog_24_method_3_code 54 = .ok (.ldc2_w 28, 3) := by decide +kernel
theorem d4_57 : decode prog_24_method_3_code 57 = .ok (.lxor, 1) := by decide +kernel
theorem d4_58 : decode prog_24_method_3_code 58 = .ok (.land, 1) := by decide +kernel
theorem d4_59 : decode prog_24_method_3_code 59 = .ok (.lastore, 1) := by decide +kernel
theorem d4_60 : decode prog_24_method_3_code 60 = .ok (.return_, 1) := by decide +kernel
theorem ef_4 (m : MethodId) (x0 : Addr) (x1 : Int32) : entryFrame m #[(.ref x0), (.int x1)] 3 = mkF m 0 #[.val (.ref x0), .val (.int x1), .unset] [] := by first | (simp [entryFrame, mkF, argsToLocals, Value.category]; done) | rfl
abbrev R4 : Room := { frames := 0, cells := 0, slots := 0, locals := 0 }
def Q4 (Z : State) (ax : Addr) (pr : Int32) (B : Nat) (S : Nat → Prop) (h0 : Heap) (n0 : Nat) (v : Option Value) (h : Heap) (L : List Loc) : Prop := v = none ∧ Fr n0 L ∧ n0 ≤ h.size ∧ PSet Z h n0 ax B (own_del S pr.toBitVec.toNat)
set_option maxRecDepth 65536 in
set_option maxHeartbeats 40000000 in
theorem rm4 (l : Launch) (Z : State) (a0 : Array Value) (hw : ∀ d ∈ tables_1, d.before a0 Z = true) (ws : List Jvm.Cond) (ax : Addr) (pr : Int32) (B : Nat) (S : Nat → Prop) (h0 : Heap) (n0 : Nat) (Z0 : n0 ≤ h0.size) (g_ax : n0 ≤ ax) (hPS : PSet Z h0 n0 ax B S) :
    MetFree l (⟨"relayout/PositionSet", "remove", "(I)V"⟩ : MethodName) (head1 (Jvm.Cond.code (⟨"relayout/PositionSet", "remove", "(I)V"⟩ : MethodName) prog_24_method_3_code 3 none :: ws) R4) (fun a U => a = #[(.ref ax), (.int pr)] ∧ Z.Warmed39 U.vm ∧ U.heap = h0) (fun _ _ _ _ _ => True) (fun _ U o U' => ∃ v L, o = .returned v ∧ Q4 Z ax pr B S h0 n0 v U'.heap L ∧ FrameEnd U o U' L R4.cells R4.slots) := by
  refine MetFree.of_bodySF (plainFor_of_name pn_3) hisR ?_
  intro p e s m args below meth c s₁ Bd hml0 hP hK
  obtain ⟨rfl, hZ, hh⟩ := hP
  have hx := Bd.exec
  have hby := Bd.bytes
  have hml : c.maxLocals = 3 := hml0
  have hown : s.vm.findClass "relayout/PositionSet" = some m.cls := findClass_of_methodNamed Bd.named
  have hnm := (name_of_methodNamed Bd.named Bd.method).1
  have X0 : Stand p l e R4 s m #[(.ref ax), (.int pr)] below meth c s₁ [] 0 0 := Stand.of_body Bd
  have e0 : s₁.heap = h0 := by rw [← hh, Bd.state]; rfl
  have N0 := Fr.nil n0
  have pre0 : ∀ t, Steps p.tables e below (s₁.setTop (mkF m 0 #[.val (.ref ax), .val (.int pr), .unset] [])) t → Steps p.tables e below (s₁.setTop (entryFrame m #[(.ref ax), (.int pr)] 3)) t := fun t k => castTop (ef_4 m ax pr) k
  obtain ⟨aw, ac, nn, mm, fw, fo, hE, hFw, hFo, hAw, hAo, hwo, g_aw, g_ac, hG⟩ := hPS
  have ne1 : ax ≠ aw := ne_exa hE hAw.1 (by decide)
  have ne2 : ax ≠ ac := ne_exa hE hAo.1 (by decide)
  have pre1 : ∀ t, Steps p.tables e below (s₁.setTop (mkF m 7 #[.val (.ref ax), .val (.int pr), .val (.int (Int32.ofNat (pr.toBitVec.toNat / 64)))] [(.ref ax), (.int (Int32.ofNat (pr.toBitVec.toNat / 64)))])) t → Steps p.tables e below (s₁.setTop (entryFrame m #[(.ref ax), (.int pr)] 3)) t := fun t k => pre0 t (by
    refine XS.iloadN X0.here hx rfl (hb hby d4_0) rfl ?_
    show Steps p.tables e below (s₁.setTop (mkF m 1 #[.val (.ref ax), .val (.int pr), .unset] [(.int pr)])) _
    refine XS.bipush X0.here hx rfl (hb hby d4_1) ?_
    show Steps p.tables e below (s₁.setTop (mkF m 3 #[.val (.ref ax), .val (.int pr), .unset] [(.int (6 : Int32)), (.int pr)])) _
    refine XS.iushr X0.here hx rfl (hb hby d4_3) rfl ?_
    show Steps p.tables e below (s₁.setTop (mkF m 4 #[.val (.ref ax), .val (.int pr), .unset] [(.int (own_ushr pr (6 : Int32)))])) _
    show Steps p.tables e below (s₁.setTop (mkF m 4 #[.val (.ref ax), .val (.int pr), .unset] [(.int (own_ushr pr (6 : Int32)))])) _
    rw [own_us6]
    show Steps p.tables e below (s₁.setTop (mkF m 4 #[.val (.ref ax), .val (.int pr), .unset] [(.int (Int32.ofNat (pr.toBitVec.toNat / 64)))])) _
    refine XS.istoreN X0.here hx rfl (hb hby d4_4) rfl (l' := #[.val (.ref ax), .val (.int pr), .val (.int (Int32.ofNat (pr.toBitVec.toNat / 64)))]) rfl ?_
    show Steps p.tables e below (s₁.setTop (mkF m 5 #[.val (.ref ax), .val (.int pr), .val (.int (Int32.ofNat (pr.toBitVec.toNat / 64)))] [])) _
    refine XS.iloadN X0.here hx rfl (hb hby d4_5) rfl ?_
    show Steps p.tables e below (s₁.setTop (mkF m 6 #[.val (.ref ax), .val (.int pr), .val (.int (Int32.ofNat (pr.toBitVec.toNat / 64)))] [(.int (Int32.ofNat (pr.toBitVec.toNat / 64)))])) _
    refine XS.aloadN X0.here hx rfl (hb hby d4_6) rfl rfl ?_
    show Steps p.tables e below (s₁.setTop (mkF m 7 #[.val (.ref ax), .val (.int pr), .val (.int (Int32.ofNat (pr.toBitVec.toNat / 64)))] [(.ref ax), (.int (Int32.ofNat (pr.toBitVec.toNat / 64)))])) _
    exact k)
  obtain ⟨T2, X2, e2, st2⟩ := getF X0 hx hZ hown (host := "") (Or.inl (hw _ (List.mem_of_getElem? (i := 10) rfl))) Via.refl e0 hFw (g := (mkF m 7 #[.val (.ref ax), .val (.int pr), .val (.int (Int32.ofNat (pr.toBitVec.toNat / 64)))] [(.ref ax), (.int (Int32.ofNat (pr.toBitVec.toNat / 64)))])) rfl rfl (hb hby d4_7)
  have pre2 : ∀ t, Steps p.tables e below (T2.setTop (mkF m 10 #[.val (.ref ax), .val (.int pr), .val (.int (Int32.ofNat (pr.toBitVec.toNat / 64)))] [(.ref aw), (.int (Int32.ofNat (pr.toBitVec.toNat / 64)))])) t → Steps p.tables e below (s₁.setTop (entryFrame m #[(.ref ax), (.int pr)] 3)) t := fun t k => pre1 t (st2 t k)
  have pre3 : ∀ t, Steps p.tables e below (T2.setTop (mkF m 11 #[.val (.ref ax), .val (.int pr), .val (.int (Int32.ofNat (pr.toBitVec.toNat / 64)))] [(.int (Int32.ofNat nn)), (.int (Int32.ofNat (pr.toBitVec.toNat / 64)))])) t → Steps p.tables e below (s₁.setTop (entryFrame m #[(.ref ax), (.int pr)] 3)) t := fun t k => pre2 t (by
    refine own_lenJ X2 hx hZ e2 hAw rfl (g := (mkF m 10 #[.val (.ref ax), .val (.int pr), .val (.int (Int32.ofNat (pr.toBitVec.toNat / 64)))] [(.ref aw), (.int (Int32.ofNat (pr.toBitVec.toNat / 64)))])) rfl rfl (hb hby d4_10) _ ?_
    show Steps p.tables e below (T2.setTop (mkF m 11 #[.val (.ref ax), .val (.int pr), .val (.int (Int32.ofNat (pr.toBitVec.toNat / 64)))] [(.int (Int32.ofNat nn)), (.int (Int32.ofNat (pr.toBitVec.toNat / 64)))])) _
    exact k)
  by_cases hc11_4 : (Int32.ofNat (pr.toBitVec.toNat / 64)) < (Int32.ofNat nn)
  · have pre5 : ∀ t, Steps p.tables e below (T2.setTop (mkF m 15 #[.val (.ref ax), .val (.int pr), .val (.int (Int32.ofNat (pr.toBitVec.toNat / 64)))] [(.ref ax)])) t → Steps p.tables e below (s₁.setTop (entryFrame m #[(.ref ax), (.int pr)] 3)) t := fun t k => pre3 t (by
      refine XS.icmpNo X2.here hx rfl (hb hby d4_11) rfl (tlt hc11_4).2.1 ?_
      show Steps p.tables e below (T2.setTop (mkF m 14 #[.val (.ref ax), .val (.int pr), .val (.int (Int32.ofNat (pr.toBitVec.toNat / 64)))] [])) _
      refine XS.aloadN X2.here hx rfl (hb hby d4_14) rfl rfl ?_
      show Steps p.tables e below (T2.setTop (mkF m 15 #[.val (.ref ax), .val (.int pr), .val (.int (Int32.ofNat (pr.toBitVec.toNat / 64)))] [(.ref ax)])) _
      exact k)
    obtain ⟨T6, X6, e6, st6⟩ := getF X2 hx hZ hown (host := "") (Or.inl (hw _ (List.mem_of_getElem? (i := 10) rfl))) Via.refl e2 hFw (g := (mkF m 15 #[.val (.ref ax), .val (.int pr), .val (.int (Int32.ofNat (pr.toBitVec.toNat / 64)))] [(.ref ax)])) rfl rfl (hb hby d4_15)
    have pre6 : ∀ t, Steps p.tables e below (T6.setTop (mkF m 18 #[.val (.ref ax), .val (.int pr), .val (.int (Int32.ofNat (pr.toBitVec.toNat / 64)))] [(.ref aw)])) t → Steps p.tables e below (s₁.setTop (entryFrame m #[(.ref ax), (.int pr)] 3)) t := fun t k => pre5 t (st6 t k)
    have pre7 : ∀ t, Steps p.tables e below (T6.setTop (mkF m 29 #[.val (.ref ax), .val (.int pr), .val (.int (Int32.ofNat (pr.toBitVec.toNat / 64)))] [(.long ((fw (pr.toBitVec.toNat / 64)) &&& ((own_shlL (1 : Int64) pr) ^^^ (-1 : Int64)))), (.int (Int32.ofNat (pr.toBitVec.toNat / 64))), (.ref aw)])) t → Steps p.tables e below (s₁.setTop (entryFrame m #[(.ref ax), (.int pr)] 3)) t := fun t k => pre6 t (by
      refine XS.iloadN X6.here hx rfl (hb hby d4_18) rfl ?_
      show Steps p.tables e below (T6.setTop (mkF m 19 #[.val (.ref ax), .val (.int pr), .val (.int (Int32.ofNat (pr.toBitVec.toNat / 64)))] [(.int (Int32.ofNat (pr.toBitVec.toNat / 64))), (.ref aw)])) _
      refine Jvm.Free.XT.dup2 X6.here hx rfl (hb hby d4_19) rfl rfl rfl ?_
      show Steps p.tables e below (T6.setTop (mkF m 20 #[.val (.ref ax), .val (.int pr), .val (.int (Int32.ofNat (pr.toBitVec.toNat / 64)))] [(.int (Int32.ofNat (pr.toBitVec.toNat / 64))), (.ref aw), (.int (Int32.ofNat (pr.toBitVec.toNat / 64))), (.ref aw)])) _
      refine own_ldJ X6 hx hZ e6 hAw (j := (Int32.ofNat (pr.toBitVec.toNat / 64))) (i := (pr.toBitVec.toNat / 64)) (own_at32 (own_rl pr)) (by exact own_lt32 hc11_4 (own_rl pr) (own_Gn hG)) (g := (mkF m 20 #[.val (.ref ax), .val (.int pr), .val (.int (Int32.ofNat (pr.toBitVec.toNat / 64)))] [(.int (Int32.ofNat (pr.toBitVec.toNat / 64))), (.ref aw), (.int (Int32.ofNat (pr.toBitVec.toNat / 64))), (.ref aw)])) rfl rfl (hb hby d4_20) _ ?_
      show Steps p.tables e below (T6.setTop (mkF m 21 #[.val (.ref ax), .val (.int pr), .val (.int (Int32.ofNat (pr.toBitVec.toNat / 64)))] [(.long (fw (pr.toBitVec.toNat / 64))), (.int (Int32.ofNat (pr.toBitVec.toNat / 64))), (.ref aw)])) _
      refine XS.lconst X6.here hx rfl (hb hby d4_21) ?_
      show Steps p.tables e below (T6.setTop (mkF m 22 #[.val (.ref ax), .val (.int pr), .val (.int (Int32.ofNat (pr.toBitVec.toNat / 64)))] [(.long (1 : Int64)), (.long (fw (pr.toBitVec.toNat / 64))), (.int (Int32.ofNat (pr.toBitVec.toNat / 64))), (.ref aw)])) _
      refine XS.iloadN X6.here hx rfl (hb hby d4_22) rfl ?_
      show Steps p.tables e below (T6.setTop (mkF m 23 #[.val (.ref ax), .val (.int pr), .val (.int (Int32.ofNat (pr.toBitVec.toNat / 64)))] [(.int pr), (.long (1 : Int64)), (.long (fw (pr.toBitVec.toNat / 64))), (.int (Int32.ofNat (pr.toBitVec.toNat / 64))), (.ref aw)])) _
      refine XS.lshl X6.here hx rfl (hb hby d4_23) rfl ?_
      show Steps p.tables e below (T6.setTop (mkF m 24 #[.val (.ref ax), .val (.int pr), .val (.int (Int32.ofNat (pr.toBitVec.toNat / 64)))] [(.long (own_shlL (1 : Int64) pr)), (.long (fw (pr.toBitVec.toNat / 64))), (.int (Int32.ofNat (pr.toBitVec.toNat / 64))), (.ref aw)])) _
      refine X6.ldc2Long hx hown (mvT hZ (hw _ (List.mem_of_getElem? (i := 24) rfl))) (g := (mkF m 24 #[.val (.ref ax), .val (.int pr), .val (.int (Int32.ofNat (pr.toBitVec.toNat / 64)))] [(.long (own_shlL (1 : Int64) pr)), (.long (fw (pr.toBitVec.toNat / 64))), (.int (Int32.ofNat (pr.toBitVec.toNat / 64))), (.ref aw)])) rfl (hb hby d4_24) _ ?_
      show Steps p.tables e below (T6.setTop (mkF m 27 #[.val (.ref ax), .val (.int pr), .val (.int (Int32.ofNat (pr.toBitVec.toNat / 64)))] [(.long (-1 : Int64)), (.long (own_shlL (1 : Int64) pr)), (.long (fw (pr.toBitVec.toNat / 64))), (.int (Int32.ofNat (pr.toBitVec.toNat / 64))), (.ref aw)])) _
      refine XS.lxor X6.here hx rfl (hb hby d4_27) rfl ?_
      show Steps p.tables e below (T6.setTop (mkF m 28 #[.val (.ref ax), .val (.int pr), .val (.int (Int32.ofNat (pr.toBitVec.toNat / 64)))] [(.long ((own_shlL (1 : Int64) pr) ^^^ (-1 : Int64))), (.long (fw (pr.toBitVec.toNat / 64))), (.int (Int32.ofNat (pr.toBitVec.toNat / 64))), (.ref aw)])) _
      refine XS.land X6.here hx rfl (hb hby d4_28) rfl ?_
      show Steps p.tables e below (T6.setTop (mkF m 29 #[.val (.ref ax), .val (.int pr), .val (.int (Int32.ofNat (pr.toBitVec.toNat / 64)))] [(.long ((fw (pr.toBitVec.toNat / 64)) &&& ((own_shlL (1 : Int64) pr) ^^^ (-1 : Int64)))), (.int (Int32.ofNat (pr.toBitVec.toNat / 64))), (.ref aw)])) _
      exact k)
    obtain ⟨T8, h8, X8, e8, W8, B8, st8⟩ := own_stJ X6 hx hZ e6 hAw (j := (Int32.ofNat (pr.toBitVec.toNat / 64))) (i := (pr.toBitVec.toNat / 64)) (own_at32 (own_rl pr)) (by exact own_lt32 hc11_4 (own_rl pr) (own_Gn hG)) (g := (mkF m 29 #[.val (.ref ax), .val (.int pr), .val (.int (Int32.ofNat (pr.toBitVec.toNat / 64)))] [(.long ((fw (pr.toBitVec.toNat / 64)) &&& ((own_shlL (1 : Int64) pr) ^^^ (-1 : Int64)))), (.int (Int32.ofNat (pr.toBitVec.toNat / 64))), (.ref aw)])) rfl rfl (hb hby d4_29)
    have Ex9 : Exa Z h8 ax "relayout/PositionSet" := hE.wr W8
    have F10 : Fld Z h8 ax "relayout/PositionSet" "words" "[J" (.ref aw) := hFw.other W8 (Or.inl ne1)
    have F11 : Fld Z h8 ax "relayout/PositionSet" "occupied" "[J" (.ref ac) := hFo.other W8 (Or.inl ne1)
    have Ar12 : ArJ Z h8 ac  mm fo := hAo.other W8 (Ne.symm hwo)
    have N8 := Fr.snoc X8 N0 g_aw
    have Z8 : n0 ≤ h8.size := Nat.le_trans Z0 (Keep.of_wr W8).1
    have pre8 : ∀ t, Steps p.tables e below (T8.setTop (mkF m 30 #[.val (.ref ax), .val (.int pr), .val (.int (Int32.ofNat (pr.toBitVec.toNat / 64)))] [])) t → Steps p.tables e below (s₁.setTop (entryFrame m #[(.ref ax), (.int pr)] 3)) t := fun t k => pre7 t (st8 t k)
    have pre13 : ∀ t, Steps p.tables e below (T8.setTop (mkF m 31 #[.val (.ref ax), .val (.int pr), .val (.int (Int32.ofNat (pr.toBitVec.toNat / 64)))] [(.ref ax)])) t → Steps p.tables e below (s₁.setTop (entryFrame m #[(.ref ax), (.int pr)] 3)) t := fun t k => pre8 t (by
      refine XS.aloadN X8.here hx rfl (hb hby d4_30) rfl rfl ?_
      show Steps p.tables e below (T8.setTop (mkF m 31 #[.val (.ref ax), .val (.int pr), .val (.int (Int32.ofNat (pr.toBitVec.toNat / 64)))] [(.ref ax)])) _
      exact k)
    obtain ⟨T14, X14, e14, st14⟩ := getF X8 hx hZ hown (host := "") (Or.inl (hw _ (List.mem_of_getElem? (i := 10) rfl))) Via.refl e8 F10 (g := (mkF m 31 #[.val (.ref ax), .val (.int pr), .val (.int (Int32.ofNat (pr.toBitVec.toNat / 64)))] [(.ref ax)])) rfl rfl (hb hby d4_31)
    have pre14 : ∀ t, Steps p.tables e below (T14.setTop (mkF m 34 #[.val (.ref ax), .val (.int pr), .val (.int (Int32.ofNat (pr.toBitVec.toNat / 64)))] [(.ref aw)])) t → Steps p.tables e below (s₁.setTop (entryFrame m #[(.ref ax), (.int pr)] 3)) t := fun t k => pre13 t (st14 t k)
    have pre15 : ∀ t, Steps p.tables e below (T14.setTop (mkF m 38 #[.val (.ref ax), .val (.int pr), .val (.int (Int32.ofNat (pr.toBitVec.toNat / 64)))] [(.int (lcmpW ((own_updJ fw (pr.toBitVec.toNat / 64) ((fw (pr.toBitVec.toNat / 64)) &&& ((own_shlL (1 : Int64) pr) ^^^ (-1 : Int64)))) (pr.toBitVec.toNat / 64)) (0 : Int64)))])) t → Steps p.tables e below (s₁.setTop (entryFrame m #[(.ref ax), (.int pr)] 3)) t := fun t k => pre14 t (by
      refine XS.iloadN X14.here hx rfl (hb hby d4_34) rfl ?_
      show Steps p.tables e below (T14.setTop (mkF m 35 #[.val (.ref ax), .val (.int pr), .val (.int (Int32.ofNat (pr.toBitVec.toNat / 64)))] [(.int (Int32.ofNat (pr.toBitVec.toNat / 64))), (.ref aw)])) _
      refine own_ldJ X14 hx hZ e14 B8 (j := (Int32.ofNat (pr.toBitVec.toNat / 64))) (i := (pr.toBitVec.toNat / 64)) (own_at32 (own_rl pr)) (by exact own_lt32 hc11_4 (own_rl pr) (own_Gn hG)) (g := (mkF m 35 #[.val (.ref ax), .val (.int pr), .val (.int (Int32.ofNat (pr.toBitVec.toNat / 64)))] [(.int (Int32.ofNat (pr.toBitVec.toNat / 64))), (.ref aw)])) rfl rfl (hb hby d4_35) _ ?_
      show Steps p.tables e below (T14.setTop (mkF m 36 #[.val (.ref ax), .val (.int pr), .val (.int (Int32.ofNat (pr.toBitVec.toNat / 64)))] [(.long ((own_updJ fw (pr.toBitVec.toNat / 64) ((fw (pr.toBitVec.toNat / 64)) &&& ((own_shlL (1 : Int64) pr) ^^^ (-1 : Int64)))) (pr.toBitVec.toNat / 64)))])) _
      refine XS.lconst X14.here hx rfl (hb hby d4_36) ?_
      show Steps p.tables e below (T14.setTop (mkF m 37 #[.val (.ref ax), .val (.int pr), .val (.int (Int32.ofNat (pr.toBitVec.toNat / 64)))] [(.long (0 : Int64)), (.long ((own_updJ fw (pr.toBitVec.toNat / 64) ((fw (pr.toBitVec.toNat / 64)) &&& ((own_shlL (1 : Int64) pr) ^^^ (-1 : Int64)))) (pr.toBitVec.toNat / 64)))])) _
      refine XS.lcmp X14.here hx rfl (hb hby d4_37) rfl ?_
      show Steps p.tables e below (T14.setTop (mkF m 38 #[.val (.ref ax), .val (.int pr), .val (.int (Int32.ofNat (pr.toBitVec.toNat / 64)))] [(.int (lcmpW ((own_updJ fw (pr.toBitVec.toNat / 64) ((fw (pr.toBitVec.toNat / 64)) &&& ((own_shlL (1 : Int64) pr) ^^^ (-1 : Int64)))) (pr.toBitVec.toNat / 64)) (0 : Int64)))])) _
      exact k)
    by_cases hc38_16 : ((own_updJ fw (pr.toBitVec.toNat / 64) ((fw (pr.toBitVec.toNat / 64)) &&& ((own_shlL (1 : Int64) pr) ^^^ (-1 : Int64)))) (pr.toBitVec.toNat / 64)) = (0 : Int64)
    · have pre17 : ∀ t, Steps p.tables e below (T14.setTop (mkF m 42 #[.val (.ref ax), .val (.int pr), .val (.int (Int32.ofNat (pr.toBitVec.toNat / 64)))] [(.ref ax)])) t → Steps p.tables e below (s₁.setTop (entryFrame m #[(.ref ax), (.int pr)] 3)) t := fun t k => pre15 t (by
        refine XS.ifNo X14.here hx rfl (hb hby d4_38) rfl ((if0 _ _).trans (teq ((lw_eq ((own_updJ fw (pr.toBitVec.toNat / 64) ((fw (pr.toBitVec.toNat / 64)) &&& ((own_shlL (1 : Int64) pr) ^^^ (-1 : Int64)))) (pr.toBitVec.toNat / 64)) (0 : Int64)).mpr hc38_16)).2) ?_
        show Steps p.tables e below (T14.setTop (mkF m 41 #[.val (.ref ax), .val (.int pr), .val (.int (Int32.ofNat (pr.toBitVec.toNat / 64)))] [])) _
        refine XS.aloadN X14.here hx rfl (hb hby d4_41) rfl rfl ?_
        show Steps p.tables e below (T14.setTop (mkF m 42 #[.val (.ref ax), .val (.int pr), .val (.int (Int32.ofNat (pr.toBitVec.toNat / 64)))] [(.ref ax)])) _
        exact k)
      obtain ⟨T18, X18, e18, st18⟩ := getF X14 hx hZ hown (host := "") (Or.inl (hw _ (List.mem_of_getElem? (i := 12) rfl))) Via.refl e14 F11 (g := (mkF m 42 #[.val (.ref ax), .val (.int pr), .val (.int (Int32.ofNat (pr.toBitVec.toNat / 64)))] [(.ref ax)])) rfl rfl (hb hby d4_42)
      have pre18 : ∀ t, Steps p.tables e below (T18.setTop (mkF m 45 #[.val (.ref ax), .val (.int pr), .val (.int (Int32.ofNat (pr.toBitVec.toNat / 64)))] [(.ref ac)])) t → Steps p.tables e below (s₁.setTop (entryFrame m #[(.ref ax), (.int pr)] 3)) t := fun t k => pre17 t (st18 t k)
      have pre19 : ∀ t, Steps p.tables e below (T18.setTop (mkF m 59 #[.val (.ref ax), .val (.int pr), .val (.int (Int32.ofNat (pr.toBitVec.toNat / 64)))] [(.long ((fo (pr.toBitVec.toNat / 64 / 64)) &&& ((own_shlL (1 : Int64) (Int32.ofNat (pr.toBitVec.toNat / 64))) ^^^ (-1 : Int64)))), (.int (Int32.ofNat (pr.toBitVec.toNat / 64 / 64))), (.ref ac)])) t → Steps p.tables e below (s₁.setTop (entryFrame m #[(.ref ax), (.int pr)] 3)) t := fun t k => pre18 t (by
        refine XS.iloadN X18.here hx rfl (hb hby d4_45) rfl ?_
        show Steps p.tables e below (T18.setTop (mkF m 46 #[.val (.ref ax), .val (.int pr), .val (.int (Int32.ofNat (pr.toBitVec.toNat / 64)))] [(.int (Int32.ofNat (pr.toBitVec.toNat / 64))), (.ref ac)])) _
        refine XS.bipush X18.here hx rfl (hb hby d4_46) ?_
        show Steps p.tables e below (T18.setTop (mkF m 48 #[.val (.ref ax), .val (.int pr), .val (.int (Int32.ofNat (pr.toBitVec.toNat / 64)))] [(.int (6 : Int32)), (.int (Int32.ofNat (pr.toBitVec.toNat / 64))), (.ref ac)])) _
        refine XS.iushr X18.here hx rfl (hb hby d4_48) rfl ?_
        show Steps p.tables e below (T18.setTop (mkF m 49 #[.val (.ref ax), .val (.int pr), .val (.int (Int32.ofNat (pr.toBitVec.toNat / 64)))] [(.int (own_ushr (Int32.ofNat (pr.toBitVec.toNat / 64)) (6 : Int32))), (.ref ac)])) _
        rw [own_on6 _ (own_rl4 pr)]
        show Steps p.tables e below (T18.setTop (mkF m 49 #[.val (.ref ax), .val (.int pr), .val (.int (Int32.ofNat (pr.toBitVec.toNat / 64)))] [(.int (Int32.ofNat (pr.toBitVec.toNat / 64 / 64))), (.ref ac)])) _
        refine Jvm.Free.XT.dup2 X18.here hx rfl (hb hby d4_49) rfl rfl rfl ?_
        show Steps p.tables e below (T18.setTop (mkF m 50 #[.val (.ref ax), .val (.int pr), .val (.int (Int32.ofNat (pr.toBitVec.toNat / 64)))] [(.int (Int32.ofNat (pr.toBitVec.toNat / 64 / 64))), (.ref ac), (.int (Int32.ofNat (pr.toBitVec.toNat / 64 / 64))), (.ref ac)])) _
        refine own_ldJ X18 hx hZ e18 Ar12 (j := (Int32.ofNat (pr.toBitVec.toNat / 64 / 64))) (i := (pr.toBitVec.toNat / 64 / 64)) (own_at32 (own_rl2 pr)) (by exact own_Gm hG (own_lt32 hc11_4 (own_rl pr) (own_Gn hG))) (g := (mkF m 50 #[.val (.ref ax), .val (.int pr), .val (.int (Int32.ofNat (pr.toBitVec.toNat / 64)))] [(.int (Int32.ofNat (pr.toBitVec.toNat / 64 / 64))), (.ref ac), (.int (Int32.ofNat (pr.toBitVec.toNat / 64 / 64))), (.ref ac)])) rfl rfl (hb hby d4_50) _ ?_
        show Steps p.tables e below (T18.setTop (mkF m 51 #[.val (.ref ax), .val (.int pr), .val (.int (Int32.ofNat (pr.toBitVec.toNat / 64)))] [(.long (fo (pr.toBitVec.toNat / 64 / 64))), (.int (Int32.ofNat (pr.toBitVec.toNat / 64 / 64))), (.ref ac)])) _
        refine XS.lconst X18.here hx rfl (hb hby d4_51) ?_
        show Steps p.tables e below (T18.setTop (mkF m 52 #[.val (.ref ax), .val (.int pr), .val (.int (Int32.ofNat (pr.toBitVec.toNat / 64)))] [(.long (1 : Int64)), (.long (fo (pr.toBitVec.toNat / 64 / 64))), (.int (Int32.ofNat (pr.toBitVec.toNat / 64 / 64))), (.ref ac)])) _
        refine XS.iloadN X18.here hx rfl (hb hby d4_52) rfl ?_
        show Steps p.tables e below (T18.setTop (mkF m 53 #[.val (.ref ax), .val (.int pr), .val (.int (Int32.ofNat (pr.toBitVec.toNat / 64)))] [(.int (Int32.ofNat (pr.toBitVec.toNat / 64))), (.long (1 : Int64)), (.long (fo (pr.toBitVec.toNat / 64 / 64))), (.int (Int32.ofNat (pr.toBitVec.toNat / 64 / 64))), (.ref ac)])) _
        refine XS.lshl X18.here hx rfl (hb hby d4_53) rfl ?_
        show Steps p.tables e below (T18.setTop (mkF m 54 #[.val (.ref ax), .val (.int pr), .val (.int (Int32.ofNat (pr.toBitVec.toNat / 64)))] [(.long (own_shlL (1 : Int64) (Int32.ofNat (pr.toBitVec.toNat / 64)))), (.long (fo (pr.toBitVec.toNat / 64 / 64))), (.int (Int32.ofNat (pr.toBitVec.toNat / 64 / 64))), (.ref ac)])) _
        refine X18.ldc2Long hx hown (mvT hZ (hw _ (List.mem_of_getElem? (i := 24) rfl))) (g := (mkF m 54 #[.val (.ref ax), .val (.int pr), .val (.int (Int32.ofNat (pr.toBitVec.toNat / 64)))] [(.long (own_shlL (1 : Int64) (Int32.ofNat (pr.toBitVec.toNat / 64)))), (.long (fo (pr.toBitVec.toNat / 64 / 64))), (.int (Int32.ofNat (pr.toBitVec.toNat / 64 / 64))), (.ref ac)])) rfl (hb hby d4_54) _ ?_
        show Steps p.tables e below (T18.setTop (mkF m 57 #[.val (.ref ax), .val (.int pr), .val (.int (Int32.ofNat (pr.toBitVec.toNat / 64)))] [(.long (-1 : Int64)), (.long (own_shlL (1 : Int64) (Int32.ofNat (pr.toBitVec.toNat / 64)))), (.long (fo (pr.toBitVec.toNat / 64 / 64))), (.int (Int32.ofNat (pr.toBitVec.toNat / 64 / 64))), (.ref ac)])) _
        refine XS.lxor X18.here hx rfl (hb hby d4_57) rfl ?_
        show Steps p.tables e below (T18.setTop (mkF m 58 #[.val (.ref ax), .val (.int pr), .val (.int (Int32.ofNat (pr.toBitVec.toNat / 64)))] [(.long ((own_shlL (1 : Int64) (Int32.ofNat (pr.toBitVec.toNat / 64))) ^^^ (-1 : Int64))), (.long (fo (pr.toBitVec.toNat / 64 / 64))), (.int (Int32.ofNat (pr.toBitVec.toNat / 64 / 64))), (.ref ac)])) _
        refine XS.land X18.here hx rfl (hb hby d4_58) rfl ?_
        show Steps p.tables e below (T18.setTop (mkF m 59 #[.val (.ref ax), .val (.int pr), .val (.int (Int32.ofNat (pr.toBitVec.toNat / 64)))] [(.long ((fo (pr.toBitVec.toNat / 64 / 64)) &&& ((own_shlL (1 : Int64) (Int32.ofNat (pr.toBitVec.toNat / 64))) ^^^ (-1 : Int64)))), (.int (Int32.ofNat (pr.toBitVec.toNat / 64 / 64))), (.ref ac)])) _
        exact k)
      obtain ⟨T20, h20, X20, e20, W20, B20, st20⟩ := own_stJ X18 hx hZ e18 Ar12 (j := (Int32.ofNat (pr.toBitVec.toNat / 64 / 64))) (i := (pr.toBitVec.toNat / 64 / 64)) (own_at32 (own_rl2 pr)) (by exact own_Gm hG (own_lt32 hc11_4 (own_rl pr) (own_Gn hG))) (g := (mkF m 59 #[.val (.ref ax), .val (.int pr), .val (.int (Int32.ofNat (pr.toBitVec.toNat / 64)))] [(.long ((fo (pr.toBitVec.toNat / 64 / 64)) &&& ((own_shlL (1 : Int64) (Int32.ofNat (pr.toBitVec.toNat / 64))) ^^^ (-1 : Int64)))), (.int (Int32.ofNat (pr.toBitVec.toNat / 64 / 64))), (.ref ac)])) rfl rfl (hb hby d4_59)
      have Ex21 : Exa Z h20 ax "relayout/PositionSet" := Ex9.wr W20
      have F22 : Fld Z h20 ax "relayout/PositionSet" "words" "[J" (.ref aw) := F10.other W20 (Or.inl ne2)
      have F23 : Fld Z h20 ax "relayout/PositionSet" "occupied" "[J" (.ref ac) := F11.other W20 (Or.inl ne2)
      have Ar24 : ArJ Z h20 aw  nn (own_updJ fw (pr.toBitVec.toNat / 64) ((fw (pr.toBitVec.toNat / 64)) &&& ((own_shlL (1 : Int64) pr) ^^^ (-1 : Int64)))) := B8.other W20 hwo
      have N20 := Fr.snoc X20 N8 g_ac
      have Z20 : n0 ≤ h20.size := Nat.le_trans Z8 (Keep.of_wr W20).1
      have pre20 : ∀ t, Steps p.tables e below (T20.setTop (mkF m 60 #[.val (.ref ax), .val (.int pr), .val (.int (Int32.ofNat (pr.toBitVec.toNat / 64)))] [])) t → Steps p.tables e below (s₁.setTop (entryFrame m #[(.ref ax), (.int pr)] 3)) t := fun t k => pre19 t (st20 t k)
      obtain ⟨fs, hr, hrun, hended, hW, hsame⟩ := X20.leave (v := none) (fun _ => rfl) Bd.notSynchronized
      refine ⟨_, _, pre20 _ ?_, hrun, hended, _, _, rfl, ?_, ⟨_, rfl⟩, hW, hsame.mono (by decide) (by decide)⟩
      · show Steps p.tables e below (T20.setTop (mkF m 60 #[.val (.ref ax), .val (.int pr), .val (.int (Int32.ofNat (pr.toBitVec.toNat / 64)))] [])) _
        exact X20.returnOut hx Bd.returns (hb hby d4_60) hr
      · show Q4 Z ax pr B S h0 n0 _ T20.heap _
        rw [e20]
        exact ⟨rfl, N20, Z20, ⟨aw, ac, _, _, _, _, Ex21, F22, F23, Ar24, B20, hwo, g_aw, g_ac, (own_Grem2 hG pr (own_lt32 hc11_4 (own_rl pr) (own_Gn hG)) hc38_16)⟩⟩
    · have pre25 : ∀ t, Steps p.tables e below (T14.setTop (mkF m 60 #[.val (.ref ax), .val (.int pr), .val (.int (Int32.ofNat (pr.toBitVec.toNat / 64)))] [])) t → Steps p.tables e below (s₁.setTop (entryFrame m #[(.ref ax), (.int pr)] 3)) t := fun t k => pre15 t (by
        refine XS.ifYes X14.here hx rfl (pc0 := 38) (pc' := 60) rfl (hb hby d4_38) rfl ((if0 _ _).trans (feq (fun q => hc38_16 ((lw_eq ((own_updJ fw (pr.toBitVec.toNat / 64) ((fw (pr.toBitVec.toNat / 64)) &&& ((own_shlL (1 : Int64) pr) ^^^ (-1 : Int64)))) (pr.toBitVec.toNat / 64)) (0 : Int64)).mp q))).2) (by decide) (by decide) ?_
        show Steps p.tables e below (T14.setTop (mkF m 60 #[.val (.ref ax), .val (.int pr), .val (.int (Int32.ofNat (pr.toBitVec.toNat / 64)))] [])) _
        exact k)
      obtain ⟨fs, hr, hrun, hended, hW, hsame⟩ := X14.leave (v := none) (fun _ => rfl) Bd.notSynchronized
      refine ⟨_, _, pre25 _ ?_, hrun, hended, _, _, rfl, ?_, ⟨_, rfl⟩, hW, hsame.mono (by decide) (by decide)⟩
      · show Steps p.tables e below (T14.setTop (mkF m 60 #[.val (.ref ax), .val (.int pr), .val (.int (Int32.ofNat (pr.toBitVec.toNat / 64)))] [])) _
        exact X14.returnOut hx Bd.returns (hb hby d4_60) hr
      · show Q4 Z ax pr B S h0 n0 _ T14.heap _
        rw [e14]
        exact ⟨rfl, N8, Z8, ⟨aw, ac, _, _, _, _, Ex9, F10, F11, B8, Ar12, hwo, g_aw, g_ac, (own_Grem1 hG pr (own_lt32 hc11_4 (own_rl pr) (own_Gn hG)) hc38_16)⟩⟩
  · have pre26 : ∀ t, Steps p.tables e below (T2.setTop (mkF m 60 #[.val (.ref ax), .val (.int pr), .val (.int (Int32.ofNat (pr.toBitVec.toNat / 64)))] [])) t → Steps p.tables e below (s₁.setTop (entryFrame m #[(.ref ax), (.int pr)] 3)) t := fun t k => pre3 t (by
      refine XS.icmpYes X2.here hx rfl (pc0 := 11) (pc' := 60) rfl (hb hby d4_11) rfl (flt hc11_4).2.1 (by decide) (by decide) ?_
      show Steps p.tables e below (T2.setTop (mkF m 60 #[.val (.ref ax), .val (.int pr), .val (.int (Int32.ofNat (pr.toBitVec.toNat / 64)))] [])) _
      exact k)
    obtain ⟨fs, hr, hrun, hended, hW, hsame⟩ := X2.leave (v := none) (fun _ => rfl) Bd.notSynchronized
    refine ⟨_, _, pre26 _ ?_, hrun, hended, _, _, rfl, ?_, ⟨_, rfl⟩, hW, hsame.mono (by decide) (by decide)⟩
    · show Steps p.tables e below (T2.setTop (mkF m 60 #[.val (.ref ax), .val (.int pr), .val (.int (Int32.ofNat (pr.toBitVec.toNat / 64)))] [])) _
      exact X2.returnOut hx Bd.returns (hb hby d4_60) hr
    · show Q4 Z ax pr B S h0 n0 _ T2.heap _
      rw [e2]
      exact ⟨rfl, N0, Z0, ⟨aw, ac, _, _, _, _, hE, hFw, hFo, hAw, hAo, hwo, g_aw, g_ac, (own_Grem0 hG pr (own_ge32 hc11_4 (own_rl pr) (own_Gn hG)))⟩⟩
theorem own_tab {Z : State} {a0 args : Array Value} (hw : ∀ d ∈ tables_1, d.before a0 Z = true) : ∀ s' : State, Z.Warmed39 s'.vm → Jvm.Free.JA.CopyOfJ.tab.before args s' = true := fun s' hZ => by
  have h : ∀ w ∈ ([.initialized "java/util/Arrays", .classLink "java/util/Arrays" 320 "[J", .castable "[J" "[J", .arrayClass .long, Jvm.Free.JP.Math_min_II.tab, .methodLink "java/util/Arrays" 319 ⟨"[J", "clone", "()Ljava/lang/Object;"⟩, .sameMethod "[J" "java/lang/Object" "clone" "()Ljava/lang/Object;", .native (⟨"java/lang/Object", "clone", "()Ljava/lang/Object;"⟩ : MethodName), .instanceMethod (⟨"java/lang/Object", "clone", "()Ljava/lang/Object;"⟩ : MethodName), .selects "[J" (⟨"[J", "clone", "()Ljava/lang/Object;"⟩ : MethodName) (⟨"java/lang/Object", "clone", "()Ljava/lang/Object;"⟩ : MethodName), .castable "[J" "java/lang/Cloneable", .methodLink "java/util/Arrays" 304 (⟨"java/lang/Math", "min", "(II)I"⟩ : MethodName), .static (⟨"java/lang/Math", "min", "(II)I"⟩ : MethodName), .methodLink "java/util/Arrays" 150 (⟨"java/lang/System", "arraycopy", "(Ljava/lang/Object;ILjava/lang/Object;II)V"⟩ : MethodName), .native (⟨"java/lang/System", "arraycopy", "(Ljava/lang/Object;ILjava/lang/Object;II)V"⟩ : MethodName), .static (⟨"java/lang/System", "arraycopy", "(Ljava/lang/Object;ILjava/lang/Object;II)V"⟩ : MethodName), .initialized "java/lang/System"] : List Jvm.Cond), w.before args s' = true := by
    intro w hm
    simp only [List.mem_cons, List.not_mem_nil, or_false] at hm
    rcases hm with rfl | rfl | rfl | rfl | rfl | rfl | rfl | rfl | rfl | rfl | rfl | rfl | rfl | rfl | rfl | rfl | rfl
    · exact mv hZ (hw _ (List.mem_of_getElem? (i := 49) rfl))
    · exact mv hZ (hw _ (List.mem_of_getElem? (i := 65) rfl))
    · exact mv hZ (hw _ (List.mem_of_getElem? (i := 66) rfl))
    · exact mvA hZ (hw _ (List.mem_of_getElem? (i := 9) rfl))
    · exact Jvm.Free.XT.unparts (mv hZ (hw _ (List.mem_of_getElem? (i := 53) rfl))) (fun w hm => by cases List.mem_singleton.mp hm; exact mv hZ (hw _ (List.mem_of_getElem? (i := 45) rfl)))
    · exact mv hZ (hw _ (List.mem_of_getElem? (i := 58) rfl))
    · exact mv hZ (hw _ (List.mem_of_getElem? (i := 59) rfl))
    · exact mv hZ (hw _ (List.mem_of_getElem? (i := 63) rfl))
    · exact mv hZ (hw _ (List.mem_of_getElem? (i := 61) rfl))
    · exact mv hZ (hw _ (List.mem_of_getElem? (i := 62) rfl))
    · exact mv hZ (hw _ (List.mem_of_getElem? (i := 64) rfl))
    · exact mv hZ (hw _ (List.mem_of_getElem? (i := 51) rfl))
    · exact mv hZ (hw _ (List.mem_of_getElem? (i := 52) rfl))
    · exact mv hZ (hw _ (List.mem_of_getElem? (i := 54) rfl))
    · exact mv hZ (hw _ (List.mem_of_getElem? (i := 57) rfl))
    · exact mv hZ (hw _ (List.mem_of_getElem? (i := 55) rfl))
    · exact mv hZ (hw _ (List.mem_of_getElem? (i := 56) rfl))
  exact Jvm.Free.XT.unparts (mv hZ (hw _ (List.mem_of_getElem? (i := 50) rfl))) h
abbrev R3 : Room := { frames := 2, cells := 2, slots := 260, locals := 56 }
theorem pd_1 : parseMethodDescriptor "(II)I" = some ⟨[.int, .int], some .int⟩ := by decide +kernel
theorem d3_0 : decode prog_24_method_2_code 0 = .ok (.iload_n 1, 1) := by decide +kernel
theorem d3_1 : decode prog_24_method_2_code 1 = .ok (.bipush 6, 2) := by decide +kernel
theorem d3_3 : decode prog_24_method_2_code 3 = .ok (.iushr, 1) := by decide +kernel
theorem d3_4 : decode prog_24_method_2_code 4 = .ok (.istore_n 2, 1) := by decide +kernel
theorem d3_5 : decode prog_24_method_2_code 5 = .ok (.iload_n 2, 1) := by decide +kernel
theorem d3_6 : decode prog_24_method_2_code 6 = .ok (.aload_n 0, 1) := by decide +kernel
theorem d3_7 : decode prog_24_method_2_code 7 = .ok (.getfield 7, 3) := by decide +kernel
theorem d3_10 : decode prog_24_method_2_code 10 = .ok (.arraylength, 1) := by decide +kernel
theorem d3_11 : decode prog_24_method_2_code 11 = .ok (.if_icmp .lt 47, 3) := by decide +kernel
theorem d3_14 : decode prog_24_method_2_code 14 = .ok (.iload_n 2, 1) := by decide +kernel
theorem d3_15 : decode prog_24_method_2_code 15 = .ok (.iconst 1, 1) := by decide +kernel
theorem d3_16 : decode prog_24_method_2_code 16 = .ok (.iadd, 1) := by decide +kernel
theorem d3_17 : decode prog_24_method_2_code 17 = .ok (.aload_n 0, 1) := by decide +kernel
theorem d3_18 : decode prog_24_method_2_code 18 = .ok (.getfield 7, 3) := by decide +kernel
theorem d3_21 : decode prog_24_method_2_code 21 = .ok (.arraylength, 1) := by decide +kernel
theorem d3_22 : decode prog_24_method_2_code 22 = .ok (.iconst 2, 1) := by decide +kernel
theorem d3_23 : decode prog_24_method_2_code 23 = .ok (.imul, 1) := by decide +kernel
theorem d3_24 : decode prog_24_method_2_code 24 = .ok (.invokestatic 16, 3) := by decide +kernel
theorem d3_27 : decode prog_24_method_2_code 27 = .ok (.istore_n 3, 1) := by decide +kernel
theorem d3_28 : decode prog_24_method_2_code 28 = .ok (.aload_n 0, 1) := by decide +kernel
theorem d3_29 : decode prog_24_method_2_code 29 = .ok (.aload_n 0, 1) := by decide +kernel
theorem d3_30 : decode prog_24_method_2_code 30 = .ok (.getfield 7, 3) := by decide +kernel
theorem d3_33 : decode prog_24_method_2_code 33 = .ok (.iload_n 3, 1) := by decide +kernel
theorem d3_34 : decode prog_24_method_2_code 34 = .ok (.invokestatic 22, 3) := by decide +kernel
theorem d3_37 : decode prog_24_method_2_code 37 = .ok (.putfield 7, 3) := by decide +kernel
theorem d3_40 : decode prog_24_method_2_code 40 = .ok (.aload_n 0, 1) := by decide +kernel
theorem d3_41 : decode prog_24_method_2_code 41 = .ok (.aload_n 0, 1) := by decide +kernel
theorem d3_42 : decode prog_24_method_2_code 42 = .ok (.getfield 13, 3) := by decide +kernel
theorem d3_45 : decode prog_24_method_2_code 45 = .ok (.iload_n 3, 1) := by decide +kernel
theorem d3_46 : decode prog_24_method_2_code 46 = .ok (.bipush 63, 2) := by decide +kernel
theorem d3_48 : decode prog_24_method_2_code 48 = .ok (.iadd, 1) := by decide +kernel
theorem d3_49 : decode prog_24_method_2_code 49 = .ok (.bipush 6, 2) := by decide +kernel
theorem d3_51 : decode prog_24_method_2_code 51 = .ok (.iushr, 1) := by decide +kernel
theorem d3_52 : decode prog_24_method_2_code 52 = .ok (.invokestatic 22, 3) := by decide +kernel
theorem d3_55 : decode prog_24_method_2_code 55 = .ok (.putfield 13, 3) := by decide +kernel
theorem d3_58 : decode prog_24_method_2_code 58 = .ok (.aload_n 0, 1) := by decide +kernel
theorem d3_59 : decode prog_24_method_2_code 59 = .ok (.getfield 7, 3) := by decide +kernel
theorem d3_62 : decode prog_24_method_2_code 62 = .ok (.iload_n 2, 1) := by decide +kernel
theorem d3_63 : decode prog_24_method_2_code 63 = .ok (.dup2, 1) := by decide +kernel
theorem d3_64 : decode prog_24_method_2_code 64 = .ok (.laload, 1) := by decide +kernel
theorem d3_65 : decode prog_24_method_2_code 65 = .ok (.lconst 1, 1) := by decide +kernel
theorem d3_66 : decode prog_24_method_2_code 66 = .ok (.iload_n 1, 1) := by decide +kernel
theorem d3_67 : decode prog_24_method_2_code 67 = .ok (.lshl, 1) := by decide +kernel
theorem d3_68 : decode prog_24_method_2_code 68 = .ok (.lor, 1) := by decide +kernel
theorem d3_69 : decode prog_24_method_2_code 69 = .ok (.lastore, 1) := by decide +kernel
theorem d3_70 : decode prog_24_method_2_code 70 = .ok (.aload_n 0, 1) := by decide +kernel
theorem d3_71 : decode prog_24_method_2_code 71 = .ok (.getfield 13, 3) := by decide +kernel
theorem d3_74 : decode prog_24_method_2_code 74 = .ok (.iload_n 2, 1) := by decide +kernel
theorem d3_75 : decode prog_24_method_2_code 75 = .ok (.bipush 6, 2) := by decide +kernel
theorem d3_77 : decode prog_24_method_2_code 77 = .ok (.iushr, 1) := by decide +kernel
theorem d3_78 : decode prog_24_method_2_code 78 = .ok (.dup2, 1) := by decide +kernel
theorem d3_79 : decode prog_24_method_2_code 79 = .ok (.laload, 1) := by decide +kernel
theorem d3_80 : decode prog_24_method_2_code 80 = .ok (.lconst 1, 1) := by decide +kernel
theorem d3_81 : decode prog_24_method_2_code 81 = .ok (.iload_n 2, 1) := by decide +kernel
theorem d3_82 : decode prog_24_method_2_code 82 = .ok (.lshl, 1) := by decide +kernel
theorem d3_83 : decode prog_24_method_2_code 83 = .ok (.lor, 1) := by decide +kernel
theorem d3_84 : decode prog_24_method_2_code 84 = .ok (.lastore, 1) := by decide +kernel
theorem d3_85 : decode prog_24_method_2_code 85 = .ok (.return_, 1) := by decide +kernel
theorem ef_3 (m : MethodId) (x0 : Addr) (x1 : Int32) : entryFrame m #[(.ref x0), (.int x1)] 4 = mkF m 0 #[.val (.ref x0), .val (.int x1), .unset, .unset] [] := by first | (simp [entryFrame, mkF, argsToLocals, Value.category]; done) | rfl
def Q3 (Z : State) (ax : Addr) (pp : Int32) (B : Nat) (S : Nat → Prop) (pn : Nat) (h0 : Heap) (n0 : Nat) (v : Option Value) (h : Heap) (L : List Loc) : Prop := v = none ∧ Fr n0 L ∧ n0 ≤ h.size ∧ PSet Z h n0 ax (max 128 (2 * B)) (own_ins S pn)
set_option maxRecDepth 65536 in
set_option maxHeartbeats 40000000 in
theorem rm3 (l : Launch) (Z : State) (a0 : Array Value) (hw : ∀ d ∈ tables_1, d.before a0 Z = true) (ws : List Jvm.Cond) (ax : Addr) (pp : Int32) (B : Nat) (S : Nat → Prop) (pn : Nat) (h0 : Heap) (n0 : Nat) (Z0 : n0 ≤ h0.size) (g_ax : n0 ≤ ax) (hPS : PSet Z h0 n0 ax B S) (hp : pp = Int32.ofNat pn) (hpn : pn < 8192) (hB : B ≤ 128) :
    MetFree l (⟨"relayout/PositionSet", "add", "(I)V"⟩ : MethodName) (head1 (Jvm.Cond.code (⟨"relayout/PositionSet", "add", "(I)V"⟩ : MethodName) prog_24_method_2_code 4 none :: ws) R3) (fun a U => a = #[(.ref ax), (.int pp)] ∧ Z.Warmed39 U.vm ∧ U.heap = h0) (fun _ _ _ _ _ => True) (fun _ U o U' => ∃ v L, o = .returned v ∧ Q3 Z ax pp B S pn h0 n0 v U'.heap L ∧ FrameEnd U o U' L R3.cells R3.slots) := by
  refine MetFree.of_bodySF (plainFor_of_name pn_3) hisR ?_
  intro p e s m args below meth c s₁ Bd hml0 hP hK
  obtain ⟨rfl, hZ, hh⟩ := hP
  have hx := Bd.exec
  have hby := Bd.bytes
  have hml : c.maxLocals = 4 := hml0
  have hown : s.vm.findClass "relayout/PositionSet" = some m.cls := findClass_of_methodNamed Bd.named
  have hnm := (name_of_methodNamed Bd.named Bd.method).1
  have X0 : Stand p l e R3 s m #[(.ref ax), (.int pp)] below meth c s₁ [] 0 0 := Stand.of_body Bd
  have e0 : s₁.heap = h0 := by rw [← hh, Bd.state]; rfl
  have N0 := Fr.nil n0
  have pre0 : ∀ t, Steps p.tables e below (s₁.setTop (mkF m 0 #[.val (.ref ax), .val (.int pp), .unset, .unset] [])) t → Steps p.tables e below (s₁.setTop (entryFrame m #[(.ref ax), (.int pp)] 4)) t := fun t k => castTop (ef_3 m ax pp) k
  obtain ⟨aw, ac, nn, mm, fw, fo, hE, hFw, hFo, hAw, hAo, hwo, g_aw, g_ac, hG⟩ := hPS
  have ne1 : ax ≠ aw := ne_exa hE hAw.1 (by decide)
  have ne2 : ax ≠ ac := ne_exa hE hAo.1 (by decide)
  have pre1 : ∀ t, Steps p.tables e below (s₁.setTop (mkF m 7 #[.val (.ref ax), .val (.int pp), .val (.int (Int32.ofNat (pn / 64))), .unset] [(.ref ax), (.int (Int32.ofNat (pn / 64)))])) t → Steps p.tables e below (s₁.setTop (entryFrame m #[(.ref ax), (.int pp)] 4)) t := fun t k => pre0 t (by
    refine XS.iloadN X0.here hx rfl (hb hby d3_0) rfl ?_
    show Steps p.tables e below (s₁.setTop (mkF m 1 #[.val (.ref ax), .val (.int pp), .unset, .unset] [(.int pp)])) _
    refine XS.bipush X0.here hx rfl (hb hby d3_1) ?_
    show Steps p.tables e below (s₁.setTop (mkF m 3 #[.val (.ref ax), .val (.int pp), .unset, .unset] [(.int (6 : Int32)), (.int pp)])) _
    refine XS.iushr X0.here hx rfl (hb hby d3_3) rfl ?_
    show Steps p.tables e below (s₁.setTop (mkF m 4 #[.val (.ref ax), .val (.int pp), .unset, .unset] [(.int (own_ushr pp (6 : Int32)))])) _
    show Steps p.tables e below (s₁.setTop (mkF m 4 #[.val (.ref ax), .val (.int pp), .unset, .unset] [(.int (own_ushr pp (6 : Int32)))])) _
    rw [own_idx hp hpn]
    show Steps p.tables e below (s₁.setTop (mkF m 4 #[.val (.ref ax), .val (.int pp), .unset, .unset] [(.int (Int32.ofNat (pn / 64)))])) _
    refine XS.istoreN X0.here hx rfl (hb hby d3_4) rfl (l' := #[.val (.ref ax), .val (.int pp), .val (.int (Int32.ofNat (pn / 64))), .unset]) rfl ?_
    show Steps p.tables e below (s₁.setTop (mkF m 5 #[.val (.ref ax), .val (.int pp), .val (.int (Int32.ofNat (pn / 64))), .unset] [])) _
    refine XS.iloadN X0.here hx rfl (hb hby d3_5) rfl ?_
    show Steps p.tables e below (s₁.setTop (mkF m 6 #[.val (.ref ax), .val (.int pp), .val (.int (Int32.ofNat (pn / 64))), .unset] [(.int (Int32.ofNat (pn / 64)))])) _
    refine XS.aloadN X0.here hx rfl (hb hby d3_6) rfl rfl ?_
    show Steps p.tables e below (s₁.setTop (mkF m 7 #[.val (.ref ax), .val (.int pp), .val (.int (Int32.ofNat (pn / 64))), .unset] [(.ref ax), (.int (Int32.ofNat (pn / 64)))])) _
    exact k)
  obtain ⟨T2, X2, e2, st2⟩ := getF X0 hx hZ hown (host := "") (Or.inl (hw _ (List.mem_of_getElem? (i := 10) rfl))) Via.refl e0 hFw (g := (mkF m 7 #[.val (.ref ax), .val (.int pp), .val (.int (Int32.ofNat (pn / 64))), .unset] [(.ref ax), (.int (Int32.ofNat (pn / 64)))])) rfl rfl (hb hby d3_7)
  have pre2 : ∀ t, Steps p.tables e below (T2.setTop (mkF m 10 #[.val (.ref ax), .val (.int pp), .val (.int (Int32.ofNat (pn / 64))), .unset] [(.ref aw), (.int (Int32.ofNat (pn / 64)))])) t → Steps p.tables e below (s₁.setTop (entryFrame m #[(.ref ax), (.int pp)] 4)) t := fun t k => pre1 t (st2 t k)
  have pre3 : ∀ t, Steps p.tables e below (T2.setTop (mkF m 11 #[.val (.ref ax), .val (.int pp), .val (.int (Int32.ofNat (pn / 64))), .unset] [(.int (Int32.ofNat nn)), (.int (Int32.ofNat (pn / 64)))])) t → Steps p.tables e below (s₁.setTop (entryFrame m #[(.ref ax), (.int pp)] 4)) t := fun t k => pre2 t (by
    refine own_lenJ X2 hx hZ e2 hAw rfl (g := (mkF m 10 #[.val (.ref ax), .val (.int pp), .val (.int (Int32.ofNat (pn / 64))), .unset] [(.ref aw), (.int (Int32.ofNat (pn / 64)))])) rfl rfl (hb hby d3_10) _ ?_
    show Steps p.tables e below (T2.setTop (mkF m 11 #[.val (.ref ax), .val (.int pp), .val (.int (Int32.ofNat (pn / 64))), .unset] [(.int (Int32.ofNat nn)), (.int (Int32.ofNat (pn / 64)))])) _
    exact k)
  by_cases hc11_4 : (Int32.ofNat (pn / 64)) < (Int32.ofNat nn)
  · have pre5 : ∀ t, Steps p.tables e below (T2.setTop (mkF m 59 #[.val (.ref ax), .val (.int pp), .val (.int (Int32.ofNat (pn / 64))), .unset] [(.ref ax)])) t → Steps p.tables e below (s₁.setTop (entryFrame m #[(.ref ax), (.int pp)] 4)) t := fun t k => pre3 t (by
      refine XS.icmpYes X2.here hx rfl (pc0 := 11) (pc' := 58) rfl (hb hby d3_11) rfl (tlt hc11_4).1 (by decide) (by decide) ?_
      show Steps p.tables e below (T2.setTop (mkF m 58 #[.val (.ref ax), .val (.int pp), .val (.int (Int32.ofNat (pn / 64))), .unset] [])) _
      refine XS.aloadN X2.here hx rfl (hb hby d3_58) rfl rfl ?_
      show Steps p.tables e below (T2.setTop (mkF m 59 #[.val (.ref ax), .val (.int pp), .val (.int (Int32.ofNat (pn / 64))), .unset] [(.ref ax)])) _
      exact k)
    obtain ⟨T6, X6, e6, st6⟩ := getF X2 hx hZ hown (host := "") (Or.inl (hw _ (List.mem_of_getElem? (i := 10) rfl))) Via.refl e2 hFw (g := (mkF m 59 #[.val (.ref ax), .val (.int pp), .val (.int (Int32.ofNat (pn / 64))), .unset] [(.ref ax)])) rfl rfl (hb hby d3_59)
    have pre6 : ∀ t, Steps p.tables e below (T6.setTop (mkF m 62 #[.val (.ref ax), .val (.int pp), .val (.int (Int32.ofNat (pn / 64))), .unset] [(.ref aw)])) t → Steps p.tables e below (s₁.setTop (entryFrame m #[(.ref ax), (.int pp)] 4)) t := fun t k => pre5 t (st6 t k)
    have pre7 : ∀ t, Steps p.tables e below (T6.setTop (mkF m 69 #[.val (.ref ax), .val (.int pp), .val (.int (Int32.ofNat (pn / 64))), .unset] [(.long ((fw (pn / 64)) ||| (own_shlL (1 : Int64) pp))), (.int (Int32.ofNat (pn / 64))), (.ref aw)])) t → Steps p.tables e below (s₁.setTop (entryFrame m #[(.ref ax), (.int pp)] 4)) t := fun t k => pre6 t (by
      refine XS.iloadN X6.here hx rfl (hb hby d3_62) rfl ?_
      show Steps p.tables e below (T6.setTop (mkF m 63 #[.val (.ref ax), .val (.int pp), .val (.int (Int32.ofNat (pn / 64))), .unset] [(.int (Int32.ofNat (pn / 64))), (.ref aw)])) _
      refine Jvm.Free.XT.dup2 X6.here hx rfl (hb hby d3_63) rfl rfl rfl ?_
      show Steps p.tables e below (T6.setTop (mkF m 64 #[.val (.ref ax), .val (.int pp), .val (.int (Int32.ofNat (pn / 64))), .unset] [(.int (Int32.ofNat (pn / 64))), (.ref aw), (.int (Int32.ofNat (pn / 64))), (.ref aw)])) _
      refine own_ldJ X6 hx hZ e6 hAw (j := (Int32.ofNat (pn / 64))) (i := (pn / 64)) (own_at32 (own_pl hpn)) (by exact own_lt32 hc11_4 (own_pl hpn) (own_Gn hG)) (g := (mkF m 64 #[.val (.ref ax), .val (.int pp), .val (.int (Int32.ofNat (pn / 64))), .unset] [(.int (Int32.ofNat (pn / 64))), (.ref aw), (.int (Int32.ofNat (pn / 64))), (.ref aw)])) rfl rfl (hb hby d3_64) _ ?_
      show Steps p.tables e below (T6.setTop (mkF m 65 #[.val (.ref ax), .val (.int pp), .val (.int (Int32.ofNat (pn / 64))), .unset] [(.long (fw (pn / 64))), (.int (Int32.ofNat (pn / 64))), (.ref aw)])) _
      refine XS.lconst X6.here hx rfl (hb hby d3_65) ?_
      show Steps p.tables e below (T6.setTop (mkF m 66 #[.val (.ref ax), .val (.int pp), .val (.int (Int32.ofNat (pn / 64))), .unset] [(.long (1 : Int64)), (.long (fw (pn / 64))), (.int (Int32.ofNat (pn / 64))), (.ref aw)])) _
      refine XS.iloadN X6.here hx rfl (hb hby d3_66) rfl ?_
      show Steps p.tables e below (T6.setTop (mkF m 67 #[.val (.ref ax), .val (.int pp), .val (.int (Int32.ofNat (pn / 64))), .unset] [(.int pp), (.long (1 : Int64)), (.long (fw (pn / 64))), (.int (Int32.ofNat (pn / 64))), (.ref aw)])) _
      refine XS.lshl X6.here hx rfl (hb hby d3_67) rfl ?_
      show Steps p.tables e below (T6.setTop (mkF m 68 #[.val (.ref ax), .val (.int pp), .val (.int (Int32.ofNat (pn / 64))), .unset] [(.long (own_shlL (1 : Int64) pp)), (.long (fw (pn / 64))), (.int (Int32.ofNat (pn / 64))), (.ref aw)])) _
      refine XS.lor X6.here hx rfl (hb hby d3_68) rfl ?_
      show Steps p.tables e below (T6.setTop (mkF m 69 #[.val (.ref ax), .val (.int pp), .val (.int (Int32.ofNat (pn / 64))), .unset] [(.long ((fw (pn / 64)) ||| (own_shlL (1 : Int64) pp))), (.int (Int32.ofNat (pn / 64))), (.ref aw)])) _
      exact k)
    obtain ⟨T8, h8, X8, e8, W8, B8, st8⟩ := own_stJ X6 hx hZ e6 hAw (j := (Int32.ofNat (pn / 64))) (i := (pn / 64)) (own_at32 (own_pl hpn)) (by exact own_lt32 hc11_4 (own_pl hpn) (own_Gn hG)) (g := (mkF m 69 #[.val (.ref ax), .val (.int pp), .val (.int (Int32.ofNat (pn / 64))), .unset] [(.long ((fw (pn / 64)) ||| (own_shlL (1 : Int64) pp))), (.int (Int32.ofNat (pn / 64))), (.ref aw)])) rfl rfl (hb hby d3_69)
    have Ex9 : Exa Z h8 ax "relayout/PositionSet" := hE.wr W8
    have F10 : Fld Z h8 ax "relayout/PositionSet" "words" "[J" (.ref aw) := hFw.other W8 (Or.inl ne1)
    have F11 : Fld Z h8 ax "relayout/PositionSet" "occupied" "[J" (.ref ac) := hFo.other W8 (Or.inl ne1)
    have Ar12 : ArJ Z h8 ac  mm fo := hAo.other W8 (Ne.symm hwo)
    have N8 := Fr.snoc X8 N0 g_aw
    have Z8 : n0 ≤ h8.size := Nat.le_trans Z0 (Keep.of_wr W8).1
    have pre8 : ∀ t, Steps p.tables e below (T8.setTop (mkF m 70 #[.val (.ref ax), .val (.int pp), .val (.int (Int32.ofNat (pn / 64))), .unset] [])) t → Steps p.tables e below (s₁.setTop (entryFrame m #[(.ref ax), (.int pp)] 4)) t := fun t k => pre7 t (st8 t k)
    have pre13 : ∀ t, Steps p.tables e below (T8.setTop (mkF m 71 #[.val (.ref ax), .val (.int pp), .val (.int (Int32.ofNat (pn / 64))), .unset] [(.ref ax)])) t → Steps p.tables e below (s₁.setTop (entryFrame m #[(.ref ax), (.int pp)] 4)) t := fun t k => pre8 t (by
      refine XS.aloadN X8.here hx rfl (hb hby d3_70) rfl rfl ?_
      show Steps p.tables e below (T8.setTop (mkF m 71 #[.val (.ref ax), .val (.int pp), .val (.int (Int32.ofNat (pn / 64))), .unset] [(.ref ax)])) _
      exact k)
    obtain ⟨T14, X14, e14, st14⟩ := getF X8 hx hZ hown (host := "") (Or.inl (hw _ (List.mem_of_getElem? (i := 12) rfl))) Via.refl e8 F11 (g := (mkF m 71 #[.val (.ref ax), .val (.int pp), .val (.int (Int32.ofNat (pn / 64))), .unset] [(.ref ax)])) rfl rfl (hb hby d3_71)
    have pre14 : ∀ t, Steps p.tables e below (T14.setTop (mkF m 74 #[.val (.ref ax), .val (.int pp), .val (.int (Int32.ofNat (pn / 64))), .unset] [(.ref ac)])) t → Steps p.tables e below (s₁.setTop (entryFrame m #[(.ref ax), (.int pp)] 4)) t := fun t k => pre13 t (st14 t k)
    have pre15 : ∀ t, Steps p.tables e below (T14.setTop (mkF m 84 #[.val (.ref ax), .val (.int pp), .val (.int (Int32.ofNat (pn / 64))), .unset] [(.long ((fo (pn / 64 / 64)) ||| (own_shlL (1 : Int64) (Int32.ofNat (pn / 64))))), (.int (Int32.ofNat (pn / 64 / 64))), (.ref ac)])) t → Steps p.tables e below (s₁.setTop (entryFrame m #[(.ref ax), (.int pp)] 4)) t := fun t k => pre14 t (by
      refine XS.iloadN X14.here hx rfl (hb hby d3_74) rfl ?_
      show Steps p.tables e below (T14.setTop (mkF m 75 #[.val (.ref ax), .val (.int pp), .val (.int (Int32.ofNat (pn / 64))), .unset] [(.int (Int32.ofNat (pn / 64))), (.ref ac)])) _
      refine XS.bipush X14.here hx rfl (hb hby d3_75) ?_
      show Steps p.tables e below (T14.setTop (mkF m 77 #[.val (.ref ax), .val (.int pp), .val (.int (Int32.ofNat (pn / 64))), .unset] [(.int (6 : Int32)), (.int (Int32.ofNat (pn / 64))), (.ref ac)])) _
      refine XS.iushr X14.here hx rfl (hb hby d3_77) rfl ?_
      show Steps p.tables e below (T14.setTop (mkF m 78 #[.val (.ref ax), .val (.int pp), .val (.int (Int32.ofNat (pn / 64))), .unset] [(.int (own_ushr (Int32.ofNat (pn / 64)) (6 : Int32))), (.ref ac)])) _
      rw [own_on6 _ (own_pl4 hpn)]
      show Steps p.tables e below (T14.setTop (mkF m 78 #[.val (.ref ax), .val (.int pp), .val (.int (Int32.ofNat (pn / 64))), .unset] [(.int (Int32.ofNat (pn / 64 / 64))), (.ref ac)])) _
      refine Jvm.Free.XT.dup2 X14.here hx rfl (hb hby d3_78) rfl rfl rfl ?_
      show Steps p.tables e below (T14.setTop (mkF m 79 #[.val (.ref ax), .val (.int pp), .val (.int (Int32.ofNat (pn / 64))), .unset] [(.int (Int32.ofNat (pn / 64 / 64))), (.ref ac), (.int (Int32.ofNat (pn / 64 / 64))), (.ref ac)])) _
      refine own_ldJ X14 hx hZ e14 Ar12 (j := (Int32.ofNat (pn / 64 / 64))) (i := (pn / 64 / 64)) (own_at32 (own_pl2 hpn)) (by exact own_Gm hG (own_lt32 hc11_4 (own_pl hpn) (own_Gn hG))) (g := (mkF m 79 #[.val (.ref ax), .val (.int pp), .val (.int (Int32.ofNat (pn / 64))), .unset] [(.int (Int32.ofNat (pn / 64 / 64))), (.ref ac), (.int (Int32.ofNat (pn / 64 / 64))), (.ref ac)])) rfl rfl (hb hby d3_79) _ ?_
      show Steps p.tables e below (T14.setTop (mkF m 80 #[.val (.ref ax), .val (.int pp), .val (.int (Int32.ofNat (pn / 64))), .unset] [(.long (fo (pn / 64 / 64))), (.int (Int32.ofNat (pn / 64 / 64))), (.ref ac)])) _
      refine XS.lconst X14.here hx rfl (hb hby d3_80) ?_
      show Steps p.tables e below (T14.setTop (mkF m 81 #[.val (.ref ax), .val (.int pp), .val (.int (Int32.ofNat (pn / 64))), .unset] [(.long (1 : Int64)), (.long (fo (pn / 64 / 64))), (.int (Int32.ofNat (pn / 64 / 64))), (.ref ac)])) _
      refine XS.iloadN X14.here hx rfl (hb hby d3_81) rfl ?_
      show Steps p.tables e below (T14.setTop (mkF m 82 #[.val (.ref ax), .val (.int pp), .val (.int (Int32.ofNat (pn / 64))), .unset] [(.int (Int32.ofNat (pn / 64))), (.long (1 : Int64)), (.long (fo (pn / 64 / 64))), (.int (Int32.ofNat (pn / 64 / 64))), (.ref ac)])) _
      refine XS.lshl X14.here hx rfl (hb hby d3_82) rfl ?_
      show Steps p.tables e below (T14.setTop (mkF m 83 #[.val (.ref ax), .val (.int pp), .val (.int (Int32.ofNat (pn / 64))), .unset] [(.long (own_shlL (1 : Int64) (Int32.ofNat (pn / 64)))), (.long (fo (pn / 64 / 64))), (.int (Int32.ofNat (pn / 64 / 64))), (.ref ac)])) _
      refine XS.lor X14.here hx rfl (hb hby d3_83) rfl ?_
      show Steps p.tables e below (T14.setTop (mkF m 84 #[.val (.ref ax), .val (.int pp), .val (.int (Int32.ofNat (pn / 64))), .unset] [(.long ((fo (pn / 64 / 64)) ||| (own_shlL (1 : Int64) (Int32.ofNat (pn / 64))))), (.int (Int32.ofNat (pn / 64 / 64))), (.ref ac)])) _
      exact k)
    obtain ⟨T16, h16, X16, e16, W16, B16, st16⟩ := own_stJ X14 hx hZ e14 Ar12 (j := (Int32.ofNat (pn / 64 / 64))) (i := (pn / 64 / 64)) (own_at32 (own_pl2 hpn)) (by exact own_Gm hG (own_lt32 hc11_4 (own_pl hpn) (own_Gn hG))) (g := (mkF m 84 #[.val (.ref ax), .val (.int pp), .val (.int (Int32.ofNat (pn / 64))), .unset] [(.long ((fo (pn / 64 / 64)) ||| (own_shlL (1 : Int64) (Int32.ofNat (pn / 64))))), (.int (Int32.ofNat (pn / 64 / 64))), (.ref ac)])) rfl rfl (hb hby d3_84)
    have Ex17 : Exa Z h16 ax "relayout/PositionSet" := Ex9.wr W16
    have F18 : Fld Z h16 ax "relayout/PositionSet" "words" "[J" (.ref aw) := F10.other W16 (Or.inl ne2)
    have F19 : Fld Z h16 ax "relayout/PositionSet" "occupied" "[J" (.ref ac) := F11.other W16 (Or.inl ne2)
    have Ar20 : ArJ Z h16 aw  nn (own_updJ fw (pn / 64) ((fw (pn / 64)) ||| (own_shlL (1 : Int64) pp))) := B8.other W16 hwo
    have N16 := Fr.snoc X16 N8 g_ac
    have Z16 : n0 ≤ h16.size := Nat.le_trans Z8 (Keep.of_wr W16).1
    have pre16 : ∀ t, Steps p.tables e below (T16.setTop (mkF m 85 #[.val (.ref ax), .val (.int pp), .val (.int (Int32.ofNat (pn / 64))), .unset] [])) t → Steps p.tables e below (s₁.setTop (entryFrame m #[(.ref ax), (.int pp)] 4)) t := fun t k => pre15 t (st16 t k)
    obtain ⟨fs, hr, hrun, hended, hW, hsame⟩ := X16.leave (v := none) (fun _ => rfl) Bd.notSynchronized
    refine ⟨_, _, pre16 _ ?_, hrun, hended, _, _, rfl, ?_, ⟨_, rfl⟩, hW, hsame.mono (by decide) (by decide)⟩
    · show Steps p.tables e below (T16.setTop (mkF m 85 #[.val (.ref ax), .val (.int pp), .val (.int (Int32.ofNat (pn / 64))), .unset] [])) _
      exact X16.returnOut hx Bd.returns (hb hby d3_85) hr
    · show Q3 Z ax pp B S pn h0 n0 _ T16.heap _
      rw [e16]
      exact ⟨rfl, N16, Z16, ⟨aw, ac, _, _, _, _, Ex17, F18, F19, Ar20, B16, hwo, g_aw, g_ac, (own_GaddN hG hp hpn hB (own_lt32 hc11_4 (own_pl hpn) (own_Gn hG)))⟩⟩
  · have pre21 : ∀ t, Steps p.tables e below (T2.setTop (mkF m 18 #[.val (.ref ax), .val (.int pp), .val (.int (Int32.ofNat (pn / 64))), .unset] [(.ref ax), (.int ((Int32.ofNat (pn / 64)) + (1 : Int32)))])) t → Steps p.tables e below (s₁.setTop (entryFrame m #[(.ref ax), (.int pp)] 4)) t := fun t k => pre3 t (by
      refine XS.icmpNo X2.here hx rfl (hb hby d3_11) rfl (flt hc11_4).1 ?_
      show Steps p.tables e below (T2.setTop (mkF m 14 #[.val (.ref ax), .val (.int pp), .val (.int (Int32.ofNat (pn / 64))), .unset] [])) _
      refine XS.iloadN X2.here hx rfl (hb hby d3_14) rfl ?_
      show Steps p.tables e below (T2.setTop (mkF m 15 #[.val (.ref ax), .val (.int pp), .val (.int (Int32.ofNat (pn / 64))), .unset] [(.int (Int32.ofNat (pn / 64)))])) _
      refine XS.iconst X2.here hx rfl (hb hby d3_15) ?_
      show Steps p.tables e below (T2.setTop (mkF m 16 #[.val (.ref ax), .val (.int pp), .val (.int (Int32.ofNat (pn / 64))), .unset] [(.int (1 : Int32)), (.int (Int32.ofNat (pn / 64)))])) _
      refine XS.iadd X2.here hx rfl (hb hby d3_16) rfl ?_
      show Steps p.tables e below (T2.setTop (mkF m 17 #[.val (.ref ax), .val (.int pp), .val (.int (Int32.ofNat (pn / 64))), .unset] [(.int ((Int32.ofNat (pn / 64)) + (1 : Int32)))])) _
      refine XS.aloadN X2.here hx rfl (hb hby d3_17) rfl rfl ?_
      show Steps p.tables e below (T2.setTop (mkF m 18 #[.val (.ref ax), .val (.int pp), .val (.int (Int32.ofNat (pn / 64))), .unset] [(.ref ax), (.int ((Int32.ofNat (pn / 64)) + (1 : Int32)))])) _
      exact k)
    obtain ⟨T22, X22, e22, st22⟩ := getF X2 hx hZ hown (host := "") (Or.inl (hw _ (List.mem_of_getElem? (i := 10) rfl))) Via.refl e2 hFw (g := (mkF m 18 #[.val (.ref ax), .val (.int pp), .val (.int (Int32.ofNat (pn / 64))), .unset] [(.ref ax), (.int ((Int32.ofNat (pn / 64)) + (1 : Int32)))])) rfl rfl (hb hby d3_18)
    have pre22 : ∀ t, Steps p.tables e below (T22.setTop (mkF m 21 #[.val (.ref ax), .val (.int pp), .val (.int (Int32.ofNat (pn / 64))), .unset] [(.ref aw), (.int ((Int32.ofNat (pn / 64)) + (1 : Int32)))])) t → Steps p.tables e below (s₁.setTop (entryFrame m #[(.ref ax), (.int pp)] 4)) t := fun t k => pre21 t (st22 t k)
    have pre23 : ∀ t, Steps p.tables e below (T22.setTop (mkF m 24 #[.val (.ref ax), .val (.int pp), .val (.int (Int32.ofNat (pn / 64))), .unset] [(.int ((Int32.ofNat nn) * (2 : Int32))), (.int ((Int32.ofNat (pn / 64)) + (1 : Int32)))])) t → Steps p.tables e below (s₁.setTop (entryFrame m #[(.ref ax), (.int pp)] 4)) t := fun t k => pre22 t (by
      refine own_lenJ X22 hx hZ e22 hAw rfl (g := (mkF m 21 #[.val (.ref ax), .val (.int pp), .val (.int (Int32.ofNat (pn / 64))), .unset] [(.ref aw), (.int ((Int32.ofNat (pn / 64)) + (1 : Int32)))])) rfl rfl (hb hby d3_21) _ ?_
      show Steps p.tables e below (T22.setTop (mkF m 22 #[.val (.ref ax), .val (.int pp), .val (.int (Int32.ofNat (pn / 64))), .unset] [(.int (Int32.ofNat nn)), (.int ((Int32.ofNat (pn / 64)) + (1 : Int32)))])) _
      refine XS.iconst X22.here hx rfl (hb hby d3_22) ?_
      show Steps p.tables e below (T22.setTop (mkF m 23 #[.val (.ref ax), .val (.int pp), .val (.int (Int32.ofNat (pn / 64))), .unset] [(.int (2 : Int32)), (.int (Int32.ofNat nn)), (.int ((Int32.ofNat (pn / 64)) + (1 : Int32)))])) _
      refine XS.imul X22.here hx rfl (hb hby d3_23) rfl ?_
      show Steps p.tables e below (T22.setTop (mkF m 24 #[.val (.ref ax), .val (.int pp), .val (.int (Int32.ofNat (pn / 64))), .unset] [(.int ((Int32.ofNat nn) * (2 : Int32))), (.int ((Int32.ofNat (pn / 64)) + (1 : Int32)))])) _
      exact k)
    obtain ⟨_, _, ⟨T24, L24, k24, n24⟩, -, X24, ⟨Lc24, hQ24, l24, y24, z24⟩, st24⟩ := Jvm.LawKit.callS X22 hx (y := (⟨"java/lang/Math", "max", "(II)I"⟩ : MethodName)) hown (mvT hZ (hw _ (List.mem_of_getElem? (i := 43) rfl))) (mvT hZ (hw _ (List.mem_of_getElem? (i := 44) rfl))) (mvT hZ (hw _ (List.mem_of_getElem? (i := 45) rfl))) (mvT hZ (hw _ (List.mem_of_getElem? (i := 46) rfl))) (by decide) (backOf (W := 0) (rm9 l Z a0 hw [] ((Int32.ofNat (pn / 64)) + (1 : Int32)) ((Int32.ofNat nn) * (2 : Int32)) h0 n0 Z0 ) hZ (hw _ (List.mem_of_getElem? (i := 46) rfl)) (hw _ (List.mem_of_getElem? (i := 45) rfl)) (by decide) (by decide)) (g := (mkF m 24 #[.val (.ref ax), .val (.int pp), .val (.int (Int32.ofNat (pn / 64))), .unset] [(.int ((Int32.ofNat nn) * (2 : Int32))), (.int ((Int32.ofNat (pn / 64)) + (1 : Int32)))])) rfl (by rw [hml]; rfl) (argsL := [(.int ((Int32.ofNat (pn / 64)) + (1 : Int32))), (.int ((Int32.ofNat nn) * (2 : Int32)))]) (rest := []) (lenOf pd_1 rfl) rfl (by show 2 * 0 + _ ≤ _; exact Nat.le_of_eq rfl) (hb hby d3_24) (fun _ _ => ⟨rfl, e22, (by decide : 0 + 0 ≤ _), (by decide : 0 + 0 ≤ _)⟩)
    dsimp only [Pt.U, Pt.locs, Pt.cells, Pt.slots] at X24 l24 y24 z24 st24 hQ24
    rw [l24, y24, z24] at X24
    obtain ⟨rfl, M24, e24⟩ := hQ24
    have N24 := Fr.app N0 M24
    replace X24 : Stand p l e R3 s m #[(.ref ax), (.int pp)] below meth c T24 _ 0 0 := X24
    have pre24 : ∀ t, Steps p.tables e below (T24.setTop (mkF m 27 #[.val (.ref ax), .val (.int pp), .val (.int (Int32.ofNat (pn / 64))), .unset] [(.int (r9 ((Int32.ofNat (pn / 64)) + (1 : Int32)) ((Int32.ofNat nn) * (2 : Int32))))])) t → Steps p.tables e below (s₁.setTop (entryFrame m #[(.ref ax), (.int pp)] 4)) t := fun t k => pre23 t (st24 t k)
    have pre25 : ∀ t, Steps p.tables e below (T24.setTop (mkF m 30 #[.val (.ref ax), .val (.int pp), .val (.int (Int32.ofNat (pn / 64))), .val (.int (Int32.ofNat (own_nl pn nn)))] [(.ref ax), (.ref ax)])) t → Steps p.tables e below (s₁.setTop (entryFrame m #[(.ref ax), (.int pp)] 4)) t := fun t k => pre24 t (by
      show Steps p.tables e below (T24.setTop (mkF m 27 #[.val (.ref ax), .val (.int pp), .val (.int (Int32.ofNat (pn / 64))), .unset] [(.int (r9 ((Int32.ofNat (pn / 64)) + (1 : Int32)) ((Int32.ofNat nn) * (2 : Int32))))])) _
      rw [own_nlp hpn (own_Gn256 hG)]
      show Steps p.tables e below (T24.setTop (mkF m 27 #[.val (.ref ax), .val (.int pp), .val (.int (Int32.ofNat (pn / 64))), .unset] [(.int (Int32.ofNat (own_nl pn nn)))])) _
      refine XS.istoreN X24.here hx rfl (hb hby d3_27) rfl (l' := #[.val (.ref ax), .val (.int pp), .val (.int (Int32.ofNat (pn / 64))), .val (.int (Int32.ofNat (own_nl pn nn)))]) rfl ?_
      show Steps p.tables e below (T24.setTop (mkF m 28 #[.val (.ref ax), .val (.int pp), .val (.int (Int32.ofNat (pn / 64))), .val (.int (Int32.ofNat (own_nl pn nn)))] [])) _
      refine XS.aloadN X24.here hx rfl (hb hby d3_28) rfl rfl ?_
      show Steps p.tables e below (T24.setTop (mkF m 29 #[.val (.ref ax), .val (.int pp), .val (.int (Int32.ofNat (pn / 64))), .val (.int (Int32.ofNat (own_nl pn nn)))] [(.ref ax)])) _
      refine XS.aloadN X24.here hx rfl (hb hby d3_29) rfl rfl ?_
      show Steps p.tables e below (T24.setTop (mkF m 30 #[.val (.ref ax), .val (.int pp), .val (.int (Int32.ofNat (pn / 64))), .val (.int (Int32.ofNat (own_nl pn nn)))] [(.ref ax), (.ref ax)])) _
      exact k)
    obtain ⟨T26, X26, e26, st26⟩ := getF X24 hx hZ hown (host := "") (Or.inl (hw _ (List.mem_of_getElem? (i := 10) rfl))) Via.refl e24 hFw (g := (mkF m 30 #[.val (.ref ax), .val (.int pp), .val (.int (Int32.ofNat (pn / 64))), .val (.int (Int32.ofNat (own_nl pn nn)))] [(.ref ax), (.ref ax)])) rfl rfl (hb hby d3_30)
    have pre26 : ∀ t, Steps p.tables e below (T26.setTop (mkF m 33 #[.val (.ref ax), .val (.int pp), .val (.int (Int32.ofNat (pn / 64))), .val (.int (Int32.ofNat (own_nl pn nn)))] [(.ref aw), (.ref ax)])) t → Steps p.tables e below (s₁.setTop (entryFrame m #[(.ref ax), (.int pp)] 4)) t := fun t k => pre25 t (st26 t k)
    have pre27 : ∀ t, Steps p.tables e below (T26.setTop (mkF m 34 #[.val (.ref ax), .val (.int pp), .val (.int (Int32.ofNat (pn / 64))), .val (.int (Int32.ofNat (own_nl pn nn)))] [(.int (Int32.ofNat (own_nl pn nn))), (.ref aw), (.ref ax)])) t → Steps p.tables e below (s₁.setTop (entryFrame m #[(.ref ax), (.int pp)] 4)) t := fun t k => pre26 t (by
      refine XS.iloadN X26.here hx rfl (hb hby d3_33) rfl ?_
      show Steps p.tables e below (T26.setTop (mkF m 34 #[.val (.ref ax), .val (.int pp), .val (.int (Int32.ofNat (pn / 64))), .val (.int (Int32.ofNat (own_nl pn nn)))] [(.int (Int32.ofNat (own_nl pn nn))), (.ref aw), (.ref ax)])) _
      exact k)
    obtain ⟨T28, h28, X28, e28, E28, B28, st28⟩ := own_copyJ X26 hx hZ hown (hw _ (List.mem_of_getElem? (i := 47) rfl)) (hw _ (List.mem_of_getElem? (i := 48) rfl)) (hw _ (List.mem_of_getElem? (i := 49) rfl)) (hw _ (List.mem_of_getElem? (i := 50) rfl)) (own_tab hw) e26 hAw (own_Gz hG) (N := (own_nl pn nn)) (cap := 256) (own_Gn hG) (by exact own_cap256 hpn hG hB) (g := (mkF m 34 #[.val (.ref ax), .val (.int pp), .val (.int (Int32.ofNat (pn / 64))), .val (.int (Int32.ofNat (own_nl pn nn)))] [(.int (Int32.ofNat (own_nl pn nn))), (.ref aw), (.ref ax)])) rfl (by rw [hml]; rfl) (rest := [(.ref ax)]) rfl (hb hby d3_34) (W := 1) (by show 2 * 0 + _ ≤ _; exact Nat.le_of_eq rfl) (by decide) (by decide) (by decide) (by decide) (by decide)
    obtain ⟨b28, q28⟩ : ∃ z, z = h0.size := ⟨_, rfl⟩
    rw [← q28] at B28 st28
    have ne_ax_b28 : ax ≠ b28 := Nat.ne_of_lt (Nat.lt_of_lt_of_le hE.lt (Nat.le_of_eq q28.symm))
    have ne_aw_b28 : aw ≠ b28 := Nat.ne_of_lt (Nat.lt_of_lt_of_le hAw.lt (Nat.le_of_eq q28.symm))
    have ne_ac_b28 : ac ≠ b28 := Nat.ne_of_lt (Nat.lt_of_lt_of_le hAo.lt (Nat.le_of_eq q28.symm))
    have g_b28 : n0 ≤ b28 := Nat.le_trans Z0 (Nat.le_of_eq q28.symm)
    have Ex29 : Exa Z h28 ax "relayout/PositionSet" := hE.ext E28
    have F30 : Fld Z h28 ax "relayout/PositionSet" "words" "[J" (.ref aw) := hFw.ext E28
    have F31 : Fld Z h28 ax "relayout/PositionSet" "occupied" "[J" (.ref ac) := hFo.ext E28
    have Ar32 : ArJ Z h28 aw  nn fw := hAw.ext E28
    have Ar33 : ArJ Z h28 ac  mm fo := hAo.ext E28
    have Z28 : n0 ≤ h28.size := Nat.le_trans Z0 E28.1
    have pre28 : ∀ t, Steps p.tables e below (T28.setTop (mkF m 37 #[.val (.ref ax), .val (.int pp), .val (.int (Int32.ofNat (pn / 64))), .val (.int (Int32.ofNat (own_nl pn nn)))] [(.ref b28), (.ref ax)])) t → Steps p.tables e below (s₁.setTop (entryFrame m #[(.ref ax), (.int pp)] 4)) t := fun t k => pre27 t (st28 t k)
    obtain ⟨T34, h34, X34, e34, W34, st34⟩ := putF X28 hx hZ hown (host := "") (Or.inl (hw _ (List.mem_of_getElem? (i := 10) rfl))) Via.refl e28 F30 Ex29 (Or.inl (hw _ (List.mem_of_getElem? (i := 11) rfl))) (hw _ (List.mem_of_getElem? (i := 1) rfl)) (ty := (.array .long)) (by decide) rfl rfl (g := (mkF m 37 #[.val (.ref ax), .val (.int pp), .val (.int (Int32.ofNat (pn / 64))), .val (.int (Int32.ofNat (own_nl pn nn)))] [(.ref b28), (.ref ax)])) rfl rfl (hb hby d3_37)
    have Ex35 : Exa Z h34 ax "relayout/PositionSet" := Ex29.wr W34
    have F36 : Fld Z h34 ax "relayout/PositionSet" "occupied" "[J" (.ref ac) := F31.other W34 (Or.inr (slot_ne (Or.inl (hw _ (List.mem_of_getElem? (i := 13) rfl))) (Or.inl (hw _ (List.mem_of_getElem? (i := 11) rfl))) (by decide) (t := (.array .long)) (t' := (.array .long)) (by decide) (by decide)))
    have Ar37 : ArJ Z h34 aw  nn fw := Ar32.other W34 (Ne.symm ne1)
    have Ar38 : ArJ Z h34 ac  mm fo := Ar33.other W34 (Ne.symm ne2)
    have Ar39 : ArJ Z h34 b28  (own_nl pn nn) fw := B28.other W34 (Ne.symm ne_ax_b28)
    have N34 := Fr.snoc X34 N24 g_ax
    have Z34 : n0 ≤ h34.size := Nat.le_trans Z28 (Keep.of_wr W34).1
    have F40 : Fld Z h34 ax "relayout/PositionSet" "words" "[J" (.ref b28) := F30.same W34
    have pre34 : ∀ t, Steps p.tables e below (T34.setTop (mkF m 40 #[.val (.ref ax), .val (.int pp), .val (.int (Int32.ofNat (pn / 64))), .val (.int (Int32.ofNat (own_nl pn nn)))] [])) t → Steps p.tables e below (s₁.setTop (entryFrame m #[(.ref ax), (.int pp)] 4)) t := fun t k => pre28 t (st34 t k)
    have pre41 : ∀ t, Steps p.tables e below (T34.setTop (mkF m 42 #[.val (.ref ax), .val (.int pp), .val (.int (Int32.ofNat (pn / 64))), .val (.int (Int32.ofNat (own_nl pn nn)))] [(.ref ax), (.ref ax)])) t → Steps p.tables e below (s₁.setTop (entryFrame m #[(.ref ax), (.int pp)] 4)) t := fun t k => pre34 t (by
      refine XS.aloadN X34.here hx rfl (hb hby d3_40) rfl rfl ?_
      show Steps p.tables e below (T34.setTop (mkF m 41 #[.val (.ref ax), .val (.int pp), .val (.int (Int32.ofNat (pn / 64))), .val (.int (Int32.ofNat (own_nl pn nn)))] [(.ref ax)])) _
      refine XS.aloadN X34.here hx rfl (hb hby d3_41) rfl rfl ?_
      show Steps p.tables e below (T34.setTop (mkF m 42 #[.val (.ref ax), .val (.int pp), .val (.int (Int32.ofNat (pn / 64))), .val (.int (Int32.ofNat (own_nl pn nn)))] [(.ref ax), (.ref ax)])) _
      exact k)
    obtain ⟨T42, X42, e42, st42⟩ := getF X34 hx hZ hown (host := "") (Or.inl (hw _ (List.mem_of_getElem? (i := 12) rfl))) Via.refl e34 F36 (g := (mkF m 42 #[.val (.ref ax), .val (.int pp), .val (.int (Int32.ofNat (pn / 64))), .val (.int (Int32.ofNat (own_nl pn nn)))] [(.ref ax), (.ref ax)])) rfl rfl (hb hby d3_42)
    have pre42 : ∀ t, Steps p.tables e below (T42.setTop (mkF m 45 #[.val (.ref ax), .val (.int pp), .val (.int (Int32.ofNat (pn / 64))), .val (.int (Int32.ofNat (own_nl pn nn)))] [(.ref ac), (.ref ax)])) t → Steps p.tables e below (s₁.setTop (entryFrame m #[(.ref ax), (.int pp)] 4)) t := fun t k => pre41 t (st42 t k)
    have pre43 : ∀ t, Steps p.tables e below (T42.setTop (mkF m 52 #[.val (.ref ax), .val (.int pp), .val (.int (Int32.ofNat (pn / 64))), .val (.int (Int32.ofNat (own_nl pn nn)))] [(.int (own_ushr ((Int32.ofNat (own_nl pn nn)) + (63 : Int32)) (6 : Int32))), (.ref ac), (.ref ax)])) t → Steps p.tables e below (s₁.setTop (entryFrame m #[(.ref ax), (.int pp)] 4)) t := fun t k => pre42 t (by
      refine XS.iloadN X42.here hx rfl (hb hby d3_45) rfl ?_
      show Steps p.tables e below (T42.setTop (mkF m 46 #[.val (.ref ax), .val (.int pp), .val (.int (Int32.ofNat (pn / 64))), .val (.int (Int32.ofNat (own_nl pn nn)))] [(.int (Int32.ofNat (own_nl pn nn))), (.ref ac), (.ref ax)])) _
      refine XS.bipush X42.here hx rfl (hb hby d3_46) ?_
      show Steps p.tables e below (T42.setTop (mkF m 48 #[.val (.ref ax), .val (.int pp), .val (.int (Int32.ofNat (pn / 64))), .val (.int (Int32.ofNat (own_nl pn nn)))] [(.int (63 : Int32)), (.int (Int32.ofNat (own_nl pn nn))), (.ref ac), (.ref ax)])) _
      refine XS.iadd X42.here hx rfl (hb hby d3_48) rfl ?_
      show Steps p.tables e below (T42.setTop (mkF m 49 #[.val (.ref ax), .val (.int pp), .val (.int (Int32.ofNat (pn / 64))), .val (.int (Int32.ofNat (own_nl pn nn)))] [(.int ((Int32.ofNat (own_nl pn nn)) + (63 : Int32))), (.ref ac), (.ref ax)])) _
      refine XS.bipush X42.here hx rfl (hb hby d3_49) ?_
      show Steps p.tables e below (T42.setTop (mkF m 51 #[.val (.ref ax), .val (.int pp), .val (.int (Int32.ofNat (pn / 64))), .val (.int (Int32.ofNat (own_nl pn nn)))] [(.int (6 : Int32)), (.int ((Int32.ofNat (own_nl pn nn)) + (63 : Int32))), (.ref ac), (.ref ax)])) _
      refine XS.iushr X42.here hx rfl (hb hby d3_51) rfl ?_
      show Steps p.tables e below (T42.setTop (mkF m 52 #[.val (.ref ax), .val (.int pp), .val (.int (Int32.ofNat (pn / 64))), .val (.int (Int32.ofNat (own_nl pn nn)))] [(.int (own_ushr ((Int32.ofNat (own_nl pn nn)) + (63 : Int32)) (6 : Int32))), (.ref ac), (.ref ax)])) _
      exact k)
    have pre44 : ∀ t, Steps p.tables e below (T42.setTop (mkF m 52 #[.val (.ref ax), .val (.int pp), .val (.int (Int32.ofNat (pn / 64))), .val (.int (Int32.ofNat (own_nl pn nn)))] [(.int (Int32.ofNat ((own_nl pn nn + 63) / 64))), (.ref ac), (.ref ax)])) t → Steps p.tables e below (s₁.setTop (entryFrame m #[(.ref ax), (.int pp)] 4)) t := fun t k => pre43 t (by
      rw [own_ol hpn (own_Gn256 hG)]
      show Steps p.tables e below (T42.setTop (mkF m 52 #[.val (.ref ax), .val (.int pp), .val (.int (Int32.ofNat (pn / 64))), .val (.int (Int32.ofNat (own_nl pn nn)))] [(.int (Int32.ofNat ((own_nl pn nn + 63) / 64))), (.ref ac), (.ref ax)])) _
      exact k)
    obtain ⟨T45, h45, X45, e45, E45, B45, st45⟩ := own_copyJ X42 hx hZ hown (hw _ (List.mem_of_getElem? (i := 47) rfl)) (hw _ (List.mem_of_getElem? (i := 48) rfl)) (hw _ (List.mem_of_getElem? (i := 49) rfl)) (hw _ (List.mem_of_getElem? (i := 50) rfl)) (own_tab hw) e42 Ar38 (own_Gzo hG) (N := ((own_nl pn nn + 63) / 64)) (cap := 4) (own_Gm31 hG) (by exact own_cap4 hpn hG hB) (g := (mkF m 52 #[.val (.ref ax), .val (.int pp), .val (.int (Int32.ofNat (pn / 64))), .val (.int (Int32.ofNat (own_nl pn nn)))] [(.int (Int32.ofNat ((own_nl pn nn + 63) / 64))), (.ref ac), (.ref ax)])) rfl (by rw [hml]; rfl) (rest := [(.ref ax)]) rfl (hb hby d3_52) (W := 1) (by show 2 * 0 + _ ≤ _; exact Nat.le_of_eq rfl) (by decide) (by decide) (by decide) (by decide) (by decide)
    obtain ⟨b45, q45⟩ : ∃ z, z = h34.size := ⟨_, rfl⟩
    rw [← q45] at B45 st45
    have ne_ax_b45 : ax ≠ b45 := Nat.ne_of_lt (Nat.lt_of_lt_of_le Ex35.lt (Nat.le_of_eq q45.symm))
    have ne_aw_b45 : aw ≠ b45 := Nat.ne_of_lt (Nat.lt_of_lt_of_le Ar37.lt (Nat.le_of_eq q45.symm))
    have ne_ac_b45 : ac ≠ b45 := Nat.ne_of_lt (Nat.lt_of_lt_of_le Ar38.lt (Nat.le_of_eq q45.symm))
    have ne_b28_b45 : b28 ≠ b45 := Nat.ne_of_lt (Nat.lt_of_lt_of_le Ar39.lt (Nat.le_of_eq q45.symm))
    have g_b45 : n0 ≤ b45 := Nat.le_trans Z34 (Nat.le_of_eq q45.symm)
    have Ex46 : Exa Z h45 ax "relayout/PositionSet" := Ex35.ext E45
    have F47 : Fld Z h45 ax "relayout/PositionSet" "words" "[J" (.ref b28) := F40.ext E45
    have F48 : Fld Z h45 ax "relayout/PositionSet" "occupied" "[J" (.ref ac) := F36.ext E45
    have Ar49 : ArJ Z h45 aw  nn fw := Ar37.ext E45
    have Ar50 : ArJ Z h45 ac  mm fo := Ar38.ext E45
    have Ar51 : ArJ Z h45 b28  (own_nl pn nn) fw := Ar39.ext E45
    have Z45 : n0 ≤ h45.size := Nat.le_trans Z34 E45.1
    have pre45 : ∀ t, Steps p.tables e below (T45.setTop (mkF m 55 #[.val (.ref ax), .val (.int pp), .val (.int (Int32.ofNat (pn / 64))), .val (.int (Int32.ofNat (own_nl pn nn)))] [(.ref b45), (.ref ax)])) t → Steps p.tables e below (s₁.setTop (entryFrame m #[(.ref ax), (.int pp)] 4)) t := fun t k => pre44 t (st45 t k)
    obtain ⟨T52, h52, X52, e52, W52, st52⟩ := putF X45 hx hZ hown (host := "") (Or.inl (hw _ (List.mem_of_getElem? (i := 12) rfl))) Via.refl e45 F48 Ex46 (Or.inl (hw _ (List.mem_of_getElem? (i := 13) rfl))) (hw _ (List.mem_of_getElem? (i := 1) rfl)) (ty := (.array .long)) (by decide) rfl rfl (g := (mkF m 55 #[.val (.ref ax), .val (.int pp), .val (.int (Int32.ofNat (pn / 64))), .val (.int (Int32.ofNat (own_nl pn nn)))] [(.ref b45), (.ref ax)])) rfl rfl (hb hby d3_55)
    have Ex53 : Exa Z h52 ax "relayout/PositionSet" := Ex46.wr W52
    have F54 : Fld Z h52 ax "relayout/PositionSet" "words" "[J" (.ref b28) := F47.other W52 (Or.inr (slot_ne (Or.inl (hw _ (List.mem_of_getElem? (i := 11) rfl))) (Or.inl (hw _ (List.mem_of_getElem? (i := 13) rfl))) (by decide) (t := (.array .long)) (t' := (.array .long)) (by decide) (by decide)))
    have Ar55 : ArJ Z h52 aw  nn fw := Ar49.other W52 (Ne.symm ne1)
    have Ar56 : ArJ Z h52 ac  mm fo := Ar50.other W52 (Ne.symm ne2)
    have Ar57 : ArJ Z h52 b28  (own_nl pn nn) fw := Ar51.other W52 (Ne.symm ne_ax_b28)
    have Ar58 : ArJ Z h52 b45  ((own_nl pn nn + 63) / 64) fo := B45.other W52 (Ne.symm ne_ax_b45)
    have N52 := Fr.snoc X52 N34 g_ax
    have Z52 : n0 ≤ h52.size := Nat.le_trans Z45 (Keep.of_wr W52).1
    have F59 : Fld Z h52 ax "relayout/PositionSet" "occupied" "[J" (.ref b45) := F48.same W52
    have pre52 : ∀ t, Steps p.tables e below (T52.setTop (mkF m 58 #[.val (.ref ax), .val (.int pp), .val (.int (Int32.ofNat (pn / 64))), .val (.int (Int32.ofNat (own_nl pn nn)))] [])) t → Steps p.tables e below (s₁.setTop (entryFrame m #[(.ref ax), (.int pp)] 4)) t := fun t k => pre45 t (st52 t k)
    have pre60 : ∀ t, Steps p.tables e below (T52.setTop (mkF m 59 #[.val (.ref ax), .val (.int pp), .val (.int (Int32.ofNat (pn / 64))), .val (.int (Int32.ofNat (own_nl pn nn)))] [(.ref ax)])) t → Steps p.tables e below (s₁.setTop (entryFrame m #[(.ref ax), (.int pp)] 4)) t := fun t k => pre52 t (by
      refine XS.aloadN X52.here hx rfl (hb hby d3_58) rfl rfl ?_
      show Steps p.tables e below (T52.setTop (mkF m 59 #[.val (.ref ax), .val (.int pp), .val (.int (Int32.ofNat (pn / 64))), .val (.int (Int32.ofNat (own_nl pn nn)))] [(.ref ax)])) _
      exact k)
    obtain ⟨T61, X61, e61, st61⟩ := getF X52 hx hZ hown (host := "") (Or.inl (hw _ (List.mem_of_getElem? (i := 10) rfl))) Via.refl e52 F54 (g := (mkF m 59 #[.val (.ref ax), .val (.int pp), .val (.int (Int32.ofNat (pn / 64))), .val (.int (Int32.ofNat (own_nl pn nn)))] [(.ref ax)])) rfl rfl (hb hby d3_59)
    have pre61 : ∀ t, Steps p.tables e below (T61.setTop (mkF m 62 #[.val (.ref ax), .val (.int pp), .val (.int (Int32.ofNat (pn / 64))), .val (.int (Int32.ofNat (own_nl pn nn)))] [(.ref b28)])) t → Steps p.tables e below (s₁.setTop (entryFrame m #[(.ref ax), (.int pp)] 4)) t := fun t k => pre60 t (st61 t k)
    have pre62 : ∀ t, Steps p.tables e below (T61.setTop (mkF m 69 #[.val (.ref ax), .val (.int pp), .val (.int (Int32.ofNat (pn / 64))), .val (.int (Int32.ofNat (own_nl pn nn)))] [(.long ((fw (pn / 64)) ||| (own_shlL (1 : Int64) pp))), (.int (Int32.ofNat (pn / 64))), (.ref b28)])) t → Steps p.tables e below (s₁.setTop (entryFrame m #[(.ref ax), (.int pp)] 4)) t := fun t k => pre61 t (by
      refine XS.iloadN X61.here hx rfl (hb hby d3_62) rfl ?_
      show Steps p.tables e below (T61.setTop (mkF m 63 #[.val (.ref ax), .val (.int pp), .val (.int (Int32.ofNat (pn / 64))), .val (.int (Int32.ofNat (own_nl pn nn)))] [(.int (Int32.ofNat (pn / 64))), (.ref b28)])) _
      refine Jvm.Free.XT.dup2 X61.here hx rfl (hb hby d3_63) rfl rfl rfl ?_
      show Steps p.tables e below (T61.setTop (mkF m 64 #[.val (.ref ax), .val (.int pp), .val (.int (Int32.ofNat (pn / 64))), .val (.int (Int32.ofNat (own_nl pn nn)))] [(.int (Int32.ofNat (pn / 64))), (.ref b28), (.int (Int32.ofNat (pn / 64))), (.ref b28)])) _
      refine own_ldJ X61 hx hZ e61 Ar57 (j := (Int32.ofNat (pn / 64))) (i := (pn / 64)) (own_at32 (own_pl hpn)) (by exact own_ngl pn nn) (g := (mkF m 64 #[.val (.ref ax), .val (.int pp), .val (.int (Int32.ofNat (pn / 64))), .val (.int (Int32.ofNat (own_nl pn nn)))] [(.int (Int32.ofNat (pn / 64))), (.ref b28), (.int (Int32.ofNat (pn / 64))), (.ref b28)])) rfl rfl (hb hby d3_64) _ ?_
      show Steps p.tables e below (T61.setTop (mkF m 65 #[.val (.ref ax), .val (.int pp), .val (.int (Int32.ofNat (pn / 64))), .val (.int (Int32.ofNat (own_nl pn nn)))] [(.long (fw (pn / 64))), (.int (Int32.ofNat (pn / 64))), (.ref b28)])) _
      refine XS.lconst X61.here hx rfl (hb hby d3_65) ?_
      show Steps p.tables e below (T61.setTop (mkF m 66 #[.val (.ref ax), .val (.int pp), .val (.int (Int32.ofNat (pn / 64))), .val (.int (Int32.ofNat (own_nl pn nn)))] [(.long (1 : Int64)), (.long (fw (pn / 64))), (.int (Int32.ofNat (pn / 64))), (.ref b28)])) _
      refine XS.iloadN X61.here hx rfl (hb hby d3_66) rfl ?_
      show Steps p.tables e below (T61.setTop (mkF m 67 #[.val (.ref ax), .val (.int pp), .val (.int (Int32.ofNat (pn / 64))), .val (.int (Int32.ofNat (own_nl pn nn)))] [(.int pp), (.long (1 : Int64)), (.long (fw (pn / 64))), (.int (Int32.ofNat (pn / 64))), (.ref b28)])) _
      refine XS.lshl X61.here hx rfl (hb hby d3_67) rfl ?_
      show Steps p.tables e below (T61.setTop (mkF m 68 #[.val (.ref ax), .val (.int pp), .val (.int (Int32.ofNat (pn / 64))), .val (.int (Int32.ofNat (own_nl pn nn)))] [(.long (own_shlL (1 : Int64) pp)), (.long (fw (pn / 64))), (.int (Int32.ofNat (pn / 64))), (.ref b28)])) _
      refine XS.lor X61.here hx rfl (hb hby d3_68) rfl ?_
      show Steps p.tables e below (T61.setTop (mkF m 69 #[.val (.ref ax), .val (.int pp), .val (.int (Int32.ofNat (pn / 64))), .val (.int (Int32.ofNat (own_nl pn nn)))] [(.long ((fw (pn / 64)) ||| (own_shlL (1 : Int64) pp))), (.int (Int32.ofNat (pn / 64))), (.ref b28)])) _
      exact k)
    obtain ⟨T63, h63, X63, e63, W63, B63, st63⟩ := own_stJ X61 hx hZ e61 Ar57 (j := (Int32.ofNat (pn / 64))) (i := (pn / 64)) (own_at32 (own_pl hpn)) (by exact own_ngl pn nn) (g := (mkF m 69 #[.val (.ref ax), .val (.int pp), .val (.int (Int32.ofNat (pn / 64))), .val (.int (Int32.ofNat (own_nl pn nn)))] [(.long ((fw (pn / 64)) ||| (own_shlL (1 : Int64) pp))), (.int (Int32.ofNat (pn / 64))), (.ref b28)])) rfl rfl (hb hby d3_69)
    have Ex64 : Exa Z h63 ax "relayout/PositionSet" := Ex53.wr W63
    have F65 : Fld Z h63 ax "relayout/PositionSet" "words" "[J" (.ref b28) := F54.other W63 (Or.inl ne_ax_b28)
    have F66 : Fld Z h63 ax "relayout/PositionSet" "occupied" "[J" (.ref b45) := F59.other W63 (Or.inl ne_ax_b28)
    have Ar67 : ArJ Z h63 aw  nn fw := Ar55.other W63 ne_aw_b28
    have Ar68 : ArJ Z h63 ac  mm fo := Ar56.other W63 ne_ac_b28
    have Ar69 : ArJ Z h63 b45  ((own_nl pn nn + 63) / 64) fo := Ar58.other W63 (Ne.symm ne_b28_b45)
    have N63 := Fr.snoc X63 N52 g_b28
    have Z63 : n0 ≤ h63.size := Nat.le_trans Z52 (Keep.of_wr W63).1
    have pre63 : ∀ t, Steps p.tables e below (T63.setTop (mkF m 70 #[.val (.ref ax), .val (.int pp), .val (.int (Int32.ofNat (pn / 64))), .val (.int (Int32.ofNat (own_nl pn nn)))] [])) t → Steps p.tables e below (s₁.setTop (entryFrame m #[(.ref ax), (.int pp)] 4)) t := fun t k => pre62 t (st63 t k)
    have pre70 : ∀ t, Steps p.tables e below (T63.setTop (mkF m 71 #[.val (.ref ax), .val (.int pp), .val (.int (Int32.ofNat (pn / 64))), .val (.int (Int32.ofNat (own_nl pn nn)))] [(.ref ax)])) t → Steps p.tables e below (s₁.setTop (entryFrame m #[(.ref ax), (.int pp)] 4)) t := fun t k => pre63 t (by
      refine XS.aloadN X63.here hx rfl (hb hby d3_70) rfl rfl ?_
      show Steps p.tables e below (T63.setTop (mkF m 71 #[.val (.ref ax), .val (.int pp), .val (.int (Int32.ofNat (pn / 64))), .val (.int (Int32.ofNat (own_nl pn nn)))] [(.ref ax)])) _
      exact k)
    obtain ⟨T71, X71, e71, st71⟩ := getF X63 hx hZ hown (host := "") (Or.inl (hw _ (List.mem_of_getElem? (i := 12) rfl))) Via.refl e63 F66 (g := (mkF m 71 #[.val (.ref ax), .val (.int pp), .val (.int (Int32.ofNat (pn / 64))), .val (.int (Int32.ofNat (own_nl pn nn)))] [(.ref ax)])) rfl rfl (hb hby d3_71)
    have pre71 : ∀ t, Steps p.tables e below (T71.setTop (mkF m 74 #[.val (.ref ax), .val (.int pp), .val (.int (Int32.ofNat (pn / 64))), .val (.int (Int32.ofNat (own_nl pn nn)))] [(.ref b45)])) t → Steps p.tables e below (s₁.setTop (entryFrame m #[(.ref ax), (.int pp)] 4)) t := fun t k => pre70 t (st71 t k)
    have pre72 : ∀ t, Steps p.tables e below (T71.setTop (mkF m 84 #[.val (.ref ax), .val (.int pp), .val (.int (Int32.ofNat (pn / 64))), .val (.int (Int32.ofNat (own_nl pn nn)))] [(.long ((fo (pn / 64 / 64)) ||| (own_shlL (1 : Int64) (Int32.ofNat (pn / 64))))), (.int (Int32.ofNat (pn / 64 / 64))), (.ref b45)])) t → Steps p.tables e below (s₁.setTop (entryFrame m #[(.ref ax), (.int pp)] 4)) t := fun t k => pre71 t (by
      refine XS.iloadN X71.here hx rfl (hb hby d3_74) rfl ?_
      show Steps p.tables e below (T71.setTop (mkF m 75 #[.val (.ref ax), .val (.int pp), .val (.int (Int32.ofNat (pn / 64))), .val (.int (Int32.ofNat (own_nl pn nn)))] [(.int (Int32.ofNat (pn / 64))), (.ref b45)])) _
      refine XS.bipush X71.here hx rfl (hb hby d3_75) ?_
      show Steps p.tables e below (T71.setTop (mkF m 77 #[.val (.ref ax), .val (.int pp), .val (.int (Int32.ofNat (pn / 64))), .val (.int (Int32.ofNat (own_nl pn nn)))] [(.int (6 : Int32)), (.int (Int32.ofNat (pn / 64))), (.ref b45)])) _
      refine XS.iushr X71.here hx rfl (hb hby d3_77) rfl ?_
      show Steps p.tables e below (T71.setTop (mkF m 78 #[.val (.ref ax), .val (.int pp), .val (.int (Int32.ofNat (pn / 64))), .val (.int (Int32.ofNat (own_nl pn nn)))] [(.int (own_ushr (Int32.ofNat (pn / 64)) (6 : Int32))), (.ref b45)])) _
      rw [own_on6 _ (own_pl4 hpn)]
      show Steps p.tables e below (T71.setTop (mkF m 78 #[.val (.ref ax), .val (.int pp), .val (.int (Int32.ofNat (pn / 64))), .val (.int (Int32.ofNat (own_nl pn nn)))] [(.int (Int32.ofNat (pn / 64 / 64))), (.ref b45)])) _
      refine Jvm.Free.XT.dup2 X71.here hx rfl (hb hby d3_78) rfl rfl rfl ?_
      show Steps p.tables e below (T71.setTop (mkF m 79 #[.val (.ref ax), .val (.int pp), .val (.int (Int32.ofNat (pn / 64))), .val (.int (Int32.ofNat (own_nl pn nn)))] [(.int (Int32.ofNat (pn / 64 / 64))), (.ref b45), (.int (Int32.ofNat (pn / 64 / 64))), (.ref b45)])) _
      refine own_ldJ X71 hx hZ e71 Ar69 (j := (Int32.ofNat (pn / 64 / 64))) (i := (pn / 64 / 64)) (own_at32 (own_pl2 hpn)) (by exact own_ngl2 pn nn) (g := (mkF m 79 #[.val (.ref ax), .val (.int pp), .val (.int (Int32.ofNat (pn / 64))), .val (.int (Int32.ofNat (own_nl pn nn)))] [(.int (Int32.ofNat (pn / 64 / 64))), (.ref b45), (.int (Int32.ofNat (pn / 64 / 64))), (.ref b45)])) rfl rfl (hb hby d3_79) _ ?_
      show Steps p.tables e below (T71.setTop (mkF m 80 #[.val (.ref ax), .val (.int pp), .val (.int (Int32.ofNat (pn / 64))), .val (.int (Int32.ofNat (own_nl pn nn)))] [(.long (fo (pn / 64 / 64))), (.int (Int32.ofNat (pn / 64 / 64))), (.ref b45)])) _
      refine XS.lconst X71.here hx rfl (hb hby d3_80) ?_
      show Steps p.tables e below (T71.setTop (mkF m 81 #[.val (.ref ax), .val (.int pp), .val (.int (Int32.ofNat (pn / 64))), .val (.int (Int32.ofNat (own_nl pn nn)))] [(.long (1 : Int64)), (.long (fo (pn / 64 / 64))), (.int (Int32.ofNat (pn / 64 / 64))), (.ref b45)])) _
      refine XS.iloadN X71.here hx rfl (hb hby d3_81) rfl ?_
      show Steps p.tables e below (T71.setTop (mkF m 82 #[.val (.ref ax), .val (.int pp), .val (.int (Int32.ofNat (pn / 64))), .val (.int (Int32.ofNat (own_nl pn nn)))] [(.int (Int32.ofNat (pn / 64))), (.long (1 : Int64)), (.long (fo (pn / 64 / 64))), (.int (Int32.ofNat (pn / 64 / 64))), (.ref b45)])) _
      refine XS.lshl X71.here hx rfl (hb hby d3_82) rfl ?_
      show Steps p.tables e below (T71.setTop (mkF m 83 #[.val (.ref ax), .val (.int pp), .val (.int (Int32.ofNat (pn / 64))), .val (.int (Int32.ofNat (own_nl pn nn)))] [(.long (own_shlL (1 : Int64) (Int32.ofNat (pn / 64)))), (.long (fo (pn / 64 / 64))), (.int (Int32.ofNat (pn / 64 / 64))), (.ref b45)])) _
      refine XS.lor X71.here hx rfl (hb hby d3_83) rfl ?_
      show Steps p.tables e below (T71.setTop (mkF m 84 #[.val (.ref ax), .val (.int pp), .val (.int (Int32.ofNat (pn / 64))), .val (.int (Int32.ofNat (own_nl pn nn)))] [(.long ((fo (pn / 64 / 64)) ||| (own_shlL (1 : Int64) (Int32.ofNat (pn / 64))))), (.int (Int32.ofNat (pn / 64 / 64))), (.ref b45)])) _
      exact k)
    obtain ⟨T73, h73, X73, e73, W73, B73, st73⟩ := own_stJ X71 hx hZ e71 Ar69 (j := (Int32.ofNat (pn / 64 / 64))) (i := (pn / 64 / 64)) (own_at32 (own_pl2 hpn)) (by exact own_ngl2 pn nn) (g := (mkF m 84 #[.val (.ref ax), .val (.int pp), .val (.int (Int32.ofNat (pn / 64))), .val (.int (Int32.ofNat (own_nl pn nn)))] [(.long ((fo (pn / 64 / 64)) ||| (own_shlL (1 : Int64) (Int32.ofNat (pn / 64))))), (.int (Int32.ofNat (pn / 64 / 64))), (.ref b45)])) rfl rfl (hb hby d3_84)
    have Ex74 : Exa Z h73 ax "relayout/PositionSet" := Ex64.wr W73
    have F75 : Fld Z h73 ax "relayout/PositionSet" "words" "[J" (.ref b28) := F65.other W73 (Or.inl ne_ax_b45)
    have F76 : Fld Z h73 ax "relayout/PositionSet" "occupied" "[J" (.ref b45) := F66.other W73 (Or.inl ne_ax_b45)
    have Ar77 : ArJ Z h73 aw  nn fw := Ar67.other W73 ne_aw_b45
    have Ar78 : ArJ Z h73 ac  mm fo := Ar68.other W73 ne_ac_b45
    have Ar79 : ArJ Z h73 b28  (own_nl pn nn) (own_updJ fw (pn / 64) ((fw (pn / 64)) ||| (own_shlL (1 : Int64) pp))) := B63.other W73 ne_b28_b45
    have N73 := Fr.snoc X73 N63 g_b45
    have Z73 : n0 ≤ h73.size := Nat.le_trans Z63 (Keep.of_wr W73).1
    have pre73 : ∀ t, Steps p.tables e below (T73.setTop (mkF m 85 #[.val (.ref ax), .val (.int pp), .val (.int (Int32.ofNat (pn / 64))), .val (.int (Int32.ofNat (own_nl pn nn)))] [])) t → Steps p.tables e below (s₁.setTop (entryFrame m #[(.ref ax), (.int pp)] 4)) t := fun t k => pre72 t (st73 t k)
    obtain ⟨fs, hr, hrun, hended, hW, hsame⟩ := X73.leave (v := none) (fun _ => rfl) Bd.notSynchronized
    refine ⟨_, _, pre73 _ ?_, hrun, hended, _, _, rfl, ?_, ⟨_, rfl⟩, hW, hsame.mono (by decide) (by decide)⟩
    · show Steps p.tables e below (T73.setTop (mkF m 85 #[.val (.ref ax), .val (.int pp), .val (.int (Int32.ofNat (pn / 64))), .val (.int (Int32.ofNat (own_nl pn nn)))] [])) _
      exact X73.returnOut hx Bd.returns (hb hby d3_85) hr
    · show Q3 Z ax pp B S pn h0 n0 _ T73.heap _
      rw [e73]
      exact ⟨rfl, N73, Z73, ⟨b28, b45, _, _, _, _, Ex74, F75, F76, Ar79, B73, ne_b28_b45, g_b28, g_b45, (own_GaddG hG hp hpn hB (own_ge32 hc11_4 (own_pl hpn) (own_Gn hG)))⟩⟩
abbrev R5 : Room := { frames := 2, cells := 0, slots := 0, locals := 40 }
theorem d5_94 : decode prog_24_method_5_code 94 = .ok (.lload 8, 2) := by decide +kernel
theorem d5_96 : decode prog_24_method_5_code 96 = .ok (.lconst 0, 1) := by decide +kernel
theorem d5_97 : decode prog_24_method_5_code 97 = .ok (.lcmp, 1) := by decide +kernel
theorem d5_98 : decode prog_24_method_5_code 98 = .ok (.ifCond .ne 30, 3) := by decide +kernel
theorem d5_101 : decode prog_24_method_5_code 101 = .ok (.iload 7, 2) := by decide +kernel
theorem d5_103 : decode prog_24_method_5_code 103 = .ok (.iconst 1, 1) := by decide +kernel
theorem d5_104 : decode prog_24_method_5_code 104 = .ok (.iadd, 1) := by decide +kernel
theorem d5_105 : decode prog_24_method_5_code 105 = .ok (.aload_n 0, 1) := by decide +kernel
theorem d5_106 : decode prog_24_method_5_code 106 = .ok (.getfield 13, 3) := by decide +kernel
theorem d5_109 : decode prog_24_method_5_code 109 = .ok (.arraylength, 1) := by decide +kernel
theorem d5_110 : decode prog_24_method_5_code 110 = .ok (.if_icmp .ge 18, 3) := by decide +kernel
theorem d5_113 : decode prog_24_method_5_code 113 = .ok (.iinc 7 1, 3) := by decide +kernel
theorem d5_116 : decode prog_24_method_5_code 116 = .ok (.aload_n 0, 1) := by decide +kernel
theorem d5_117 : decode prog_24_method_5_code 117 = .ok (.getfield 13, 3) := by decide +kernel
theorem d5_120 : decode prog_24_method_5_code 120 = .ok (.iload 7, 2) := by decide +kernel
theorem d5_122 : decode prog_24_method_5_code 122 = .ok (.laload, 1) := by decide +kernel
theorem d5_123 : decode prog_24_method_5_code 123 = .ok (.lstore 8, 2) := by decide +kernel
theorem d5_125 : decode prog_24_method_5_code 125 = .ok (.goto (-31), 3) := by decide +kernel
set_option maxRecDepth 65536 in
set_option maxHeartbeats 40000000 in
theorem nx_go {p : Program} {l : Launch} {e : Env} {s : State} {m : MethodId} {args : Array Value} {below : List Frame} {meth : Method} {c : Code} {T0 : State} {locs : List Loc} {Z : State} {a0 : Array Value} {h0 : Heap} {n0 : Nat} (ax : Addr) (pq : Int32) (pi : Int32) (wd : Int64) (pw : Int32) (gg : Nat) (oc : Int64) (ac : Addr) (mm : Nat) (fo : Nat → Int64)
    (X0 : Stand p l e R5 s m args below meth c T0 locs 0 0) (hx : p.tables.exec = Jvm.exec) (hZ : Z.Warmed39 s.vm) (hw : ∀ d ∈ tables_1, d.before a0 Z = true) (hby : c.code = prog_24_method_5_code) (hml : c.maxLocals = 11) (hown : s.vm.findClass "relayout/PositionSet" = some m.cls) (e0 : T0.heap = h0) (N0 : Fr n0 locs) (Z0 : n0 ≤ h0.size) (hFo : Fld Z h0 ax "relayout/PositionSet" "occupied" "[J" (.ref ac)) (hAo : ArJ Z h0 ac mm fo) (h0c : oc = (0 : Int64)) (hlt : (Int32.ofNat gg + (1 : Int32)) < (Int32.ofNat mm)) (hix : ¬ ((Int32.ofNat gg) + (1 : Int32)) < 0 ∧ ((Int32.ofNat gg) + (1 : Int32)).toNatClampNeg = (gg + 1)) (hil : gg + 1 < mm) :
    ∃ (T' : State) (L' : List Loc), Stand p l e R5 s m args below meth c T' L' 0 0 ∧ T'.heap = h0 ∧ Fr n0 L' ∧ ∀ t, Steps p.tables e below (T'.setTop (mkF m 94 #[.val (.ref ax), .val (.int pq), .val (.int pi), .val (.long wd), .second, .val (.int (-1 : Int32)), .val (.int pw), .val (.int ((Int32.ofNat gg) + (1 : Int32))), .val (.long (fo (gg + 1))), .second, .unset] [])) t → Steps p.tables e below (T0.setTop (mkF m 94 #[.val (.ref ax), .val (.int pq), .val (.int pi), .val (.long wd), .second, .val (.int (-1 : Int32)), .val (.int pw), .val (.int (Int32.ofNat gg)), .val (.long oc), .second, .unset] [])) t := by
  have pre0 : ∀ t, Steps p.tables e below (T0.setTop (mkF m 94 #[.val (.ref ax), .val (.int pq), .val (.int pi), .val (.long wd), .second, .val (.int (-1 : Int32)), .val (.int pw), .val (.int (Int32.ofNat gg)), .val (.long oc), .second, .unset] [])) t → Steps p.tables e below (T0.setTop (mkF m 94 #[.val (.ref ax), .val (.int pq), .val (.int pi), .val (.long wd), .second, .val (.int (-1 : Int32)), .val (.int pw), .val (.int (Int32.ofNat gg)), .val (.long oc), .second, .unset] [])) t := fun t k => k
  have pre2 : ∀ t, Steps p.tables e below (T0.setTop (mkF m 106 #[.val (.ref ax), .val (.int pq), .val (.int pi), .val (.long wd), .second, .val (.int (-1 : Int32)), .val (.int pw), .val (.int (Int32.ofNat gg)), .val (.long oc), .second, .unset] [(.ref ax), (.int ((Int32.ofNat gg) + (1 : Int32)))])) t → Steps p.tables e below (T0.setTop (mkF m 94 #[.val (.ref ax), .val (.int pq), .val (.int pi), .val (.long wd), .second, .val (.int (-1 : Int32)), .val (.int pw), .val (.int (Int32.ofNat gg)), .val (.long oc), .second, .unset] [])) t := fun t k => pre0 t (by
    refine XS.lload X0.here hx rfl (hb hby d5_94) rfl ?_
    show Steps p.tables e below (T0.setTop (mkF m 96 #[.val (.ref ax), .val (.int pq), .val (.int pi), .val (.long wd), .second, .val (.int (-1 : Int32)), .val (.int pw), .val (.int (Int32.ofNat gg)), .val (.long oc), .second, .unset] [(.long oc)])) _
    refine XS.lconst X0.here hx rfl (hb hby d5_96) ?_
    show Steps p.tables e below (T0.setTop (mkF m 97 #[.val (.ref ax), .val (.int pq), .val (.int pi), .val (.long wd), .second, .val (.int (-1 : Int32)), .val (.int pw), .val (.int (Int32.ofNat gg)), .val (.long oc), .second, .unset] [(.long (0 : Int64)), (.long oc)])) _
    refine XS.lcmp X0.here hx rfl (hb hby d5_97) rfl ?_
    show Steps p.tables e below (T0.setTop (mkF m 98 #[.val (.ref ax), .val (.int pq), .val (.int pi), .val (.long wd), .second, .val (.int (-1 : Int32)), .val (.int pw), .val (.int (Int32.ofNat gg)), .val (.long oc), .second, .unset] [(.int (lcmpW oc (0 : Int64)))])) _
    refine XS.ifNo X0.here hx rfl (hb hby d5_98) rfl ((if0 _ _).trans (teq ((lw_eq oc (0 : Int64)).mpr (show oc = (0 : Int64) from h0c))).2) ?_
    show Steps p.tables e below (T0.setTop (mkF m 101 #[.val (.ref ax), .val (.int pq), .val (.int pi), .val (.long wd), .second, .val (.int (-1 : Int32)), .val (.int pw), .val (.int (Int32.ofNat gg)), .val (.long oc), .second, .unset] [])) _
    refine XS.iload X0.here hx rfl (hb hby d5_101) rfl ?_
    show Steps p.tables e below (T0.setTop (mkF m 103 #[.val (.ref ax), .val (.int pq), .val (.int pi), .val (.long wd), .second, .val (.int (-1 : Int32)), .val (.int pw), .val (.int (Int32.ofNat gg)), .val (.long oc), .second, .unset] [(.int (Int32.ofNat gg))])) _
    refine XS.iconst X0.here hx rfl (hb hby d5_103) ?_
    show Steps p.tables e below (T0.setTop (mkF m 104 #[.val (.ref ax), .val (.int pq), .val (.int pi), .val (.long wd), .second, .val (.int (-1 : Int32)), .val (.int pw), .val (.int (Int32.ofNat gg)), .val (.long oc), .second, .unset] [(.int (1 : Int32)), (.int (Int32.ofNat gg))])) _
    refine XS.iadd X0.here hx rfl (hb hby d5_104) rfl ?_
    show Steps p.tables e below (T0.setTop (mkF m 105 #[.val (.ref ax), .val (.int pq), .val (.int pi), .val (.long wd), .second, .val (.int (-1 : Int32)), .val (.int pw), .val (.int (Int32.ofNat gg)), .val (.long oc), .second, .unset] [(.int ((Int32.ofNat gg) + (1 : Int32)))])) _
    refine XS.aloadN X0.here hx rfl (hb hby d5_105) rfl rfl ?_
    show Steps p.tables e below (T0.setTop (mkF m 106 #[.val (.ref ax), .val (.int pq), .val (.int pi), .val (.long wd), .second, .val (.int (-1 : Int32)), .val (.int pw), .val (.int (Int32.ofNat gg)), .val (.long oc), .second, .unset] [(.ref ax), (.int ((Int32.ofNat gg) + (1 : Int32)))])) _
    exact k)
  obtain ⟨T3, X3, e3, st3⟩ := getF X0 hx hZ hown (host := "") (Or.inl (hw _ (List.mem_of_getElem? (i := 12) rfl))) Via.refl e0 hFo (g := (mkF m 106 #[.val (.ref ax), .val (.int pq), .val (.int pi), .val (.long wd), .second, .val (.int (-1 : Int32)), .val (.int pw), .val (.int (Int32.ofNat gg)), .val (.long oc), .second, .unset] [(.ref ax), (.int ((Int32.ofNat gg) + (1 : Int32)))])) rfl rfl (hb hby d5_106)
  have pre3 : ∀ t, Steps p.tables e below (T3.setTop (mkF m 109 #[.val (.ref ax), .val (.int pq), .val (.int pi), .val (.long wd), .second, .val (.int (-1 : Int32)), .val (.int pw), .val (.int (Int32.ofNat gg)), .val (.long oc), .second, .unset] [(.ref ac), (.int ((Int32.ofNat gg) + (1 : Int32)))])) t → Steps p.tables e below (T0.setTop (mkF m 94 #[.val (.ref ax), .val (.int pq), .val (.int pi), .val (.long wd), .second, .val (.int (-1 : Int32)), .val (.int pw), .val (.int (Int32.ofNat gg)), .val (.long oc), .second, .unset] [])) t := fun t k => pre2 t (st3 t k)
  have pre5 : ∀ t, Steps p.tables e below (T3.setTop (mkF m 117 #[.val (.ref ax), .val (.int pq), .val (.int pi), .val (.long wd), .second, .val (.int (-1 : Int32)), .val (.int pw), .val (.int ((Int32.ofNat gg) + (1 : Int32))), .val (.long oc), .second, .unset] [(.ref ax)])) t → Steps p.tables e below (T0.setTop (mkF m 94 #[.val (.ref ax), .val (.int pq), .val (.int pi), .val (.long wd), .second, .val (.int (-1 : Int32)), .val (.int pw), .val (.int (Int32.ofNat gg)), .val (.long oc), .second, .unset] [])) t := fun t k => pre3 t (by
    refine own_lenJ X3 hx hZ e3 hAo rfl (g := (mkF m 109 #[.val (.ref ax), .val (.int pq), .val (.int pi), .val (.long wd), .second, .val (.int (-1 : Int32)), .val (.int pw), .val (.int (Int32.ofNat gg)), .val (.long oc), .second, .unset] [(.ref ac), (.int ((Int32.ofNat gg) + (1 : Int32)))])) rfl rfl (hb hby d5_109) _ ?_
    show Steps p.tables e below (T3.setTop (mkF m 110 #[.val (.ref ax), .val (.int pq), .val (.int pi), .val (.long wd), .second, .val (.int (-1 : Int32)), .val (.int pw), .val (.int (Int32.ofNat gg)), .val (.long oc), .second, .unset] [(.int (Int32.ofNat mm)), (.int ((Int32.ofNat gg) + (1 : Int32)))])) _
    refine XS.icmpNo X3.here hx rfl (hb hby d5_110) rfl (tlt (show ((Int32.ofNat gg) + (1 : Int32)) < (Int32.ofNat mm) from hlt)).2.1 ?_
    show Steps p.tables e below (T3.setTop (mkF m 113 #[.val (.ref ax), .val (.int pq), .val (.int pi), .val (.long wd), .second, .val (.int (-1 : Int32)), .val (.int pw), .val (.int (Int32.ofNat gg)), .val (.long oc), .second, .unset] [])) _
    refine XS.iinc X3.here hx rfl (hb hby d5_113) rfl (l' := #[.val (.ref ax), .val (.int pq), .val (.int pi), .val (.long wd), .second, .val (.int (-1 : Int32)), .val (.int pw), .val (.int ((Int32.ofNat gg) + (1 : Int32))), .val (.long oc), .second, .unset]) rfl ?_
    show Steps p.tables e below (T3.setTop (mkF m 116 #[.val (.ref ax), .val (.int pq), .val (.int pi), .val (.long wd), .second, .val (.int (-1 : Int32)), .val (.int pw), .val (.int ((Int32.ofNat gg) + (1 : Int32))), .val (.long oc), .second, .unset] [])) _
    refine XS.aloadN X3.here hx rfl (hb hby d5_116) rfl rfl ?_
    show Steps p.tables e below (T3.setTop (mkF m 117 #[.val (.ref ax), .val (.int pq), .val (.int pi), .val (.long wd), .second, .val (.int (-1 : Int32)), .val (.int pw), .val (.int ((Int32.ofNat gg) + (1 : Int32))), .val (.long oc), .second, .unset] [(.ref ax)])) _
    exact k)
  obtain ⟨T6, X6, e6, st6⟩ := getF X3 hx hZ hown (host := "") (Or.inl (hw _ (List.mem_of_getElem? (i := 12) rfl))) Via.refl e3 hFo (g := (mkF m 117 #[.val (.ref ax), .val (.int pq), .val (.int pi), .val (.long wd), .second, .val (.int (-1 : Int32)), .val (.int pw), .val (.int ((Int32.ofNat gg) + (1 : Int32))), .val (.long oc), .second, .unset] [(.ref ax)])) rfl rfl (hb hby d5_117)
  have pre6 : ∀ t, Steps p.tables e below (T6.setTop (mkF m 120 #[.val (.ref ax), .val (.int pq), .val (.int pi), .val (.long wd), .second, .val (.int (-1 : Int32)), .val (.int pw), .val (.int ((Int32.ofNat gg) + (1 : Int32))), .val (.long oc), .second, .unset] [(.ref ac)])) t → Steps p.tables e below (T0.setTop (mkF m 94 #[.val (.ref ax), .val (.int pq), .val (.int pi), .val (.long wd), .second, .val (.int (-1 : Int32)), .val (.int pw), .val (.int (Int32.ofNat gg)), .val (.long oc), .second, .unset] [])) t := fun t k => pre5 t (st6 t k)
  have pre7 : ∀ t, Steps p.tables e below (T6.setTop (mkF m 94 #[.val (.ref ax), .val (.int pq), .val (.int pi), .val (.long wd), .second, .val (.int (-1 : Int32)), .val (.int pw), .val (.int ((Int32.ofNat gg) + (1 : Int32))), .val (.long (fo (gg + 1))), .second, .unset] [])) t → Steps p.tables e below (T0.setTop (mkF m 94 #[.val (.ref ax), .val (.int pq), .val (.int pi), .val (.long wd), .second, .val (.int (-1 : Int32)), .val (.int pw), .val (.int (Int32.ofNat gg)), .val (.long oc), .second, .unset] [])) t := fun t k => pre6 t (by
    refine XS.iload X6.here hx rfl (hb hby d5_120) rfl ?_
    show Steps p.tables e below (T6.setTop (mkF m 122 #[.val (.ref ax), .val (.int pq), .val (.int pi), .val (.long wd), .second, .val (.int (-1 : Int32)), .val (.int pw), .val (.int ((Int32.ofNat gg) + (1 : Int32))), .val (.long oc), .second, .unset] [(.int ((Int32.ofNat gg) + (1 : Int32))), (.ref ac)])) _
    refine own_ldJ X6 hx hZ e6 hAo (j := ((Int32.ofNat gg) + (1 : Int32))) (i := (gg + 1)) hix (by exact hil) (g := (mkF m 122 #[.val (.ref ax), .val (.int pq), .val (.int pi), .val (.long wd), .second, .val (.int (-1 : Int32)), .val (.int pw), .val (.int ((Int32.ofNat gg) + (1 : Int32))), .val (.long oc), .second, .unset] [(.int ((Int32.ofNat gg) + (1 : Int32))), (.ref ac)])) rfl rfl (hb hby d5_122) _ ?_
    show Steps p.tables e below (T6.setTop (mkF m 123 #[.val (.ref ax), .val (.int pq), .val (.int pi), .val (.long wd), .second, .val (.int (-1 : Int32)), .val (.int pw), .val (.int ((Int32.ofNat gg) + (1 : Int32))), .val (.long oc), .second, .unset] [(.long (fo (gg + 1)))])) _
    refine XS.lstore X6.here hx rfl (hb hby d5_123) rfl (l' := #[.val (.ref ax), .val (.int pq), .val (.int pi), .val (.long wd), .second, .val (.int (-1 : Int32)), .val (.int pw), .val (.int ((Int32.ofNat gg) + (1 : Int32))), .val (.long (fo (gg + 1))), .second, .unset]) rfl ?_
    show Steps p.tables e below (T6.setTop (mkF m 125 #[.val (.ref ax), .val (.int pq), .val (.int pi), .val (.long wd), .second, .val (.int (-1 : Int32)), .val (.int pw), .val (.int ((Int32.ofNat gg) + (1 : Int32))), .val (.long (fo (gg + 1))), .second, .unset] [])) _
    refine XS.goto X6.here hx rfl (pc0 := 125) (pc' := 94) rfl (hb hby d5_125) (by decide) (by decide) ?_
    show Steps p.tables e below (T6.setTop (mkF m 94 #[.val (.ref ax), .val (.int pq), .val (.int pi), .val (.long wd), .second, .val (.int (-1 : Int32)), .val (.int pw), .val (.int ((Int32.ofNat gg) + (1 : Int32))), .val (.long (fo (gg + 1))), .second, .unset] [])) _
    exact k)
  exact ⟨T6, _, X6, e6, N0, pre7⟩
set_option maxRecDepth 65536 in
set_option maxHeartbeats 40000000 in
theorem nx_outA {p : Program} {l : Launch} {e : Env} {s : State} {m : MethodId} {args : Array Value} {below : List Frame} {meth : Method} {c : Code} {T0 : State} {locs : List Loc} {Z : State} {a0 : Array Value} {h0 : Heap} {n0 : Nat} (ax : Addr) (pq : Int32) (pi : Int32) (wd : Int64) (pw : Int32) (gg : Nat) (oc : Int64) (ac : Addr) (mm : Nat) (fo : Nat → Int64)
    (X0 : Stand p l e R5 s m args below meth c T0 locs 0 0) (hx : p.tables.exec = Jvm.exec) (hZ : Z.Warmed39 s.vm) (hw : ∀ d ∈ tables_1, d.before a0 Z = true) (hby : c.code = prog_24_method_5_code) (hml : c.maxLocals = 11) (hown : s.vm.findClass "relayout/PositionSet" = some m.cls) (e0 : T0.heap = h0) (N0 : Fr n0 locs) (Z0 : n0 ≤ h0.size) (hFo : Fld Z h0 ax "relayout/PositionSet" "occupied" "[J" (.ref ac)) (hAo : ArJ Z h0 ac mm fo) (h0c : ¬ oc = (0 : Int64)) :
    ∃ (T' : State) (L' : List Loc), Stand p l e R5 s m args below meth c T' L' 0 0 ∧ T'.heap = h0 ∧ Fr n0 L' ∧ ∀ t, Steps p.tables e below (T'.setTop (mkF m 128 #[.val (.ref ax), .val (.int pq), .val (.int pi), .val (.long wd), .second, .val (.int (-1 : Int32)), .val (.int pw), .val (.int (Int32.ofNat gg)), .val (.long oc), .second, .unset] [])) t → Steps p.tables e below (T0.setTop (mkF m 94 #[.val (.ref ax), .val (.int pq), .val (.int pi), .val (.long wd), .second, .val (.int (-1 : Int32)), .val (.int pw), .val (.int (Int32.ofNat gg)), .val (.long oc), .second, .unset] [])) t := by
  have pre0 : ∀ t, Steps p.tables e below (T0.setTop (mkF m 94 #[.val (.ref ax), .val (.int pq), .val (.int pi), .val (.long wd), .second, .val (.int (-1 : Int32)), .val (.int pw), .val (.int (Int32.ofNat gg)), .val (.long oc), .second, .unset] [])) t → Steps p.tables e below (T0.setTop (mkF m 94 #[.val (.ref ax), .val (.int pq), .val (.int pi), .val (.long wd), .second, .val (.int (-1 : Int32)), .val (.int pw), .val (.int (Int32.ofNat gg)), .val (.long oc), .second, .unset] [])) t := fun t k => k
  have pre2 : ∀ t, Steps p.tables e below (T0.setTop (mkF m 128 #[.val (.ref ax), .val (.int pq), .val (.int pi), .val (.long wd), .second, .val (.int (-1 : Int32)), .val (.int pw), .val (.int (Int32.ofNat gg)), .val (.long oc), .second, .unset] [])) t → Steps p.tables e below (T0.setTop (mkF m 94 #[.val (.ref ax), .val (.int pq), .val (.int pi), .val (.long wd), .second, .val (.int (-1 : Int32)), .val (.int pw), .val (.int (Int32.ofNat gg)), .val (.long oc), .second, .unset] [])) t := fun t k => pre0 t (by
    refine XS.lload X0.here hx rfl (hb hby d5_94) rfl ?_
    show Steps p.tables e below (T0.setTop (mkF m 96 #[.val (.ref ax), .val (.int pq), .val (.int pi), .val (.long wd), .second, .val (.int (-1 : Int32)), .val (.int pw), .val (.int (Int32.ofNat gg)), .val (.long oc), .second, .unset] [(.long oc)])) _
    refine XS.lconst X0.here hx rfl (hb hby d5_96) ?_
    show Steps p.tables e below (T0.setTop (mkF m 97 #[.val (.ref ax), .val (.int pq), .val (.int pi), .val (.long wd), .second, .val (.int (-1 : Int32)), .val (.int pw), .val (.int (Int32.ofNat gg)), .val (.long oc), .second, .unset] [(.long (0 : Int64)), (.long oc)])) _
    refine XS.lcmp X0.here hx rfl (hb hby d5_97) rfl ?_
    show Steps p.tables e below (T0.setTop (mkF m 98 #[.val (.ref ax), .val (.int pq), .val (.int pi), .val (.long wd), .second, .val (.int (-1 : Int32)), .val (.int pw), .val (.int (Int32.ofNat gg)), .val (.long oc), .second, .unset] [(.int (lcmpW oc (0 : Int64)))])) _
    refine XS.ifYes X0.here hx rfl (pc0 := 98) (pc' := 128) rfl (hb hby d5_98) rfl ((if0 _ _).trans (feq (fun q => (show ¬ (oc = (0 : Int64)) from h0c) ((lw_eq oc (0 : Int64)).mp q))).2) (by decide) (by decide) ?_
    show Steps p.tables e below (T0.setTop (mkF m 128 #[.val (.ref ax), .val (.int pq), .val (.int pi), .val (.long wd), .second, .val (.int (-1 : Int32)), .val (.int pw), .val (.int (Int32.ofNat gg)), .val (.long oc), .second, .unset] [])) _
    exact k)
  exact ⟨T0, _, X0, e0, N0, pre2⟩
set_option maxRecDepth 65536 in
set_option maxHeartbeats 40000000 in
theorem nx_outB {p : Program} {l : Launch} {e : Env} {s : State} {m : MethodId} {args : Array Value} {below : List Frame} {meth : Method} {c : Code} {T0 : State} {locs : List Loc} {Z : State} {a0 : Array Value} {h0 : Heap} {n0 : Nat} (ax : Addr) (pq : Int32) (pi : Int32) (wd : Int64) (pw : Int32) (gg : Nat) (oc : Int64) (ac : Addr) (mm : Nat) (fo : Nat → Int64)
    (X0 : Stand p l e R5 s m args below meth c T0 locs 0 0) (hx : p.tables.exec = Jvm.exec) (hZ : Z.Warmed39 s.vm) (hw : ∀ d ∈ tables_1, d.before a0 Z = true) (hby : c.code = prog_24_method_5_code) (hml : c.maxLocals = 11) (hown : s.vm.findClass "relayout/PositionSet" = some m.cls) (e0 : T0.heap = h0) (N0 : Fr n0 locs) (Z0 : n0 ≤ h0.size) (hFo : Fld Z h0 ax "relayout/PositionSet" "occupied" "[J" (.ref ac)) (hAo : ArJ Z h0 ac mm fo) (h0c : oc = (0 : Int64)) (hge : ¬ (Int32.ofNat gg + (1 : Int32)) < (Int32.ofNat mm)) :
    ∃ (T' : State) (L' : List Loc), Stand p l e R5 s m args below meth c T' L' 0 0 ∧ T'.heap = h0 ∧ Fr n0 L' ∧ ∀ t, Steps p.tables e below (T'.setTop (mkF m 128 #[.val (.ref ax), .val (.int pq), .val (.int pi), .val (.long wd), .second, .val (.int (-1 : Int32)), .val (.int pw), .val (.int (Int32.ofNat gg)), .val (.long oc), .second, .unset] [])) t → Steps p.tables e below (T0.setTop (mkF m 94 #[.val (.ref ax), .val (.int pq), .val (.int pi), .val (.long wd), .second, .val (.int (-1 : Int32)), .val (.int pw), .val (.int (Int32.ofNat gg)), .val (.long oc), .second, .unset] [])) t := by
  have pre0 : ∀ t, Steps p.tables e below (T0.setTop (mkF m 94 #[.val (.ref ax), .val (.int pq), .val (.int pi), .val (.long wd), .second, .val (.int (-1 : Int32)), .val (.int pw), .val (.int (Int32.ofNat gg)), .val (.long oc), .second, .unset] [])) t → Steps p.tables e below (T0.setTop (mkF m 94 #[.val (.ref ax), .val (.int pq), .val (.int pi), .val (.long wd), .second, .val (.int (-1 : Int32)), .val (.int pw), .val (.int (Int32.ofNat gg)), .val (.long oc), .second, .unset] [])) t := fun t k => k
  have pre2 : ∀ t, Steps p.tables e below (T0.setTop (mkF m 106 #[.val (.ref ax), .val (.int pq), .val (.int pi), .val (.long wd), .second, .val (.int (-1 : Int32)), .val (.int pw), .val (.int (Int32.ofNat gg)), .val (.long oc), .second, .unset] [(.ref ax), (.int ((Int32.ofNat gg) + (1 : Int32)))])) t → Steps p.tables e below (T0.setTop (mkF m 94 #[.val (.ref ax), .val (.int pq), .val (.int pi), .val (.long wd), .second, .val (.int (-1 : Int32)), .val (.int pw), .val (.int (Int32.ofNat gg)), .val (.long oc), .second, .unset] [])) t := fun t k => pre0 t (by
    refine XS.lload X0.here hx rfl (hb hby d5_94) rfl ?_
    show Steps p.tables e below (T0.setTop (mkF m 96 #[.val (.ref ax), .val (.int pq), .val (.int pi), .val (.long wd), .second, .val (.int (-1 : Int32)), .val (.int pw), .val (.int (Int32.ofNat gg)), .val (.long oc), .second, .unset] [(.long oc)])) _
    refine XS.lconst X0.here hx rfl (hb hby d5_96) ?_
    show Steps p.tables e below (T0.setTop (mkF m 97 #[.val (.ref ax), .val (.int pq), .val (.int pi), .val (.long wd), .second, .val (.int (-1 : Int32)), .val (.int pw), .val (.int (Int32.ofNat gg)), .val (.long oc), .second, .unset] [(.long (0 : Int64)), (.long oc)])) _
    refine XS.lcmp X0.here hx rfl (hb hby d5_97) rfl ?_
    show Steps p.tables e below (T0.setTop (mkF m 98 #[.val (.ref ax), .val (.int pq), .val (.int pi), .val (.long wd), .second, .val (.int (-1 : Int32)), .val (.int pw), .val (.int (Int32.ofNat gg)), .val (.long oc), .second, .unset] [(.int (lcmpW oc (0 : Int64)))])) _
    refine XS.ifNo X0.here hx rfl (hb hby d5_98) rfl ((if0 _ _).trans (teq ((lw_eq oc (0 : Int64)).mpr (show oc = (0 : Int64) from h0c))).2) ?_
    show Steps p.tables e below (T0.setTop (mkF m 101 #[.val (.ref ax), .val (.int pq), .val (.int pi), .val (.long wd), .second, .val (.int (-1 : Int32)), .val (.int pw), .val (.int (Int32.ofNat gg)), .val (.long oc), .second, .unset] [])) _
    refine XS.iload X0.here hx rfl (hb hby d5_101) rfl ?_
    show Steps p.tables e below (T0.setTop (mkF m 103 #[.val (.ref ax), .val (.int pq), .val (.int pi), .val (.long wd), .second, .val (.int (-1 : Int32)), .val (.int pw), .val (.int (Int32.ofNat gg)), .val (.long oc), .second, .unset] [(.int (Int32.ofNat gg))])) _
    refine XS.iconst X0.here hx rfl (hb hby d5_103) ?_
    show Steps p.tables e below (T0.setTop (mkF m 104 #[.val (.ref ax), .val (.int pq), .val (.int pi), .val (.long wd), .second, .val (.int (-1 : Int32)), .val (.int pw), .val (.int (Int32.ofNat gg)), .val (.long oc), .second, .unset] [(.int (1 : Int32)), (.int (Int32.ofNat gg))])) _
    refine XS.iadd X0.here hx rfl (hb hby d5_104) rfl ?_
    show Steps p.tables e below (T0.setTop (mkF m 105 #[.val (.ref ax), .val (.int pq), .val (.int pi), .val (.long wd), .second, .val (.int (-1 : Int32)), .val (.int pw), .val (.int (Int32.ofNat gg)), .val (.long oc), .second, .unset] [(.int ((Int32.ofNat gg) + (1 : Int32)))])) _
    refine XS.aloadN X0.here hx rfl (hb hby d5_105) rfl rfl ?_
    show Steps p.tables e below (T0.setTop (mkF m 106 #[.val (.ref ax), .val (.int pq), .val (.int pi), .val (.long wd), .second, .val (.int (-1 : Int32)), .val (.int pw), .val (.int (Int32.ofNat gg)), .val (.long oc), .second, .unset] [(.ref ax), (.int ((Int32.ofNat gg) + (1 : Int32)))])) _
    exact k)
  obtain ⟨T3, X3, e3, st3⟩ := getF X0 hx hZ hown (host := "") (Or.inl (hw _ (List.mem_of_getElem? (i := 12) rfl))) Via.refl e0 hFo (g := (mkF m 106 #[.val (.ref ax), .val (.int pq), .val (.int pi), .val (.long wd), .second, .val (.int (-1 : Int32)), .val (.int pw), .val (.int (Int32.ofNat gg)), .val (.long oc), .second, .unset] [(.ref ax), (.int ((Int32.ofNat gg) + (1 : Int32)))])) rfl rfl (hb hby d5_106)
  have pre3 : ∀ t, Steps p.tables e below (T3.setTop (mkF m 109 #[.val (.ref ax), .val (.int pq), .val (.int pi), .val (.long wd), .second, .val (.int (-1 : Int32)), .val (.int pw), .val (.int (Int32.ofNat gg)), .val (.long oc), .second, .unset] [(.ref ac), (.int ((Int32.ofNat gg) + (1 : Int32)))])) t → Steps p.tables e below (T0.setTop (mkF m 94 #[.val (.ref ax), .val (.int pq), .val (.int pi), .val (.long wd), .second, .val (.int (-1 : Int32)), .val (.int pw), .val (.int (Int32.ofNat gg)), .val (.long oc), .second, .unset] [])) t := fun t k => pre2 t (st3 t k)
  have pre5 : ∀ t, Steps p.tables e below (T3.setTop (mkF m 128 #[.val (.ref ax), .val (.int pq), .val (.int pi), .val (.long wd), .second, .val (.int (-1 : Int32)), .val (.int pw), .val (.int (Int32.ofNat gg)), .val (.long oc), .second, .unset] [])) t → Steps p.tables e below (T0.setTop (mkF m 94 #[.val (.ref ax), .val (.int pq), .val (.int pi), .val (.long wd), .second, .val (.int (-1 : Int32)), .val (.int pw), .val (.int (Int32.ofNat gg)), .val (.long oc), .second, .unset] [])) t := fun t k => pre3 t (by
    refine own_lenJ X3 hx hZ e3 hAo rfl (g := (mkF m 109 #[.val (.ref ax), .val (.int pq), .val (.int pi), .val (.long wd), .second, .val (.int (-1 : Int32)), .val (.int pw), .val (.int (Int32.ofNat gg)), .val (.long oc), .second, .unset] [(.ref ac), (.int ((Int32.ofNat gg) + (1 : Int32)))])) rfl rfl (hb hby d5_109) _ ?_
    show Steps p.tables e below (T3.setTop (mkF m 110 #[.val (.ref ax), .val (.int pq), .val (.int pi), .val (.long wd), .second, .val (.int (-1 : Int32)), .val (.int pw), .val (.int (Int32.ofNat gg)), .val (.long oc), .second, .unset] [(.int (Int32.ofNat mm)), (.int ((Int32.ofNat gg) + (1 : Int32)))])) _
    refine XS.icmpYes X3.here hx rfl (pc0 := 110) (pc' := 128) rfl (hb hby d5_110) rfl (flt (show ¬ (((Int32.ofNat gg) + (1 : Int32)) < (Int32.ofNat mm)) from hge)).2.1 (by decide) (by decide) ?_
    show Steps p.tables e below (T3.setTop (mkF m 128 #[.val (.ref ax), .val (.int pq), .val (.int pi), .val (.long wd), .second, .val (.int (-1 : Int32)), .val (.int pw), .val (.int (Int32.ofNat gg)), .val (.long oc), .second, .unset] [])) _
    exact k)
  exact ⟨T3, _, X3, e3, N0, pre5⟩
def own_occ (fo : Nat → Int64) (g : Nat) (o : Int64) (g' : Nat) (o' : Int64) : Prop := (o' ≠ 0 ∧ ((g' = g ∧ o' = o) ∨ (o = 0 ∧ g < g' ∧ o' = fo g' ∧ ∀ k, g < k → k < g' → fo k = 0))) ∨ (o' = 0 ∧ o = 0 ∧ ∀ k, g < k → fo k = 0)
set_option maxRecDepth 65536 in
set_option maxHeartbeats 4000000 in
theorem loop_nx {p : Program} {l : Launch} {e : Env} {s : State} {m : MethodId} {args : Array Value} {below : List Frame} {meth : Method} {c : Code} {Z : State} {a0 : Array Value} {h0 : Heap} {n0 : Nat} {T0 : State} {locs : List Loc} (hx : p.tables.exec = Jvm.exec) (hZ : Z.Warmed39 s.vm) (hw : ∀ d ∈ tables_1, d.before a0 Z = true) (hby : c.code = prog_24_method_5_code) (hml : c.maxLocals = 11) (hown : s.vm.findClass "relayout/PositionSet" = some m.cls)
    (ax : Addr) (pq pi : Int32) (wd : Int64) (pw : Int32) (ac : Addr) (mm : Nat) (fo : Nat → Int64) (hFo : Fld Z h0 ax "relayout/PositionSet" "occupied" "[J" (.ref ac)) (hAo : ArJ Z h0 ac mm fo) (hm : mm < 2147483648) (hz : ∀ k, mm ≤ k → fo k = 0) (k : Nat) :
    ∀ (gg : Nat) (oc : Int64), Stand p l e R5 s m args below meth c T0 locs 0 0 → T0.heap = h0 → Fr n0 locs → n0 ≤ h0.size → mm ≤ gg + k → gg + k < 2147483000 →
      ∃ (T' : State) (L' : List Loc) (g' : Nat) (o' : Int64), Stand p l e R5 s m args below meth c T' L' 0 0 ∧ T'.heap = h0 ∧ Fr n0 L' ∧ own_occ fo gg oc g' o' ∧
        ∀ t, Steps p.tables e below (T'.setTop (mkF m 128 #[.val (.ref ax), .val (.int pq), .val (.int pi), .val (.long wd), .second, .val (.int (-1 : Int32)), .val (.int pw), .val (.int (Int32.ofNat g')), .val (.long o'), .second, .unset] [])) t → Steps p.tables e below (T0.setTop (mkF m 94 #[.val (.ref ax), .val (.int pq), .val (.int pi), .val (.long wd), .second, .val (.int (-1 : Int32)), .val (.int pw), .val (.int (Int32.ofNat gg)), .val (.long oc), .second, .unset] [])) t := by
  induction k generalizing T0 locs with
  | zero =>
    intro gg oc X0 e0 N0 Z0 hk hs
    by_cases q : oc = (0 : Int64)
    · have q2 : ¬ (Int32.ofNat gg + (1 : Int32)) < (Int32.ofNat mm) := fun z => by
        rw [own_one] at z
        have := own_lt32 z (by omega) hm
        omega
      obtain ⟨T1, L1, X1, e1, N1, st1⟩ := nx_outB ax pq pi wd pw gg oc ac mm fo X0 hx hZ hw hby hml hown e0 N0 Z0 hFo hAo q q2
      exact ⟨T1, L1, gg, oc, X1, e1, N1, Or.inr ⟨q, q, fun k hk => hz k (by omega)⟩, st1⟩
    · obtain ⟨T1, L1, X1, e1, N1, st1⟩ := nx_outA ax pq pi wd pw gg oc ac mm fo X0 hx hZ hw hby hml hown e0 N0 Z0 hFo hAo q
      exact ⟨T1, L1, gg, oc, X1, e1, N1, Or.inl ⟨q, Or.inl ⟨rfl, rfl⟩⟩, st1⟩
  | succ k ih =>
    intro gg oc X0 e0 N0 Z0 hk hs
    by_cases q : oc = (0 : Int64)
    · by_cases q2 : (Int32.ofNat gg + (1 : Int32)) < (Int32.ofNat mm)
      · have q3 : gg + 1 < mm := by rw [own_one] at q2; exact own_lt32 q2 (by omega) hm
        obtain ⟨T1, L1, X1, e1, N1, st1⟩ := nx_go ax pq pi wd pw gg oc ac mm fo X0 hx hZ hw hby hml hown e0 N0 Z0 hFo hAo q q2 (by rw [own_one]; exact own_at32 (by omega)) q3
        rw [own_one] at st1
        obtain ⟨T2, L2, g2, o2, X2, e2, N2, S2, st2⟩ := ih (gg + 1) (fo (gg + 1)) X1 e1 N1 Z0 (by omega) (by omega)
        refine ⟨T2, L2, g2, o2, X2, e2, N2, ?_, fun t k => st1 t (st2 t k)⟩
        rcases S2 with ⟨ne, (⟨a, b⟩ | ⟨a, b, c, d⟩)⟩ | ⟨a, b, c⟩
        · exact Or.inl ⟨ne, Or.inr ⟨q, by omega, by rw [b, a], fun k h1 h2 => by omega⟩⟩
        · exact Or.inl ⟨ne, Or.inr ⟨q, by omega, c, fun k h1 h2 => by
            by_cases z : k = gg + 1
            · rw [z]; exact a
            · exact d k (by omega) h2⟩⟩
        · exact Or.inr ⟨a, q, fun k h1 => by
            by_cases z : k = gg + 1
            · rw [z]; exact b
            · exact c k (by omega)⟩
      · obtain ⟨T1, L1, X1, e1, N1, st1⟩ := nx_outB ax pq pi wd pw gg oc ac mm fo X0 hx hZ hw hby hml hown e0 N0 Z0 hFo hAo q q2
        have q3 : mm ≤ gg + 1 := by rw [own_one] at q2; exact own_ge32 q2 (by omega) hm
        exact ⟨T1, L1, gg, oc, X1, e1, N1, Or.inr ⟨q, q, fun k hk => hz k (by omega)⟩, st1⟩
    · obtain ⟨T1, L1, X1, e1, N1, st1⟩ := nx_outA ax pq pi wd pw gg oc ac mm fo X0 hx hZ hw hby hml hown e0 N0 Z0 hFo hAo q
      exact ⟨T1, L1, gg, oc, X1, e1, N1, Or.inl ⟨q, Or.inl ⟨rfl, rfl⟩⟩, st1⟩

theorem pd_2 : parseMethodDescriptor "(J)I" = some ⟨[.long], some .int⟩ := by decide +kernel
theorem d5_0 : decode prog_24_method_5_code 0 = .ok (.iload_n 1, 1) := by decide +kernel
theorem d5_1 : decode prog_24_method_5_code 1 = .ok (.bipush 6, 2) := by decide +kernel
theorem d5_3 : decode prog_24_method_5_code 3 = .ok (.iushr, 1) := by decide +kernel
theorem d5_4 : decode prog_24_method_5_code 4 = .ok (.istore_n 2, 1) := by decide +kernel
theorem d5_5 : decode prog_24_method_5_code 5 = .ok (.iload_n 2, 1) := by decide +kernel
theorem d5_6 : decode prog_24_method_5_code 6 = .ok (.aload_n 0, 1) := by decide +kernel
theorem d5_7 : decode prog_24_method_5_code 7 = .ok (.getfield 7, 3) := by decide +kernel
theorem d5_10 : decode prog_24_method_5_code 10 = .ok (.arraylength, 1) := by decide +kernel
theorem d5_11 : decode prog_24_method_5_code 11 = .ok (.if_icmp .lt 5, 3) := by decide +kernel
theorem d5_14 : decode prog_24_method_5_code 14 = .ok (.iconst (-1), 1) := by decide +kernel
theorem d5_15 : decode prog_24_method_5_code 15 = .ok (.ireturn, 1) := by decide +kernel
theorem d5_16 : decode prog_24_method_5_code 16 = .ok (.aload_n 0, 1) := by decide +kernel
theorem d5_17 : decode prog_24_method_5_code 17 = .ok (.getfield 7, 3) := by decide +kernel
theorem d5_20 : decode prog_24_method_5_code 20 = .ok (.iload_n 2, 1) := by decide +kernel
theorem d5_21 : decode prog_24_method_5_code 21 = .ok (.laload, 1) := by decide +kernel
theorem d5_22 : decode prog_24_method_5_code 22 = .ok (.ldc2_w 28, 3) := by decide +kernel
theorem d5_25 : decode prog_24_method_5_code 25 = .ok (.iload_n 1, 1) := by decide +kernel
theorem d5_26 : decode prog_24_method_5_code 26 = .ok (.lshl, 1) := by decide +kernel
theorem d5_27 : decode prog_24_method_5_code 27 = .ok (.land, 1) := by decide +kernel
theorem d5_28 : decode prog_24_method_5_code 28 = .ok (.lstore_n 3, 1) := by decide +kernel
theorem d5_29 : decode prog_24_method_5_code 29 = .ok (.iconst (-1), 1) := by decide +kernel
theorem d5_30 : decode prog_24_method_5_code 30 = .ok (.istore 5, 2) := by decide +kernel
theorem d5_32 : decode prog_24_method_5_code 32 = .ok (.lload_n 3, 1) := by decide +kernel
theorem d5_33 : decode prog_24_method_5_code 33 = .ok (.lconst 0, 1) := by decide +kernel
theorem d5_34 : decode prog_24_method_5_code 34 = .ok (.lcmp, 1) := by decide +kernel
theorem d5_35 : decode prog_24_method_5_code 35 = .ok (.ifCond .eq 17, 3) := by decide +kernel
theorem d5_38 : decode prog_24_method_5_code 38 = .ok (.iload_n 2, 1) := by decide +kernel
theorem d5_39 : decode prog_24_method_5_code 39 = .ok (.bipush 6, 2) := by decide +kernel
theorem d5_41 : decode prog_24_method_5_code 41 = .ok (.ishl, 1) := by decide +kernel
theorem d5_42 : decode prog_24_method_5_code 42 = .ok (.lload_n 3, 1) := by decide +kernel
theorem d5_43 : decode prog_24_method_5_code 43 = .ok (.invokestatic 34, 3) := by decide +kernel
theorem d5_46 : decode prog_24_method_5_code 46 = .ok (.iadd, 1) := by decide +kernel
theorem d5_47 : decode prog_24_method_5_code 47 = .ok (.istore 5, 2) := by decide +kernel
theorem d5_49 : decode prog_24_method_5_code 49 = .ok (.goto 117, 3) := by decide +kernel
theorem d5_52 : decode prog_24_method_5_code 52 = .ok (.iload_n 2, 1) := by decide +kernel
theorem d5_53 : decode prog_24_method_5_code 53 = .ok (.iconst 1, 1) := by decide +kernel
theorem d5_54 : decode prog_24_method_5_code 54 = .ok (.iadd, 1) := by decide +kernel
theorem d5_55 : decode prog_24_method_5_code 55 = .ok (.istore 6, 2) := by decide +kernel
theorem d5_57 : decode prog_24_method_5_code 57 = .ok (.iload 6, 2) := by decide +kernel
theorem d5_59 : decode prog_24_method_5_code 59 = .ok (.bipush 6, 2) := by decide +kernel
theorem d5_61 : decode prog_24_method_5_code 61 = .ok (.iushr, 1) := by decide +kernel
theorem d5_62 : decode prog_24_method_5_code 62 = .ok (.istore 7, 2) := by decide +kernel
theorem d5_64 : decode prog_24_method_5_code 64 = .ok (.iload 7, 2) := by decide +kernel
theorem d5_66 : decode prog_24_method_5_code 66 = .ok (.aload_n 0, 1) := by decide +kernel
theorem d5_67 : decode prog_24_method_5_code 67 = .ok (.getfield 13, 3) := by decide +kernel
theorem d5_70 : decode prog_24_method_5_code 70 = .ok (.arraylength, 1) := by decide +kernel
theorem d5_71 : decode prog_24_method_5_code 71 = .ok (.if_icmp .ge 20, 3) := by decide +kernel
theorem d5_74 : decode prog_24_method_5_code 74 = .ok (.aload_n 0, 1) := by decide +kernel
theorem d5_75 : decode prog_24_method_5_code 75 = .ok (.getfield 13, 3) := by decide +kernel
theorem d5_78 : decode prog_24_method_5_code 78 = .ok (.iload 7, 2) := by decide +kernel
theorem d5_80 : decode prog_24_method_5_code 80 = .ok (.laload, 1) := by decide +kernel
theorem d5_81 : decode prog_24_method_5_code 81 = .ok (.ldc2_w 28, 3) := by decide +kernel
theorem d5_84 : decode prog_24_method_5_code 84 = .ok (.iload 6, 2) := by decide +kernel
theorem d5_86 : decode prog_24_method_5_code 86 = .ok (.lshl, 1) := by decide +kernel
theorem d5_87 : decode prog_24_method_5_code 87 = .ok (.land, 1) := by decide +kernel
theorem d5_88 : decode prog_24_method_5_code 88 = .ok (.goto 4, 3) := by decide +kernel
theorem d5_91 : decode prog_24_method_5_code 91 = .ok (.lconst 0, 1) := by decide +kernel
theorem d5_92 : decode prog_24_method_5_code 92 = .ok (.lstore 8, 2) := by decide +kernel
theorem d5_128 : decode prog_24_method_5_code 128 = .ok (.lload 8, 2) := by decide +kernel
theorem d5_130 : decode prog_24_method_5_code 130 = .ok (.lconst 0, 1) := by decide +kernel
theorem d5_131 : decode prog_24_method_5_code 131 = .ok (.lcmp, 1) := by decide +kernel
theorem d5_132 : decode prog_24_method_5_code 132 = .ok (.ifCond .eq 34, 3) := by decide +kernel
theorem d5_135 : decode prog_24_method_5_code 135 = .ok (.iload 7, 2) := by decide +kernel
theorem d5_137 : decode prog_24_method_5_code 137 = .ok (.bipush 6, 2) := by decide +kernel
theorem d5_139 : decode prog_24_method_5_code 139 = .ok (.ishl, 1) := by decide +kernel
theorem d5_140 : decode prog_24_method_5_code 140 = .ok (.lload 8, 2) := by decide +kernel
theorem d5_142 : decode prog_24_method_5_code 142 = .ok (.invokestatic 34, 3) := by decide +kernel
theorem d5_145 : decode prog_24_method_5_code 145 = .ok (.iadd, 1) := by decide +kernel
theorem d5_146 : decode prog_24_method_5_code 146 = .ok (.istore 10, 2) := by decide +kernel
theorem d5_148 : decode prog_24_method_5_code 148 = .ok (.iload 10, 2) := by decide +kernel
theorem d5_150 : decode prog_24_method_5_code 150 = .ok (.bipush 6, 2) := by decide +kernel
theorem d5_152 : decode prog_24_method_5_code 152 = .ok (.ishl, 1) := by decide +kernel
theorem d5_153 : decode prog_24_method_5_code 153 = .ok (.aload_n 0, 1) := by decide +kernel
theorem d5_154 : decode prog_24_method_5_code 154 = .ok (.getfield 7, 3) := by decide +kernel
theorem d5_157 : decode prog_24_method_5_code 157 = .ok (.iload 10, 2) := by decide +kernel
theorem d5_159 : decode prog_24_method_5_code 159 = .ok (.laload, 1) := by decide +kernel
theorem d5_160 : decode prog_24_method_5_code 160 = .ok (.invokestatic 34, 3) := by decide +kernel
theorem d5_163 : decode prog_24_method_5_code 163 = .ok (.iadd, 1) := by decide +kernel
theorem d5_164 : decode prog_24_method_5_code 164 = .ok (.istore 5, 2) := by decide +kernel
theorem d5_166 : decode prog_24_method_5_code 166 = .ok (.iload 5, 2) := by decide +kernel
theorem d5_168 : decode prog_24_method_5_code 168 = .ok (.ireturn, 1) := by decide +kernel
theorem ef_5 (m : MethodId) (x0 : Addr) (x1 : Int32) : entryFrame m #[(.ref x0), (.int x1)] 11 = mkF m 0 #[.val (.ref x0), .val (.int x1), .unset, .unset, .unset, .unset, .unset, .unset, .unset, .unset, .unset] [] := by first | (simp [entryFrame, mkF, argsToLocals, Value.category]; done) | rfl
def j5_92_s0 (qn : Nat) (mm : Nat) (fo : Nat → Int64) : Int64 := (if (Int32.ofNat ((qn / 64 + 1) / 64)) < (Int32.ofNat mm) then ((fo ((qn / 64 + 1) / 64)) &&& (own_shlL (-1 : Int64) (Int32.ofNat (qn / 64 + 1)))) else (0 : Int64))
def NextSpec (S : Nat → Prop) (q : Nat) (rv : Int32) : Prop := (rv = -1 ∧ ∀ x, q ≤ x → ¬ S x) ∨ ∃ x, x < 16384 ∧ rv = Int32.ofNat x ∧ q ≤ x ∧ S x ∧ ∀ y, q ≤ y → y < x → ¬ S y
theorem own_sh6 {i : Nat} (h : i < 16384) (k : Nat) : (own_shl (Int32.ofNat i) (6 : Int32)) + Int32.ofNat k = Int32.ofNat (64 * i + k) := by
  have e : own_shl (Int32.ofNat i) (6 : Int32) = Int32.ofNat (64 * i) := by
    apply Int32.toBitVec_inj.mp
    apply BitVec.eq_of_toNat_eq
    show ((BitVec.ofNat 32 i) <<< 6).toNat = (BitVec.ofNat 32 (64 * i)).toNat
    rw [BitVec.toNat_shiftLeft, Nat.shiftLeft_eq, BitVec.toNat_ofNat, BitVec.toNat_ofNat]; omega
  rw [e, ← Int32.ofNat_add]
section Next
variable {n m B : Nat} {fw fo : Nat → Int64} {S : Nat → Prop} {pq : Int32} {qn : Nat}
theorem own_nxA (G : OwnG n m B fw fo S) (h : n ≤ qn / 64) : NextSpec S qn (-1) := by
  obtain ⟨a, b, c, d, e, f, g, i, j⟩ := G
  refine Or.inl ⟨rfl, fun x hx hs => ?_⟩
  rw [i, f _ (by omega), own_bt_zero] at hs; cases hs
theorem own_wbit (hq : pq = Int32.ofNat qn) (hqn : qn < 8192) (w : Int64) (j : Nat) (hj : j < 64) : own_bt (w &&& (own_shlL (-1 : Int64) pq)) j = (own_bt w j && decide (qn % 64 ≤ j)) := by
  rw [own_bt_and, own_mask _ _ hj, hq, own_on _ (by omega)]
theorem own_nxB (G : OwnG n m B fw fo S) (hq : pq = Int32.ofNat qn) (hqn : qn < 8192) (hne : ¬ (fw (qn / 64) &&& (own_shlL (-1 : Int64) pq)) = (0 : Int64)) : NextSpec S qn ((own_shl (Int32.ofNat (qn / 64)) (6 : Int32)) + (r6 (fw (qn / 64) &&& (own_shlL (-1 : Int64) pq)))) := by
  obtain ⟨a, b, c, d, e, f, g, i, j⟩ := G
  obtain ⟨k, hk, hb, hl⟩ := own_low hne
  rw [own_ntz64 _ k hb hl, own_sh6 (by omega)]
  rw [own_wbit hq hqn _ _ hk, Bool.and_eq_true, decide_eq_true_iff] at hb
  refine Or.inr ⟨_, by omega, rfl, by omega, ?_, fun y h1 h2 hs => ?_⟩
  · rw [i, show (64 * (qn / 64) + k) / 64 = qn / 64 by omega, show (64 * (qn / 64) + k) % 64 = k by omega]; exact hb.1
  · have q := hl (y % 64) (by omega)
    rw [own_wbit hq hqn _ _ (by omega)] at q
    rw [i, show y / 64 = qn / 64 by omega] at hs
    rw [hs, Bool.true_and, decide_eq_false_iff_not] at q
    omega
theorem own_word0 (G : OwnG n m B fw fo S) (hq : pq = Int32.ofNat qn) (hqn : qn < 8192) (hz : (fw (qn / 64) &&& (own_shlL (-1 : Int64) pq)) = (0 : Int64)) (y : Nat) (h1 : qn ≤ y) (h2 : y / 64 = qn / 64) : ¬ S y := by
  obtain ⟨a, b, c, d, e, f, g, i, j⟩ := G
  intro hs
  rw [i, h2] at hs
  have q := own_wbit hq hqn (fw (qn / 64)) (y % 64) (Nat.mod_lt _ (by decide))
  rw [hz, own_bt_zero, hs, Bool.true_and] at q
  have := of_decide_eq_false q.symm
  omega
theorem own_occbit (hqn : qn < 8192) (G : OwnG n m B fw fo S) (j : Nat) (hj : j < 64) : own_bt (j5_92_s0 qn m fo) j = (own_bt (fo ((qn / 64 + 1) / 64)) j && decide ((qn / 64 + 1) % 64 ≤ j)) := by
  unfold j5_92_s0
  by_cases q : (Int32.ofNat ((qn / 64 + 1) / 64)) < (Int32.ofNat m)
  · rw [if_pos q, own_bt_and, own_mask _ _ hj, own_on _ (by omega)]
  · rw [if_neg q, own_bt_zero]
    have : m ≤ (qn / 64 + 1) / 64 := own_ge32 q (by omega) (own_Gm31 G)
    rw [own_Gzo G _ this, own_bt_zero, Bool.false_and]
variable {gg : Nat} {oc : Int64}
theorem own_zero (hqn : qn < 8192) (G : OwnG n m B fw fo S) (hoc : own_occ fo ((qn / 64 + 1) / 64) (j5_92_s0 qn m fo) gg oc) (h0 : oc = 0) (w : Nat) (hw : qn / 64 + 1 ≤ w) : fw w = 0 := by
  have G' := G
  obtain ⟨a, b, c, d, e, f, g, i, j⟩ := G'
  apply Classical.byContradiction
  intro q
  have hb := (j w).mpr q
  rcases hoc with ⟨ne, -⟩ | ⟨-, z, all⟩
  · exact ne h0
  · by_cases k : w / 64 = (qn / 64 + 1) / 64
    · have z2 := own_occbit hqn G (w % 64) (Nat.mod_lt _ (by decide))
      rw [z, own_bt_zero, ← k, hb, Bool.true_and] at z2
      have := of_decide_eq_false z2.symm
      omega
    · rw [all (w / 64) (by omega), own_bt_zero] at hb; cases hb
theorem own_nxC (G : OwnG n m B fw fo S) (hq : pq = Int32.ofNat qn) (hqn : qn < 8192) (hz : (fw (qn / 64) &&& (own_shlL (-1 : Int64) pq)) = (0 : Int64)) (hoc : own_occ fo ((qn / 64 + 1) / 64) (j5_92_s0 qn m fo) gg oc) (h0 : oc = (0 : Int64)) : NextSpec S qn (-1) := by
  refine Or.inl ⟨rfl, fun x hx hs => ?_⟩
  by_cases q : x / 64 = qn / 64
  · exact own_word0 G hq hqn hz x hx q hs
  · have z := own_zero hqn G hoc h0 (x / 64) (by omega)
    obtain ⟨a, b, c, d, e, f, g, i, j⟩ := G
    rw [i, z, own_bt_zero] at hs; cases hs
theorem own_gm (G : OwnG n m B fw fo S) (hoc : own_occ fo ((qn / 64 + 1) / 64) (j5_92_s0 qn m fo) gg oc) (hne : ¬ oc = (0 : Int64)) (hqn : qn < 8192) : gg < m := by
  rcases hoc with ⟨ne, (⟨a, b⟩ | ⟨a, b, c, d⟩)⟩ | ⟨z, -⟩
  · apply Classical.byContradiction
    intro q
    apply hne
    rw [b]
    unfold j5_92_s0
    rw [if_neg]
    intro z
    exact q (by rw [a]; exact own_lt32 z (by omega) (own_Gm31 G))
  · apply Classical.byContradiction
    intro q
    exact hne (by rw [c]; exact own_Gzo G _ (by omega))
  · exact absurd z hne
variable {jj : Nat}
theorem own_wix (G : OwnG n m B fw fo S) (hqn : qn < 8192) (hoc : own_occ fo ((qn / 64 + 1) / 64) (j5_92_s0 qn m fo) gg oc) (hne : ¬ oc = (0 : Int64)) (h2 : own_bt oc jj = true) (h3 : ∀ j, j < jj → own_bt oc j = false) : (own_shl (Int32.ofNat gg) (6 : Int32)) + (r6 oc) = Int32.ofNat (64 * gg + jj) := by
  have := own_gm G hoc hne hqn
  have := own_Gm31' G
  rw [own_ntz64 _ jj h2 h3, own_sh6 (by omega)]
theorem own_nxw (G : OwnG n m B fw fo S) (hqn : qn < 8192) (hoc : own_occ fo ((qn / 64 + 1) / 64) (j5_92_s0 qn m fo) gg oc) (hne : ¬ oc = (0 : Int64)) (hj : jj < 64) (h2 : own_bt oc jj = true) : 64 * gg + jj < n ∧ qn / 64 + 1 ≤ 64 * gg + jj ∧ fw (64 * gg + jj) ≠ 0 := by
  have G' := G
  obtain ⟨a, b, c, d, e, f, g, i, j⟩ := G'
  have key : own_bt (fo gg) jj = true ∧ qn / 64 + 1 ≤ 64 * gg + jj := by
    rcases hoc with ⟨ne, (⟨a, b⟩ | ⟨a, b, c, d⟩)⟩ | ⟨z, -⟩
    · rw [b, own_occbit hqn G _ hj, Bool.and_eq_true, decide_eq_true_iff] at h2
      rw [a]
      exact ⟨h2.1, by omega⟩
    · rw [c] at h2
      exact ⟨h2, by omega⟩
    · exact absurd z hne
  have nz : fw (64 * gg + jj) ≠ 0 := (j _).mp (by rw [show (64 * gg + jj) / 64 = gg by omega, show (64 * gg + jj) % 64 = jj by omega]; exact key.1)
  refine ⟨?_, key.2, nz⟩
  apply Classical.byContradiction
  intro q
  exact nz (f _ (by omega))
theorem own_between (G : OwnG n m B fw fo S) (hqn : qn < 8192) (hoc : own_occ fo ((qn / 64 + 1) / 64) (j5_92_s0 qn m fo) gg oc) (hne : ¬ oc = (0 : Int64)) (hj : jj < 64) (h3 : ∀ j, j < jj → own_bt oc j = false) (u : Nat) (h4 : qn / 64 + 1 ≤ u) (h5 : u < 64 * gg + jj) : fw u = 0 := by
  have G' := G
  obtain ⟨a, b, c, d, e, f, g, i, j⟩ := G'
  apply Classical.byContradiction
  intro q
  have hb := (j u).mpr q
  rcases hoc with ⟨ne, (⟨a, b⟩ | ⟨a, b, c, d⟩)⟩ | ⟨z, -⟩
  · have k : u / 64 = (qn / 64 + 1) / 64 := by omega
    have z := h3 (u % 64) (by omega)
    rw [b, own_occbit hqn G _ (by omega), ← k, hb, Bool.true_and] at z
    have := of_decide_eq_false z
    omega
  · by_cases k : u / 64 = gg
    · have z := h3 (u % 64) (by omega)
      rw [c, ← k, hb] at z; cases z
    · by_cases k2 : u / 64 = (qn / 64 + 1) / 64
      · have z := own_occbit hqn G (u % 64) (by omega)
        rw [a, own_bt_zero, ← k2, hb, Bool.true_and] at z
        have := of_decide_eq_false z.symm
        omega
      · rw [d (u / 64) (by omega) (by omega), own_bt_zero] at hb; cases hb
  · exact hne z
theorem own_nxD (G : OwnG n m B fw fo S) (hq : pq = Int32.ofNat qn) (hqn : qn < 8192) (hz : (fw (qn / 64) &&& (own_shlL (-1 : Int64) pq)) = (0 : Int64)) (hoc : own_occ fo ((qn / 64 + 1) / 64) (j5_92_s0 qn m fo) gg oc) (hne : ¬ oc = (0 : Int64)) (hj : jj < 64) (h3 : ∀ j, j < jj → own_bt oc j = false)
    (hwn : 64 * gg + jj < n ∧ qn / 64 + 1 ≤ 64 * gg + jj ∧ fw (64 * gg + jj) ≠ 0) : NextSpec S qn ((own_shl (Int32.ofNat (64 * gg + jj)) (6 : Int32)) + (r6 (fw (64 * gg + jj)))) := by
  have G' := G
  obtain ⟨a, b, c, d, e, f, g, i, j⟩ := G'
  obtain ⟨k, hk, hb, hl⟩ := own_low hwn.2.2
  rw [own_ntz64 _ k hb hl, own_sh6 (by omega)]
  refine Or.inr ⟨_, by omega, rfl, by omega, ?_, fun y h1 h2 hs => ?_⟩
  · rw [i, show (64 * (64 * gg + jj) + k) / 64 = 64 * gg + jj by omega, show (64 * (64 * gg + jj) + k) % 64 = k by omega]; exact hb
  · by_cases q1 : y / 64 = qn / 64
    · exact own_word0 G hq hqn hz y h1 q1 hs
    · by_cases q2 : y / 64 = 64 * gg + jj
      · have z := hl (y % 64) (by omega)
        rw [i, q2, z] at hs; cases hs
      · have z := own_between G hqn hoc hne hj h3 (y / 64) (by omega) (by omega)
        rw [i, z, own_bt_zero] at hs; cases hs
end Next
def Q5 (Z : State) (ax : Addr) (pq : Int32) (B : Nat) (S : Nat → Prop) (qn : Nat) (h0 : Heap) (n0 : Nat) (v : Option Value) (h : Heap) (L : List Loc) : Prop := ∃ rv, v = some (.int rv) ∧ Fr n0 L ∧ n0 ≤ h.size ∧ PSet Z h n0 ax B S ∧ NextSpec S qn rv
set_option maxRecDepth 65536 in
set_option maxHeartbeats 40000000 in
theorem rm5 (l : Launch) (Z : State) (a0 : Array Value) (hw : ∀ d ∈ tables_1, d.before a0 Z = true) (ws : List Jvm.Cond) (ax : Addr) (pq : Int32) (B : Nat) (S : Nat → Prop) (qn : Nat) (h0 : Heap) (n0 : Nat) (Z0 : n0 ≤ h0.size) (hPS : PSet Z h0 n0 ax B S) (hq : pq = Int32.ofNat qn) (hqn : qn < 8192) :
    MetFree l (⟨"relayout/PositionSet", "next", "(I)I"⟩ : MethodName) (head1 (Jvm.Cond.code (⟨"relayout/PositionSet", "next", "(I)I"⟩ : MethodName) prog_24_method_5_code 11 (some .int) :: ws) R5) (fun a U => a = #[(.ref ax), (.int pq)] ∧ Z.Warmed39 U.vm ∧ U.heap = h0) (fun _ _ _ _ _ => True) (fun _ U o U' => ∃ v L, o = .returned v ∧ Q5 Z ax pq B S qn h0 n0 v U'.heap L ∧ FrameEnd U o U' L R5.cells R5.slots) := by
  refine MetFree.of_bodySF (plainFor_of_name pn_3) hisR ?_
  intro p e s m args below meth c s₁ Bd hml0 hP hK
  obtain ⟨rfl, hZ, hh⟩ := hP
  have hx := Bd.exec
  have hby := Bd.bytes
  have hml : c.maxLocals = 11 := hml0
  have hown : s.vm.findClass "relayout/PositionSet" = some m.cls := findClass_of_methodNamed Bd.named
  have hnm := (name_of_methodNamed Bd.named Bd.method).1
  have X0 : Stand p l e R5 s m #[(.ref ax), (.int pq)] below meth c s₁ [] 0 0 := Stand.of_body Bd
  have e0 : s₁.heap = h0 := by rw [← hh, Bd.state]; rfl
  have N0 := Fr.nil n0
  have pre0 : ∀ t, Steps p.tables e below (s₁.setTop (mkF m 0 #[.val (.ref ax), .val (.int pq), .unset, .unset, .unset, .unset, .unset, .unset, .unset, .unset, .unset] [])) t → Steps p.tables e below (s₁.setTop (entryFrame m #[(.ref ax), (.int pq)] 11)) t := fun t k => castTop (ef_5 m ax pq) k
  have hPS0 := hPS
  obtain ⟨aw, ac, nn, mm, fw, fo, hE, hFw, hFo, hAw, hAo, hwo, g_aw, g_ac, hG⟩ := hPS
  have ne1 : ax ≠ aw := ne_exa hE hAw.1 (by decide)
  have ne2 : ax ≠ ac := ne_exa hE hAo.1 (by decide)
  have hm31 := own_Gm31 hG
  have pre1 : ∀ t, Steps p.tables e below (s₁.setTop (mkF m 7 #[.val (.ref ax), .val (.int pq), .val (.int (Int32.ofNat (qn / 64))), .unset, .unset, .unset, .unset, .unset, .unset, .unset, .unset] [(.ref ax), (.int (Int32.ofNat (qn / 64)))])) t → Steps p.tables e below (s₁.setTop (entryFrame m #[(.ref ax), (.int pq)] 11)) t := fun t k => pre0 t (by
    refine XS.iloadN X0.here hx rfl (hb hby d5_0) rfl ?_
    show Steps p.tables e below (s₁.setTop (mkF m 1 #[.val (.ref ax), .val (.int pq), .unset, .unset, .unset, .unset, .unset, .unset, .unset, .unset, .unset] [(.int pq)])) _
    refine XS.bipush X0.here hx rfl (hb hby d5_1) ?_
    show Steps p.tables e below (s₁.setTop (mkF m 3 #[.val (.ref ax), .val (.int pq), .unset, .unset, .unset, .unset, .unset, .unset, .unset, .unset, .unset] [(.int (6 : Int32)), (.int pq)])) _
    refine XS.iushr X0.here hx rfl (hb hby d5_3) rfl ?_
    show Steps p.tables e below (s₁.setTop (mkF m 4 #[.val (.ref ax), .val (.int pq), .unset, .unset, .unset, .unset, .unset, .unset, .unset, .unset, .unset] [(.int (own_ushr pq (6 : Int32)))])) _
    show Steps p.tables e below (s₁.setTop (mkF m 4 #[.val (.ref ax), .val (.int pq), .unset, .unset, .unset, .unset, .unset, .unset, .unset, .unset, .unset] [(.int (own_ushr pq (6 : Int32)))])) _
    rw [own_idx hq hqn]
    show Steps p.tables e below (s₁.setTop (mkF m 4 #[.val (.ref ax), .val (.int pq), .unset, .unset, .unset, .unset, .unset, .unset, .unset, .unset, .unset] [(.int (Int32.ofNat (qn / 64)))])) _
    refine XS.istoreN X0.here hx rfl (hb hby d5_4) rfl (l' := #[.val (.ref ax), .val (.int pq), .val (.int (Int32.ofNat (qn / 64))), .unset, .unset, .unset, .unset, .unset, .unset, .unset, .unset]) rfl ?_
    show Steps p.tables e below (s₁.setTop (mkF m 5 #[.val (.ref ax), .val (.int pq), .val (.int (Int32.ofNat (qn / 64))), .unset, .unset, .unset, .unset, .unset, .unset, .unset, .unset] [])) _
    refine XS.iloadN X0.here hx rfl (hb hby d5_5) rfl ?_
    show Steps p.tables e below (s₁.setTop (mkF m 6 #[.val (.ref ax), .val (.int pq), .val (.int (Int32.ofNat (qn / 64))), .unset, .unset, .unset, .unset, .unset, .unset, .unset, .unset] [(.int (Int32.ofNat (qn / 64)))])) _
    refine XS.aloadN X0.here hx rfl (hb hby d5_6) rfl rfl ?_
    show Steps p.tables e below (s₁.setTop (mkF m 7 #[.val (.ref ax), .val (.int pq), .val (.int (Int32.ofNat (qn / 64))), .unset, .unset, .unset, .unset, .unset, .unset, .unset, .unset] [(.ref ax), (.int (Int32.ofNat (qn / 64)))])) _
    exact k)
  obtain ⟨T2, X2, e2, st2⟩ := getF X0 hx hZ hown (host := "") (Or.inl (hw _ (List.mem_of_getElem? (i := 10) rfl))) Via.refl e0 hFw (g := (mkF m 7 #[.val (.ref ax), .val (.int pq), .val (.int (Int32.ofNat (qn / 64))), .unset, .unset, .unset, .unset, .unset, .unset, .unset, .unset] [(.ref ax), (.int (Int32.ofNat (qn / 64)))])) rfl rfl (hb hby d5_7)
  have pre2 : ∀ t, Steps p.tables e below (T2.setTop (mkF m 10 #[.val (.ref ax), .val (.int pq), .val (.int (Int32.ofNat (qn / 64))), .unset, .unset, .unset, .unset, .unset, .unset, .unset, .unset] [(.ref aw), (.int (Int32.ofNat (qn / 64)))])) t → Steps p.tables e below (s₁.setTop (entryFrame m #[(.ref ax), (.int pq)] 11)) t := fun t k => pre1 t (st2 t k)
  have pre3 : ∀ t, Steps p.tables e below (T2.setTop (mkF m 11 #[.val (.ref ax), .val (.int pq), .val (.int (Int32.ofNat (qn / 64))), .unset, .unset, .unset, .unset, .unset, .unset, .unset, .unset] [(.int (Int32.ofNat nn)), (.int (Int32.ofNat (qn / 64)))])) t → Steps p.tables e below (s₁.setTop (entryFrame m #[(.ref ax), (.int pq)] 11)) t := fun t k => pre2 t (by
    refine own_lenJ X2 hx hZ e2 hAw rfl (g := (mkF m 10 #[.val (.ref ax), .val (.int pq), .val (.int (Int32.ofNat (qn / 64))), .unset, .unset, .unset, .unset, .unset, .unset, .unset, .unset] [(.ref aw), (.int (Int32.ofNat (qn / 64)))])) rfl rfl (hb hby d5_10) _ ?_
    show Steps p.tables e below (T2.setTop (mkF m 11 #[.val (.ref ax), .val (.int pq), .val (.int (Int32.ofNat (qn / 64))), .unset, .unset, .unset, .unset, .unset, .unset, .unset, .unset] [(.int (Int32.ofNat nn)), (.int (Int32.ofNat (qn / 64)))])) _
    exact k)
  by_cases hc11_4 : (Int32.ofNat (qn / 64)) < (Int32.ofNat nn)
  · have pre5 : ∀ t, Steps p.tables e below (T2.setTop (mkF m 17 #[.val (.ref ax), .val (.int pq), .val (.int (Int32.ofNat (qn / 64))), .unset, .unset, .unset, .unset, .unset, .unset, .unset, .unset] [(.ref ax)])) t → Steps p.tables e below (s₁.setTop (entryFrame m #[(.ref ax), (.int pq)] 11)) t := fun t k => pre3 t (by
      refine XS.icmpYes X2.here hx rfl (pc0 := 11) (pc' := 16) rfl (hb hby d5_11) rfl (tlt hc11_4).1 (by decide) (by decide) ?_
      show Steps p.tables e below (T2.setTop (mkF m 16 #[.val (.ref ax), .val (.int pq), .val (.int (Int32.ofNat (qn / 64))), .unset, .unset, .unset, .unset, .unset, .unset, .unset, .unset] [])) _
      refine XS.aloadN X2.here hx rfl (hb hby d5_16) rfl rfl ?_
      show Steps p.tables e below (T2.setTop (mkF m 17 #[.val (.ref ax), .val (.int pq), .val (.int (Int32.ofNat (qn / 64))), .unset, .unset, .unset, .unset, .unset, .unset, .unset, .unset] [(.ref ax)])) _
      exact k)
    obtain ⟨T6, X6, e6, st6⟩ := getF X2 hx hZ hown (host := "") (Or.inl (hw _ (List.mem_of_getElem? (i := 10) rfl))) Via.refl e2 hFw (g := (mkF m 17 #[.val (.ref ax), .val (.int pq), .val (.int (Int32.ofNat (qn / 64))), .unset, .unset, .unset, .unset, .unset, .unset, .unset, .unset] [(.ref ax)])) rfl rfl (hb hby d5_17)
    have pre6 : ∀ t, Steps p.tables e below (T6.setTop (mkF m 20 #[.val (.ref ax), .val (.int pq), .val (.int (Int32.ofNat (qn / 64))), .unset, .unset, .unset, .unset, .unset, .unset, .unset, .unset] [(.ref aw)])) t → Steps p.tables e below (s₁.setTop (entryFrame m #[(.ref ax), (.int pq)] 11)) t := fun t k => pre5 t (st6 t k)
    have pre7 : ∀ t, Steps p.tables e below (T6.setTop (mkF m 35 #[.val (.ref ax), .val (.int pq), .val (.int (Int32.ofNat (qn / 64))), .val (.long ((fw (qn / 64)) &&& (own_shlL (-1 : Int64) pq))), .second, .val (.int (-1 : Int32)), .unset, .unset, .unset, .unset, .unset] [(.int (lcmpW ((fw (qn / 64)) &&& (own_shlL (-1 : Int64) pq)) (0 : Int64)))])) t → Steps p.tables e below (s₁.setTop (entryFrame m #[(.ref ax), (.int pq)] 11)) t := fun t k => pre6 t (by
      refine XS.iloadN X6.here hx rfl (hb hby d5_20) rfl ?_
      show Steps p.tables e below (T6.setTop (mkF m 21 #[.val (.ref ax), .val (.int pq), .val (.int (Int32.ofNat (qn / 64))), .unset, .unset, .unset, .unset, .unset, .unset, .unset, .unset] [(.int (Int32.ofNat (qn / 64))), (.ref aw)])) _
      refine own_ldJ X6 hx hZ e6 hAw (j := (Int32.ofNat (qn / 64))) (i := (qn / 64)) (own_at32 (own_pl hqn)) (by exact own_lt32 hc11_4 (own_pl hqn) (own_Gn hG)) (g := (mkF m 21 #[.val (.ref ax), .val (.int pq), .val (.int (Int32.ofNat (qn / 64))), .unset, .unset, .unset, .unset, .unset, .unset, .unset, .unset] [(.int (Int32.ofNat (qn / 64))), (.ref aw)])) rfl rfl (hb hby d5_21) _ ?_
      show Steps p.tables e below (T6.setTop (mkF m 22 #[.val (.ref ax), .val (.int pq), .val (.int (Int32.ofNat (qn / 64))), .unset, .unset, .unset, .unset, .unset, .unset, .unset, .unset] [(.long (fw (qn / 64)))])) _
      refine X6.ldc2Long hx hown (mvT hZ (hw _ (List.mem_of_getElem? (i := 24) rfl))) (g := (mkF m 22 #[.val (.ref ax), .val (.int pq), .val (.int (Int32.ofNat (qn / 64))), .unset, .unset, .unset, .unset, .unset, .unset, .unset, .unset] [(.long (fw (qn / 64)))])) rfl (hb hby d5_22) _ ?_
      show Steps p.tables e below (T6.setTop (mkF m 25 #[.val (.ref ax), .val (.int pq), .val (.int (Int32.ofNat (qn / 64))), .unset, .unset, .unset, .unset, .unset, .unset, .unset, .unset] [(.long (-1 : Int64)), (.long (fw (qn / 64)))])) _
      refine XS.iloadN X6.here hx rfl (hb hby d5_25) rfl ?_
      show Steps p.tables e below (T6.setTop (mkF m 26 #[.val (.ref ax), .val (.int pq), .val (.int (Int32.ofNat (qn / 64))), .unset, .unset, .unset, .unset, .unset, .unset, .unset, .unset] [(.int pq), (.long (-1 : Int64)), (.long (fw (qn / 64)))])) _
      refine XS.lshl X6.here hx rfl (hb hby d5_26) rfl ?_
      show Steps p.tables e below (T6.setTop (mkF m 27 #[.val (.ref ax), .val (.int pq), .val (.int (Int32.ofNat (qn / 64))), .unset, .unset, .unset, .unset, .unset, .unset, .unset, .unset] [(.long (own_shlL (-1 : Int64) pq)), (.long (fw (qn / 64)))])) _
      refine XS.land X6.here hx rfl (hb hby d5_27) rfl ?_
      show Steps p.tables e below (T6.setTop (mkF m 28 #[.val (.ref ax), .val (.int pq), .val (.int (Int32.ofNat (qn / 64))), .unset, .unset, .unset, .unset, .unset, .unset, .unset, .unset] [(.long ((fw (qn / 64)) &&& (own_shlL (-1 : Int64) pq)))])) _
      refine XS.lstoreN X6.here hx rfl (hb hby d5_28) rfl (l' := #[.val (.ref ax), .val (.int pq), .val (.int (Int32.ofNat (qn / 64))), .val (.long ((fw (qn / 64)) &&& (own_shlL (-1 : Int64) pq))), .second, .unset, .unset, .unset, .unset, .unset, .unset]) rfl ?_
      show Steps p.tables e below (T6.setTop (mkF m 29 #[.val (.ref ax), .val (.int pq), .val (.int (Int32.ofNat (qn / 64))), .val (.long ((fw (qn / 64)) &&& (own_shlL (-1 : Int64) pq))), .second, .unset, .unset, .unset, .unset, .unset, .unset] [])) _
      refine XS.iconst X6.here hx rfl (hb hby d5_29) ?_
      show Steps p.tables e below (T6.setTop (mkF m 30 #[.val (.ref ax), .val (.int pq), .val (.int (Int32.ofNat (qn / 64))), .val (.long ((fw (qn / 64)) &&& (own_shlL (-1 : Int64) pq))), .second, .unset, .unset, .unset, .unset, .unset, .unset] [(.int (-1 : Int32))])) _
      refine XS.istore X6.here hx rfl (hb hby d5_30) rfl (l' := #[.val (.ref ax), .val (.int pq), .val (.int (Int32.ofNat (qn / 64))), .val (.long ((fw (qn / 64)) &&& (own_shlL (-1 : Int64) pq))), .second, .val (.int (-1 : Int32)), .unset, .unset, .unset, .unset, .unset]) rfl ?_
      show Steps p.tables e below (T6.setTop (mkF m 32 #[.val (.ref ax), .val (.int pq), .val (.int (Int32.ofNat (qn / 64))), .val (.long ((fw (qn / 64)) &&& (own_shlL (-1 : Int64) pq))), .second, .val (.int (-1 : Int32)), .unset, .unset, .unset, .unset, .unset] [])) _
      refine XS.lloadN X6.here hx rfl (hb hby d5_32) rfl ?_
      show Steps p.tables e below (T6.setTop (mkF m 33 #[.val (.ref ax), .val (.int pq), .val (.int (Int32.ofNat (qn / 64))), .val (.long ((fw (qn / 64)) &&& (own_shlL (-1 : Int64) pq))), .second, .val (.int (-1 : Int32)), .unset, .unset, .unset, .unset, .unset] [(.long ((fw (qn / 64)) &&& (own_shlL (-1 : Int64) pq)))])) _
      refine XS.lconst X6.here hx rfl (hb hby d5_33) ?_
      show Steps p.tables e below (T6.setTop (mkF m 34 #[.val (.ref ax), .val (.int pq), .val (.int (Int32.ofNat (qn / 64))), .val (.long ((fw (qn / 64)) &&& (own_shlL (-1 : Int64) pq))), .second, .val (.int (-1 : Int32)), .unset, .unset, .unset, .unset, .unset] [(.long (0 : Int64)), (.long ((fw (qn / 64)) &&& (own_shlL (-1 : Int64) pq)))])) _
      refine XS.lcmp X6.here hx rfl (hb hby d5_34) rfl ?_
      show Steps p.tables e below (T6.setTop (mkF m 35 #[.val (.ref ax), .val (.int pq), .val (.int (Int32.ofNat (qn / 64))), .val (.long ((fw (qn / 64)) &&& (own_shlL (-1 : Int64) pq))), .second, .val (.int (-1 : Int32)), .unset, .unset, .unset, .unset, .unset] [(.int (lcmpW ((fw (qn / 64)) &&& (own_shlL (-1 : Int64) pq)) (0 : Int64)))])) _
      exact k)
    by_cases hc35_8 : ((fw (qn / 64)) &&& (own_shlL (-1 : Int64) pq)) = (0 : Int64)
    · have pre9 : ∀ t, Steps p.tables e below (T6.setTop (mkF m 67 #[.val (.ref ax), .val (.int pq), .val (.int (Int32.ofNat (qn / 64))), .val (.long ((fw (qn / 64)) &&& (own_shlL (-1 : Int64) pq))), .second, .val (.int (-1 : Int32)), .val (.int (Int32.ofNat (qn / 64 + 1))), .val (.int (Int32.ofNat ((qn / 64 + 1) / 64))), .unset, .unset, .unset] [(.ref ax), (.int (Int32.ofNat ((qn / 64 + 1) / 64)))])) t → Steps p.tables e below (s₁.setTop (entryFrame m #[(.ref ax), (.int pq)] 11)) t := fun t k => pre7 t (by
        refine XS.ifYes X6.here hx rfl (pc0 := 35) (pc' := 52) rfl (hb hby d5_35) rfl ((if0 _ _).trans (teq ((lw_eq ((fw (qn / 64)) &&& (own_shlL (-1 : Int64) pq)) (0 : Int64)).mpr hc35_8)).1) (by decide) (by decide) ?_
        show Steps p.tables e below (T6.setTop (mkF m 52 #[.val (.ref ax), .val (.int pq), .val (.int (Int32.ofNat (qn / 64))), .val (.long ((fw (qn / 64)) &&& (own_shlL (-1 : Int64) pq))), .second, .val (.int (-1 : Int32)), .unset, .unset, .unset, .unset, .unset] [])) _
        refine XS.iloadN X6.here hx rfl (hb hby d5_52) rfl ?_
        show Steps p.tables e below (T6.setTop (mkF m 53 #[.val (.ref ax), .val (.int pq), .val (.int (Int32.ofNat (qn / 64))), .val (.long ((fw (qn / 64)) &&& (own_shlL (-1 : Int64) pq))), .second, .val (.int (-1 : Int32)), .unset, .unset, .unset, .unset, .unset] [(.int (Int32.ofNat (qn / 64)))])) _
        refine XS.iconst X6.here hx rfl (hb hby d5_53) ?_
        show Steps p.tables e below (T6.setTop (mkF m 54 #[.val (.ref ax), .val (.int pq), .val (.int (Int32.ofNat (qn / 64))), .val (.long ((fw (qn / 64)) &&& (own_shlL (-1 : Int64) pq))), .second, .val (.int (-1 : Int32)), .unset, .unset, .unset, .unset, .unset] [(.int (1 : Int32)), (.int (Int32.ofNat (qn / 64)))])) _
        refine XS.iadd X6.here hx rfl (hb hby d5_54) rfl ?_
        show Steps p.tables e below (T6.setTop (mkF m 55 #[.val (.ref ax), .val (.int pq), .val (.int (Int32.ofNat (qn / 64))), .val (.long ((fw (qn / 64)) &&& (own_shlL (-1 : Int64) pq))), .second, .val (.int (-1 : Int32)), .unset, .unset, .unset, .unset, .unset] [(.int ((Int32.ofNat (qn / 64)) + (1 : Int32)))])) _
        show Steps p.tables e below (T6.setTop (mkF m 55 #[.val (.ref ax), .val (.int pq), .val (.int (Int32.ofNat (qn / 64))), .val (.long ((fw (qn / 64)) &&& (own_shlL (-1 : Int64) pq))), .second, .val (.int (-1 : Int32)), .unset, .unset, .unset, .unset, .unset] [(.int ((Int32.ofNat (qn / 64)) + (1 : Int32)))])) _
        rw [own_one]
        show Steps p.tables e below (T6.setTop (mkF m 55 #[.val (.ref ax), .val (.int pq), .val (.int (Int32.ofNat (qn / 64))), .val (.long ((fw (qn / 64)) &&& (own_shlL (-1 : Int64) pq))), .second, .val (.int (-1 : Int32)), .unset, .unset, .unset, .unset, .unset] [(.int (Int32.ofNat (qn / 64 + 1)))])) _
        refine XS.istore X6.here hx rfl (hb hby d5_55) rfl (l' := #[.val (.ref ax), .val (.int pq), .val (.int (Int32.ofNat (qn / 64))), .val (.long ((fw (qn / 64)) &&& (own_shlL (-1 : Int64) pq))), .second, .val (.int (-1 : Int32)), .val (.int (Int32.ofNat (qn / 64 + 1))), .unset, .unset, .unset, .unset]) rfl ?_
        show Steps p.tables e below (T6.setTop (mkF m 57 #[.val (.ref ax), .val (.int pq), .val (.int (Int32.ofNat (qn / 64))), .val (.long ((fw (qn / 64)) &&& (own_shlL (-1 : Int64) pq))), .second, .val (.int (-1 : Int32)), .val (.int (Int32.ofNat (qn / 64 + 1))), .unset, .unset, .unset, .unset] [])) _
        refine XS.iload X6.here hx rfl (hb hby d5_57) rfl ?_
        show Steps p.tables e below (T6.setTop (mkF m 59 #[.val (.ref ax), .val (.int pq), .val (.int (Int32.ofNat (qn / 64))), .val (.long ((fw (qn / 64)) &&& (own_shlL (-1 : Int64) pq))), .second, .val (.int (-1 : Int32)), .val (.int (Int32.ofNat (qn / 64 + 1))), .unset, .unset, .unset, .unset] [(.int (Int32.ofNat (qn / 64 + 1)))])) _
        refine XS.bipush X6.here hx rfl (hb hby d5_59) ?_
        show Steps p.tables e below (T6.setTop (mkF m 61 #[.val (.ref ax), .val (.int pq), .val (.int (Int32.ofNat (qn / 64))), .val (.long ((fw (qn / 64)) &&& (own_shlL (-1 : Int64) pq))), .second, .val (.int (-1 : Int32)), .val (.int (Int32.ofNat (qn / 64 + 1))), .unset, .unset, .unset, .unset] [(.int (6 : Int32)), (.int (Int32.ofNat (qn / 64 + 1)))])) _
        refine XS.iushr X6.here hx rfl (hb hby d5_61) rfl ?_
        show Steps p.tables e below (T6.setTop (mkF m 62 #[.val (.ref ax), .val (.int pq), .val (.int (Int32.ofNat (qn / 64))), .val (.long ((fw (qn / 64)) &&& (own_shlL (-1 : Int64) pq))), .second, .val (.int (-1 : Int32)), .val (.int (Int32.ofNat (qn / 64 + 1))), .unset, .unset, .unset, .unset] [(.int (own_ushr (Int32.ofNat (qn / 64 + 1)) (6 : Int32)))])) _
        show Steps p.tables e below (T6.setTop (mkF m 62 #[.val (.ref ax), .val (.int pq), .val (.int (Int32.ofNat (qn / 64))), .val (.long ((fw (qn / 64)) &&& (own_shlL (-1 : Int64) pq))), .second, .val (.int (-1 : Int32)), .val (.int (Int32.ofNat (qn / 64 + 1))), .unset, .unset, .unset, .unset] [(.int (own_ushr (Int32.ofNat (qn / 64 + 1)) (6 : Int32)))])) _
        rw [own_on6 _ (own_pl5 hqn)]
        show Steps p.tables e below (T6.setTop (mkF m 62 #[.val (.ref ax), .val (.int pq), .val (.int (Int32.ofNat (qn / 64))), .val (.long ((fw (qn / 64)) &&& (own_shlL (-1 : Int64) pq))), .second, .val (.int (-1 : Int32)), .val (.int (Int32.ofNat (qn / 64 + 1))), .unset, .unset, .unset, .unset] [(.int (Int32.ofNat ((qn / 64 + 1) / 64)))])) _
        refine XS.istore X6.here hx rfl (hb hby d5_62) rfl (l' := #[.val (.ref ax), .val (.int pq), .val (.int (Int32.ofNat (qn / 64))), .val (.long ((fw (qn / 64)) &&& (own_shlL (-1 : Int64) pq))), .second, .val (.int (-1 : Int32)), .val (.int (Int32.ofNat (qn / 64 + 1))), .val (.int (Int32.ofNat ((qn / 64 + 1) / 64))), .unset, .unset, .unset]) rfl ?_
        show Steps p.tables e below (T6.setTop (mkF m 64 #[.val (.ref ax), .val (.int pq), .val (.int (Int32.ofNat (qn / 64))), .val (.long ((fw (qn / 64)) &&& (own_shlL (-1 : Int64) pq))), .second, .val (.int (-1 : Int32)), .val (.int (Int32.ofNat (qn / 64 + 1))), .val (.int (Int32.ofNat ((qn / 64 + 1) / 64))), .unset, .unset, .unset] [])) _
        refine XS.iload X6.here hx rfl (hb hby d5_64) rfl ?_
        show Steps p.tables e below (T6.setTop (mkF m 66 #[.val (.ref ax), .val (.int pq), .val (.int (Int32.ofNat (qn / 64))), .val (.long ((fw (qn / 64)) &&& (own_shlL (-1 : Int64) pq))), .second, .val (.int (-1 : Int32)), .val (.int (Int32.ofNat (qn / 64 + 1))), .val (.int (Int32.ofNat ((qn / 64 + 1) / 64))), .unset, .unset, .unset] [(.int (Int32.ofNat ((qn / 64 + 1) / 64)))])) _
        refine XS.aloadN X6.here hx rfl (hb hby d5_66) rfl rfl ?_
        show Steps p.tables e below (T6.setTop (mkF m 67 #[.val (.ref ax), .val (.int pq), .val (.int (Int32.ofNat (qn / 64))), .val (.long ((fw (qn / 64)) &&& (own_shlL (-1 : Int64) pq))), .second, .val (.int (-1 : Int32)), .val (.int (Int32.ofNat (qn / 64 + 1))), .val (.int (Int32.ofNat ((qn / 64 + 1) / 64))), .unset, .unset, .unset] [(.ref ax), (.int (Int32.ofNat ((qn / 64 + 1) / 64)))])) _
        exact k)
      obtain ⟨T10, X10, e10, st10⟩ := getF X6 hx hZ hown (host := "") (Or.inl (hw _ (List.mem_of_getElem? (i := 12) rfl))) Via.refl e6 hFo (g := (mkF m 67 #[.val (.ref ax), .val (.int pq), .val (.int (Int32.ofNat (qn / 64))), .val (.long ((fw (qn / 64)) &&& (own_shlL (-1 : Int64) pq))), .second, .val (.int (-1 : Int32)), .val (.int (Int32.ofNat (qn / 64 + 1))), .val (.int (Int32.ofNat ((qn / 64 + 1) / 64))), .unset, .unset, .unset] [(.ref ax), (.int (Int32.ofNat ((qn / 64 + 1) / 64)))])) rfl rfl (hb hby d5_67)
      have pre10 : ∀ t, Steps p.tables e below (T10.setTop (mkF m 70 #[.val (.ref ax), .val (.int pq), .val (.int (Int32.ofNat (qn / 64))), .val (.long ((fw (qn / 64)) &&& (own_shlL (-1 : Int64) pq))), .second, .val (.int (-1 : Int32)), .val (.int (Int32.ofNat (qn / 64 + 1))), .val (.int (Int32.ofNat ((qn / 64 + 1) / 64))), .unset, .unset, .unset] [(.ref ac), (.int (Int32.ofNat ((qn / 64 + 1) / 64)))])) t → Steps p.tables e below (s₁.setTop (entryFrame m #[(.ref ax), (.int pq)] 11)) t := fun t k => pre9 t (st10 t k)
      have pre11 : ∀ t, Steps p.tables e below (T10.setTop (mkF m 71 #[.val (.ref ax), .val (.int pq), .val (.int (Int32.ofNat (qn / 64))), .val (.long ((fw (qn / 64)) &&& (own_shlL (-1 : Int64) pq))), .second, .val (.int (-1 : Int32)), .val (.int (Int32.ofNat (qn / 64 + 1))), .val (.int (Int32.ofNat ((qn / 64 + 1) / 64))), .unset, .unset, .unset] [(.int (Int32.ofNat mm)), (.int (Int32.ofNat ((qn / 64 + 1) / 64)))])) t → Steps p.tables e below (s₁.setTop (entryFrame m #[(.ref ax), (.int pq)] 11)) t := fun t k => pre10 t (by
        refine own_lenJ X10 hx hZ e10 hAo rfl (g := (mkF m 70 #[.val (.ref ax), .val (.int pq), .val (.int (Int32.ofNat (qn / 64))), .val (.long ((fw (qn / 64)) &&& (own_shlL (-1 : Int64) pq))), .second, .val (.int (-1 : Int32)), .val (.int (Int32.ofNat (qn / 64 + 1))), .val (.int (Int32.ofNat ((qn / 64 + 1) / 64))), .unset, .unset, .unset] [(.ref ac), (.int (Int32.ofNat ((qn / 64 + 1) / 64)))])) rfl rfl (hb hby d5_70) _ ?_
        show Steps p.tables e below (T10.setTop (mkF m 71 #[.val (.ref ax), .val (.int pq), .val (.int (Int32.ofNat (qn / 64))), .val (.long ((fw (qn / 64)) &&& (own_shlL (-1 : Int64) pq))), .second, .val (.int (-1 : Int32)), .val (.int (Int32.ofNat (qn / 64 + 1))), .val (.int (Int32.ofNat ((qn / 64 + 1) / 64))), .unset, .unset, .unset] [(.int (Int32.ofNat mm)), (.int (Int32.ofNat ((qn / 64 + 1) / 64)))])) _
        exact k)
      obtain ⟨T12, L12, X12, e12, N12, st12⟩ : ∃ (T' : State) (L' : List Loc), Stand p l e R5 s m #[(.ref ax), (.int pq)] below meth c T' L' 0 0 ∧ T'.heap = h0 ∧ Fr n0 L' ∧ ∀ t, Steps p.tables e below (T'.setTop (mkF m 92 #[.val (.ref ax), .val (.int pq), .val (.int (Int32.ofNat (qn / 64))), .val (.long ((fw (qn / 64)) &&& (own_shlL (-1 : Int64) pq))), .second, .val (.int (-1 : Int32)), .val (.int (Int32.ofNat (qn / 64 + 1))), .val (.int (Int32.ofNat ((qn / 64 + 1) / 64))), .unset, .unset, .unset] [(.long (j5_92_s0 qn mm fo))])) t → Steps p.tables e below (T10.setTop (mkF m 71 #[.val (.ref ax), .val (.int pq), .val (.int (Int32.ofNat (qn / 64))), .val (.long ((fw (qn / 64)) &&& (own_shlL (-1 : Int64) pq))), .second, .val (.int (-1 : Int32)), .val (.int (Int32.ofNat (qn / 64 + 1))), .val (.int (Int32.ofNat ((qn / 64 + 1) / 64))), .unset, .unset, .unset] [(.int (Int32.ofNat mm)), (.int (Int32.ofNat ((qn / 64 + 1) / 64)))])) t := by
        have pre12 : ∀ t, Steps p.tables e below (T10.setTop (mkF m 71 #[.val (.ref ax), .val (.int pq), .val (.int (Int32.ofNat (qn / 64))), .val (.long ((fw (qn / 64)) &&& (own_shlL (-1 : Int64) pq))), .second, .val (.int (-1 : Int32)), .val (.int (Int32.ofNat (qn / 64 + 1))), .val (.int (Int32.ofNat ((qn / 64 + 1) / 64))), .unset, .unset, .unset] [(.int (Int32.ofNat mm)), (.int (Int32.ofNat ((qn / 64 + 1) / 64)))])) t → Steps p.tables e below (T10.setTop (mkF m 71 #[.val (.ref ax), .val (.int pq), .val (.int (Int32.ofNat (qn / 64))), .val (.long ((fw (qn / 64)) &&& (own_shlL (-1 : Int64) pq))), .second, .val (.int (-1 : Int32)), .val (.int (Int32.ofNat (qn / 64 + 1))), .val (.int (Int32.ofNat ((qn / 64 + 1) / 64))), .unset, .unset, .unset] [(.int (Int32.ofNat mm)), (.int (Int32.ofNat ((qn / 64 + 1) / 64)))])) t := fun t k => k
        by_cases hc71_13 : (Int32.ofNat ((qn / 64 + 1) / 64)) < (Int32.ofNat mm)
        · have pre14 : ∀ t, Steps p.tables e below (T10.setTop (mkF m 75 #[.val (.ref ax), .val (.int pq), .val (.int (Int32.ofNat (qn / 64))), .val (.long ((fw (qn / 64)) &&& (own_shlL (-1 : Int64) pq))), .second, .val (.int (-1 : Int32)), .val (.int (Int32.ofNat (qn / 64 + 1))), .val (.int (Int32.ofNat ((qn / 64 + 1) / 64))), .unset, .unset, .unset] [(.ref ax)])) t → Steps p.tables e below (T10.setTop (mkF m 71 #[.val (.ref ax), .val (.int pq), .val (.int (Int32.ofNat (qn / 64))), .val (.long ((fw (qn / 64)) &&& (own_shlL (-1 : Int64) pq))), .second, .val (.int (-1 : Int32)), .val (.int (Int32.ofNat (qn / 64 + 1))), .val (.int (Int32.ofNat ((qn / 64 + 1) / 64))), .unset, .unset, .unset] [(.int (Int32.ofNat mm)), (.int (Int32.ofNat ((qn / 64 + 1) / 64)))])) t := fun t k => pre12 t (by
            refine XS.icmpNo X10.here hx rfl (hb hby d5_71) rfl (tlt hc71_13).2.1 ?_
            show Steps p.tables e below (T10.setTop (mkF m 74 #[.val (.ref ax), .val (.int pq), .val (.int (Int32.ofNat (qn / 64))), .val (.long ((fw (qn / 64)) &&& (own_shlL (-1 : Int64) pq))), .second, .val (.int (-1 : Int32)), .val (.int (Int32.ofNat (qn / 64 + 1))), .val (.int (Int32.ofNat ((qn / 64 + 1) / 64))), .unset, .unset, .unset] [])) _
            refine XS.aloadN X10.here hx rfl (hb hby d5_74) rfl rfl ?_
            show Steps p.tables e below (T10.setTop (mkF m 75 #[.val (.ref ax), .val (.int pq), .val (.int (Int32.ofNat (qn / 64))), .val (.long ((fw (qn / 64)) &&& (own_shlL (-1 : Int64) pq))), .second, .val (.int (-1 : Int32)), .val (.int (Int32.ofNat (qn / 64 + 1))), .val (.int (Int32.ofNat ((qn / 64 + 1) / 64))), .unset, .unset, .unset] [(.ref ax)])) _
            exact k)
          obtain ⟨T15, X15, e15, st15⟩ := getF X10 hx hZ hown (host := "") (Or.inl (hw _ (List.mem_of_getElem? (i := 12) rfl))) Via.refl e10 hFo (g := (mkF m 75 #[.val (.ref ax), .val (.int pq), .val (.int (Int32.ofNat (qn / 64))), .val (.long ((fw (qn / 64)) &&& (own_shlL (-1 : Int64) pq))), .second, .val (.int (-1 : Int32)), .val (.int (Int32.ofNat (qn / 64 + 1))), .val (.int (Int32.ofNat ((qn / 64 + 1) / 64))), .unset, .unset, .unset] [(.ref ax)])) rfl rfl (hb hby d5_75)
          have pre15 : ∀ t, Steps p.tables e below (T15.setTop (mkF m 78 #[.val (.ref ax), .val (.int pq), .val (.int (Int32.ofNat (qn / 64))), .val (.long ((fw (qn / 64)) &&& (own_shlL (-1 : Int64) pq))), .second, .val (.int (-1 : Int32)), .val (.int (Int32.ofNat (qn / 64 + 1))), .val (.int (Int32.ofNat ((qn / 64 + 1) / 64))), .unset, .unset, .unset] [(.ref ac)])) t → Steps p.tables e below (T10.setTop (mkF m 71 #[.val (.ref ax), .val (.int pq), .val (.int (Int32.ofNat (qn / 64))), .val (.long ((fw (qn / 64)) &&& (own_shlL (-1 : Int64) pq))), .second, .val (.int (-1 : Int32)), .val (.int (Int32.ofNat (qn / 64 + 1))), .val (.int (Int32.ofNat ((qn / 64 + 1) / 64))), .unset, .unset, .unset] [(.int (Int32.ofNat mm)), (.int (Int32.ofNat ((qn / 64 + 1) / 64)))])) t := fun t k => pre14 t (st15 t k)
          have pre16 : ∀ t, Steps p.tables e below (T15.setTop (mkF m 92 #[.val (.ref ax), .val (.int pq), .val (.int (Int32.ofNat (qn / 64))), .val (.long ((fw (qn / 64)) &&& (own_shlL (-1 : Int64) pq))), .second, .val (.int (-1 : Int32)), .val (.int (Int32.ofNat (qn / 64 + 1))), .val (.int (Int32.ofNat ((qn / 64 + 1) / 64))), .unset, .unset, .unset] [(.long ((fo ((qn / 64 + 1) / 64)) &&& (own_shlL (-1 : Int64) (Int32.ofNat (qn / 64 + 1)))))])) t → Steps p.tables e below (T10.setTop (mkF m 71 #[.val (.ref ax), .val (.int pq), .val (.int (Int32.ofNat (qn / 64))), .val (.long ((fw (qn / 64)) &&& (own_shlL (-1 : Int64) pq))), .second, .val (.int (-1 : Int32)), .val (.int (Int32.ofNat (qn / 64 + 1))), .val (.int (Int32.ofNat ((qn / 64 + 1) / 64))), .unset, .unset, .unset] [(.int (Int32.ofNat mm)), (.int (Int32.ofNat ((qn / 64 + 1) / 64)))])) t := fun t k => pre15 t (by
            refine XS.iload X15.here hx rfl (hb hby d5_78) rfl ?_
            show Steps p.tables e below (T15.setTop (mkF m 80 #[.val (.ref ax), .val (.int pq), .val (.int (Int32.ofNat (qn / 64))), .val (.long ((fw (qn / 64)) &&& (own_shlL (-1 : Int64) pq))), .second, .val (.int (-1 : Int32)), .val (.int (Int32.ofNat (qn / 64 + 1))), .val (.int (Int32.ofNat ((qn / 64 + 1) / 64))), .unset, .unset, .unset] [(.int (Int32.ofNat ((qn / 64 + 1) / 64))), (.ref ac)])) _
            refine own_ldJ X15 hx hZ e15 hAo (j := (Int32.ofNat ((qn / 64 + 1) / 64))) (i := ((qn / 64 + 1) / 64)) (own_at32 (own_pl6 hqn)) (by exact own_lt32 hc71_13 (own_pl6 hqn) hm31) (g := (mkF m 80 #[.val (.ref ax), .val (.int pq), .val (.int (Int32.ofNat (qn / 64))), .val (.long ((fw (qn / 64)) &&& (own_shlL (-1 : Int64) pq))), .second, .val (.int (-1 : Int32)), .val (.int (Int32.ofNat (qn / 64 + 1))), .val (.int (Int32.ofNat ((qn / 64 + 1) / 64))), .unset, .unset, .unset] [(.int (Int32.ofNat ((qn / 64 + 1) / 64))), (.ref ac)])) rfl rfl (hb hby d5_80) _ ?_
            show Steps p.tables e below (T15.setTop (mkF m 81 #[.val (.ref ax), .val (.int pq), .val (.int (Int32.ofNat (qn / 64))), .val (.long ((fw (qn / 64)) &&& (own_shlL (-1 : Int64) pq))), .second, .val (.int (-1 : Int32)), .val (.int (Int32.ofNat (qn / 64 + 1))), .val (.int (Int32.ofNat ((qn / 64 + 1) / 64))), .unset, .unset, .unset] [(.long (fo ((qn / 64 + 1) / 64)))])) _
            refine X15.ldc2Long hx hown (mvT hZ (hw _ (List.mem_of_getElem? (i := 24) rfl))) (g := (mkF m 81 #[.val (.ref ax), .val (.int pq), .val (.int (Int32.ofNat (qn / 64))), .val (.long ((fw (qn / 64)) &&& (own_shlL (-1 : Int64) pq))), .second, .val (.int (-1 : Int32)), .val (.int (Int32.ofNat (qn / 64 + 1))), .val (.int (Int32.ofNat ((qn / 64 + 1) / 64))), .unset, .unset, .unset] [(.long (fo ((qn / 64 + 1) / 64)))])) rfl (hb hby d5_81) _ ?_
            show Steps p.tables e below (T15.setTop (mkF m 84 #[.val (.ref ax), .val (.int pq), .val (.int (Int32.ofNat (qn / 64))), .val (.long ((fw (qn / 64)) &&& (own_shlL (-1 : Int64) pq))), .second, .val (.int (-1 : Int32)), .val (.int (Int32.ofNat (qn / 64 + 1))), .val (.int (Int32.ofNat ((qn / 64 + 1) / 64))), .unset, .unset, .unset] [(.long (-1 : Int64)), (.long (fo ((qn / 64 + 1) / 64)))])) _
            refine XS.iload X15.here hx rfl (hb hby d5_84) rfl ?_
            show Steps p.tables e below (T15.setTop (mkF m 86 #[.val (.ref ax), .val (.int pq), .val (.int (Int32.ofNat (qn / 64))), .val (.long ((fw (qn / 64)) &&& (own_shlL (-1 : Int64) pq))), .second, .val (.int (-1 : Int32)), .val (.int (Int32.ofNat (qn / 64 + 1))), .val (.int (Int32.ofNat ((qn / 64 + 1) / 64))), .unset, .unset, .unset] [(.int (Int32.ofNat (qn / 64 + 1))), (.long (-1 : Int64)), (.long (fo ((qn / 64 + 1) / 64)))])) _
            refine XS.lshl X15.here hx rfl (hb hby d5_86) rfl ?_
            show Steps p.tables e below (T15.setTop (mkF m 87 #[.val (.ref ax), .val (.int pq), .val (.int (Int32.ofNat (qn / 64))), .val (.long ((fw (qn / 64)) &&& (own_shlL (-1 : Int64) pq))), .second, .val (.int (-1 : Int32)), .val (.int (Int32.ofNat (qn / 64 + 1))), .val (.int (Int32.ofNat ((qn / 64 + 1) / 64))), .unset, .unset, .unset] [(.long (own_shlL (-1 : Int64) (Int32.ofNat (qn / 64 + 1)))), (.long (fo ((qn / 64 + 1) / 64)))])) _
            refine XS.land X15.here hx rfl (hb hby d5_87) rfl ?_
            show Steps p.tables e below (T15.setTop (mkF m 88 #[.val (.ref ax), .val (.int pq), .val (.int (Int32.ofNat (qn / 64))), .val (.long ((fw (qn / 64)) &&& (own_shlL (-1 : Int64) pq))), .second, .val (.int (-1 : Int32)), .val (.int (Int32.ofNat (qn / 64 + 1))), .val (.int (Int32.ofNat ((qn / 64 + 1) / 64))), .unset, .unset, .unset] [(.long ((fo ((qn / 64 + 1) / 64)) &&& (own_shlL (-1 : Int64) (Int32.ofNat (qn / 64 + 1)))))])) _
            refine XS.goto X15.here hx rfl (pc0 := 88) (pc' := 92) rfl (hb hby d5_88) (by decide) (by decide) ?_
            show Steps p.tables e below (T15.setTop (mkF m 92 #[.val (.ref ax), .val (.int pq), .val (.int (Int32.ofNat (qn / 64))), .val (.long ((fw (qn / 64)) &&& (own_shlL (-1 : Int64) pq))), .second, .val (.int (-1 : Int32)), .val (.int (Int32.ofNat (qn / 64 + 1))), .val (.int (Int32.ofNat ((qn / 64 + 1) / 64))), .unset, .unset, .unset] [(.long ((fo ((qn / 64 + 1) / 64)) &&& (own_shlL (-1 : Int64) (Int32.ofNat (qn / 64 + 1)))))])) _
            exact k)
          have hj18 : (j5_92_s0 qn mm fo) = ((fo ((qn / 64 + 1) / 64)) &&& (own_shlL (-1 : Int64) (Int32.ofNat (qn / 64 + 1)))) := by unfold j5_92_s0; rw [if_pos hc71_13]
          exact ⟨T15, _, X15, e15, N0, fun t k => pre16 t (by rw [hj18] at k; exact k)⟩
        · have pre17 : ∀ t, Steps p.tables e below (T10.setTop (mkF m 92 #[.val (.ref ax), .val (.int pq), .val (.int (Int32.ofNat (qn / 64))), .val (.long ((fw (qn / 64)) &&& (own_shlL (-1 : Int64) pq))), .second, .val (.int (-1 : Int32)), .val (.int (Int32.ofNat (qn / 64 + 1))), .val (.int (Int32.ofNat ((qn / 64 + 1) / 64))), .unset, .unset, .unset] [(.long (0 : Int64))])) t → Steps p.tables e below (T10.setTop (mkF m 71 #[.val (.ref ax), .val (.int pq), .val (.int (Int32.ofNat (qn / 64))), .val (.long ((fw (qn / 64)) &&& (own_shlL (-1 : Int64) pq))), .second, .val (.int (-1 : Int32)), .val (.int (Int32.ofNat (qn / 64 + 1))), .val (.int (Int32.ofNat ((qn / 64 + 1) / 64))), .unset, .unset, .unset] [(.int (Int32.ofNat mm)), (.int (Int32.ofNat ((qn / 64 + 1) / 64)))])) t := fun t k => pre12 t (by
            refine XS.icmpYes X10.here hx rfl (pc0 := 71) (pc' := 91) rfl (hb hby d5_71) rfl (flt hc71_13).2.1 (by decide) (by decide) ?_
            show Steps p.tables e below (T10.setTop (mkF m 91 #[.val (.ref ax), .val (.int pq), .val (.int (Int32.ofNat (qn / 64))), .val (.long ((fw (qn / 64)) &&& (own_shlL (-1 : Int64) pq))), .second, .val (.int (-1 : Int32)), .val (.int (Int32.ofNat (qn / 64 + 1))), .val (.int (Int32.ofNat ((qn / 64 + 1) / 64))), .unset, .unset, .unset] [])) _
            refine XS.lconst X10.here hx rfl (hb hby d5_91) ?_
            show Steps p.tables e below (T10.setTop (mkF m 92 #[.val (.ref ax), .val (.int pq), .val (.int (Int32.ofNat (qn / 64))), .val (.long ((fw (qn / 64)) &&& (own_shlL (-1 : Int64) pq))), .second, .val (.int (-1 : Int32)), .val (.int (Int32.ofNat (qn / 64 + 1))), .val (.int (Int32.ofNat ((qn / 64 + 1) / 64))), .unset, .unset, .unset] [(.long (0 : Int64))])) _
            exact k)
          have hj19 : (j5_92_s0 qn mm fo) = (0 : Int64) := by unfold j5_92_s0; rw [if_neg hc71_13]
          exact ⟨T10, _, X10, e10, N0, fun t k => pre17 t (by rw [hj19] at k; exact k)⟩
      have pre12 : ∀ t, Steps p.tables e below (T12.setTop (mkF m 92 #[.val (.ref ax), .val (.int pq), .val (.int (Int32.ofNat (qn / 64))), .val (.long ((fw (qn / 64)) &&& (own_shlL (-1 : Int64) pq))), .second, .val (.int (-1 : Int32)), .val (.int (Int32.ofNat (qn / 64 + 1))), .val (.int (Int32.ofNat ((qn / 64 + 1) / 64))), .unset, .unset, .unset] [(.long (j5_92_s0 qn mm fo))])) t → Steps p.tables e below (s₁.setTop (entryFrame m #[(.ref ax), (.int pq)] 11)) t := fun t k => pre11 t (st12 t k)
      have pre20 : ∀ t, Steps p.tables e below (T12.setTop (mkF m 94 #[.val (.ref ax), .val (.int pq), .val (.int (Int32.ofNat (qn / 64))), .val (.long ((fw (qn / 64)) &&& (own_shlL (-1 : Int64) pq))), .second, .val (.int (-1 : Int32)), .val (.int (Int32.ofNat (qn / 64 + 1))), .val (.int (Int32.ofNat ((qn / 64 + 1) / 64))), .val (.long (j5_92_s0 qn mm fo)), .second, .unset] [])) t → Steps p.tables e below (s₁.setTop (entryFrame m #[(.ref ax), (.int pq)] 11)) t := fun t k => pre12 t (by
        refine XS.lstore X12.here hx rfl (hb hby d5_92) rfl (l' := #[.val (.ref ax), .val (.int pq), .val (.int (Int32.ofNat (qn / 64))), .val (.long ((fw (qn / 64)) &&& (own_shlL (-1 : Int64) pq))), .second, .val (.int (-1 : Int32)), .val (.int (Int32.ofNat (qn / 64 + 1))), .val (.int (Int32.ofNat ((qn / 64 + 1) / 64))), .val (.long (j5_92_s0 qn mm fo)), .second, .unset]) rfl ?_
        show Steps p.tables e below (T12.setTop (mkF m 94 #[.val (.ref ax), .val (.int pq), .val (.int (Int32.ofNat (qn / 64))), .val (.long ((fw (qn / 64)) &&& (own_shlL (-1 : Int64) pq))), .second, .val (.int (-1 : Int32)), .val (.int (Int32.ofNat (qn / 64 + 1))), .val (.int (Int32.ofNat ((qn / 64 + 1) / 64))), .val (.long (j5_92_s0 qn mm fo)), .second, .unset] [])) _
        exact k)
      obtain ⟨T21, L21, gg, oc, X21, e21, N21, hoc, st21⟩ := loop_nx (T0 := T12) hx hZ hw hby hml hown ax pq (Int32.ofNat (qn / 64)) ((fw (qn / 64)) &&& (own_shlL (-1 : Int64) pq)) (Int32.ofNat (qn / 64 + 1)) ac mm fo hFo hAo hm31 (own_Gzo hG) mm ((qn / 64 + 1) / 64) (j5_92_s0 qn mm fo) X12 e12 N12 Z0 (by omega) (by have := own_Gm31' hG; omega)
      have pre21 : ∀ t, Steps p.tables e below (T21.setTop (mkF m 128 #[.val (.ref ax), .val (.int pq), .val (.int (Int32.ofNat (qn / 64))), .val (.long ((fw (qn / 64)) &&& (own_shlL (-1 : Int64) pq))), .second, .val (.int (-1 : Int32)), .val (.int (Int32.ofNat (qn / 64 + 1))), .val (.int (Int32.ofNat gg)), .val (.long oc), .second, .unset] [])) t → Steps p.tables e below (s₁.setTop (entryFrame m #[(.ref ax), (.int pq)] 11)) t := fun t k => pre20 t (st21 t k)
      have pre22 : ∀ t, Steps p.tables e below (T21.setTop (mkF m 132 #[.val (.ref ax), .val (.int pq), .val (.int (Int32.ofNat (qn / 64))), .val (.long ((fw (qn / 64)) &&& (own_shlL (-1 : Int64) pq))), .second, .val (.int (-1 : Int32)), .val (.int (Int32.ofNat (qn / 64 + 1))), .val (.int (Int32.ofNat gg)), .val (.long oc), .second, .unset] [(.int (lcmpW oc (0 : Int64)))])) t → Steps p.tables e below (s₁.setTop (entryFrame m #[(.ref ax), (.int pq)] 11)) t := fun t k => pre21 t (by
        refine XS.lload X21.here hx rfl (hb hby d5_128) rfl ?_
        show Steps p.tables e below (T21.setTop (mkF m 130 #[.val (.ref ax), .val (.int pq), .val (.int (Int32.ofNat (qn / 64))), .val (.long ((fw (qn / 64)) &&& (own_shlL (-1 : Int64) pq))), .second, .val (.int (-1 : Int32)), .val (.int (Int32.ofNat (qn / 64 + 1))), .val (.int (Int32.ofNat gg)), .val (.long oc), .second, .unset] [(.long oc)])) _
        refine XS.lconst X21.here hx rfl (hb hby d5_130) ?_
        show Steps p.tables e below (T21.setTop (mkF m 131 #[.val (.ref ax), .val (.int pq), .val (.int (Int32.ofNat (qn / 64))), .val (.long ((fw (qn / 64)) &&& (own_shlL (-1 : Int64) pq))), .second, .val (.int (-1 : Int32)), .val (.int (Int32.ofNat (qn / 64 + 1))), .val (.int (Int32.ofNat gg)), .val (.long oc), .second, .unset] [(.long (0 : Int64)), (.long oc)])) _
        refine XS.lcmp X21.here hx rfl (hb hby d5_131) rfl ?_
        show Steps p.tables e below (T21.setTop (mkF m 132 #[.val (.ref ax), .val (.int pq), .val (.int (Int32.ofNat (qn / 64))), .val (.long ((fw (qn / 64)) &&& (own_shlL (-1 : Int64) pq))), .second, .val (.int (-1 : Int32)), .val (.int (Int32.ofNat (qn / 64 + 1))), .val (.int (Int32.ofNat gg)), .val (.long oc), .second, .unset] [(.int (lcmpW oc (0 : Int64)))])) _
        exact k)
      by_cases hc132_23 : oc = (0 : Int64)
      · have pre24 : ∀ t, Steps p.tables e below (T21.setTop (mkF m 168 #[.val (.ref ax), .val (.int pq), .val (.int (Int32.ofNat (qn / 64))), .val (.long ((fw (qn / 64)) &&& (own_shlL (-1 : Int64) pq))), .second, .val (.int (-1 : Int32)), .val (.int (Int32.ofNat (qn / 64 + 1))), .val (.int (Int32.ofNat gg)), .val (.long oc), .second, .unset] [(.int (-1 : Int32))])) t → Steps p.tables e below (s₁.setTop (entryFrame m #[(.ref ax), (.int pq)] 11)) t := fun t k => pre22 t (by
          refine XS.ifYes X21.here hx rfl (pc0 := 132) (pc' := 166) rfl (hb hby d5_132) rfl ((if0 _ _).trans (teq ((lw_eq oc (0 : Int64)).mpr hc132_23)).1) (by decide) (by decide) ?_
          show Steps p.tables e below (T21.setTop (mkF m 166 #[.val (.ref ax), .val (.int pq), .val (.int (Int32.ofNat (qn / 64))), .val (.long ((fw (qn / 64)) &&& (own_shlL (-1 : Int64) pq))), .second, .val (.int (-1 : Int32)), .val (.int (Int32.ofNat (qn / 64 + 1))), .val (.int (Int32.ofNat gg)), .val (.long oc), .second, .unset] [])) _
          refine XS.iload X21.here hx rfl (hb hby d5_166) rfl ?_
          show Steps p.tables e below (T21.setTop (mkF m 168 #[.val (.ref ax), .val (.int pq), .val (.int (Int32.ofNat (qn / 64))), .val (.long ((fw (qn / 64)) &&& (own_shlL (-1 : Int64) pq))), .second, .val (.int (-1 : Int32)), .val (.int (Int32.ofNat (qn / 64 + 1))), .val (.int (Int32.ofNat gg)), .val (.long oc), .second, .unset] [(.int (-1 : Int32))])) _
          exact k)
        obtain ⟨fs, hr, hrun, hended, hW, hsame⟩ := X21.leave (v := some (.int (-1 : Int32))) (fun h => by rw [Bd.returns] at h; cases h) Bd.notSynchronized
        refine ⟨_, _, pre24 _ ?_, hrun, hended, _, _, rfl, ?_, ⟨_, rfl⟩, hW, hsame.mono (by decide) (by decide)⟩
        · show Steps p.tables e below (T21.setTop (mkF m 168 #[.val (.ref ax), .val (.int pq), .val (.int (Int32.ofNat (qn / 64))), .val (.long ((fw (qn / 64)) &&& (own_shlL (-1 : Int64) pq))), .second, .val (.int (-1 : Int32)), .val (.int (Int32.ofNat (qn / 64 + 1))), .val (.int (Int32.ofNat gg)), .val (.long oc), .second, .unset] [(.int (-1 : Int32))])) _
          exact retI X21 hx Bd.returns (hb hby d5_168) hr
        · show Q5 Z ax pq B S qn h0 n0 _ T21.heap _
          rw [e21]
          exact ⟨_, rfl, N21, Z0, hPS0, own_nxC hG hq hqn hc35_8 hoc hc132_23⟩
      · have pre25 : ∀ t, Steps p.tables e below (T21.setTop (mkF m 135 #[.val (.ref ax), .val (.int pq), .val (.int (Int32.ofNat (qn / 64))), .val (.long ((fw (qn / 64)) &&& (own_shlL (-1 : Int64) pq))), .second, .val (.int (-1 : Int32)), .val (.int (Int32.ofNat (qn / 64 + 1))), .val (.int (Int32.ofNat gg)), .val (.long oc), .second, .unset] [])) t → Steps p.tables e below (s₁.setTop (entryFrame m #[(.ref ax), (.int pq)] 11)) t := fun t k => pre22 t (by
          refine XS.ifNo X21.here hx rfl (hb hby d5_132) rfl ((if0 _ _).trans (feq (fun q => hc132_23 ((lw_eq oc (0 : Int64)).mp q))).1) ?_
          show Steps p.tables e below (T21.setTop (mkF m 135 #[.val (.ref ax), .val (.int pq), .val (.int (Int32.ofNat (qn / 64))), .val (.long ((fw (qn / 64)) &&& (own_shlL (-1 : Int64) pq))), .second, .val (.int (-1 : Int32)), .val (.int (Int32.ofNat (qn / 64 + 1))), .val (.int (Int32.ofNat gg)), .val (.long oc), .second, .unset] [])) _
          exact k)
        obtain ⟨jj, hj1, hj2, hj3⟩ := own_low hc132_23
        have hw1 : (own_shl (Int32.ofNat gg) (6 : Int32)) + (r6 oc) = Int32.ofNat (64 * gg + jj) := own_wix hG hqn hoc hc132_23 hj2 hj3
        have hwn := own_nxw hG hqn hoc hc132_23 hj1 hj2
        have pre26 : ∀ t, Steps p.tables e below (T21.setTop (mkF m 142 #[.val (.ref ax), .val (.int pq), .val (.int (Int32.ofNat (qn / 64))), .val (.long ((fw (qn / 64)) &&& (own_shlL (-1 : Int64) pq))), .second, .val (.int (-1 : Int32)), .val (.int (Int32.ofNat (qn / 64 + 1))), .val (.int (Int32.ofNat gg)), .val (.long oc), .second, .unset] [(.long oc), (.int (own_shl (Int32.ofNat gg) (6 : Int32)))])) t → Steps p.tables e below (s₁.setTop (entryFrame m #[(.ref ax), (.int pq)] 11)) t := fun t k => pre25 t (by
          refine XS.iload X21.here hx rfl (hb hby d5_135) rfl ?_
          show Steps p.tables e below (T21.setTop (mkF m 137 #[.val (.ref ax), .val (.int pq), .val (.int (Int32.ofNat (qn / 64))), .val (.long ((fw (qn / 64)) &&& (own_shlL (-1 : Int64) pq))), .second, .val (.int (-1 : Int32)), .val (.int (Int32.ofNat (qn / 64 + 1))), .val (.int (Int32.ofNat gg)), .val (.long oc), .second, .unset] [(.int (Int32.ofNat gg))])) _
          refine XS.bipush X21.here hx rfl (hb hby d5_137) ?_
          show Steps p.tables e below (T21.setTop (mkF m 139 #[.val (.ref ax), .val (.int pq), .val (.int (Int32.ofNat (qn / 64))), .val (.long ((fw (qn / 64)) &&& (own_shlL (-1 : Int64) pq))), .second, .val (.int (-1 : Int32)), .val (.int (Int32.ofNat (qn / 64 + 1))), .val (.int (Int32.ofNat gg)), .val (.long oc), .second, .unset] [(.int (6 : Int32)), (.int (Int32.ofNat gg))])) _
          refine XS.ishl X21.here hx rfl (hb hby d5_139) rfl ?_
          show Steps p.tables e below (T21.setTop (mkF m 140 #[.val (.ref ax), .val (.int pq), .val (.int (Int32.ofNat (qn / 64))), .val (.long ((fw (qn / 64)) &&& (own_shlL (-1 : Int64) pq))), .second, .val (.int (-1 : Int32)), .val (.int (Int32.ofNat (qn / 64 + 1))), .val (.int (Int32.ofNat gg)), .val (.long oc), .second, .unset] [(.int (own_shl (Int32.ofNat gg) (6 : Int32)))])) _
          refine XS.lload X21.here hx rfl (hb hby d5_140) rfl ?_
          show Steps p.tables e below (T21.setTop (mkF m 142 #[.val (.ref ax), .val (.int pq), .val (.int (Int32.ofNat (qn / 64))), .val (.long ((fw (qn / 64)) &&& (own_shlL (-1 : Int64) pq))), .second, .val (.int (-1 : Int32)), .val (.int (Int32.ofNat (qn / 64 + 1))), .val (.int (Int32.ofNat gg)), .val (.long oc), .second, .unset] [(.long oc), (.int (own_shl (Int32.ofNat gg) (6 : Int32)))])) _
          exact k)
        obtain ⟨_, _, ⟨T27, L27, k27, n27⟩, -, X27, ⟨Lc27, hQ27, l27, y27, z27⟩, st27⟩ := Jvm.LawKit.callS X21 hx (y := (⟨"java/lang/Long", "numberOfTrailingZeros", "(J)I"⟩ : MethodName)) hown (mvT hZ (hw _ (List.mem_of_getElem? (i := 30) rfl))) (mvT hZ (hw _ (List.mem_of_getElem? (i := 31) rfl))) (mvT hZ (hw _ (List.mem_of_getElem? (i := 32) rfl))) (mvT hZ (hw _ (List.mem_of_getElem? (i := 33) rfl))) (by decide) (backOf (W := 1) (rm6 l Z a0 hw [] oc h0 n0 Z0 ) hZ (hw _ (List.mem_of_getElem? (i := 33) rfl)) (hw _ (List.mem_of_getElem? (i := 32) rfl)) (by decide) (by decide)) (g := (mkF m 142 #[.val (.ref ax), .val (.int pq), .val (.int (Int32.ofNat (qn / 64))), .val (.long ((fw (qn / 64)) &&& (own_shlL (-1 : Int64) pq))), .second, .val (.int (-1 : Int32)), .val (.int (Int32.ofNat (qn / 64 + 1))), .val (.int (Int32.ofNat gg)), .val (.long oc), .second, .unset] [(.long oc), (.int (own_shl (Int32.ofNat gg) (6 : Int32)))])) rfl (by rw [hml]; rfl) (argsL := [(.long oc)]) (rest := [(.int (own_shl (Int32.ofNat gg) (6 : Int32)))]) (lenOf pd_2 rfl) rfl (by show 2 * 0 + _ ≤ _; exact Nat.le_of_eq rfl) (hb hby d5_142) (fun _ _ => ⟨rfl, e21, (by decide : 0 + 0 ≤ _), (by decide : 0 + 0 ≤ _)⟩)
        dsimp only [Pt.U, Pt.locs, Pt.cells, Pt.slots] at X27 l27 y27 z27 st27 hQ27
        rw [l27, y27, z27] at X27
        obtain ⟨rfl, M27, e27⟩ := hQ27
        have N27 := Fr.app N21 M27
        replace X27 : Stand p l e R5 s m #[(.ref ax), (.int pq)] below meth c T27 _ 0 0 := X27
        have pre27 : ∀ t, Steps p.tables e below (T27.setTop (mkF m 145 #[.val (.ref ax), .val (.int pq), .val (.int (Int32.ofNat (qn / 64))), .val (.long ((fw (qn / 64)) &&& (own_shlL (-1 : Int64) pq))), .second, .val (.int (-1 : Int32)), .val (.int (Int32.ofNat (qn / 64 + 1))), .val (.int (Int32.ofNat gg)), .val (.long oc), .second, .unset] [(.int (r6 oc)), (.int (own_shl (Int32.ofNat gg) (6 : Int32)))])) t → Steps p.tables e below (s₁.setTop (entryFrame m #[(.ref ax), (.int pq)] 11)) t := fun t k => pre26 t (st27 t k)
        have pre28 : ∀ t, Steps p.tables e below (T27.setTop (mkF m 154 #[.val (.ref ax), .val (.int pq), .val (.int (Int32.ofNat (qn / 64))), .val (.long ((fw (qn / 64)) &&& (own_shlL (-1 : Int64) pq))), .second, .val (.int (-1 : Int32)), .val (.int (Int32.ofNat (qn / 64 + 1))), .val (.int (Int32.ofNat gg)), .val (.long oc), .second, .val (.int (Int32.ofNat (64 * gg + jj)))] [(.ref ax), (.int (own_shl (Int32.ofNat (64 * gg + jj)) (6 : Int32)))])) t → Steps p.tables e below (s₁.setTop (entryFrame m #[(.ref ax), (.int pq)] 11)) t := fun t k => pre27 t (by
          refine XS.iadd X27.here hx rfl (hb hby d5_145) rfl ?_
          show Steps p.tables e below (T27.setTop (mkF m 146 #[.val (.ref ax), .val (.int pq), .val (.int (Int32.ofNat (qn / 64))), .val (.long ((fw (qn / 64)) &&& (own_shlL (-1 : Int64) pq))), .second, .val (.int (-1 : Int32)), .val (.int (Int32.ofNat (qn / 64 + 1))), .val (.int (Int32.ofNat gg)), .val (.long oc), .second, .unset] [(.int ((own_shl (Int32.ofNat gg) (6 : Int32)) + (r6 oc)))])) _
          show Steps p.tables e below (T27.setTop (mkF m 146 #[.val (.ref ax), .val (.int pq), .val (.int (Int32.ofNat (qn / 64))), .val (.long ((fw (qn / 64)) &&& (own_shlL (-1 : Int64) pq))), .second, .val (.int (-1 : Int32)), .val (.int (Int32.ofNat (qn / 64 + 1))), .val (.int (Int32.ofNat gg)), .val (.long oc), .second, .unset] [(.int ((own_shl (Int32.ofNat gg) (6 : Int32)) + (r6 oc)))])) _
          rw [hw1]
          show Steps p.tables e below (T27.setTop (mkF m 146 #[.val (.ref ax), .val (.int pq), .val (.int (Int32.ofNat (qn / 64))), .val (.long ((fw (qn / 64)) &&& (own_shlL (-1 : Int64) pq))), .second, .val (.int (-1 : Int32)), .val (.int (Int32.ofNat (qn / 64 + 1))), .val (.int (Int32.ofNat gg)), .val (.long oc), .second, .unset] [(.int (Int32.ofNat (64 * gg + jj)))])) _
          refine XS.istore X27.here hx rfl (hb hby d5_146) rfl (l' := #[.val (.ref ax), .val (.int pq), .val (.int (Int32.ofNat (qn / 64))), .val (.long ((fw (qn / 64)) &&& (own_shlL (-1 : Int64) pq))), .second, .val (.int (-1 : Int32)), .val (.int (Int32.ofNat (qn / 64 + 1))), .val (.int (Int32.ofNat gg)), .val (.long oc), .second, .val (.int (Int32.ofNat (64 * gg + jj)))]) rfl ?_
          show Steps p.tables e below (T27.setTop (mkF m 148 #[.val (.ref ax), .val (.int pq), .val (.int (Int32.ofNat (qn / 64))), .val (.long ((fw (qn / 64)) &&& (own_shlL (-1 : Int64) pq))), .second, .val (.int (-1 : Int32)), .val (.int (Int32.ofNat (qn / 64 + 1))), .val (.int (Int32.ofNat gg)), .val (.long oc), .second, .val (.int (Int32.ofNat (64 * gg + jj)))] [])) _
          refine XS.iload X27.here hx rfl (hb hby d5_148) rfl ?_
          show Steps p.tables e below (T27.setTop (mkF m 150 #[.val (.ref ax), .val (.int pq), .val (.int (Int32.ofNat (qn / 64))), .val (.long ((fw (qn / 64)) &&& (own_shlL (-1 : Int64) pq))), .second, .val (.int (-1 : Int32)), .val (.int (Int32.ofNat (qn / 64 + 1))), .val (.int (Int32.ofNat gg)), .val (.long oc), .second, .val (.int (Int32.ofNat (64 * gg + jj)))] [(.int (Int32.ofNat (64 * gg + jj)))])) _
          refine XS.bipush X27.here hx rfl (hb hby d5_150) ?_
          show Steps p.tables e below (T27.setTop (mkF m 152 #[.val (.ref ax), .val (.int pq), .val (.int (Int32.ofNat (qn / 64))), .val (.long ((fw (qn / 64)) &&& (own_shlL (-1 : Int64) pq))), .second, .val (.int (-1 : Int32)), .val (.int (Int32.ofNat (qn / 64 + 1))), .val (.int (Int32.ofNat gg)), .val (.long oc), .second, .val (.int (Int32.ofNat (64 * gg + jj)))] [(.int (6 : Int32)), (.int (Int32.ofNat (64 * gg + jj)))])) _
          refine XS.ishl X27.here hx rfl (hb hby d5_152) rfl ?_
          show Steps p.tables e below (T27.setTop (mkF m 153 #[.val (.ref ax), .val (.int pq), .val (.int (Int32.ofNat (qn / 64))), .val (.long ((fw (qn / 64)) &&& (own_shlL (-1 : Int64) pq))), .second, .val (.int (-1 : Int32)), .val (.int (Int32.ofNat (qn / 64 + 1))), .val (.int (Int32.ofNat gg)), .val (.long oc), .second, .val (.int (Int32.ofNat (64 * gg + jj)))] [(.int (own_shl (Int32.ofNat (64 * gg + jj)) (6 : Int32)))])) _
          refine XS.aloadN X27.here hx rfl (hb hby d5_153) rfl rfl ?_
          show Steps p.tables e below (T27.setTop (mkF m 154 #[.val (.ref ax), .val (.int pq), .val (.int (Int32.ofNat (qn / 64))), .val (.long ((fw (qn / 64)) &&& (own_shlL (-1 : Int64) pq))), .second, .val (.int (-1 : Int32)), .val (.int (Int32.ofNat (qn / 64 + 1))), .val (.int (Int32.ofNat gg)), .val (.long oc), .second, .val (.int (Int32.ofNat (64 * gg + jj)))] [(.ref ax), (.int (own_shl (Int32.ofNat (64 * gg + jj)) (6 : Int32)))])) _
          exact k)
        obtain ⟨T29, X29, e29, st29⟩ := getF X27 hx hZ hown (host := "") (Or.inl (hw _ (List.mem_of_getElem? (i := 10) rfl))) Via.refl e27 hFw (g := (mkF m 154 #[.val (.ref ax), .val (.int pq), .val (.int (Int32.ofNat (qn / 64))), .val (.long ((fw (qn / 64)) &&& (own_shlL (-1 : Int64) pq))), .second, .val (.int (-1 : Int32)), .val (.int (Int32.ofNat (qn / 64 + 1))), .val (.int (Int32.ofNat gg)), .val (.long oc), .second, .val (.int (Int32.ofNat (64 * gg + jj)))] [(.ref ax), (.int (own_shl (Int32.ofNat (64 * gg + jj)) (6 : Int32)))])) rfl rfl (hb hby d5_154)
        have pre29 : ∀ t, Steps p.tables e below (T29.setTop (mkF m 157 #[.val (.ref ax), .val (.int pq), .val (.int (Int32.ofNat (qn / 64))), .val (.long ((fw (qn / 64)) &&& (own_shlL (-1 : Int64) pq))), .second, .val (.int (-1 : Int32)), .val (.int (Int32.ofNat (qn / 64 + 1))), .val (.int (Int32.ofNat gg)), .val (.long oc), .second, .val (.int (Int32.ofNat (64 * gg + jj)))] [(.ref aw), (.int (own_shl (Int32.ofNat (64 * gg + jj)) (6 : Int32)))])) t → Steps p.tables e below (s₁.setTop (entryFrame m #[(.ref ax), (.int pq)] 11)) t := fun t k => pre28 t (st29 t k)
        have pre30 : ∀ t, Steps p.tables e below (T29.setTop (mkF m 160 #[.val (.ref ax), .val (.int pq), .val (.int (Int32.ofNat (qn / 64))), .val (.long ((fw (qn / 64)) &&& (own_shlL (-1 : Int64) pq))), .second, .val (.int (-1 : Int32)), .val (.int (Int32.ofNat (qn / 64 + 1))), .val (.int (Int32.ofNat gg)), .val (.long oc), .second, .val (.int (Int32.ofNat (64 * gg + jj)))] [(.long (fw (64 * gg + jj))), (.int (own_shl (Int32.ofNat (64 * gg + jj)) (6 : Int32)))])) t → Steps p.tables e below (s₁.setTop (entryFrame m #[(.ref ax), (.int pq)] 11)) t := fun t k => pre29 t (by
          refine XS.iload X29.here hx rfl (hb hby d5_157) rfl ?_
          show Steps p.tables e below (T29.setTop (mkF m 159 #[.val (.ref ax), .val (.int pq), .val (.int (Int32.ofNat (qn / 64))), .val (.long ((fw (qn / 64)) &&& (own_shlL (-1 : Int64) pq))), .second, .val (.int (-1 : Int32)), .val (.int (Int32.ofNat (qn / 64 + 1))), .val (.int (Int32.ofNat gg)), .val (.long oc), .second, .val (.int (Int32.ofNat (64 * gg + jj)))] [(.int (Int32.ofNat (64 * gg + jj))), (.ref aw), (.int (own_shl (Int32.ofNat (64 * gg + jj)) (6 : Int32)))])) _
          refine own_ldJ X29 hx hZ e29 hAw (j := (Int32.ofNat (64 * gg + jj))) (i := (64 * gg + jj)) (own_at32 (Nat.lt_trans hwn.1 (own_Gn hG))) (by exact hwn.1) (g := (mkF m 159 #[.val (.ref ax), .val (.int pq), .val (.int (Int32.ofNat (qn / 64))), .val (.long ((fw (qn / 64)) &&& (own_shlL (-1 : Int64) pq))), .second, .val (.int (-1 : Int32)), .val (.int (Int32.ofNat (qn / 64 + 1))), .val (.int (Int32.ofNat gg)), .val (.long oc), .second, .val (.int (Int32.ofNat (64 * gg + jj)))] [(.int (Int32.ofNat (64 * gg + jj))), (.ref aw), (.int (own_shl (Int32.ofNat (64 * gg + jj)) (6 : Int32)))])) rfl rfl (hb hby d5_159) _ ?_
          show Steps p.tables e below (T29.setTop (mkF m 160 #[.val (.ref ax), .val (.int pq), .val (.int (Int32.ofNat (qn / 64))), .val (.long ((fw (qn / 64)) &&& (own_shlL (-1 : Int64) pq))), .second, .val (.int (-1 : Int32)), .val (.int (Int32.ofNat (qn / 64 + 1))), .val (.int (Int32.ofNat gg)), .val (.long oc), .second, .val (.int (Int32.ofNat (64 * gg + jj)))] [(.long (fw (64 * gg + jj))), (.int (own_shl (Int32.ofNat (64 * gg + jj)) (6 : Int32)))])) _
          exact k)
        obtain ⟨_, _, ⟨T31, L31, k31, n31⟩, -, X31, ⟨Lc31, hQ31, l31, y31, z31⟩, st31⟩ := Jvm.LawKit.callS X29 hx (y := (⟨"java/lang/Long", "numberOfTrailingZeros", "(J)I"⟩ : MethodName)) hown (mvT hZ (hw _ (List.mem_of_getElem? (i := 30) rfl))) (mvT hZ (hw _ (List.mem_of_getElem? (i := 31) rfl))) (mvT hZ (hw _ (List.mem_of_getElem? (i := 32) rfl))) (mvT hZ (hw _ (List.mem_of_getElem? (i := 33) rfl))) (by decide) (backOf (W := 1) (rm6 l Z a0 hw [] (fw (64 * gg + jj)) h0 n0 Z0 ) hZ (hw _ (List.mem_of_getElem? (i := 33) rfl)) (hw _ (List.mem_of_getElem? (i := 32) rfl)) (by decide) (by decide)) (g := (mkF m 160 #[.val (.ref ax), .val (.int pq), .val (.int (Int32.ofNat (qn / 64))), .val (.long ((fw (qn / 64)) &&& (own_shlL (-1 : Int64) pq))), .second, .val (.int (-1 : Int32)), .val (.int (Int32.ofNat (qn / 64 + 1))), .val (.int (Int32.ofNat gg)), .val (.long oc), .second, .val (.int (Int32.ofNat (64 * gg + jj)))] [(.long (fw (64 * gg + jj))), (.int (own_shl (Int32.ofNat (64 * gg + jj)) (6 : Int32)))])) rfl (by rw [hml]; rfl) (argsL := [(.long (fw (64 * gg + jj)))]) (rest := [(.int (own_shl (Int32.ofNat (64 * gg + jj)) (6 : Int32)))]) (lenOf pd_2 rfl) rfl (by show 2 * 0 + _ ≤ _; exact Nat.le_of_eq rfl) (hb hby d5_160) (fun _ _ => ⟨rfl, e29, (by decide : 0 + 0 ≤ _), (by decide : 0 + 0 ≤ _)⟩)
        dsimp only [Pt.U, Pt.locs, Pt.cells, Pt.slots] at X31 l31 y31 z31 st31 hQ31
        rw [l31, y31, z31] at X31
        obtain ⟨rfl, M31, e31⟩ := hQ31
        have N31 := Fr.app N27 M31
        replace X31 : Stand p l e R5 s m #[(.ref ax), (.int pq)] below meth c T31 _ 0 0 := X31
        have pre31 : ∀ t, Steps p.tables e below (T31.setTop (mkF m 163 #[.val (.ref ax), .val (.int pq), .val (.int (Int32.ofNat (qn / 64))), .val (.long ((fw (qn / 64)) &&& (own_shlL (-1 : Int64) pq))), .second, .val (.int (-1 : Int32)), .val (.int (Int32.ofNat (qn / 64 + 1))), .val (.int (Int32.ofNat gg)), .val (.long oc), .second, .val (.int (Int32.ofNat (64 * gg + jj)))] [(.int (r6 (fw (64 * gg + jj)))), (.int (own_shl (Int32.ofNat (64 * gg + jj)) (6 : Int32)))])) t → Steps p.tables e below (s₁.setTop (entryFrame m #[(.ref ax), (.int pq)] 11)) t := fun t k => pre30 t (st31 t k)
        have pre32 : ∀ t, Steps p.tables e below (T31.setTop (mkF m 168 #[.val (.ref ax), .val (.int pq), .val (.int (Int32.ofNat (qn / 64))), .val (.long ((fw (qn / 64)) &&& (own_shlL (-1 : Int64) pq))), .second, .val (.int ((own_shl (Int32.ofNat (64 * gg + jj)) (6 : Int32)) + (r6 (fw (64 * gg + jj))))), .val (.int (Int32.ofNat (qn / 64 + 1))), .val (.int (Int32.ofNat gg)), .val (.long oc), .second, .val (.int (Int32.ofNat (64 * gg + jj)))] [(.int ((own_shl (Int32.ofNat (64 * gg + jj)) (6 : Int32)) + (r6 (fw (64 * gg + jj)))))])) t → Steps p.tables e below (s₁.setTop (entryFrame m #[(.ref ax), (.int pq)] 11)) t := fun t k => pre31 t (by
          refine XS.iadd X31.here hx rfl (hb hby d5_163) rfl ?_
          show Steps p.tables e below (T31.setTop (mkF m 164 #[.val (.ref ax), .val (.int pq), .val (.int (Int32.ofNat (qn / 64))), .val (.long ((fw (qn / 64)) &&& (own_shlL (-1 : Int64) pq))), .second, .val (.int (-1 : Int32)), .val (.int (Int32.ofNat (qn / 64 + 1))), .val (.int (Int32.ofNat gg)), .val (.long oc), .second, .val (.int (Int32.ofNat (64 * gg + jj)))] [(.int ((own_shl (Int32.ofNat (64 * gg + jj)) (6 : Int32)) + (r6 (fw (64 * gg + jj)))))])) _
          refine XS.istore X31.here hx rfl (hb hby d5_164) rfl (l' := #[.val (.ref ax), .val (.int pq), .val (.int (Int32.ofNat (qn / 64))), .val (.long ((fw (qn / 64)) &&& (own_shlL (-1 : Int64) pq))), .second, .val (.int ((own_shl (Int32.ofNat (64 * gg + jj)) (6 : Int32)) + (r6 (fw (64 * gg + jj))))), .val (.int (Int32.ofNat (qn / 64 + 1))), .val (.int (Int32.ofNat gg)), .val (.long oc), .second, .val (.int (Int32.ofNat (64 * gg + jj)))]) rfl ?_
          show Steps p.tables e below (T31.setTop (mkF m 166 #[.val (.ref ax), .val (.int pq), .val (.int (Int32.ofNat (qn / 64))), .val (.long ((fw (qn / 64)) &&& (own_shlL (-1 : Int64) pq))), .second, .val (.int ((own_shl (Int32.ofNat (64 * gg + jj)) (6 : Int32)) + (r6 (fw (64 * gg + jj))))), .val (.int (Int32.ofNat (qn / 64 + 1))), .val (.int (Int32.ofNat gg)), .val (.long oc), .second, .val (.int (Int32.ofNat (64 * gg + jj)))] [])) _
          refine XS.iload X31.here hx rfl (hb hby d5_166) rfl ?_
          show Steps p.tables e below (T31.setTop (mkF m 168 #[.val (.ref ax), .val (.int pq), .val (.int (Int32.ofNat (qn / 64))), .val (.long ((fw (qn / 64)) &&& (own_shlL (-1 : Int64) pq))), .second, .val (.int ((own_shl (Int32.ofNat (64 * gg + jj)) (6 : Int32)) + (r6 (fw (64 * gg + jj))))), .val (.int (Int32.ofNat (qn / 64 + 1))), .val (.int (Int32.ofNat gg)), .val (.long oc), .second, .val (.int (Int32.ofNat (64 * gg + jj)))] [(.int ((own_shl (Int32.ofNat (64 * gg + jj)) (6 : Int32)) + (r6 (fw (64 * gg + jj)))))])) _
          exact k)
        obtain ⟨fs, hr, hrun, hended, hW, hsame⟩ := X31.leave (v := some (.int ((own_shl (Int32.ofNat (64 * gg + jj)) (6 : Int32)) + (r6 (fw (64 * gg + jj)))))) (fun h => by rw [Bd.returns] at h; cases h) Bd.notSynchronized
        refine ⟨_, _, pre32 _ ?_, hrun, hended, _, _, rfl, ?_, ⟨_, rfl⟩, hW, hsame.mono (by decide) (by decide)⟩
        · show Steps p.tables e below (T31.setTop (mkF m 168 #[.val (.ref ax), .val (.int pq), .val (.int (Int32.ofNat (qn / 64))), .val (.long ((fw (qn / 64)) &&& (own_shlL (-1 : Int64) pq))), .second, .val (.int ((own_shl (Int32.ofNat (64 * gg + jj)) (6 : Int32)) + (r6 (fw (64 * gg + jj))))), .val (.int (Int32.ofNat (qn / 64 + 1))), .val (.int (Int32.ofNat gg)), .val (.long oc), .second, .val (.int (Int32.ofNat (64 * gg + jj)))] [(.int ((own_shl (Int32.ofNat (64 * gg + jj)) (6 : Int32)) + (r6 (fw (64 * gg + jj)))))])) _
          exact retI X31 hx Bd.returns (hb hby d5_168) hr
        · show Q5 Z ax pq B S qn h0 n0 _ T31.heap _
          rw [e31]
          exact ⟨_, rfl, N31, Z0, hPS0, own_nxD hG hq hqn hc35_8 hoc hc132_23 hj1 hj3 hwn⟩
    · have pre33 : ∀ t, Steps p.tables e below (T6.setTop (mkF m 43 #[.val (.ref ax), .val (.int pq), .val (.int (Int32.ofNat (qn / 64))), .val (.long ((fw (qn / 64)) &&& (own_shlL (-1 : Int64) pq))), .second, .val (.int (-1 : Int32)), .unset, .unset, .unset, .unset, .unset] [(.long ((fw (qn / 64)) &&& (own_shlL (-1 : Int64) pq))), (.int (own_shl (Int32.ofNat (qn / 64)) (6 : Int32)))])) t → Steps p.tables e below (s₁.setTop (entryFrame m #[(.ref ax), (.int pq)] 11)) t := fun t k => pre7 t (by
        refine XS.ifNo X6.here hx rfl (hb hby d5_35) rfl ((if0 _ _).trans (feq (fun q => hc35_8 ((lw_eq ((fw (qn / 64)) &&& (own_shlL (-1 : Int64) pq)) (0 : Int64)).mp q))).1) ?_
        show Steps p.tables e below (T6.setTop (mkF m 38 #[.val (.ref ax), .val (.int pq), .val (.int (Int32.ofNat (qn / 64))), .val (.long ((fw (qn / 64)) &&& (own_shlL (-1 : Int64) pq))), .second, .val (.int (-1 : Int32)), .unset, .unset, .unset, .unset, .unset] [])) _
        refine XS.iloadN X6.here hx rfl (hb hby d5_38) rfl ?_
        show Steps p.tables e below (T6.setTop (mkF m 39 #[.val (.ref ax), .val (.int pq), .val (.int (Int32.ofNat (qn / 64))), .val (.long ((fw (qn / 64)) &&& (own_shlL (-1 : Int64) pq))), .second, .val (.int (-1 : Int32)), .unset, .unset, .unset, .unset, .unset] [(.int (Int32.ofNat (qn / 64)))])) _
        refine XS.bipush X6.here hx rfl (hb hby d5_39) ?_
        show Steps p.tables e below (T6.setTop (mkF m 41 #[.val (.ref ax), .val (.int pq), .val (.int (Int32.ofNat (qn / 64))), .val (.long ((fw (qn / 64)) &&& (own_shlL (-1 : Int64) pq))), .second, .val (.int (-1 : Int32)), .unset, .unset, .unset, .unset, .unset] [(.int (6 : Int32)), (.int (Int32.ofNat (qn / 64)))])) _
        refine XS.ishl X6.here hx rfl (hb hby d5_41) rfl ?_
        show Steps p.tables e below (T6.setTop (mkF m 42 #[.val (.ref ax), .val (.int pq), .val (.int (Int32.ofNat (qn / 64))), .val (.long ((fw (qn / 64)) &&& (own_shlL (-1 : Int64) pq))), .second, .val (.int (-1 : Int32)), .unset, .unset, .unset, .unset, .unset] [(.int (own_shl (Int32.ofNat (qn / 64)) (6 : Int32)))])) _
        refine XS.lloadN X6.here hx rfl (hb hby d5_42) rfl ?_
        show Steps p.tables e below (T6.setTop (mkF m 43 #[.val (.ref ax), .val (.int pq), .val (.int (Int32.ofNat (qn / 64))), .val (.long ((fw (qn / 64)) &&& (own_shlL (-1 : Int64) pq))), .second, .val (.int (-1 : Int32)), .unset, .unset, .unset, .unset, .unset] [(.long ((fw (qn / 64)) &&& (own_shlL (-1 : Int64) pq))), (.int (own_shl (Int32.ofNat (qn / 64)) (6 : Int32)))])) _
        exact k)
      obtain ⟨_, _, ⟨T34, L34, k34, n34⟩, -, X34, ⟨Lc34, hQ34, l34, y34, z34⟩, st34⟩ := Jvm.LawKit.callS X6 hx (y := (⟨"java/lang/Long", "numberOfTrailingZeros", "(J)I"⟩ : MethodName)) hown (mvT hZ (hw _ (List.mem_of_getElem? (i := 30) rfl))) (mvT hZ (hw _ (List.mem_of_getElem? (i := 31) rfl))) (mvT hZ (hw _ (List.mem_of_getElem? (i := 32) rfl))) (mvT hZ (hw _ (List.mem_of_getElem? (i := 33) rfl))) (by decide) (backOf (W := 1) (rm6 l Z a0 hw [] ((fw (qn / 64)) &&& (own_shlL (-1 : Int64) pq)) h0 n0 Z0 ) hZ (hw _ (List.mem_of_getElem? (i := 33) rfl)) (hw _ (List.mem_of_getElem? (i := 32) rfl)) (by decide) (by decide)) (g := (mkF m 43 #[.val (.ref ax), .val (.int pq), .val (.int (Int32.ofNat (qn / 64))), .val (.long ((fw (qn / 64)) &&& (own_shlL (-1 : Int64) pq))), .second, .val (.int (-1 : Int32)), .unset, .unset, .unset, .unset, .unset] [(.long ((fw (qn / 64)) &&& (own_shlL (-1 : Int64) pq))), (.int (own_shl (Int32.ofNat (qn / 64)) (6 : Int32)))])) rfl (by rw [hml]; rfl) (argsL := [(.long ((fw (qn / 64)) &&& (own_shlL (-1 : Int64) pq)))]) (rest := [(.int (own_shl (Int32.ofNat (qn / 64)) (6 : Int32)))]) (lenOf pd_2 rfl) rfl (by show 2 * 0 + _ ≤ _; exact Nat.le_of_eq rfl) (hb hby d5_43) (fun _ _ => ⟨rfl, e6, (by decide : 0 + 0 ≤ _), (by decide : 0 + 0 ≤ _)⟩)
      dsimp only [Pt.U, Pt.locs, Pt.cells, Pt.slots] at X34 l34 y34 z34 st34 hQ34
      rw [l34, y34, z34] at X34
      obtain ⟨rfl, M34, e34⟩ := hQ34
      have N34 := Fr.app N0 M34
      replace X34 : Stand p l e R5 s m #[(.ref ax), (.int pq)] below meth c T34 _ 0 0 := X34
      have pre34 : ∀ t, Steps p.tables e below (T34.setTop (mkF m 46 #[.val (.ref ax), .val (.int pq), .val (.int (Int32.ofNat (qn / 64))), .val (.long ((fw (qn / 64)) &&& (own_shlL (-1 : Int64) pq))), .second, .val (.int (-1 : Int32)), .unset, .unset, .unset, .unset, .unset] [(.int (r6 ((fw (qn / 64)) &&& (own_shlL (-1 : Int64) pq)))), (.int (own_shl (Int32.ofNat (qn / 64)) (6 : Int32)))])) t → Steps p.tables e below (s₁.setTop (entryFrame m #[(.ref ax), (.int pq)] 11)) t := fun t k => pre33 t (st34 t k)
      have pre35 : ∀ t, Steps p.tables e below (T34.setTop (mkF m 168 #[.val (.ref ax), .val (.int pq), .val (.int (Int32.ofNat (qn / 64))), .val (.long ((fw (qn / 64)) &&& (own_shlL (-1 : Int64) pq))), .second, .val (.int ((own_shl (Int32.ofNat (qn / 64)) (6 : Int32)) + (r6 ((fw (qn / 64)) &&& (own_shlL (-1 : Int64) pq))))), .unset, .unset, .unset, .unset, .unset] [(.int ((own_shl (Int32.ofNat (qn / 64)) (6 : Int32)) + (r6 ((fw (qn / 64)) &&& (own_shlL (-1 : Int64) pq)))))])) t → Steps p.tables e below (s₁.setTop (entryFrame m #[(.ref ax), (.int pq)] 11)) t := fun t k => pre34 t (by
        refine XS.iadd X34.here hx rfl (hb hby d5_46) rfl ?_
        show Steps p.tables e below (T34.setTop (mkF m 47 #[.val (.ref ax), .val (.int pq), .val (.int (Int32.ofNat (qn / 64))), .val (.long ((fw (qn / 64)) &&& (own_shlL (-1 : Int64) pq))), .second, .val (.int (-1 : Int32)), .unset, .unset, .unset, .unset, .unset] [(.int ((own_shl (Int32.ofNat (qn / 64)) (6 : Int32)) + (r6 ((fw (qn / 64)) &&& (own_shlL (-1 : Int64) pq)))))])) _
        refine XS.istore X34.here hx rfl (hb hby d5_47) rfl (l' := #[.val (.ref ax), .val (.int pq), .val (.int (Int32.ofNat (qn / 64))), .val (.long ((fw (qn / 64)) &&& (own_shlL (-1 : Int64) pq))), .second, .val (.int ((own_shl (Int32.ofNat (qn / 64)) (6 : Int32)) + (r6 ((fw (qn / 64)) &&& (own_shlL (-1 : Int64) pq))))), .unset, .unset, .unset, .unset, .unset]) rfl ?_
        show Steps p.tables e below (T34.setTop (mkF m 49 #[.val (.ref ax), .val (.int pq), .val (.int (Int32.ofNat (qn / 64))), .val (.long ((fw (qn / 64)) &&& (own_shlL (-1 : Int64) pq))), .second, .val (.int ((own_shl (Int32.ofNat (qn / 64)) (6 : Int32)) + (r6 ((fw (qn / 64)) &&& (own_shlL (-1 : Int64) pq))))), .unset, .unset, .unset, .unset, .unset] [])) _
        refine XS.goto X34.here hx rfl (pc0 := 49) (pc' := 166) rfl (hb hby d5_49) (by decide) (by decide) ?_
        show Steps p.tables e below (T34.setTop (mkF m 166 #[.val (.ref ax), .val (.int pq), .val (.int (Int32.ofNat (qn / 64))), .val (.long ((fw (qn / 64)) &&& (own_shlL (-1 : Int64) pq))), .second, .val (.int ((own_shl (Int32.ofNat (qn / 64)) (6 : Int32)) + (r6 ((fw (qn / 64)) &&& (own_shlL (-1 : Int64) pq))))), .unset, .unset, .unset, .unset, .unset] [])) _
        refine XS.iload X34.here hx rfl (hb hby d5_166) rfl ?_
        show Steps p.tables e below (T34.setTop (mkF m 168 #[.val (.ref ax), .val (.int pq), .val (.int (Int32.ofNat (qn / 64))), .val (.long ((fw (qn / 64)) &&& (own_shlL (-1 : Int64) pq))), .second, .val (.int ((own_shl (Int32.ofNat (qn / 64)) (6 : Int32)) + (r6 ((fw (qn / 64)) &&& (own_shlL (-1 : Int64) pq))))), .unset, .unset, .unset, .unset, .unset] [(.int ((own_shl (Int32.ofNat (qn / 64)) (6 : Int32)) + (r6 ((fw (qn / 64)) &&& (own_shlL (-1 : Int64) pq)))))])) _
        exact k)
      obtain ⟨fs, hr, hrun, hended, hW, hsame⟩ := X34.leave (v := some (.int ((own_shl (Int32.ofNat (qn / 64)) (6 : Int32)) + (r6 ((fw (qn / 64)) &&& (own_shlL (-1 : Int64) pq)))))) (fun h => by rw [Bd.returns] at h; cases h) Bd.notSynchronized
      refine ⟨_, _, pre35 _ ?_, hrun, hended, _, _, rfl, ?_, ⟨_, rfl⟩, hW, hsame.mono (by decide) (by decide)⟩
      · show Steps p.tables e below (T34.setTop (mkF m 168 #[.val (.ref ax), .val (.int pq), .val (.int (Int32.ofNat (qn / 64))), .val (.long ((fw (qn / 64)) &&& (own_shlL (-1 : Int64) pq))), .second, .val (.int ((own_shl (Int32.ofNat (qn / 64)) (6 : Int32)) + (r6 ((fw (qn / 64)) &&& (own_shlL (-1 : Int64) pq))))), .unset, .unset, .unset, .unset, .unset] [(.int ((own_shl (Int32.ofNat (qn / 64)) (6 : Int32)) + (r6 ((fw (qn / 64)) &&& (own_shlL (-1 : Int64) pq)))))])) _
        exact retI X34 hx Bd.returns (hb hby d5_168) hr
      · show Q5 Z ax pq B S qn h0 n0 _ T34.heap _
        rw [e34]
        exact ⟨_, rfl, N34, Z0, hPS0, own_nxB hG hq hqn hc35_8⟩
  · have pre36 : ∀ t, Steps p.tables e below (T2.setTop (mkF m 15 #[.val (.ref ax), .val (.int pq), .val (.int (Int32.ofNat (qn / 64))), .unset, .unset, .unset, .unset, .unset, .unset, .unset, .unset] [(.int (-1 : Int32))])) t → Steps p.tables e below (s₁.setTop (entryFrame m #[(.ref ax), (.int pq)] 11)) t := fun t k => pre3 t (by
      refine XS.icmpNo X2.here hx rfl (hb hby d5_11) rfl (flt hc11_4).1 ?_
      show Steps p.tables e below (T2.setTop (mkF m 14 #[.val (.ref ax), .val (.int pq), .val (.int (Int32.ofNat (qn / 64))), .unset, .unset, .unset, .unset, .unset, .unset, .unset, .unset] [])) _
      refine XS.iconst X2.here hx rfl (hb hby d5_14) ?_
      show Steps p.tables e below (T2.setTop (mkF m 15 #[.val (.ref ax), .val (.int pq), .val (.int (Int32.ofNat (qn / 64))), .unset, .unset, .unset, .unset, .unset, .unset, .unset, .unset] [(.int (-1 : Int32))])) _
      exact k)
    obtain ⟨fs, hr, hrun, hended, hW, hsame⟩ := X2.leave (v := some (.int (-1 : Int32))) (fun h => by rw [Bd.returns] at h; cases h) Bd.notSynchronized
    refine ⟨_, _, pre36 _ ?_, hrun, hended, _, _, rfl, ?_, ⟨_, rfl⟩, hW, hsame.mono (by decide) (by decide)⟩
    · show Steps p.tables e below (T2.setTop (mkF m 15 #[.val (.ref ax), .val (.int pq), .val (.int (Int32.ofNat (qn / 64))), .unset, .unset, .unset, .unset, .unset, .unset, .unset, .unset] [(.int (-1 : Int32))])) _
      exact retI X2 hx Bd.returns (hb hby d5_15) hr
    · show Q5 Z ax pq B S qn h0 n0 _ T2.heap _
      rw [e2]
      exact ⟨_, rfl, N0, Z0, hPS0, own_nxA hG (own_ge32 hc11_4 (own_pl hqn) (own_Gn hG))⟩
def own_m (x : Int32) : Nat := (x &&& (8191 : Int32)).toNatClampNeg
theorem pd_3 : parseMethodDescriptor "()V" = some ⟨[], none⟩ := by decide +kernel
theorem pd_4 : parseMethodDescriptor "(I)V" = some ⟨[.int], none⟩ := by decide +kernel
theorem pd_5 : parseMethodDescriptor "(IZIZI)I" = some ⟨[.int, .boolean, .int, .boolean, .int], some .int⟩ := by decide +kernel
theorem ef_0 (m : MethodId) (x0 : Int32) (x1 : Int32) (x2 : Int32) (x3 : Int32) (x4 : Int32) : entryFrame m #[(.int x0), (.int x1), (.int x2), (.int x3), (.int x4)] maxLocals = mkF m 0 #[.val (.int x0), .val (.int x1), .val (.int x2), .val (.int x3), .val (.int x4), .unset, .unset, .unset, .unset, .unset, .unset, .unset, .unset] [] := by first | (simp [entryFrame, mkF, argsToLocals, Value.category, maxLocals]; done) | rfl
def v0_5 (p0_0 : Int32) : Int32 := (p0_0 &&& (8191 : Int32))
def v0_12 (p0_1 : Int32) : Int32 := (p0_1 &&& (8191 : Int32))
def v0_19 (p0_3 : Int32) : Int32 := (p0_3 &&& (8191 : Int32))
def v0_25 (p0_4 : Int32) : Int32 := (p0_4 &&& (3 : Int32))
def v0_63 (p0_2 : Int32) : Int32 := (p0_2 &&& (8191 : Int32))
def j0_71_9 (p0_0 : Int32) (p0_1 : Int32) (p0_2 : Int32) (p0_4 : Int32) : Int32 := (if (v0_25 p0_4) = (0 : Int32) then (v0_5 p0_0) else (if (v0_25 p0_4) = (1 : Int32) then (v0_12 p0_1) else (if (v0_25 p0_4) = (2 : Int32) then (v0_63 p0_2) else p0_2)))
def j0_127_s0 (p0_0 : Int32) (p0_1 : Int32) (p0_2 : Int32) (p0_4 : Int32) : Int32 := (if (v0_5 p0_0) = (j0_71_9 p0_0 p0_1 p0_2 p0_4) then (0 : Int32) else (1 : Int32))
def j0_141_s0 (p0_0 : Int32) (p0_1 : Int32) (p0_2 : Int32) (p0_4 : Int32) : Int32 := (if (v0_12 p0_1) = (j0_71_9 p0_0 p0_1 p0_2 p0_4) then (0 : Int32) else (1 : Int32))
def c0_160 (p0_0 : Int32) (p0_1 : Int32) (p0_2 : Int32) (p0_3 : Int32) (p0_4 : Int32) : Int32 := (r8 (v0_5 p0_0) (j0_127_s0 p0_0 p0_1 p0_2 p0_4) (v0_12 p0_1) (j0_141_s0 p0_0 p0_1 p0_2 p0_4) (v0_19 p0_3))
def c0_181 (p0_0 : Int32) (p0_1 : Int32) (p0_2 : Int32) (p0_4 : Int32) : Int32 := (r8 (v0_5 p0_0) (j0_127_s0 p0_0 p0_1 p0_2 p0_4) (v0_12 p0_1) (j0_141_s0 p0_0 p0_1 p0_2 p0_4) (0 : Int32))
def j0_127_s0_1 (p0_0 : Int32) (p0_1 : Int32) (p0_2 : Int32) (p0_4 : Int32) : Int32 := (if (v0_5 p0_0) = (j0_71_9 p0_0 p0_1 p0_2 p0_4) then (0 : Int32) else (1 : Int32))
def j0_141_s0_1 (p0_0 : Int32) (p0_1 : Int32) (p0_2 : Int32) (p0_4 : Int32) : Int32 := (if (v0_12 p0_1) = (j0_71_9 p0_0 p0_1 p0_2 p0_4) then (0 : Int32) else (1 : Int32))
def c0_160_1 (p0_0 : Int32) (p0_1 : Int32) (p0_2 : Int32) (p0_3 : Int32) (p0_4 : Int32) : Int32 := (r8 (v0_5 p0_0) (j0_127_s0_1 p0_0 p0_1 p0_2 p0_4) (v0_12 p0_1) (j0_141_s0_1 p0_0 p0_1 p0_2 p0_4) (v0_19 p0_3))
def c0_181_1 (p0_0 : Int32) (p0_1 : Int32) (p0_2 : Int32) (p0_4 : Int32) : Int32 := (r8 (v0_5 p0_0) (j0_127_s0_1 p0_0 p0_1 p0_2 p0_4) (v0_12 p0_1) (j0_141_s0_1 p0_0 p0_1 p0_2 p0_4) (0 : Int32))
theorem own_mI (x : Int32) : (x &&& (8191 : Int32)).toInt = (own_m x : Int) ∧ own_m x < 8192 := by
  have h : (x &&& (8191 : Int32)).toInt = x.toInt % 2 ^ 13 := Jvm.Kit.i32_mask x _ (k := 13) (by decide) (by decide)
  have q : own_m x = (x &&& (8191 : Int32)).toInt.toNat := rfl
  omega
theorem own_ml (x : Int32) : own_m x < 8192 := (own_mI x).2
theorem own_mo (x : Int32) : (x &&& (8191 : Int32)) = Int32.ofNat (own_m x) := by
  have g := own_mI x
  apply Int32.toInt_inj.mp
  rw [g.1, Int32.toInt_ofNat_of_lt (by omega)]
theorem own_det {S : Nat → Prop} {q : Nat} {a b : Int32} (h1 : NextSpec S q a) (h2 : NextSpec S q b) : a = b := by
  rcases h1 with ⟨rfl, n1⟩ | ⟨x, -, rfl, l1, s1, m1⟩
  · rcases h2 with ⟨rfl, n2⟩ | ⟨y, -, rfl, l2, s2, m2⟩
    · rfl
    · exact absurd s2 (n1 y l2)
  · rcases h2 with ⟨rfl, n2⟩ | ⟨y, -, rfl, l2, s2, m2⟩
    · exact absurd s1 (n2 x l1)
    · rcases Nat.lt_trichotomy x y with z | z | z
      · exact absurd s1 (m2 x l1 z)
      · rw [z]
      · exact absurd s2 (m1 y l2 z)
theorem own_ltN {a b : Nat} (ha : a < 8192) (hb : b < 8192) : (Int32.ofNat a < Int32.ofNat b) = (a < b) := by
  rw [Int32.lt_iff_toInt_lt, Int32.toInt_ofNat_of_lt (by omega), Int32.toInt_ofNat_of_lt (by omega)]
  exact propext (by omega)
theorem own_lt0 {a : Nat} (ha : a < 8192) : (Int32.ofNat a < (0 : Int32)) = False := by
  rw [Int32.lt_iff_toInt_lt, Int32.toInt_ofNat_of_lt (by omega), show (0 : Int32).toInt = 0 from rfl]
  exact eq_false (by omega)
theorem own_eqN {a : Nat} (ha : a < 8192) (r : Int32) : (Int32.ofNat a = r) = (a = r.toBitVec.toNat) := by
  apply propext
  constructor
  · intro h; rw [← h, own_on _ (by omega)]
  · intro h
    apply Int32.toBitVec_inj.mp
    apply BitVec.eq_of_toNat_eq
    rw [own_on _ (by omega)]; exact h
theorem own_in0 {a : Nat} (ha : a < 8192) (r : Int32) : ((if Int32.ofNat a = r then (0 : Int32) else (1 : Int32)) = 0) = (a = r.toBitVec.toNat) := by
  have e := own_eqN ha r
  apply propext
  split
  · next h => exact iff_of_true rfl (by rw [e] at h; exact h)
  · next h => exact iff_of_false (by decide) (by rw [e] at h; exact h)
theorem own_finG {A B q : Nat} (hA : A < 8192) (hB : B < 8192) (hq : q < 8192) (r : Int32) {S : Nat → Prop} (hS : ∀ x, S x ↔ (x = A ∨ x = B) ∧ x ≠ r.toBitVec.toNat) :
    NextSpec S q (r8 (Int32.ofNat A) (if Int32.ofNat A = r then (0 : Int32) else (1 : Int32)) (Int32.ofNat B) (if Int32.ofNat B = r then (0 : Int32) else (1 : Int32)) (Int32.ofNat q)) := by
  unfold r8
  simp only [own_in0 hA, own_in0 hB, own_ltN hA hq, own_ltN hB hq, own_ltN hA hB, own_ltN hB hA, own_lt0 hA]
  repeat' split
  all_goals first
    | contradiction
    | exact Or.inl ⟨rfl, fun x hx hs => by rw [hS] at hs; omega⟩
    | exact Or.inr ⟨A, by omega, rfl, by omega, (hS A).mpr (by omega), fun y h1 h2 hs => by rw [hS] at hs; omega⟩
    | exact Or.inr ⟨B, by omega, rfl, by omega, (hS B).mpr (by omega), fun y h1 h2 hs => by rw [hS] at hs; omega⟩
theorem own_fin1 (a b c d : Int32) {pq : Int32} {qn : Nat} (hq : pq = Int32.ofNat qn) (hqn : qn < 8192) {rv : Int32} (h : NextSpec (own_del (own_ins (own_ins (fun _ => False) (own_m a)) (own_m b)) (j0_71_9 a b c d).toBitVec.toNat) qn rv) :
    rv = r8 (v0_5 a) (j0_127_s0 a b c d) (v0_12 b) (j0_141_s0 a b c d) pq := by
  unfold j0_127_s0 j0_141_s0 v0_5 v0_12
  rw [own_mo a, own_mo b, hq]
  exact own_det h (own_finG (own_ml a) (own_ml b) hqn (j0_71_9 a b c d) (fun x => by unfold own_del own_ins; simp))
theorem own_fin2 (a b c d : Int32) {pq : Int32} {qn : Nat} (hq : pq = Int32.ofNat qn) (hqn : qn < 8192) {rv : Int32} (h : NextSpec (own_del (own_del (own_ins (own_ins (fun _ => False) (own_m a)) (own_m b)) (j0_71_9 a b c d).toBitVec.toNat) (j0_71_9 a b c d).toBitVec.toNat) qn rv) :
    rv = r8 (v0_5 a) (j0_127_s0 a b c d) (v0_12 b) (j0_141_s0 a b c d) pq := by
  unfold j0_127_s0 j0_141_s0 v0_5 v0_12
  rw [own_mo a, own_mo b, hq]
  exact own_det h (own_finG (own_ml a) (own_ml b) hqn (j0_71_9 a b c d) (fun x => by unfold own_del own_ins; simp <;> omega))
def Q0 (Z : State) (p0_0 : Int32) (p0_1 : Int32) (p0_2 : Int32) (p0_3 : Int32) (p0_4 : Int32) (h0 : Heap) (n0 : Nat) (v : Option Value) (h : Heap) (L : List Loc) : Prop := v = some (.int (1 : Int32)) ∧ Fr n0 L
set_option maxRecDepth 65536 in
set_option maxHeartbeats 40000000 in
theorem rm0 (l : Launch) (Z : State) (a0 : Array Value) (hw : ∀ d ∈ tables_1, d.before a0 Z = true) (ws : List Jvm.Cond) (p0_0 : Int32) (p0_1 : Int32) (p0_2 : Int32) (p0_3 : Int32) (p0_4 : Int32) (h0 : Heap) (n0 : Nat) (Z0 : n0 ≤ h0.size) :
    MetFree l x (head1 (Jvm.Cond.code x code maxLocals ret :: ws) room_1) (fun a U => a = #[(.int p0_0), (.int p0_1), (.int p0_2), (.int p0_3), (.int p0_4)] ∧ Z.Warmed39 U.vm ∧ U.heap = h0) (fun _ _ _ _ _ => True) (fun _ U o U' => ∃ v L, o = .returned v ∧ Q0 Z p0_0 p0_1 p0_2 p0_3 p0_4 h0 n0 v U'.heap L ∧ FrameEnd U o U' L room_1.cells room_1.slots) := by
  refine MetFree.of_bodySF (plainFor_of_name pn_2) hisR ?_
  intro p e s m args below meth c s₁ Bd hml0 hP hK
  obtain ⟨rfl, hZ, hh⟩ := hP
  have hx := Bd.exec
  have hby := Bd.bytes
  have hml : c.maxLocals = 13 := hml0
  have hown : s.vm.findClass "relayout/PositionSetRemovePinLaw" = some m.cls := findClass_of_methodNamed Bd.named
  have hnm := (name_of_methodNamed Bd.named Bd.method).1
  have X0 : Stand p l e room_1 s m #[(.int p0_0), (.int p0_1), (.int p0_2), (.int p0_3), (.int p0_4)] below meth c s₁ [] 0 0 := Stand.of_body Bd
  have e0 : s₁.heap = h0 := by rw [← hh, Bd.state]; rfl
  have N0 := Fr.nil n0
  have pre0 : ∀ t, Steps p.tables e below (s₁.setTop (mkF m 0 #[.val (.int p0_0), .val (.int p0_1), .val (.int p0_2), .val (.int p0_3), .val (.int p0_4), .unset, .unset, .unset, .unset, .unset, .unset, .unset, .unset] [])) t → Steps p.tables e below (s₁.setTop (entryFrame m #[(.int p0_0), (.int p0_1), (.int p0_2), (.int p0_3), (.int p0_4)] maxLocals)) t := fun t k => castTop (ef_0 m p0_0 p0_1 p0_2 p0_3 p0_4) k
  have pre1 : ∀ t, Steps p.tables e below (s₁.setTop (mkF m 29 #[.val (.int p0_0), .val (.int p0_1), .val (.int p0_2), .val (.int p0_3), .val (.int p0_4), .val (.int (v0_5 p0_0)), .val (.int (v0_12 p0_1)), .val (.int (v0_19 p0_3)), .val (.int (v0_25 p0_4)), .unset, .unset, .unset, .unset] [(.int (v0_25 p0_4))])) t → Steps p.tables e below (s₁.setTop (entryFrame m #[(.int p0_0), (.int p0_1), (.int p0_2), (.int p0_3), (.int p0_4)] maxLocals)) t := fun t k => pre0 t (by
    refine XS.iloadN X0.here hx rfl (hb hby at_0) rfl ?_
    show Steps p.tables e below (s₁.setTop (mkF m 1 #[.val (.int p0_0), .val (.int p0_1), .val (.int p0_2), .val (.int p0_3), .val (.int p0_4), .unset, .unset, .unset, .unset, .unset, .unset, .unset, .unset] [(.int p0_0)])) _
    refine XS.sipush X0.here hx rfl (hb hby at_1) ?_
    show Steps p.tables e below (s₁.setTop (mkF m 4 #[.val (.int p0_0), .val (.int p0_1), .val (.int p0_2), .val (.int p0_3), .val (.int p0_4), .unset, .unset, .unset, .unset, .unset, .unset, .unset, .unset] [(.int (8191 : Int32)), (.int p0_0)])) _
    refine XS.iand X0.here hx rfl (hb hby at_4) rfl ?_
    show Steps p.tables e below (s₁.setTop (mkF m 5 #[.val (.int p0_0), .val (.int p0_1), .val (.int p0_2), .val (.int p0_3), .val (.int p0_4), .unset, .unset, .unset, .unset, .unset, .unset, .unset, .unset] [(.int (p0_0 &&& (8191 : Int32)))])) _
    show Steps p.tables e below (s₁.setTop (mkF m 5 #[.val (.int p0_0), .val (.int p0_1), .val (.int p0_2), .val (.int p0_3), .val (.int p0_4), .unset, .unset, .unset, .unset, .unset, .unset, .unset, .unset] [(.int (v0_5 p0_0))])) _
    refine XS.istore X0.here hx rfl (hb hby at_5) rfl (l' := #[.val (.int p0_0), .val (.int p0_1), .val (.int p0_2), .val (.int p0_3), .val (.int p0_4), .val (.int (v0_5 p0_0)), .unset, .unset, .unset, .unset, .unset, .unset, .unset]) rfl ?_
    show Steps p.tables e below (s₁.setTop (mkF m 7 #[.val (.int p0_0), .val (.int p0_1), .val (.int p0_2), .val (.int p0_3), .val (.int p0_4), .val (.int (v0_5 p0_0)), .unset, .unset, .unset, .unset, .unset, .unset, .unset] [])) _
    refine XS.iloadN X0.here hx rfl (hb hby at_7) rfl ?_
    show Steps p.tables e below (s₁.setTop (mkF m 8 #[.val (.int p0_0), .val (.int p0_1), .val (.int p0_2), .val (.int p0_3), .val (.int p0_4), .val (.int (v0_5 p0_0)), .unset, .unset, .unset, .unset, .unset, .unset, .unset] [(.int p0_1)])) _
    refine XS.sipush X0.here hx rfl (hb hby at_8) ?_
    show Steps p.tables e below (s₁.setTop (mkF m 11 #[.val (.int p0_0), .val (.int p0_1), .val (.int p0_2), .val (.int p0_3), .val (.int p0_4), .val (.int (v0_5 p0_0)), .unset, .unset, .unset, .unset, .unset, .unset, .unset] [(.int (8191 : Int32)), (.int p0_1)])) _
    refine XS.iand X0.here hx rfl (hb hby at_11) rfl ?_
    show Steps p.tables e below (s₁.setTop (mkF m 12 #[.val (.int p0_0), .val (.int p0_1), .val (.int p0_2), .val (.int p0_3), .val (.int p0_4), .val (.int (v0_5 p0_0)), .unset, .unset, .unset, .unset, .unset, .unset, .unset] [(.int (p0_1 &&& (8191 : Int32)))])) _
    show Steps p.tables e below (s₁.setTop (mkF m 12 #[.val (.int p0_0), .val (.int p0_1), .val (.int p0_2), .val (.int p0_3), .val (.int p0_4), .val (.int (v0_5 p0_0)), .unset, .unset, .unset, .unset, .unset, .unset, .unset] [(.int (v0_12 p0_1))])) _
    refine XS.istore X0.here hx rfl (hb hby at_12) rfl (l' := #[.val (.int p0_0), .val (.int p0_1), .val (.int p0_2), .val (.int p0_3), .val (.int p0_4), .val (.int (v0_5 p0_0)), .val (.int (v0_12 p0_1)), .unset, .unset, .unset, .unset, .unset, .unset]) rfl ?_
    show Steps p.tables e below (s₁.setTop (mkF m 14 #[.val (.int p0_0), .val (.int p0_1), .val (.int p0_2), .val (.int p0_3), .val (.int p0_4), .val (.int (v0_5 p0_0)), .val (.int (v0_12 p0_1)), .unset, .unset, .unset, .unset, .unset, .unset] [])) _
    refine XS.iloadN X0.here hx rfl (hb hby at_14) rfl ?_
    show Steps p.tables e below (s₁.setTop (mkF m 15 #[.val (.int p0_0), .val (.int p0_1), .val (.int p0_2), .val (.int p0_3), .val (.int p0_4), .val (.int (v0_5 p0_0)), .val (.int (v0_12 p0_1)), .unset, .unset, .unset, .unset, .unset, .unset] [(.int p0_3)])) _
    refine XS.sipush X0.here hx rfl (hb hby at_15) ?_
    show Steps p.tables e below (s₁.setTop (mkF m 18 #[.val (.int p0_0), .val (.int p0_1), .val (.int p0_2), .val (.int p0_3), .val (.int p0_4), .val (.int (v0_5 p0_0)), .val (.int (v0_12 p0_1)), .unset, .unset, .unset, .unset, .unset, .unset] [(.int (8191 : Int32)), (.int p0_3)])) _
    refine XS.iand X0.here hx rfl (hb hby at_18) rfl ?_
    show Steps p.tables e below (s₁.setTop (mkF m 19 #[.val (.int p0_0), .val (.int p0_1), .val (.int p0_2), .val (.int p0_3), .val (.int p0_4), .val (.int (v0_5 p0_0)), .val (.int (v0_12 p0_1)), .unset, .unset, .unset, .unset, .unset, .unset] [(.int (p0_3 &&& (8191 : Int32)))])) _
    show Steps p.tables e below (s₁.setTop (mkF m 19 #[.val (.int p0_0), .val (.int p0_1), .val (.int p0_2), .val (.int p0_3), .val (.int p0_4), .val (.int (v0_5 p0_0)), .val (.int (v0_12 p0_1)), .unset, .unset, .unset, .unset, .unset, .unset] [(.int (v0_19 p0_3))])) _
    refine XS.istore X0.here hx rfl (hb hby at_19) rfl (l' := #[.val (.int p0_0), .val (.int p0_1), .val (.int p0_2), .val (.int p0_3), .val (.int p0_4), .val (.int (v0_5 p0_0)), .val (.int (v0_12 p0_1)), .val (.int (v0_19 p0_3)), .unset, .unset, .unset, .unset, .unset]) rfl ?_
    show Steps p.tables e below (s₁.setTop (mkF m 21 #[.val (.int p0_0), .val (.int p0_1), .val (.int p0_2), .val (.int p0_3), .val (.int p0_4), .val (.int (v0_5 p0_0)), .val (.int (v0_12 p0_1)), .val (.int (v0_19 p0_3)), .unset, .unset, .unset, .unset, .unset] [])) _
    refine XS.iload X0.here hx rfl (hb hby at_21) rfl ?_
    show Steps p.tables e below (s₁.setTop (mkF m 23 #[.val (.int p0_0), .val (.int p0_1), .val (.int p0_2), .val (.int p0_3), .val (.int p0_4), .val (.int (v0_5 p0_0)), .val (.int (v0_12 p0_1)), .val (.int (v0_19 p0_3)), .unset, .unset, .unset, .unset, .unset] [(.int p0_4)])) _
    refine XS.iconst X0.here hx rfl (hb hby at_23) ?_
    show Steps p.tables e below (s₁.setTop (mkF m 24 #[.val (.int p0_0), .val (.int p0_1), .val (.int p0_2), .val (.int p0_3), .val (.int p0_4), .val (.int (v0_5 p0_0)), .val (.int (v0_12 p0_1)), .val (.int (v0_19 p0_3)), .unset, .unset, .unset, .unset, .unset] [(.int (3 : Int32)), (.int p0_4)])) _
    refine XS.iand X0.here hx rfl (hb hby at_24) rfl ?_
    show Steps p.tables e below (s₁.setTop (mkF m 25 #[.val (.int p0_0), .val (.int p0_1), .val (.int p0_2), .val (.int p0_3), .val (.int p0_4), .val (.int (v0_5 p0_0)), .val (.int (v0_12 p0_1)), .val (.int (v0_19 p0_3)), .unset, .unset, .unset, .unset, .unset] [(.int (p0_4 &&& (3 : Int32)))])) _
    show Steps p.tables e below (s₁.setTop (mkF m 25 #[.val (.int p0_0), .val (.int p0_1), .val (.int p0_2), .val (.int p0_3), .val (.int p0_4), .val (.int (v0_5 p0_0)), .val (.int (v0_12 p0_1)), .val (.int (v0_19 p0_3)), .unset, .unset, .unset, .unset, .unset] [(.int (v0_25 p0_4))])) _
    refine XS.istore X0.here hx rfl (hb hby at_25) rfl (l' := #[.val (.int p0_0), .val (.int p0_1), .val (.int p0_2), .val (.int p0_3), .val (.int p0_4), .val (.int (v0_5 p0_0)), .val (.int (v0_12 p0_1)), .val (.int (v0_19 p0_3)), .val (.int (v0_25 p0_4)), .unset, .unset, .unset, .unset]) rfl ?_
    show Steps p.tables e below (s₁.setTop (mkF m 27 #[.val (.int p0_0), .val (.int p0_1), .val (.int p0_2), .val (.int p0_3), .val (.int p0_4), .val (.int (v0_5 p0_0)), .val (.int (v0_12 p0_1)), .val (.int (v0_19 p0_3)), .val (.int (v0_25 p0_4)), .unset, .unset, .unset, .unset] [])) _
    refine XS.iload X0.here hx rfl (hb hby at_27) rfl ?_
    show Steps p.tables e below (s₁.setTop (mkF m 29 #[.val (.int p0_0), .val (.int p0_1), .val (.int p0_2), .val (.int p0_3), .val (.int p0_4), .val (.int (v0_5 p0_0)), .val (.int (v0_12 p0_1)), .val (.int (v0_19 p0_3)), .val (.int (v0_25 p0_4)), .unset, .unset, .unset, .unset] [(.int (v0_25 p0_4))])) _
    exact k)
  obtain ⟨T2, L2, X2, e2, N2, st2⟩ : ∃ (T' : State) (L' : List Loc), Stand p l e room_1 s m #[(.int p0_0), (.int p0_1), (.int p0_2), (.int p0_3), (.int p0_4)] below meth c T' L' 0 0 ∧ T'.heap = h0 ∧ Fr n0 L' ∧ ∀ t, Steps p.tables e below (T'.setTop (mkF m 71 #[.val (.int p0_0), .val (.int p0_1), .val (.int p0_2), .val (.int p0_3), .val (.int p0_4), .val (.int (v0_5 p0_0)), .val (.int (v0_12 p0_1)), .val (.int (v0_19 p0_3)), .val (.int (v0_25 p0_4)), .val (.int (j0_71_9 p0_0 p0_1 p0_2 p0_4)), .unset, .unset, .unset] [])) t → Steps p.tables e below (s₁.setTop (mkF m 29 #[.val (.int p0_0), .val (.int p0_1), .val (.int p0_2), .val (.int p0_3), .val (.int p0_4), .val (.int (v0_5 p0_0)), .val (.int (v0_12 p0_1)), .val (.int (v0_19 p0_3)), .val (.int (v0_25 p0_4)), .unset, .unset, .unset, .unset] [(.int (v0_25 p0_4))])) t := by
    have pre2 : ∀ t, Steps p.tables e below (s₁.setTop (mkF m 29 #[.val (.int p0_0), .val (.int p0_1), .val (.int p0_2), .val (.int p0_3), .val (.int p0_4), .val (.int (v0_5 p0_0)), .val (.int (v0_12 p0_1)), .val (.int (v0_19 p0_3)), .val (.int (v0_25 p0_4)), .unset, .unset, .unset, .unset] [(.int (v0_25 p0_4))])) t → Steps p.tables e below (s₁.setTop (mkF m 29 #[.val (.int p0_0), .val (.int p0_1), .val (.int p0_2), .val (.int p0_3), .val (.int p0_4), .val (.int (v0_5 p0_0)), .val (.int (v0_12 p0_1)), .val (.int (v0_19 p0_3)), .val (.int (v0_25 p0_4)), .unset, .unset, .unset, .unset] [(.int (v0_25 p0_4))])) t := fun t k => k
    by_cases hc29_3 : (v0_25 p0_4) = (0 : Int32)
    · have pre4 : ∀ t, Steps p.tables e below (s₁.setTop (mkF m 71 #[.val (.int p0_0), .val (.int p0_1), .val (.int p0_2), .val (.int p0_3), .val (.int p0_4), .val (.int (v0_5 p0_0)), .val (.int (v0_12 p0_1)), .val (.int (v0_19 p0_3)), .val (.int (v0_25 p0_4)), .val (.int (v0_5 p0_0)), .unset, .unset, .unset] [])) t → Steps p.tables e below (s₁.setTop (mkF m 29 #[.val (.int p0_0), .val (.int p0_1), .val (.int p0_2), .val (.int p0_3), .val (.int p0_4), .val (.int (v0_5 p0_0)), .val (.int (v0_12 p0_1)), .val (.int (v0_19 p0_3)), .val (.int (v0_25 p0_4)), .unset, .unset, .unset, .unset] [(.int (v0_25 p0_4))])) t := fun t k => pre2 t (by
        refine XS.ifNo X0.here hx rfl (hb hby at_29) rfl ((if0 _ _).trans (teq hc29_3).2) ?_
        show Steps p.tables e below (s₁.setTop (mkF m 32 #[.val (.int p0_0), .val (.int p0_1), .val (.int p0_2), .val (.int p0_3), .val (.int p0_4), .val (.int (v0_5 p0_0)), .val (.int (v0_12 p0_1)), .val (.int (v0_19 p0_3)), .val (.int (v0_25 p0_4)), .unset, .unset, .unset, .unset] [])) _
        refine XS.iload X0.here hx rfl (hb hby at_32) rfl ?_
        show Steps p.tables e below (s₁.setTop (mkF m 34 #[.val (.int p0_0), .val (.int p0_1), .val (.int p0_2), .val (.int p0_3), .val (.int p0_4), .val (.int (v0_5 p0_0)), .val (.int (v0_12 p0_1)), .val (.int (v0_19 p0_3)), .val (.int (v0_25 p0_4)), .unset, .unset, .unset, .unset] [(.int (v0_5 p0_0))])) _
        refine XS.istore X0.here hx rfl (hb hby at_34) rfl (l' := #[.val (.int p0_0), .val (.int p0_1), .val (.int p0_2), .val (.int p0_3), .val (.int p0_4), .val (.int (v0_5 p0_0)), .val (.int (v0_12 p0_1)), .val (.int (v0_19 p0_3)), .val (.int (v0_25 p0_4)), .val (.int (v0_5 p0_0)), .unset, .unset, .unset]) rfl ?_
        show Steps p.tables e below (s₁.setTop (mkF m 36 #[.val (.int p0_0), .val (.int p0_1), .val (.int p0_2), .val (.int p0_3), .val (.int p0_4), .val (.int (v0_5 p0_0)), .val (.int (v0_12 p0_1)), .val (.int (v0_19 p0_3)), .val (.int (v0_25 p0_4)), .val (.int (v0_5 p0_0)), .unset, .unset, .unset] [])) _
        refine XS.goto X0.here hx rfl (pc0 := 36) (pc' := 71) rfl (hb hby at_36) (by decide) (by decide) ?_
        show Steps p.tables e below (s₁.setTop (mkF m 71 #[.val (.int p0_0), .val (.int p0_1), .val (.int p0_2), .val (.int p0_3), .val (.int p0_4), .val (.int (v0_5 p0_0)), .val (.int (v0_12 p0_1)), .val (.int (v0_19 p0_3)), .val (.int (v0_25 p0_4)), .val (.int (v0_5 p0_0)), .unset, .unset, .unset] [])) _
        exact k)
      have hj12 : (j0_71_9 p0_0 p0_1 p0_2 p0_4) = (v0_5 p0_0) := by unfold j0_71_9; rw [if_pos hc29_3]
      exact ⟨s₁, _, X0, e0, N0, fun t k => pre4 t (by rw [hj12] at k; exact k)⟩
    · have pre5 : ∀ t, Steps p.tables e below (s₁.setTop (mkF m 42 #[.val (.int p0_0), .val (.int p0_1), .val (.int p0_2), .val (.int p0_3), .val (.int p0_4), .val (.int (v0_5 p0_0)), .val (.int (v0_12 p0_1)), .val (.int (v0_19 p0_3)), .val (.int (v0_25 p0_4)), .unset, .unset, .unset, .unset] [(.int (1 : Int32)), (.int (v0_25 p0_4))])) t → Steps p.tables e below (s₁.setTop (mkF m 29 #[.val (.int p0_0), .val (.int p0_1), .val (.int p0_2), .val (.int p0_3), .val (.int p0_4), .val (.int (v0_5 p0_0)), .val (.int (v0_12 p0_1)), .val (.int (v0_19 p0_3)), .val (.int (v0_25 p0_4)), .unset, .unset, .unset, .unset] [(.int (v0_25 p0_4))])) t := fun t k => pre2 t (by
        refine XS.ifYes X0.here hx rfl (pc0 := 29) (pc' := 39) rfl (hb hby at_29) rfl ((if0 _ _).trans (feq hc29_3).2) (by decide) (by decide) ?_
        show Steps p.tables e below (s₁.setTop (mkF m 39 #[.val (.int p0_0), .val (.int p0_1), .val (.int p0_2), .val (.int p0_3), .val (.int p0_4), .val (.int (v0_5 p0_0)), .val (.int (v0_12 p0_1)), .val (.int (v0_19 p0_3)), .val (.int (v0_25 p0_4)), .unset, .unset, .unset, .unset] [])) _
        refine XS.iload X0.here hx rfl (hb hby at_39) rfl ?_
        show Steps p.tables e below (s₁.setTop (mkF m 41 #[.val (.int p0_0), .val (.int p0_1), .val (.int p0_2), .val (.int p0_3), .val (.int p0_4), .val (.int (v0_5 p0_0)), .val (.int (v0_12 p0_1)), .val (.int (v0_19 p0_3)), .val (.int (v0_25 p0_4)), .unset, .unset, .unset, .unset] [(.int (v0_25 p0_4))])) _
        refine XS.iconst X0.here hx rfl (hb hby at_41) ?_
        show Steps p.tables e below (s₁.setTop (mkF m 42 #[.val (.int p0_0), .val (.int p0_1), .val (.int p0_2), .val (.int p0_3), .val (.int p0_4), .val (.int (v0_5 p0_0)), .val (.int (v0_12 p0_1)), .val (.int (v0_19 p0_3)), .val (.int (v0_25 p0_4)), .unset, .unset, .unset, .unset] [(.int (1 : Int32)), (.int (v0_25 p0_4))])) _
        exact k)
      by_cases hc42_6 : (v0_25 p0_4) = (1 : Int32)
      · have pre7 : ∀ t, Steps p.tables e below (s₁.setTop (mkF m 71 #[.val (.int p0_0), .val (.int p0_1), .val (.int p0_2), .val (.int p0_3), .val (.int p0_4), .val (.int (v0_5 p0_0)), .val (.int (v0_12 p0_1)), .val (.int (v0_19 p0_3)), .val (.int (v0_25 p0_4)), .val (.int (v0_12 p0_1)), .unset, .unset, .unset] [])) t → Steps p.tables e below (s₁.setTop (mkF m 29 #[.val (.int p0_0), .val (.int p0_1), .val (.int p0_2), .val (.int p0_3), .val (.int p0_4), .val (.int (v0_5 p0_0)), .val (.int (v0_12 p0_1)), .val (.int (v0_19 p0_3)), .val (.int (v0_25 p0_4)), .unset, .unset, .unset, .unset] [(.int (v0_25 p0_4))])) t := fun t k => pre5 t (by
          refine XS.icmpNo X0.here hx rfl (hb hby at_42) rfl (teq hc42_6).2 ?_
          show Steps p.tables e below (s₁.setTop (mkF m 45 #[.val (.int p0_0), .val (.int p0_1), .val (.int p0_2), .val (.int p0_3), .val (.int p0_4), .val (.int (v0_5 p0_0)), .val (.int (v0_12 p0_1)), .val (.int (v0_19 p0_3)), .val (.int (v0_25 p0_4)), .unset, .unset, .unset, .unset] [])) _
          refine XS.iload X0.here hx rfl (hb hby at_45) rfl ?_
          show Steps p.tables e below (s₁.setTop (mkF m 47 #[.val (.int p0_0), .val (.int p0_1), .val (.int p0_2), .val (.int p0_3), .val (.int p0_4), .val (.int (v0_5 p0_0)), .val (.int (v0_12 p0_1)), .val (.int (v0_19 p0_3)), .val (.int (v0_25 p0_4)), .unset, .unset, .unset, .unset] [(.int (v0_12 p0_1))])) _
          refine XS.istore X0.here hx rfl (hb hby at_47) rfl (l' := #[.val (.int p0_0), .val (.int p0_1), .val (.int p0_2), .val (.int p0_3), .val (.int p0_4), .val (.int (v0_5 p0_0)), .val (.int (v0_12 p0_1)), .val (.int (v0_19 p0_3)), .val (.int (v0_25 p0_4)), .val (.int (v0_12 p0_1)), .unset, .unset, .unset]) rfl ?_
          show Steps p.tables e below (s₁.setTop (mkF m 49 #[.val (.int p0_0), .val (.int p0_1), .val (.int p0_2), .val (.int p0_3), .val (.int p0_4), .val (.int (v0_5 p0_0)), .val (.int (v0_12 p0_1)), .val (.int (v0_19 p0_3)), .val (.int (v0_25 p0_4)), .val (.int (v0_12 p0_1)), .unset, .unset, .unset] [])) _
          refine XS.goto X0.here hx rfl (pc0 := 49) (pc' := 71) rfl (hb hby at_49) (by decide) (by decide) ?_
          show Steps p.tables e below (s₁.setTop (mkF m 71 #[.val (.int p0_0), .val (.int p0_1), .val (.int p0_2), .val (.int p0_3), .val (.int p0_4), .val (.int (v0_5 p0_0)), .val (.int (v0_12 p0_1)), .val (.int (v0_19 p0_3)), .val (.int (v0_25 p0_4)), .val (.int (v0_12 p0_1)), .unset, .unset, .unset] [])) _
          exact k)
        have hj13 : (j0_71_9 p0_0 p0_1 p0_2 p0_4) = (v0_12 p0_1) := by unfold j0_71_9; rw [if_neg hc29_3, if_pos hc42_6]
        exact ⟨s₁, _, X0, e0, N0, fun t k => pre7 t (by rw [hj13] at k; exact k)⟩
      · have pre8 : ∀ t, Steps p.tables e below (s₁.setTop (mkF m 55 #[.val (.int p0_0), .val (.int p0_1), .val (.int p0_2), .val (.int p0_3), .val (.int p0_4), .val (.int (v0_5 p0_0)), .val (.int (v0_12 p0_1)), .val (.int (v0_19 p0_3)), .val (.int (v0_25 p0_4)), .unset, .unset, .unset, .unset] [(.int (2 : Int32)), (.int (v0_25 p0_4))])) t → Steps p.tables e below (s₁.setTop (mkF m 29 #[.val (.int p0_0), .val (.int p0_1), .val (.int p0_2), .val (.int p0_3), .val (.int p0_4), .val (.int (v0_5 p0_0)), .val (.int (v0_12 p0_1)), .val (.int (v0_19 p0_3)), .val (.int (v0_25 p0_4)), .unset, .unset, .unset, .unset] [(.int (v0_25 p0_4))])) t := fun t k => pre5 t (by
          refine XS.icmpYes X0.here hx rfl (pc0 := 42) (pc' := 52) rfl (hb hby at_42) rfl (feq hc42_6).2 (by decide) (by decide) ?_
          show Steps p.tables e below (s₁.setTop (mkF m 52 #[.val (.int p0_0), .val (.int p0_1), .val (.int p0_2), .val (.int p0_3), .val (.int p0_4), .val (.int (v0_5 p0_0)), .val (.int (v0_12 p0_1)), .val (.int (v0_19 p0_3)), .val (.int (v0_25 p0_4)), .unset, .unset, .unset, .unset] [])) _
          refine XS.iload X0.here hx rfl (hb hby at_52) rfl ?_
          show Steps p.tables e below (s₁.setTop (mkF m 54 #[.val (.int p0_0), .val (.int p0_1), .val (.int p0_2), .val (.int p0_3), .val (.int p0_4), .val (.int (v0_5 p0_0)), .val (.int (v0_12 p0_1)), .val (.int (v0_19 p0_3)), .val (.int (v0_25 p0_4)), .unset, .unset, .unset, .unset] [(.int (v0_25 p0_4))])) _
          refine XS.iconst X0.here hx rfl (hb hby at_54) ?_
          show Steps p.tables e below (s₁.setTop (mkF m 55 #[.val (.int p0_0), .val (.int p0_1), .val (.int p0_2), .val (.int p0_3), .val (.int p0_4), .val (.int (v0_5 p0_0)), .val (.int (v0_12 p0_1)), .val (.int (v0_19 p0_3)), .val (.int (v0_25 p0_4)), .unset, .unset, .unset, .unset] [(.int (2 : Int32)), (.int (v0_25 p0_4))])) _
          exact k)
        by_cases hc55_9 : (v0_25 p0_4) = (2 : Int32)
        · have pre10 : ∀ t, Steps p.tables e below (s₁.setTop (mkF m 71 #[.val (.int p0_0), .val (.int p0_1), .val (.int p0_2), .val (.int p0_3), .val (.int p0_4), .val (.int (v0_5 p0_0)), .val (.int (v0_12 p0_1)), .val (.int (v0_19 p0_3)), .val (.int (v0_25 p0_4)), .val (.int (v0_63 p0_2)), .unset, .unset, .unset] [])) t → Steps p.tables e below (s₁.setTop (mkF m 29 #[.val (.int p0_0), .val (.int p0_1), .val (.int p0_2), .val (.int p0_3), .val (.int p0_4), .val (.int (v0_5 p0_0)), .val (.int (v0_12 p0_1)), .val (.int (v0_19 p0_3)), .val (.int (v0_25 p0_4)), .unset, .unset, .unset, .unset] [(.int (v0_25 p0_4))])) t := fun t k => pre8 t (by
            refine XS.icmpNo X0.here hx rfl (hb hby at_55) rfl (teq hc55_9).2 ?_
            show Steps p.tables e below (s₁.setTop (mkF m 58 #[.val (.int p0_0), .val (.int p0_1), .val (.int p0_2), .val (.int p0_3), .val (.int p0_4), .val (.int (v0_5 p0_0)), .val (.int (v0_12 p0_1)), .val (.int (v0_19 p0_3)), .val (.int (v0_25 p0_4)), .unset, .unset, .unset, .unset] [])) _
            refine XS.iloadN X0.here hx rfl (hb hby at_58) rfl ?_
            show Steps p.tables e below (s₁.setTop (mkF m 59 #[.val (.int p0_0), .val (.int p0_1), .val (.int p0_2), .val (.int p0_3), .val (.int p0_4), .val (.int (v0_5 p0_0)), .val (.int (v0_12 p0_1)), .val (.int (v0_19 p0_3)), .val (.int (v0_25 p0_4)), .unset, .unset, .unset, .unset] [(.int p0_2)])) _
            refine XS.sipush X0.here hx rfl (hb hby at_59) ?_
            show Steps p.tables e below (s₁.setTop (mkF m 62 #[.val (.int p0_0), .val (.int p0_1), .val (.int p0_2), .val (.int p0_3), .val (.int p0_4), .val (.int (v0_5 p0_0)), .val (.int (v0_12 p0_1)), .val (.int (v0_19 p0_3)), .val (.int (v0_25 p0_4)), .unset, .unset, .unset, .unset] [(.int (8191 : Int32)), (.int p0_2)])) _
            refine XS.iand X0.here hx rfl (hb hby at_62) rfl ?_
            show Steps p.tables e below (s₁.setTop (mkF m 63 #[.val (.int p0_0), .val (.int p0_1), .val (.int p0_2), .val (.int p0_3), .val (.int p0_4), .val (.int (v0_5 p0_0)), .val (.int (v0_12 p0_1)), .val (.int (v0_19 p0_3)), .val (.int (v0_25 p0_4)), .unset, .unset, .unset, .unset] [(.int (p0_2 &&& (8191 : Int32)))])) _
            show Steps p.tables e below (s₁.setTop (mkF m 63 #[.val (.int p0_0), .val (.int p0_1), .val (.int p0_2), .val (.int p0_3), .val (.int p0_4), .val (.int (v0_5 p0_0)), .val (.int (v0_12 p0_1)), .val (.int (v0_19 p0_3)), .val (.int (v0_25 p0_4)), .unset, .unset, .unset, .unset] [(.int (v0_63 p0_2))])) _
            refine XS.istore X0.here hx rfl (hb hby at_63) rfl (l' := #[.val (.int p0_0), .val (.int p0_1), .val (.int p0_2), .val (.int p0_3), .val (.int p0_4), .val (.int (v0_5 p0_0)), .val (.int (v0_12 p0_1)), .val (.int (v0_19 p0_3)), .val (.int (v0_25 p0_4)), .val (.int (v0_63 p0_2)), .unset, .unset, .unset]) rfl ?_
            show Steps p.tables e below (s₁.setTop (mkF m 65 #[.val (.int p0_0), .val (.int p0_1), .val (.int p0_2), .val (.int p0_3), .val (.int p0_4), .val (.int (v0_5 p0_0)), .val (.int (v0_12 p0_1)), .val (.int (v0_19 p0_3)), .val (.int (v0_25 p0_4)), .val (.int (v0_63 p0_2)), .unset, .unset, .unset] [])) _
            refine XS.goto X0.here hx rfl (pc0 := 65) (pc' := 71) rfl (hb hby at_65) (by decide) (by decide) ?_
            show Steps p.tables e below (s₁.setTop (mkF m 71 #[.val (.int p0_0), .val (.int p0_1), .val (.int p0_2), .val (.int p0_3), .val (.int p0_4), .val (.int (v0_5 p0_0)), .val (.int (v0_12 p0_1)), .val (.int (v0_19 p0_3)), .val (.int (v0_25 p0_4)), .val (.int (v0_63 p0_2)), .unset, .unset, .unset] [])) _
            exact k)
          have hj14 : (j0_71_9 p0_0 p0_1 p0_2 p0_4) = (v0_63 p0_2) := by unfold j0_71_9; rw [if_neg hc29_3, if_neg hc42_6, if_pos hc55_9]
          exact ⟨s₁, _, X0, e0, N0, fun t k => pre10 t (by rw [hj14] at k; exact k)⟩
        · have pre11 : ∀ t, Steps p.tables e below (s₁.setTop (mkF m 71 #[.val (.int p0_0), .val (.int p0_1), .val (.int p0_2), .val (.int p0_3), .val (.int p0_4), .val (.int (v0_5 p0_0)), .val (.int (v0_12 p0_1)), .val (.int (v0_19 p0_3)), .val (.int (v0_25 p0_4)), .val (.int p0_2), .unset, .unset, .unset] [])) t → Steps p.tables e below (s₁.setTop (mkF m 29 #[.val (.int p0_0), .val (.int p0_1), .val (.int p0_2), .val (.int p0_3), .val (.int p0_4), .val (.int (v0_5 p0_0)), .val (.int (v0_12 p0_1)), .val (.int (v0_19 p0_3)), .val (.int (v0_25 p0_4)), .unset, .unset, .unset, .unset] [(.int (v0_25 p0_4))])) t := fun t k => pre8 t (by
            refine XS.icmpYes X0.here hx rfl (pc0 := 55) (pc' := 68) rfl (hb hby at_55) rfl (feq hc55_9).2 (by decide) (by decide) ?_
            show Steps p.tables e below (s₁.setTop (mkF m 68 #[.val (.int p0_0), .val (.int p0_1), .val (.int p0_2), .val (.int p0_3), .val (.int p0_4), .val (.int (v0_5 p0_0)), .val (.int (v0_12 p0_1)), .val (.int (v0_19 p0_3)), .val (.int (v0_25 p0_4)), .unset, .unset, .unset, .unset] [])) _
            refine XS.iloadN X0.here hx rfl (hb hby at_68) rfl ?_
            show Steps p.tables e below (s₁.setTop (mkF m 69 #[.val (.int p0_0), .val (.int p0_1), .val (.int p0_2), .val (.int p0_3), .val (.int p0_4), .val (.int (v0_5 p0_0)), .val (.int (v0_12 p0_1)), .val (.int (v0_19 p0_3)), .val (.int (v0_25 p0_4)), .unset, .unset, .unset, .unset] [(.int p0_2)])) _
            refine XS.istore X0.here hx rfl (hb hby at_69) rfl (l' := #[.val (.int p0_0), .val (.int p0_1), .val (.int p0_2), .val (.int p0_3), .val (.int p0_4), .val (.int (v0_5 p0_0)), .val (.int (v0_12 p0_1)), .val (.int (v0_19 p0_3)), .val (.int (v0_25 p0_4)), .val (.int p0_2), .unset, .unset, .unset]) rfl ?_
            show Steps p.tables e below (s₁.setTop (mkF m 71 #[.val (.int p0_0), .val (.int p0_1), .val (.int p0_2), .val (.int p0_3), .val (.int p0_4), .val (.int (v0_5 p0_0)), .val (.int (v0_12 p0_1)), .val (.int (v0_19 p0_3)), .val (.int (v0_25 p0_4)), .val (.int p0_2), .unset, .unset, .unset] [])) _
            exact k)
          have hj15 : (j0_71_9 p0_0 p0_1 p0_2 p0_4) = p0_2 := by unfold j0_71_9; rw [if_neg hc29_3, if_neg hc42_6, if_neg hc55_9]
          exact ⟨s₁, _, X0, e0, N0, fun t k => pre11 t (by rw [hj15] at k; exact k)⟩
  have pre2 : ∀ t, Steps p.tables e below (T2.setTop (mkF m 71 #[.val (.int p0_0), .val (.int p0_1), .val (.int p0_2), .val (.int p0_3), .val (.int p0_4), .val (.int (v0_5 p0_0)), .val (.int (v0_12 p0_1)), .val (.int (v0_19 p0_3)), .val (.int (v0_25 p0_4)), .val (.int (j0_71_9 p0_0 p0_1 p0_2 p0_4)), .unset, .unset, .unset] [])) t → Steps p.tables e below (s₁.setTop (entryFrame m #[(.int p0_0), (.int p0_1), (.int p0_2), (.int p0_3), (.int p0_4)] maxLocals)) t := fun t k => pre1 t (st2 t k)
  obtain ⟨T16, h16, X16, e16, E16, A16, D16, -, st16⟩ := newO X2 hx hZ hown (hw _ (List.mem_of_getElem? (i := 0) rfl)) (hw _ (List.mem_of_getElem? (i := 1) rfl)) (hw _ (List.mem_of_getElem? (i := 2) rfl)) e2 (g := (mkF m 71 #[.val (.int p0_0), .val (.int p0_1), .val (.int p0_2), .val (.int p0_3), .val (.int p0_4), .val (.int (v0_5 p0_0)), .val (.int (v0_12 p0_1)), .val (.int (v0_19 p0_3)), .val (.int (v0_25 p0_4)), .val (.int (j0_71_9 p0_0 p0_1 p0_2 p0_4)), .unset, .unset, .unset] [])) rfl (hb hby at_71) (by decide) (by decide)
  obtain ⟨b16, q16⟩ : ∃ z, z = h0.size := ⟨_, rfl⟩
  rw [← q16] at A16 D16 st16
  have g_b16 : n0 ≤ b16 := Nat.le_trans Z0 (Nat.le_of_eq q16.symm)
  have Z16 : n0 ≤ h16.size := Nat.le_trans Z0 E16.1
  have F17 : Fld Z h16 b16 "relayout/PositionSet" "words" "[J" .null := D16 (Or.inl (hw _ (List.mem_of_getElem? (i := 11) rfl))) (ty := (.array .long)) (by decide)
  have F18 : Fld Z h16 b16 "relayout/PositionSet" "occupied" "[J" .null := D16 (Or.inl (hw _ (List.mem_of_getElem? (i := 13) rfl))) (ty := (.array .long)) (by decide)
  have pre16 : ∀ t, Steps p.tables e below (T16.setTop (mkF m 74 #[.val (.int p0_0), .val (.int p0_1), .val (.int p0_2), .val (.int p0_3), .val (.int p0_4), .val (.int (v0_5 p0_0)), .val (.int (v0_12 p0_1)), .val (.int (v0_19 p0_3)), .val (.int (v0_25 p0_4)), .val (.int (j0_71_9 p0_0 p0_1 p0_2 p0_4)), .unset, .unset, .unset] [(.ref b16)])) t → Steps p.tables e below (s₁.setTop (entryFrame m #[(.int p0_0), (.int p0_1), (.int p0_2), (.int p0_3), (.int p0_4)] maxLocals)) t := fun t k => pre2 t (st16 t k)
  have pre19 : ∀ t, Steps p.tables e below (T16.setTop (mkF m 75 #[.val (.int p0_0), .val (.int p0_1), .val (.int p0_2), .val (.int p0_3), .val (.int p0_4), .val (.int (v0_5 p0_0)), .val (.int (v0_12 p0_1)), .val (.int (v0_19 p0_3)), .val (.int (v0_25 p0_4)), .val (.int (j0_71_9 p0_0 p0_1 p0_2 p0_4)), .unset, .unset, .unset] [(.ref b16), (.ref b16)])) t → Steps p.tables e below (s₁.setTop (entryFrame m #[(.int p0_0), (.int p0_1), (.int p0_2), (.int p0_3), (.int p0_4)] maxLocals)) t := fun t k => pre16 t (by
    refine XS.dup X16.here hx rfl (hb hby at_74) rfl rfl ?_
    show Steps p.tables e below (T16.setTop (mkF m 75 #[.val (.int p0_0), .val (.int p0_1), .val (.int p0_2), .val (.int p0_3), .val (.int p0_4), .val (.int (v0_5 p0_0)), .val (.int (v0_12 p0_1)), .val (.int (v0_19 p0_3)), .val (.int (v0_25 p0_4)), .val (.int (j0_71_9 p0_0 p0_1 p0_2 p0_4)), .unset, .unset, .unset] [(.ref b16), (.ref b16)])) _
    exact k)
  obtain ⟨_, _, ⟨T20, L20, k20, n20⟩, -, X20, ⟨Lc20, hQ20, l20, y20, z20⟩, st20⟩ := X16.specialBack hx (y := (⟨"relayout/PositionSet", "<init>", "()V"⟩ : MethodName)) rfl hown (mvT hZ (hw _ (List.mem_of_getElem? (i := 3) rfl))) (mvT hZ (hw _ (List.mem_of_getElem? (i := 4) rfl))) (mvT hZ (hw _ (List.mem_of_getElem? (i := 5) rfl))) (by decide) (backOf (W := 1) (rm1 l Z a0 hw [] b16 h16 n0 Z16 g_b16 A16 F17 F18) hZ (hw _ (List.mem_of_getElem? (i := 5) rfl)) (hw _ (List.mem_of_getElem? (i := 2) rfl)) (by decide) (by decide)) (g := (mkF m 75 #[.val (.int p0_0), .val (.int p0_1), .val (.int p0_2), .val (.int p0_3), .val (.int p0_4), .val (.int (v0_5 p0_0)), .val (.int (v0_12 p0_1)), .val (.int (v0_19 p0_3)), .val (.int (v0_25 p0_4)), .val (.int (j0_71_9 p0_0 p0_1 p0_2 p0_4)), .unset, .unset, .unset] [(.ref b16), (.ref b16)])) rfl (by rw [hml]; rfl) (Steps.refl _) (a := b16) (argsL := []) (rest := [(.ref b16)]) (lenOf pd_3 rfl) rfl (by show 2 * 0 + _ ≤ _; exact Nat.le_of_eq rfl) (hb hby at_75) (fun _ _ => ⟨rfl, e16, (by decide : 1 + 2 ≤ _), (by decide : 2 + 2 ≤ _)⟩)
  dsimp only [Pt.U, Pt.locs, Pt.cells, Pt.slots] at X20 l20 y20 z20 st20 hQ20
  rw [l20, y20, z20] at X20
  obtain ⟨rfl, M20, Zh20, PS20⟩ := hQ20
  have N20 := Fr.app N2 M20
  have Ex20 : Exa Z T20.heap b16 "relayout/PositionSet" := own_psE PS20
  replace X20 : Stand p l e room_1 s m #[(.int p0_0), (.int p0_1), (.int p0_2), (.int p0_3), (.int p0_4)] below meth c T20 _ 3 4 := X20
  have pre20 : ∀ t, Steps p.tables e below (T20.setTop (mkF m 78 #[.val (.int p0_0), .val (.int p0_1), .val (.int p0_2), .val (.int p0_3), .val (.int p0_4), .val (.int (v0_5 p0_0)), .val (.int (v0_12 p0_1)), .val (.int (v0_19 p0_3)), .val (.int (v0_25 p0_4)), .val (.int (j0_71_9 p0_0 p0_1 p0_2 p0_4)), .unset, .unset, .unset] [(.ref b16)])) t → Steps p.tables e below (s₁.setTop (entryFrame m #[(.int p0_0), (.int p0_1), (.int p0_2), (.int p0_3), (.int p0_4)] maxLocals)) t := fun t k => pre19 t (st20.trans k)
  have pre21 : ∀ t, Steps p.tables e below (T20.setTop (mkF m 84 #[.val (.int p0_0), .val (.int p0_1), .val (.int p0_2), .val (.int p0_3), .val (.int p0_4), .val (.int (v0_5 p0_0)), .val (.int (v0_12 p0_1)), .val (.int (v0_19 p0_3)), .val (.int (v0_25 p0_4)), .val (.int (j0_71_9 p0_0 p0_1 p0_2 p0_4)), .val (.ref b16), .unset, .unset] [(.int (v0_5 p0_0)), (.ref b16)])) t → Steps p.tables e below (s₁.setTop (entryFrame m #[(.int p0_0), (.int p0_1), (.int p0_2), (.int p0_3), (.int p0_4)] maxLocals)) t := fun t k => pre20 t (by
    refine XS.astore X20.here hx rfl (hb hby at_78) rfl rfl (l' := #[.val (.int p0_0), .val (.int p0_1), .val (.int p0_2), .val (.int p0_3), .val (.int p0_4), .val (.int (v0_5 p0_0)), .val (.int (v0_12 p0_1)), .val (.int (v0_19 p0_3)), .val (.int (v0_25 p0_4)), .val (.int (j0_71_9 p0_0 p0_1 p0_2 p0_4)), .val (.ref b16), .unset, .unset]) rfl ?_
    show Steps p.tables e below (T20.setTop (mkF m 80 #[.val (.int p0_0), .val (.int p0_1), .val (.int p0_2), .val (.int p0_3), .val (.int p0_4), .val (.int (v0_5 p0_0)), .val (.int (v0_12 p0_1)), .val (.int (v0_19 p0_3)), .val (.int (v0_25 p0_4)), .val (.int (j0_71_9 p0_0 p0_1 p0_2 p0_4)), .val (.ref b16), .unset, .unset] [])) _
    refine XS.aload X20.here hx rfl (hb hby at_80) rfl rfl ?_
    show Steps p.tables e below (T20.setTop (mkF m 82 #[.val (.int p0_0), .val (.int p0_1), .val (.int p0_2), .val (.int p0_3), .val (.int p0_4), .val (.int (v0_5 p0_0)), .val (.int (v0_12 p0_1)), .val (.int (v0_19 p0_3)), .val (.int (v0_25 p0_4)), .val (.int (j0_71_9 p0_0 p0_1 p0_2 p0_4)), .val (.ref b16), .unset, .unset] [(.ref b16)])) _
    refine XS.iload X20.here hx rfl (hb hby at_82) rfl ?_
    show Steps p.tables e below (T20.setTop (mkF m 84 #[.val (.int p0_0), .val (.int p0_1), .val (.int p0_2), .val (.int p0_3), .val (.int p0_4), .val (.int (v0_5 p0_0)), .val (.int (v0_12 p0_1)), .val (.int (v0_19 p0_3)), .val (.int (v0_25 p0_4)), .val (.int (j0_71_9 p0_0 p0_1 p0_2 p0_4)), .val (.ref b16), .unset, .unset] [(.int (v0_5 p0_0)), (.ref b16)])) _
    exact k)
  obtain ⟨cq22, kq22, qa22, qb22, qc22⟩ := isOf hZ rfl Ex20
  obtain ⟨_, _, ⟨T22, L22, k22, n22⟩, -, X22, ⟨Lc22, hQ22, l22, y22, z22⟩, st22⟩ := X20.virtualBack hx (y := (⟨"relayout/PositionSet", "add", "(I)V"⟩ : MethodName)) (z := (⟨"relayout/PositionSet", "add", "(I)V"⟩ : MethodName)) hown (mvT hZ (hw _ (List.mem_of_getElem? (i := 14) rfl))) (mvT hZ (hw _ (List.mem_of_getElem? (i := 15) rfl))) (notFace_of_selects (args := #[]) (mvT hZ (hw _ (List.mem_of_getElem? (i := 17) rfl)))) (mvT hZ (hw _ (List.mem_of_getElem? (i := 17) rfl))) (mvT hZ (hw _ (List.mem_of_getElem? (i := 16) rfl))) (by decide) (backOf (W := 0) (rm3 l Z a0 hw [] b16 (v0_5 p0_0) 1 (fun _ => False) (own_m p0_0) T20.heap n0 Zh20 g_b16 PS20 (own_mo p0_0) (own_ml p0_0) (by decide)) hZ (hw _ (List.mem_of_getElem? (i := 18) rfl)) (hw _ (List.mem_of_getElem? (i := 2) rfl)) (by decide) (by decide)) qa22 qc22 (g := (mkF m 84 #[.val (.int p0_0), .val (.int p0_1), .val (.int p0_2), .val (.int p0_3), .val (.int p0_4), .val (.int (v0_5 p0_0)), .val (.int (v0_12 p0_1)), .val (.int (v0_19 p0_3)), .val (.int (v0_25 p0_4)), .val (.int (j0_71_9 p0_0 p0_1 p0_2 p0_4)), .val (.ref b16), .unset, .unset] [(.int (v0_5 p0_0)), (.ref b16)])) rfl (by rw [hml]; rfl) (Steps.refl _) (argsL := [(.int (v0_5 p0_0))]) (rest := []) (lenOf pd_4 rfl) rfl (by show 2 * 0 + _ ≤ _; exact Nat.le_of_eq rfl) (hb hby at_84) (fun _ _ => ⟨rfl, rfl, (by decide : 3 + 2 ≤ _), (by decide : 4 + 260 ≤ _)⟩)
  dsimp only [Pt.U, Pt.locs, Pt.cells, Pt.slots] at X22 l22 y22 z22 st22 hQ22
  rw [l22, y22, z22] at X22
  obtain ⟨rfl, M22, Zh22, PS22⟩ := hQ22
  have N22 := Fr.app N20 M22
  have Ex22 : Exa Z T22.heap b16 "relayout/PositionSet" := own_psE PS22
  replace X22 : Stand p l e room_1 s m #[(.int p0_0), (.int p0_1), (.int p0_2), (.int p0_3), (.int p0_4)] below meth c T22 _ 5 264 := X22
  have pre22 : ∀ t, Steps p.tables e below (T22.setTop (mkF m 87 #[.val (.int p0_0), .val (.int p0_1), .val (.int p0_2), .val (.int p0_3), .val (.int p0_4), .val (.int (v0_5 p0_0)), .val (.int (v0_12 p0_1)), .val (.int (v0_19 p0_3)), .val (.int (v0_25 p0_4)), .val (.int (j0_71_9 p0_0 p0_1 p0_2 p0_4)), .val (.ref b16), .unset, .unset] [])) t → Steps p.tables e below (s₁.setTop (entryFrame m #[(.int p0_0), (.int p0_1), (.int p0_2), (.int p0_3), (.int p0_4)] maxLocals)) t := fun t k => pre21 t (st22.trans k)
  have pre23 : ∀ t, Steps p.tables e below (T22.setTop (mkF m 91 #[.val (.int p0_0), .val (.int p0_1), .val (.int p0_2), .val (.int p0_3), .val (.int p0_4), .val (.int (v0_5 p0_0)), .val (.int (v0_12 p0_1)), .val (.int (v0_19 p0_3)), .val (.int (v0_25 p0_4)), .val (.int (j0_71_9 p0_0 p0_1 p0_2 p0_4)), .val (.ref b16), .unset, .unset] [(.int (v0_12 p0_1)), (.ref b16)])) t → Steps p.tables e below (s₁.setTop (entryFrame m #[(.int p0_0), (.int p0_1), (.int p0_2), (.int p0_3), (.int p0_4)] maxLocals)) t := fun t k => pre22 t (by
    refine XS.aload X22.here hx rfl (hb hby at_87) rfl rfl ?_
    show Steps p.tables e below (T22.setTop (mkF m 89 #[.val (.int p0_0), .val (.int p0_1), .val (.int p0_2), .val (.int p0_3), .val (.int p0_4), .val (.int (v0_5 p0_0)), .val (.int (v0_12 p0_1)), .val (.int (v0_19 p0_3)), .val (.int (v0_25 p0_4)), .val (.int (j0_71_9 p0_0 p0_1 p0_2 p0_4)), .val (.ref b16), .unset, .unset] [(.ref b16)])) _
    refine XS.iload X22.here hx rfl (hb hby at_89) rfl ?_
    show Steps p.tables e below (T22.setTop (mkF m 91 #[.val (.int p0_0), .val (.int p0_1), .val (.int p0_2), .val (.int p0_3), .val (.int p0_4), .val (.int (v0_5 p0_0)), .val (.int (v0_12 p0_1)), .val (.int (v0_19 p0_3)), .val (.int (v0_25 p0_4)), .val (.int (j0_71_9 p0_0 p0_1 p0_2 p0_4)), .val (.ref b16), .unset, .unset] [(.int (v0_12 p0_1)), (.ref b16)])) _
    exact k)
  obtain ⟨cq24, kq24, qa24, qb24, qc24⟩ := isOf hZ rfl Ex22
  obtain ⟨_, _, ⟨T24, L24, k24, n24⟩, -, X24, ⟨Lc24, hQ24, l24, y24, z24⟩, st24⟩ := X22.virtualBack hx (y := (⟨"relayout/PositionSet", "add", "(I)V"⟩ : MethodName)) (z := (⟨"relayout/PositionSet", "add", "(I)V"⟩ : MethodName)) hown (mvT hZ (hw _ (List.mem_of_getElem? (i := 14) rfl))) (mvT hZ (hw _ (List.mem_of_getElem? (i := 15) rfl))) (notFace_of_selects (args := #[]) (mvT hZ (hw _ (List.mem_of_getElem? (i := 17) rfl)))) (mvT hZ (hw _ (List.mem_of_getElem? (i := 17) rfl))) (mvT hZ (hw _ (List.mem_of_getElem? (i := 16) rfl))) (by decide) (backOf (W := 0) (rm3 l Z a0 hw [] b16 (v0_12 p0_1) (max 128 (2 * 1)) (own_ins (fun _ => False) (own_m p0_0)) (own_m p0_1) T22.heap n0 Zh22 g_b16 PS22 (own_mo p0_1) (own_ml p0_1) (by decide)) hZ (hw _ (List.mem_of_getElem? (i := 18) rfl)) (hw _ (List.mem_of_getElem? (i := 2) rfl)) (by decide) (by decide)) qa24 qc24 (g := (mkF m 91 #[.val (.int p0_0), .val (.int p0_1), .val (.int p0_2), .val (.int p0_3), .val (.int p0_4), .val (.int (v0_5 p0_0)), .val (.int (v0_12 p0_1)), .val (.int (v0_19 p0_3)), .val (.int (v0_25 p0_4)), .val (.int (j0_71_9 p0_0 p0_1 p0_2 p0_4)), .val (.ref b16), .unset, .unset] [(.int (v0_12 p0_1)), (.ref b16)])) rfl (by rw [hml]; rfl) (Steps.refl _) (argsL := [(.int (v0_12 p0_1))]) (rest := []) (lenOf pd_4 rfl) rfl (by show 2 * 0 + _ ≤ _; exact Nat.le_of_eq rfl) (hb hby at_91) (fun _ _ => ⟨rfl, rfl, (by decide : 5 + 2 ≤ _), (by decide : 264 + 260 ≤ _)⟩)
  dsimp only [Pt.U, Pt.locs, Pt.cells, Pt.slots] at X24 l24 y24 z24 st24 hQ24
  rw [l24, y24, z24] at X24
  obtain ⟨rfl, M24, Zh24, PS24⟩ := hQ24
  have N24 := Fr.app N22 M24
  have Ex24 : Exa Z T24.heap b16 "relayout/PositionSet" := own_psE PS24
  replace X24 : Stand p l e room_1 s m #[(.int p0_0), (.int p0_1), (.int p0_2), (.int p0_3), (.int p0_4)] below meth c T24 _ 7 524 := X24
  have pre24 : ∀ t, Steps p.tables e below (T24.setTop (mkF m 94 #[.val (.int p0_0), .val (.int p0_1), .val (.int p0_2), .val (.int p0_3), .val (.int p0_4), .val (.int (v0_5 p0_0)), .val (.int (v0_12 p0_1)), .val (.int (v0_19 p0_3)), .val (.int (v0_25 p0_4)), .val (.int (j0_71_9 p0_0 p0_1 p0_2 p0_4)), .val (.ref b16), .unset, .unset] [])) t → Steps p.tables e below (s₁.setTop (entryFrame m #[(.int p0_0), (.int p0_1), (.int p0_2), (.int p0_3), (.int p0_4)] maxLocals)) t := fun t k => pre23 t (st24.trans k)
  have pre25 : ∀ t, Steps p.tables e below (T24.setTop (mkF m 98 #[.val (.int p0_0), .val (.int p0_1), .val (.int p0_2), .val (.int p0_3), .val (.int p0_4), .val (.int (v0_5 p0_0)), .val (.int (v0_12 p0_1)), .val (.int (v0_19 p0_3)), .val (.int (v0_25 p0_4)), .val (.int (j0_71_9 p0_0 p0_1 p0_2 p0_4)), .val (.ref b16), .unset, .unset] [(.int (j0_71_9 p0_0 p0_1 p0_2 p0_4)), (.ref b16)])) t → Steps p.tables e below (s₁.setTop (entryFrame m #[(.int p0_0), (.int p0_1), (.int p0_2), (.int p0_3), (.int p0_4)] maxLocals)) t := fun t k => pre24 t (by
    refine XS.aload X24.here hx rfl (hb hby at_94) rfl rfl ?_
    show Steps p.tables e below (T24.setTop (mkF m 96 #[.val (.int p0_0), .val (.int p0_1), .val (.int p0_2), .val (.int p0_3), .val (.int p0_4), .val (.int (v0_5 p0_0)), .val (.int (v0_12 p0_1)), .val (.int (v0_19 p0_3)), .val (.int (v0_25 p0_4)), .val (.int (j0_71_9 p0_0 p0_1 p0_2 p0_4)), .val (.ref b16), .unset, .unset] [(.ref b16)])) _
    refine XS.iload X24.here hx rfl (hb hby at_96) rfl ?_
    show Steps p.tables e below (T24.setTop (mkF m 98 #[.val (.int p0_0), .val (.int p0_1), .val (.int p0_2), .val (.int p0_3), .val (.int p0_4), .val (.int (v0_5 p0_0)), .val (.int (v0_12 p0_1)), .val (.int (v0_19 p0_3)), .val (.int (v0_25 p0_4)), .val (.int (j0_71_9 p0_0 p0_1 p0_2 p0_4)), .val (.ref b16), .unset, .unset] [(.int (j0_71_9 p0_0 p0_1 p0_2 p0_4)), (.ref b16)])) _
    exact k)
  obtain ⟨cq26, kq26, qa26, qb26, qc26⟩ := isOf hZ rfl Ex24
  obtain ⟨_, _, ⟨T26, L26, k26, n26⟩, -, X26, ⟨Lc26, hQ26, l26, y26, z26⟩, st26⟩ := X24.virtualBack hx (y := (⟨"relayout/PositionSet", "remove", "(I)V"⟩ : MethodName)) (z := (⟨"relayout/PositionSet", "remove", "(I)V"⟩ : MethodName)) hown (mvT hZ (hw _ (List.mem_of_getElem? (i := 19) rfl))) (mvT hZ (hw _ (List.mem_of_getElem? (i := 20) rfl))) (notFace_of_selects (args := #[]) (mvT hZ (hw _ (List.mem_of_getElem? (i := 22) rfl)))) (mvT hZ (hw _ (List.mem_of_getElem? (i := 22) rfl))) (mvT hZ (hw _ (List.mem_of_getElem? (i := 21) rfl))) (by decide) (backOf (W := 0) (rm4 l Z a0 hw [] b16 (j0_71_9 p0_0 p0_1 p0_2 p0_4) (max 128 (2 * (max 128 (2 * 1)))) (own_ins (own_ins (fun _ => False) (own_m p0_0)) (own_m p0_1)) T24.heap n0 Zh24 g_b16 PS24) hZ (hw _ (List.mem_of_getElem? (i := 23) rfl)) (hw _ (List.mem_of_getElem? (i := 2) rfl)) (by decide) (by decide)) qa26 qc26 (g := (mkF m 98 #[.val (.int p0_0), .val (.int p0_1), .val (.int p0_2), .val (.int p0_3), .val (.int p0_4), .val (.int (v0_5 p0_0)), .val (.int (v0_12 p0_1)), .val (.int (v0_19 p0_3)), .val (.int (v0_25 p0_4)), .val (.int (j0_71_9 p0_0 p0_1 p0_2 p0_4)), .val (.ref b16), .unset, .unset] [(.int (j0_71_9 p0_0 p0_1 p0_2 p0_4)), (.ref b16)])) rfl (by rw [hml]; rfl) (Steps.refl _) (argsL := [(.int (j0_71_9 p0_0 p0_1 p0_2 p0_4))]) (rest := []) (lenOf pd_4 rfl) rfl (by show 2 * 0 + _ ≤ _; exact Nat.le_of_eq rfl) (hb hby at_98) (fun _ _ => ⟨rfl, rfl, (by decide : 7 + 0 ≤ _), (by decide : 524 + 0 ≤ _)⟩)
  dsimp only [Pt.U, Pt.locs, Pt.cells, Pt.slots] at X26 l26 y26 z26 st26 hQ26
  rw [l26, y26, z26] at X26
  obtain ⟨rfl, M26, Zh26, PS26⟩ := hQ26
  have N26 := Fr.app N24 M26
  have Ex26 : Exa Z T26.heap b16 "relayout/PositionSet" := own_psE PS26
  replace X26 : Stand p l e room_1 s m #[(.int p0_0), (.int p0_1), (.int p0_2), (.int p0_3), (.int p0_4)] below meth c T26 _ 7 524 := X26
  have pre26 : ∀ t, Steps p.tables e below (T26.setTop (mkF m 101 #[.val (.int p0_0), .val (.int p0_1), .val (.int p0_2), .val (.int p0_3), .val (.int p0_4), .val (.int (v0_5 p0_0)), .val (.int (v0_12 p0_1)), .val (.int (v0_19 p0_3)), .val (.int (v0_25 p0_4)), .val (.int (j0_71_9 p0_0 p0_1 p0_2 p0_4)), .val (.ref b16), .unset, .unset] [])) t → Steps p.tables e below (s₁.setTop (entryFrame m #[(.int p0_0), (.int p0_1), (.int p0_2), (.int p0_3), (.int p0_4)] maxLocals)) t := fun t k => pre25 t (st26.trans k)
  have pre27 : ∀ t, Steps p.tables e below (T26.setTop (mkF m 105 #[.val (.int p0_0), .val (.int p0_1), .val (.int p0_2), .val (.int p0_3), .val (.int p0_4), .val (.int (v0_5 p0_0)), .val (.int (v0_12 p0_1)), .val (.int (v0_19 p0_3)), .val (.int (v0_25 p0_4)), .val (.int (j0_71_9 p0_0 p0_1 p0_2 p0_4)), .val (.ref b16), .unset, .unset] [(.int (p0_4 &&& (4 : Int32)))])) t → Steps p.tables e below (s₁.setTop (entryFrame m #[(.int p0_0), (.int p0_1), (.int p0_2), (.int p0_3), (.int p0_4)] maxLocals)) t := fun t k => pre26 t (by
    refine XS.iload X26.here hx rfl (hb hby at_101) rfl ?_
    show Steps p.tables e below (T26.setTop (mkF m 103 #[.val (.int p0_0), .val (.int p0_1), .val (.int p0_2), .val (.int p0_3), .val (.int p0_4), .val (.int (v0_5 p0_0)), .val (.int (v0_12 p0_1)), .val (.int (v0_19 p0_3)), .val (.int (v0_25 p0_4)), .val (.int (j0_71_9 p0_0 p0_1 p0_2 p0_4)), .val (.ref b16), .unset, .unset] [(.int p0_4)])) _
    refine XS.iconst X26.here hx rfl (hb hby at_103) ?_
    show Steps p.tables e below (T26.setTop (mkF m 104 #[.val (.int p0_0), .val (.int p0_1), .val (.int p0_2), .val (.int p0_3), .val (.int p0_4), .val (.int (v0_5 p0_0)), .val (.int (v0_12 p0_1)), .val (.int (v0_19 p0_3)), .val (.int (v0_25 p0_4)), .val (.int (j0_71_9 p0_0 p0_1 p0_2 p0_4)), .val (.ref b16), .unset, .unset] [(.int (4 : Int32)), (.int p0_4)])) _
    refine XS.iand X26.here hx rfl (hb hby at_104) rfl ?_
    show Steps p.tables e below (T26.setTop (mkF m 105 #[.val (.int p0_0), .val (.int p0_1), .val (.int p0_2), .val (.int p0_3), .val (.int p0_4), .val (.int (v0_5 p0_0)), .val (.int (v0_12 p0_1)), .val (.int (v0_19 p0_3)), .val (.int (v0_25 p0_4)), .val (.int (j0_71_9 p0_0 p0_1 p0_2 p0_4)), .val (.ref b16), .unset, .unset] [(.int (p0_4 &&& (4 : Int32)))])) _
    exact k)
  by_cases hc105_28 : (p0_4 &&& (4 : Int32)) = (0 : Int32)
  · have pre29 : ∀ t, Steps p.tables e below (T26.setTop (mkF m 119 #[.val (.int p0_0), .val (.int p0_1), .val (.int p0_2), .val (.int p0_3), .val (.int p0_4), .val (.int (v0_5 p0_0)), .val (.int (v0_12 p0_1)), .val (.int (v0_19 p0_3)), .val (.int (v0_25 p0_4)), .val (.int (j0_71_9 p0_0 p0_1 p0_2 p0_4)), .val (.ref b16), .unset, .unset] [(.int (j0_71_9 p0_0 p0_1 p0_2 p0_4)), (.int (v0_5 p0_0))])) t → Steps p.tables e below (s₁.setTop (entryFrame m #[(.int p0_0), (.int p0_1), (.int p0_2), (.int p0_3), (.int p0_4)] maxLocals)) t := fun t k => pre27 t (by
      refine XS.ifYes X26.here hx rfl (pc0 := 105) (pc' := 115) rfl (hb hby at_105) rfl ((if0 _ _).trans (teq hc105_28).1) (by decide) (by decide) ?_
      show Steps p.tables e below (T26.setTop (mkF m 115 #[.val (.int p0_0), .val (.int p0_1), .val (.int p0_2), .val (.int p0_3), .val (.int p0_4), .val (.int (v0_5 p0_0)), .val (.int (v0_12 p0_1)), .val (.int (v0_19 p0_3)), .val (.int (v0_25 p0_4)), .val (.int (j0_71_9 p0_0 p0_1 p0_2 p0_4)), .val (.ref b16), .unset, .unset] [])) _
      refine XS.iload X26.here hx rfl (hb hby at_115) rfl ?_
      show Steps p.tables e below (T26.setTop (mkF m 117 #[.val (.int p0_0), .val (.int p0_1), .val (.int p0_2), .val (.int p0_3), .val (.int p0_4), .val (.int (v0_5 p0_0)), .val (.int (v0_12 p0_1)), .val (.int (v0_19 p0_3)), .val (.int (v0_25 p0_4)), .val (.int (j0_71_9 p0_0 p0_1 p0_2 p0_4)), .val (.ref b16), .unset, .unset] [(.int (v0_5 p0_0))])) _
      refine XS.iload X26.here hx rfl (hb hby at_117) rfl ?_
      show Steps p.tables e below (T26.setTop (mkF m 119 #[.val (.int p0_0), .val (.int p0_1), .val (.int p0_2), .val (.int p0_3), .val (.int p0_4), .val (.int (v0_5 p0_0)), .val (.int (v0_12 p0_1)), .val (.int (v0_19 p0_3)), .val (.int (v0_25 p0_4)), .val (.int (j0_71_9 p0_0 p0_1 p0_2 p0_4)), .val (.ref b16), .unset, .unset] [(.int (j0_71_9 p0_0 p0_1 p0_2 p0_4)), (.int (v0_5 p0_0))])) _
      exact k)
    obtain ⟨T30, L30, X30, e30, N30, st30⟩ : ∃ (T' : State) (L' : List Loc), Stand p l e room_1 s m #[(.int p0_0), (.int p0_1), (.int p0_2), (.int p0_3), (.int p0_4)] below meth c T' L' 7 524 ∧ T'.heap = T26.heap ∧ Fr n0 L' ∧ ∀ t, Steps p.tables e below (T'.setTop (mkF m 127 #[.val (.int p0_0), .val (.int p0_1), .val (.int p0_2), .val (.int p0_3), .val (.int p0_4), .val (.int (v0_5 p0_0)), .val (.int (v0_12 p0_1)), .val (.int (v0_19 p0_3)), .val (.int (v0_25 p0_4)), .val (.int (j0_71_9 p0_0 p0_1 p0_2 p0_4)), .val (.ref b16), .unset, .unset] [(.int (j0_127_s0 p0_0 p0_1 p0_2 p0_4))])) t → Steps p.tables e below (T26.setTop (mkF m 119 #[.val (.int p0_0), .val (.int p0_1), .val (.int p0_2), .val (.int p0_3), .val (.int p0_4), .val (.int (v0_5 p0_0)), .val (.int (v0_12 p0_1)), .val (.int (v0_19 p0_3)), .val (.int (v0_25 p0_4)), .val (.int (j0_71_9 p0_0 p0_1 p0_2 p0_4)), .val (.ref b16), .unset, .unset] [(.int (j0_71_9 p0_0 p0_1 p0_2 p0_4)), (.int (v0_5 p0_0))])) t := by
      have pre30 : ∀ t, Steps p.tables e below (T26.setTop (mkF m 119 #[.val (.int p0_0), .val (.int p0_1), .val (.int p0_2), .val (.int p0_3), .val (.int p0_4), .val (.int (v0_5 p0_0)), .val (.int (v0_12 p0_1)), .val (.int (v0_19 p0_3)), .val (.int (v0_25 p0_4)), .val (.int (j0_71_9 p0_0 p0_1 p0_2 p0_4)), .val (.ref b16), .unset, .unset] [(.int (j0_71_9 p0_0 p0_1 p0_2 p0_4)), (.int (v0_5 p0_0))])) t → Steps p.tables e below (T26.setTop (mkF m 119 #[.val (.int p0_0), .val (.int p0_1), .val (.int p0_2), .val (.int p0_3), .val (.int p0_4), .val (.int (v0_5 p0_0)), .val (.int (v0_12 p0_1)), .val (.int (v0_19 p0_3)), .val (.int (v0_25 p0_4)), .val (.int (j0_71_9 p0_0 p0_1 p0_2 p0_4)), .val (.ref b16), .unset, .unset] [(.int (j0_71_9 p0_0 p0_1 p0_2 p0_4)), (.int (v0_5 p0_0))])) t := fun t k => k
      by_cases hc119_31 : (v0_5 p0_0) = (j0_71_9 p0_0 p0_1 p0_2 p0_4)
      · have pre32 : ∀ t, Steps p.tables e below (T26.setTop (mkF m 127 #[.val (.int p0_0), .val (.int p0_1), .val (.int p0_2), .val (.int p0_3), .val (.int p0_4), .val (.int (v0_5 p0_0)), .val (.int (v0_12 p0_1)), .val (.int (v0_19 p0_3)), .val (.int (v0_25 p0_4)), .val (.int (j0_71_9 p0_0 p0_1 p0_2 p0_4)), .val (.ref b16), .unset, .unset] [(.int (0 : Int32))])) t → Steps p.tables e below (T26.setTop (mkF m 119 #[.val (.int p0_0), .val (.int p0_1), .val (.int p0_2), .val (.int p0_3), .val (.int p0_4), .val (.int (v0_5 p0_0)), .val (.int (v0_12 p0_1)), .val (.int (v0_19 p0_3)), .val (.int (v0_25 p0_4)), .val (.int (j0_71_9 p0_0 p0_1 p0_2 p0_4)), .val (.ref b16), .unset, .unset] [(.int (j0_71_9 p0_0 p0_1 p0_2 p0_4)), (.int (v0_5 p0_0))])) t := fun t k => pre30 t (by
          refine XS.icmpYes X26.here hx rfl (pc0 := 119) (pc' := 126) rfl (hb hby at_119) rfl (teq hc119_31).1 (by decide) (by decide) ?_
          show Steps p.tables e below (T26.setTop (mkF m 126 #[.val (.int p0_0), .val (.int p0_1), .val (.int p0_2), .val (.int p0_3), .val (.int p0_4), .val (.int (v0_5 p0_0)), .val (.int (v0_12 p0_1)), .val (.int (v0_19 p0_3)), .val (.int (v0_25 p0_4)), .val (.int (j0_71_9 p0_0 p0_1 p0_2 p0_4)), .val (.ref b16), .unset, .unset] [])) _
          refine XS.iconst X26.here hx rfl (hb hby at_126) ?_
          show Steps p.tables e below (T26.setTop (mkF m 127 #[.val (.int p0_0), .val (.int p0_1), .val (.int p0_2), .val (.int p0_3), .val (.int p0_4), .val (.int (v0_5 p0_0)), .val (.int (v0_12 p0_1)), .val (.int (v0_19 p0_3)), .val (.int (v0_25 p0_4)), .val (.int (j0_71_9 p0_0 p0_1 p0_2 p0_4)), .val (.ref b16), .unset, .unset] [(.int (0 : Int32))])) _
          exact k)
        have hj34 : (j0_127_s0 p0_0 p0_1 p0_2 p0_4) = (0 : Int32) := by unfold j0_127_s0; rw [if_pos hc119_31]
        exact ⟨T26, _, X26, rfl, N26, fun t k => pre32 t (by rw [hj34] at k; exact k)⟩
      · have pre33 : ∀ t, Steps p.tables e below (T26.setTop (mkF m 127 #[.val (.int p0_0), .val (.int p0_1), .val (.int p0_2), .val (.int p0_3), .val (.int p0_4), .val (.int (v0_5 p0_0)), .val (.int (v0_12 p0_1)), .val (.int (v0_19 p0_3)), .val (.int (v0_25 p0_4)), .val (.int (j0_71_9 p0_0 p0_1 p0_2 p0_4)), .val (.ref b16), .unset, .unset] [(.int (1 : Int32))])) t → Steps p.tables e below (T26.setTop (mkF m 119 #[.val (.int p0_0), .val (.int p0_1), .val (.int p0_2), .val (.int p0_3), .val (.int p0_4), .val (.int (v0_5 p0_0)), .val (.int (v0_12 p0_1)), .val (.int (v0_19 p0_3)), .val (.int (v0_25 p0_4)), .val (.int (j0_71_9 p0_0 p0_1 p0_2 p0_4)), .val (.ref b16), .unset, .unset] [(.int (j0_71_9 p0_0 p0_1 p0_2 p0_4)), (.int (v0_5 p0_0))])) t := fun t k => pre30 t (by
          refine XS.icmpNo X26.here hx rfl (hb hby at_119) rfl (feq hc119_31).1 ?_
          show Steps p.tables e below (T26.setTop (mkF m 122 #[.val (.int p0_0), .val (.int p0_1), .val (.int p0_2), .val (.int p0_3), .val (.int p0_4), .val (.int (v0_5 p0_0)), .val (.int (v0_12 p0_1)), .val (.int (v0_19 p0_3)), .val (.int (v0_25 p0_4)), .val (.int (j0_71_9 p0_0 p0_1 p0_2 p0_4)), .val (.ref b16), .unset, .unset] [])) _
          refine XS.iconst X26.here hx rfl (hb hby at_122) ?_
          show Steps p.tables e below (T26.setTop (mkF m 123 #[.val (.int p0_0), .val (.int p0_1), .val (.int p0_2), .val (.int p0_3), .val (.int p0_4), .val (.int (v0_5 p0_0)), .val (.int (v0_12 p0_1)), .val (.int (v0_19 p0_3)), .val (.int (v0_25 p0_4)), .val (.int (j0_71_9 p0_0 p0_1 p0_2 p0_4)), .val (.ref b16), .unset, .unset] [(.int (1 : Int32))])) _
          refine XS.goto X26.here hx rfl (pc0 := 123) (pc' := 127) rfl (hb hby at_123) (by decide) (by decide) ?_
          show Steps p.tables e below (T26.setTop (mkF m 127 #[.val (.int p0_0), .val (.int p0_1), .val (.int p0_2), .val (.int p0_3), .val (.int p0_4), .val (.int (v0_5 p0_0)), .val (.int (v0_12 p0_1)), .val (.int (v0_19 p0_3)), .val (.int (v0_25 p0_4)), .val (.int (j0_71_9 p0_0 p0_1 p0_2 p0_4)), .val (.ref b16), .unset, .unset] [(.int (1 : Int32))])) _
          exact k)
        have hj35 : (j0_127_s0 p0_0 p0_1 p0_2 p0_4) = (1 : Int32) := by unfold j0_127_s0; rw [if_neg hc119_31]
        exact ⟨T26, _, X26, rfl, N26, fun t k => pre33 t (by rw [hj35] at k; exact k)⟩
    have pre30 : ∀ t, Steps p.tables e below (T30.setTop (mkF m 127 #[.val (.int p0_0), .val (.int p0_1), .val (.int p0_2), .val (.int p0_3), .val (.int p0_4), .val (.int (v0_5 p0_0)), .val (.int (v0_12 p0_1)), .val (.int (v0_19 p0_3)), .val (.int (v0_25 p0_4)), .val (.int (j0_71_9 p0_0 p0_1 p0_2 p0_4)), .val (.ref b16), .unset, .unset] [(.int (j0_127_s0 p0_0 p0_1 p0_2 p0_4))])) t → Steps p.tables e below (s₁.setTop (entryFrame m #[(.int p0_0), (.int p0_1), (.int p0_2), (.int p0_3), (.int p0_4)] maxLocals)) t := fun t k => pre29 t (st30 t k)
    have pre36 : ∀ t, Steps p.tables e below (T30.setTop (mkF m 133 #[.val (.int p0_0), .val (.int p0_1), .val (.int p0_2), .val (.int p0_3), .val (.int p0_4), .val (.int (v0_5 p0_0)), .val (.int (v0_12 p0_1)), .val (.int (v0_19 p0_3)), .val (.int (v0_25 p0_4)), .val (.int (j0_71_9 p0_0 p0_1 p0_2 p0_4)), .val (.ref b16), .val (.int (j0_127_s0 p0_0 p0_1 p0_2 p0_4)), .unset] [(.int (j0_71_9 p0_0 p0_1 p0_2 p0_4)), (.int (v0_12 p0_1))])) t → Steps p.tables e below (s₁.setTop (entryFrame m #[(.int p0_0), (.int p0_1), (.int p0_2), (.int p0_3), (.int p0_4)] maxLocals)) t := fun t k => pre30 t (by
      refine XS.istore X30.here hx rfl (hb hby at_127) rfl (l' := #[.val (.int p0_0), .val (.int p0_1), .val (.int p0_2), .val (.int p0_3), .val (.int p0_4), .val (.int (v0_5 p0_0)), .val (.int (v0_12 p0_1)), .val (.int (v0_19 p0_3)), .val (.int (v0_25 p0_4)), .val (.int (j0_71_9 p0_0 p0_1 p0_2 p0_4)), .val (.ref b16), .val (.int (j0_127_s0 p0_0 p0_1 p0_2 p0_4)), .unset]) rfl ?_
      show Steps p.tables e below (T30.setTop (mkF m 129 #[.val (.int p0_0), .val (.int p0_1), .val (.int p0_2), .val (.int p0_3), .val (.int p0_4), .val (.int (v0_5 p0_0)), .val (.int (v0_12 p0_1)), .val (.int (v0_19 p0_3)), .val (.int (v0_25 p0_4)), .val (.int (j0_71_9 p0_0 p0_1 p0_2 p0_4)), .val (.ref b16), .val (.int (j0_127_s0 p0_0 p0_1 p0_2 p0_4)), .unset] [])) _
      refine XS.iload X30.here hx rfl (hb hby at_129) rfl ?_
      show Steps p.tables e below (T30.setTop (mkF m 131 #[.val (.int p0_0), .val (.int p0_1), .val (.int p0_2), .val (.int p0_3), .val (.int p0_4), .val (.int (v0_5 p0_0)), .val (.int (v0_12 p0_1)), .val (.int (v0_19 p0_3)), .val (.int (v0_25 p0_4)), .val (.int (j0_71_9 p0_0 p0_1 p0_2 p0_4)), .val (.ref b16), .val (.int (j0_127_s0 p0_0 p0_1 p0_2 p0_4)), .unset] [(.int (v0_12 p0_1))])) _
      refine XS.iload X30.here hx rfl (hb hby at_131) rfl ?_
      show Steps p.tables e below (T30.setTop (mkF m 133 #[.val (.int p0_0), .val (.int p0_1), .val (.int p0_2), .val (.int p0_3), .val (.int p0_4), .val (.int (v0_5 p0_0)), .val (.int (v0_12 p0_1)), .val (.int (v0_19 p0_3)), .val (.int (v0_25 p0_4)), .val (.int (j0_71_9 p0_0 p0_1 p0_2 p0_4)), .val (.ref b16), .val (.int (j0_127_s0 p0_0 p0_1 p0_2 p0_4)), .unset] [(.int (j0_71_9 p0_0 p0_1 p0_2 p0_4)), (.int (v0_12 p0_1))])) _
      exact k)
    obtain ⟨T37, L37, X37, e37, N37, st37⟩ : ∃ (T' : State) (L' : List Loc), Stand p l e room_1 s m #[(.int p0_0), (.int p0_1), (.int p0_2), (.int p0_3), (.int p0_4)] below meth c T' L' 7 524 ∧ T'.heap = T26.heap ∧ Fr n0 L' ∧ ∀ t, Steps p.tables e below (T'.setTop (mkF m 141 #[.val (.int p0_0), .val (.int p0_1), .val (.int p0_2), .val (.int p0_3), .val (.int p0_4), .val (.int (v0_5 p0_0)), .val (.int (v0_12 p0_1)), .val (.int (v0_19 p0_3)), .val (.int (v0_25 p0_4)), .val (.int (j0_71_9 p0_0 p0_1 p0_2 p0_4)), .val (.ref b16), .val (.int (j0_127_s0 p0_0 p0_1 p0_2 p0_4)), .unset] [(.int (j0_141_s0 p0_0 p0_1 p0_2 p0_4))])) t → Steps p.tables e below (T30.setTop (mkF m 133 #[.val (.int p0_0), .val (.int p0_1), .val (.int p0_2), .val (.int p0_3), .val (.int p0_4), .val (.int (v0_5 p0_0)), .val (.int (v0_12 p0_1)), .val (.int (v0_19 p0_3)), .val (.int (v0_25 p0_4)), .val (.int (j0_71_9 p0_0 p0_1 p0_2 p0_4)), .val (.ref b16), .val (.int (j0_127_s0 p0_0 p0_1 p0_2 p0_4)), .unset] [(.int (j0_71_9 p0_0 p0_1 p0_2 p0_4)), (.int (v0_12 p0_1))])) t := by
      have pre37 : ∀ t, Steps p.tables e below (T30.setTop (mkF m 133 #[.val (.int p0_0), .val (.int p0_1), .val (.int p0_2), .val (.int p0_3), .val (.int p0_4), .val (.int (v0_5 p0_0)), .val (.int (v0_12 p0_1)), .val (.int (v0_19 p0_3)), .val (.int (v0_25 p0_4)), .val (.int (j0_71_9 p0_0 p0_1 p0_2 p0_4)), .val (.ref b16), .val (.int (j0_127_s0 p0_0 p0_1 p0_2 p0_4)), .unset] [(.int (j0_71_9 p0_0 p0_1 p0_2 p0_4)), (.int (v0_12 p0_1))])) t → Steps p.tables e below (T30.setTop (mkF m 133 #[.val (.int p0_0), .val (.int p0_1), .val (.int p0_2), .val (.int p0_3), .val (.int p0_4), .val (.int (v0_5 p0_0)), .val (.int (v0_12 p0_1)), .val (.int (v0_19 p0_3)), .val (.int (v0_25 p0_4)), .val (.int (j0_71_9 p0_0 p0_1 p0_2 p0_4)), .val (.ref b16), .val (.int (j0_127_s0 p0_0 p0_1 p0_2 p0_4)), .unset] [(.int (j0_71_9 p0_0 p0_1 p0_2 p0_4)), (.int (v0_12 p0_1))])) t := fun t k => k
      by_cases hc133_38 : (v0_12 p0_1) = (j0_71_9 p0_0 p0_1 p0_2 p0_4)
      · have pre39 : ∀ t, Steps p.tables e below (T30.setTop (mkF m 141 #[.val (.int p0_0), .val (.int p0_1), .val (.int p0_2), .val (.int p0_3), .val (.int p0_4), .val (.int (v0_5 p0_0)), .val (.int (v0_12 p0_1)), .val (.int (v0_19 p0_3)), .val (.int (v0_25 p0_4)), .val (.int (j0_71_9 p0_0 p0_1 p0_2 p0_4)), .val (.ref b16), .val (.int (j0_127_s0 p0_0 p0_1 p0_2 p0_4)), .unset] [(.int (0 : Int32))])) t → Steps p.tables e below (T30.setTop (mkF m 133 #[.val (.int p0_0), .val (.int p0_1), .val (.int p0_2), .val (.int p0_3), .val (.int p0_4), .val (.int (v0_5 p0_0)), .val (.int (v0_12 p0_1)), .val (.int (v0_19 p0_3)), .val (.int (v0_25 p0_4)), .val (.int (j0_71_9 p0_0 p0_1 p0_2 p0_4)), .val (.ref b16), .val (.int (j0_127_s0 p0_0 p0_1 p0_2 p0_4)), .unset] [(.int (j0_71_9 p0_0 p0_1 p0_2 p0_4)), (.int (v0_12 p0_1))])) t := fun t k => pre37 t (by
          refine XS.icmpYes X30.here hx rfl (pc0 := 133) (pc' := 140) rfl (hb hby at_133) rfl (teq hc133_38).1 (by decide) (by decide) ?_
          show Steps p.tables e below (T30.setTop (mkF m 140 #[.val (.int p0_0), .val (.int p0_1), .val (.int p0_2), .val (.int p0_3), .val (.int p0_4), .val (.int (v0_5 p0_0)), .val (.int (v0_12 p0_1)), .val (.int (v0_19 p0_3)), .val (.int (v0_25 p0_4)), .val (.int (j0_71_9 p0_0 p0_1 p0_2 p0_4)), .val (.ref b16), .val (.int (j0_127_s0 p0_0 p0_1 p0_2 p0_4)), .unset] [])) _
          refine XS.iconst X30.here hx rfl (hb hby at_140) ?_
          show Steps p.tables e below (T30.setTop (mkF m 141 #[.val (.int p0_0), .val (.int p0_1), .val (.int p0_2), .val (.int p0_3), .val (.int p0_4), .val (.int (v0_5 p0_0)), .val (.int (v0_12 p0_1)), .val (.int (v0_19 p0_3)), .val (.int (v0_25 p0_4)), .val (.int (j0_71_9 p0_0 p0_1 p0_2 p0_4)), .val (.ref b16), .val (.int (j0_127_s0 p0_0 p0_1 p0_2 p0_4)), .unset] [(.int (0 : Int32))])) _
          exact k)
        have hj41 : (j0_141_s0 p0_0 p0_1 p0_2 p0_4) = (0 : Int32) := by unfold j0_141_s0; rw [if_pos hc133_38]
        exact ⟨T30, _, X30, e30, N30, fun t k => pre39 t (by rw [hj41] at k; exact k)⟩
      · have pre40 : ∀ t, Steps p.tables e below (T30.setTop (mkF m 141 #[.val (.int p0_0), .val (.int p0_1), .val (.int p0_2), .val (.int p0_3), .val (.int p0_4), .val (.int (v0_5 p0_0)), .val (.int (v0_12 p0_1)), .val (.int (v0_19 p0_3)), .val (.int (v0_25 p0_4)), .val (.int (j0_71_9 p0_0 p0_1 p0_2 p0_4)), .val (.ref b16), .val (.int (j0_127_s0 p0_0 p0_1 p0_2 p0_4)), .unset] [(.int (1 : Int32))])) t → Steps p.tables e below (T30.setTop (mkF m 133 #[.val (.int p0_0), .val (.int p0_1), .val (.int p0_2), .val (.int p0_3), .val (.int p0_4), .val (.int (v0_5 p0_0)), .val (.int (v0_12 p0_1)), .val (.int (v0_19 p0_3)), .val (.int (v0_25 p0_4)), .val (.int (j0_71_9 p0_0 p0_1 p0_2 p0_4)), .val (.ref b16), .val (.int (j0_127_s0 p0_0 p0_1 p0_2 p0_4)), .unset] [(.int (j0_71_9 p0_0 p0_1 p0_2 p0_4)), (.int (v0_12 p0_1))])) t := fun t k => pre37 t (by
          refine XS.icmpNo X30.here hx rfl (hb hby at_133) rfl (feq hc133_38).1 ?_
          show Steps p.tables e below (T30.setTop (mkF m 136 #[.val (.int p0_0), .val (.int p0_1), .val (.int p0_2), .val (.int p0_3), .val (.int p0_4), .val (.int (v0_5 p0_0)), .val (.int (v0_12 p0_1)), .val (.int (v0_19 p0_3)), .val (.int (v0_25 p0_4)), .val (.int (j0_71_9 p0_0 p0_1 p0_2 p0_4)), .val (.ref b16), .val (.int (j0_127_s0 p0_0 p0_1 p0_2 p0_4)), .unset] [])) _
          refine XS.iconst X30.here hx rfl (hb hby at_136) ?_
          show Steps p.tables e below (T30.setTop (mkF m 137 #[.val (.int p0_0), .val (.int p0_1), .val (.int p0_2), .val (.int p0_3), .val (.int p0_4), .val (.int (v0_5 p0_0)), .val (.int (v0_12 p0_1)), .val (.int (v0_19 p0_3)), .val (.int (v0_25 p0_4)), .val (.int (j0_71_9 p0_0 p0_1 p0_2 p0_4)), .val (.ref b16), .val (.int (j0_127_s0 p0_0 p0_1 p0_2 p0_4)), .unset] [(.int (1 : Int32))])) _
          refine XS.goto X30.here hx rfl (pc0 := 137) (pc' := 141) rfl (hb hby at_137) (by decide) (by decide) ?_
          show Steps p.tables e below (T30.setTop (mkF m 141 #[.val (.int p0_0), .val (.int p0_1), .val (.int p0_2), .val (.int p0_3), .val (.int p0_4), .val (.int (v0_5 p0_0)), .val (.int (v0_12 p0_1)), .val (.int (v0_19 p0_3)), .val (.int (v0_25 p0_4)), .val (.int (j0_71_9 p0_0 p0_1 p0_2 p0_4)), .val (.ref b16), .val (.int (j0_127_s0 p0_0 p0_1 p0_2 p0_4)), .unset] [(.int (1 : Int32))])) _
          exact k)
        have hj42 : (j0_141_s0 p0_0 p0_1 p0_2 p0_4) = (1 : Int32) := by unfold j0_141_s0; rw [if_neg hc133_38]
        exact ⟨T30, _, X30, e30, N30, fun t k => pre40 t (by rw [hj42] at k; exact k)⟩
    have pre37 : ∀ t, Steps p.tables e below (T37.setTop (mkF m 141 #[.val (.int p0_0), .val (.int p0_1), .val (.int p0_2), .val (.int p0_3), .val (.int p0_4), .val (.int (v0_5 p0_0)), .val (.int (v0_12 p0_1)), .val (.int (v0_19 p0_3)), .val (.int (v0_25 p0_4)), .val (.int (j0_71_9 p0_0 p0_1 p0_2 p0_4)), .val (.ref b16), .val (.int (j0_127_s0 p0_0 p0_1 p0_2 p0_4)), .unset] [(.int (j0_141_s0 p0_0 p0_1 p0_2 p0_4))])) t → Steps p.tables e below (s₁.setTop (entryFrame m #[(.int p0_0), (.int p0_1), (.int p0_2), (.int p0_3), (.int p0_4)] maxLocals)) t := fun t k => pre36 t (st37 t k)
    have pre43 : ∀ t, Steps p.tables e below (T37.setTop (mkF m 147 #[.val (.int p0_0), .val (.int p0_1), .val (.int p0_2), .val (.int p0_3), .val (.int p0_4), .val (.int (v0_5 p0_0)), .val (.int (v0_12 p0_1)), .val (.int (v0_19 p0_3)), .val (.int (v0_25 p0_4)), .val (.int (j0_71_9 p0_0 p0_1 p0_2 p0_4)), .val (.ref b16), .val (.int (j0_127_s0 p0_0 p0_1 p0_2 p0_4)), .val (.int (j0_141_s0 p0_0 p0_1 p0_2 p0_4))] [(.int (v0_19 p0_3)), (.ref b16)])) t → Steps p.tables e below (s₁.setTop (entryFrame m #[(.int p0_0), (.int p0_1), (.int p0_2), (.int p0_3), (.int p0_4)] maxLocals)) t := fun t k => pre37 t (by
      refine XS.istore X37.here hx rfl (hb hby at_141) rfl (l' := #[.val (.int p0_0), .val (.int p0_1), .val (.int p0_2), .val (.int p0_3), .val (.int p0_4), .val (.int (v0_5 p0_0)), .val (.int (v0_12 p0_1)), .val (.int (v0_19 p0_3)), .val (.int (v0_25 p0_4)), .val (.int (j0_71_9 p0_0 p0_1 p0_2 p0_4)), .val (.ref b16), .val (.int (j0_127_s0 p0_0 p0_1 p0_2 p0_4)), .val (.int (j0_141_s0 p0_0 p0_1 p0_2 p0_4))]) rfl ?_
      show Steps p.tables e below (T37.setTop (mkF m 143 #[.val (.int p0_0), .val (.int p0_1), .val (.int p0_2), .val (.int p0_3), .val (.int p0_4), .val (.int (v0_5 p0_0)), .val (.int (v0_12 p0_1)), .val (.int (v0_19 p0_3)), .val (.int (v0_25 p0_4)), .val (.int (j0_71_9 p0_0 p0_1 p0_2 p0_4)), .val (.ref b16), .val (.int (j0_127_s0 p0_0 p0_1 p0_2 p0_4)), .val (.int (j0_141_s0 p0_0 p0_1 p0_2 p0_4))] [])) _
      refine XS.aload X37.here hx rfl (hb hby at_143) rfl rfl ?_
      show Steps p.tables e below (T37.setTop (mkF m 145 #[.val (.int p0_0), .val (.int p0_1), .val (.int p0_2), .val (.int p0_3), .val (.int p0_4), .val (.int (v0_5 p0_0)), .val (.int (v0_12 p0_1)), .val (.int (v0_19 p0_3)), .val (.int (v0_25 p0_4)), .val (.int (j0_71_9 p0_0 p0_1 p0_2 p0_4)), .val (.ref b16), .val (.int (j0_127_s0 p0_0 p0_1 p0_2 p0_4)), .val (.int (j0_141_s0 p0_0 p0_1 p0_2 p0_4))] [(.ref b16)])) _
      refine XS.iload X37.here hx rfl (hb hby at_145) rfl ?_
      show Steps p.tables e below (T37.setTop (mkF m 147 #[.val (.int p0_0), .val (.int p0_1), .val (.int p0_2), .val (.int p0_3), .val (.int p0_4), .val (.int (v0_5 p0_0)), .val (.int (v0_12 p0_1)), .val (.int (v0_19 p0_3)), .val (.int (v0_25 p0_4)), .val (.int (j0_71_9 p0_0 p0_1 p0_2 p0_4)), .val (.ref b16), .val (.int (j0_127_s0 p0_0 p0_1 p0_2 p0_4)), .val (.int (j0_141_s0 p0_0 p0_1 p0_2 p0_4))] [(.int (v0_19 p0_3)), (.ref b16)])) _
      exact k)
    obtain ⟨cq44, kq44, qa44, qb44, qc44⟩ := isOf hZ e37 Ex26
    obtain ⟨_, _, ⟨T44, L44, k44, n44⟩, -, X44, ⟨Lc44, hQ44, l44, y44, z44⟩, st44⟩ := X37.virtualBack hx (y := (⟨"relayout/PositionSet", "next", "(I)I"⟩ : MethodName)) (z := (⟨"relayout/PositionSet", "next", "(I)I"⟩ : MethodName)) hown (mvT hZ (hw _ (List.mem_of_getElem? (i := 25) rfl))) (mvT hZ (hw _ (List.mem_of_getElem? (i := 26) rfl))) (notFace_of_selects (args := #[]) (mvT hZ (hw _ (List.mem_of_getElem? (i := 28) rfl)))) (mvT hZ (hw _ (List.mem_of_getElem? (i := 28) rfl))) (mvT hZ (hw _ (List.mem_of_getElem? (i := 27) rfl))) (by decide) (backOf (W := 0) (rm5 l Z a0 hw [] b16 (v0_19 p0_3) (max 128 (2 * (max 128 (2 * 1)))) (own_del (own_ins (own_ins (fun _ => False) (own_m p0_0)) (own_m p0_1)) ((j0_71_9 p0_0 p0_1 p0_2 p0_4)).toBitVec.toNat) (own_m p0_3) T26.heap n0 Zh26 PS26 (own_mo p0_3) (own_ml p0_3)) hZ (hw _ (List.mem_of_getElem? (i := 29) rfl)) (hw _ (List.mem_of_getElem? (i := 2) rfl)) (by decide) (by decide)) qa44 qc44 (g := (mkF m 147 #[.val (.int p0_0), .val (.int p0_1), .val (.int p0_2), .val (.int p0_3), .val (.int p0_4), .val (.int (v0_5 p0_0)), .val (.int (v0_12 p0_1)), .val (.int (v0_19 p0_3)), .val (.int (v0_25 p0_4)), .val (.int (j0_71_9 p0_0 p0_1 p0_2 p0_4)), .val (.ref b16), .val (.int (j0_127_s0 p0_0 p0_1 p0_2 p0_4)), .val (.int (j0_141_s0 p0_0 p0_1 p0_2 p0_4))] [(.int (v0_19 p0_3)), (.ref b16)])) rfl (by rw [hml]; rfl) (Steps.refl _) (argsL := [(.int (v0_19 p0_3))]) (rest := []) (lenOf pd_0 rfl) rfl (by show 2 * 0 + _ ≤ _; exact Nat.le_of_eq rfl) (hb hby at_147) (fun _ _ => ⟨rfl, e37, (by decide : 7 + 0 ≤ _), (by decide : 524 + 0 ≤ _)⟩)
    dsimp only [Pt.U, Pt.locs, Pt.cells, Pt.slots] at X44 l44 y44 z44 st44 hQ44
    rw [l44, y44, z44] at X44
    obtain ⟨rv44, rfl, M44, Zh44, PS44, R44⟩ := hQ44
    have N44 := Fr.app N37 M44
    have Ex44 : Exa Z T44.heap b16 "relayout/PositionSet" := own_psE PS44
    replace X44 : Stand p l e room_1 s m #[(.int p0_0), (.int p0_1), (.int p0_2), (.int p0_3), (.int p0_4)] below meth c T44 _ 7 524 := X44
    have pre44 : ∀ t, Steps p.tables e below (T44.setTop (mkF m 150 #[.val (.int p0_0), .val (.int p0_1), .val (.int p0_2), .val (.int p0_3), .val (.int p0_4), .val (.int (v0_5 p0_0)), .val (.int (v0_12 p0_1)), .val (.int (v0_19 p0_3)), .val (.int (v0_25 p0_4)), .val (.int (j0_71_9 p0_0 p0_1 p0_2 p0_4)), .val (.ref b16), .val (.int (j0_127_s0 p0_0 p0_1 p0_2 p0_4)), .val (.int (j0_141_s0 p0_0 p0_1 p0_2 p0_4))] [(.int rv44)])) t → Steps p.tables e below (s₁.setTop (entryFrame m #[(.int p0_0), (.int p0_1), (.int p0_2), (.int p0_3), (.int p0_4)] maxLocals)) t := fun t k => pre43 t (st44.trans k)
    have pre45 : ∀ t, Steps p.tables e below (T44.setTop (mkF m 160 #[.val (.int p0_0), .val (.int p0_1), .val (.int p0_2), .val (.int p0_3), .val (.int p0_4), .val (.int (v0_5 p0_0)), .val (.int (v0_12 p0_1)), .val (.int (v0_19 p0_3)), .val (.int (v0_25 p0_4)), .val (.int (j0_71_9 p0_0 p0_1 p0_2 p0_4)), .val (.ref b16), .val (.int (j0_127_s0 p0_0 p0_1 p0_2 p0_4)), .val (.int (j0_141_s0 p0_0 p0_1 p0_2 p0_4))] [(.int (v0_19 p0_3)), (.int (j0_141_s0 p0_0 p0_1 p0_2 p0_4)), (.int (v0_12 p0_1)), (.int (j0_127_s0 p0_0 p0_1 p0_2 p0_4)), (.int (v0_5 p0_0)), (.int rv44)])) t → Steps p.tables e below (s₁.setTop (entryFrame m #[(.int p0_0), (.int p0_1), (.int p0_2), (.int p0_3), (.int p0_4)] maxLocals)) t := fun t k => pre44 t (by
      refine XS.iload X44.here hx rfl (hb hby at_150) rfl ?_
      show Steps p.tables e below (T44.setTop (mkF m 152 #[.val (.int p0_0), .val (.int p0_1), .val (.int p0_2), .val (.int p0_3), .val (.int p0_4), .val (.int (v0_5 p0_0)), .val (.int (v0_12 p0_1)), .val (.int (v0_19 p0_3)), .val (.int (v0_25 p0_4)), .val (.int (j0_71_9 p0_0 p0_1 p0_2 p0_4)), .val (.ref b16), .val (.int (j0_127_s0 p0_0 p0_1 p0_2 p0_4)), .val (.int (j0_141_s0 p0_0 p0_1 p0_2 p0_4))] [(.int (v0_5 p0_0)), (.int rv44)])) _
      refine XS.iload X44.here hx rfl (hb hby at_152) rfl ?_
      show Steps p.tables e below (T44.setTop (mkF m 154 #[.val (.int p0_0), .val (.int p0_1), .val (.int p0_2), .val (.int p0_3), .val (.int p0_4), .val (.int (v0_5 p0_0)), .val (.int (v0_12 p0_1)), .val (.int (v0_19 p0_3)), .val (.int (v0_25 p0_4)), .val (.int (j0_71_9 p0_0 p0_1 p0_2 p0_4)), .val (.ref b16), .val (.int (j0_127_s0 p0_0 p0_1 p0_2 p0_4)), .val (.int (j0_141_s0 p0_0 p0_1 p0_2 p0_4))] [(.int (j0_127_s0 p0_0 p0_1 p0_2 p0_4)), (.int (v0_5 p0_0)), (.int rv44)])) _
      refine XS.iload X44.here hx rfl (hb hby at_154) rfl ?_
      show Steps p.tables e below (T44.setTop (mkF m 156 #[.val (.int p0_0), .val (.int p0_1), .val (.int p0_2), .val (.int p0_3), .val (.int p0_4), .val (.int (v0_5 p0_0)), .val (.int (v0_12 p0_1)), .val (.int (v0_19 p0_3)), .val (.int (v0_25 p0_4)), .val (.int (j0_71_9 p0_0 p0_1 p0_2 p0_4)), .val (.ref b16), .val (.int (j0_127_s0 p0_0 p0_1 p0_2 p0_4)), .val (.int (j0_141_s0 p0_0 p0_1 p0_2 p0_4))] [(.int (v0_12 p0_1)), (.int (j0_127_s0 p0_0 p0_1 p0_2 p0_4)), (.int (v0_5 p0_0)), (.int rv44)])) _
      refine XS.iload X44.here hx rfl (hb hby at_156) rfl ?_
      show Steps p.tables e below (T44.setTop (mkF m 158 #[.val (.int p0_0), .val (.int p0_1), .val (.int p0_2), .val (.int p0_3), .val (.int p0_4), .val (.int (v0_5 p0_0)), .val (.int (v0_12 p0_1)), .val (.int (v0_19 p0_3)), .val (.int (v0_25 p0_4)), .val (.int (j0_71_9 p0_0 p0_1 p0_2 p0_4)), .val (.ref b16), .val (.int (j0_127_s0 p0_0 p0_1 p0_2 p0_4)), .val (.int (j0_141_s0 p0_0 p0_1 p0_2 p0_4))] [(.int (j0_141_s0 p0_0 p0_1 p0_2 p0_4)), (.int (v0_12 p0_1)), (.int (j0_127_s0 p0_0 p0_1 p0_2 p0_4)), (.int (v0_5 p0_0)), (.int rv44)])) _
      refine XS.iload X44.here hx rfl (hb hby at_158) rfl ?_
      show Steps p.tables e below (T44.setTop (mkF m 160 #[.val (.int p0_0), .val (.int p0_1), .val (.int p0_2), .val (.int p0_3), .val (.int p0_4), .val (.int (v0_5 p0_0)), .val (.int (v0_12 p0_1)), .val (.int (v0_19 p0_3)), .val (.int (v0_25 p0_4)), .val (.int (j0_71_9 p0_0 p0_1 p0_2 p0_4)), .val (.ref b16), .val (.int (j0_127_s0 p0_0 p0_1 p0_2 p0_4)), .val (.int (j0_141_s0 p0_0 p0_1 p0_2 p0_4))] [(.int (v0_19 p0_3)), (.int (j0_141_s0 p0_0 p0_1 p0_2 p0_4)), (.int (v0_12 p0_1)), (.int (j0_127_s0 p0_0 p0_1 p0_2 p0_4)), (.int (v0_5 p0_0)), (.int rv44)])) _
      exact k)
    obtain ⟨_, _, ⟨T46, L46, k46, n46⟩, -, X46, ⟨Lc46, hQ46, l46, y46, z46⟩, st46⟩ := Jvm.LawKit.callS X44 hx (y := (⟨"relayout/PositionSetRemovePinLaw", "expectedNext", "(IZIZI)I"⟩ : MethodName)) hown (mvT hZ (hw _ (List.mem_of_getElem? (i := 39) rfl))) (mvT hZ (hw _ (List.mem_of_getElem? (i := 40) rfl))) (mvT hZ (hw _ (List.mem_of_getElem? (i := 41) rfl))) (mvT hZ (hw _ (List.mem_of_getElem? (i := 42) rfl))) (by decide) (backOf (W := 1) (rm8 l Z a0 hw [] (v0_5 p0_0) (j0_127_s0 p0_0 p0_1 p0_2 p0_4) (v0_12 p0_1) (j0_141_s0 p0_0 p0_1 p0_2 p0_4) (v0_19 p0_3) T44.heap n0 Zh44 ) hZ (hw _ (List.mem_of_getElem? (i := 42) rfl)) (hw _ (List.mem_of_getElem? (i := 41) rfl)) (by decide) (by decide)) (g := (mkF m 160 #[.val (.int p0_0), .val (.int p0_1), .val (.int p0_2), .val (.int p0_3), .val (.int p0_4), .val (.int (v0_5 p0_0)), .val (.int (v0_12 p0_1)), .val (.int (v0_19 p0_3)), .val (.int (v0_25 p0_4)), .val (.int (j0_71_9 p0_0 p0_1 p0_2 p0_4)), .val (.ref b16), .val (.int (j0_127_s0 p0_0 p0_1 p0_2 p0_4)), .val (.int (j0_141_s0 p0_0 p0_1 p0_2 p0_4))] [(.int (v0_19 p0_3)), (.int (j0_141_s0 p0_0 p0_1 p0_2 p0_4)), (.int (v0_12 p0_1)), (.int (j0_127_s0 p0_0 p0_1 p0_2 p0_4)), (.int (v0_5 p0_0)), (.int rv44)])) rfl (by rw [hml]; rfl) (argsL := [(.int (v0_5 p0_0)), (.int (j0_127_s0 p0_0 p0_1 p0_2 p0_4)), (.int (v0_12 p0_1)), (.int (j0_141_s0 p0_0 p0_1 p0_2 p0_4)), (.int (v0_19 p0_3))]) (rest := [(.int rv44)]) (lenOf pd_5 rfl) rfl (by show 2 * 0 + _ ≤ _; exact Nat.le_of_eq rfl) (hb hby at_160) (fun _ _ => ⟨rfl, rfl, (by decide : 7 + 0 ≤ _), (by decide : 524 + 0 ≤ _)⟩)
    dsimp only [Pt.U, Pt.locs, Pt.cells, Pt.slots] at X46 l46 y46 z46 st46 hQ46
    rw [l46, y46, z46] at X46
    obtain ⟨rfl, M46, e46⟩ := hQ46
    have N46 := Fr.app N44 M46
    replace X46 : Stand p l e room_1 s m #[(.int p0_0), (.int p0_1), (.int p0_2), (.int p0_3), (.int p0_4)] below meth c T46 _ 7 524 := X46
    have pre46 : ∀ t, Steps p.tables e below (T46.setTop (mkF m 163 #[.val (.int p0_0), .val (.int p0_1), .val (.int p0_2), .val (.int p0_3), .val (.int p0_4), .val (.int (v0_5 p0_0)), .val (.int (v0_12 p0_1)), .val (.int (v0_19 p0_3)), .val (.int (v0_25 p0_4)), .val (.int (j0_71_9 p0_0 p0_1 p0_2 p0_4)), .val (.ref b16), .val (.int (j0_127_s0 p0_0 p0_1 p0_2 p0_4)), .val (.int (j0_141_s0 p0_0 p0_1 p0_2 p0_4))] [(.int (c0_160 p0_0 p0_1 p0_2 p0_3 p0_4)), (.int rv44)])) t → Steps p.tables e below (s₁.setTop (entryFrame m #[(.int p0_0), (.int p0_1), (.int p0_2), (.int p0_3), (.int p0_4)] maxLocals)) t := fun t k => pre45 t (st46 t k)
    have pre48 : ∀ t, Steps p.tables e below (T46.setTop (mkF m 169 #[.val (.int p0_0), .val (.int p0_1), .val (.int p0_2), .val (.int p0_3), .val (.int p0_4), .val (.int (v0_5 p0_0)), .val (.int (v0_12 p0_1)), .val (.int (v0_19 p0_3)), .val (.int (v0_25 p0_4)), .val (.int (j0_71_9 p0_0 p0_1 p0_2 p0_4)), .val (.ref b16), .val (.int (j0_127_s0 p0_0 p0_1 p0_2 p0_4)), .val (.int (j0_141_s0 p0_0 p0_1 p0_2 p0_4))] [(.int (0 : Int32)), (.ref b16)])) t → Steps p.tables e below (s₁.setTop (entryFrame m #[(.int p0_0), (.int p0_1), (.int p0_2), (.int p0_3), (.int p0_4)] maxLocals)) t := fun t k => pre46 t (by
      refine XS.icmpNo X46.here hx rfl (hb hby at_163) rfl (teq (show rv44 = (c0_160 p0_0 p0_1 p0_2 p0_3 p0_4) from (own_fin1 p0_0 p0_1 p0_2 p0_4 (own_mo p0_3) (own_ml p0_3) R44))).2 ?_
      show Steps p.tables e below (T46.setTop (mkF m 166 #[.val (.int p0_0), .val (.int p0_1), .val (.int p0_2), .val (.int p0_3), .val (.int p0_4), .val (.int (v0_5 p0_0)), .val (.int (v0_12 p0_1)), .val (.int (v0_19 p0_3)), .val (.int (v0_25 p0_4)), .val (.int (j0_71_9 p0_0 p0_1 p0_2 p0_4)), .val (.ref b16), .val (.int (j0_127_s0 p0_0 p0_1 p0_2 p0_4)), .val (.int (j0_141_s0 p0_0 p0_1 p0_2 p0_4))] [])) _
      refine XS.aload X46.here hx rfl (hb hby at_166) rfl rfl ?_
      show Steps p.tables e below (T46.setTop (mkF m 168 #[.val (.int p0_0), .val (.int p0_1), .val (.int p0_2), .val (.int p0_3), .val (.int p0_4), .val (.int (v0_5 p0_0)), .val (.int (v0_12 p0_1)), .val (.int (v0_19 p0_3)), .val (.int (v0_25 p0_4)), .val (.int (j0_71_9 p0_0 p0_1 p0_2 p0_4)), .val (.ref b16), .val (.int (j0_127_s0 p0_0 p0_1 p0_2 p0_4)), .val (.int (j0_141_s0 p0_0 p0_1 p0_2 p0_4))] [(.ref b16)])) _
      refine XS.iconst X46.here hx rfl (hb hby at_168) ?_
      show Steps p.tables e below (T46.setTop (mkF m 169 #[.val (.int p0_0), .val (.int p0_1), .val (.int p0_2), .val (.int p0_3), .val (.int p0_4), .val (.int (v0_5 p0_0)), .val (.int (v0_12 p0_1)), .val (.int (v0_19 p0_3)), .val (.int (v0_25 p0_4)), .val (.int (j0_71_9 p0_0 p0_1 p0_2 p0_4)), .val (.ref b16), .val (.int (j0_127_s0 p0_0 p0_1 p0_2 p0_4)), .val (.int (j0_141_s0 p0_0 p0_1 p0_2 p0_4))] [(.int (0 : Int32)), (.ref b16)])) _
      exact k)
    obtain ⟨cq49, kq49, qa49, qb49, qc49⟩ := isOf hZ e46 Ex44
    obtain ⟨_, _, ⟨T49, L49, k49, n49⟩, -, X49, ⟨Lc49, hQ49, l49, y49, z49⟩, st49⟩ := X46.virtualBack hx (y := (⟨"relayout/PositionSet", "next", "(I)I"⟩ : MethodName)) (z := (⟨"relayout/PositionSet", "next", "(I)I"⟩ : MethodName)) hown (mvT hZ (hw _ (List.mem_of_getElem? (i := 25) rfl))) (mvT hZ (hw _ (List.mem_of_getElem? (i := 26) rfl))) (notFace_of_selects (args := #[]) (mvT hZ (hw _ (List.mem_of_getElem? (i := 28) rfl)))) (mvT hZ (hw _ (List.mem_of_getElem? (i := 28) rfl))) (mvT hZ (hw _ (List.mem_of_getElem? (i := 27) rfl))) (by decide) (backOf (W := 0) (rm5 l Z a0 hw [] b16 (0 : Int32) (max 128 (2 * (max 128 (2 * 1)))) (own_del (own_ins (own_ins (fun _ => False) (own_m p0_0)) (own_m p0_1)) ((j0_71_9 p0_0 p0_1 p0_2 p0_4)).toBitVec.toNat) 0 T44.heap n0 Zh44 PS44 rfl (by decide)) hZ (hw _ (List.mem_of_getElem? (i := 29) rfl)) (hw _ (List.mem_of_getElem? (i := 2) rfl)) (by decide) (by decide)) qa49 qc49 (g := (mkF m 169 #[.val (.int p0_0), .val (.int p0_1), .val (.int p0_2), .val (.int p0_3), .val (.int p0_4), .val (.int (v0_5 p0_0)), .val (.int (v0_12 p0_1)), .val (.int (v0_19 p0_3)), .val (.int (v0_25 p0_4)), .val (.int (j0_71_9 p0_0 p0_1 p0_2 p0_4)), .val (.ref b16), .val (.int (j0_127_s0 p0_0 p0_1 p0_2 p0_4)), .val (.int (j0_141_s0 p0_0 p0_1 p0_2 p0_4))] [(.int (0 : Int32)), (.ref b16)])) rfl (by rw [hml]; rfl) (Steps.refl _) (argsL := [(.int (0 : Int32))]) (rest := []) (lenOf pd_0 rfl) rfl (by show 2 * 0 + _ ≤ _; exact Nat.le_of_eq rfl) (hb hby at_169) (fun _ _ => ⟨rfl, e46, (by decide : 7 + 0 ≤ _), (by decide : 524 + 0 ≤ _)⟩)
    dsimp only [Pt.U, Pt.locs, Pt.cells, Pt.slots] at X49 l49 y49 z49 st49 hQ49
    rw [l49, y49, z49] at X49
    obtain ⟨rv49, rfl, M49, Zh49, PS49, R49⟩ := hQ49
    have N49 := Fr.app N46 M49
    have Ex49 : Exa Z T49.heap b16 "relayout/PositionSet" := own_psE PS49
    replace X49 : Stand p l e room_1 s m #[(.int p0_0), (.int p0_1), (.int p0_2), (.int p0_3), (.int p0_4)] below meth c T49 _ 7 524 := X49
    have pre49 : ∀ t, Steps p.tables e below (T49.setTop (mkF m 172 #[.val (.int p0_0), .val (.int p0_1), .val (.int p0_2), .val (.int p0_3), .val (.int p0_4), .val (.int (v0_5 p0_0)), .val (.int (v0_12 p0_1)), .val (.int (v0_19 p0_3)), .val (.int (v0_25 p0_4)), .val (.int (j0_71_9 p0_0 p0_1 p0_2 p0_4)), .val (.ref b16), .val (.int (j0_127_s0 p0_0 p0_1 p0_2 p0_4)), .val (.int (j0_141_s0 p0_0 p0_1 p0_2 p0_4))] [(.int rv49)])) t → Steps p.tables e below (s₁.setTop (entryFrame m #[(.int p0_0), (.int p0_1), (.int p0_2), (.int p0_3), (.int p0_4)] maxLocals)) t := fun t k => pre48 t (st49.trans k)
    have pre50 : ∀ t, Steps p.tables e below (T49.setTop (mkF m 181 #[.val (.int p0_0), .val (.int p0_1), .val (.int p0_2), .val (.int p0_3), .val (.int p0_4), .val (.int (v0_5 p0_0)), .val (.int (v0_12 p0_1)), .val (.int (v0_19 p0_3)), .val (.int (v0_25 p0_4)), .val (.int (j0_71_9 p0_0 p0_1 p0_2 p0_4)), .val (.ref b16), .val (.int (j0_127_s0 p0_0 p0_1 p0_2 p0_4)), .val (.int (j0_141_s0 p0_0 p0_1 p0_2 p0_4))] [(.int (0 : Int32)), (.int (j0_141_s0 p0_0 p0_1 p0_2 p0_4)), (.int (v0_12 p0_1)), (.int (j0_127_s0 p0_0 p0_1 p0_2 p0_4)), (.int (v0_5 p0_0)), (.int rv49)])) t → Steps p.tables e below (s₁.setTop (entryFrame m #[(.int p0_0), (.int p0_1), (.int p0_2), (.int p0_3), (.int p0_4)] maxLocals)) t := fun t k => pre49 t (by
      refine XS.iload X49.here hx rfl (hb hby at_172) rfl ?_
      show Steps p.tables e below (T49.setTop (mkF m 174 #[.val (.int p0_0), .val (.int p0_1), .val (.int p0_2), .val (.int p0_3), .val (.int p0_4), .val (.int (v0_5 p0_0)), .val (.int (v0_12 p0_1)), .val (.int (v0_19 p0_3)), .val (.int (v0_25 p0_4)), .val (.int (j0_71_9 p0_0 p0_1 p0_2 p0_4)), .val (.ref b16), .val (.int (j0_127_s0 p0_0 p0_1 p0_2 p0_4)), .val (.int (j0_141_s0 p0_0 p0_1 p0_2 p0_4))] [(.int (v0_5 p0_0)), (.int rv49)])) _
      refine XS.iload X49.here hx rfl (hb hby at_174) rfl ?_
      show Steps p.tables e below (T49.setTop (mkF m 176 #[.val (.int p0_0), .val (.int p0_1), .val (.int p0_2), .val (.int p0_3), .val (.int p0_4), .val (.int (v0_5 p0_0)), .val (.int (v0_12 p0_1)), .val (.int (v0_19 p0_3)), .val (.int (v0_25 p0_4)), .val (.int (j0_71_9 p0_0 p0_1 p0_2 p0_4)), .val (.ref b16), .val (.int (j0_127_s0 p0_0 p0_1 p0_2 p0_4)), .val (.int (j0_141_s0 p0_0 p0_1 p0_2 p0_4))] [(.int (j0_127_s0 p0_0 p0_1 p0_2 p0_4)), (.int (v0_5 p0_0)), (.int rv49)])) _
      refine XS.iload X49.here hx rfl (hb hby at_176) rfl ?_
      show Steps p.tables e below (T49.setTop (mkF m 178 #[.val (.int p0_0), .val (.int p0_1), .val (.int p0_2), .val (.int p0_3), .val (.int p0_4), .val (.int (v0_5 p0_0)), .val (.int (v0_12 p0_1)), .val (.int (v0_19 p0_3)), .val (.int (v0_25 p0_4)), .val (.int (j0_71_9 p0_0 p0_1 p0_2 p0_4)), .val (.ref b16), .val (.int (j0_127_s0 p0_0 p0_1 p0_2 p0_4)), .val (.int (j0_141_s0 p0_0 p0_1 p0_2 p0_4))] [(.int (v0_12 p0_1)), (.int (j0_127_s0 p0_0 p0_1 p0_2 p0_4)), (.int (v0_5 p0_0)), (.int rv49)])) _
      refine XS.iload X49.here hx rfl (hb hby at_178) rfl ?_
      show Steps p.tables e below (T49.setTop (mkF m 180 #[.val (.int p0_0), .val (.int p0_1), .val (.int p0_2), .val (.int p0_3), .val (.int p0_4), .val (.int (v0_5 p0_0)), .val (.int (v0_12 p0_1)), .val (.int (v0_19 p0_3)), .val (.int (v0_25 p0_4)), .val (.int (j0_71_9 p0_0 p0_1 p0_2 p0_4)), .val (.ref b16), .val (.int (j0_127_s0 p0_0 p0_1 p0_2 p0_4)), .val (.int (j0_141_s0 p0_0 p0_1 p0_2 p0_4))] [(.int (j0_141_s0 p0_0 p0_1 p0_2 p0_4)), (.int (v0_12 p0_1)), (.int (j0_127_s0 p0_0 p0_1 p0_2 p0_4)), (.int (v0_5 p0_0)), (.int rv49)])) _
      refine XS.iconst X49.here hx rfl (hb hby at_180) ?_
      show Steps p.tables e below (T49.setTop (mkF m 181 #[.val (.int p0_0), .val (.int p0_1), .val (.int p0_2), .val (.int p0_3), .val (.int p0_4), .val (.int (v0_5 p0_0)), .val (.int (v0_12 p0_1)), .val (.int (v0_19 p0_3)), .val (.int (v0_25 p0_4)), .val (.int (j0_71_9 p0_0 p0_1 p0_2 p0_4)), .val (.ref b16), .val (.int (j0_127_s0 p0_0 p0_1 p0_2 p0_4)), .val (.int (j0_141_s0 p0_0 p0_1 p0_2 p0_4))] [(.int (0 : Int32)), (.int (j0_141_s0 p0_0 p0_1 p0_2 p0_4)), (.int (v0_12 p0_1)), (.int (j0_127_s0 p0_0 p0_1 p0_2 p0_4)), (.int (v0_5 p0_0)), (.int rv49)])) _
      exact k)
    obtain ⟨_, _, ⟨T51, L51, k51, n51⟩, -, X51, ⟨Lc51, hQ51, l51, y51, z51⟩, st51⟩ := Jvm.LawKit.callS X49 hx (y := (⟨"relayout/PositionSetRemovePinLaw", "expectedNext", "(IZIZI)I"⟩ : MethodName)) hown (mvT hZ (hw _ (List.mem_of_getElem? (i := 39) rfl))) (mvT hZ (hw _ (List.mem_of_getElem? (i := 40) rfl))) (mvT hZ (hw _ (List.mem_of_getElem? (i := 41) rfl))) (mvT hZ (hw _ (List.mem_of_getElem? (i := 42) rfl))) (by decide) (backOf (W := 1) (rm8 l Z a0 hw [] (v0_5 p0_0) (j0_127_s0 p0_0 p0_1 p0_2 p0_4) (v0_12 p0_1) (j0_141_s0 p0_0 p0_1 p0_2 p0_4) (0 : Int32) T49.heap n0 Zh49 ) hZ (hw _ (List.mem_of_getElem? (i := 42) rfl)) (hw _ (List.mem_of_getElem? (i := 41) rfl)) (by decide) (by decide)) (g := (mkF m 181 #[.val (.int p0_0), .val (.int p0_1), .val (.int p0_2), .val (.int p0_3), .val (.int p0_4), .val (.int (v0_5 p0_0)), .val (.int (v0_12 p0_1)), .val (.int (v0_19 p0_3)), .val (.int (v0_25 p0_4)), .val (.int (j0_71_9 p0_0 p0_1 p0_2 p0_4)), .val (.ref b16), .val (.int (j0_127_s0 p0_0 p0_1 p0_2 p0_4)), .val (.int (j0_141_s0 p0_0 p0_1 p0_2 p0_4))] [(.int (0 : Int32)), (.int (j0_141_s0 p0_0 p0_1 p0_2 p0_4)), (.int (v0_12 p0_1)), (.int (j0_127_s0 p0_0 p0_1 p0_2 p0_4)), (.int (v0_5 p0_0)), (.int rv49)])) rfl (by rw [hml]; rfl) (argsL := [(.int (v0_5 p0_0)), (.int (j0_127_s0 p0_0 p0_1 p0_2 p0_4)), (.int (v0_12 p0_1)), (.int (j0_141_s0 p0_0 p0_1 p0_2 p0_4)), (.int (0 : Int32))]) (rest := [(.int rv49)]) (lenOf pd_5 rfl) rfl (by show 2 * 0 + _ ≤ _; exact Nat.le_of_eq rfl) (hb hby at_181) (fun _ _ => ⟨rfl, rfl, (by decide : 7 + 0 ≤ _), (by decide : 524 + 0 ≤ _)⟩)
    dsimp only [Pt.U, Pt.locs, Pt.cells, Pt.slots] at X51 l51 y51 z51 st51 hQ51
    rw [l51, y51, z51] at X51
    obtain ⟨rfl, M51, e51⟩ := hQ51
    have N51 := Fr.app N49 M51
    replace X51 : Stand p l e room_1 s m #[(.int p0_0), (.int p0_1), (.int p0_2), (.int p0_3), (.int p0_4)] below meth c T51 _ 7 524 := X51
    have pre51 : ∀ t, Steps p.tables e below (T51.setTop (mkF m 184 #[.val (.int p0_0), .val (.int p0_1), .val (.int p0_2), .val (.int p0_3), .val (.int p0_4), .val (.int (v0_5 p0_0)), .val (.int (v0_12 p0_1)), .val (.int (v0_19 p0_3)), .val (.int (v0_25 p0_4)), .val (.int (j0_71_9 p0_0 p0_1 p0_2 p0_4)), .val (.ref b16), .val (.int (j0_127_s0 p0_0 p0_1 p0_2 p0_4)), .val (.int (j0_141_s0 p0_0 p0_1 p0_2 p0_4))] [(.int (c0_181 p0_0 p0_1 p0_2 p0_4)), (.int rv49)])) t → Steps p.tables e below (s₁.setTop (entryFrame m #[(.int p0_0), (.int p0_1), (.int p0_2), (.int p0_3), (.int p0_4)] maxLocals)) t := fun t k => pre50 t (st51 t k)
    have pre53 : ∀ t, Steps p.tables e below (T51.setTop (mkF m 192 #[.val (.int p0_0), .val (.int p0_1), .val (.int p0_2), .val (.int p0_3), .val (.int p0_4), .val (.int (v0_5 p0_0)), .val (.int (v0_12 p0_1)), .val (.int (v0_19 p0_3)), .val (.int (v0_25 p0_4)), .val (.int (j0_71_9 p0_0 p0_1 p0_2 p0_4)), .val (.ref b16), .val (.int (j0_127_s0 p0_0 p0_1 p0_2 p0_4)), .val (.int (j0_141_s0 p0_0 p0_1 p0_2 p0_4))] [(.int (1 : Int32))])) t → Steps p.tables e below (s₁.setTop (entryFrame m #[(.int p0_0), (.int p0_1), (.int p0_2), (.int p0_3), (.int p0_4)] maxLocals)) t := fun t k => pre51 t (by
      refine XS.icmpNo X51.here hx rfl (hb hby at_184) rfl (teq (show rv49 = (c0_181 p0_0 p0_1 p0_2 p0_4) from (own_fin1 p0_0 p0_1 p0_2 p0_4 (pq := (0 : Int32)) (qn := 0) rfl (by decide) R49))).2 ?_
      show Steps p.tables e below (T51.setTop (mkF m 187 #[.val (.int p0_0), .val (.int p0_1), .val (.int p0_2), .val (.int p0_3), .val (.int p0_4), .val (.int (v0_5 p0_0)), .val (.int (v0_12 p0_1)), .val (.int (v0_19 p0_3)), .val (.int (v0_25 p0_4)), .val (.int (j0_71_9 p0_0 p0_1 p0_2 p0_4)), .val (.ref b16), .val (.int (j0_127_s0 p0_0 p0_1 p0_2 p0_4)), .val (.int (j0_141_s0 p0_0 p0_1 p0_2 p0_4))] [])) _
      refine XS.iconst X51.here hx rfl (hb hby at_187) ?_
      show Steps p.tables e below (T51.setTop (mkF m 188 #[.val (.int p0_0), .val (.int p0_1), .val (.int p0_2), .val (.int p0_3), .val (.int p0_4), .val (.int (v0_5 p0_0)), .val (.int (v0_12 p0_1)), .val (.int (v0_19 p0_3)), .val (.int (v0_25 p0_4)), .val (.int (j0_71_9 p0_0 p0_1 p0_2 p0_4)), .val (.ref b16), .val (.int (j0_127_s0 p0_0 p0_1 p0_2 p0_4)), .val (.int (j0_141_s0 p0_0 p0_1 p0_2 p0_4))] [(.int (1 : Int32))])) _
      refine XS.goto X51.here hx rfl (pc0 := 188) (pc' := 192) rfl (hb hby at_188) (by decide) (by decide) ?_
      show Steps p.tables e below (T51.setTop (mkF m 192 #[.val (.int p0_0), .val (.int p0_1), .val (.int p0_2), .val (.int p0_3), .val (.int p0_4), .val (.int (v0_5 p0_0)), .val (.int (v0_12 p0_1)), .val (.int (v0_19 p0_3)), .val (.int (v0_25 p0_4)), .val (.int (j0_71_9 p0_0 p0_1 p0_2 p0_4)), .val (.ref b16), .val (.int (j0_127_s0 p0_0 p0_1 p0_2 p0_4)), .val (.int (j0_141_s0 p0_0 p0_1 p0_2 p0_4))] [(.int (1 : Int32))])) _
      exact k)
    obtain ⟨fs, hr, hrun, hended, hW, hsame⟩ := X51.leave (v := some (.int (1 : Int32))) (fun h => by rw [Bd.returns] at h; cases h) Bd.notSynchronized
    refine ⟨_, _, pre53 _ ?_, hrun, hended, _, _, rfl, ?_, ⟨_, rfl⟩, hW, hsame.mono (by decide) (by decide)⟩
    · show Steps p.tables e below (T51.setTop (mkF m 192 #[.val (.int p0_0), .val (.int p0_1), .val (.int p0_2), .val (.int p0_3), .val (.int p0_4), .val (.int (v0_5 p0_0)), .val (.int (v0_12 p0_1)), .val (.int (v0_19 p0_3)), .val (.int (v0_25 p0_4)), .val (.int (j0_71_9 p0_0 p0_1 p0_2 p0_4)), .val (.ref b16), .val (.int (j0_127_s0 p0_0 p0_1 p0_2 p0_4)), .val (.int (j0_141_s0 p0_0 p0_1 p0_2 p0_4))] [(.int (1 : Int32))])) _
      exact retN X51 hx (t := .boolean) Bd.returns (by simp) (hb hby at_192) hr
    · show Q0 Z p0_0 p0_1 p0_2 p0_3 p0_4 h0 n0 _ T51.heap _
      rw [e51]
      exact ⟨rfl, N51⟩
  · have pre54 : ∀ t, Steps p.tables e below (T26.setTop (mkF m 112 #[.val (.int p0_0), .val (.int p0_1), .val (.int p0_2), .val (.int p0_3), .val (.int p0_4), .val (.int (v0_5 p0_0)), .val (.int (v0_12 p0_1)), .val (.int (v0_19 p0_3)), .val (.int (v0_25 p0_4)), .val (.int (j0_71_9 p0_0 p0_1 p0_2 p0_4)), .val (.ref b16), .unset, .unset] [(.int (j0_71_9 p0_0 p0_1 p0_2 p0_4)), (.ref b16)])) t → Steps p.tables e below (s₁.setTop (entryFrame m #[(.int p0_0), (.int p0_1), (.int p0_2), (.int p0_3), (.int p0_4)] maxLocals)) t := fun t k => pre27 t (by
      refine XS.ifNo X26.here hx rfl (hb hby at_105) rfl ((if0 _ _).trans (feq hc105_28).1) ?_
      show Steps p.tables e below (T26.setTop (mkF m 108 #[.val (.int p0_0), .val (.int p0_1), .val (.int p0_2), .val (.int p0_3), .val (.int p0_4), .val (.int (v0_5 p0_0)), .val (.int (v0_12 p0_1)), .val (.int (v0_19 p0_3)), .val (.int (v0_25 p0_4)), .val (.int (j0_71_9 p0_0 p0_1 p0_2 p0_4)), .val (.ref b16), .unset, .unset] [])) _
      refine XS.aload X26.here hx rfl (hb hby at_108) rfl rfl ?_
      show Steps p.tables e below (T26.setTop (mkF m 110 #[.val (.int p0_0), .val (.int p0_1), .val (.int p0_2), .val (.int p0_3), .val (.int p0_4), .val (.int (v0_5 p0_0)), .val (.int (v0_12 p0_1)), .val (.int (v0_19 p0_3)), .val (.int (v0_25 p0_4)), .val (.int (j0_71_9 p0_0 p0_1 p0_2 p0_4)), .val (.ref b16), .unset, .unset] [(.ref b16)])) _
      refine XS.iload X26.here hx rfl (hb hby at_110) rfl ?_
      show Steps p.tables e below (T26.setTop (mkF m 112 #[.val (.int p0_0), .val (.int p0_1), .val (.int p0_2), .val (.int p0_3), .val (.int p0_4), .val (.int (v0_5 p0_0)), .val (.int (v0_12 p0_1)), .val (.int (v0_19 p0_3)), .val (.int (v0_25 p0_4)), .val (.int (j0_71_9 p0_0 p0_1 p0_2 p0_4)), .val (.ref b16), .unset, .unset] [(.int (j0_71_9 p0_0 p0_1 p0_2 p0_4)), (.ref b16)])) _
      exact k)
    obtain ⟨cq55, kq55, qa55, qb55, qc55⟩ := isOf hZ rfl Ex26
    obtain ⟨_, _, ⟨T55, L55, k55, n55⟩, -, X55, ⟨Lc55, hQ55, l55, y55, z55⟩, st55⟩ := X26.virtualBack hx (y := (⟨"relayout/PositionSet", "remove", "(I)V"⟩ : MethodName)) (z := (⟨"relayout/PositionSet", "remove", "(I)V"⟩ : MethodName)) hown (mvT hZ (hw _ (List.mem_of_getElem? (i := 19) rfl))) (mvT hZ (hw _ (List.mem_of_getElem? (i := 20) rfl))) (notFace_of_selects (args := #[]) (mvT hZ (hw _ (List.mem_of_getElem? (i := 22) rfl)))) (mvT hZ (hw _ (List.mem_of_getElem? (i := 22) rfl))) (mvT hZ (hw _ (List.mem_of_getElem? (i := 21) rfl))) (by decide) (backOf (W := 0) (rm4 l Z a0 hw [] b16 (j0_71_9 p0_0 p0_1 p0_2 p0_4) (max 128 (2 * (max 128 (2 * 1)))) (own_del (own_ins (own_ins (fun _ => False) (own_m p0_0)) (own_m p0_1)) ((j0_71_9 p0_0 p0_1 p0_2 p0_4)).toBitVec.toNat) T26.heap n0 Zh26 g_b16 PS26) hZ (hw _ (List.mem_of_getElem? (i := 23) rfl)) (hw _ (List.mem_of_getElem? (i := 2) rfl)) (by decide) (by decide)) qa55 qc55 (g := (mkF m 112 #[.val (.int p0_0), .val (.int p0_1), .val (.int p0_2), .val (.int p0_3), .val (.int p0_4), .val (.int (v0_5 p0_0)), .val (.int (v0_12 p0_1)), .val (.int (v0_19 p0_3)), .val (.int (v0_25 p0_4)), .val (.int (j0_71_9 p0_0 p0_1 p0_2 p0_4)), .val (.ref b16), .unset, .unset] [(.int (j0_71_9 p0_0 p0_1 p0_2 p0_4)), (.ref b16)])) rfl (by rw [hml]; rfl) (Steps.refl _) (argsL := [(.int (j0_71_9 p0_0 p0_1 p0_2 p0_4))]) (rest := []) (lenOf pd_4 rfl) rfl (by show 2 * 0 + _ ≤ _; exact Nat.le_of_eq rfl) (hb hby at_112) (fun _ _ => ⟨rfl, rfl, (by decide : 7 + 0 ≤ _), (by decide : 524 + 0 ≤ _)⟩)
    dsimp only [Pt.U, Pt.locs, Pt.cells, Pt.slots] at X55 l55 y55 z55 st55 hQ55
    rw [l55, y55, z55] at X55
    obtain ⟨rfl, M55, Zh55, PS55⟩ := hQ55
    have N55 := Fr.app N26 M55
    have Ex55 : Exa Z T55.heap b16 "relayout/PositionSet" := own_psE PS55
    replace X55 : Stand p l e room_1 s m #[(.int p0_0), (.int p0_1), (.int p0_2), (.int p0_3), (.int p0_4)] below meth c T55 _ 7 524 := X55
    have pre55 : ∀ t, Steps p.tables e below (T55.setTop (mkF m 115 #[.val (.int p0_0), .val (.int p0_1), .val (.int p0_2), .val (.int p0_3), .val (.int p0_4), .val (.int (v0_5 p0_0)), .val (.int (v0_12 p0_1)), .val (.int (v0_19 p0_3)), .val (.int (v0_25 p0_4)), .val (.int (j0_71_9 p0_0 p0_1 p0_2 p0_4)), .val (.ref b16), .unset, .unset] [])) t → Steps p.tables e below (s₁.setTop (entryFrame m #[(.int p0_0), (.int p0_1), (.int p0_2), (.int p0_3), (.int p0_4)] maxLocals)) t := fun t k => pre54 t (st55.trans k)
    have pre56 : ∀ t, Steps p.tables e below (T55.setTop (mkF m 119 #[.val (.int p0_0), .val (.int p0_1), .val (.int p0_2), .val (.int p0_3), .val (.int p0_4), .val (.int (v0_5 p0_0)), .val (.int (v0_12 p0_1)), .val (.int (v0_19 p0_3)), .val (.int (v0_25 p0_4)), .val (.int (j0_71_9 p0_0 p0_1 p0_2 p0_4)), .val (.ref b16), .unset, .unset] [(.int (j0_71_9 p0_0 p0_1 p0_2 p0_4)), (.int (v0_5 p0_0))])) t → Steps p.tables e below (s₁.setTop (entryFrame m #[(.int p0_0), (.int p0_1), (.int p0_2), (.int p0_3), (.int p0_4)] maxLocals)) t := fun t k => pre55 t (by
      refine XS.iload X55.here hx rfl (hb hby at_115) rfl ?_
      show Steps p.tables e below (T55.setTop (mkF m 117 #[.val (.int p0_0), .val (.int p0_1), .val (.int p0_2), .val (.int p0_3), .val (.int p0_4), .val (.int (v0_5 p0_0)), .val (.int (v0_12 p0_1)), .val (.int (v0_19 p0_3)), .val (.int (v0_25 p0_4)), .val (.int (j0_71_9 p0_0 p0_1 p0_2 p0_4)), .val (.ref b16), .unset, .unset] [(.int (v0_5 p0_0))])) _
      refine XS.iload X55.here hx rfl (hb hby at_117) rfl ?_
      show Steps p.tables e below (T55.setTop (mkF m 119 #[.val (.int p0_0), .val (.int p0_1), .val (.int p0_2), .val (.int p0_3), .val (.int p0_4), .val (.int (v0_5 p0_0)), .val (.int (v0_12 p0_1)), .val (.int (v0_19 p0_3)), .val (.int (v0_25 p0_4)), .val (.int (j0_71_9 p0_0 p0_1 p0_2 p0_4)), .val (.ref b16), .unset, .unset] [(.int (j0_71_9 p0_0 p0_1 p0_2 p0_4)), (.int (v0_5 p0_0))])) _
      exact k)
    obtain ⟨T57, L57, X57, e57, N57, st57⟩ : ∃ (T' : State) (L' : List Loc), Stand p l e room_1 s m #[(.int p0_0), (.int p0_1), (.int p0_2), (.int p0_3), (.int p0_4)] below meth c T' L' 7 524 ∧ T'.heap = T55.heap ∧ Fr n0 L' ∧ ∀ t, Steps p.tables e below (T'.setTop (mkF m 127 #[.val (.int p0_0), .val (.int p0_1), .val (.int p0_2), .val (.int p0_3), .val (.int p0_4), .val (.int (v0_5 p0_0)), .val (.int (v0_12 p0_1)), .val (.int (v0_19 p0_3)), .val (.int (v0_25 p0_4)), .val (.int (j0_71_9 p0_0 p0_1 p0_2 p0_4)), .val (.ref b16), .unset, .unset] [(.int (j0_127_s0_1 p0_0 p0_1 p0_2 p0_4))])) t → Steps p.tables e below (T55.setTop (mkF m 119 #[.val (.int p0_0), .val (.int p0_1), .val (.int p0_2), .val (.int p0_3), .val (.int p0_4), .val (.int (v0_5 p0_0)), .val (.int (v0_12 p0_1)), .val (.int (v0_19 p0_3)), .val (.int (v0_25 p0_4)), .val (.int (j0_71_9 p0_0 p0_1 p0_2 p0_4)), .val (.ref b16), .unset, .unset] [(.int (j0_71_9 p0_0 p0_1 p0_2 p0_4)), (.int (v0_5 p0_0))])) t := by
      have pre57 : ∀ t, Steps p.tables e below (T55.setTop (mkF m 119 #[.val (.int p0_0), .val (.int p0_1), .val (.int p0_2), .val (.int p0_3), .val (.int p0_4), .val (.int (v0_5 p0_0)), .val (.int (v0_12 p0_1)), .val (.int (v0_19 p0_3)), .val (.int (v0_25 p0_4)), .val (.int (j0_71_9 p0_0 p0_1 p0_2 p0_4)), .val (.ref b16), .unset, .unset] [(.int (j0_71_9 p0_0 p0_1 p0_2 p0_4)), (.int (v0_5 p0_0))])) t → Steps p.tables e below (T55.setTop (mkF m 119 #[.val (.int p0_0), .val (.int p0_1), .val (.int p0_2), .val (.int p0_3), .val (.int p0_4), .val (.int (v0_5 p0_0)), .val (.int (v0_12 p0_1)), .val (.int (v0_19 p0_3)), .val (.int (v0_25 p0_4)), .val (.int (j0_71_9 p0_0 p0_1 p0_2 p0_4)), .val (.ref b16), .unset, .unset] [(.int (j0_71_9 p0_0 p0_1 p0_2 p0_4)), (.int (v0_5 p0_0))])) t := fun t k => k
      by_cases hc119_58 : (v0_5 p0_0) = (j0_71_9 p0_0 p0_1 p0_2 p0_4)
      · have pre59 : ∀ t, Steps p.tables e below (T55.setTop (mkF m 127 #[.val (.int p0_0), .val (.int p0_1), .val (.int p0_2), .val (.int p0_3), .val (.int p0_4), .val (.int (v0_5 p0_0)), .val (.int (v0_12 p0_1)), .val (.int (v0_19 p0_3)), .val (.int (v0_25 p0_4)), .val (.int (j0_71_9 p0_0 p0_1 p0_2 p0_4)), .val (.ref b16), .unset, .unset] [(.int (0 : Int32))])) t → Steps p.tables e below (T55.setTop (mkF m 119 #[.val (.int p0_0), .val (.int p0_1), .val (.int p0_2), .val (.int p0_3), .val (.int p0_4), .val (.int (v0_5 p0_0)), .val (.int (v0_12 p0_1)), .val (.int (v0_19 p0_3)), .val (.int (v0_25 p0_4)), .val (.int (j0_71_9 p0_0 p0_1 p0_2 p0_4)), .val (.ref b16), .unset, .unset] [(.int (j0_71_9 p0_0 p0_1 p0_2 p0_4)), (.int (v0_5 p0_0))])) t := fun t k => pre57 t (by
          refine XS.icmpYes X55.here hx rfl (pc0 := 119) (pc' := 126) rfl (hb hby at_119) rfl (teq hc119_58).1 (by decide) (by decide) ?_
          show Steps p.tables e below (T55.setTop (mkF m 126 #[.val (.int p0_0), .val (.int p0_1), .val (.int p0_2), .val (.int p0_3), .val (.int p0_4), .val (.int (v0_5 p0_0)), .val (.int (v0_12 p0_1)), .val (.int (v0_19 p0_3)), .val (.int (v0_25 p0_4)), .val (.int (j0_71_9 p0_0 p0_1 p0_2 p0_4)), .val (.ref b16), .unset, .unset] [])) _
          refine XS.iconst X55.here hx rfl (hb hby at_126) ?_
          show Steps p.tables e below (T55.setTop (mkF m 127 #[.val (.int p0_0), .val (.int p0_1), .val (.int p0_2), .val (.int p0_3), .val (.int p0_4), .val (.int (v0_5 p0_0)), .val (.int (v0_12 p0_1)), .val (.int (v0_19 p0_3)), .val (.int (v0_25 p0_4)), .val (.int (j0_71_9 p0_0 p0_1 p0_2 p0_4)), .val (.ref b16), .unset, .unset] [(.int (0 : Int32))])) _
          exact k)
        have hj61 : (j0_127_s0_1 p0_0 p0_1 p0_2 p0_4) = (0 : Int32) := by unfold j0_127_s0_1; rw [if_pos hc119_58]
        exact ⟨T55, _, X55, rfl, N55, fun t k => pre59 t (by rw [hj61] at k; exact k)⟩
      · have pre60 : ∀ t, Steps p.tables e below (T55.setTop (mkF m 127 #[.val (.int p0_0), .val (.int p0_1), .val (.int p0_2), .val (.int p0_3), .val (.int p0_4), .val (.int (v0_5 p0_0)), .val (.int (v0_12 p0_1)), .val (.int (v0_19 p0_3)), .val (.int (v0_25 p0_4)), .val (.int (j0_71_9 p0_0 p0_1 p0_2 p0_4)), .val (.ref b16), .unset, .unset] [(.int (1 : Int32))])) t → Steps p.tables e below (T55.setTop (mkF m 119 #[.val (.int p0_0), .val (.int p0_1), .val (.int p0_2), .val (.int p0_3), .val (.int p0_4), .val (.int (v0_5 p0_0)), .val (.int (v0_12 p0_1)), .val (.int (v0_19 p0_3)), .val (.int (v0_25 p0_4)), .val (.int (j0_71_9 p0_0 p0_1 p0_2 p0_4)), .val (.ref b16), .unset, .unset] [(.int (j0_71_9 p0_0 p0_1 p0_2 p0_4)), (.int (v0_5 p0_0))])) t := fun t k => pre57 t (by
          refine XS.icmpNo X55.here hx rfl (hb hby at_119) rfl (feq hc119_58).1 ?_
          show Steps p.tables e below (T55.setTop (mkF m 122 #[.val (.int p0_0), .val (.int p0_1), .val (.int p0_2), .val (.int p0_3), .val (.int p0_4), .val (.int (v0_5 p0_0)), .val (.int (v0_12 p0_1)), .val (.int (v0_19 p0_3)), .val (.int (v0_25 p0_4)), .val (.int (j0_71_9 p0_0 p0_1 p0_2 p0_4)), .val (.ref b16), .unset, .unset] [])) _
          refine XS.iconst X55.here hx rfl (hb hby at_122) ?_
          show Steps p.tables e below (T55.setTop (mkF m 123 #[.val (.int p0_0), .val (.int p0_1), .val (.int p0_2), .val (.int p0_3), .val (.int p0_4), .val (.int (v0_5 p0_0)), .val (.int (v0_12 p0_1)), .val (.int (v0_19 p0_3)), .val (.int (v0_25 p0_4)), .val (.int (j0_71_9 p0_0 p0_1 p0_2 p0_4)), .val (.ref b16), .unset, .unset] [(.int (1 : Int32))])) _
          refine XS.goto X55.here hx rfl (pc0 := 123) (pc' := 127) rfl (hb hby at_123) (by decide) (by decide) ?_
          show Steps p.tables e below (T55.setTop (mkF m 127 #[.val (.int p0_0), .val (.int p0_1), .val (.int p0_2), .val (.int p0_3), .val (.int p0_4), .val (.int (v0_5 p0_0)), .val (.int (v0_12 p0_1)), .val (.int (v0_19 p0_3)), .val (.int (v0_25 p0_4)), .val (.int (j0_71_9 p0_0 p0_1 p0_2 p0_4)), .val (.ref b16), .unset, .unset] [(.int (1 : Int32))])) _
          exact k)
        have hj62 : (j0_127_s0_1 p0_0 p0_1 p0_2 p0_4) = (1 : Int32) := by unfold j0_127_s0_1; rw [if_neg hc119_58]
        exact ⟨T55, _, X55, rfl, N55, fun t k => pre60 t (by rw [hj62] at k; exact k)⟩
    have pre57 : ∀ t, Steps p.tables e below (T57.setTop (mkF m 127 #[.val (.int p0_0), .val (.int p0_1), .val (.int p0_2), .val (.int p0_3), .val (.int p0_4), .val (.int (v0_5 p0_0)), .val (.int (v0_12 p0_1)), .val (.int (v0_19 p0_3)), .val (.int (v0_25 p0_4)), .val (.int (j0_71_9 p0_0 p0_1 p0_2 p0_4)), .val (.ref b16), .unset, .unset] [(.int (j0_127_s0_1 p0_0 p0_1 p0_2 p0_4))])) t → Steps p.tables e below (s₁.setTop (entryFrame m #[(.int p0_0), (.int p0_1), (.int p0_2), (.int p0_3), (.int p0_4)] maxLocals)) t := fun t k => pre56 t (st57 t k)
    have pre63 : ∀ t, Steps p.tables e below (T57.setTop (mkF m 133 #[.val (.int p0_0), .val (.int p0_1), .val (.int p0_2), .val (.int p0_3), .val (.int p0_4), .val (.int (v0_5 p0_0)), .val (.int (v0_12 p0_1)), .val (.int (v0_19 p0_3)), .val (.int (v0_25 p0_4)), .val (.int (j0_71_9 p0_0 p0_1 p0_2 p0_4)), .val (.ref b16), .val (.int (j0_127_s0_1 p0_0 p0_1 p0_2 p0_4)), .unset] [(.int (j0_71_9 p0_0 p0_1 p0_2 p0_4)), (.int (v0_12 p0_1))])) t → Steps p.tables e below (s₁.setTop (entryFrame m #[(.int p0_0), (.int p0_1), (.int p0_2), (.int p0_3), (.int p0_4)] maxLocals)) t := fun t k => pre57 t (by
      refine XS.istore X57.here hx rfl (hb hby at_127) rfl (l' := #[.val (.int p0_0), .val (.int p0_1), .val (.int p0_2), .val (.int p0_3), .val (.int p0_4), .val (.int (v0_5 p0_0)), .val (.int (v0_12 p0_1)), .val (.int (v0_19 p0_3)), .val (.int (v0_25 p0_4)), .val (.int (j0_71_9 p0_0 p0_1 p0_2 p0_4)), .val (.ref b16), .val (.int (j0_127_s0_1 p0_0 p0_1 p0_2 p0_4)), .unset]) rfl ?_
      show Steps p.tables e below (T57.setTop (mkF m 129 #[.val (.int p0_0), .val (.int p0_1), .val (.int p0_2), .val (.int p0_3), .val (.int p0_4), .val (.int (v0_5 p0_0)), .val (.int (v0_12 p0_1)), .val (.int (v0_19 p0_3)), .val (.int (v0_25 p0_4)), .val (.int (j0_71_9 p0_0 p0_1 p0_2 p0_4)), .val (.ref b16), .val (.int (j0_127_s0_1 p0_0 p0_1 p0_2 p0_4)), .unset] [])) _
      refine XS.iload X57.here hx rfl (hb hby at_129) rfl ?_
      show Steps p.tables e below (T57.setTop (mkF m 131 #[.val (.int p0_0), .val (.int p0_1), .val (.int p0_2), .val (.int p0_3), .val (.int p0_4), .val (.int (v0_5 p0_0)), .val (.int (v0_12 p0_1)), .val (.int (v0_19 p0_3)), .val (.int (v0_25 p0_4)), .val (.int (j0_71_9 p0_0 p0_1 p0_2 p0_4)), .val (.ref b16), .val (.int (j0_127_s0_1 p0_0 p0_1 p0_2 p0_4)), .unset] [(.int (v0_12 p0_1))])) _
      refine XS.iload X57.here hx rfl (hb hby at_131) rfl ?_
      show Steps p.tables e below (T57.setTop (mkF m 133 #[.val (.int p0_0), .val (.int p0_1), .val (.int p0_2), .val (.int p0_3), .val (.int p0_4), .val (.int (v0_5 p0_0)), .val (.int (v0_12 p0_1)), .val (.int (v0_19 p0_3)), .val (.int (v0_25 p0_4)), .val (.int (j0_71_9 p0_0 p0_1 p0_2 p0_4)), .val (.ref b16), .val (.int (j0_127_s0_1 p0_0 p0_1 p0_2 p0_4)), .unset] [(.int (j0_71_9 p0_0 p0_1 p0_2 p0_4)), (.int (v0_12 p0_1))])) _
      exact k)
    obtain ⟨T64, L64, X64, e64, N64, st64⟩ : ∃ (T' : State) (L' : List Loc), Stand p l e room_1 s m #[(.int p0_0), (.int p0_1), (.int p0_2), (.int p0_3), (.int p0_4)] below meth c T' L' 7 524 ∧ T'.heap = T55.heap ∧ Fr n0 L' ∧ ∀ t, Steps p.tables e below (T'.setTop (mkF m 141 #[.val (.int p0_0), .val (.int p0_1), .val (.int p0_2), .val (.int p0_3), .val (.int p0_4), .val (.int (v0_5 p0_0)), .val (.int (v0_12 p0_1)), .val (.int (v0_19 p0_3)), .val (.int (v0_25 p0_4)), .val (.int (j0_71_9 p0_0 p0_1 p0_2 p0_4)), .val (.ref b16), .val (.int (j0_127_s0_1 p0_0 p0_1 p0_2 p0_4)), .unset] [(.int (j0_141_s0_1 p0_0 p0_1 p0_2 p0_4))])) t → Steps p.tables e below (T57.setTop (mkF m 133 #[.val (.int p0_0), .val (.int p0_1), .val (.int p0_2), .val (.int p0_3), .val (.int p0_4), .val (.int (v0_5 p0_0)), .val (.int (v0_12 p0_1)), .val (.int (v0_19 p0_3)), .val (.int (v0_25 p0_4)), .val (.int (j0_71_9 p0_0 p0_1 p0_2 p0_4)), .val (.ref b16), .val (.int (j0_127_s0_1 p0_0 p0_1 p0_2 p0_4)), .unset] [(.int (j0_71_9 p0_0 p0_1 p0_2 p0_4)), (.int (v0_12 p0_1))])) t := by
      have pre64 : ∀ t, Steps p.tables e below (T57.setTop (mkF m 133 #[.val (.int p0_0), .val (.int p0_1), .val (.int p0_2), .val (.int p0_3), .val (.int p0_4), .val (.int (v0_5 p0_0)), .val (.int (v0_12 p0_1)), .val (.int (v0_19 p0_3)), .val (.int (v0_25 p0_4)), .val (.int (j0_71_9 p0_0 p0_1 p0_2 p0_4)), .val (.ref b16), .val (.int (j0_127_s0_1 p0_0 p0_1 p0_2 p0_4)), .unset] [(.int (j0_71_9 p0_0 p0_1 p0_2 p0_4)), (.int (v0_12 p0_1))])) t → Steps p.tables e below (T57.setTop (mkF m 133 #[.val (.int p0_0), .val (.int p0_1), .val (.int p0_2), .val (.int p0_3), .val (.int p0_4), .val (.int (v0_5 p0_0)), .val (.int (v0_12 p0_1)), .val (.int (v0_19 p0_3)), .val (.int (v0_25 p0_4)), .val (.int (j0_71_9 p0_0 p0_1 p0_2 p0_4)), .val (.ref b16), .val (.int (j0_127_s0_1 p0_0 p0_1 p0_2 p0_4)), .unset] [(.int (j0_71_9 p0_0 p0_1 p0_2 p0_4)), (.int (v0_12 p0_1))])) t := fun t k => k
      by_cases hc133_65 : (v0_12 p0_1) = (j0_71_9 p0_0 p0_1 p0_2 p0_4)
      · have pre66 : ∀ t, Steps p.tables e below (T57.setTop (mkF m 141 #[.val (.int p0_0), .val (.int p0_1), .val (.int p0_2), .val (.int p0_3), .val (.int p0_4), .val (.int (v0_5 p0_0)), .val (.int (v0_12 p0_1)), .val (.int (v0_19 p0_3)), .val (.int (v0_25 p0_4)), .val (.int (j0_71_9 p0_0 p0_1 p0_2 p0_4)), .val (.ref b16), .val (.int (j0_127_s0_1 p0_0 p0_1 p0_2 p0_4)), .unset] [(.int (0 : Int32))])) t → Steps p.tables e below (T57.setTop (mkF m 133 #[.val (.int p0_0), .val (.int p0_1), .val (.int p0_2), .val (.int p0_3), .val (.int p0_4), .val (.int (v0_5 p0_0)), .val (.int (v0_12 p0_1)), .val (.int (v0_19 p0_3)), .val (.int (v0_25 p0_4)), .val (.int (j0_71_9 p0_0 p0_1 p0_2 p0_4)), .val (.ref b16), .val (.int (j0_127_s0_1 p0_0 p0_1 p0_2 p0_4)), .unset] [(.int (j0_71_9 p0_0 p0_1 p0_2 p0_4)), (.int (v0_12 p0_1))])) t := fun t k => pre64 t (by
          refine XS.icmpYes X57.here hx rfl (pc0 := 133) (pc' := 140) rfl (hb hby at_133) rfl (teq hc133_65).1 (by decide) (by decide) ?_
          show Steps p.tables e below (T57.setTop (mkF m 140 #[.val (.int p0_0), .val (.int p0_1), .val (.int p0_2), .val (.int p0_3), .val (.int p0_4), .val (.int (v0_5 p0_0)), .val (.int (v0_12 p0_1)), .val (.int (v0_19 p0_3)), .val (.int (v0_25 p0_4)), .val (.int (j0_71_9 p0_0 p0_1 p0_2 p0_4)), .val (.ref b16), .val (.int (j0_127_s0_1 p0_0 p0_1 p0_2 p0_4)), .unset] [])) _
          refine XS.iconst X57.here hx rfl (hb hby at_140) ?_
          show Steps p.tables e below (T57.setTop (mkF m 141 #[.val (.int p0_0), .val (.int p0_1), .val (.int p0_2), .val (.int p0_3), .val (.int p0_4), .val (.int (v0_5 p0_0)), .val (.int (v0_12 p0_1)), .val (.int (v0_19 p0_3)), .val (.int (v0_25 p0_4)), .val (.int (j0_71_9 p0_0 p0_1 p0_2 p0_4)), .val (.ref b16), .val (.int (j0_127_s0_1 p0_0 p0_1 p0_2 p0_4)), .unset] [(.int (0 : Int32))])) _
          exact k)
        have hj68 : (j0_141_s0_1 p0_0 p0_1 p0_2 p0_4) = (0 : Int32) := by unfold j0_141_s0_1; rw [if_pos hc133_65]
        exact ⟨T57, _, X57, e57, N57, fun t k => pre66 t (by rw [hj68] at k; exact k)⟩
      · have pre67 : ∀ t, Steps p.tables e below (T57.setTop (mkF m 141 #[.val (.int p0_0), .val (.int p0_1), .val (.int p0_2), .val (.int p0_3), .val (.int p0_4), .val (.int (v0_5 p0_0)), .val (.int (v0_12 p0_1)), .val (.int (v0_19 p0_3)), .val (.int (v0_25 p0_4)), .val (.int (j0_71_9 p0_0 p0_1 p0_2 p0_4)), .val (.ref b16), .val (.int (j0_127_s0_1 p0_0 p0_1 p0_2 p0_4)), .unset] [(.int (1 : Int32))])) t → Steps p.tables e below (T57.setTop (mkF m 133 #[.val (.int p0_0), .val (.int p0_1), .val (.int p0_2), .val (.int p0_3), .val (.int p0_4), .val (.int (v0_5 p0_0)), .val (.int (v0_12 p0_1)), .val (.int (v0_19 p0_3)), .val (.int (v0_25 p0_4)), .val (.int (j0_71_9 p0_0 p0_1 p0_2 p0_4)), .val (.ref b16), .val (.int (j0_127_s0_1 p0_0 p0_1 p0_2 p0_4)), .unset] [(.int (j0_71_9 p0_0 p0_1 p0_2 p0_4)), (.int (v0_12 p0_1))])) t := fun t k => pre64 t (by
          refine XS.icmpNo X57.here hx rfl (hb hby at_133) rfl (feq hc133_65).1 ?_
          show Steps p.tables e below (T57.setTop (mkF m 136 #[.val (.int p0_0), .val (.int p0_1), .val (.int p0_2), .val (.int p0_3), .val (.int p0_4), .val (.int (v0_5 p0_0)), .val (.int (v0_12 p0_1)), .val (.int (v0_19 p0_3)), .val (.int (v0_25 p0_4)), .val (.int (j0_71_9 p0_0 p0_1 p0_2 p0_4)), .val (.ref b16), .val (.int (j0_127_s0_1 p0_0 p0_1 p0_2 p0_4)), .unset] [])) _
          refine XS.iconst X57.here hx rfl (hb hby at_136) ?_
          show Steps p.tables e below (T57.setTop (mkF m 137 #[.val (.int p0_0), .val (.int p0_1), .val (.int p0_2), .val (.int p0_3), .val (.int p0_4), .val (.int (v0_5 p0_0)), .val (.int (v0_12 p0_1)), .val (.int (v0_19 p0_3)), .val (.int (v0_25 p0_4)), .val (.int (j0_71_9 p0_0 p0_1 p0_2 p0_4)), .val (.ref b16), .val (.int (j0_127_s0_1 p0_0 p0_1 p0_2 p0_4)), .unset] [(.int (1 : Int32))])) _
          refine XS.goto X57.here hx rfl (pc0 := 137) (pc' := 141) rfl (hb hby at_137) (by decide) (by decide) ?_
          show Steps p.tables e below (T57.setTop (mkF m 141 #[.val (.int p0_0), .val (.int p0_1), .val (.int p0_2), .val (.int p0_3), .val (.int p0_4), .val (.int (v0_5 p0_0)), .val (.int (v0_12 p0_1)), .val (.int (v0_19 p0_3)), .val (.int (v0_25 p0_4)), .val (.int (j0_71_9 p0_0 p0_1 p0_2 p0_4)), .val (.ref b16), .val (.int (j0_127_s0_1 p0_0 p0_1 p0_2 p0_4)), .unset] [(.int (1 : Int32))])) _
          exact k)
        have hj69 : (j0_141_s0_1 p0_0 p0_1 p0_2 p0_4) = (1 : Int32) := by unfold j0_141_s0_1; rw [if_neg hc133_65]
        exact ⟨T57, _, X57, e57, N57, fun t k => pre67 t (by rw [hj69] at k; exact k)⟩
    have pre64 : ∀ t, Steps p.tables e below (T64.setTop (mkF m 141 #[.val (.int p0_0), .val (.int p0_1), .val (.int p0_2), .val (.int p0_3), .val (.int p0_4), .val (.int (v0_5 p0_0)), .val (.int (v0_12 p0_1)), .val (.int (v0_19 p0_3)), .val (.int (v0_25 p0_4)), .val (.int (j0_71_9 p0_0 p0_1 p0_2 p0_4)), .val (.ref b16), .val (.int (j0_127_s0_1 p0_0 p0_1 p0_2 p0_4)), .unset] [(.int (j0_141_s0_1 p0_0 p0_1 p0_2 p0_4))])) t → Steps p.tables e below (s₁.setTop (entryFrame m #[(.int p0_0), (.int p0_1), (.int p0_2), (.int p0_3), (.int p0_4)] maxLocals)) t := fun t k => pre63 t (st64 t k)
    have pre70 : ∀ t, Steps p.tables e below (T64.setTop (mkF m 147 #[.val (.int p0_0), .val (.int p0_1), .val (.int p0_2), .val (.int p0_3), .val (.int p0_4), .val (.int (v0_5 p0_0)), .val (.int (v0_12 p0_1)), .val (.int (v0_19 p0_3)), .val (.int (v0_25 p0_4)), .val (.int (j0_71_9 p0_0 p0_1 p0_2 p0_4)), .val (.ref b16), .val (.int (j0_127_s0_1 p0_0 p0_1 p0_2 p0_4)), .val (.int (j0_141_s0_1 p0_0 p0_1 p0_2 p0_4))] [(.int (v0_19 p0_3)), (.ref b16)])) t → Steps p.tables e below (s₁.setTop (entryFrame m #[(.int p0_0), (.int p0_1), (.int p0_2), (.int p0_3), (.int p0_4)] maxLocals)) t := fun t k => pre64 t (by
      refine XS.istore X64.here hx rfl (hb hby at_141) rfl (l' := #[.val (.int p0_0), .val (.int p0_1), .val (.int p0_2), .val (.int p0_3), .val (.int p0_4), .val (.int (v0_5 p0_0)), .val (.int (v0_12 p0_1)), .val (.int (v0_19 p0_3)), .val (.int (v0_25 p0_4)), .val (.int (j0_71_9 p0_0 p0_1 p0_2 p0_4)), .val (.ref b16), .val (.int (j0_127_s0_1 p0_0 p0_1 p0_2 p0_4)), .val (.int (j0_141_s0_1 p0_0 p0_1 p0_2 p0_4))]) rfl ?_
      show Steps p.tables e below (T64.setTop (mkF m 143 #[.val (.int p0_0), .val (.int p0_1), .val (.int p0_2), .val (.int p0_3), .val (.int p0_4), .val (.int (v0_5 p0_0)), .val (.int (v0_12 p0_1)), .val (.int (v0_19 p0_3)), .val (.int (v0_25 p0_4)), .val (.int (j0_71_9 p0_0 p0_1 p0_2 p0_4)), .val (.ref b16), .val (.int (j0_127_s0_1 p0_0 p0_1 p0_2 p0_4)), .val (.int (j0_141_s0_1 p0_0 p0_1 p0_2 p0_4))] [])) _
      refine XS.aload X64.here hx rfl (hb hby at_143) rfl rfl ?_
      show Steps p.tables e below (T64.setTop (mkF m 145 #[.val (.int p0_0), .val (.int p0_1), .val (.int p0_2), .val (.int p0_3), .val (.int p0_4), .val (.int (v0_5 p0_0)), .val (.int (v0_12 p0_1)), .val (.int (v0_19 p0_3)), .val (.int (v0_25 p0_4)), .val (.int (j0_71_9 p0_0 p0_1 p0_2 p0_4)), .val (.ref b16), .val (.int (j0_127_s0_1 p0_0 p0_1 p0_2 p0_4)), .val (.int (j0_141_s0_1 p0_0 p0_1 p0_2 p0_4))] [(.ref b16)])) _
      refine XS.iload X64.here hx rfl (hb hby at_145) rfl ?_
      show Steps p.tables e below (T64.setTop (mkF m 147 #[.val (.int p0_0), .val (.int p0_1), .val (.int p0_2), .val (.int p0_3), .val (.int p0_4), .val (.int (v0_5 p0_0)), .val (.int (v0_12 p0_1)), .val (.int (v0_19 p0_3)), .val (.int (v0_25 p0_4)), .val (.int (j0_71_9 p0_0 p0_1 p0_2 p0_4)), .val (.ref b16), .val (.int (j0_127_s0_1 p0_0 p0_1 p0_2 p0_4)), .val (.int (j0_141_s0_1 p0_0 p0_1 p0_2 p0_4))] [(.int (v0_19 p0_3)), (.ref b16)])) _
      exact k)
    obtain ⟨cq71, kq71, qa71, qb71, qc71⟩ := isOf hZ e64 Ex55
    obtain ⟨_, _, ⟨T71, L71, k71, n71⟩, -, X71, ⟨Lc71, hQ71, l71, y71, z71⟩, st71⟩ := X64.virtualBack hx (y := (⟨"relayout/PositionSet", "next", "(I)I"⟩ : MethodName)) (z := (⟨"relayout/PositionSet", "next", "(I)I"⟩ : MethodName)) hown (mvT hZ (hw _ (List.mem_of_getElem? (i := 25) rfl))) (mvT hZ (hw _ (List.mem_of_getElem? (i := 26) rfl))) (notFace_of_selects (args := #[]) (mvT hZ (hw _ (List.mem_of_getElem? (i := 28) rfl)))) (mvT hZ (hw _ (List.mem_of_getElem? (i := 28) rfl))) (mvT hZ (hw _ (List.mem_of_getElem? (i := 27) rfl))) (by decide) (backOf (W := 0) (rm5 l Z a0 hw [] b16 (v0_19 p0_3) (max 128 (2 * (max 128 (2 * 1)))) (own_del (own_del (own_ins (own_ins (fun _ => False) (own_m p0_0)) (own_m p0_1)) ((j0_71_9 p0_0 p0_1 p0_2 p0_4)).toBitVec.toNat) ((j0_71_9 p0_0 p0_1 p0_2 p0_4)).toBitVec.toNat) (own_m p0_3) T55.heap n0 Zh55 PS55 (own_mo p0_3) (own_ml p0_3)) hZ (hw _ (List.mem_of_getElem? (i := 29) rfl)) (hw _ (List.mem_of_getElem? (i := 2) rfl)) (by decide) (by decide)) qa71 qc71 (g := (mkF m 147 #[.val (.int p0_0), .val (.int p0_1), .val (.int p0_2), .val (.int p0_3), .val (.int p0_4), .val (.int (v0_5 p0_0)), .val (.int (v0_12 p0_1)), .val (.int (v0_19 p0_3)), .val (.int (v0_25 p0_4)), .val (.int (j0_71_9 p0_0 p0_1 p0_2 p0_4)), .val (.ref b16), .val (.int (j0_127_s0_1 p0_0 p0_1 p0_2 p0_4)), .val (.int (j0_141_s0_1 p0_0 p0_1 p0_2 p0_4))] [(.int (v0_19 p0_3)), (.ref b16)])) rfl (by rw [hml]; rfl) (Steps.refl _) (argsL := [(.int (v0_19 p0_3))]) (rest := []) (lenOf pd_0 rfl) rfl (by show 2 * 0 + _ ≤ _; exact Nat.le_of_eq rfl) (hb hby at_147) (fun _ _ => ⟨rfl, e64, (by decide : 7 + 0 ≤ _), (by decide : 524 + 0 ≤ _)⟩)
    dsimp only [Pt.U, Pt.locs, Pt.cells, Pt.slots] at X71 l71 y71 z71 st71 hQ71
    rw [l71, y71, z71] at X71
    obtain ⟨rv71, rfl, M71, Zh71, PS71, R71⟩ := hQ71
    have N71 := Fr.app N64 M71
    have Ex71 : Exa Z T71.heap b16 "relayout/PositionSet" := own_psE PS71
    replace X71 : Stand p l e room_1 s m #[(.int p0_0), (.int p0_1), (.int p0_2), (.int p0_3), (.int p0_4)] below meth c T71 _ 7 524 := X71
    have pre71 : ∀ t, Steps p.tables e below (T71.setTop (mkF m 150 #[.val (.int p0_0), .val (.int p0_1), .val (.int p0_2), .val (.int p0_3), .val (.int p0_4), .val (.int (v0_5 p0_0)), .val (.int (v0_12 p0_1)), .val (.int (v0_19 p0_3)), .val (.int (v0_25 p0_4)), .val (.int (j0_71_9 p0_0 p0_1 p0_2 p0_4)), .val (.ref b16), .val (.int (j0_127_s0_1 p0_0 p0_1 p0_2 p0_4)), .val (.int (j0_141_s0_1 p0_0 p0_1 p0_2 p0_4))] [(.int rv71)])) t → Steps p.tables e below (s₁.setTop (entryFrame m #[(.int p0_0), (.int p0_1), (.int p0_2), (.int p0_3), (.int p0_4)] maxLocals)) t := fun t k => pre70 t (st71.trans k)
    have pre72 : ∀ t, Steps p.tables e below (T71.setTop (mkF m 160 #[.val (.int p0_0), .val (.int p0_1), .val (.int p0_2), .val (.int p0_3), .val (.int p0_4), .val (.int (v0_5 p0_0)), .val (.int (v0_12 p0_1)), .val (.int (v0_19 p0_3)), .val (.int (v0_25 p0_4)), .val (.int (j0_71_9 p0_0 p0_1 p0_2 p0_4)), .val (.ref b16), .val (.int (j0_127_s0_1 p0_0 p0_1 p0_2 p0_4)), .val (.int (j0_141_s0_1 p0_0 p0_1 p0_2 p0_4))] [(.int (v0_19 p0_3)), (.int (j0_141_s0_1 p0_0 p0_1 p0_2 p0_4)), (.int (v0_12 p0_1)), (.int (j0_127_s0_1 p0_0 p0_1 p0_2 p0_4)), (.int (v0_5 p0_0)), (.int rv71)])) t → Steps p.tables e below (s₁.setTop (entryFrame m #[(.int p0_0), (.int p0_1), (.int p0_2), (.int p0_3), (.int p0_4)] maxLocals)) t := fun t k => pre71 t (by
      refine XS.iload X71.here hx rfl (hb hby at_150) rfl ?_
      show Steps p.tables e below (T71.setTop (mkF m 152 #[.val (.int p0_0), .val (.int p0_1), .val (.int p0_2), .val (.int p0_3), .val (.int p0_4), .val (.int (v0_5 p0_0)), .val (.int (v0_12 p0_1)), .val (.int (v0_19 p0_3)), .val (.int (v0_25 p0_4)), .val (.int (j0_71_9 p0_0 p0_1 p0_2 p0_4)), .val (.ref b16), .val (.int (j0_127_s0_1 p0_0 p0_1 p0_2 p0_4)), .val (.int (j0_141_s0_1 p0_0 p0_1 p0_2 p0_4))] [(.int (v0_5 p0_0)), (.int rv71)])) _
      refine XS.iload X71.here hx rfl (hb hby at_152) rfl ?_
      show Steps p.tables e below (T71.setTop (mkF m 154 #[.val (.int p0_0), .val (.int p0_1), .val (.int p0_2), .val (.int p0_3), .val (.int p0_4), .val (.int (v0_5 p0_0)), .val (.int (v0_12 p0_1)), .val (.int (v0_19 p0_3)), .val (.int (v0_25 p0_4)), .val (.int (j0_71_9 p0_0 p0_1 p0_2 p0_4)), .val (.ref b16), .val (.int (j0_127_s0_1 p0_0 p0_1 p0_2 p0_4)), .val (.int (j0_141_s0_1 p0_0 p0_1 p0_2 p0_4))] [(.int (j0_127_s0_1 p0_0 p0_1 p0_2 p0_4)), (.int (v0_5 p0_0)), (.int rv71)])) _
      refine XS.iload X71.here hx rfl (hb hby at_154) rfl ?_
      show Steps p.tables e below (T71.setTop (mkF m 156 #[.val (.int p0_0), .val (.int p0_1), .val (.int p0_2), .val (.int p0_3), .val (.int p0_4), .val (.int (v0_5 p0_0)), .val (.int (v0_12 p0_1)), .val (.int (v0_19 p0_3)), .val (.int (v0_25 p0_4)), .val (.int (j0_71_9 p0_0 p0_1 p0_2 p0_4)), .val (.ref b16), .val (.int (j0_127_s0_1 p0_0 p0_1 p0_2 p0_4)), .val (.int (j0_141_s0_1 p0_0 p0_1 p0_2 p0_4))] [(.int (v0_12 p0_1)), (.int (j0_127_s0_1 p0_0 p0_1 p0_2 p0_4)), (.int (v0_5 p0_0)), (.int rv71)])) _
      refine XS.iload X71.here hx rfl (hb hby at_156) rfl ?_
      show Steps p.tables e below (T71.setTop (mkF m 158 #[.val (.int p0_0), .val (.int p0_1), .val (.int p0_2), .val (.int p0_3), .val (.int p0_4), .val (.int (v0_5 p0_0)), .val (.int (v0_12 p0_1)), .val (.int (v0_19 p0_3)), .val (.int (v0_25 p0_4)), .val (.int (j0_71_9 p0_0 p0_1 p0_2 p0_4)), .val (.ref b16), .val (.int (j0_127_s0_1 p0_0 p0_1 p0_2 p0_4)), .val (.int (j0_141_s0_1 p0_0 p0_1 p0_2 p0_4))] [(.int (j0_141_s0_1 p0_0 p0_1 p0_2 p0_4)), (.int (v0_12 p0_1)), (.int (j0_127_s0_1 p0_0 p0_1 p0_2 p0_4)), (.int (v0_5 p0_0)), (.int rv71)])) _
      refine XS.iload X71.here hx rfl (hb hby at_158) rfl ?_
      show Steps p.tables e below (T71.setTop (mkF m 160 #[.val (.int p0_0), .val (.int p0_1), .val (.int p0_2), .val (.int p0_3), .val (.int p0_4), .val (.int (v0_5 p0_0)), .val (.int (v0_12 p0_1)), .val (.int (v0_19 p0_3)), .val (.int (v0_25 p0_4)), .val (.int (j0_71_9 p0_0 p0_1 p0_2 p0_4)), .val (.ref b16), .val (.int (j0_127_s0_1 p0_0 p0_1 p0_2 p0_4)), .val (.int (j0_141_s0_1 p0_0 p0_1 p0_2 p0_4))] [(.int (v0_19 p0_3)), (.int (j0_141_s0_1 p0_0 p0_1 p0_2 p0_4)), (.int (v0_12 p0_1)), (.int (j0_127_s0_1 p0_0 p0_1 p0_2 p0_4)), (.int (v0_5 p0_0)), (.int rv71)])) _
      exact k)
    obtain ⟨_, _, ⟨T73, L73, k73, n73⟩, -, X73, ⟨Lc73, hQ73, l73, y73, z73⟩, st73⟩ := Jvm.LawKit.callS X71 hx (y := (⟨"relayout/PositionSetRemovePinLaw", "expectedNext", "(IZIZI)I"⟩ : MethodName)) hown (mvT hZ (hw _ (List.mem_of_getElem? (i := 39) rfl))) (mvT hZ (hw _ (List.mem_of_getElem? (i := 40) rfl))) (mvT hZ (hw _ (List.mem_of_getElem? (i := 41) rfl))) (mvT hZ (hw _ (List.mem_of_getElem? (i := 42) rfl))) (by decide) (backOf (W := 1) (rm8 l Z a0 hw [] (v0_5 p0_0) (j0_127_s0_1 p0_0 p0_1 p0_2 p0_4) (v0_12 p0_1) (j0_141_s0_1 p0_0 p0_1 p0_2 p0_4) (v0_19 p0_3) T71.heap n0 Zh71 ) hZ (hw _ (List.mem_of_getElem? (i := 42) rfl)) (hw _ (List.mem_of_getElem? (i := 41) rfl)) (by decide) (by decide)) (g := (mkF m 160 #[.val (.int p0_0), .val (.int p0_1), .val (.int p0_2), .val (.int p0_3), .val (.int p0_4), .val (.int (v0_5 p0_0)), .val (.int (v0_12 p0_1)), .val (.int (v0_19 p0_3)), .val (.int (v0_25 p0_4)), .val (.int (j0_71_9 p0_0 p0_1 p0_2 p0_4)), .val (.ref b16), .val (.int (j0_127_s0_1 p0_0 p0_1 p0_2 p0_4)), .val (.int (j0_141_s0_1 p0_0 p0_1 p0_2 p0_4))] [(.int (v0_19 p0_3)), (.int (j0_141_s0_1 p0_0 p0_1 p0_2 p0_4)), (.int (v0_12 p0_1)), (.int (j0_127_s0_1 p0_0 p0_1 p0_2 p0_4)), (.int (v0_5 p0_0)), (.int rv71)])) rfl (by rw [hml]; rfl) (argsL := [(.int (v0_5 p0_0)), (.int (j0_127_s0_1 p0_0 p0_1 p0_2 p0_4)), (.int (v0_12 p0_1)), (.int (j0_141_s0_1 p0_0 p0_1 p0_2 p0_4)), (.int (v0_19 p0_3))]) (rest := [(.int rv71)]) (lenOf pd_5 rfl) rfl (by show 2 * 0 + _ ≤ _; exact Nat.le_of_eq rfl) (hb hby at_160) (fun _ _ => ⟨rfl, rfl, (by decide : 7 + 0 ≤ _), (by decide : 524 + 0 ≤ _)⟩)
    dsimp only [Pt.U, Pt.locs, Pt.cells, Pt.slots] at X73 l73 y73 z73 st73 hQ73
    rw [l73, y73, z73] at X73
    obtain ⟨rfl, M73, e73⟩ := hQ73
    have N73 := Fr.app N71 M73
    replace X73 : Stand p l e room_1 s m #[(.int p0_0), (.int p0_1), (.int p0_2), (.int p0_3), (.int p0_4)] below meth c T73 _ 7 524 := X73
    have pre73 : ∀ t, Steps p.tables e below (T73.setTop (mkF m 163 #[.val (.int p0_0), .val (.int p0_1), .val (.int p0_2), .val (.int p0_3), .val (.int p0_4), .val (.int (v0_5 p0_0)), .val (.int (v0_12 p0_1)), .val (.int (v0_19 p0_3)), .val (.int (v0_25 p0_4)), .val (.int (j0_71_9 p0_0 p0_1 p0_2 p0_4)), .val (.ref b16), .val (.int (j0_127_s0_1 p0_0 p0_1 p0_2 p0_4)), .val (.int (j0_141_s0_1 p0_0 p0_1 p0_2 p0_4))] [(.int (c0_160_1 p0_0 p0_1 p0_2 p0_3 p0_4)), (.int rv71)])) t → Steps p.tables e below (s₁.setTop (entryFrame m #[(.int p0_0), (.int p0_1), (.int p0_2), (.int p0_3), (.int p0_4)] maxLocals)) t := fun t k => pre72 t (st73 t k)
    have pre75 : ∀ t, Steps p.tables e below (T73.setTop (mkF m 169 #[.val (.int p0_0), .val (.int p0_1), .val (.int p0_2), .val (.int p0_3), .val (.int p0_4), .val (.int (v0_5 p0_0)), .val (.int (v0_12 p0_1)), .val (.int (v0_19 p0_3)), .val (.int (v0_25 p0_4)), .val (.int (j0_71_9 p0_0 p0_1 p0_2 p0_4)), .val (.ref b16), .val (.int (j0_127_s0_1 p0_0 p0_1 p0_2 p0_4)), .val (.int (j0_141_s0_1 p0_0 p0_1 p0_2 p0_4))] [(.int (0 : Int32)), (.ref b16)])) t → Steps p.tables e below (s₁.setTop (entryFrame m #[(.int p0_0), (.int p0_1), (.int p0_2), (.int p0_3), (.int p0_4)] maxLocals)) t := fun t k => pre73 t (by
      refine XS.icmpNo X73.here hx rfl (hb hby at_163) rfl (teq (show rv71 = (c0_160_1 p0_0 p0_1 p0_2 p0_3 p0_4) from (own_fin2 p0_0 p0_1 p0_2 p0_4 (own_mo p0_3) (own_ml p0_3) R71))).2 ?_
      show Steps p.tables e below (T73.setTop (mkF m 166 #[.val (.int p0_0), .val (.int p0_1), .val (.int p0_2), .val (.int p0_3), .val (.int p0_4), .val (.int (v0_5 p0_0)), .val (.int (v0_12 p0_1)), .val (.int (v0_19 p0_3)), .val (.int (v0_25 p0_4)), .val (.int (j0_71_9 p0_0 p0_1 p0_2 p0_4)), .val (.ref b16), .val (.int (j0_127_s0_1 p0_0 p0_1 p0_2 p0_4)), .val (.int (j0_141_s0_1 p0_0 p0_1 p0_2 p0_4))] [])) _
      refine XS.aload X73.here hx rfl (hb hby at_166) rfl rfl ?_
      show Steps p.tables e below (T73.setTop (mkF m 168 #[.val (.int p0_0), .val (.int p0_1), .val (.int p0_2), .val (.int p0_3), .val (.int p0_4), .val (.int (v0_5 p0_0)), .val (.int (v0_12 p0_1)), .val (.int (v0_19 p0_3)), .val (.int (v0_25 p0_4)), .val (.int (j0_71_9 p0_0 p0_1 p0_2 p0_4)), .val (.ref b16), .val (.int (j0_127_s0_1 p0_0 p0_1 p0_2 p0_4)), .val (.int (j0_141_s0_1 p0_0 p0_1 p0_2 p0_4))] [(.ref b16)])) _
      refine XS.iconst X73.here hx rfl (hb hby at_168) ?_
      show Steps p.tables e below (T73.setTop (mkF m 169 #[.val (.int p0_0), .val (.int p0_1), .val (.int p0_2), .val (.int p0_3), .val (.int p0_4), .val (.int (v0_5 p0_0)), .val (.int (v0_12 p0_1)), .val (.int (v0_19 p0_3)), .val (.int (v0_25 p0_4)), .val (.int (j0_71_9 p0_0 p0_1 p0_2 p0_4)), .val (.ref b16), .val (.int (j0_127_s0_1 p0_0 p0_1 p0_2 p0_4)), .val (.int (j0_141_s0_1 p0_0 p0_1 p0_2 p0_4))] [(.int (0 : Int32)), (.ref b16)])) _
      exact k)
    obtain ⟨cq76, kq76, qa76, qb76, qc76⟩ := isOf hZ e73 Ex71
    obtain ⟨_, _, ⟨T76, L76, k76, n76⟩, -, X76, ⟨Lc76, hQ76, l76, y76, z76⟩, st76⟩ := X73.virtualBack hx (y := (⟨"relayout/PositionSet", "next", "(I)I"⟩ : MethodName)) (z := (⟨"relayout/PositionSet", "next", "(I)I"⟩ : MethodName)) hown (mvT hZ (hw _ (List.mem_of_getElem? (i := 25) rfl))) (mvT hZ (hw _ (List.mem_of_getElem? (i := 26) rfl))) (notFace_of_selects (args := #[]) (mvT hZ (hw _ (List.mem_of_getElem? (i := 28) rfl)))) (mvT hZ (hw _ (List.mem_of_getElem? (i := 28) rfl))) (mvT hZ (hw _ (List.mem_of_getElem? (i := 27) rfl))) (by decide) (backOf (W := 0) (rm5 l Z a0 hw [] b16 (0 : Int32) (max 128 (2 * (max 128 (2 * 1)))) (own_del (own_del (own_ins (own_ins (fun _ => False) (own_m p0_0)) (own_m p0_1)) ((j0_71_9 p0_0 p0_1 p0_2 p0_4)).toBitVec.toNat) ((j0_71_9 p0_0 p0_1 p0_2 p0_4)).toBitVec.toNat) 0 T71.heap n0 Zh71 PS71 rfl (by decide)) hZ (hw _ (List.mem_of_getElem? (i := 29) rfl)) (hw _ (List.mem_of_getElem? (i := 2) rfl)) (by decide) (by decide)) qa76 qc76 (g := (mkF m 169 #[.val (.int p0_0), .val (.int p0_1), .val (.int p0_2), .val (.int p0_3), .val (.int p0_4), .val (.int (v0_5 p0_0)), .val (.int (v0_12 p0_1)), .val (.int (v0_19 p0_3)), .val (.int (v0_25 p0_4)), .val (.int (j0_71_9 p0_0 p0_1 p0_2 p0_4)), .val (.ref b16), .val (.int (j0_127_s0_1 p0_0 p0_1 p0_2 p0_4)), .val (.int (j0_141_s0_1 p0_0 p0_1 p0_2 p0_4))] [(.int (0 : Int32)), (.ref b16)])) rfl (by rw [hml]; rfl) (Steps.refl _) (argsL := [(.int (0 : Int32))]) (rest := []) (lenOf pd_0 rfl) rfl (by show 2 * 0 + _ ≤ _; exact Nat.le_of_eq rfl) (hb hby at_169) (fun _ _ => ⟨rfl, e73, (by decide : 7 + 0 ≤ _), (by decide : 524 + 0 ≤ _)⟩)
    dsimp only [Pt.U, Pt.locs, Pt.cells, Pt.slots] at X76 l76 y76 z76 st76 hQ76
    rw [l76, y76, z76] at X76
    obtain ⟨rv76, rfl, M76, Zh76, PS76, R76⟩ := hQ76
    have N76 := Fr.app N73 M76
    have Ex76 : Exa Z T76.heap b16 "relayout/PositionSet" := own_psE PS76
    replace X76 : Stand p l e room_1 s m #[(.int p0_0), (.int p0_1), (.int p0_2), (.int p0_3), (.int p0_4)] below meth c T76 _ 7 524 := X76
    have pre76 : ∀ t, Steps p.tables e below (T76.setTop (mkF m 172 #[.val (.int p0_0), .val (.int p0_1), .val (.int p0_2), .val (.int p0_3), .val (.int p0_4), .val (.int (v0_5 p0_0)), .val (.int (v0_12 p0_1)), .val (.int (v0_19 p0_3)), .val (.int (v0_25 p0_4)), .val (.int (j0_71_9 p0_0 p0_1 p0_2 p0_4)), .val (.ref b16), .val (.int (j0_127_s0_1 p0_0 p0_1 p0_2 p0_4)), .val (.int (j0_141_s0_1 p0_0 p0_1 p0_2 p0_4))] [(.int rv76)])) t → Steps p.tables e below (s₁.setTop (entryFrame m #[(.int p0_0), (.int p0_1), (.int p0_2), (.int p0_3), (.int p0_4)] maxLocals)) t := fun t k => pre75 t (st76.trans k)
    have pre77 : ∀ t, Steps p.tables e below (T76.setTop (mkF m 181 #[.val (.int p0_0), .val (.int p0_1), .val (.int p0_2), .val (.int p0_3), .val (.int p0_4), .val (.int (v0_5 p0_0)), .val (.int (v0_12 p0_1)), .val (.int (v0_19 p0_3)), .val (.int (v0_25 p0_4)), .val (.int (j0_71_9 p0_0 p0_1 p0_2 p0_4)), .val (.ref b16), .val (.int (j0_127_s0_1 p0_0 p0_1 p0_2 p0_4)), .val (.int (j0_141_s0_1 p0_0 p0_1 p0_2 p0_4))] [(.int (0 : Int32)), (.int (j0_141_s0_1 p0_0 p0_1 p0_2 p0_4)), (.int (v0_12 p0_1)), (.int (j0_127_s0_1 p0_0 p0_1 p0_2 p0_4)), (.int (v0_5 p0_0)), (.int rv76)])) t → Steps p.tables e below (s₁.setTop (entryFrame m #[(.int p0_0), (.int p0_1), (.int p0_2), (.int p0_3), (.int p0_4)] maxLocals)) t := fun t k => pre76 t (by
      refine XS.iload X76.here hx rfl (hb hby at_172) rfl ?_
      show Steps p.tables e below (T76.setTop (mkF m 174 #[.val (.int p0_0), .val (.int p0_1), .val (.int p0_2), .val (.int p0_3), .val (.int p0_4), .val (.int (v0_5 p0_0)), .val (.int (v0_12 p0_1)), .val (.int (v0_19 p0_3)), .val (.int (v0_25 p0_4)), .val (.int (j0_71_9 p0_0 p0_1 p0_2 p0_4)), .val (.ref b16), .val (.int (j0_127_s0_1 p0_0 p0_1 p0_2 p0_4)), .val (.int (j0_141_s0_1 p0_0 p0_1 p0_2 p0_4))] [(.int (v0_5 p0_0)), (.int rv76)])) _
      refine XS.iload X76.here hx rfl (hb hby at_174) rfl ?_
      show Steps p.tables e below (T76.setTop (mkF m 176 #[.val (.int p0_0), .val (.int p0_1), .val (.int p0_2), .val (.int p0_3), .val (.int p0_4), .val (.int (v0_5 p0_0)), .val (.int (v0_12 p0_1)), .val (.int (v0_19 p0_3)), .val (.int (v0_25 p0_4)), .val (.int (j0_71_9 p0_0 p0_1 p0_2 p0_4)), .val (.ref b16), .val (.int (j0_127_s0_1 p0_0 p0_1 p0_2 p0_4)), .val (.int (j0_141_s0_1 p0_0 p0_1 p0_2 p0_4))] [(.int (j0_127_s0_1 p0_0 p0_1 p0_2 p0_4)), (.int (v0_5 p0_0)), (.int rv76)])) _
      refine XS.iload X76.here hx rfl (hb hby at_176) rfl ?_
      show Steps p.tables e below (T76.setTop (mkF m 178 #[.val (.int p0_0), .val (.int p0_1), .val (.int p0_2), .val (.int p0_3), .val (.int p0_4), .val (.int (v0_5 p0_0)), .val (.int (v0_12 p0_1)), .val (.int (v0_19 p0_3)), .val (.int (v0_25 p0_4)), .val (.int (j0_71_9 p0_0 p0_1 p0_2 p0_4)), .val (.ref b16), .val (.int (j0_127_s0_1 p0_0 p0_1 p0_2 p0_4)), .val (.int (j0_141_s0_1 p0_0 p0_1 p0_2 p0_4))] [(.int (v0_12 p0_1)), (.int (j0_127_s0_1 p0_0 p0_1 p0_2 p0_4)), (.int (v0_5 p0_0)), (.int rv76)])) _
      refine XS.iload X76.here hx rfl (hb hby at_178) rfl ?_
      show Steps p.tables e below (T76.setTop (mkF m 180 #[.val (.int p0_0), .val (.int p0_1), .val (.int p0_2), .val (.int p0_3), .val (.int p0_4), .val (.int (v0_5 p0_0)), .val (.int (v0_12 p0_1)), .val (.int (v0_19 p0_3)), .val (.int (v0_25 p0_4)), .val (.int (j0_71_9 p0_0 p0_1 p0_2 p0_4)), .val (.ref b16), .val (.int (j0_127_s0_1 p0_0 p0_1 p0_2 p0_4)), .val (.int (j0_141_s0_1 p0_0 p0_1 p0_2 p0_4))] [(.int (j0_141_s0_1 p0_0 p0_1 p0_2 p0_4)), (.int (v0_12 p0_1)), (.int (j0_127_s0_1 p0_0 p0_1 p0_2 p0_4)), (.int (v0_5 p0_0)), (.int rv76)])) _
      refine XS.iconst X76.here hx rfl (hb hby at_180) ?_
      show Steps p.tables e below (T76.setTop (mkF m 181 #[.val (.int p0_0), .val (.int p0_1), .val (.int p0_2), .val (.int p0_3), .val (.int p0_4), .val (.int (v0_5 p0_0)), .val (.int (v0_12 p0_1)), .val (.int (v0_19 p0_3)), .val (.int (v0_25 p0_4)), .val (.int (j0_71_9 p0_0 p0_1 p0_2 p0_4)), .val (.ref b16), .val (.int (j0_127_s0_1 p0_0 p0_1 p0_2 p0_4)), .val (.int (j0_141_s0_1 p0_0 p0_1 p0_2 p0_4))] [(.int (0 : Int32)), (.int (j0_141_s0_1 p0_0 p0_1 p0_2 p0_4)), (.int (v0_12 p0_1)), (.int (j0_127_s0_1 p0_0 p0_1 p0_2 p0_4)), (.int (v0_5 p0_0)), (.int rv76)])) _
      exact k)
    obtain ⟨_, _, ⟨T78, L78, k78, n78⟩, -, X78, ⟨Lc78, hQ78, l78, y78, z78⟩, st78⟩ := Jvm.LawKit.callS X76 hx (y := (⟨"relayout/PositionSetRemovePinLaw", "expectedNext", "(IZIZI)I"⟩ : MethodName)) hown (mvT hZ (hw _ (List.mem_of_getElem? (i := 39) rfl))) (mvT hZ (hw _ (List.mem_of_getElem? (i := 40) rfl))) (mvT hZ (hw _ (List.mem_of_getElem? (i := 41) rfl))) (mvT hZ (hw _ (List.mem_of_getElem? (i := 42) rfl))) (by decide) (backOf (W := 1) (rm8 l Z a0 hw [] (v0_5 p0_0) (j0_127_s0_1 p0_0 p0_1 p0_2 p0_4) (v0_12 p0_1) (j0_141_s0_1 p0_0 p0_1 p0_2 p0_4) (0 : Int32) T76.heap n0 Zh76 ) hZ (hw _ (List.mem_of_getElem? (i := 42) rfl)) (hw _ (List.mem_of_getElem? (i := 41) rfl)) (by decide) (by decide)) (g := (mkF m 181 #[.val (.int p0_0), .val (.int p0_1), .val (.int p0_2), .val (.int p0_3), .val (.int p0_4), .val (.int (v0_5 p0_0)), .val (.int (v0_12 p0_1)), .val (.int (v0_19 p0_3)), .val (.int (v0_25 p0_4)), .val (.int (j0_71_9 p0_0 p0_1 p0_2 p0_4)), .val (.ref b16), .val (.int (j0_127_s0_1 p0_0 p0_1 p0_2 p0_4)), .val (.int (j0_141_s0_1 p0_0 p0_1 p0_2 p0_4))] [(.int (0 : Int32)), (.int (j0_141_s0_1 p0_0 p0_1 p0_2 p0_4)), (.int (v0_12 p0_1)), (.int (j0_127_s0_1 p0_0 p0_1 p0_2 p0_4)), (.int (v0_5 p0_0)), (.int rv76)])) rfl (by rw [hml]; rfl) (argsL := [(.int (v0_5 p0_0)), (.int (j0_127_s0_1 p0_0 p0_1 p0_2 p0_4)), (.int (v0_12 p0_1)), (.int (j0_141_s0_1 p0_0 p0_1 p0_2 p0_4)), (.int (0 : Int32))]) (rest := [(.int rv76)]) (lenOf pd_5 rfl) rfl (by show 2 * 0 + _ ≤ _; exact Nat.le_of_eq rfl) (hb hby at_181) (fun _ _ => ⟨rfl, rfl, (by decide : 7 + 0 ≤ _), (by decide : 524 + 0 ≤ _)⟩)
    dsimp only [Pt.U, Pt.locs, Pt.cells, Pt.slots] at X78 l78 y78 z78 st78 hQ78
    rw [l78, y78, z78] at X78
    obtain ⟨rfl, M78, e78⟩ := hQ78
    have N78 := Fr.app N76 M78
    replace X78 : Stand p l e room_1 s m #[(.int p0_0), (.int p0_1), (.int p0_2), (.int p0_3), (.int p0_4)] below meth c T78 _ 7 524 := X78
    have pre78 : ∀ t, Steps p.tables e below (T78.setTop (mkF m 184 #[.val (.int p0_0), .val (.int p0_1), .val (.int p0_2), .val (.int p0_3), .val (.int p0_4), .val (.int (v0_5 p0_0)), .val (.int (v0_12 p0_1)), .val (.int (v0_19 p0_3)), .val (.int (v0_25 p0_4)), .val (.int (j0_71_9 p0_0 p0_1 p0_2 p0_4)), .val (.ref b16), .val (.int (j0_127_s0_1 p0_0 p0_1 p0_2 p0_4)), .val (.int (j0_141_s0_1 p0_0 p0_1 p0_2 p0_4))] [(.int (c0_181_1 p0_0 p0_1 p0_2 p0_4)), (.int rv76)])) t → Steps p.tables e below (s₁.setTop (entryFrame m #[(.int p0_0), (.int p0_1), (.int p0_2), (.int p0_3), (.int p0_4)] maxLocals)) t := fun t k => pre77 t (st78 t k)
    have pre80 : ∀ t, Steps p.tables e below (T78.setTop (mkF m 192 #[.val (.int p0_0), .val (.int p0_1), .val (.int p0_2), .val (.int p0_3), .val (.int p0_4), .val (.int (v0_5 p0_0)), .val (.int (v0_12 p0_1)), .val (.int (v0_19 p0_3)), .val (.int (v0_25 p0_4)), .val (.int (j0_71_9 p0_0 p0_1 p0_2 p0_4)), .val (.ref b16), .val (.int (j0_127_s0_1 p0_0 p0_1 p0_2 p0_4)), .val (.int (j0_141_s0_1 p0_0 p0_1 p0_2 p0_4))] [(.int (1 : Int32))])) t → Steps p.tables e below (s₁.setTop (entryFrame m #[(.int p0_0), (.int p0_1), (.int p0_2), (.int p0_3), (.int p0_4)] maxLocals)) t := fun t k => pre78 t (by
      refine XS.icmpNo X78.here hx rfl (hb hby at_184) rfl (teq (show rv76 = (c0_181_1 p0_0 p0_1 p0_2 p0_4) from (own_fin2 p0_0 p0_1 p0_2 p0_4 (pq := (0 : Int32)) (qn := 0) rfl (by decide) R76))).2 ?_
      show Steps p.tables e below (T78.setTop (mkF m 187 #[.val (.int p0_0), .val (.int p0_1), .val (.int p0_2), .val (.int p0_3), .val (.int p0_4), .val (.int (v0_5 p0_0)), .val (.int (v0_12 p0_1)), .val (.int (v0_19 p0_3)), .val (.int (v0_25 p0_4)), .val (.int (j0_71_9 p0_0 p0_1 p0_2 p0_4)), .val (.ref b16), .val (.int (j0_127_s0_1 p0_0 p0_1 p0_2 p0_4)), .val (.int (j0_141_s0_1 p0_0 p0_1 p0_2 p0_4))] [])) _
      refine XS.iconst X78.here hx rfl (hb hby at_187) ?_
      show Steps p.tables e below (T78.setTop (mkF m 188 #[.val (.int p0_0), .val (.int p0_1), .val (.int p0_2), .val (.int p0_3), .val (.int p0_4), .val (.int (v0_5 p0_0)), .val (.int (v0_12 p0_1)), .val (.int (v0_19 p0_3)), .val (.int (v0_25 p0_4)), .val (.int (j0_71_9 p0_0 p0_1 p0_2 p0_4)), .val (.ref b16), .val (.int (j0_127_s0_1 p0_0 p0_1 p0_2 p0_4)), .val (.int (j0_141_s0_1 p0_0 p0_1 p0_2 p0_4))] [(.int (1 : Int32))])) _
      refine XS.goto X78.here hx rfl (pc0 := 188) (pc' := 192) rfl (hb hby at_188) (by decide) (by decide) ?_
      show Steps p.tables e below (T78.setTop (mkF m 192 #[.val (.int p0_0), .val (.int p0_1), .val (.int p0_2), .val (.int p0_3), .val (.int p0_4), .val (.int (v0_5 p0_0)), .val (.int (v0_12 p0_1)), .val (.int (v0_19 p0_3)), .val (.int (v0_25 p0_4)), .val (.int (j0_71_9 p0_0 p0_1 p0_2 p0_4)), .val (.ref b16), .val (.int (j0_127_s0_1 p0_0 p0_1 p0_2 p0_4)), .val (.int (j0_141_s0_1 p0_0 p0_1 p0_2 p0_4))] [(.int (1 : Int32))])) _
      exact k)
    obtain ⟨fs, hr, hrun, hended, hW, hsame⟩ := X78.leave (v := some (.int (1 : Int32))) (fun h => by rw [Bd.returns] at h; cases h) Bd.notSynchronized
    refine ⟨_, _, pre80 _ ?_, hrun, hended, _, _, rfl, ?_, ⟨_, rfl⟩, hW, hsame.mono (by decide) (by decide)⟩
    · show Steps p.tables e below (T78.setTop (mkF m 192 #[.val (.int p0_0), .val (.int p0_1), .val (.int p0_2), .val (.int p0_3), .val (.int p0_4), .val (.int (v0_5 p0_0)), .val (.int (v0_12 p0_1)), .val (.int (v0_19 p0_3)), .val (.int (v0_25 p0_4)), .val (.int (j0_71_9 p0_0 p0_1 p0_2 p0_4)), .val (.ref b16), .val (.int (j0_127_s0_1 p0_0 p0_1 p0_2 p0_4)), .val (.int (j0_141_s0_1 p0_0 p0_1 p0_2 p0_4))] [(.int (1 : Int32))])) _
      exact retN X78 hx (t := .boolean) Bd.returns (by simp) (hb hby at_192) hr
    · show Q0 Z p0_0 p0_1 p0_2 p0_3 p0_4 h0 n0 _ T78.heap _
      rw [e78]
      exact ⟨rfl, N78⟩
set_option maxRecDepth 65536 in
set_option maxHeartbeats 40000000 in
theorem comes_1 {Post : Tables → Env → Array Value → State → Outcome → State → Prop} (hpost : ∀ tb e args s v u, (limb_1_1.after args s (.returned v) u = true ∧ limb_1_2.after args s (.returned v) u = true ∧ True) → FrameEnd s (.returned v) u (Jvm.fieldLocs frame_1_writes args s ++ Jvm.arrayLocs frame_1_arrays args s ++ Jvm.staticLocs frame_1_statics s) 24 896 → Post tb e args s (.returned v) u) :
    ArmFor flags0 classFile x code maxLocals ret World_1 tables_1 room_1 Calls_1 rest_1 Pre_1 Post := by
  intro l hfl _ _ p e ha hc hk s m args below hf hA hF happ hP
  obtain ⟨hcalls, hrest, hpre⟩ := hP
  obtain ⟨-, -, -, hnamed, -, -, -, hat⟩ := (Spec.applies_iff hf).mp happ
  obtain ⟨hg, hn⟩ := and_e (Cond.before_iff.mp (show (Jvm.Cond.and given_1 narrow_1).before args s = true from hpre))
  obtain ⟨gc, g0⟩ := and_e hg
  obtain ⟨ga0, g1⟩ := and_e g0
  obtain ⟨ga1, g2⟩ := and_e g1
  obtain ⟨ga2, g3⟩ := and_e g2
  obtain ⟨ga3, g4⟩ := and_e g3
  obtain ⟨w0, w1, w2, w3, w4, rfl⟩ : ∃ w0 w1 w2 w3 w4 : Value, args = #[w0, w1, w2, w3, w4] := by
    have hs : args.size = 5 := by simpa [Cond.value, given_1] using gc
    obtain ⟨L⟩ := args
    match L, hs with
    | [w0, w1, w2, w3, w4], _ => exact ⟨w0, w1, w2, w3, w4, rfl⟩
  have hw := fun d (hd : d ∈ tables_1) => atoms_spec (ws := Jvm.Cond.code x code maxLocals ret :: tables_1) hat d (List.mem_cons_of_mem _ hd)
  obtain ⟨i0, ei0⟩ := is_v ga0
  obtain rfl : w0 = (.int i0) := Option.some.inj ei0
  obtain ⟨i1, ei1⟩ := is_v ga1
  obtain rfl : w1 = (.int i1) := Option.some.inj ei1
  obtain ⟨i2, ei2⟩ := is_v ga2
  obtain rfl : w2 = (.int i2) := Option.some.inj ei2
  obtain ⟨i3, ei3⟩ := is_v ga3
  obtain rfl : w3 = (.int i3) := Option.some.inj ei3
  obtain ⟨i4, ei4⟩ := is_v g4
  obtain rfl : w4 = (.int i4) := Option.some.inj ei4
  obtain ⟨n, o, h1, h2, h3, _, L, rfl, ⟨rfl, N⟩, hq⟩ := rm0 l s _ hw tables_1 i0 i1 i2 i3 i4  s.heap s.heap.size (Nat.le_refl _)  p e ha hc hk s m _ below hf ((Spec.applies_iff_loose hf).mp happ).1 ⟨rfl, State.Warmed39.refl s, rfl⟩ trivial
  refine ⟨n, _, h1, h2, h3, hpost _ _ _ _ _ _ ⟨Cond.after_iff.mpr rfl, Cond.after_iff.mpr (eq_i res_at (Term.int_eval (1)) rfl), trivial⟩ ⟨hq.1, hq.2.1, (hq.2.2.sift fun y hy => Or.inr (N y hy)).mono (by decide) (by decide)⟩⟩
theorem main_1_1 : Claimed_1_1 := comes_1 fun _ _ _ _ _ _ h hF => ⟨h.1, hF⟩
theorem main_1_2 : Claimed_1_2 := comes_1 fun _ _ _ _ _ _ h hF => ⟨h.2.1, hF⟩
end Jvm.Pilot.@@N@@
namespace Jvm.Pilot.@@N@@
open Jvm Jvm.ClassFile Sem Op Lib Jvm.Free Jvm.Stand Jvm.Pilot.@@N@@.Jvm.D
/-! MADE BY PROGRAM (witnessworld.py) out of the Statement's table words and the real class files: 20 classes; the members and pool entries that the words name. The judged class is class 1, her method 2. -/
namespace start1
open Jvm.ClassFile
def u (s : String) : CpInfo := .utf8 (stringToUtf16 s)
/-- a pool by its gaps: so many unusable entries, then the entry; so many at the end -/
def gap : Nat → List CpInfo → List CpInfo
  | 0, r => r
  | n + 1, r => .unusable :: gap n r
def poolList (es : List (Nat × CpInfo)) (last : Nat) : List CpInfo := es.foldr (fun e r => gap e.1 (e.2 :: r)) (gap last [])
def pool (es : List (Nat × CpInfo)) (last : Nat) : Array CpInfo := ⟨poolList es last⟩
def fileOf (pool : Array CpInfo) (this : Nat) (attrs : Array Attribute := #[]) (ms : Array MethodInfo := #[]) (fl : Nat := 33) (sup : Nat := 0) (ifs : Array Nat := #[]) (fds : Array FieldInfo := #[]) : ClassFile where
  minorVersion := 0
  majorVersion := 65
  constantPool := pool
  accessFlags := fl
  thisClass := this
  superClass := sup
  interfaces := ifs
  fields := fds
  methods := ms
  attributes := attrs
def plain (name : String) (sup : Option ClassId) : Class where
  name := name
  kind := .ordinary
  loader := none
  accessFlags := 33
  super := sup
  interfaces := #[]
  cf := none
  fields := #[]
  methods := #[]
  instanceTypes := #[]
  staticTypes := #[]
  resolved := #[]
  callSites := []
  init := .initialized
  statics := none
  mirror := none

def pool0 : Array CpInfo := pool [(5, u "<init>"), (0, u "()V"), (1, .class_ 10), (1, u "java/lang/Object"), (85, u "clone"), (0, u "()Ljava/lang/Object;")] 26

def k0c0 : Code := { maxStack := 0, maxLocals := 1, code := object_method_1_code, exceptionTable := #[], attributes := #[] }
def k0m0 : Method := { name := "<init>", desc := "()V", sig := { parameters := [], returnType := none }, accessFlags := 1, code := some k0c0 }
def k0m1 : Method := { name := "clone", desc := "()Ljava/lang/Object;", sig := { parameters := [], returnType := some (.object "java/lang/Object") }, accessFlags := 260, code := none }
/-- java/lang/Object -/
def k0 : Class := { plain "java/lang/Object" none with
  accessFlags := 33
  interfaces := #[]
  cf := some (fileOf pool0 8 #[] #[{ accessFlags := 1, nameIndex := 5, descriptorIndex := 6, attributes := #[] }, { accessFlags := 260, nameIndex := 96, descriptorIndex := 97, attributes := #[] }] 33 0 #[] #[])
  fields := #[]
  methods := #[k0m0, k0m1]
  instanceTypes := #[]
  staticTypes := #[]
  resolved := Array.replicate 124 none
  statics := none }

def pool1 : Array CpInfo := pool [(2, .class_ 4), (0, .nameAndType 5 6), (0, u "java/lang/Object"), (0, u "<init>"), (0, u "()V"), (0, .class_ 8), (0, u "relayout/PositionSet"), (0, .methodref 7 3), (0, .methodref 7 11), (0, .nameAndType 12 13), (0, u "add"), (0, u "(I)V"), (0, .methodref 7 15), (0, .nameAndType 16 13), (0, u "remove"), (0, .methodref 7 18), (0, .nameAndType 19 20), (0, u "next"), (0, u "(I)I"), (0, .methodref 22 23), (0, .class_ 24), (0, .nameAndType 25 26), (0, u "relayout/PositionSetRemovePinLaw"), (0, u "expectedNext"), (0, u "(IZIZI)I"), (3, u "law"), (0, u "(IIIII)Z")] 2

def k1m0 : Method := { name := "<init>", desc := "()V", sig := { parameters := [], returnType := none }, accessFlags := 1, code := none }
def k1c1 : Code := { maxStack := 2, maxLocals := 6, code := method_2_code, exceptionTable := #[], attributes := #[] }
def k1m1 : Method := { name := "expectedNext", desc := "(IZIZI)I", sig := { parameters := [.int, .boolean, .int, .boolean, .int], returnType := some .int }, accessFlags := 10, code := some k1c1 }
def k1c2 : Code := { maxStack := 6, maxLocals := 13, code := code, exceptionTable := #[], attributes := #[] }
def k1m2 : Method := { name := "law", desc := "(IIIII)Z", sig := { parameters := [.int, .int, .int, .int, .int], returnType := some .boolean }, accessFlags := 9, code := some k1c2 }
/-- relayout/PositionSetRemovePinLaw -/
def k1 : Class := { plain "relayout/PositionSetRemovePinLaw" (some 0) with
  accessFlags := 49
  interfaces := #[]
  cf := some (fileOf pool1 22 #[] #[{ accessFlags := 1, nameIndex := 5, descriptorIndex := 6, attributes := #[] }, { accessFlags := 10, nameIndex := 25, descriptorIndex := 26, attributes := #[] }, { accessFlags := 9, nameIndex := 30, descriptorIndex := 31, attributes := #[] }] 49 2 #[] #[])
  fields := #[]
  methods := #[k1m0, k1m1, k1m2]
  instanceTypes := #[]
  staticTypes := #[]
  resolved := Array.replicate 34 none
  statics := none }

def pool2 : Array CpInfo := pool [(1, .methodref 2 3), (0, .class_ 4), (0, .nameAndType 5 6), (0, u "java/lang/Object"), (0, u "<init>"), (0, u "()V"), (0, .fieldref 8 9), (0, .class_ 10), (0, .nameAndType 11 12), (0, u "relayout/PositionSet"), (0, u "words"), (0, u "[J"), (0, .fieldref 8 14), (0, .nameAndType 15 12), (0, u "occupied"), (0, .methodref 17 18), (0, .class_ 19), (0, .nameAndType 20 21), (0, u "java/lang/Math"), (0, u "max"), (0, u "(II)I"), (0, .methodref 23 24), (0, .class_ 25), (0, .nameAndType 26 27), (0, u "java/util/Arrays"), (0, u "copyOf"), (0, u "([JI)[J"), (0, .long 18446744073709551615), (5, .methodref 35 36), (0, .class_ 37), (0, .nameAndType 38 39), (0, u "java/lang/Long"), (0, u "numberOfTrailingZeros"), (0, u "(J)I"), (2, u "add"), (0, u "(I)V"), (1, u "remove"), (1, u "next"), (0, u "(I)I")] 2

def k2c0 : Code := { maxStack := 2, maxLocals := 1, code := prog_24_method_1_code, exceptionTable := #[], attributes := #[] }
def k2m0 : Method := { name := "<init>", desc := "()V", sig := { parameters := [], returnType := none }, accessFlags := 0, code := some k2c0 }
def k2c1 : Code := { maxStack := 7, maxLocals := 4, code := prog_24_method_2_code, exceptionTable := #[], attributes := #[] }
def k2m1 : Method := { name := "add", desc := "(I)V", sig := { parameters := [.int], returnType := none }, accessFlags := 0, code := some k2c1 }
def k2c2 : Code := { maxStack := 8, maxLocals := 3, code := prog_24_method_3_code, exceptionTable := #[], attributes := #[] }
def k2m2 : Method := { name := "remove", desc := "(I)V", sig := { parameters := [.int], returnType := none }, accessFlags := 0, code := some k2c2 }
def k2c3 : Code := { maxStack := 5, maxLocals := 11, code := prog_24_method_5_code, exceptionTable := #[], attributes := #[] }
def k2m3 : Method := { name := "next", desc := "(I)I", sig := { parameters := [.int], returnType := some .int }, accessFlags := 0, code := some k2c3 }
/-- relayout/PositionSet -/
def k2 : Class := { plain "relayout/PositionSet" (some 0) with
  accessFlags := 48
  interfaces := #[]
  cf := some (fileOf pool2 8 #[] #[{ accessFlags := 0, nameIndex := 5, descriptorIndex := 6, attributes := #[] }, { accessFlags := 0, nameIndex := 42, descriptorIndex := 43, attributes := #[] }, { accessFlags := 0, nameIndex := 45, descriptorIndex := 43, attributes := #[] }, { accessFlags := 0, nameIndex := 47, descriptorIndex := 48, attributes := #[] }] 48 2 #[] #[{ accessFlags := 2, nameIndex := 11, descriptorIndex := 12, attributes := #[] }, { accessFlags := 2, nameIndex := 15, descriptorIndex := 12, attributes := #[] }])
  fields := #[{ name := "words", type := (.array .long), accessFlags := 2, slot := 0, constantValue := 0 }, { name := "occupied", type := (.array .long), accessFlags := 2, slot := 1, constantValue := 0 }]
  methods := #[k2m0, k2m1, k2m2, k2m3]
  instanceTypes := #[(.array .long), (.array .long)]
  staticTypes := #[]
  resolved := Array.replicate 51 none
  statics := none }

def pool3 : Array CpInfo := pool [(1, .class_ 2), (0, u "java/io/Serializable"), (0, .class_ 4), (0, u "java/lang/Object")] 2

/-- java/io/Serializable -/
def k3 : Class := { plain "java/io/Serializable" (some 0) with
  accessFlags := 1537
  interfaces := #[]
  cf := some (fileOf pool3 1 #[] #[] 1537 3 #[] #[])
  fields := #[]
  methods := #[]
  instanceTypes := #[]
  staticTypes := #[]
  resolved := Array.replicate 7 none
  statics := none }

def pool4 : Array CpInfo := pool [(2, .class_ 4), (1, u "java/lang/Object"), (0, u "<init>"), (0, u "()V"), (1, .class_ 10), (1, u "java/lang/Number"), (2, .class_ 14), (0, u "java/io/Serializable"), (0, u "serialVersionUID"), (0, u "J")] 20

def k4m0 : Method := { name := "<init>", desc := "()V", sig := { parameters := [], returnType := none }, accessFlags := 1, code := none }
/-- java/lang/Number -/
def k4 : Class := { plain "java/lang/Number" (some 0) with
  accessFlags := 1057
  interfaces := #[3]
  cf := some (fileOf pool4 8 #[] #[{ accessFlags := 1, nameIndex := 5, descriptorIndex := 6, attributes := #[] }] 1057 2 #[13] #[{ accessFlags := 26, nameIndex := 15, descriptorIndex := 16, attributes := #[] }])
  fields := #[{ name := "serialVersionUID", type := .long, accessFlags := 26, slot := 0, constantValue := 0 }]
  methods := #[k4m0]
  instanceTypes := #[]
  staticTypes := #[.long]
  resolved := Array.replicate 37 none
  statics := none }

def pool5 : Array CpInfo := pool [(1, .class_ 2), (0, u "java/lang/Comparable"), (0, .class_ 4), (0, u "java/lang/Object")] 7

/-- java/lang/Comparable -/
def k5 : Class := { plain "java/lang/Comparable" (some 0) with
  accessFlags := 1537
  interfaces := #[]
  cf := some (fileOf pool5 1 #[] #[] 1537 3 #[] #[])
  fields := #[]
  methods := #[]
  instanceTypes := #[]
  staticTypes := #[]
  resolved := Array.replicate 12 none
  statics := none }

def pool6 : Array CpInfo := pool [(1, .class_ 2), (0, u "java/lang/constant/Constable"), (0, .class_ 4), (0, u "java/lang/Object")] 6

/-- java/lang/constant/Constable -/
def k6 : Class := { plain "java/lang/constant/Constable" (some 0) with
  accessFlags := 1537
  interfaces := #[]
  cf := some (fileOf pool6 1 #[] #[] 1537 3 #[] #[])
  fields := #[]
  methods := #[]
  instanceTypes := #[]
  staticTypes := #[]
  resolved := Array.replicate 11 none
  statics := none }

def pool7 : Array CpInfo := pool [(1, .class_ 2), (0, u "java/lang/constant/ConstantDesc"), (0, .class_ 4), (0, u "java/lang/Object")] 32

/-- java/lang/constant/ConstantDesc -/
def k7 : Class := { plain "java/lang/constant/ConstantDesc" (some 0) with
  accessFlags := 1537
  interfaces := #[]
  cf := some (fileOf pool7 1 #[] #[] 1537 3 #[] #[])
  fields := #[]
  methods := #[]
  instanceTypes := #[]
  staticTypes := #[]
  resolved := Array.replicate 37 none
  statics := none }

def pool8 : Array CpInfo := pool [(1, .class_ 2), (0, u "java/lang/Long"), (15, .class_ 20), (1, u "java/lang/Integer"), (80, u "(J)I"), (133, .class_ 237), (1, u "java/lang/Long$LongCache"), (33, .class_ 272), (0, u "java/lang/Number"), (2, u "value"), (0, u "J"), (33, u "(I)I"), (0, .methodref 18 312), (0, .nameAndType 313 310), (0, u "numberOfTrailingZeros"), (47, u "TYPE"), (0, u "Ljava/lang/Class;"), (0, .class_ 364), (0, u "java/lang/Comparable"), (0, .class_ 366), (0, u "java/lang/constant/Constable"), (0, .class_ 368), (0, u "java/lang/constant/ConstantDesc"), (0, u "MIN_VALUE"), (1, u "MAX_VALUE"), (4, u "SIZE"), (0, u "I"), (1, u "BYTES"), (1, u "serialVersionUID")] 142

def k8c0 : Code := { maxStack := 4, maxLocals := 3, code := jdk_35_method_49_code, exceptionTable := #[], attributes := #[] }
def k8m0 : Method := { name := "numberOfTrailingZeros", desc := "(J)I", sig := { parameters := [.long], returnType := some .int }, accessFlags := 9, code := some k8c0 }
/-- java/lang/Long -/
def k8 : Class := { plain "java/lang/Long" (some 4) with
  accessFlags := 49
  interfaces := #[5, 6, 7]
  cf := some (fileOf pool8 1 #[.nestMembers #[235]] #[{ accessFlags := 9, nameIndex := 313, descriptorIndex := 101, attributes := #[] }] 49 271 #[363, 365, 367] #[{ accessFlags := 25, nameIndex := 369, descriptorIndex := 276, attributes := #[] }, { accessFlags := 25, nameIndex := 371, descriptorIndex := 276, attributes := #[] }, { accessFlags := 25, nameIndex := 361, descriptorIndex := 362, attributes := #[] }, { accessFlags := 18, nameIndex := 275, descriptorIndex := 276, attributes := #[] }, { accessFlags := 25, nameIndex := 376, descriptorIndex := 377, attributes := #[] }, { accessFlags := 25, nameIndex := 379, descriptorIndex := 377, attributes := #[] }, { accessFlags := 26, nameIndex := 381, descriptorIndex := 276, attributes := #[] }])
  fields := #[{ name := "MIN_VALUE", type := .long, accessFlags := 25, slot := 0, constantValue := 0 }, { name := "MAX_VALUE", type := .long, accessFlags := 25, slot := 1, constantValue := 0 }, { name := "TYPE", type := (.object "java/lang/Class"), accessFlags := 25, slot := 2, constantValue := 0 }, { name := "value", type := .long, accessFlags := 18, slot := 0, constantValue := 0 }, { name := "SIZE", type := .int, accessFlags := 25, slot := 3, constantValue := 0 }, { name := "BYTES", type := .int, accessFlags := 25, slot := 4, constantValue := 0 }, { name := "serialVersionUID", type := .long, accessFlags := 26, slot := 5, constantValue := 0 }]
  methods := #[k8m0]
  instanceTypes := #[.long]
  staticTypes := #[.long, .long, (.object "java/lang/Class"), .int, .int, .long]
  resolved := Array.replicate 524 none
  statics := none }

def pool9 : Array CpInfo := pool [(1, .class_ 2), (0, u "java/lang/Integer"), (16, u "digits"), (0, u "[C"), (33, u "(I)I"), (30, u "DigitOnes"), (0, u "[B"), (2, u "DigitTens"), (99, .class_ 190), (0, u "java/lang/Integer$IntegerCache"), (3, u "I"), (8, .class_ 204), (0, u "java/lang/Number"), (2, u "value"), (56, .integer 65536), (37, u "TYPE"), (0, u "Ljava/lang/Class;"), (0, .class_ 305), (0, u "java/lang/Comparable"), (0, .class_ 307), (0, u "java/lang/constant/Constable"), (0, .class_ 309), (0, u "java/lang/constant/ConstantDesc"), (0, u "MIN_VALUE"), (1, u "MAX_VALUE"), (3, u "SIZE"), (1, u "BYTES"), (1, u "serialVersionUID"), (0, u "J"), (84, u "numberOfTrailingZeros")] 46

def k9c0 : Code := { maxStack := 3, maxLocals := 2, code := jdk_33_method_48_code, exceptionTable := #[], attributes := #[] }
def k9m0 : Method := { name := "numberOfTrailingZeros", desc := "(I)I", sig := { parameters := [.int], returnType := some .int }, accessFlags := 9, code := some k9c0 }
/-- java/lang/Integer -/
def k9 : Class := { plain "java/lang/Integer" (some 4) with
  accessFlags := 49
  interfaces := #[5, 6, 7]
  cf := some (fileOf pool9 1 #[.nestMembers #[189]] #[{ accessFlags := 9, nameIndex := 406, descriptorIndex := 54, attributes := #[] }] 49 203 #[304, 306, 308] #[{ accessFlags := 25, nameIndex := 310, descriptorIndex := 194, attributes := #[] }, { accessFlags := 25, nameIndex := 312, descriptorIndex := 194, attributes := #[] }, { accessFlags := 25, nameIndex := 302, descriptorIndex := 303, attributes := #[] }, { accessFlags := 24, nameIndex := 19, descriptorIndex := 20, attributes := #[] }, { accessFlags := 24, nameIndex := 89, descriptorIndex := 86, attributes := #[] }, { accessFlags := 24, nameIndex := 85, descriptorIndex := 86, attributes := #[] }, { accessFlags := 18, nameIndex := 207, descriptorIndex := 194, attributes := #[] }, { accessFlags := 25, nameIndex := 316, descriptorIndex := 194, attributes := #[] }, { accessFlags := 25, nameIndex := 318, descriptorIndex := 194, attributes := #[] }, { accessFlags := 26, nameIndex := 320, descriptorIndex := 321, attributes := #[] }])
  fields := #[{ name := "MIN_VALUE", type := .int, accessFlags := 25, slot := 0, constantValue := 0 }, { name := "MAX_VALUE", type := .int, accessFlags := 25, slot := 1, constantValue := 0 }, { name := "TYPE", type := (.object "java/lang/Class"), accessFlags := 25, slot := 2, constantValue := 0 }, { name := "digits", type := (.array .char), accessFlags := 24, slot := 3, constantValue := 0 }, { name := "DigitTens", type := (.array .byte), accessFlags := 24, slot := 4, constantValue := 0 }, { name := "DigitOnes", type := (.array .byte), accessFlags := 24, slot := 5, constantValue := 0 }, { name := "value", type := .int, accessFlags := 18, slot := 0, constantValue := 0 }, { name := "SIZE", type := .int, accessFlags := 25, slot := 6, constantValue := 0 }, { name := "BYTES", type := .int, accessFlags := 25, slot := 7, constantValue := 0 }, { name := "serialVersionUID", type := .long, accessFlags := 26, slot := 8, constantValue := 0 }]
  methods := #[k9m0]
  instanceTypes := #[.int]
  staticTypes := #[.int, .int, (.object "java/lang/Class"), (.array .char), (.array .byte), (.array .byte), .int, .int, .long]
  resolved := Array.replicate 453 none
  statics := none }

def pool10 : Array CpInfo := pool [(1, .class_ 2), (0, u "java/lang/Math"), (1, .class_ 6), (1, u "java/lang/Object"), (0, u "<init>"), (0, u "()V"), (89, .class_ 100), (1, u "java/lang/Math$RandomNumberGeneratorHolder"), (71, u "negativeZeroFloatBits"), (0, u "J"), (2, u "negativeZeroDoubleBits"), (21, u "max"), (2, u "min"), (43, u "$assertionsDisabled"), (0, u "Z"), (88, u "(II)I"), (2, u "twoToTheDoubleScaleDown"), (0, u "D"), (4, u "twoToTheDoubleScaleUp"), (9, u "E"), (3, u "PI"), (2, u "TAU"), (2, u "DEGREES_TO_RADIANS"), (0, u "RADIANS_TO_DEGREES")] 94

def k10m0 : Method := { name := "<init>", desc := "()V", sig := { parameters := [], returnType := none }, accessFlags := 2, code := none }
def k10c1 : Code := { maxStack := 2, maxLocals := 2, code := jdk_29_method_65_code, exceptionTable := #[], attributes := #[] }
def k10m1 : Method := { name := "max", desc := "(II)I", sig := { parameters := [.int, .int], returnType := some .int }, accessFlags := 9, code := some k10c1 }
def k10c2 : Code := { maxStack := 2, maxLocals := 2, code := jdk_29_method_69_code, exceptionTable := #[], attributes := #[] }
def k10m2 : Method := { name := "min", desc := "(II)I", sig := { parameters := [.int, .int], returnType := some .int }, accessFlags := 9, code := some k10c2 }
/-- java/lang/Math -/
def k10 : Class := { plain "java/lang/Math" (some 0) with
  accessFlags := 49
  interfaces := #[]
  cf := some (fileOf pool10 1 #[.nestMembers #[98]] #[{ accessFlags := 2, nameIndex := 7, descriptorIndex := 8, attributes := #[] }, { accessFlags := 9, nameIndex := 198, descriptorIndex := 335, attributes := #[] }, { accessFlags := 9, nameIndex := 201, descriptorIndex := 335, attributes := #[] }] 49 4 #[] #[{ accessFlags := 25, nameIndex := 354, descriptorIndex := 339, attributes := #[] }, { accessFlags := 25, nameIndex := 358, descriptorIndex := 339, attributes := #[] }, { accessFlags := 25, nameIndex := 361, descriptorIndex := 339, attributes := #[] }, { accessFlags := 26, nameIndex := 364, descriptorIndex := 339, attributes := #[] }, { accessFlags := 26, nameIndex := 365, descriptorIndex := 339, attributes := #[] }, { accessFlags := 26, nameIndex := 172, descriptorIndex := 173, attributes := #[] }, { accessFlags := 26, nameIndex := 176, descriptorIndex := 173, attributes := #[] }, { accessFlags := 8, nameIndex := 344, descriptorIndex := 339, attributes := #[] }, { accessFlags := 8, nameIndex := 338, descriptorIndex := 339, attributes := #[] }, { accessFlags := 4120, nameIndex := 245, descriptorIndex := 246, attributes := #[] }])
  fields := #[{ name := "E", type := .double, accessFlags := 25, slot := 0, constantValue := 0 }, { name := "PI", type := .double, accessFlags := 25, slot := 1, constantValue := 0 }, { name := "TAU", type := .double, accessFlags := 25, slot := 2, constantValue := 0 }, { name := "DEGREES_TO_RADIANS", type := .double, accessFlags := 26, slot := 3, constantValue := 0 }, { name := "RADIANS_TO_DEGREES", type := .double, accessFlags := 26, slot := 4, constantValue := 0 }, { name := "negativeZeroFloatBits", type := .long, accessFlags := 26, slot := 5, constantValue := 0 }, { name := "negativeZeroDoubleBits", type := .long, accessFlags := 26, slot := 6, constantValue := 0 }, { name := "twoToTheDoubleScaleUp", type := .double, accessFlags := 8, slot := 7, constantValue := 0 }, { name := "twoToTheDoubleScaleDown", type := .double, accessFlags := 8, slot := 8, constantValue := 0 }, { name := "$assertionsDisabled", type := .boolean, accessFlags := 4120, slot := 9, constantValue := 0 }]
  methods := #[k10m0, k10m1, k10m2]
  instanceTypes := #[]
  staticTypes := #[.double, .double, .double, .double, .double, .long, .long, .double, .double, .boolean]
  resolved := Array.replicate 460 none
  statics := none }

def pool11 : Array CpInfo := pool [(2, .class_ 4), (1, u "java/lang/Object"), (0, u "<init>"), (0, u "()V"), (7, .class_ 16), (1, u "java/util/Arrays"), (57, .class_ 76), (1, u "java/util/Arrays$NaturalOrder"), (32, u "()Ljava/lang/Object;"), (3, .class_ 115), (1, u "java/util/Arrays$LegacyMergeSort"), (1, u "Z"), (10, .nameAndType 129 109), (0, u "clone"), (20, .methodref 151 152), (0, .class_ 153), (0, .nameAndType 154 155), (0, u "java/lang/System"), (0, u "arraycopy"), (0, u "(Ljava/lang/Object;ILjava/lang/Object;II)V"), (146, u "copyOf"), (1, .methodref 305 306), (0, .class_ 307), (0, .nameAndType 308 309), (0, u "java/lang/Math"), (0, u "min"), (0, u "(II)I"), (9, .methodref 320 128), (0, .class_ 321), (0, u "[J"), (53, .class_ 376), (0, u "java/util/Arrays$ArrayList"), (68, u "$assertionsDisabled"), (269, u "MIN_ARRAY_SORT_GRAN"), (0, u "I"), (2, u "INSERTIONSORT_THRESHOLD"), (152, u "([JI)[J"), (102, .class_ 976), (0, u "java/util/Arrays$ArrayItr")] 52

def k11m0 : Method := { name := "<init>", desc := "()V", sig := { parameters := [], returnType := none }, accessFlags := 2, code := none }
def k11c1 : Code := { maxStack := 6, maxLocals := 3, code := jdk_65_method_124_code, exceptionTable := #[], attributes := #[] }
def k11m1 : Method := { name := "copyOf", desc := "([JI)[J", sig := { parameters := [(.array .long), .int], returnType := some (.array .long) }, accessFlags := 9, code := some k11c1 }
/-- java/util/Arrays -/
def k11 : Class := { plain "java/util/Arrays" (some 0) with
  accessFlags := 49
  interfaces := #[]
  cf := some (fileOf pool11 14 #[.nestMembers #[975, 375, 113, 74]] #[{ accessFlags := 2, nameIndex := 5, descriptorIndex := 6, attributes := #[] }, { accessFlags := 9, nameIndex := 302, descriptorIndex := 872, attributes := #[] }] 49 2 #[] #[{ accessFlags := 26, nameIndex := 715, descriptorIndex := 716, attributes := #[] }, { accessFlags := 26, nameIndex := 719, descriptorIndex := 716, attributes := #[] }, { accessFlags := 4120, nameIndex := 445, descriptorIndex := 117, attributes := #[] }])
  fields := #[{ name := "MIN_ARRAY_SORT_GRAN", type := .int, accessFlags := 26, slot := 0, constantValue := 0 }, { name := "INSERTIONSORT_THRESHOLD", type := .int, accessFlags := 26, slot := 1, constantValue := 0 }, { name := "$assertionsDisabled", type := .boolean, accessFlags := 4120, slot := 2, constantValue := 0 }]
  methods := #[k11m0, k11m1]
  instanceTypes := #[]
  staticTypes := #[.int, .int, .boolean]
  resolved := Array.replicate 1029 none
  statics := none }

def pool12 : Array CpInfo := pool [(2, .class_ 4), (1, u "java/lang/Object"), (0, u "<init>"), (0, u "()V"), (1, .class_ 10), (1, u "java/lang/System"), (0, u "allowSecurityManager"), (0, u "I"), (16, u "cons"), (0, u "Ljava/io/Console;"), (77, .class_ 110), (1, u "java/lang/System$CallersHolder"), (43, u "initialErrStream"), (0, u "Ljava/io/PrintStream;"), (19, u "security"), (0, u "Ljava/lang/SecurityManager;"), (31, .class_ 209), (0, u "java/lang/System$1"), (7, u "props"), (0, u "Ljava/util/Properties;"), (2, u "lineSeparator"), (0, u "Ljava/lang/String;"), (96, .class_ 321), (1, u "java/lang/System$LoggerFinder"), (5, .class_ 328), (0, u "java/lang/System$Logger"), (67, u "err"), (2, u "out"), (91, u "notSupportedJnuEncoding"), (15, u "in"), (17, u "initialIn"), (0, u "Ljava/io/InputStream;"), (35, u "bootLayer"), (0, u "Ljava/lang/ModuleLayer;"), (99, .class_ 664), (0, u "java/lang/System$2"), (9, u "NEVER"), (2, u "MAYBE"), (49, u "arraycopy"), (0, u "(Ljava/lang/Object;ILjava/lang/Object;II)V"), (72, .class_ 802), (0, u "java/lang/System$Logger$Level")] 31

def k12m0 : Method := { name := "<init>", desc := "()V", sig := { parameters := [], returnType := none }, accessFlags := 2, code := none }
def k12m1 : Method := { name := "arraycopy", desc := "(Ljava/lang/Object;ILjava/lang/Object;II)V", sig := { parameters := [(.object "java/lang/Object"), .int, (.object "java/lang/Object"), .int, .int], returnType := none }, accessFlags := 265, code := none }
/-- java/lang/System -/
def k12 : Class := { plain "java/lang/System" (some 0) with
  accessFlags := 49
  interfaces := #[]
  cf := some (fileOf pool12 8 #[.nestMembers #[319, 327, 801, 108, 663, 208]] #[{ accessFlags := 2, nameIndex := 5, descriptorIndex := 6, attributes := #[] }, { accessFlags := 265, nameIndex := 727, descriptorIndex := 728, attributes := #[] }] 49 2 #[] #[{ accessFlags := 25, nameIndex := 507, descriptorIndex := 526, attributes := #[] }, { accessFlags := 25, nameIndex := 399, descriptorIndex := 155, attributes := #[] }, { accessFlags := 25, nameIndex := 396, descriptorIndex := 155, attributes := #[] }, { accessFlags := 10, nameIndex := 525, descriptorIndex := 526, attributes := #[] }, { accessFlags := 26, nameIndex := 674, descriptorIndex := 12, attributes := #[] }, { accessFlags := 26, nameIndex := 677, descriptorIndex := 12, attributes := #[] }, { accessFlags := 10, nameIndex := 11, descriptorIndex := 12, attributes := #[] }, { accessFlags := 74, nameIndex := 175, descriptorIndex := 176, attributes := #[] }, { accessFlags := 10, nameIndex := 491, descriptorIndex := 222, attributes := #[] }, { accessFlags := 74, nameIndex := 29, descriptorIndex := 30, attributes := #[] }, { accessFlags := 74, nameIndex := 154, descriptorIndex := 155, attributes := #[] }, { accessFlags := 10, nameIndex := 217, descriptorIndex := 218, attributes := #[] }, { accessFlags := 10, nameIndex := 221, descriptorIndex := 222, attributes := #[] }, { accessFlags := 8, nameIndex := 562, descriptorIndex := 563, attributes := #[] }])
  fields := #[{ name := "in", type := (.object "java/io/InputStream"), accessFlags := 25, slot := 0, constantValue := 0 }, { name := "out", type := (.object "java/io/PrintStream"), accessFlags := 25, slot := 1, constantValue := 0 }, { name := "err", type := (.object "java/io/PrintStream"), accessFlags := 25, slot := 2, constantValue := 0 }, { name := "initialIn", type := (.object "java/io/InputStream"), accessFlags := 10, slot := 3, constantValue := 0 }, { name := "NEVER", type := .int, accessFlags := 26, slot := 4, constantValue := 0 }, { name := "MAYBE", type := .int, accessFlags := 26, slot := 5, constantValue := 0 }, { name := "allowSecurityManager", type := .int, accessFlags := 10, slot := 6, constantValue := 0 }, { name := "security", type := (.object "java/lang/SecurityManager"), accessFlags := 74, slot := 7, constantValue := 0 }, { name := "notSupportedJnuEncoding", type := (.object "java/lang/String"), accessFlags := 10, slot := 8, constantValue := 0 }, { name := "cons", type := (.object "java/io/Console"), accessFlags := 74, slot := 9, constantValue := 0 }, { name := "initialErrStream", type := (.object "java/io/PrintStream"), accessFlags := 74, slot := 10, constantValue := 0 }, { name := "props", type := (.object "java/util/Properties"), accessFlags := 10, slot := 11, constantValue := 0 }, { name := "lineSeparator", type := (.object "java/lang/String"), accessFlags := 10, slot := 12, constantValue := 0 }, { name := "bootLayer", type := (.object "java/lang/ModuleLayer"), accessFlags := 8, slot := 13, constantValue := 0 }]
  methods := #[k12m0, k12m1]
  instanceTypes := #[]
  staticTypes := #[(.object "java/io/InputStream"), (.object "java/io/PrintStream"), (.object "java/io/PrintStream"), (.object "java/io/InputStream"), .int, .int, .int, (.object "java/lang/SecurityManager"), (.object "java/lang/String"), (.object "java/io/Console"), (.object "java/io/PrintStream"), (.object "java/util/Properties"), (.object "java/lang/String"), (.object "java/lang/ModuleLayer")]
  resolved := Array.replicate 834 none
  statics := none }

def pool13 : Array CpInfo := pool [(1, .class_ 2), (0, u "java/lang/Cloneable"), (0, .class_ 4), (0, u "java/lang/Object")] 2

/-- java/lang/Cloneable -/
def k13 : Class := { plain "java/lang/Cloneable" (some 0) with
  accessFlags := 1537
  interfaces := #[]
  cf := some (fileOf pool13 1 #[] #[] 1537 3 #[] #[])
  fields := #[]
  methods := #[]
  instanceTypes := #[]
  staticTypes := #[]
  resolved := Array.replicate 7 none
  statics := none }

/-- the primitive byte -/
def k14 : Class := { plain "byte" none with kind := .primitive 'B', accessFlags := 0x411 }
/-- [B -/
def k15 : Class := { plain "[B" (some 0) with kind := .array 14 .byte, interfaces := #[13, 3], accessFlags := 1041 }

/-- the primitive int -/
def k16 : Class := { plain "int" none with kind := .primitive 'I', accessFlags := 0x411 }
/-- [I -/
def k17 : Class := { plain "[I" (some 0) with kind := .array 16 .int, interfaces := #[13, 3], accessFlags := 1041 }

/-- the primitive long -/
def k18 : Class := { plain "long" none with kind := .primitive 'J', accessFlags := 0x411 }
/-- [J -/
def k19 : Class := { plain "[J" (some 0) with kind := .array 18 .long, interfaces := #[13, 3], accessFlags := 1041 }

def heap : Heap := #[]
def classes : Array Class := #[k0, k1, k2, k3, k4, k5, k6, k7, k8, k9, k10, k11, k12, k13, k14, k15, k16, k17, k18, k19]
def interned : List (Array UInt16 × Addr) := []
def slotsUsed : Nat := 0
def theMethod : MethodId := ⟨1, 2⟩
def args0 : Array Value := #[.int 5, .int 6, .int 7, .int 8, .int 9]
def aboutOver (below : List Frame) : State where
  vm := { classes := classes, interned := interned.toArray }
  heap := heap
  slotsUsed := slotsUsed
  threads := #[{ frames := .invoking theMethod args0 :: below }]
def below0 : List Frame := [.native { method := ⟨0, 0⟩, args := #[] }]
def about1 : State := aboutOver below0
def p0 : Program := .bare "" "" ""
def e0 : Env := launch0.env 0 0 0
theorem w_frames : about1.frames = Frame.invoking theMethod args0 :: below0 := rfl
set_option maxRecDepth 65536 in
theorem w_args : argsFit about1.vm theMethod args0 = true := by decide +kernel
set_option maxRecDepth 65536 in
theorem w_heap : heapFits about1 = true := by decide +kernel
set_option maxRecDepth 65536 in
theorem w_runnable : about1.curStatus? = some .runnable := by decide +kernel
set_option maxRecDepth 65536 in
theorem w_alone : about1.alone = true := by decide +kernel
set_option maxRecDepth 65536 in
theorem w_named : about1.methodNamed? x = some theMethod := by decide +kernel
set_option maxRecDepth 65536 in
theorem w_hears : about1.hears theMethod below0 = true := by decide +kernel
set_option maxRecDepth 65536 in
theorem w_ripe : about1.ripe theMethod args0 below0 = true := by decide +kernel
theorem w_running : about1.status = .running := rfl
set_option maxRecDepth 65536 in
theorem w_room : about1.hasRoom e0.platform room_1 = true :=
  launch0.hasRoom_least _ room_1 (by decide +kernel) (by decide +kernel) (by decide +kernel) (by decide +kernel) (by decide +kernel) (by decide +kernel)
theorem allAtoms_all (ts : List Jvm.Cond) (a : Array Jvm.Value) (st : Jvm.State) : (allAtoms ts).before a st = ts.all (fun c => c.before a st) := by
  induction ts with
  | nil => rfl
  | cons c t ih =>
    show (Jvm.Cond.and c (allAtoms t)).before a st = _
    rw [Jvm.Cond.before_and, ih, List.all_cons]
def words1 : List Jvm.Cond := Jvm.Cond.code x code maxLocals ret :: tables_1
/-- a 'code' word, met by the world's own term for the bytes: nothing is compared byte by byte -/
theorem code_word {y : MethodName} {bytes : ByteArray} {mx : Nat} {rt : Option FieldType} {a : Array Value} {s : State} {m : MethodId} {meth : Method} {c : Code} (h1 : s.methodNamed? y = some m) (h2 : s.vm.method? m = some meth) (h3 : meth.code = some c) (h4 : c.code = bytes)
    (h5 : (c.maxLocals == mx && c.exceptionTable.isEmpty && decide (c.maxStack ≤ mostOperands) && decide (meth.sig.returnType = rt) && !meth.locks && decide (parseMethodDescriptor y.desc = some meth.sig)) = true) : (Jvm.Cond.code y bytes mx rt).before a s = true := by
  simp only [Bool.and_eq_true, beq_iff_eq, Bool.not_eq_true', decide_eq_true_eq] at h5
  obtain ⟨⟨⟨⟨⟨g1, g2⟩, g3⟩, g4⟩, g5⟩, g6⟩ := h5
  simp [Cond.before, Cond.holds, Cond.value, h1, h2, h3, h4, g1, g2, g3, g4, g5, g6]
def isCode : Jvm.Cond → Bool
  | .code _ _ _ _ => true
  | _ => false
theorem all_split {L : List Jvm.Cond} {P : Jvm.Cond → Bool} (h1 : L.all (fun c => isCode c || P c) = true) (h2 : ∀ c ∈ L.filter isCode, P c = true) : L.all P = true := by
  refine List.all_eq_true.mpr fun c hc => ?_
  have h := List.all_eq_true.mp h1 c hc
  rcases Bool.eq_false_or_eq_true (isCode c) with hi | hi
  · exact h2 c (List.mem_filter.mpr ⟨hc, hi⟩)
  · simpa [hi] using h
set_option maxRecDepth 65536 in
theorem w_c0 : (Jvm.Cond.code x code maxLocals ret).before args0 about1 = true := code_word (m := ⟨1, 2⟩) (meth := k1m2) (c := k1c2) (by decide +kernel) rfl rfl rfl (by decide +kernel)
set_option maxRecDepth 65536 in
theorem w_c1 : (Jvm.Cond.code ({ cls := "relayout/PositionSet", name := "<init>", desc := "()V" } : Jvm.MethodName) prog_24_method_1_code (1 : Nat) (Option.none : Option Jvm.ClassFile.FieldType)).before args0 about1 = true := code_word (m := ⟨2, 0⟩) (meth := k2m0) (c := k2c0) (by decide +kernel) rfl rfl rfl (by decide +kernel)
set_option maxRecDepth 65536 in
theorem w_c2 : (Jvm.Cond.code ({ cls := "java/lang/Object", name := "<init>", desc := "()V" } : Jvm.MethodName) object_method_1_code (1 : Nat) (Option.none : Option Jvm.ClassFile.FieldType)).before args0 about1 = true := code_word (m := ⟨0, 0⟩) (meth := k0m0) (c := k0c0) (by decide +kernel) rfl rfl rfl (by decide +kernel)
set_option maxRecDepth 65536 in
theorem w_c3 : (Jvm.Cond.code ({ cls := "relayout/PositionSet", name := "add", desc := "(I)V" } : Jvm.MethodName) prog_24_method_2_code (4 : Nat) (Option.none : Option Jvm.ClassFile.FieldType)).before args0 about1 = true := code_word (m := ⟨2, 1⟩) (meth := k2m1) (c := k2c1) (by decide +kernel) rfl rfl rfl (by decide +kernel)
set_option maxRecDepth 65536 in
theorem w_c4 : (Jvm.Cond.code ({ cls := "relayout/PositionSet", name := "remove", desc := "(I)V" } : Jvm.MethodName) prog_24_method_3_code (3 : Nat) (Option.none : Option Jvm.ClassFile.FieldType)).before args0 about1 = true := code_word (m := ⟨2, 2⟩) (meth := k2m2) (c := k2c2) (by decide +kernel) rfl rfl rfl (by decide +kernel)
set_option maxRecDepth 65536 in
theorem w_c5 : (Jvm.Cond.code ({ cls := "relayout/PositionSet", name := "next", desc := "(I)I" } : Jvm.MethodName) prog_24_method_5_code (11 : Nat) (Option.some Jvm.ClassFile.FieldType.int)).before args0 about1 = true := code_word (m := ⟨2, 3⟩) (meth := k2m3) (c := k2c3) (by decide +kernel) rfl rfl rfl (by decide +kernel)
set_option maxRecDepth 65536 in
theorem w_c6 : (Jvm.Cond.code ({ cls := "java/lang/Long", name := "numberOfTrailingZeros", desc := "(J)I" } : Jvm.MethodName) jdk_35_method_49_code (3 : Nat) (Option.some Jvm.ClassFile.FieldType.int)).before args0 about1 = true := code_word (m := ⟨8, 0⟩) (meth := k8m0) (c := k8c0) (by decide +kernel) rfl rfl rfl (by decide +kernel)
set_option maxRecDepth 65536 in
theorem w_c7 : (Jvm.Cond.code ({ cls := "java/lang/Integer", name := "numberOfTrailingZeros", desc := "(I)I" } : Jvm.MethodName) jdk_33_method_48_code (2 : Nat) (Option.some Jvm.ClassFile.FieldType.int)).before args0 about1 = true := code_word (m := ⟨9, 0⟩) (meth := k9m0) (c := k9c0) (by decide +kernel) rfl rfl rfl (by decide +kernel)
set_option maxRecDepth 65536 in
theorem w_c8 : (Jvm.Cond.code ({ cls := "relayout/PositionSetRemovePinLaw", name := "expectedNext", desc := "(IZIZI)I" } : Jvm.MethodName) method_2_code (6 : Nat) (Option.some Jvm.ClassFile.FieldType.int)).before args0 about1 = true := code_word (m := ⟨1, 1⟩) (meth := k1m1) (c := k1c1) (by decide +kernel) rfl rfl rfl (by decide +kernel)
set_option maxRecDepth 65536 in
theorem w_c9 : (Jvm.Cond.code ({ cls := "java/lang/Math", name := "max", desc := "(II)I" } : Jvm.MethodName) jdk_29_method_65_code (2 : Nat) (Option.some Jvm.ClassFile.FieldType.int)).before args0 about1 = true := code_word (m := ⟨10, 1⟩) (meth := k10m1) (c := k10c1) (by decide +kernel) rfl rfl rfl (by decide +kernel)
set_option maxRecDepth 65536 in
theorem w_c10 : (Jvm.Cond.code ({ cls := "java/util/Arrays", name := "copyOf", desc := "([JI)[J" } : Jvm.MethodName) jdk_65_method_124_code (3 : Nat) (Option.some (Jvm.ClassFile.FieldType.array Jvm.ClassFile.FieldType.long))).before args0 about1 = true := code_word (m := ⟨11, 1⟩) (meth := k11m1) (c := k11c1) (by decide +kernel) rfl rfl rfl (by decide +kernel)
set_option maxRecDepth 65536 in
theorem w_c11 : (Jvm.Cond.code ({ cls := "java/lang/Math", name := "min", desc := "(II)I" } : Jvm.MethodName) jdk_29_method_69_code (2 : Nat) (Option.some Jvm.ClassFile.FieldType.int)).before args0 about1 = true := code_word (m := ⟨10, 2⟩) (meth := k10m2) (c := k10c2) (by decide +kernel) rfl rfl rfl (by decide +kernel)
def codes1 : List Jvm.Cond := [Jvm.Cond.code x code maxLocals ret, Jvm.Cond.code ({ cls := "relayout/PositionSet", name := "<init>", desc := "()V" } : Jvm.MethodName) prog_24_method_1_code (1 : Nat) (Option.none : Option Jvm.ClassFile.FieldType), Jvm.Cond.code ({ cls := "java/lang/Object", name := "<init>", desc := "()V" } : Jvm.MethodName) object_method_1_code (1 : Nat) (Option.none : Option Jvm.ClassFile.FieldType), Jvm.Cond.code ({ cls := "relayout/PositionSet", name := "add", desc := "(I)V" } : Jvm.MethodName) prog_24_method_2_code (4 : Nat) (Option.none : Option Jvm.ClassFile.FieldType), Jvm.Cond.code ({ cls := "relayout/PositionSet", name := "remove", desc := "(I)V" } : Jvm.MethodName) prog_24_method_3_code (3 : Nat) (Option.none : Option Jvm.ClassFile.FieldType), Jvm.Cond.code ({ cls := "relayout/PositionSet", name := "next", desc := "(I)I" } : Jvm.MethodName) prog_24_method_5_code (11 : Nat) (Option.some Jvm.ClassFile.FieldType.int), Jvm.Cond.code ({ cls := "java/lang/Long", name := "numberOfTrailingZeros", desc := "(J)I" } : Jvm.MethodName) jdk_35_method_49_code (3 : Nat) (Option.some Jvm.ClassFile.FieldType.int), Jvm.Cond.code ({ cls := "java/lang/Integer", name := "numberOfTrailingZeros", desc := "(I)I" } : Jvm.MethodName) jdk_33_method_48_code (2 : Nat) (Option.some Jvm.ClassFile.FieldType.int), Jvm.Cond.code ({ cls := "relayout/PositionSetRemovePinLaw", name := "expectedNext", desc := "(IZIZI)I" } : Jvm.MethodName) method_2_code (6 : Nat) (Option.some Jvm.ClassFile.FieldType.int), Jvm.Cond.code ({ cls := "java/lang/Math", name := "max", desc := "(II)I" } : Jvm.MethodName) jdk_29_method_65_code (2 : Nat) (Option.some Jvm.ClassFile.FieldType.int), Jvm.Cond.code ({ cls := "java/util/Arrays", name := "copyOf", desc := "([JI)[J" } : Jvm.MethodName) jdk_65_method_124_code (3 : Nat) (Option.some (Jvm.ClassFile.FieldType.array Jvm.ClassFile.FieldType.long)), Jvm.Cond.code ({ cls := "java/lang/Math", name := "min", desc := "(II)I" } : Jvm.MethodName) jdk_29_method_69_code (2 : Nat) (Option.some Jvm.ClassFile.FieldType.int)]
set_option maxRecDepth 65536 in
theorem codes_eq : words1.filter isCode = codes1 := rfl
theorem w_codes : ∀ c ∈ words1.filter isCode, c.before args0 about1 = true := by
  rw [codes_eq]
  intro c hc
  simp only [codes1, List.mem_cons, List.not_mem_nil, or_false] at hc
  rcases hc with rfl | rfl | rfl | rfl | rfl | rfl | rfl | rfl | rfl | rfl | rfl | rfl
  · exact w_c0
  · exact w_c1
  · exact w_c2
  · exact w_c3
  · exact w_c4
  · exact w_c5
  · exact w_c6
  · exact w_c7
  · exact w_c8
  · exact w_c9
  · exact w_c10
  · exact w_c11
set_option maxRecDepth 65536 in
theorem w_t1 : (words1.take 24).all (fun c => isCode c || c.before args0 about1) = true := by decide +kernel
set_option maxRecDepth 65536 in
theorem w_t2 : ((words1.drop 24).take 24).all (fun c => isCode c || c.before args0 about1) = true := by decide +kernel
set_option maxRecDepth 65536 in
theorem w_t3 : ((words1.drop 24).drop 24).all (fun c => isCode c || c.before args0 about1) = true := by decide +kernel
theorem w_tables : (allAtoms (Jvm.Cond.code x code maxLocals ret :: tables_1)).before args0 about1 = true := by
  rw [allAtoms_all]
  show words1.all (fun c => c.before args0 about1) = true
  refine all_split ?_ w_codes
  rw [← List.take_append_drop 24 words1, List.all_append, w_t1, ← List.take_append_drop 24 (words1.drop 24), List.all_append, w_t2, w_t3]
  rfl
set_option maxRecDepth 65536 in
theorem w_case : (Jvm.Cond.and given_1 narrow_1).before args0 about1 = true := by decide +kernel
theorem w_applies : (headSpec (Jvm.Cond.code x code maxLocals ret :: tables_1) room_1).applies x e0.platform about1 = true :=
  (Spec.applies_iff w_frames).mpr ⟨w_running, w_runnable, w_alone, w_named, w_hears, w_ripe, w_room, w_tables⟩
theorem atStart : AtStart classFile x code maxLocals ret World_1 tables_1 room_1 Calls_1 rest_1 Pre_1 launch0 p0 e0 about1 theMethod args0 below0 :=
  ⟨lists_1, trivial, launch0.admits_env _ _ _, launch0.least_env, fairChoices_fair.cas, fairChoices_fair.clock, w_frames, w_args, w_heap, w_applies, trivial, trivial, w_case⟩
end start1
theorem witness_1 : WitnessClaimed_1 := ⟨start1.p0, start1.e0, start1.about1, start1.theMethod, start1.args0, start1.below0, start1.atStart⟩
end Jvm.Pilot.@@N@@
