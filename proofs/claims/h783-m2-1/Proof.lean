import JvmDerived
import JvmDerived.Pilot.@@N@@Statement
import JvmDerived.Pilot.@@N@@Code
set_option linter.unusedVariables false
set_option linter.unusedSimpArgs false
@@BLOCK:NumsL.lean.txt@@
namespace Jvm.Pilot.@@N@@
open Jvm Jvm.ClassFile Sem Op Lib Jvm.Free Jvm.Stand Jvm.LawKit Jvm.RoadKit Bundle Jvm.Pilot.@@N@@.Jvm.D
def own_shl (x y : Int32) : Int32 := x <<< (y &&& 31)
def own_shr (x y : Int32) : Int32 := x >>> (y &&& 31)
def own_ushr (x y : Int32) : Int32 := (x.toUInt32 >>> (y &&& 31).toUInt32).toInt32
def own_shlL (x : Int64) (y : Int32) : Int64 := x <<< (y &&& 0x3f).toInt64
def own_shrL (x : Int64) (y : Int32) : Int64 := x >>> (y &&& 0x3f).toInt64
def own_ushrL (x : Int64) (y : Int32) : Int64 := (x.toUInt64 >>> (y &&& 0x3f).toInt64.toUInt64).toInt64
def own_remL (x y : Int64) : Int64 := x - (x / y) * y
section OwnKit
variable {p : Program} {l : Launch} {e : Env} {R : Room} {s : State} {m : MethodId} {args : Array Value} {below : List Frame} {meth : Method} {c : Code} {T : State} {locs : List Loc} {cells slots : Nat} {Z : State} {h h' : Heap} {a b : Addr}
theorem retI (X : Stand p l e R s m args below meth c T locs cells slots) (hx : p.tables.exec = Jvm.exec) {pc : Nat} {Ls : Array Slot} {z : Int32} {rest : List Value} (hret : meth.sig.returnType = some .int) (hd : decode c.code pc = .ok (.ireturn, 1)) {fs : List Frame}
    (hl : ∀ (f : JFrame) (acts : List Action), f.method = m → f.locked = none → f.entered = [] → (doReturn e (T.setTop f) acts (some (.int z))).1 = T.setFrames fs) : Steps p.tables e below (T.setTop (mkF m pc Ls (.int z :: rest))) (T.setFrames fs) :=
  retOut X hx hret rfl (Or.inl ⟨rfl, Or.inl rfl, _, rfl⟩) hd hl
theorem own_retJ (X : Stand p l e R s m args below meth c T locs cells slots) (hx : p.tables.exec = Jvm.exec) {pc : Nat} {Ls : Array Slot} {z : Int64} {rest : List Value} (hret : meth.sig.returnType = some .long) (hd : decode c.code pc = .ok (.lreturn, 1)) {fs : List Frame}
    (hl : ∀ (f : JFrame) (acts : List Action), f.method = m → f.locked = none → f.entered = [] → (doReturn e (T.setTop f) acts (some (.long z))).1 = T.setFrames fs) : Steps p.tables e below (T.setTop (mkF m pc Ls (.long z :: rest))) (T.setFrames fs) :=
  retOut X hx hret rfl (Or.inr (Or.inl ⟨rfl, rfl, _, rfl⟩)) hd hl
/-- an array of n places of one of the int kinds: place i holds f i -/
def ArI (Z : State) (h : Heap) (a : Addr) (ty : FieldType) (n : Nat) (f : Nat → Int32) : Prop := ∃ c : Cell, Arr Z h a c ty ∧ c.slots.size = n ∧ ∀ i, i < n → c.slots[i]? = some (.int (f i))
def own_upd (f : Nat → Int32) (i : Nat) (x : Int32) : Nat → Int32 := fun k => if k = i then x else f k
theorem ArI.lt {ty : FieldType} {n : Nat} {f : Nat → Int32} (A : ArI Z h a ty n f) : a < h.size := by obtain ⟨c, A, -⟩ := A; exact A.lt
theorem ArI.ext {ty : FieldType} {n : Nat} {f : Nat → Int32} (A : ArI Z h a ty n f) (E : Ext h h') : ArI Z h' a ty n f := by obtain ⟨c, A, r⟩ := A; exact ⟨c, A.ext E, r⟩
theorem ArI.other {ty : FieldType} {n : Nat} {f : Nat → Int32} {sl : Nat} {v : Value} (A : ArI Z h b ty n f) (W : Wr h h' a sl v) (q : b ≠ a) : ArI Z h' b ty n f := by obtain ⟨c, A, r⟩ := A; exact ⟨c, A.other W q, r⟩
theorem ArI.keep {ty : FieldType} {n : Nat} {f : Nat → Int32} {ws : List Addr} (A : ArI Z h a ty n f) (K : Keep h h' ws) (q : a ∉ ws) : ArI Z h' a ty n f := by obtain ⟨c, A, r⟩ := A; exact ⟨c, ⟨K.2.1 a c A.1 q, A.2⟩, r⟩
theorem ArI.new {ty : FieldType} {k : ClassId} {z : Int32} {n : Nat} (hd : defaultValue ty = .int 0) (A : Arr Z h a (newA k ty z) ty) (hn : z.toNatClampNeg = n) : ArI Z h a ty n (fun _ => 0) :=
  ⟨_, A, by rw [sz_new, hn], fun i hi => by rw [newA]; simp [hn, hi, hd]⟩
theorem ArI.set {ty : FieldType} {n i : Nat} {f : Nat → Int32} {cl : Cell} {x : Int32} (A : Arr Z h a cl ty) (S : cl.slots.size = n) (H : ∀ i, i < n → cl.slots[i]? = some (.int (f i))) (W : Wr h h' a i (.int x)) : ArI Z h' a ty n (own_upd f i x) :=
  ⟨cl.setSlot i (.int x), A.same W, by rw [sz_set]; exact S, fun k hk => by
    by_cases q : k = i
    · subst q; simp [Cell.setSlot, own_upd, Array.getElem?_setIfInBounds, S, hk]
    · simp only [Cell.setSlot, own_upd, Array.getElem?_setIfInBounds, if_neg (Ne.symm q), if_neg q]; exact H k hk⟩
theorem own_in {cl : Cell} {j : Int32} {i n : Nat} (S : cl.slots.size = n) (hj : ¬ j < 0 ∧ j.toNatClampNeg = i) (hi : i < n) : ¬ (j < 0 ∨ cl.slots.size ≤ j.toNatClampNeg) := by
  obtain ⟨j0, rfl⟩ := hj
  rw [S]; rintro (q | q)
  · exact j0 q
  · exact absurd hi (Nat.not_lt.mpr q)
theorem own_stI {n i : Nat} {f : Nat → Int32} (X : Stand p l e R s m args below meth c T locs cells slots) (hx : p.tables.exec = Jvm.exec) (hZ : Z.Warmed39 s.vm) (eT : T.heap = h) (A : ArI Z h a .int n f) {j x : Int32} (hj : ¬ j < 0 ∧ j.toNatClampNeg = i) (hi : i < n) {g : JFrame} (hg : g.method = m) {rest : List Value} (hs : g.stack = .int x :: .int j :: .ref a :: rest) (hd : decode c.code g.pc = .ok (.iastore, 1)) :
    ∃ T' h', Stand p l e R s m args below meth c T' (locs ++ [⟨a, i⟩]) cells slots ∧ T'.heap = h' ∧ Wr h h' a i (.int x) ∧ ArI Z h' a .int n (own_upd f i x) ∧ ∀ target, Steps p.tables e below (T'.setTop { g with pc := g.pc + 1, stack := rest }) target → Steps p.tables e below (T.setTop g) target := by
  obtain ⟨cl, Ar, S, H⟩ := A
  have hin := own_in S hj hi
  obtain ⟨T', h', X', e', W', st⟩ := stI X hx hZ eT Ar hin hg hs hd
  rw [hj.2] at X' W'
  exact ⟨T', h', X', e', W', ArI.set Ar S H W', st⟩
theorem own_stC {n i : Nat} {f : Nat → Int32} (X : Stand p l e R s m args below meth c T locs cells slots) (hx : p.tables.exec = Jvm.exec) (hZ : Z.Warmed39 s.vm) (eT : T.heap = h) (A : ArI Z h a .char n f) {j x : Int32} (hj : ¬ j < 0 ∧ j.toNatClampNeg = i) (hi : i < n) {g : JFrame} (hg : g.method = m) {rest : List Value} (hs : g.stack = .int x :: .int j :: .ref a :: rest) (hd : decode c.code g.pc = .ok (.castore, 1)) :
    ∃ T' h', Stand p l e R s m args below meth c T' (locs ++ [⟨a, i⟩]) cells slots ∧ T'.heap = h' ∧ Wr h h' a i (.int (nar .char x)) ∧ ArI Z h' a .char n (own_upd f i (nar .char x)) ∧ ∀ target, Steps p.tables e below (T'.setTop { g with pc := g.pc + 1, stack := rest }) target → Steps p.tables e below (T.setTop g) target := by
  obtain ⟨cl, Ar, S, H⟩ := A
  have hin := own_in S hj hi
  obtain ⟨T', h', X', e', W', st⟩ := stC X hx hZ eT Ar hin hg hs hd
  rw [hj.2] at X' W'
  exact ⟨T', h', X', e', W', ArI.set Ar S H W', st⟩
theorem own_stB {n i : Nat} {f : Nat → Int32} (X : Stand p l e R s m args below meth c T locs cells slots) (hx : p.tables.exec = Jvm.exec) (hZ : Z.Warmed39 s.vm) (eT : T.heap = h) (A : ArI Z h a .byte n f) {j x : Int32} (hj : ¬ j < 0 ∧ j.toNatClampNeg = i) (hi : i < n) {g : JFrame} (hg : g.method = m) {rest : List Value} (hs : g.stack = .int x :: .int j :: .ref a :: rest) (hd : decode c.code g.pc = .ok (.bastore, 1)) :
    ∃ T' h', Stand p l e R s m args below meth c T' (locs ++ [⟨a, i⟩]) cells slots ∧ T'.heap = h' ∧ Wr h h' a i (.int (nar .byte x)) ∧ ArI Z h' a .byte n (own_upd f i (nar .byte x)) ∧ ∀ target, Steps p.tables e below (T'.setTop { g with pc := g.pc + 1, stack := rest }) target → Steps p.tables e below (T.setTop g) target := by
  obtain ⟨cl, Ar, S, H⟩ := A
  have hin := own_in S hj hi
  obtain ⟨T', h', X', e', W', st⟩ := stB X hx hZ eT Ar hin hg hs hd
  rw [hj.2] at X' W'
  exact ⟨T', h', X', e', W', ArI.set Ar S H W', st⟩
theorem own_ldI {n i : Nat} {f : Nat → Int32} (X : Stand p l e R s m args below meth c T locs cells slots) (hx : p.tables.exec = Jvm.exec) (hZ : Z.Warmed39 s.vm) (eT : T.heap = h) (A : ArI Z h a .int n f) {j : Int32} (hj : ¬ j < 0 ∧ j.toNatClampNeg = i) (hi : i < n) {g : JFrame} (hg : g.method = m) {rest : List Value} (hs : g.stack = .int j :: .ref a :: rest) (hd : decode c.code g.pc = .ok (.iaload, 1)) (target : State)
    (k : Steps p.tables e below (T.setTop { g with pc := g.pc + 1, stack := .int (f i) :: rest }) target) : Steps p.tables e below (T.setTop g) target := by
  obtain ⟨cl, Ar, S, H⟩ := A
  exact X.iaload hx (by rw [eT]; exact Ar.1) (State.isArrayOf_alike hZ.alike Ar.2.1) Ar.2.2 (own_in S hj hi) (by rw [hj.2]; exact H i hi) hg hs hd _ k
theorem own_ldC {n i : Nat} {f : Nat → Int32} (X : Stand p l e R s m args below meth c T locs cells slots) (hx : p.tables.exec = Jvm.exec) (hZ : Z.Warmed39 s.vm) (eT : T.heap = h) (A : ArI Z h a .char n f) {j : Int32} (hj : ¬ j < 0 ∧ j.toNatClampNeg = i) (hi : i < n) {g : JFrame} (hg : g.method = m) {rest : List Value} (hs : g.stack = .int j :: .ref a :: rest) (hd : decode c.code g.pc = .ok (.caload, 1)) (target : State)
    (k : Steps p.tables e below (T.setTop { g with pc := g.pc + 1, stack := .int (f i) :: rest }) target) : Steps p.tables e below (T.setTop g) target := by
  obtain ⟨cl, Ar, S, H⟩ := A
  exact X.caload hx (by rw [eT]; exact Ar.1) (State.isArrayOf_alike hZ.alike Ar.2.1) Ar.2.2 (own_in S hj hi) (by rw [hj.2]; exact H i hi) hg hs hd _ k
theorem own_ldB {n i : Nat} {f : Nat → Int32} (X : Stand p l e R s m args below meth c T locs cells slots) (hx : p.tables.exec = Jvm.exec) (hZ : Z.Warmed39 s.vm) (eT : T.heap = h) (A : ArI Z h a .byte n f) {j : Int32} (hj : ¬ j < 0 ∧ j.toNatClampNeg = i) (hi : i < n) {g : JFrame} (hg : g.method = m) {rest : List Value} (hs : g.stack = .int j :: .ref a :: rest) (hd : decode c.code g.pc = .ok (.baload, 1)) (target : State)
    (k : Steps p.tables e below (T.setTop { g with pc := g.pc + 1, stack := .int (f i) :: rest }) target) : Steps p.tables e below (T.setTop g) target := by
  obtain ⟨cl, Ar, S, H⟩ := A
  exact X.baloadBytes hx (by rw [eT]; exact Ar.1) (State.isArrayOf_alike hZ.alike Ar.2.1) Ar.2.2 (own_in S hj hi) (by rw [hj.2]; exact H i hi) hg hs hd _ k
theorem own_len {n : Nat} {ty : FieldType} {f : Nat → Int32} (X : Stand p l e R s m args below meth c T locs cells slots) (hx : p.tables.exec = Jvm.exec) (hZ : Z.Warmed39 s.vm) (eT : T.heap = h) (A : ArI Z h a ty n f) {N : Int32} (hN : n.toInt32 = N) {g : JFrame} (hg : g.method = m) {rest : List Value} (hs : g.stack = .ref a :: rest) (hd : decode c.code g.pc = .ok (.arraylength, 1)) (target : State)
    (k : Steps p.tables e below (T.setTop { g with pc := g.pc + 1, stack := .int N :: rest }) target) : Steps p.tables e below (T.setTop g) target := by
  obtain ⟨cl, Ar, S, H⟩ := A
  exact X.arraylength hx (by rw [eT]; exact Ar.1) (State.isArrayOf_alike hZ.alike Ar.2.1) hg hs hd _ (by rw [S, hN]; exact k)
end OwnKit
theorem pn_0 : plainName "com/example/meterstone/meterstone/core/HexTextRead317PinLaw" = true := by first | (simp [plainName, overriddenIn]; done) | decide +kernel
theorem d1_0 : decode method_2_code 0 = .ok (.lload_n 0, 1) := by decide +kernel
theorem d1_1 : decode method_2_code 1 = .ok (.bipush 60, 2) := by decide +kernel
theorem d1_3 : decode method_2_code 3 = .ok (.iconst 4, 1) := by decide +kernel
theorem d1_4 : decode method_2_code 4 = .ok (.iload_n 2, 1) := by decide +kernel
theorem d1_5 : decode method_2_code 5 = .ok (.imul, 1) := by decide +kernel
theorem d1_6 : decode method_2_code 6 = .ok (.isub, 1) := by decide +kernel
theorem d1_7 : decode method_2_code 7 = .ok (.lushr, 1) := by decide +kernel
theorem d1_8 : decode method_2_code 8 = .ok (.l2i, 1) := by decide +kernel
theorem d1_9 : decode method_2_code 9 = .ok (.bipush 15, 2) := by decide +kernel
theorem d1_11 : decode method_2_code 11 = .ok (.iand, 1) := by decide +kernel
theorem d1_12 : decode method_2_code 12 = .ok (.istore_n 3, 1) := by decide +kernel
theorem d1_13 : decode method_2_code 13 = .ok (.iload_n 3, 1) := by decide +kernel
theorem d1_14 : decode method_2_code 14 = .ok (.bipush 10, 2) := by decide +kernel
theorem d1_16 : decode method_2_code 16 = .ok (.if_icmp .ge 10, 3) := by decide +kernel
theorem d1_19 : decode method_2_code 19 = .ok (.bipush 48, 2) := by decide +kernel
theorem d1_21 : decode method_2_code 21 = .ok (.iload_n 3, 1) := by decide +kernel
theorem d1_22 : decode method_2_code 22 = .ok (.iadd, 1) := by decide +kernel
theorem d1_23 : decode method_2_code 23 = .ok (.goto 10, 3) := by decide +kernel
theorem d1_26 : decode method_2_code 26 = .ok (.bipush 97, 2) := by decide +kernel
theorem d1_28 : decode method_2_code 28 = .ok (.iload_n 3, 1) := by decide +kernel
theorem d1_29 : decode method_2_code 29 = .ok (.iadd, 1) := by decide +kernel
theorem d1_30 : decode method_2_code 30 = .ok (.bipush 10, 2) := by decide +kernel
theorem d1_32 : decode method_2_code 32 = .ok (.isub, 1) := by decide +kernel
theorem d1_33 : decode method_2_code 33 = .ok (.i2b, 1) := by decide +kernel
theorem d1_34 : decode method_2_code 34 = .ok (.ireturn, 1) := by decide +kernel
theorem ef_1 (m : MethodId) (x0 : Int64) (x1 : Int32) : entryFrame m #[(.long x0), (.int x1)] 4 = mkF m 0 #[.val (.long x0), .second, .val (.int x1), .unset] [] := by first | (simp [entryFrame, mkF, argsToLocals, Value.category]; done) | rfl
abbrev R1 : Room := { frames := 0, cells := 0, slots := 0, locals := 0 }
def v1_12 (p1_0 : Int64) (p1_1 : Int32) : Int32 := ((((own_ushrL p1_0 ((60 : Int32) - ((4 : Int32) * p1_1)))).toInt32) &&& (15 : Int32))
def j1_33_s0 (p1_0 : Int64) (p1_1 : Int32) : Int32 := (if (v1_12 p1_0 p1_1) < (10 : Int32) then ((48 : Int32) + (v1_12 p1_0 p1_1)) else (((97 : Int32) + (v1_12 p1_0 p1_1)) - (10 : Int32)))
def r1 (p1_0 : Int64) (p1_1 : Int32) : Int32 := (nar .byte (((j1_33_s0 p1_0 p1_1)).toInt8.toInt32))
def Q1 (Z : State) (p1_0 : Int64) (p1_1 : Int32) (h0 : Heap) (n0 : Nat) (v : Option Value) (h : Heap) (L : List Loc) : Prop := v = some (.int (r1 p1_0 p1_1)) ∧ Fr n0 L ∧ h = h0
set_option maxRecDepth 65536 in
set_option maxHeartbeats 40000000 in
theorem rm1 (l : Launch) (Z : State) (a0 : Array Value) (hw : ∀ d ∈ tables_1, d.before a0 Z = true) (ws : List Jvm.Cond) (p1_0 : Int64) (p1_1 : Int32) (h0 : Heap) (n0 : Nat) (Z0 : n0 ≤ h0.size) :
    MetFree l (⟨"com/example/meterstone/meterstone/core/HexTextRead317PinLaw", "hex", "(JI)B"⟩ : MethodName) (head1 (Jvm.Cond.code (⟨"com/example/meterstone/meterstone/core/HexTextRead317PinLaw", "hex", "(JI)B"⟩ : MethodName) method_2_code 4 (some .byte) :: ws) R1) (fun a U => a = #[(.long p1_0), (.int p1_1)] ∧ Z.Warmed39 U.vm ∧ U.heap = h0) (fun _ _ _ _ _ => True) (fun _ U o U' => ∃ v L, o = .returned v ∧ Q1 Z p1_0 p1_1 h0 n0 v U'.heap L ∧ FrameEnd U o U' L R1.cells R1.slots) := by
  refine MetFree.of_bodySF (plainFor_of_name pn_0) hisR ?_
  intro p e s m args below meth c s₁ Bd hml0 hP hK
  obtain ⟨rfl, hZ, hh⟩ := hP
  have hx := Bd.exec
  have hby := Bd.bytes
  have hml : c.maxLocals = 4 := hml0
  have hown : s.vm.findClass "com/example/meterstone/meterstone/core/HexTextRead317PinLaw" = some m.cls := findClass_of_methodNamed Bd.named
  have hnm := (name_of_methodNamed Bd.named Bd.method).1
  have X0 : Stand p l e R1 s m #[(.long p1_0), (.int p1_1)] below meth c s₁ [] 0 0 := Stand.of_body Bd
  have e0 : s₁.heap = h0 := by rw [← hh, Bd.state]; rfl
  have N0 := Fr.nil n0
  have pre0 : ∀ t, Steps p.tables e below (s₁.setTop (mkF m 0 #[.val (.long p1_0), .second, .val (.int p1_1), .unset] [])) t → Steps p.tables e below (s₁.setTop (entryFrame m #[(.long p1_0), (.int p1_1)] 4)) t := fun t k => castTop (ef_1 m p1_0 p1_1) k
  have pre1 : ∀ t, Steps p.tables e below (s₁.setTop (mkF m 16 #[.val (.long p1_0), .second, .val (.int p1_1), .val (.int (v1_12 p1_0 p1_1))] [(.int (10 : Int32)), (.int (v1_12 p1_0 p1_1))])) t → Steps p.tables e below (s₁.setTop (entryFrame m #[(.long p1_0), (.int p1_1)] 4)) t := fun t k => pre0 t (by
    refine XS.lloadN X0.here hx rfl (hb hby d1_0) rfl ?_
    show Steps p.tables e below (s₁.setTop (mkF m 1 #[.val (.long p1_0), .second, .val (.int p1_1), .unset] [(.long p1_0)])) _
    refine XS.bipush X0.here hx rfl (hb hby d1_1) ?_
    show Steps p.tables e below (s₁.setTop (mkF m 3 #[.val (.long p1_0), .second, .val (.int p1_1), .unset] [(.int (60 : Int32)), (.long p1_0)])) _
    refine XS.iconst X0.here hx rfl (hb hby d1_3) ?_
    show Steps p.tables e below (s₁.setTop (mkF m 4 #[.val (.long p1_0), .second, .val (.int p1_1), .unset] [(.int (4 : Int32)), (.int (60 : Int32)), (.long p1_0)])) _
    refine XS.iloadN X0.here hx rfl (hb hby d1_4) rfl ?_
    show Steps p.tables e below (s₁.setTop (mkF m 5 #[.val (.long p1_0), .second, .val (.int p1_1), .unset] [(.int p1_1), (.int (4 : Int32)), (.int (60 : Int32)), (.long p1_0)])) _
    refine XS.imul X0.here hx rfl (hb hby d1_5) rfl ?_
    show Steps p.tables e below (s₁.setTop (mkF m 6 #[.val (.long p1_0), .second, .val (.int p1_1), .unset] [(.int ((4 : Int32) * p1_1)), (.int (60 : Int32)), (.long p1_0)])) _
    refine XS.isub X0.here hx rfl (hb hby d1_6) rfl ?_
    show Steps p.tables e below (s₁.setTop (mkF m 7 #[.val (.long p1_0), .second, .val (.int p1_1), .unset] [(.int ((60 : Int32) - ((4 : Int32) * p1_1))), (.long p1_0)])) _
    refine XS.lushr X0.here hx rfl (hb hby d1_7) rfl ?_
    show Steps p.tables e below (s₁.setTop (mkF m 8 #[.val (.long p1_0), .second, .val (.int p1_1), .unset] [(.long (own_ushrL p1_0 ((60 : Int32) - ((4 : Int32) * p1_1))))])) _
    refine XS.l2i X0.here hx rfl (hb hby d1_8) rfl ?_
    show Steps p.tables e below (s₁.setTop (mkF m 9 #[.val (.long p1_0), .second, .val (.int p1_1), .unset] [(.int (((own_ushrL p1_0 ((60 : Int32) - ((4 : Int32) * p1_1)))).toInt32))])) _
    refine XS.bipush X0.here hx rfl (hb hby d1_9) ?_
    show Steps p.tables e below (s₁.setTop (mkF m 11 #[.val (.long p1_0), .second, .val (.int p1_1), .unset] [(.int (15 : Int32)), (.int (((own_ushrL p1_0 ((60 : Int32) - ((4 : Int32) * p1_1)))).toInt32))])) _
    refine XS.iand X0.here hx rfl (hb hby d1_11) rfl ?_
    show Steps p.tables e below (s₁.setTop (mkF m 12 #[.val (.long p1_0), .second, .val (.int p1_1), .unset] [(.int ((((own_ushrL p1_0 ((60 : Int32) - ((4 : Int32) * p1_1)))).toInt32) &&& (15 : Int32)))])) _
    show Steps p.tables e below (s₁.setTop (mkF m 12 #[.val (.long p1_0), .second, .val (.int p1_1), .unset] [(.int (v1_12 p1_0 p1_1))])) _
    refine XS.istoreN X0.here hx rfl (hb hby d1_12) rfl (l' := #[.val (.long p1_0), .second, .val (.int p1_1), .val (.int (v1_12 p1_0 p1_1))]) rfl ?_
    show Steps p.tables e below (s₁.setTop (mkF m 13 #[.val (.long p1_0), .second, .val (.int p1_1), .val (.int (v1_12 p1_0 p1_1))] [])) _
    refine XS.iloadN X0.here hx rfl (hb hby d1_13) rfl ?_
    show Steps p.tables e below (s₁.setTop (mkF m 14 #[.val (.long p1_0), .second, .val (.int p1_1), .val (.int (v1_12 p1_0 p1_1))] [(.int (v1_12 p1_0 p1_1))])) _
    refine XS.bipush X0.here hx rfl (hb hby d1_14) ?_
    show Steps p.tables e below (s₁.setTop (mkF m 16 #[.val (.long p1_0), .second, .val (.int p1_1), .val (.int (v1_12 p1_0 p1_1))] [(.int (10 : Int32)), (.int (v1_12 p1_0 p1_1))])) _
    exact k)
  obtain ⟨T2, L2, X2, e2, N2, st2⟩ : ∃ (T' : State) (L' : List Loc), Stand p l e R1 s m #[(.long p1_0), (.int p1_1)] below meth c T' L' 0 0 ∧ T'.heap = h0 ∧ Fr n0 L' ∧ ∀ t, Steps p.tables e below (T'.setTop (mkF m 33 #[.val (.long p1_0), .second, .val (.int p1_1), .val (.int (v1_12 p1_0 p1_1))] [(.int (j1_33_s0 p1_0 p1_1))])) t → Steps p.tables e below (s₁.setTop (mkF m 16 #[.val (.long p1_0), .second, .val (.int p1_1), .val (.int (v1_12 p1_0 p1_1))] [(.int (10 : Int32)), (.int (v1_12 p1_0 p1_1))])) t := by
    have pre2 : ∀ t, Steps p.tables e below (s₁.setTop (mkF m 16 #[.val (.long p1_0), .second, .val (.int p1_1), .val (.int (v1_12 p1_0 p1_1))] [(.int (10 : Int32)), (.int (v1_12 p1_0 p1_1))])) t → Steps p.tables e below (s₁.setTop (mkF m 16 #[.val (.long p1_0), .second, .val (.int p1_1), .val (.int (v1_12 p1_0 p1_1))] [(.int (10 : Int32)), (.int (v1_12 p1_0 p1_1))])) t := fun t k => k
    by_cases hc16_3 : (v1_12 p1_0 p1_1) < (10 : Int32)
    · have pre4 : ∀ t, Steps p.tables e below (s₁.setTop (mkF m 33 #[.val (.long p1_0), .second, .val (.int p1_1), .val (.int (v1_12 p1_0 p1_1))] [(.int ((48 : Int32) + (v1_12 p1_0 p1_1)))])) t → Steps p.tables e below (s₁.setTop (mkF m 16 #[.val (.long p1_0), .second, .val (.int p1_1), .val (.int (v1_12 p1_0 p1_1))] [(.int (10 : Int32)), (.int (v1_12 p1_0 p1_1))])) t := fun t k => pre2 t (by
        refine XS.icmpNo X0.here hx rfl (hb hby d1_16) rfl (tlt hc16_3).2.1 ?_
        show Steps p.tables e below (s₁.setTop (mkF m 19 #[.val (.long p1_0), .second, .val (.int p1_1), .val (.int (v1_12 p1_0 p1_1))] [])) _
        refine XS.bipush X0.here hx rfl (hb hby d1_19) ?_
        show Steps p.tables e below (s₁.setTop (mkF m 21 #[.val (.long p1_0), .second, .val (.int p1_1), .val (.int (v1_12 p1_0 p1_1))] [(.int (48 : Int32))])) _
        refine XS.iloadN X0.here hx rfl (hb hby d1_21) rfl ?_
        show Steps p.tables e below (s₁.setTop (mkF m 22 #[.val (.long p1_0), .second, .val (.int p1_1), .val (.int (v1_12 p1_0 p1_1))] [(.int (v1_12 p1_0 p1_1)), (.int (48 : Int32))])) _
        refine XS.iadd X0.here hx rfl (hb hby d1_22) rfl ?_
        show Steps p.tables e below (s₁.setTop (mkF m 23 #[.val (.long p1_0), .second, .val (.int p1_1), .val (.int (v1_12 p1_0 p1_1))] [(.int ((48 : Int32) + (v1_12 p1_0 p1_1)))])) _
        refine XS.goto X0.here hx rfl (pc0 := 23) (pc' := 33) rfl (hb hby d1_23) (by decide) (by decide) ?_
        show Steps p.tables e below (s₁.setTop (mkF m 33 #[.val (.long p1_0), .second, .val (.int p1_1), .val (.int (v1_12 p1_0 p1_1))] [(.int ((48 : Int32) + (v1_12 p1_0 p1_1)))])) _
        exact k)
      have hj6 : (j1_33_s0 p1_0 p1_1) = ((48 : Int32) + (v1_12 p1_0 p1_1)) := by unfold j1_33_s0; rw [if_pos hc16_3]
      exact ⟨s₁, _, X0, e0, N0, fun t k => pre4 t (by rw [hj6] at k; exact k)⟩
    · have pre5 : ∀ t, Steps p.tables e below (s₁.setTop (mkF m 33 #[.val (.long p1_0), .second, .val (.int p1_1), .val (.int (v1_12 p1_0 p1_1))] [(.int (((97 : Int32) + (v1_12 p1_0 p1_1)) - (10 : Int32)))])) t → Steps p.tables e below (s₁.setTop (mkF m 16 #[.val (.long p1_0), .second, .val (.int p1_1), .val (.int (v1_12 p1_0 p1_1))] [(.int (10 : Int32)), (.int (v1_12 p1_0 p1_1))])) t := fun t k => pre2 t (by
        refine XS.icmpYes X0.here hx rfl (pc0 := 16) (pc' := 26) rfl (hb hby d1_16) rfl (flt hc16_3).2.1 (by decide) (by decide) ?_
        show Steps p.tables e below (s₁.setTop (mkF m 26 #[.val (.long p1_0), .second, .val (.int p1_1), .val (.int (v1_12 p1_0 p1_1))] [])) _
        refine XS.bipush X0.here hx rfl (hb hby d1_26) ?_
        show Steps p.tables e below (s₁.setTop (mkF m 28 #[.val (.long p1_0), .second, .val (.int p1_1), .val (.int (v1_12 p1_0 p1_1))] [(.int (97 : Int32))])) _
        refine XS.iloadN X0.here hx rfl (hb hby d1_28) rfl ?_
        show Steps p.tables e below (s₁.setTop (mkF m 29 #[.val (.long p1_0), .second, .val (.int p1_1), .val (.int (v1_12 p1_0 p1_1))] [(.int (v1_12 p1_0 p1_1)), (.int (97 : Int32))])) _
        refine XS.iadd X0.here hx rfl (hb hby d1_29) rfl ?_
        show Steps p.tables e below (s₁.setTop (mkF m 30 #[.val (.long p1_0), .second, .val (.int p1_1), .val (.int (v1_12 p1_0 p1_1))] [(.int ((97 : Int32) + (v1_12 p1_0 p1_1)))])) _
        refine XS.bipush X0.here hx rfl (hb hby d1_30) ?_
        show Steps p.tables e below (s₁.setTop (mkF m 32 #[.val (.long p1_0), .second, .val (.int p1_1), .val (.int (v1_12 p1_0 p1_1))] [(.int (10 : Int32)), (.int ((97 : Int32) + (v1_12 p1_0 p1_1)))])) _
        refine XS.isub X0.here hx rfl (hb hby d1_32) rfl ?_
        show Steps p.tables e below (s₁.setTop (mkF m 33 #[.val (.long p1_0), .second, .val (.int p1_1), .val (.int (v1_12 p1_0 p1_1))] [(.int (((97 : Int32) + (v1_12 p1_0 p1_1)) - (10 : Int32)))])) _
        exact k)
      have hj7 : (j1_33_s0 p1_0 p1_1) = (((97 : Int32) + (v1_12 p1_0 p1_1)) - (10 : Int32)) := by unfold j1_33_s0; rw [if_neg hc16_3]
      exact ⟨s₁, _, X0, e0, N0, fun t k => pre5 t (by rw [hj7] at k; exact k)⟩
  have pre2 : ∀ t, Steps p.tables e below (T2.setTop (mkF m 33 #[.val (.long p1_0), .second, .val (.int p1_1), .val (.int (v1_12 p1_0 p1_1))] [(.int (j1_33_s0 p1_0 p1_1))])) t → Steps p.tables e below (s₁.setTop (entryFrame m #[(.long p1_0), (.int p1_1)] 4)) t := fun t k => pre1 t (st2 t k)
  have pre8 : ∀ t, Steps p.tables e below (T2.setTop (mkF m 34 #[.val (.long p1_0), .second, .val (.int p1_1), .val (.int (v1_12 p1_0 p1_1))] [(.int (((j1_33_s0 p1_0 p1_1)).toInt8.toInt32))])) t → Steps p.tables e below (s₁.setTop (entryFrame m #[(.long p1_0), (.int p1_1)] 4)) t := fun t k => pre2 t (by
    refine XS.i2b X2.here hx rfl (hb hby d1_33) rfl ?_
    show Steps p.tables e below (T2.setTop (mkF m 34 #[.val (.long p1_0), .second, .val (.int p1_1), .val (.int (v1_12 p1_0 p1_1))] [(.int (((j1_33_s0 p1_0 p1_1)).toInt8.toInt32))])) _
    exact k)
  obtain ⟨fs, hr, hrun, hended, hW, hsame⟩ := X2.leave (v := some (.int (nar .byte (((j1_33_s0 p1_0 p1_1)).toInt8.toInt32)))) (fun h => by rw [Bd.returns] at h; cases h) Bd.notSynchronized
  refine ⟨_, _, pre8 _ ?_, hrun, hended, _, _, rfl, ?_, ⟨_, rfl⟩, hW, hsame.mono (by decide) (by decide)⟩
  · show Steps p.tables e below (T2.setTop (mkF m 34 #[.val (.long p1_0), .second, .val (.int p1_1), .val (.int (v1_12 p1_0 p1_1))] [(.int (((j1_33_s0 p1_0 p1_1)).toInt8.toInt32))])) _
    exact retN X2 hx (t := .byte) Bd.returns (by simp) (hb hby d1_34) hr
  · show Q1 Z p1_0 p1_1 h0 n0 _ T2.heap _
    rw [e2]
    exact ⟨rfl, N2, rfl⟩
abbrev R2 : Room := { frames := 0, cells := 0, slots := 0, locals := 0 }
theorem d2_5 : decode prog_53_method_6_code 5 = .ok (.iload 5, 2) := by decide +kernel
theorem d2_7 : decode prog_53_method_6_code 7 = .ok (.iload_n 2, 1) := by decide +kernel
theorem d2_8 : decode prog_53_method_6_code 8 = .ok (.if_icmp .ge 46, 3) := by decide +kernel
theorem d2_11 : decode prog_53_method_6_code 11 = .ok (.aload_n 0, 1) := by decide +kernel
theorem d2_12 : decode prog_53_method_6_code 12 = .ok (.iload_n 1, 1) := by decide +kernel
theorem d2_13 : decode prog_53_method_6_code 13 = .ok (.iload 5, 2) := by decide +kernel
theorem d2_15 : decode prog_53_method_6_code 15 = .ok (.iadd, 1) := by decide +kernel
theorem d2_16 : decode prog_53_method_6_code 16 = .ok (.baload, 1) := by decide +kernel
theorem d2_17 : decode prog_53_method_6_code 17 = .ok (.istore 6, 2) := by decide +kernel
theorem d2_19 : decode prog_53_method_6_code 19 = .ok (.lload_n 3, 1) := by decide +kernel
theorem d2_20 : decode prog_53_method_6_code 20 = .ok (.iconst 4, 1) := by decide +kernel
theorem d2_21 : decode prog_53_method_6_code 21 = .ok (.lshl, 1) := by decide +kernel
theorem d2_22 : decode prog_53_method_6_code 22 = .ok (.iload 6, 2) := by decide +kernel
theorem d2_24 : decode prog_53_method_6_code 24 = .ok (.bipush 57, 2) := by decide +kernel
theorem d2_26 : decode prog_53_method_6_code 26 = .ok (.if_icmp .gt 11, 3) := by decide +kernel
theorem d2_29 : decode prog_53_method_6_code 29 = .ok (.iload 6, 2) := by decide +kernel
theorem d2_31 : decode prog_53_method_6_code 31 = .ok (.bipush 48, 2) := by decide +kernel
theorem d2_33 : decode prog_53_method_6_code 33 = .ok (.isub, 1) := by decide +kernel
theorem d2_34 : decode prog_53_method_6_code 34 = .ok (.goto 11, 3) := by decide +kernel
theorem d2_37 : decode prog_53_method_6_code 37 = .ok (.iload 6, 2) := by decide +kernel
theorem d2_39 : decode prog_53_method_6_code 39 = .ok (.bipush 97, 2) := by decide +kernel
theorem d2_41 : decode prog_53_method_6_code 41 = .ok (.isub, 1) := by decide +kernel
theorem d2_42 : decode prog_53_method_6_code 42 = .ok (.bipush 10, 2) := by decide +kernel
theorem d2_44 : decode prog_53_method_6_code 44 = .ok (.iadd, 1) := by decide +kernel
theorem d2_45 : decode prog_53_method_6_code 45 = .ok (.i2l, 1) := by decide +kernel
theorem d2_46 : decode prog_53_method_6_code 46 = .ok (.lor, 1) := by decide +kernel
theorem d2_47 : decode prog_53_method_6_code 47 = .ok (.lstore_n 3, 1) := by decide +kernel
theorem d2_48 : decode prog_53_method_6_code 48 = .ok (.iinc 5 1, 3) := by decide +kernel
theorem d2_51 : decode prog_53_method_6_code 51 = .ok (.goto (-46), 3) := by decide +kernel
def j2_45_s0 (i : Nat) (oo : Nat) (ff : Nat → Int32) : Int32 := (if (57 : Int32) < (ff (oo + i)) then (((ff (oo + i)) - (97 : Int32)) + (10 : Int32)) else ((ff (oo + i)) - (48 : Int32)))
def v2_47 (acc : Int64) (i : Nat) (oo : Nat) (ff : Nat → Int32) : Int64 := ((own_shlL acc (4 : Int32)) ||| (((j2_45_s0 i oo ff)).toInt64))
set_option maxRecDepth 65536 in
set_option maxHeartbeats 40000000 in
theorem tn_turn {p : Program} {l : Launch} {e : Env} {s : State} {m : MethodId} {args : Array Value} {below : List Frame} {meth : Method} {c : Code} {T0 : State} {locs : List Loc} {Z : State} {a0 : Array Value} {h0 : Heap} {n0 : Nat} (ar : Addr) (po : Int32) (pl : Int32) (acc : Int64) (i : Nat) (oo : Nat) (nn : Nat) (ff : Nat → Int32) (s6 : Slot)
    (X0 : Stand p l e R2 s m args below meth c T0 locs 0 0) (hx : p.tables.exec = Jvm.exec) (hZ : Z.Warmed39 s.vm) (hw : ∀ d ∈ tables_1, d.before a0 Z = true) (hby : c.code = prog_53_method_6_code) (hml : c.maxLocals = 7) (hown : s.vm.findClass "com/example/meterstone/meterstone/core/HexText" = some m.cls) (e0 : T0.heap = h0) (N0 : Fr n0 locs) (Z0 : n0 ≤ h0.size) (hs6 : One s6) (hlt : (Int32.ofNat i) < pl) (hix : ¬ (po + (Int32.ofNat i)) < 0 ∧ (po + (Int32.ofNat i)).toNatClampNeg = (oo + i)) (hin : (oo + i) < nn) (hA : ArI Z h0 ar .byte nn ff) :
    ∃ (T' : State) (L' : List Loc), Stand p l e R2 s m args below meth c T' L' 0 0 ∧ T'.heap = h0 ∧ Fr n0 L' ∧ ∀ t, Steps p.tables e below (T'.setTop (mkF m 5 #[.val (.ref ar), .val (.int po), .val (.int pl), .val (.long (v2_47 acc i oo ff)), .second, .val (.int ((Int32.ofNat i) + (1 : Int32))), .val (.int (ff (oo + i)))] [])) t → Steps p.tables e below (T0.setTop (mkF m 5 #[.val (.ref ar), .val (.int po), .val (.int pl), .val (.long acc), .second, .val (.int (Int32.ofNat i)), s6] [])) t := by
  have pre0 : ∀ t, Steps p.tables e below (T0.setTop (mkF m 5 #[.val (.ref ar), .val (.int po), .val (.int pl), .val (.long acc), .second, .val (.int (Int32.ofNat i)), s6] [])) t → Steps p.tables e below (T0.setTop (mkF m 5 #[.val (.ref ar), .val (.int po), .val (.int pl), .val (.long acc), .second, .val (.int (Int32.ofNat i)), s6] [])) t := fun t k => k
  have pre2 : ∀ t, Steps p.tables e below (T0.setTop (mkF m 26 #[.val (.ref ar), .val (.int po), .val (.int pl), .val (.long acc), .second, .val (.int (Int32.ofNat i)), .val (.int (ff (oo + i)))] [(.int (57 : Int32)), (.int (ff (oo + i))), (.long (own_shlL acc (4 : Int32)))])) t → Steps p.tables e below (T0.setTop (mkF m 5 #[.val (.ref ar), .val (.int po), .val (.int pl), .val (.long acc), .second, .val (.int (Int32.ofNat i)), s6] [])) t := fun t k => pre0 t (by
    refine XS.iload X0.here hx rfl (hb hby d2_5) rfl ?_
    show Steps p.tables e below (T0.setTop (mkF m 7 #[.val (.ref ar), .val (.int po), .val (.int pl), .val (.long acc), .second, .val (.int (Int32.ofNat i)), s6] [(.int (Int32.ofNat i))])) _
    refine XS.iloadN X0.here hx rfl (hb hby d2_7) rfl ?_
    show Steps p.tables e below (T0.setTop (mkF m 8 #[.val (.ref ar), .val (.int po), .val (.int pl), .val (.long acc), .second, .val (.int (Int32.ofNat i)), s6] [(.int pl), (.int (Int32.ofNat i))])) _
    refine XS.icmpNo X0.here hx rfl (hb hby d2_8) rfl (tlt (show (Int32.ofNat i) < pl from hlt)).2.1 ?_
    show Steps p.tables e below (T0.setTop (mkF m 11 #[.val (.ref ar), .val (.int po), .val (.int pl), .val (.long acc), .second, .val (.int (Int32.ofNat i)), s6] [])) _
    refine XS.aloadN X0.here hx rfl (hb hby d2_11) rfl rfl ?_
    show Steps p.tables e below (T0.setTop (mkF m 12 #[.val (.ref ar), .val (.int po), .val (.int pl), .val (.long acc), .second, .val (.int (Int32.ofNat i)), s6] [(.ref ar)])) _
    refine XS.iloadN X0.here hx rfl (hb hby d2_12) rfl ?_
    show Steps p.tables e below (T0.setTop (mkF m 13 #[.val (.ref ar), .val (.int po), .val (.int pl), .val (.long acc), .second, .val (.int (Int32.ofNat i)), s6] [(.int po), (.ref ar)])) _
    refine XS.iload X0.here hx rfl (hb hby d2_13) rfl ?_
    show Steps p.tables e below (T0.setTop (mkF m 15 #[.val (.ref ar), .val (.int po), .val (.int pl), .val (.long acc), .second, .val (.int (Int32.ofNat i)), s6] [(.int (Int32.ofNat i)), (.int po), (.ref ar)])) _
    refine XS.iadd X0.here hx rfl (hb hby d2_15) rfl ?_
    show Steps p.tables e below (T0.setTop (mkF m 16 #[.val (.ref ar), .val (.int po), .val (.int pl), .val (.long acc), .second, .val (.int (Int32.ofNat i)), s6] [(.int (po + (Int32.ofNat i))), (.ref ar)])) _
    refine own_ldB X0 hx hZ e0 hA (j := (po + (Int32.ofNat i))) (i := (oo + i)) hix (by exact hin) (g := (mkF m 16 #[.val (.ref ar), .val (.int po), .val (.int pl), .val (.long acc), .second, .val (.int (Int32.ofNat i)), s6] [(.int (po + (Int32.ofNat i))), (.ref ar)])) rfl rfl (hb hby d2_16) _ ?_
    show Steps p.tables e below (T0.setTop (mkF m 17 #[.val (.ref ar), .val (.int po), .val (.int pl), .val (.long acc), .second, .val (.int (Int32.ofNat i)), s6] [(.int (ff (oo + i)))])) _
    refine XS.istoreS X0.here hx rfl (hb hby d2_17) rfl rfl hs6 ?_
    show Steps p.tables e below (T0.setTop (mkF m 19 #[.val (.ref ar), .val (.int po), .val (.int pl), .val (.long acc), .second, .val (.int (Int32.ofNat i)), .val (.int (ff (oo + i)))] [])) _
    refine XS.lloadN X0.here hx rfl (hb hby d2_19) rfl ?_
    show Steps p.tables e below (T0.setTop (mkF m 20 #[.val (.ref ar), .val (.int po), .val (.int pl), .val (.long acc), .second, .val (.int (Int32.ofNat i)), .val (.int (ff (oo + i)))] [(.long acc)])) _
    refine XS.iconst X0.here hx rfl (hb hby d2_20) ?_
    show Steps p.tables e below (T0.setTop (mkF m 21 #[.val (.ref ar), .val (.int po), .val (.int pl), .val (.long acc), .second, .val (.int (Int32.ofNat i)), .val (.int (ff (oo + i)))] [(.int (4 : Int32)), (.long acc)])) _
    refine XS.lshl X0.here hx rfl (hb hby d2_21) rfl ?_
    show Steps p.tables e below (T0.setTop (mkF m 22 #[.val (.ref ar), .val (.int po), .val (.int pl), .val (.long acc), .second, .val (.int (Int32.ofNat i)), .val (.int (ff (oo + i)))] [(.long (own_shlL acc (4 : Int32)))])) _
    refine XS.iload X0.here hx rfl (hb hby d2_22) rfl ?_
    show Steps p.tables e below (T0.setTop (mkF m 24 #[.val (.ref ar), .val (.int po), .val (.int pl), .val (.long acc), .second, .val (.int (Int32.ofNat i)), .val (.int (ff (oo + i)))] [(.int (ff (oo + i))), (.long (own_shlL acc (4 : Int32)))])) _
    refine XS.bipush X0.here hx rfl (hb hby d2_24) ?_
    show Steps p.tables e below (T0.setTop (mkF m 26 #[.val (.ref ar), .val (.int po), .val (.int pl), .val (.long acc), .second, .val (.int (Int32.ofNat i)), .val (.int (ff (oo + i)))] [(.int (57 : Int32)), (.int (ff (oo + i))), (.long (own_shlL acc (4 : Int32)))])) _
    exact k)
  obtain ⟨T3, L3, X3, e3, N3, st3⟩ : ∃ (T' : State) (L' : List Loc), Stand p l e R2 s m args below meth c T' L' 0 0 ∧ T'.heap = h0 ∧ Fr n0 L' ∧ ∀ t, Steps p.tables e below (T'.setTop (mkF m 45 #[.val (.ref ar), .val (.int po), .val (.int pl), .val (.long acc), .second, .val (.int (Int32.ofNat i)), .val (.int (ff (oo + i)))] [(.int (j2_45_s0 i oo ff)), (.long (own_shlL acc (4 : Int32)))])) t → Steps p.tables e below (T0.setTop (mkF m 26 #[.val (.ref ar), .val (.int po), .val (.int pl), .val (.long acc), .second, .val (.int (Int32.ofNat i)), .val (.int (ff (oo + i)))] [(.int (57 : Int32)), (.int (ff (oo + i))), (.long (own_shlL acc (4 : Int32)))])) t := by
    have pre3 : ∀ t, Steps p.tables e below (T0.setTop (mkF m 26 #[.val (.ref ar), .val (.int po), .val (.int pl), .val (.long acc), .second, .val (.int (Int32.ofNat i)), .val (.int (ff (oo + i)))] [(.int (57 : Int32)), (.int (ff (oo + i))), (.long (own_shlL acc (4 : Int32)))])) t → Steps p.tables e below (T0.setTop (mkF m 26 #[.val (.ref ar), .val (.int po), .val (.int pl), .val (.long acc), .second, .val (.int (Int32.ofNat i)), .val (.int (ff (oo + i)))] [(.int (57 : Int32)), (.int (ff (oo + i))), (.long (own_shlL acc (4 : Int32)))])) t := fun t k => k
    by_cases hc26_4 : (57 : Int32) < (ff (oo + i))
    · have pre5 : ∀ t, Steps p.tables e below (T0.setTop (mkF m 45 #[.val (.ref ar), .val (.int po), .val (.int pl), .val (.long acc), .second, .val (.int (Int32.ofNat i)), .val (.int (ff (oo + i)))] [(.int (((ff (oo + i)) - (97 : Int32)) + (10 : Int32))), (.long (own_shlL acc (4 : Int32)))])) t → Steps p.tables e below (T0.setTop (mkF m 26 #[.val (.ref ar), .val (.int po), .val (.int pl), .val (.long acc), .second, .val (.int (Int32.ofNat i)), .val (.int (ff (oo + i)))] [(.int (57 : Int32)), (.int (ff (oo + i))), (.long (own_shlL acc (4 : Int32)))])) t := fun t k => pre3 t (by
        refine XS.icmpYes X0.here hx rfl (pc0 := 26) (pc' := 37) rfl (hb hby d2_26) rfl (tlt hc26_4).2.2.1 (by decide) (by decide) ?_
        show Steps p.tables e below (T0.setTop (mkF m 37 #[.val (.ref ar), .val (.int po), .val (.int pl), .val (.long acc), .second, .val (.int (Int32.ofNat i)), .val (.int (ff (oo + i)))] [(.long (own_shlL acc (4 : Int32)))])) _
        refine XS.iload X0.here hx rfl (hb hby d2_37) rfl ?_
        show Steps p.tables e below (T0.setTop (mkF m 39 #[.val (.ref ar), .val (.int po), .val (.int pl), .val (.long acc), .second, .val (.int (Int32.ofNat i)), .val (.int (ff (oo + i)))] [(.int (ff (oo + i))), (.long (own_shlL acc (4 : Int32)))])) _
        refine XS.bipush X0.here hx rfl (hb hby d2_39) ?_
        show Steps p.tables e below (T0.setTop (mkF m 41 #[.val (.ref ar), .val (.int po), .val (.int pl), .val (.long acc), .second, .val (.int (Int32.ofNat i)), .val (.int (ff (oo + i)))] [(.int (97 : Int32)), (.int (ff (oo + i))), (.long (own_shlL acc (4 : Int32)))])) _
        refine XS.isub X0.here hx rfl (hb hby d2_41) rfl ?_
        show Steps p.tables e below (T0.setTop (mkF m 42 #[.val (.ref ar), .val (.int po), .val (.int pl), .val (.long acc), .second, .val (.int (Int32.ofNat i)), .val (.int (ff (oo + i)))] [(.int ((ff (oo + i)) - (97 : Int32))), (.long (own_shlL acc (4 : Int32)))])) _
        refine XS.bipush X0.here hx rfl (hb hby d2_42) ?_
        show Steps p.tables e below (T0.setTop (mkF m 44 #[.val (.ref ar), .val (.int po), .val (.int pl), .val (.long acc), .second, .val (.int (Int32.ofNat i)), .val (.int (ff (oo + i)))] [(.int (10 : Int32)), (.int ((ff (oo + i)) - (97 : Int32))), (.long (own_shlL acc (4 : Int32)))])) _
        refine XS.iadd X0.here hx rfl (hb hby d2_44) rfl ?_
        show Steps p.tables e below (T0.setTop (mkF m 45 #[.val (.ref ar), .val (.int po), .val (.int pl), .val (.long acc), .second, .val (.int (Int32.ofNat i)), .val (.int (ff (oo + i)))] [(.int (((ff (oo + i)) - (97 : Int32)) + (10 : Int32))), (.long (own_shlL acc (4 : Int32)))])) _
        exact k)
      have hj7 : (j2_45_s0 i oo ff) = (((ff (oo + i)) - (97 : Int32)) + (10 : Int32)) := by unfold j2_45_s0; rw [if_pos hc26_4]
      exact ⟨T0, _, X0, e0, N0, fun t k => pre5 t (by rw [hj7] at k; exact k)⟩
    · have pre6 : ∀ t, Steps p.tables e below (T0.setTop (mkF m 45 #[.val (.ref ar), .val (.int po), .val (.int pl), .val (.long acc), .second, .val (.int (Int32.ofNat i)), .val (.int (ff (oo + i)))] [(.int ((ff (oo + i)) - (48 : Int32))), (.long (own_shlL acc (4 : Int32)))])) t → Steps p.tables e below (T0.setTop (mkF m 26 #[.val (.ref ar), .val (.int po), .val (.int pl), .val (.long acc), .second, .val (.int (Int32.ofNat i)), .val (.int (ff (oo + i)))] [(.int (57 : Int32)), (.int (ff (oo + i))), (.long (own_shlL acc (4 : Int32)))])) t := fun t k => pre3 t (by
        refine XS.icmpNo X0.here hx rfl (hb hby d2_26) rfl (flt hc26_4).2.2.1 ?_
        show Steps p.tables e below (T0.setTop (mkF m 29 #[.val (.ref ar), .val (.int po), .val (.int pl), .val (.long acc), .second, .val (.int (Int32.ofNat i)), .val (.int (ff (oo + i)))] [(.long (own_shlL acc (4 : Int32)))])) _
        refine XS.iload X0.here hx rfl (hb hby d2_29) rfl ?_
        show Steps p.tables e below (T0.setTop (mkF m 31 #[.val (.ref ar), .val (.int po), .val (.int pl), .val (.long acc), .second, .val (.int (Int32.ofNat i)), .val (.int (ff (oo + i)))] [(.int (ff (oo + i))), (.long (own_shlL acc (4 : Int32)))])) _
        refine XS.bipush X0.here hx rfl (hb hby d2_31) ?_
        show Steps p.tables e below (T0.setTop (mkF m 33 #[.val (.ref ar), .val (.int po), .val (.int pl), .val (.long acc), .second, .val (.int (Int32.ofNat i)), .val (.int (ff (oo + i)))] [(.int (48 : Int32)), (.int (ff (oo + i))), (.long (own_shlL acc (4 : Int32)))])) _
        refine XS.isub X0.here hx rfl (hb hby d2_33) rfl ?_
        show Steps p.tables e below (T0.setTop (mkF m 34 #[.val (.ref ar), .val (.int po), .val (.int pl), .val (.long acc), .second, .val (.int (Int32.ofNat i)), .val (.int (ff (oo + i)))] [(.int ((ff (oo + i)) - (48 : Int32))), (.long (own_shlL acc (4 : Int32)))])) _
        refine XS.goto X0.here hx rfl (pc0 := 34) (pc' := 45) rfl (hb hby d2_34) (by decide) (by decide) ?_
        show Steps p.tables e below (T0.setTop (mkF m 45 #[.val (.ref ar), .val (.int po), .val (.int pl), .val (.long acc), .second, .val (.int (Int32.ofNat i)), .val (.int (ff (oo + i)))] [(.int ((ff (oo + i)) - (48 : Int32))), (.long (own_shlL acc (4 : Int32)))])) _
        exact k)
      have hj8 : (j2_45_s0 i oo ff) = ((ff (oo + i)) - (48 : Int32)) := by unfold j2_45_s0; rw [if_neg hc26_4]
      exact ⟨T0, _, X0, e0, N0, fun t k => pre6 t (by rw [hj8] at k; exact k)⟩
  have pre3 : ∀ t, Steps p.tables e below (T3.setTop (mkF m 45 #[.val (.ref ar), .val (.int po), .val (.int pl), .val (.long acc), .second, .val (.int (Int32.ofNat i)), .val (.int (ff (oo + i)))] [(.int (j2_45_s0 i oo ff)), (.long (own_shlL acc (4 : Int32)))])) t → Steps p.tables e below (T0.setTop (mkF m 5 #[.val (.ref ar), .val (.int po), .val (.int pl), .val (.long acc), .second, .val (.int (Int32.ofNat i)), s6] [])) t := fun t k => pre2 t (st3 t k)
  have pre9 : ∀ t, Steps p.tables e below (T3.setTop (mkF m 5 #[.val (.ref ar), .val (.int po), .val (.int pl), .val (.long (v2_47 acc i oo ff)), .second, .val (.int ((Int32.ofNat i) + (1 : Int32))), .val (.int (ff (oo + i)))] [])) t → Steps p.tables e below (T0.setTop (mkF m 5 #[.val (.ref ar), .val (.int po), .val (.int pl), .val (.long acc), .second, .val (.int (Int32.ofNat i)), s6] [])) t := fun t k => pre3 t (by
    refine XS.i2l X3.here hx rfl (hb hby d2_45) rfl ?_
    show Steps p.tables e below (T3.setTop (mkF m 46 #[.val (.ref ar), .val (.int po), .val (.int pl), .val (.long acc), .second, .val (.int (Int32.ofNat i)), .val (.int (ff (oo + i)))] [(.long (((j2_45_s0 i oo ff)).toInt64)), (.long (own_shlL acc (4 : Int32)))])) _
    refine XS.lor X3.here hx rfl (hb hby d2_46) rfl ?_
    show Steps p.tables e below (T3.setTop (mkF m 47 #[.val (.ref ar), .val (.int po), .val (.int pl), .val (.long acc), .second, .val (.int (Int32.ofNat i)), .val (.int (ff (oo + i)))] [(.long ((own_shlL acc (4 : Int32)) ||| (((j2_45_s0 i oo ff)).toInt64)))])) _
    show Steps p.tables e below (T3.setTop (mkF m 47 #[.val (.ref ar), .val (.int po), .val (.int pl), .val (.long acc), .second, .val (.int (Int32.ofNat i)), .val (.int (ff (oo + i)))] [(.long (v2_47 acc i oo ff))])) _
    refine XS.lstoreN X3.here hx rfl (hb hby d2_47) rfl (l' := #[.val (.ref ar), .val (.int po), .val (.int pl), .val (.long (v2_47 acc i oo ff)), .second, .val (.int (Int32.ofNat i)), .val (.int (ff (oo + i)))]) rfl ?_
    show Steps p.tables e below (T3.setTop (mkF m 48 #[.val (.ref ar), .val (.int po), .val (.int pl), .val (.long (v2_47 acc i oo ff)), .second, .val (.int (Int32.ofNat i)), .val (.int (ff (oo + i)))] [])) _
    refine XS.iinc X3.here hx rfl (hb hby d2_48) rfl (l' := #[.val (.ref ar), .val (.int po), .val (.int pl), .val (.long (v2_47 acc i oo ff)), .second, .val (.int ((Int32.ofNat i) + (1 : Int32))), .val (.int (ff (oo + i)))]) rfl ?_
    show Steps p.tables e below (T3.setTop (mkF m 51 #[.val (.ref ar), .val (.int po), .val (.int pl), .val (.long (v2_47 acc i oo ff)), .second, .val (.int ((Int32.ofNat i) + (1 : Int32))), .val (.int (ff (oo + i)))] [])) _
    refine XS.goto X3.here hx rfl (pc0 := 51) (pc' := 5) rfl (hb hby d2_51) (by decide) (by decide) ?_
    show Steps p.tables e below (T3.setTop (mkF m 5 #[.val (.ref ar), .val (.int po), .val (.int pl), .val (.long (v2_47 acc i oo ff)), .second, .val (.int ((Int32.ofNat i) + (1 : Int32))), .val (.int (ff (oo + i)))] [])) _
    exact k)
  exact ⟨T3, _, X3, e3, N3, pre9⟩
set_option maxRecDepth 65536 in
set_option maxHeartbeats 40000000 in
theorem tn_out {p : Program} {l : Launch} {e : Env} {s : State} {m : MethodId} {args : Array Value} {below : List Frame} {meth : Method} {c : Code} {T0 : State} {locs : List Loc} {Z : State} {a0 : Array Value} {h0 : Heap} {n0 : Nat} (ar : Addr) (po : Int32) (pl : Int32) (acc : Int64) (i : Nat) (s6 : Slot)
    (X0 : Stand p l e R2 s m args below meth c T0 locs 0 0) (hx : p.tables.exec = Jvm.exec) (hZ : Z.Warmed39 s.vm) (hw : ∀ d ∈ tables_1, d.before a0 Z = true) (hby : c.code = prog_53_method_6_code) (hml : c.maxLocals = 7) (hown : s.vm.findClass "com/example/meterstone/meterstone/core/HexText" = some m.cls) (e0 : T0.heap = h0) (N0 : Fr n0 locs) (Z0 : n0 ≤ h0.size) (hge : ¬ (Int32.ofNat i) < pl) :
    ∃ (T' : State) (L' : List Loc), Stand p l e R2 s m args below meth c T' L' 0 0 ∧ T'.heap = h0 ∧ Fr n0 L' ∧ ∀ t, Steps p.tables e below (T'.setTop (mkF m 54 #[.val (.ref ar), .val (.int po), .val (.int pl), .val (.long acc), .second, .val (.int (Int32.ofNat i)), s6] [])) t → Steps p.tables e below (T0.setTop (mkF m 5 #[.val (.ref ar), .val (.int po), .val (.int pl), .val (.long acc), .second, .val (.int (Int32.ofNat i)), s6] [])) t := by
  have pre0 : ∀ t, Steps p.tables e below (T0.setTop (mkF m 5 #[.val (.ref ar), .val (.int po), .val (.int pl), .val (.long acc), .second, .val (.int (Int32.ofNat i)), s6] [])) t → Steps p.tables e below (T0.setTop (mkF m 5 #[.val (.ref ar), .val (.int po), .val (.int pl), .val (.long acc), .second, .val (.int (Int32.ofNat i)), s6] [])) t := fun t k => k
  have pre2 : ∀ t, Steps p.tables e below (T0.setTop (mkF m 54 #[.val (.ref ar), .val (.int po), .val (.int pl), .val (.long acc), .second, .val (.int (Int32.ofNat i)), s6] [])) t → Steps p.tables e below (T0.setTop (mkF m 5 #[.val (.ref ar), .val (.int po), .val (.int pl), .val (.long acc), .second, .val (.int (Int32.ofNat i)), s6] [])) t := fun t k => pre0 t (by
    refine XS.iload X0.here hx rfl (hb hby d2_5) rfl ?_
    show Steps p.tables e below (T0.setTop (mkF m 7 #[.val (.ref ar), .val (.int po), .val (.int pl), .val (.long acc), .second, .val (.int (Int32.ofNat i)), s6] [(.int (Int32.ofNat i))])) _
    refine XS.iloadN X0.here hx rfl (hb hby d2_7) rfl ?_
    show Steps p.tables e below (T0.setTop (mkF m 8 #[.val (.ref ar), .val (.int po), .val (.int pl), .val (.long acc), .second, .val (.int (Int32.ofNat i)), s6] [(.int pl), (.int (Int32.ofNat i))])) _
    refine XS.icmpYes X0.here hx rfl (pc0 := 8) (pc' := 54) rfl (hb hby d2_8) rfl (flt (show ¬ ((Int32.ofNat i) < pl) from hge)).2.1 (by decide) (by decide) ?_
    show Steps p.tables e below (T0.setTop (mkF m 54 #[.val (.ref ar), .val (.int po), .val (.int pl), .val (.long acc), .second, .val (.int (Int32.ofNat i)), s6] [])) _
    exact k)
  exact ⟨T0, _, X0, e0, N0, pre2⟩
def own_acc (f : Nat → Int32) (o : Nat) : Nat → Nat → Int64 → Int64
  | 0, _, acc => acc
  | k + 1, i, acc => own_acc f o k (i + 1) (v2_47 acc i o f)
theorem own_in32 {i n : Nat} (h : i < n) (hn : n < 2147483648) : Int32.ofNat i < Int32.ofNat n := by
  rw [Int32.lt_iff_toInt_lt, Int32.toInt_ofNat_of_lt (by omega), Int32.toInt_ofNat_of_lt (by omega)]
  omega
theorem own_one (i : Nat) : Int32.ofNat i + (1 : Int32) = Int32.ofNat (i + 1) := (Int32.ofNat_add i 1).symm
theorem own_at32 {i : Nat} (h : i < 2147483648) : ¬ (Int32.ofNat i) < 0 ∧ (Int32.ofNat i).toNatClampNeg = i := by
  refine ⟨?_, ?_⟩
  · rw [Int32.lt_iff_toInt_lt, Int32.toInt_ofNat_of_lt (by omega), show (0 : Int32).toInt = 0 from rfl]; omega
  · rw [Int32.toNatClampNeg, Int32.toInt_ofNat_of_lt (by omega)]; rfl
set_option maxRecDepth 65536 in
set_option maxHeartbeats 4000000 in
theorem loop_read {p : Program} {l : Launch} {e : Env} {s : State} {m : MethodId} {args : Array Value} {below : List Frame} {meth : Method} {c : Code} {Z : State} {a0 : Array Value} {h0 : Heap} {n0 : Nat} (hx : p.tables.exec = Jvm.exec) (hZ : Z.Warmed39 s.vm) (hw : ∀ d ∈ tables_1, d.before a0 Z = true) (hby : c.code = prog_53_method_6_code) (hml : c.maxLocals = 7) (hown : s.vm.findClass "com/example/meterstone/meterstone/core/HexText" = some m.cls)
    (ar : Addr) (po pl : Int32) (o d n : Nat) (f : Nat → Int32) (ho : po = Int32.ofNat o) (hd : pl = Int32.ofNat d) (hod : o + d ≤ n) (hn : n < 2147483648) (hA : ArI Z h0 ar .byte n f) :
    ∀ (k i : Nat) (acc : Int64) (s6 : Slot) {T0 : State} {locs : List Loc}, Stand p l e R2 s m args below meth c T0 locs 0 0 → T0.heap = h0 → Fr n0 locs → n0 ≤ h0.size → One s6 → i + k = d →
      ∃ (T' : State) (L' : List Loc) (s6' : Slot), Stand p l e R2 s m args below meth c T' L' 0 0 ∧ T'.heap = h0 ∧ Fr n0 L' ∧ One s6' ∧
        ∀ t, Steps p.tables e below (T'.setTop (mkF m 54 #[.val (.ref ar), .val (.int po), .val (.int pl), .val (.long (own_acc f o k i acc)), .second, .val (.int (Int32.ofNat d)), s6'] [])) t → Steps p.tables e below (T0.setTop (mkF m 5 #[.val (.ref ar), .val (.int po), .val (.int pl), .val (.long acc), .second, .val (.int (Int32.ofNat i)), s6] [])) t := by
  intro k
  induction k with
  | zero =>
    intro i acc s6 T0 locs X0 e0 N0 Z0 h6 hik
    have hi : i = d := by omega
    obtain ⟨T1, L1, X1, e1, N1, st1⟩ := tn_out ar po pl acc i s6 X0 hx hZ hw hby hml hown e0 N0 Z0 (by rw [hd, hi]; exact fun q => Int32.lt_irrefl q)
    rw [hi] at st1
    rw [hi]
    exact ⟨T1, L1, s6, X1, e1, N1, h6, st1⟩
  | succ k ih =>
    intro i acc s6 T0 locs X0 e0 N0 Z0 h6 hik
    have hix : ¬ (po + (Int32.ofNat i)) < 0 ∧ (po + (Int32.ofNat i)).toNatClampNeg = (o + i) := by
      rw [ho, ← Int32.ofNat_add]; exact own_at32 (by omega)
    obtain ⟨T1, L1, X1, e1, N1, st1⟩ := tn_turn ar po pl acc i o n f s6 X0 hx hZ hw hby hml hown e0 N0 Z0 h6 (by rw [hd]; exact own_in32 (by omega) (by omega)) hix (by omega) hA
    rw [own_one] at st1
    obtain ⟨T2, L2, s2, X2, e2, N2, h2, st2⟩ := ih (i + 1) (v2_47 acc i o f) (.val (.int (f (o + i)))) X1 e1 N1 Z0 (One.val rfl) (by omega)
    exact ⟨T2, L2, s2, X2, e2, N2, h2, fun t k => st1 t (st2 t k)⟩

theorem pn_1 : plainName "com/example/meterstone/meterstone/core/HexText" = true := by first | (simp [plainName, overriddenIn]; done) | decide +kernel
theorem d2_0 : decode prog_53_method_6_code 0 = .ok (.lconst 0, 1) := by decide +kernel
theorem d2_1 : decode prog_53_method_6_code 1 = .ok (.lstore_n 3, 1) := by decide +kernel
theorem d2_2 : decode prog_53_method_6_code 2 = .ok (.iconst 0, 1) := by decide +kernel
theorem d2_3 : decode prog_53_method_6_code 3 = .ok (.istore 5, 2) := by decide +kernel
theorem d2_54 : decode prog_53_method_6_code 54 = .ok (.lload_n 3, 1) := by decide +kernel
theorem d2_55 : decode prog_53_method_6_code 55 = .ok (.lreturn, 1) := by decide +kernel
theorem ef_2 (m : MethodId) (x0 : Addr) (x1 : Int32) (x2 : Int32) : entryFrame m #[(.ref x0), (.int x1), (.int x2)] 7 = mkF m 0 #[.val (.ref x0), .val (.int x1), .val (.int x2), .unset, .unset, .unset, .unset] [] := by first | (simp [entryFrame, mkF, argsToLocals, Value.category]; done) | rfl
def r2 (oo : Nat) (dd : Nat) (ff : Nat → Int32) : Int64 := (own_acc ff oo dd 0 (0 : Int64))
def Q2 (Z : State) (ar : Addr) (po : Int32) (pl : Int32) (oo : Nat) (dd : Nat) (nn : Nat) (ff : Nat → Int32) (h0 : Heap) (n0 : Nat) (v : Option Value) (h : Heap) (L : List Loc) : Prop := v = some (.long (r2 oo dd ff)) ∧ Fr n0 L ∧ h = h0
set_option maxRecDepth 65536 in
set_option maxHeartbeats 40000000 in
theorem rm2 (l : Launch) (Z : State) (a0 : Array Value) (hw : ∀ d ∈ tables_1, d.before a0 Z = true) (ws : List Jvm.Cond) (ar : Addr) (po : Int32) (pl : Int32) (oo : Nat) (dd : Nat) (nn : Nat) (ff : Nat → Int32) (h0 : Heap) (n0 : Nat) (Z0 : n0 ≤ h0.size) (ho : po = Int32.ofNat oo) (hd : pl = Int32.ofNat dd) (hod : oo + dd ≤ nn) (hn : nn < 2147483648) (hA : ArI Z h0 ar .byte nn ff) :
    MetFree l (⟨"com/example/meterstone/meterstone/core/HexText", "read", "([BII)J"⟩ : MethodName) (head1 (Jvm.Cond.code (⟨"com/example/meterstone/meterstone/core/HexText", "read", "([BII)J"⟩ : MethodName) prog_53_method_6_code 7 (some .long) :: ws) R2) (fun a U => a = #[(.ref ar), (.int po), (.int pl)] ∧ Z.Warmed39 U.vm ∧ U.heap = h0) (fun _ _ _ _ _ => True) (fun _ U o U' => ∃ v L, o = .returned v ∧ Q2 Z ar po pl oo dd nn ff h0 n0 v U'.heap L ∧ FrameEnd U o U' L R2.cells R2.slots) := by
  refine MetFree.of_bodySF (plainFor_of_name pn_1) hisR ?_
  intro p e s m args below meth c s₁ Bd hml0 hP hK
  obtain ⟨rfl, hZ, hh⟩ := hP
  have hx := Bd.exec
  have hby := Bd.bytes
  have hml : c.maxLocals = 7 := hml0
  have hown : s.vm.findClass "com/example/meterstone/meterstone/core/HexText" = some m.cls := findClass_of_methodNamed Bd.named
  have hnm := (name_of_methodNamed Bd.named Bd.method).1
  have X0 : Stand p l e R2 s m #[(.ref ar), (.int po), (.int pl)] below meth c s₁ [] 0 0 := Stand.of_body Bd
  have e0 : s₁.heap = h0 := by rw [← hh, Bd.state]; rfl
  have N0 := Fr.nil n0
  have pre0 : ∀ t, Steps p.tables e below (s₁.setTop (mkF m 0 #[.val (.ref ar), .val (.int po), .val (.int pl), .unset, .unset, .unset, .unset] [])) t → Steps p.tables e below (s₁.setTop (entryFrame m #[(.ref ar), (.int po), (.int pl)] 7)) t := fun t k => castTop (ef_2 m ar po pl) k
  have pre1 : ∀ t, Steps p.tables e below (s₁.setTop (mkF m 5 #[.val (.ref ar), .val (.int po), .val (.int pl), .val (.long (0 : Int64)), .second, .val (.int (0 : Int32)), .unset] [])) t → Steps p.tables e below (s₁.setTop (entryFrame m #[(.ref ar), (.int po), (.int pl)] 7)) t := fun t k => pre0 t (by
    refine XS.lconst X0.here hx rfl (hb hby d2_0) ?_
    show Steps p.tables e below (s₁.setTop (mkF m 1 #[.val (.ref ar), .val (.int po), .val (.int pl), .unset, .unset, .unset, .unset] [(.long (0 : Int64))])) _
    refine XS.lstoreN X0.here hx rfl (hb hby d2_1) rfl (l' := #[.val (.ref ar), .val (.int po), .val (.int pl), .val (.long (0 : Int64)), .second, .unset, .unset]) rfl ?_
    show Steps p.tables e below (s₁.setTop (mkF m 2 #[.val (.ref ar), .val (.int po), .val (.int pl), .val (.long (0 : Int64)), .second, .unset, .unset] [])) _
    refine XS.iconst X0.here hx rfl (hb hby d2_2) ?_
    show Steps p.tables e below (s₁.setTop (mkF m 3 #[.val (.ref ar), .val (.int po), .val (.int pl), .val (.long (0 : Int64)), .second, .unset, .unset] [(.int (0 : Int32))])) _
    refine XS.istore X0.here hx rfl (hb hby d2_3) rfl (l' := #[.val (.ref ar), .val (.int po), .val (.int pl), .val (.long (0 : Int64)), .second, .val (.int (0 : Int32)), .unset]) rfl ?_
    show Steps p.tables e below (s₁.setTop (mkF m 5 #[.val (.ref ar), .val (.int po), .val (.int pl), .val (.long (0 : Int64)), .second, .val (.int (0 : Int32)), .unset] [])) _
    exact k)
  obtain ⟨T2, L2, s6, X2, e2, N2, hs6, st2⟩ := loop_read (T0 := s₁) hx hZ hw hby hml hown ar po pl oo dd nn ff ho hd hod hn hA dd 0 (0 : Int64) .unset X0 e0 N0 Z0 One.u (by omega)
  have pre2 : ∀ t, Steps p.tables e below (T2.setTop (mkF m 54 #[.val (.ref ar), .val (.int po), .val (.int pl), .val (.long (own_acc ff oo dd 0 (0 : Int64))), .second, .val (.int (Int32.ofNat dd)), s6] [])) t → Steps p.tables e below (s₁.setTop (entryFrame m #[(.ref ar), (.int po), (.int pl)] 7)) t := fun t k => pre1 t (st2 t k)
  have pre3 : ∀ t, Steps p.tables e below (T2.setTop (mkF m 55 #[.val (.ref ar), .val (.int po), .val (.int pl), .val (.long (own_acc ff oo dd 0 (0 : Int64))), .second, .val (.int (Int32.ofNat dd)), s6] [(.long (own_acc ff oo dd 0 (0 : Int64)))])) t → Steps p.tables e below (s₁.setTop (entryFrame m #[(.ref ar), (.int po), (.int pl)] 7)) t := fun t k => pre2 t (by
    refine XS.lloadN X2.here hx rfl (hb hby d2_54) rfl ?_
    show Steps p.tables e below (T2.setTop (mkF m 55 #[.val (.ref ar), .val (.int po), .val (.int pl), .val (.long (own_acc ff oo dd 0 (0 : Int64))), .second, .val (.int (Int32.ofNat dd)), s6] [(.long (own_acc ff oo dd 0 (0 : Int64)))])) _
    exact k)
  obtain ⟨fs, hr, hrun, hended, hW, hsame⟩ := X2.leave (v := some (.long (own_acc ff oo dd 0 (0 : Int64)))) (fun h => by rw [Bd.returns] at h; cases h) Bd.notSynchronized
  refine ⟨_, _, pre3 _ ?_, hrun, hended, _, _, rfl, ?_, ⟨_, rfl⟩, hW, hsame.mono (by decide) (by decide)⟩
  · show Steps p.tables e below (T2.setTop (mkF m 55 #[.val (.ref ar), .val (.int po), .val (.int pl), .val (.long (own_acc ff oo dd 0 (0 : Int64))), .second, .val (.int (Int32.ofNat dd)), s6] [(.long (own_acc ff oo dd 0 (0 : Int64)))])) _
    exact own_retJ X2 hx Bd.returns (hb hby d2_55) hr
  · show Q2 Z ar po pl oo dd nn ff h0 n0 _ T2.heap _
    rw [e2]
    exact ⟨rfl, N2, rfl⟩
def own_pad (p : Int32) : Nat := (p &&& (3 : Int32)).toNatClampNeg
def own_dig (d : Int32) : Nat := ((d &&& (2147483647 : Int32)) % (17 : Int32)).toNatClampNeg
theorem pd_0 : parseMethodDescriptor "(JI)B" = some ⟨[.long, .int], some .byte⟩ := by decide +kernel
theorem pd_1 : parseMethodDescriptor "([BII)J" = some ⟨[(.array .byte), .int, .int], some .long⟩ := by decide +kernel
theorem ef_0 (m : MethodId) (x0 : Int64) (x1 : Int32) (x2 : Int32) (x3 : Int32) : entryFrame m #[(.long x0), (.int x1), (.int x2), (.int x3)] maxLocals = mkF m 0 #[.val (.long x0), .second, .val (.int x1), .val (.int x2), .val (.int x3), .unset, .unset, .unset, .unset, .unset, .unset, .unset, .unset, .unset, .unset, .unset, .unset] [] := by first | (simp [entryFrame, mkF, argsToLocals, Value.category, maxLocals]; done) | rfl
def v0_7 (p0_1 : Int32) : Int32 := ((p0_1 &&& (2147483647 : Int32)) % (17 : Int32))
def v0_12 (p0_2 : Int32) : Int32 := (p0_2 &&& (3 : Int32))
def v0_17 (p0_3 : Int32) : Int32 := ((p0_3).toInt8.toInt32)
def g0_36 (p0_3 : Int32) : Nat → Int32 := (own_upd (own_upd (fun _ => (0 : Int32)) 0 (nar .byte (v0_17 p0_3))) 1 (nar .byte (v0_17 p0_3)))
def g0_49 (p0_3 : Int32) : Nat → Int32 := (own_upd (own_upd (g0_36 p0_3) 2 (nar .byte (v0_17 p0_3))) 16 (nar .byte (v0_17 p0_3)))
def g0_63 (p0_3 : Int32) : Nat → Int32 := (own_upd (own_upd (g0_49 p0_3) 17 (nar .byte (v0_17 p0_3))) 18 (nar .byte (v0_17 p0_3)))
def v0_73 (p0_0 : Int64) : Int32 := (r1 p0_0 (0 : Int32))
def g0_73 (p0_0 : Int64) (p0_2 : Int32) (p0_3 : Int32) : Nat → Int32 := (own_upd (g0_63 p0_3) (own_pad p0_2 + 0) (nar .byte (v0_73 p0_0)))
def v0_85 (p0_0 : Int64) : Int32 := (r1 p0_0 (1 : Int32))
def g0_85 (p0_0 : Int64) (p0_2 : Int32) (p0_3 : Int32) : Nat → Int32 := (own_upd (g0_73 p0_0 p0_2 p0_3) (own_pad p0_2 + 1) (nar .byte (v0_85 p0_0)))
def v0_97 (p0_0 : Int64) : Int32 := (r1 p0_0 (2 : Int32))
def g0_97 (p0_0 : Int64) (p0_2 : Int32) (p0_3 : Int32) : Nat → Int32 := (own_upd (g0_85 p0_0 p0_2 p0_3) (own_pad p0_2 + 2) (nar .byte (v0_97 p0_0)))
def v0_109 (p0_0 : Int64) : Int32 := (r1 p0_0 (3 : Int32))
def g0_109 (p0_0 : Int64) (p0_2 : Int32) (p0_3 : Int32) : Nat → Int32 := (own_upd (g0_97 p0_0 p0_2 p0_3) (own_pad p0_2 + 3) (nar .byte (v0_109 p0_0)))
def v0_121 (p0_0 : Int64) : Int32 := (r1 p0_0 (4 : Int32))
def g0_121 (p0_0 : Int64) (p0_2 : Int32) (p0_3 : Int32) : Nat → Int32 := (own_upd (g0_109 p0_0 p0_2 p0_3) (own_pad p0_2 + 4) (nar .byte (v0_121 p0_0)))
def v0_133 (p0_0 : Int64) : Int32 := (r1 p0_0 (5 : Int32))
def g0_133 (p0_0 : Int64) (p0_2 : Int32) (p0_3 : Int32) : Nat → Int32 := (own_upd (g0_121 p0_0 p0_2 p0_3) (own_pad p0_2 + 5) (nar .byte (v0_133 p0_0)))
def v0_147 (p0_0 : Int64) : Int32 := (r1 p0_0 (6 : Int32))
def g0_147 (p0_0 : Int64) (p0_2 : Int32) (p0_3 : Int32) : Nat → Int32 := (own_upd (g0_133 p0_0 p0_2 p0_3) (own_pad p0_2 + 6) (nar .byte (v0_147 p0_0)))
def v0_161 (p0_0 : Int64) : Int32 := (r1 p0_0 (7 : Int32))
def g0_161 (p0_0 : Int64) (p0_2 : Int32) (p0_3 : Int32) : Nat → Int32 := (own_upd (g0_147 p0_0 p0_2 p0_3) (own_pad p0_2 + 7) (nar .byte (v0_161 p0_0)))
def v0_175 (p0_0 : Int64) : Int32 := (r1 p0_0 (8 : Int32))
def g0_175 (p0_0 : Int64) (p0_2 : Int32) (p0_3 : Int32) : Nat → Int32 := (own_upd (g0_161 p0_0 p0_2 p0_3) (own_pad p0_2 + 8) (nar .byte (v0_175 p0_0)))
def v0_189 (p0_0 : Int64) : Int32 := (r1 p0_0 (9 : Int32))
def g0_189 (p0_0 : Int64) (p0_2 : Int32) (p0_3 : Int32) : Nat → Int32 := (own_upd (g0_175 p0_0 p0_2 p0_3) (own_pad p0_2 + 9) (nar .byte (v0_189 p0_0)))
def v0_203 (p0_0 : Int64) : Int32 := (r1 p0_0 (10 : Int32))
def g0_203 (p0_0 : Int64) (p0_2 : Int32) (p0_3 : Int32) : Nat → Int32 := (own_upd (g0_189 p0_0 p0_2 p0_3) (own_pad p0_2 + 10) (nar .byte (v0_203 p0_0)))
def v0_217 (p0_0 : Int64) : Int32 := (r1 p0_0 (11 : Int32))
def g0_217 (p0_0 : Int64) (p0_2 : Int32) (p0_3 : Int32) : Nat → Int32 := (own_upd (g0_203 p0_0 p0_2 p0_3) (own_pad p0_2 + 11) (nar .byte (v0_217 p0_0)))
def v0_231 (p0_0 : Int64) : Int32 := (r1 p0_0 (12 : Int32))
def g0_231 (p0_0 : Int64) (p0_2 : Int32) (p0_3 : Int32) : Nat → Int32 := (own_upd (g0_217 p0_0 p0_2 p0_3) (own_pad p0_2 + 12) (nar .byte (v0_231 p0_0)))
def v0_245 (p0_0 : Int64) : Int32 := (r1 p0_0 (13 : Int32))
def g0_245 (p0_0 : Int64) (p0_2 : Int32) (p0_3 : Int32) : Nat → Int32 := (own_upd (g0_231 p0_0 p0_2 p0_3) (own_pad p0_2 + 13) (nar .byte (v0_245 p0_0)))
def v0_259 (p0_0 : Int64) : Int32 := (r1 p0_0 (14 : Int32))
def g0_259 (p0_0 : Int64) (p0_2 : Int32) (p0_3 : Int32) : Nat → Int32 := (own_upd (g0_245 p0_0 p0_2 p0_3) (own_pad p0_2 + 14) (nar .byte (v0_259 p0_0)))
def v0_273 (p0_0 : Int64) : Int32 := (r1 p0_0 (15 : Int32))
def g0_273 (p0_0 : Int64) (p0_2 : Int32) (p0_3 : Int32) : Nat → Int32 := (own_upd (g0_259 p0_0 p0_2 p0_3) (own_pad p0_2 + 15) (nar .byte (v0_273 p0_0)))
def j0_295_s0 (p0_0 : Int64) (p0_1 : Int32) : Int64 := (if (v0_7 p0_1) = (16 : Int32) then p0_0 else (p0_0 &&& ((own_shlL (1 : Int64) ((4 : Int32) * (v0_7 p0_1))) - (1 : Int64))))
def j0_315_s0 (p0_0 : Int64) (p0_1 : Int32) : Int64 := (if (v0_7 p0_1) = (0 : Int32) then (0 : Int64) else (own_ushrL p0_0 ((64 : Int32) - ((4 : Int32) * (v0_7 p0_1)))))
def c0_329 (p0_0 : Int64) (p0_1 : Int32) (p0_2 : Int32) (p0_3 : Int32) : Int64 := (r2 (own_pad p0_2 + 16 - own_dig p0_1) (own_dig p0_1) (g0_273 p0_0 p0_2 p0_3))
def v0_343 (p0_0 : Int64) (p0_1 : Int32) (p0_2 : Int32) (p0_3 : Int32) : Int64 := (r2 (own_pad p0_2) (own_dig p0_1) (g0_273 p0_0 p0_2 p0_3))
theorem own_padI (p : Int32) : (v0_12 p).toInt = (own_pad p : Int) ∧ own_pad p < 4 := by
  have h : (v0_12 p).toInt = p.toInt % 2 ^ 2 := by unfold v0_12; exact Jvm.Kit.i32_mask p _ (k := 2) (by decide) (by decide)
  have q : own_pad p = (v0_12 p).toInt.toNat := rfl
  omega
theorem own_digI (d : Int32) : (v0_7 d).toInt = (own_dig d : Int) ∧ own_dig d < 17 := by
  have a1 : (d &&& (2147483647 : Int32)).toInt = d.toInt % 2 ^ 31 := Jvm.Kit.i32_mask d _ (k := 31) (by decide) (by decide)
  have h : (v0_7 d).toInt = (d.toInt % 2 ^ 31) % 17 := by unfold v0_7; rw [Jvm.Kit.i32_rem_nonneg (by omega), a1]; rfl
  have q : own_dig d = (v0_7 d).toInt.toNat := rfl
  omega
theorem own_pk0 (p : Int32) : ¬ (v0_12 p) < 0 ∧ (v0_12 p).toNatClampNeg = own_pad p + 0 := by
  have h := own_padI p
  refine ⟨?_, rfl⟩
  rw [Int32.lt_iff_toInt_lt, show (0 : Int32).toInt = 0 from rfl]; omega
theorem own_pkG (p : Int32) (k : Nat) (hk : k < 16) : ¬ ((v0_12 p) + (Int32.ofNat k)) < 0 ∧ ((v0_12 p) + (Int32.ofNat k)).toNatClampNeg = own_pad p + k := by
  have h := own_padI p
  have e : (Int32.ofNat k).toInt = (k : Int) := Int32.toInt_ofNat_of_lt (by omega)
  have f : ((v0_12 p) + (Int32.ofNat k)).toInt = (own_pad p : Int) + k := by rw [Jvm.Kit.i32_add (by rw [e]; omega) (by rw [e]; omega), e, h.1]
  refine ⟨?_, ?_⟩
  · rw [Int32.lt_iff_toInt_lt, f, show (0 : Int32).toInt = 0 from rfl]; omega
  · show ((v0_12 p) + (Int32.ofNat k)).toInt.toNat = _
    rw [f]; omega
theorem own_pk1 (p : Int32) : ¬ ((v0_12 p) + (1 : Int32)) < 0 ∧ ((v0_12 p) + (1 : Int32)).toNatClampNeg = own_pad p + 1 := own_pkG p 1 (by decide)
theorem own_pk2 (p : Int32) : ¬ ((v0_12 p) + (2 : Int32)) < 0 ∧ ((v0_12 p) + (2 : Int32)).toNatClampNeg = own_pad p + 2 := own_pkG p 2 (by decide)
theorem own_pk3 (p : Int32) : ¬ ((v0_12 p) + (3 : Int32)) < 0 ∧ ((v0_12 p) + (3 : Int32)).toNatClampNeg = own_pad p + 3 := own_pkG p 3 (by decide)
theorem own_pk4 (p : Int32) : ¬ ((v0_12 p) + (4 : Int32)) < 0 ∧ ((v0_12 p) + (4 : Int32)).toNatClampNeg = own_pad p + 4 := own_pkG p 4 (by decide)
theorem own_pk5 (p : Int32) : ¬ ((v0_12 p) + (5 : Int32)) < 0 ∧ ((v0_12 p) + (5 : Int32)).toNatClampNeg = own_pad p + 5 := own_pkG p 5 (by decide)
theorem own_pk6 (p : Int32) : ¬ ((v0_12 p) + (6 : Int32)) < 0 ∧ ((v0_12 p) + (6 : Int32)).toNatClampNeg = own_pad p + 6 := own_pkG p 6 (by decide)
theorem own_pk7 (p : Int32) : ¬ ((v0_12 p) + (7 : Int32)) < 0 ∧ ((v0_12 p) + (7 : Int32)).toNatClampNeg = own_pad p + 7 := own_pkG p 7 (by decide)
theorem own_pk8 (p : Int32) : ¬ ((v0_12 p) + (8 : Int32)) < 0 ∧ ((v0_12 p) + (8 : Int32)).toNatClampNeg = own_pad p + 8 := own_pkG p 8 (by decide)
theorem own_pk9 (p : Int32) : ¬ ((v0_12 p) + (9 : Int32)) < 0 ∧ ((v0_12 p) + (9 : Int32)).toNatClampNeg = own_pad p + 9 := own_pkG p 9 (by decide)
theorem own_pk10 (p : Int32) : ¬ ((v0_12 p) + (10 : Int32)) < 0 ∧ ((v0_12 p) + (10 : Int32)).toNatClampNeg = own_pad p + 10 := own_pkG p 10 (by decide)
theorem own_pk11 (p : Int32) : ¬ ((v0_12 p) + (11 : Int32)) < 0 ∧ ((v0_12 p) + (11 : Int32)).toNatClampNeg = own_pad p + 11 := own_pkG p 11 (by decide)
theorem own_pk12 (p : Int32) : ¬ ((v0_12 p) + (12 : Int32)) < 0 ∧ ((v0_12 p) + (12 : Int32)).toNatClampNeg = own_pad p + 12 := own_pkG p 12 (by decide)
theorem own_pk13 (p : Int32) : ¬ ((v0_12 p) + (13 : Int32)) < 0 ∧ ((v0_12 p) + (13 : Int32)).toNatClampNeg = own_pad p + 13 := own_pkG p 13 (by decide)
theorem own_pk14 (p : Int32) : ¬ ((v0_12 p) + (14 : Int32)) < 0 ∧ ((v0_12 p) + (14 : Int32)).toNatClampNeg = own_pad p + 14 := own_pkG p 14 (by decide)
theorem own_pk15 (p : Int32) : ¬ ((v0_12 p) + (15 : Int32)) < 0 ∧ ((v0_12 p) + (15 : Int32)).toNatClampNeg = own_pad p + 15 := own_pkG p 15 (by decide)
theorem own_pkl (p : Int32) (k : Nat) (hk : k < 16) : own_pad p + k < 19 := by have := own_padI p; omega
theorem own_o (d p : Int32) : (((v0_12 p) + (16 : Int32)) - (v0_7 d)) = Int32.ofNat (own_pad p + 16 - own_dig d) := by
  have h := own_padI p
  have g := own_digI d
  have s : (16 : Int32).toInt = 16 := rfl
  have f : ((v0_12 p) + (16 : Int32)).toInt = (own_pad p : Int) + 16 := by rw [Jvm.Kit.i32_add (by rw [s]; omega) (by rw [s]; omega), s, h.1]
  apply Int32.toInt_inj.mp
  rw [Jvm.Kit.i32_sub (by rw [f]; omega) (by rw [f]; omega), f, g.1, Int32.toInt_ofNat_of_lt (by omega)]; omega
theorem own_d (d : Int32) : v0_7 d = Int32.ofNat (own_dig d) := by
  have g := own_digI d
  apply Int32.toInt_inj.mp
  rw [g.1, Int32.toInt_ofNat_of_lt (by omega)]
theorem own_od (d p : Int32) : own_pad p + 16 - own_dig d + own_dig d ≤ 19 := by
  have h := own_padI p
  have g := own_digI d
  omega
theorem own_o' (p : Int32) : v0_12 p = Int32.ofNat (own_pad p) := by
  have g := own_padI p
  apply Int32.toInt_inj.mp
  rw [g.1, Int32.toInt_ofNat_of_lt (by omega)]
theorem own_od' (d p : Int32) : own_pad p + own_dig d ≤ 19 := by
  have h := own_padI p
  have g := own_digI d
  omega
/-- the unsigned worth of a long -/
def own_N (x : Int64) : Nat := x.toBitVec.toNat
def own_nib (V j : Nat) : Nat := V / 16 ^ (15 - j) % 16
def own_A (n : Nat) : Int32 := if n < 10 then Int32.ofNat (48 + n) else Int32.ofNat (87 + n)
theorem own_byte : ∀ n, n < 16 → nar .byte (nar .byte ((own_A n).toInt8.toInt32)) = own_A n := by decide +kernel
theorem own_back : ∀ n, n < 16 → (if (57 : Int32) < own_A n then ((own_A n - (97 : Int32)) + (10 : Int32)) else (own_A n - (48 : Int32))) = Int32.ofNat n := by decide +kernel
theorem own_hex (x : Int32) (n : Nat) (hn : n < 16) (h : x.toInt = (n : Int)) : (if x < (10 : Int32) then ((48 : Int32) + x) else (((97 : Int32) + x) - (10 : Int32))) = own_A n := by
  obtain rfl : x = Int32.ofNat n := Int32.toInt_inj.mp (by rw [h, Int32.toInt_ofNat_of_lt (by omega)])
  clear h
  revert n; decide +kernel
theorem own_low4 (y : Int64) (V k : Nat) (h : y.toBitVec.toNat = V / 2 ^ k) : (((y.toInt32) &&& (15 : Int32))).toInt = ((V / 2 ^ k % 16 : Nat) : Int) := by
  rw [Jvm.Kit.i32_mask _ _ (k := 4) (by decide) (by decide), Int64.toInt_toInt32, show y.toInt = y.toBitVec.toInt from rfl, BitVec.toInt_eq_toNat_bmod, h]
  rw [Int.bmod_def, Int.bmod_def]
  generalize V / 2 ^ k = w
  split <;> split <;> omega
theorem own_h0 (v : Int64) : nar .byte (r1 v (0 : Int32)) = own_A (own_nib (own_N v) 0) := by
  have u : (own_ushrL v ((60 : Int32) - ((4 : Int32) * (0 : Int32)))).toBitVec = v.toBitVec >>> 60 := rfl
  have e : (v1_12 v (0 : Int32)).toInt = ((own_N v / 2 ^ 60 % 16 : Nat) : Int) := own_low4 _ (own_N v) 60 (by rw [u, BitVec.toNat_ushiftRight, Nat.shiftRight_eq_div_pow]; rfl)
  have q : j1_33_s0 v (0 : Int32) = own_A (own_N v / 2 ^ 60 % 16) := by unfold j1_33_s0; exact own_hex _ _ (Nat.mod_lt _ (by decide)) e
  unfold r1; rw [q, own_byte _ (Nat.mod_lt _ (by decide))]; rfl
theorem own_h1 (v : Int64) : nar .byte (r1 v (1 : Int32)) = own_A (own_nib (own_N v) 1) := by
  have u : (own_ushrL v ((60 : Int32) - ((4 : Int32) * (1 : Int32)))).toBitVec = v.toBitVec >>> 56 := rfl
  have e : (v1_12 v (1 : Int32)).toInt = ((own_N v / 2 ^ 56 % 16 : Nat) : Int) := own_low4 _ (own_N v) 56 (by rw [u, BitVec.toNat_ushiftRight, Nat.shiftRight_eq_div_pow]; rfl)
  have q : j1_33_s0 v (1 : Int32) = own_A (own_N v / 2 ^ 56 % 16) := by unfold j1_33_s0; exact own_hex _ _ (Nat.mod_lt _ (by decide)) e
  unfold r1; rw [q, own_byte _ (Nat.mod_lt _ (by decide))]; rfl
theorem own_h2 (v : Int64) : nar .byte (r1 v (2 : Int32)) = own_A (own_nib (own_N v) 2) := by
  have u : (own_ushrL v ((60 : Int32) - ((4 : Int32) * (2 : Int32)))).toBitVec = v.toBitVec >>> 52 := rfl
  have e : (v1_12 v (2 : Int32)).toInt = ((own_N v / 2 ^ 52 % 16 : Nat) : Int) := own_low4 _ (own_N v) 52 (by rw [u, BitVec.toNat_ushiftRight, Nat.shiftRight_eq_div_pow]; rfl)
  have q : j1_33_s0 v (2 : Int32) = own_A (own_N v / 2 ^ 52 % 16) := by unfold j1_33_s0; exact own_hex _ _ (Nat.mod_lt _ (by decide)) e
  unfold r1; rw [q, own_byte _ (Nat.mod_lt _ (by decide))]; rfl
theorem own_h3 (v : Int64) : nar .byte (r1 v (3 : Int32)) = own_A (own_nib (own_N v) 3) := by
  have u : (own_ushrL v ((60 : Int32) - ((4 : Int32) * (3 : Int32)))).toBitVec = v.toBitVec >>> 48 := rfl
  have e : (v1_12 v (3 : Int32)).toInt = ((own_N v / 2 ^ 48 % 16 : Nat) : Int) := own_low4 _ (own_N v) 48 (by rw [u, BitVec.toNat_ushiftRight, Nat.shiftRight_eq_div_pow]; rfl)
  have q : j1_33_s0 v (3 : Int32) = own_A (own_N v / 2 ^ 48 % 16) := by unfold j1_33_s0; exact own_hex _ _ (Nat.mod_lt _ (by decide)) e
  unfold r1; rw [q, own_byte _ (Nat.mod_lt _ (by decide))]; rfl
theorem own_h4 (v : Int64) : nar .byte (r1 v (4 : Int32)) = own_A (own_nib (own_N v) 4) := by
  have u : (own_ushrL v ((60 : Int32) - ((4 : Int32) * (4 : Int32)))).toBitVec = v.toBitVec >>> 44 := rfl
  have e : (v1_12 v (4 : Int32)).toInt = ((own_N v / 2 ^ 44 % 16 : Nat) : Int) := own_low4 _ (own_N v) 44 (by rw [u, BitVec.toNat_ushiftRight, Nat.shiftRight_eq_div_pow]; rfl)
  have q : j1_33_s0 v (4 : Int32) = own_A (own_N v / 2 ^ 44 % 16) := by unfold j1_33_s0; exact own_hex _ _ (Nat.mod_lt _ (by decide)) e
  unfold r1; rw [q, own_byte _ (Nat.mod_lt _ (by decide))]; rfl
theorem own_h5 (v : Int64) : nar .byte (r1 v (5 : Int32)) = own_A (own_nib (own_N v) 5) := by
  have u : (own_ushrL v ((60 : Int32) - ((4 : Int32) * (5 : Int32)))).toBitVec = v.toBitVec >>> 40 := rfl
  have e : (v1_12 v (5 : Int32)).toInt = ((own_N v / 2 ^ 40 % 16 : Nat) : Int) := own_low4 _ (own_N v) 40 (by rw [u, BitVec.toNat_ushiftRight, Nat.shiftRight_eq_div_pow]; rfl)
  have q : j1_33_s0 v (5 : Int32) = own_A (own_N v / 2 ^ 40 % 16) := by unfold j1_33_s0; exact own_hex _ _ (Nat.mod_lt _ (by decide)) e
  unfold r1; rw [q, own_byte _ (Nat.mod_lt _ (by decide))]; rfl
theorem own_h6 (v : Int64) : nar .byte (r1 v (6 : Int32)) = own_A (own_nib (own_N v) 6) := by
  have u : (own_ushrL v ((60 : Int32) - ((4 : Int32) * (6 : Int32)))).toBitVec = v.toBitVec >>> 36 := rfl
  have e : (v1_12 v (6 : Int32)).toInt = ((own_N v / 2 ^ 36 % 16 : Nat) : Int) := own_low4 _ (own_N v) 36 (by rw [u, BitVec.toNat_ushiftRight, Nat.shiftRight_eq_div_pow]; rfl)
  have q : j1_33_s0 v (6 : Int32) = own_A (own_N v / 2 ^ 36 % 16) := by unfold j1_33_s0; exact own_hex _ _ (Nat.mod_lt _ (by decide)) e
  unfold r1; rw [q, own_byte _ (Nat.mod_lt _ (by decide))]; rfl
theorem own_h7 (v : Int64) : nar .byte (r1 v (7 : Int32)) = own_A (own_nib (own_N v) 7) := by
  have u : (own_ushrL v ((60 : Int32) - ((4 : Int32) * (7 : Int32)))).toBitVec = v.toBitVec >>> 32 := rfl
  have e : (v1_12 v (7 : Int32)).toInt = ((own_N v / 2 ^ 32 % 16 : Nat) : Int) := own_low4 _ (own_N v) 32 (by rw [u, BitVec.toNat_ushiftRight, Nat.shiftRight_eq_div_pow]; rfl)
  have q : j1_33_s0 v (7 : Int32) = own_A (own_N v / 2 ^ 32 % 16) := by unfold j1_33_s0; exact own_hex _ _ (Nat.mod_lt _ (by decide)) e
  unfold r1; rw [q, own_byte _ (Nat.mod_lt _ (by decide))]; rfl
theorem own_h8 (v : Int64) : nar .byte (r1 v (8 : Int32)) = own_A (own_nib (own_N v) 8) := by
  have u : (own_ushrL v ((60 : Int32) - ((4 : Int32) * (8 : Int32)))).toBitVec = v.toBitVec >>> 28 := rfl
  have e : (v1_12 v (8 : Int32)).toInt = ((own_N v / 2 ^ 28 % 16 : Nat) : Int) := own_low4 _ (own_N v) 28 (by rw [u, BitVec.toNat_ushiftRight, Nat.shiftRight_eq_div_pow]; rfl)
  have q : j1_33_s0 v (8 : Int32) = own_A (own_N v / 2 ^ 28 % 16) := by unfold j1_33_s0; exact own_hex _ _ (Nat.mod_lt _ (by decide)) e
  unfold r1; rw [q, own_byte _ (Nat.mod_lt _ (by decide))]; rfl
theorem own_h9 (v : Int64) : nar .byte (r1 v (9 : Int32)) = own_A (own_nib (own_N v) 9) := by
  have u : (own_ushrL v ((60 : Int32) - ((4 : Int32) * (9 : Int32)))).toBitVec = v.toBitVec >>> 24 := rfl
  have e : (v1_12 v (9 : Int32)).toInt = ((own_N v / 2 ^ 24 % 16 : Nat) : Int) := own_low4 _ (own_N v) 24 (by rw [u, BitVec.toNat_ushiftRight, Nat.shiftRight_eq_div_pow]; rfl)
  have q : j1_33_s0 v (9 : Int32) = own_A (own_N v / 2 ^ 24 % 16) := by unfold j1_33_s0; exact own_hex _ _ (Nat.mod_lt _ (by decide)) e
  unfold r1; rw [q, own_byte _ (Nat.mod_lt _ (by decide))]; rfl
theorem own_h10 (v : Int64) : nar .byte (r1 v (10 : Int32)) = own_A (own_nib (own_N v) 10) := by
  have u : (own_ushrL v ((60 : Int32) - ((4 : Int32) * (10 : Int32)))).toBitVec = v.toBitVec >>> 20 := rfl
  have e : (v1_12 v (10 : Int32)).toInt = ((own_N v / 2 ^ 20 % 16 : Nat) : Int) := own_low4 _ (own_N v) 20 (by rw [u, BitVec.toNat_ushiftRight, Nat.shiftRight_eq_div_pow]; rfl)
  have q : j1_33_s0 v (10 : Int32) = own_A (own_N v / 2 ^ 20 % 16) := by unfold j1_33_s0; exact own_hex _ _ (Nat.mod_lt _ (by decide)) e
  unfold r1; rw [q, own_byte _ (Nat.mod_lt _ (by decide))]; rfl
theorem own_h11 (v : Int64) : nar .byte (r1 v (11 : Int32)) = own_A (own_nib (own_N v) 11) := by
  have u : (own_ushrL v ((60 : Int32) - ((4 : Int32) * (11 : Int32)))).toBitVec = v.toBitVec >>> 16 := rfl
  have e : (v1_12 v (11 : Int32)).toInt = ((own_N v / 2 ^ 16 % 16 : Nat) : Int) := own_low4 _ (own_N v) 16 (by rw [u, BitVec.toNat_ushiftRight, Nat.shiftRight_eq_div_pow]; rfl)
  have q : j1_33_s0 v (11 : Int32) = own_A (own_N v / 2 ^ 16 % 16) := by unfold j1_33_s0; exact own_hex _ _ (Nat.mod_lt _ (by decide)) e
  unfold r1; rw [q, own_byte _ (Nat.mod_lt _ (by decide))]; rfl
theorem own_h12 (v : Int64) : nar .byte (r1 v (12 : Int32)) = own_A (own_nib (own_N v) 12) := by
  have u : (own_ushrL v ((60 : Int32) - ((4 : Int32) * (12 : Int32)))).toBitVec = v.toBitVec >>> 12 := rfl
  have e : (v1_12 v (12 : Int32)).toInt = ((own_N v / 2 ^ 12 % 16 : Nat) : Int) := own_low4 _ (own_N v) 12 (by rw [u, BitVec.toNat_ushiftRight, Nat.shiftRight_eq_div_pow]; rfl)
  have q : j1_33_s0 v (12 : Int32) = own_A (own_N v / 2 ^ 12 % 16) := by unfold j1_33_s0; exact own_hex _ _ (Nat.mod_lt _ (by decide)) e
  unfold r1; rw [q, own_byte _ (Nat.mod_lt _ (by decide))]; rfl
theorem own_h13 (v : Int64) : nar .byte (r1 v (13 : Int32)) = own_A (own_nib (own_N v) 13) := by
  have u : (own_ushrL v ((60 : Int32) - ((4 : Int32) * (13 : Int32)))).toBitVec = v.toBitVec >>> 8 := rfl
  have e : (v1_12 v (13 : Int32)).toInt = ((own_N v / 2 ^ 8 % 16 : Nat) : Int) := own_low4 _ (own_N v) 8 (by rw [u, BitVec.toNat_ushiftRight, Nat.shiftRight_eq_div_pow]; rfl)
  have q : j1_33_s0 v (13 : Int32) = own_A (own_N v / 2 ^ 8 % 16) := by unfold j1_33_s0; exact own_hex _ _ (Nat.mod_lt _ (by decide)) e
  unfold r1; rw [q, own_byte _ (Nat.mod_lt _ (by decide))]; rfl
theorem own_h14 (v : Int64) : nar .byte (r1 v (14 : Int32)) = own_A (own_nib (own_N v) 14) := by
  have u : (own_ushrL v ((60 : Int32) - ((4 : Int32) * (14 : Int32)))).toBitVec = v.toBitVec >>> 4 := rfl
  have e : (v1_12 v (14 : Int32)).toInt = ((own_N v / 2 ^ 4 % 16 : Nat) : Int) := own_low4 _ (own_N v) 4 (by rw [u, BitVec.toNat_ushiftRight, Nat.shiftRight_eq_div_pow]; rfl)
  have q : j1_33_s0 v (14 : Int32) = own_A (own_N v / 2 ^ 4 % 16) := by unfold j1_33_s0; exact own_hex _ _ (Nat.mod_lt _ (by decide)) e
  unfold r1; rw [q, own_byte _ (Nat.mod_lt _ (by decide))]; rfl
theorem own_h15 (v : Int64) : nar .byte (r1 v (15 : Int32)) = own_A (own_nib (own_N v) 15) := by
  have u : (own_ushrL v ((60 : Int32) - ((4 : Int32) * (15 : Int32)))).toBitVec = v.toBitVec >>> 0 := rfl
  have e : (v1_12 v (15 : Int32)).toInt = ((own_N v / 2 ^ 0 % 16 : Nat) : Int) := own_low4 _ (own_N v) 0 (by rw [u, BitVec.toNat_ushiftRight, Nat.shiftRight_eq_div_pow]; rfl)
  have q : j1_33_s0 v (15 : Int32) = own_A (own_N v / 2 ^ 0 % 16) := by unfold j1_33_s0; exact own_hex _ _ (Nat.mod_lt _ (by decide)) e
  unfold r1; rw [q, own_byte _ (Nat.mod_lt _ (by decide))]; rfl
theorem own_gg (v : Int64) (p g : Int32) (j : Nat) (hj : j < 16) : g0_273 v p g (own_pad p + j) = own_A (own_nib (own_N v) j) := by
  unfold g0_273 g0_259 g0_245 g0_231 g0_217 g0_203 g0_189 g0_175 g0_161 g0_147 g0_133 g0_121 g0_109 g0_97 g0_85 g0_73 v0_73 v0_85 v0_97 v0_109 v0_121 v0_133 v0_147 v0_161 v0_175 v0_189 v0_203 v0_217 v0_231 v0_245 v0_259 v0_273 own_upd
  simp only [own_h0, own_h1, own_h2, own_h3, own_h4, own_h5, own_h6, own_h7, own_h8, own_h9, own_h10, own_h11, own_h12, own_h13, own_h14, own_h15]
  rcases (by omega : j = 0 ∨ j = 1 ∨ j = 2 ∨ j = 3 ∨ j = 4 ∨ j = 5 ∨ j = 6 ∨ j = 7 ∨ j = 8 ∨ j = 9 ∨ j = 10 ∨ j = 11 ∨ j = 12 ∨ j = 13 ∨ j = 14 ∨ j = 15) with rfl | rfl | rfl | rfl | rfl | rfl | rfl | rfl | rfl | rfl | rfl | rfl | rfl | rfl | rfl | rfl
  · rw [if_neg (by omega), if_neg (by omega), if_neg (by omega), if_neg (by omega), if_neg (by omega), if_neg (by omega), if_neg (by omega), if_neg (by omega), if_neg (by omega), if_neg (by omega), if_neg (by omega), if_neg (by omega), if_neg (by omega), if_neg (by omega), if_neg (by omega), if_pos rfl]
  · rw [if_neg (by omega), if_neg (by omega), if_neg (by omega), if_neg (by omega), if_neg (by omega), if_neg (by omega), if_neg (by omega), if_neg (by omega), if_neg (by omega), if_neg (by omega), if_neg (by omega), if_neg (by omega), if_neg (by omega), if_neg (by omega), if_pos rfl]
  · rw [if_neg (by omega), if_neg (by omega), if_neg (by omega), if_neg (by omega), if_neg (by omega), if_neg (by omega), if_neg (by omega), if_neg (by omega), if_neg (by omega), if_neg (by omega), if_neg (by omega), if_neg (by omega), if_neg (by omega), if_pos rfl]
  · rw [if_neg (by omega), if_neg (by omega), if_neg (by omega), if_neg (by omega), if_neg (by omega), if_neg (by omega), if_neg (by omega), if_neg (by omega), if_neg (by omega), if_neg (by omega), if_neg (by omega), if_neg (by omega), if_pos rfl]
  · rw [if_neg (by omega), if_neg (by omega), if_neg (by omega), if_neg (by omega), if_neg (by omega), if_neg (by omega), if_neg (by omega), if_neg (by omega), if_neg (by omega), if_neg (by omega), if_neg (by omega), if_pos rfl]
  · rw [if_neg (by omega), if_neg (by omega), if_neg (by omega), if_neg (by omega), if_neg (by omega), if_neg (by omega), if_neg (by omega), if_neg (by omega), if_neg (by omega), if_neg (by omega), if_pos rfl]
  · rw [if_neg (by omega), if_neg (by omega), if_neg (by omega), if_neg (by omega), if_neg (by omega), if_neg (by omega), if_neg (by omega), if_neg (by omega), if_neg (by omega), if_pos rfl]
  · rw [if_neg (by omega), if_neg (by omega), if_neg (by omega), if_neg (by omega), if_neg (by omega), if_neg (by omega), if_neg (by omega), if_neg (by omega), if_pos rfl]
  · rw [if_neg (by omega), if_neg (by omega), if_neg (by omega), if_neg (by omega), if_neg (by omega), if_neg (by omega), if_neg (by omega), if_pos rfl]
  · rw [if_neg (by omega), if_neg (by omega), if_neg (by omega), if_neg (by omega), if_neg (by omega), if_neg (by omega), if_pos rfl]
  · rw [if_neg (by omega), if_neg (by omega), if_neg (by omega), if_neg (by omega), if_neg (by omega), if_pos rfl]
  · rw [if_neg (by omega), if_neg (by omega), if_neg (by omega), if_neg (by omega), if_pos rfl]
  · rw [if_neg (by omega), if_neg (by omega), if_neg (by omega), if_pos rfl]
  · rw [if_neg (by omega), if_neg (by omega), if_pos rfl]
  · rw [if_neg (by omega), if_pos rfl]
  · rw [if_pos rfl]
theorem own_turn (f : Nat → Int32) (o i : Nat) (acc : Int64) (n : Nat) (hn : n < 16) (hf : f (o + i) = own_A n) (ha : own_N acc < 1152921504606846976) : own_N (v2_47 acc i o f) = own_N acc * 16 + n := by
  have e : j2_45_s0 i o f = Int32.ofNat n := by unfold j2_45_s0; rw [hf]; exact own_back n hn
  have q : ((Int32.ofNat n).toInt64).toBitVec.toNat = n := by
    have : ∀ n, n < 16 → ((Int32.ofNat n).toInt64).toBitVec.toNat = n := by decide +kernel
    exact this n hn
  have s : (own_shlL acc (4 : Int32)).toBitVec = acc.toBitVec <<< 4 := rfl
  unfold v2_47
  rw [e]
  unfold own_N
  rw [Int64.toBitVec_or, BitVec.toNat_or, q, s, BitVec.toNat_shiftLeft, Nat.shiftLeft_eq]
  unfold own_N at ha
  rw [Nat.mod_eq_of_lt (by omega), Nat.mul_comm, show (2 : Nat) ^ 4 = 16 from rfl]
  have := (Nat.two_pow_add_eq_or_of_lt (show n < 2 ^ 4 by omega) acc.toBitVec.toNat).symm
  rw [show (2 : Nat) ^ 4 = 16 from rfl] at this
  rw [this]
theorem own_pw (a b : Nat) (h : a ≤ b) : (16 : Nat) ^ a ≤ 16 ^ b := Nat.pow_le_pow_right (by decide) h
theorem own_accN (f : Nat → Int32) (o V j : Nat) (hf : ∀ i, i < 16 - j → f (o + i) = own_A (own_nib V (j + i))) :
    ∀ (k i : Nat) (acc : Int64), j + i + k ≤ 16 → own_N acc = V / 16 ^ (16 - j - i) % 16 ^ i → own_N (own_acc f o k i acc) = V / 16 ^ (16 - j - i - k) % 16 ^ (i + k) := by
  intro k
  induction k with
  | zero => intro i acc _ h; exact h
  | succ k ih =>
    intro i acc hk h
    show own_N (own_acc f o k (i + 1) (v2_47 acc i o f)) = _
    have b : own_N acc < 16 ^ 15 := by rw [h]; exact Nat.lt_of_lt_of_le (Nat.mod_lt _ (Nat.pow_pos (by decide))) (own_pw i 15 (by omega))
    have t := own_turn f o i acc (own_nib V (j + i)) (Nat.mod_lt _ (by decide)) (hf i (by omega)) b
    rw [ih (i + 1) _ (by omega) ?_, show 16 - j - (i + 1) - k = 16 - j - i - (k + 1) by omega, show i + 1 + k = i + (k + 1) by omega]
    rw [t, h]
    unfold own_nib
    rw [show 15 - (j + i) = 16 - j - (i + 1) by omega, show 16 - j - i = (16 - j - (i + 1)) + 1 by omega, Nat.pow_succ, ← Nat.div_div_eq_div_mul]
    generalize V / 16 ^ (16 - j - (i + 1)) = U
    rw [Nat.pow_succ, Nat.mul_comm (16 ^ i) 16, Nat.mod_mul]; omega
theorem own_eqN {x y : Int64} (h : own_N x = own_N y) : x = y := Int64.toBitVec_inj.mp (BitVec.eq_of_toNat_eq h)
theorem own_V (v : Int64) : own_N v < 18446744073709551616 := v.toBitVec.isLt
theorem own_lowN (v : Int64) (d p g : Int32) : own_N (c0_329 v d p g) = own_N v % 16 ^ own_dig d := by
  have hd := own_digI d
  unfold c0_329 r2
  have h := own_accN (g0_273 v p g) (own_pad p + 16 - own_dig d) (own_N v) (16 - own_dig d) (fun i hi => by rw [show own_pad p + 16 - own_dig d + i = own_pad p + (16 - own_dig d + i) by omega]; exact own_gg v p g _ (by omega)) (own_dig d) 0 (0 : Int64) (by omega) (by rw [Nat.pow_zero, Nat.mod_one]; rfl)
  rw [h, show 16 - (16 - own_dig d) - 0 - own_dig d = 0 by omega, Nat.pow_zero, Nat.div_one, Nat.zero_add]
theorem own_topN (v : Int64) (d p g : Int32) : own_N (v0_343 v d p g) = own_N v / 16 ^ (16 - own_dig d) := by
  have hd := own_digI d
  have hv := own_V v
  unfold v0_343 r2
  have h := own_accN (g0_273 v p g) (own_pad p) (own_N v) 0 (fun i hi => by rw [Nat.zero_add]; exact own_gg v p g _ (by omega)) (own_dig d) 0 (0 : Int64) (by omega) (by rw [Nat.pow_zero, Nat.mod_one]; rfl)
  rw [h, show 16 - 0 - 0 - own_dig d = 16 - own_dig d by omega, Nat.zero_add]
  refine Nat.mod_eq_of_lt ?_
  rw [Nat.div_lt_iff_lt_mul (Nat.pow_pos (by decide)), ← Nat.pow_add, show own_dig d + (16 - own_dig d) = 16 by omega]
  exact hv
theorem own_low (v : Int64) (d p g : Int32) : c0_329 v d p g = j0_295_s0 v d := by
  have hd := own_digI d
  have hn := own_lowN v d p g
  have hv := own_V v
  have e := own_d d
  apply own_eqN
  rw [hn]
  unfold j0_295_s0
  rw [e]
  generalize own_dig d = k at *
  rcases (by omega : k = 0 ∨ k = 1 ∨ k = 2 ∨ k = 3 ∨ k = 4 ∨ k = 5 ∨ k = 6 ∨ k = 7 ∨ k = 8 ∨ k = 9 ∨ k = 10 ∨ k = 11 ∨ k = 12 ∨ k = 13 ∨ k = 14 ∨ k = 15 ∨ k = 16) with rfl | rfl | rfl | rfl | rfl | rfl | rfl | rfl | rfl | rfl | rfl | rfl | rfl | rfl | rfl | rfl | rfl
  · rw [if_neg (by decide)]
    show _ = (v &&& (own_shlL (1 : Int64) ((4 : Int32) * (Int32.ofNat 0)) - (1 : Int64))).toBitVec.toNat
    rw [Int64.toBitVec_and, BitVec.toNat_and, show (own_shlL (1 : Int64) ((4 : Int32) * (Int32.ofNat 0)) - (1 : Int64)).toBitVec.toNat = 2 ^ 0 - 1 from by decide +kernel, Nat.and_two_pow_sub_one_eq_mod]; rfl
  · rw [if_neg (by decide)]
    show _ = (v &&& (own_shlL (1 : Int64) ((4 : Int32) * (Int32.ofNat 1)) - (1 : Int64))).toBitVec.toNat
    rw [Int64.toBitVec_and, BitVec.toNat_and, show (own_shlL (1 : Int64) ((4 : Int32) * (Int32.ofNat 1)) - (1 : Int64)).toBitVec.toNat = 2 ^ 4 - 1 from by decide +kernel, Nat.and_two_pow_sub_one_eq_mod]; rfl
  · rw [if_neg (by decide)]
    show _ = (v &&& (own_shlL (1 : Int64) ((4 : Int32) * (Int32.ofNat 2)) - (1 : Int64))).toBitVec.toNat
    rw [Int64.toBitVec_and, BitVec.toNat_and, show (own_shlL (1 : Int64) ((4 : Int32) * (Int32.ofNat 2)) - (1 : Int64)).toBitVec.toNat = 2 ^ 8 - 1 from by decide +kernel, Nat.and_two_pow_sub_one_eq_mod]; rfl
  · rw [if_neg (by decide)]
    show _ = (v &&& (own_shlL (1 : Int64) ((4 : Int32) * (Int32.ofNat 3)) - (1 : Int64))).toBitVec.toNat
    rw [Int64.toBitVec_and, BitVec.toNat_and, show (own_shlL (1 : Int64) ((4 : Int32) * (Int32.ofNat 3)) - (1 : Int64)).toBitVec.toNat = 2 ^ 12 - 1 from by decide +kernel, Nat.and_two_pow_sub_one_eq_mod]; rfl
  · rw [if_neg (by decide)]
    show _ = (v &&& (own_shlL (1 : Int64) ((4 : Int32) * (Int32.ofNat 4)) - (1 : Int64))).toBitVec.toNat
    rw [Int64.toBitVec_and, BitVec.toNat_and, show (own_shlL (1 : Int64) ((4 : Int32) * (Int32.ofNat 4)) - (1 : Int64)).toBitVec.toNat = 2 ^ 16 - 1 from by decide +kernel, Nat.and_two_pow_sub_one_eq_mod]; rfl
  · rw [if_neg (by decide)]
    show _ = (v &&& (own_shlL (1 : Int64) ((4 : Int32) * (Int32.ofNat 5)) - (1 : Int64))).toBitVec.toNat
    rw [Int64.toBitVec_and, BitVec.toNat_and, show (own_shlL (1 : Int64) ((4 : Int32) * (Int32.ofNat 5)) - (1 : Int64)).toBitVec.toNat = 2 ^ 20 - 1 from by decide +kernel, Nat.and_two_pow_sub_one_eq_mod]; rfl
  · rw [if_neg (by decide)]
    show _ = (v &&& (own_shlL (1 : Int64) ((4 : Int32) * (Int32.ofNat 6)) - (1 : Int64))).toBitVec.toNat
    rw [Int64.toBitVec_and, BitVec.toNat_and, show (own_shlL (1 : Int64) ((4 : Int32) * (Int32.ofNat 6)) - (1 : Int64)).toBitVec.toNat = 2 ^ 24 - 1 from by decide +kernel, Nat.and_two_pow_sub_one_eq_mod]; rfl
  · rw [if_neg (by decide)]
    show _ = (v &&& (own_shlL (1 : Int64) ((4 : Int32) * (Int32.ofNat 7)) - (1 : Int64))).toBitVec.toNat
    rw [Int64.toBitVec_and, BitVec.toNat_and, show (own_shlL (1 : Int64) ((4 : Int32) * (Int32.ofNat 7)) - (1 : Int64)).toBitVec.toNat = 2 ^ 28 - 1 from by decide +kernel, Nat.and_two_pow_sub_one_eq_mod]; rfl
  · rw [if_neg (by decide)]
    show _ = (v &&& (own_shlL (1 : Int64) ((4 : Int32) * (Int32.ofNat 8)) - (1 : Int64))).toBitVec.toNat
    rw [Int64.toBitVec_and, BitVec.toNat_and, show (own_shlL (1 : Int64) ((4 : Int32) * (Int32.ofNat 8)) - (1 : Int64)).toBitVec.toNat = 2 ^ 32 - 1 from by decide +kernel, Nat.and_two_pow_sub_one_eq_mod]; rfl
  · rw [if_neg (by decide)]
    show _ = (v &&& (own_shlL (1 : Int64) ((4 : Int32) * (Int32.ofNat 9)) - (1 : Int64))).toBitVec.toNat
    rw [Int64.toBitVec_and, BitVec.toNat_and, show (own_shlL (1 : Int64) ((4 : Int32) * (Int32.ofNat 9)) - (1 : Int64)).toBitVec.toNat = 2 ^ 36 - 1 from by decide +kernel, Nat.and_two_pow_sub_one_eq_mod]; rfl
  · rw [if_neg (by decide)]
    show _ = (v &&& (own_shlL (1 : Int64) ((4 : Int32) * (Int32.ofNat 10)) - (1 : Int64))).toBitVec.toNat
    rw [Int64.toBitVec_and, BitVec.toNat_and, show (own_shlL (1 : Int64) ((4 : Int32) * (Int32.ofNat 10)) - (1 : Int64)).toBitVec.toNat = 2 ^ 40 - 1 from by decide +kernel, Nat.and_two_pow_sub_one_eq_mod]; rfl
  · rw [if_neg (by decide)]
    show _ = (v &&& (own_shlL (1 : Int64) ((4 : Int32) * (Int32.ofNat 11)) - (1 : Int64))).toBitVec.toNat
    rw [Int64.toBitVec_and, BitVec.toNat_and, show (own_shlL (1 : Int64) ((4 : Int32) * (Int32.ofNat 11)) - (1 : Int64)).toBitVec.toNat = 2 ^ 44 - 1 from by decide +kernel, Nat.and_two_pow_sub_one_eq_mod]; rfl
  · rw [if_neg (by decide)]
    show _ = (v &&& (own_shlL (1 : Int64) ((4 : Int32) * (Int32.ofNat 12)) - (1 : Int64))).toBitVec.toNat
    rw [Int64.toBitVec_and, BitVec.toNat_and, show (own_shlL (1 : Int64) ((4 : Int32) * (Int32.ofNat 12)) - (1 : Int64)).toBitVec.toNat = 2 ^ 48 - 1 from by decide +kernel, Nat.and_two_pow_sub_one_eq_mod]; rfl
  · rw [if_neg (by decide)]
    show _ = (v &&& (own_shlL (1 : Int64) ((4 : Int32) * (Int32.ofNat 13)) - (1 : Int64))).toBitVec.toNat
    rw [Int64.toBitVec_and, BitVec.toNat_and, show (own_shlL (1 : Int64) ((4 : Int32) * (Int32.ofNat 13)) - (1 : Int64)).toBitVec.toNat = 2 ^ 52 - 1 from by decide +kernel, Nat.and_two_pow_sub_one_eq_mod]; rfl
  · rw [if_neg (by decide)]
    show _ = (v &&& (own_shlL (1 : Int64) ((4 : Int32) * (Int32.ofNat 14)) - (1 : Int64))).toBitVec.toNat
    rw [Int64.toBitVec_and, BitVec.toNat_and, show (own_shlL (1 : Int64) ((4 : Int32) * (Int32.ofNat 14)) - (1 : Int64)).toBitVec.toNat = 2 ^ 56 - 1 from by decide +kernel, Nat.and_two_pow_sub_one_eq_mod]; rfl
  · rw [if_neg (by decide)]
    show _ = (v &&& (own_shlL (1 : Int64) ((4 : Int32) * (Int32.ofNat 15)) - (1 : Int64))).toBitVec.toNat
    rw [Int64.toBitVec_and, BitVec.toNat_and, show (own_shlL (1 : Int64) ((4 : Int32) * (Int32.ofNat 15)) - (1 : Int64)).toBitVec.toNat = 2 ^ 60 - 1 from by decide +kernel, Nat.and_two_pow_sub_one_eq_mod]; rfl
  · rw [if_pos (by decide), Nat.mod_eq_of_lt hv]
theorem own_top (v : Int64) (d p g : Int32) : v0_343 v d p g = j0_315_s0 v d := by
  have hd := own_digI d
  have hn := own_topN v d p g
  have hv := own_V v
  have e := own_d d
  apply own_eqN
  rw [hn]
  unfold j0_315_s0
  rw [e]
  generalize own_dig d = k at *
  rcases (by omega : k = 0 ∨ k = 1 ∨ k = 2 ∨ k = 3 ∨ k = 4 ∨ k = 5 ∨ k = 6 ∨ k = 7 ∨ k = 8 ∨ k = 9 ∨ k = 10 ∨ k = 11 ∨ k = 12 ∨ k = 13 ∨ k = 14 ∨ k = 15 ∨ k = 16) with rfl | rfl | rfl | rfl | rfl | rfl | rfl | rfl | rfl | rfl | rfl | rfl | rfl | rfl | rfl | rfl | rfl
  · rw [if_pos (by decide)]
    rw [Nat.div_eq_of_lt hv]; rfl
  · rw [if_neg (by decide)]
    show _ = (v.toBitVec >>> 60).toNat
    rw [BitVec.toNat_ushiftRight, Nat.shiftRight_eq_div_pow]; rfl
  · rw [if_neg (by decide)]
    show _ = (v.toBitVec >>> 56).toNat
    rw [BitVec.toNat_ushiftRight, Nat.shiftRight_eq_div_pow]; rfl
  · rw [if_neg (by decide)]
    show _ = (v.toBitVec >>> 52).toNat
    rw [BitVec.toNat_ushiftRight, Nat.shiftRight_eq_div_pow]; rfl
  · rw [if_neg (by decide)]
    show _ = (v.toBitVec >>> 48).toNat
    rw [BitVec.toNat_ushiftRight, Nat.shiftRight_eq_div_pow]; rfl
  · rw [if_neg (by decide)]
    show _ = (v.toBitVec >>> 44).toNat
    rw [BitVec.toNat_ushiftRight, Nat.shiftRight_eq_div_pow]; rfl
  · rw [if_neg (by decide)]
    show _ = (v.toBitVec >>> 40).toNat
    rw [BitVec.toNat_ushiftRight, Nat.shiftRight_eq_div_pow]; rfl
  · rw [if_neg (by decide)]
    show _ = (v.toBitVec >>> 36).toNat
    rw [BitVec.toNat_ushiftRight, Nat.shiftRight_eq_div_pow]; rfl
  · rw [if_neg (by decide)]
    show _ = (v.toBitVec >>> 32).toNat
    rw [BitVec.toNat_ushiftRight, Nat.shiftRight_eq_div_pow]; rfl
  · rw [if_neg (by decide)]
    show _ = (v.toBitVec >>> 28).toNat
    rw [BitVec.toNat_ushiftRight, Nat.shiftRight_eq_div_pow]; rfl
  · rw [if_neg (by decide)]
    show _ = (v.toBitVec >>> 24).toNat
    rw [BitVec.toNat_ushiftRight, Nat.shiftRight_eq_div_pow]; rfl
  · rw [if_neg (by decide)]
    show _ = (v.toBitVec >>> 20).toNat
    rw [BitVec.toNat_ushiftRight, Nat.shiftRight_eq_div_pow]; rfl
  · rw [if_neg (by decide)]
    show _ = (v.toBitVec >>> 16).toNat
    rw [BitVec.toNat_ushiftRight, Nat.shiftRight_eq_div_pow]; rfl
  · rw [if_neg (by decide)]
    show _ = (v.toBitVec >>> 12).toNat
    rw [BitVec.toNat_ushiftRight, Nat.shiftRight_eq_div_pow]; rfl
  · rw [if_neg (by decide)]
    show _ = (v.toBitVec >>> 8).toNat
    rw [BitVec.toNat_ushiftRight, Nat.shiftRight_eq_div_pow]; rfl
  · rw [if_neg (by decide)]
    show _ = (v.toBitVec >>> 4).toNat
    rw [BitVec.toNat_ushiftRight, Nat.shiftRight_eq_div_pow]; rfl
  · rw [if_neg (by decide)]
    show _ = (v.toBitVec >>> 0).toNat
    rw [BitVec.toNat_ushiftRight, Nat.shiftRight_eq_div_pow]; rfl
def Q0 (Z : State) (p0_0 : Int64) (p0_1 : Int32) (p0_2 : Int32) (p0_3 : Int32) (h0 : Heap) (n0 : Nat) (v : Option Value) (h : Heap) (L : List Loc) : Prop := v = some (.int (1 : Int32)) ∧ Fr n0 L
set_option maxRecDepth 65536 in
set_option maxHeartbeats 40000000 in
theorem rm0 (l : Launch) (Z : State) (a0 : Array Value) (hw : ∀ d ∈ tables_1, d.before a0 Z = true) (ws : List Jvm.Cond) (p0_0 : Int64) (p0_1 : Int32) (p0_2 : Int32) (p0_3 : Int32) (h0 : Heap) (n0 : Nat) (Z0 : n0 ≤ h0.size) :
    MetFree l x (head1 (Jvm.Cond.code x code maxLocals ret :: ws) room_1) (fun a U => a = #[(.long p0_0), (.int p0_1), (.int p0_2), (.int p0_3)] ∧ Z.Warmed39 U.vm ∧ U.heap = h0) (fun _ _ _ _ _ => True) (fun _ U o U' => ∃ v L, o = .returned v ∧ Q0 Z p0_0 p0_1 p0_2 p0_3 h0 n0 v U'.heap L ∧ FrameEnd U o U' L room_1.cells room_1.slots) := by
  refine MetFree.of_bodySF (plainFor_of_name pn_0) hisR ?_
  intro p e s m args below meth c s₁ Bd hml0 hP hK
  obtain ⟨rfl, hZ, hh⟩ := hP
  have hx := Bd.exec
  have hby := Bd.bytes
  have hml : c.maxLocals = 17 := hml0
  have hown : s.vm.findClass "com/example/meterstone/meterstone/core/HexTextRead317PinLaw" = some m.cls := findClass_of_methodNamed Bd.named
  have hnm := (name_of_methodNamed Bd.named Bd.method).1
  have X0 : Stand p l e room_1 s m #[(.long p0_0), (.int p0_1), (.int p0_2), (.int p0_3)] below meth c s₁ [] 0 0 := Stand.of_body Bd
  have e0 : s₁.heap = h0 := by rw [← hh, Bd.state]; rfl
  have N0 := Fr.nil n0
  have pre0 : ∀ t, Steps p.tables e below (s₁.setTop (mkF m 0 #[.val (.long p0_0), .second, .val (.int p0_1), .val (.int p0_2), .val (.int p0_3), .unset, .unset, .unset, .unset, .unset, .unset, .unset, .unset, .unset, .unset, .unset, .unset] [])) t → Steps p.tables e below (s₁.setTop (entryFrame m #[(.long p0_0), (.int p0_1), (.int p0_2), (.int p0_3)] maxLocals)) t := fun t k => castTop (ef_0 m p0_0 p0_1 p0_2 p0_3) k
  have pre1 : ∀ t, Steps p.tables e below (s₁.setTop (mkF m 21 #[.val (.long p0_0), .second, .val (.int p0_1), .val (.int p0_2), .val (.int p0_3), .val (.int (v0_7 p0_1)), .val (.int (v0_12 p0_2)), .val (.int (v0_17 p0_3)), .unset, .unset, .unset, .unset, .unset, .unset, .unset, .unset, .unset] [(.int (19 : Int32))])) t → Steps p.tables e below (s₁.setTop (entryFrame m #[(.long p0_0), (.int p0_1), (.int p0_2), (.int p0_3)] maxLocals)) t := fun t k => pre0 t (by
    refine XS.iloadN X0.here hx rfl (hb hby at_0) rfl ?_
    show Steps p.tables e below (s₁.setTop (mkF m 1 #[.val (.long p0_0), .second, .val (.int p0_1), .val (.int p0_2), .val (.int p0_3), .unset, .unset, .unset, .unset, .unset, .unset, .unset, .unset, .unset, .unset, .unset, .unset] [(.int p0_1)])) _
    refine X0.ldcInt hx hown (mvT hZ (hw _ (List.mem_of_getElem? (i := 0) rfl))) (g := (mkF m 1 #[.val (.long p0_0), .second, .val (.int p0_1), .val (.int p0_2), .val (.int p0_3), .unset, .unset, .unset, .unset, .unset, .unset, .unset, .unset, .unset, .unset, .unset, .unset] [(.int p0_1)])) rfl (hb hby at_1) _ ?_
    show Steps p.tables e below (s₁.setTop (mkF m 3 #[.val (.long p0_0), .second, .val (.int p0_1), .val (.int p0_2), .val (.int p0_3), .unset, .unset, .unset, .unset, .unset, .unset, .unset, .unset, .unset, .unset, .unset, .unset] [(.int (2147483647 : Int32)), (.int p0_1)])) _
    refine XS.iand X0.here hx rfl (hb hby at_3) rfl ?_
    show Steps p.tables e below (s₁.setTop (mkF m 4 #[.val (.long p0_0), .second, .val (.int p0_1), .val (.int p0_2), .val (.int p0_3), .unset, .unset, .unset, .unset, .unset, .unset, .unset, .unset, .unset, .unset, .unset, .unset] [(.int (p0_1 &&& (2147483647 : Int32)))])) _
    refine XS.bipush X0.here hx rfl (hb hby at_4) ?_
    show Steps p.tables e below (s₁.setTop (mkF m 6 #[.val (.long p0_0), .second, .val (.int p0_1), .val (.int p0_2), .val (.int p0_3), .unset, .unset, .unset, .unset, .unset, .unset, .unset, .unset, .unset, .unset, .unset, .unset] [(.int (17 : Int32)), (.int (p0_1 &&& (2147483647 : Int32)))])) _
    refine iremM (g := (mkF m 6 #[.val (.long p0_0), .second, .val (.int p0_1), .val (.int p0_2), .val (.int p0_3), .unset, .unset, .unset, .unset, .unset, .unset, .unset, .unset, .unset, .unset, .unset, .unset] [(.int (17 : Int32)), (.int (p0_1 &&& (2147483647 : Int32)))])) X0 hx rfl (hb hby at_6) rfl (by decide) ?_
    show Steps p.tables e below (s₁.setTop (mkF m 7 #[.val (.long p0_0), .second, .val (.int p0_1), .val (.int p0_2), .val (.int p0_3), .unset, .unset, .unset, .unset, .unset, .unset, .unset, .unset, .unset, .unset, .unset, .unset] [(.int ((p0_1 &&& (2147483647 : Int32)) % (17 : Int32)))])) _
    show Steps p.tables e below (s₁.setTop (mkF m 7 #[.val (.long p0_0), .second, .val (.int p0_1), .val (.int p0_2), .val (.int p0_3), .unset, .unset, .unset, .unset, .unset, .unset, .unset, .unset, .unset, .unset, .unset, .unset] [(.int (v0_7 p0_1))])) _
    refine XS.istore X0.here hx rfl (hb hby at_7) rfl (l' := #[.val (.long p0_0), .second, .val (.int p0_1), .val (.int p0_2), .val (.int p0_3), .val (.int (v0_7 p0_1)), .unset, .unset, .unset, .unset, .unset, .unset, .unset, .unset, .unset, .unset, .unset]) rfl ?_
    show Steps p.tables e below (s₁.setTop (mkF m 9 #[.val (.long p0_0), .second, .val (.int p0_1), .val (.int p0_2), .val (.int p0_3), .val (.int (v0_7 p0_1)), .unset, .unset, .unset, .unset, .unset, .unset, .unset, .unset, .unset, .unset, .unset] [])) _
    refine XS.iloadN X0.here hx rfl (hb hby at_9) rfl ?_
    show Steps p.tables e below (s₁.setTop (mkF m 10 #[.val (.long p0_0), .second, .val (.int p0_1), .val (.int p0_2), .val (.int p0_3), .val (.int (v0_7 p0_1)), .unset, .unset, .unset, .unset, .unset, .unset, .unset, .unset, .unset, .unset, .unset] [(.int p0_2)])) _
    refine XS.iconst X0.here hx rfl (hb hby at_10) ?_
    show Steps p.tables e below (s₁.setTop (mkF m 11 #[.val (.long p0_0), .second, .val (.int p0_1), .val (.int p0_2), .val (.int p0_3), .val (.int (v0_7 p0_1)), .unset, .unset, .unset, .unset, .unset, .unset, .unset, .unset, .unset, .unset, .unset] [(.int (3 : Int32)), (.int p0_2)])) _
    refine XS.iand X0.here hx rfl (hb hby at_11) rfl ?_
    show Steps p.tables e below (s₁.setTop (mkF m 12 #[.val (.long p0_0), .second, .val (.int p0_1), .val (.int p0_2), .val (.int p0_3), .val (.int (v0_7 p0_1)), .unset, .unset, .unset, .unset, .unset, .unset, .unset, .unset, .unset, .unset, .unset] [(.int (p0_2 &&& (3 : Int32)))])) _
    show Steps p.tables e below (s₁.setTop (mkF m 12 #[.val (.long p0_0), .second, .val (.int p0_1), .val (.int p0_2), .val (.int p0_3), .val (.int (v0_7 p0_1)), .unset, .unset, .unset, .unset, .unset, .unset, .unset, .unset, .unset, .unset, .unset] [(.int (v0_12 p0_2))])) _
    refine XS.istore X0.here hx rfl (hb hby at_12) rfl (l' := #[.val (.long p0_0), .second, .val (.int p0_1), .val (.int p0_2), .val (.int p0_3), .val (.int (v0_7 p0_1)), .val (.int (v0_12 p0_2)), .unset, .unset, .unset, .unset, .unset, .unset, .unset, .unset, .unset, .unset]) rfl ?_
    show Steps p.tables e below (s₁.setTop (mkF m 14 #[.val (.long p0_0), .second, .val (.int p0_1), .val (.int p0_2), .val (.int p0_3), .val (.int (v0_7 p0_1)), .val (.int (v0_12 p0_2)), .unset, .unset, .unset, .unset, .unset, .unset, .unset, .unset, .unset, .unset] [])) _
    refine XS.iload X0.here hx rfl (hb hby at_14) rfl ?_
    show Steps p.tables e below (s₁.setTop (mkF m 16 #[.val (.long p0_0), .second, .val (.int p0_1), .val (.int p0_2), .val (.int p0_3), .val (.int (v0_7 p0_1)), .val (.int (v0_12 p0_2)), .unset, .unset, .unset, .unset, .unset, .unset, .unset, .unset, .unset, .unset] [(.int p0_3)])) _
    refine XS.i2b X0.here hx rfl (hb hby at_16) rfl ?_
    show Steps p.tables e below (s₁.setTop (mkF m 17 #[.val (.long p0_0), .second, .val (.int p0_1), .val (.int p0_2), .val (.int p0_3), .val (.int (v0_7 p0_1)), .val (.int (v0_12 p0_2)), .unset, .unset, .unset, .unset, .unset, .unset, .unset, .unset, .unset, .unset] [(.int ((p0_3).toInt8.toInt32))])) _
    show Steps p.tables e below (s₁.setTop (mkF m 17 #[.val (.long p0_0), .second, .val (.int p0_1), .val (.int p0_2), .val (.int p0_3), .val (.int (v0_7 p0_1)), .val (.int (v0_12 p0_2)), .unset, .unset, .unset, .unset, .unset, .unset, .unset, .unset, .unset, .unset] [(.int (v0_17 p0_3))])) _
    refine XS.istore X0.here hx rfl (hb hby at_17) rfl (l' := #[.val (.long p0_0), .second, .val (.int p0_1), .val (.int p0_2), .val (.int p0_3), .val (.int (v0_7 p0_1)), .val (.int (v0_12 p0_2)), .val (.int (v0_17 p0_3)), .unset, .unset, .unset, .unset, .unset, .unset, .unset, .unset, .unset]) rfl ?_
    show Steps p.tables e below (s₁.setTop (mkF m 19 #[.val (.long p0_0), .second, .val (.int p0_1), .val (.int p0_2), .val (.int p0_3), .val (.int (v0_7 p0_1)), .val (.int (v0_12 p0_2)), .val (.int (v0_17 p0_3)), .unset, .unset, .unset, .unset, .unset, .unset, .unset, .unset, .unset] [])) _
    refine XS.bipush X0.here hx rfl (hb hby at_19) ?_
    show Steps p.tables e below (s₁.setTop (mkF m 21 #[.val (.long p0_0), .second, .val (.int p0_1), .val (.int p0_2), .val (.int p0_3), .val (.int (v0_7 p0_1)), .val (.int (v0_12 p0_2)), .val (.int (v0_17 p0_3)), .unset, .unset, .unset, .unset, .unset, .unset, .unset, .unset, .unset] [(.int (19 : Int32))])) _
    exact k)
  obtain ⟨T2, h2, k2, X2, e2, E2, A2, st2⟩ := newP X0 hx hZ (hw _ (List.mem_of_getElem? (i := 1) rfl)) e0 (g := (mkF m 21 #[.val (.long p0_0), .second, .val (.int p0_1), .val (.int p0_2), .val (.int p0_3), .val (.int (v0_7 p0_1)), .val (.int (v0_12 p0_2)), .val (.int (v0_17 p0_3)), .unset, .unset, .unset, .unset, .unset, .unset, .unset, .unset, .unset] [(.int (19 : Int32))])) rfl (hb hby at_21) rfl (by decide) (cap := 19) (by decide) (by decide) (by decide) (by decide)
  obtain ⟨b2, q2⟩ : ∃ z, z = h0.size := ⟨_, rfl⟩
  rw [← q2] at A2 st2
  have g_b2 : n0 ≤ b2 := Nat.le_trans Z0 (Nat.le_of_eq q2.symm)
  have Z2 : n0 ≤ h2.size := Nat.le_trans Z0 E2.1
  have B2 : ArI Z h2 b2 .byte 19 (fun _ => (0 : Int32)) := ArI.new rfl A2 (by decide)
  have pre2 : ∀ t, Steps p.tables e below (T2.setTop (mkF m 23 #[.val (.long p0_0), .second, .val (.int p0_1), .val (.int p0_2), .val (.int p0_3), .val (.int (v0_7 p0_1)), .val (.int (v0_12 p0_2)), .val (.int (v0_17 p0_3)), .unset, .unset, .unset, .unset, .unset, .unset, .unset, .unset, .unset] [(.ref b2)])) t → Steps p.tables e below (s₁.setTop (entryFrame m #[(.long p0_0), (.int p0_1), (.int p0_2), (.int p0_3)] maxLocals)) t := fun t k => pre1 t (st2 t k)
  have pre3 : ∀ t, Steps p.tables e below (T2.setTop (mkF m 30 #[.val (.long p0_0), .second, .val (.int p0_1), .val (.int p0_2), .val (.int p0_3), .val (.int (v0_7 p0_1)), .val (.int (v0_12 p0_2)), .val (.int (v0_17 p0_3)), .val (.ref b2), .unset, .unset, .unset, .unset, .unset, .unset, .unset, .unset] [(.int (v0_17 p0_3)), (.int (0 : Int32)), (.ref b2)])) t → Steps p.tables e below (s₁.setTop (entryFrame m #[(.long p0_0), (.int p0_1), (.int p0_2), (.int p0_3)] maxLocals)) t := fun t k => pre2 t (by
    refine XS.astore X2.here hx rfl (hb hby at_23) rfl rfl (l' := #[.val (.long p0_0), .second, .val (.int p0_1), .val (.int p0_2), .val (.int p0_3), .val (.int (v0_7 p0_1)), .val (.int (v0_12 p0_2)), .val (.int (v0_17 p0_3)), .val (.ref b2), .unset, .unset, .unset, .unset, .unset, .unset, .unset, .unset]) rfl ?_
    show Steps p.tables e below (T2.setTop (mkF m 25 #[.val (.long p0_0), .second, .val (.int p0_1), .val (.int p0_2), .val (.int p0_3), .val (.int (v0_7 p0_1)), .val (.int (v0_12 p0_2)), .val (.int (v0_17 p0_3)), .val (.ref b2), .unset, .unset, .unset, .unset, .unset, .unset, .unset, .unset] [])) _
    refine XS.aload X2.here hx rfl (hb hby at_25) rfl rfl ?_
    show Steps p.tables e below (T2.setTop (mkF m 27 #[.val (.long p0_0), .second, .val (.int p0_1), .val (.int p0_2), .val (.int p0_3), .val (.int (v0_7 p0_1)), .val (.int (v0_12 p0_2)), .val (.int (v0_17 p0_3)), .val (.ref b2), .unset, .unset, .unset, .unset, .unset, .unset, .unset, .unset] [(.ref b2)])) _
    refine XS.iconst X2.here hx rfl (hb hby at_27) ?_
    show Steps p.tables e below (T2.setTop (mkF m 28 #[.val (.long p0_0), .second, .val (.int p0_1), .val (.int p0_2), .val (.int p0_3), .val (.int (v0_7 p0_1)), .val (.int (v0_12 p0_2)), .val (.int (v0_17 p0_3)), .val (.ref b2), .unset, .unset, .unset, .unset, .unset, .unset, .unset, .unset] [(.int (0 : Int32)), (.ref b2)])) _
    refine XS.iload X2.here hx rfl (hb hby at_28) rfl ?_
    show Steps p.tables e below (T2.setTop (mkF m 30 #[.val (.long p0_0), .second, .val (.int p0_1), .val (.int p0_2), .val (.int p0_3), .val (.int (v0_7 p0_1)), .val (.int (v0_12 p0_2)), .val (.int (v0_17 p0_3)), .val (.ref b2), .unset, .unset, .unset, .unset, .unset, .unset, .unset, .unset] [(.int (v0_17 p0_3)), (.int (0 : Int32)), (.ref b2)])) _
    exact k)
  obtain ⟨T4, h4, X4, e4, W4, B4, st4⟩ := own_stB X2 hx hZ e2 B2 (j := (0 : Int32)) (i := 0) (by decide) (by decide) (g := (mkF m 30 #[.val (.long p0_0), .second, .val (.int p0_1), .val (.int p0_2), .val (.int p0_3), .val (.int (v0_7 p0_1)), .val (.int (v0_12 p0_2)), .val (.int (v0_17 p0_3)), .val (.ref b2), .unset, .unset, .unset, .unset, .unset, .unset, .unset, .unset] [(.int (v0_17 p0_3)), (.int (0 : Int32)), (.ref b2)])) rfl rfl (hb hby at_30)
  have N4 := Fr.snoc X4 N0 g_b2
  have Z4 : n0 ≤ h4.size := Nat.le_trans Z2 (Keep.of_wr W4).1
  have pre4 : ∀ t, Steps p.tables e below (T4.setTop (mkF m 31 #[.val (.long p0_0), .second, .val (.int p0_1), .val (.int p0_2), .val (.int p0_3), .val (.int (v0_7 p0_1)), .val (.int (v0_12 p0_2)), .val (.int (v0_17 p0_3)), .val (.ref b2), .unset, .unset, .unset, .unset, .unset, .unset, .unset, .unset] [])) t → Steps p.tables e below (s₁.setTop (entryFrame m #[(.long p0_0), (.int p0_1), (.int p0_2), (.int p0_3)] maxLocals)) t := fun t k => pre3 t (st4 t k)
  have pre5 : ∀ t, Steps p.tables e below (T4.setTop (mkF m 36 #[.val (.long p0_0), .second, .val (.int p0_1), .val (.int p0_2), .val (.int p0_3), .val (.int (v0_7 p0_1)), .val (.int (v0_12 p0_2)), .val (.int (v0_17 p0_3)), .val (.ref b2), .unset, .unset, .unset, .unset, .unset, .unset, .unset, .unset] [(.int (v0_17 p0_3)), (.int (1 : Int32)), (.ref b2)])) t → Steps p.tables e below (s₁.setTop (entryFrame m #[(.long p0_0), (.int p0_1), (.int p0_2), (.int p0_3)] maxLocals)) t := fun t k => pre4 t (by
    refine XS.aload X4.here hx rfl (hb hby at_31) rfl rfl ?_
    show Steps p.tables e below (T4.setTop (mkF m 33 #[.val (.long p0_0), .second, .val (.int p0_1), .val (.int p0_2), .val (.int p0_3), .val (.int (v0_7 p0_1)), .val (.int (v0_12 p0_2)), .val (.int (v0_17 p0_3)), .val (.ref b2), .unset, .unset, .unset, .unset, .unset, .unset, .unset, .unset] [(.ref b2)])) _
    refine XS.iconst X4.here hx rfl (hb hby at_33) ?_
    show Steps p.tables e below (T4.setTop (mkF m 34 #[.val (.long p0_0), .second, .val (.int p0_1), .val (.int p0_2), .val (.int p0_3), .val (.int (v0_7 p0_1)), .val (.int (v0_12 p0_2)), .val (.int (v0_17 p0_3)), .val (.ref b2), .unset, .unset, .unset, .unset, .unset, .unset, .unset, .unset] [(.int (1 : Int32)), (.ref b2)])) _
    refine XS.iload X4.here hx rfl (hb hby at_34) rfl ?_
    show Steps p.tables e below (T4.setTop (mkF m 36 #[.val (.long p0_0), .second, .val (.int p0_1), .val (.int p0_2), .val (.int p0_3), .val (.int (v0_7 p0_1)), .val (.int (v0_12 p0_2)), .val (.int (v0_17 p0_3)), .val (.ref b2), .unset, .unset, .unset, .unset, .unset, .unset, .unset, .unset] [(.int (v0_17 p0_3)), (.int (1 : Int32)), (.ref b2)])) _
    exact k)
  obtain ⟨T6, h6, X6, e6, W6, B6, st6⟩ := own_stB X4 hx hZ e4 B4 (j := (1 : Int32)) (i := 1) (by decide) (by decide) (g := (mkF m 36 #[.val (.long p0_0), .second, .val (.int p0_1), .val (.int p0_2), .val (.int p0_3), .val (.int (v0_7 p0_1)), .val (.int (v0_12 p0_2)), .val (.int (v0_17 p0_3)), .val (.ref b2), .unset, .unset, .unset, .unset, .unset, .unset, .unset, .unset] [(.int (v0_17 p0_3)), (.int (1 : Int32)), (.ref b2)])) rfl rfl (hb hby at_36)
  have N6 := Fr.snoc X6 N4 g_b2
  have Z6 : n0 ≤ h6.size := Nat.le_trans Z4 (Keep.of_wr W6).1
  have C6 : ArI Z h6 b2 .byte 19 (g0_36 p0_3) := B6
  have pre6 : ∀ t, Steps p.tables e below (T6.setTop (mkF m 37 #[.val (.long p0_0), .second, .val (.int p0_1), .val (.int p0_2), .val (.int p0_3), .val (.int (v0_7 p0_1)), .val (.int (v0_12 p0_2)), .val (.int (v0_17 p0_3)), .val (.ref b2), .unset, .unset, .unset, .unset, .unset, .unset, .unset, .unset] [])) t → Steps p.tables e below (s₁.setTop (entryFrame m #[(.long p0_0), (.int p0_1), (.int p0_2), (.int p0_3)] maxLocals)) t := fun t k => pre5 t (st6 t k)
  have pre7 : ∀ t, Steps p.tables e below (T6.setTop (mkF m 42 #[.val (.long p0_0), .second, .val (.int p0_1), .val (.int p0_2), .val (.int p0_3), .val (.int (v0_7 p0_1)), .val (.int (v0_12 p0_2)), .val (.int (v0_17 p0_3)), .val (.ref b2), .unset, .unset, .unset, .unset, .unset, .unset, .unset, .unset] [(.int (v0_17 p0_3)), (.int (2 : Int32)), (.ref b2)])) t → Steps p.tables e below (s₁.setTop (entryFrame m #[(.long p0_0), (.int p0_1), (.int p0_2), (.int p0_3)] maxLocals)) t := fun t k => pre6 t (by
    refine XS.aload X6.here hx rfl (hb hby at_37) rfl rfl ?_
    show Steps p.tables e below (T6.setTop (mkF m 39 #[.val (.long p0_0), .second, .val (.int p0_1), .val (.int p0_2), .val (.int p0_3), .val (.int (v0_7 p0_1)), .val (.int (v0_12 p0_2)), .val (.int (v0_17 p0_3)), .val (.ref b2), .unset, .unset, .unset, .unset, .unset, .unset, .unset, .unset] [(.ref b2)])) _
    refine XS.iconst X6.here hx rfl (hb hby at_39) ?_
    show Steps p.tables e below (T6.setTop (mkF m 40 #[.val (.long p0_0), .second, .val (.int p0_1), .val (.int p0_2), .val (.int p0_3), .val (.int (v0_7 p0_1)), .val (.int (v0_12 p0_2)), .val (.int (v0_17 p0_3)), .val (.ref b2), .unset, .unset, .unset, .unset, .unset, .unset, .unset, .unset] [(.int (2 : Int32)), (.ref b2)])) _
    refine XS.iload X6.here hx rfl (hb hby at_40) rfl ?_
    show Steps p.tables e below (T6.setTop (mkF m 42 #[.val (.long p0_0), .second, .val (.int p0_1), .val (.int p0_2), .val (.int p0_3), .val (.int (v0_7 p0_1)), .val (.int (v0_12 p0_2)), .val (.int (v0_17 p0_3)), .val (.ref b2), .unset, .unset, .unset, .unset, .unset, .unset, .unset, .unset] [(.int (v0_17 p0_3)), (.int (2 : Int32)), (.ref b2)])) _
    exact k)
  obtain ⟨T8, h8, X8, e8, W8, B8, st8⟩ := own_stB X6 hx hZ e6 C6 (j := (2 : Int32)) (i := 2) (by decide) (by decide) (g := (mkF m 42 #[.val (.long p0_0), .second, .val (.int p0_1), .val (.int p0_2), .val (.int p0_3), .val (.int (v0_7 p0_1)), .val (.int (v0_12 p0_2)), .val (.int (v0_17 p0_3)), .val (.ref b2), .unset, .unset, .unset, .unset, .unset, .unset, .unset, .unset] [(.int (v0_17 p0_3)), (.int (2 : Int32)), (.ref b2)])) rfl rfl (hb hby at_42)
  have N8 := Fr.snoc X8 N6 g_b2
  have Z8 : n0 ≤ h8.size := Nat.le_trans Z6 (Keep.of_wr W8).1
  have pre8 : ∀ t, Steps p.tables e below (T8.setTop (mkF m 43 #[.val (.long p0_0), .second, .val (.int p0_1), .val (.int p0_2), .val (.int p0_3), .val (.int (v0_7 p0_1)), .val (.int (v0_12 p0_2)), .val (.int (v0_17 p0_3)), .val (.ref b2), .unset, .unset, .unset, .unset, .unset, .unset, .unset, .unset] [])) t → Steps p.tables e below (s₁.setTop (entryFrame m #[(.long p0_0), (.int p0_1), (.int p0_2), (.int p0_3)] maxLocals)) t := fun t k => pre7 t (st8 t k)
  have pre9 : ∀ t, Steps p.tables e below (T8.setTop (mkF m 49 #[.val (.long p0_0), .second, .val (.int p0_1), .val (.int p0_2), .val (.int p0_3), .val (.int (v0_7 p0_1)), .val (.int (v0_12 p0_2)), .val (.int (v0_17 p0_3)), .val (.ref b2), .unset, .unset, .unset, .unset, .unset, .unset, .unset, .unset] [(.int (v0_17 p0_3)), (.int (16 : Int32)), (.ref b2)])) t → Steps p.tables e below (s₁.setTop (entryFrame m #[(.long p0_0), (.int p0_1), (.int p0_2), (.int p0_3)] maxLocals)) t := fun t k => pre8 t (by
    refine XS.aload X8.here hx rfl (hb hby at_43) rfl rfl ?_
    show Steps p.tables e below (T8.setTop (mkF m 45 #[.val (.long p0_0), .second, .val (.int p0_1), .val (.int p0_2), .val (.int p0_3), .val (.int (v0_7 p0_1)), .val (.int (v0_12 p0_2)), .val (.int (v0_17 p0_3)), .val (.ref b2), .unset, .unset, .unset, .unset, .unset, .unset, .unset, .unset] [(.ref b2)])) _
    refine XS.bipush X8.here hx rfl (hb hby at_45) ?_
    show Steps p.tables e below (T8.setTop (mkF m 47 #[.val (.long p0_0), .second, .val (.int p0_1), .val (.int p0_2), .val (.int p0_3), .val (.int (v0_7 p0_1)), .val (.int (v0_12 p0_2)), .val (.int (v0_17 p0_3)), .val (.ref b2), .unset, .unset, .unset, .unset, .unset, .unset, .unset, .unset] [(.int (16 : Int32)), (.ref b2)])) _
    refine XS.iload X8.here hx rfl (hb hby at_47) rfl ?_
    show Steps p.tables e below (T8.setTop (mkF m 49 #[.val (.long p0_0), .second, .val (.int p0_1), .val (.int p0_2), .val (.int p0_3), .val (.int (v0_7 p0_1)), .val (.int (v0_12 p0_2)), .val (.int (v0_17 p0_3)), .val (.ref b2), .unset, .unset, .unset, .unset, .unset, .unset, .unset, .unset] [(.int (v0_17 p0_3)), (.int (16 : Int32)), (.ref b2)])) _
    exact k)
  obtain ⟨T10, h10, X10, e10, W10, B10, st10⟩ := own_stB X8 hx hZ e8 B8 (j := (16 : Int32)) (i := 16) (by decide) (by decide) (g := (mkF m 49 #[.val (.long p0_0), .second, .val (.int p0_1), .val (.int p0_2), .val (.int p0_3), .val (.int (v0_7 p0_1)), .val (.int (v0_12 p0_2)), .val (.int (v0_17 p0_3)), .val (.ref b2), .unset, .unset, .unset, .unset, .unset, .unset, .unset, .unset] [(.int (v0_17 p0_3)), (.int (16 : Int32)), (.ref b2)])) rfl rfl (hb hby at_49)
  have N10 := Fr.snoc X10 N8 g_b2
  have Z10 : n0 ≤ h10.size := Nat.le_trans Z8 (Keep.of_wr W10).1
  have C10 : ArI Z h10 b2 .byte 19 (g0_49 p0_3) := B10
  have pre10 : ∀ t, Steps p.tables e below (T10.setTop (mkF m 50 #[.val (.long p0_0), .second, .val (.int p0_1), .val (.int p0_2), .val (.int p0_3), .val (.int (v0_7 p0_1)), .val (.int (v0_12 p0_2)), .val (.int (v0_17 p0_3)), .val (.ref b2), .unset, .unset, .unset, .unset, .unset, .unset, .unset, .unset] [])) t → Steps p.tables e below (s₁.setTop (entryFrame m #[(.long p0_0), (.int p0_1), (.int p0_2), (.int p0_3)] maxLocals)) t := fun t k => pre9 t (st10 t k)
  have pre11 : ∀ t, Steps p.tables e below (T10.setTop (mkF m 56 #[.val (.long p0_0), .second, .val (.int p0_1), .val (.int p0_2), .val (.int p0_3), .val (.int (v0_7 p0_1)), .val (.int (v0_12 p0_2)), .val (.int (v0_17 p0_3)), .val (.ref b2), .unset, .unset, .unset, .unset, .unset, .unset, .unset, .unset] [(.int (v0_17 p0_3)), (.int (17 : Int32)), (.ref b2)])) t → Steps p.tables e below (s₁.setTop (entryFrame m #[(.long p0_0), (.int p0_1), (.int p0_2), (.int p0_3)] maxLocals)) t := fun t k => pre10 t (by
    refine XS.aload X10.here hx rfl (hb hby at_50) rfl rfl ?_
    show Steps p.tables e below (T10.setTop (mkF m 52 #[.val (.long p0_0), .second, .val (.int p0_1), .val (.int p0_2), .val (.int p0_3), .val (.int (v0_7 p0_1)), .val (.int (v0_12 p0_2)), .val (.int (v0_17 p0_3)), .val (.ref b2), .unset, .unset, .unset, .unset, .unset, .unset, .unset, .unset] [(.ref b2)])) _
    refine XS.bipush X10.here hx rfl (hb hby at_52) ?_
    show Steps p.tables e below (T10.setTop (mkF m 54 #[.val (.long p0_0), .second, .val (.int p0_1), .val (.int p0_2), .val (.int p0_3), .val (.int (v0_7 p0_1)), .val (.int (v0_12 p0_2)), .val (.int (v0_17 p0_3)), .val (.ref b2), .unset, .unset, .unset, .unset, .unset, .unset, .unset, .unset] [(.int (17 : Int32)), (.ref b2)])) _
    refine XS.iload X10.here hx rfl (hb hby at_54) rfl ?_
    show Steps p.tables e below (T10.setTop (mkF m 56 #[.val (.long p0_0), .second, .val (.int p0_1), .val (.int p0_2), .val (.int p0_3), .val (.int (v0_7 p0_1)), .val (.int (v0_12 p0_2)), .val (.int (v0_17 p0_3)), .val (.ref b2), .unset, .unset, .unset, .unset, .unset, .unset, .unset, .unset] [(.int (v0_17 p0_3)), (.int (17 : Int32)), (.ref b2)])) _
    exact k)
  obtain ⟨T12, h12, X12, e12, W12, B12, st12⟩ := own_stB X10 hx hZ e10 C10 (j := (17 : Int32)) (i := 17) (by decide) (by decide) (g := (mkF m 56 #[.val (.long p0_0), .second, .val (.int p0_1), .val (.int p0_2), .val (.int p0_3), .val (.int (v0_7 p0_1)), .val (.int (v0_12 p0_2)), .val (.int (v0_17 p0_3)), .val (.ref b2), .unset, .unset, .unset, .unset, .unset, .unset, .unset, .unset] [(.int (v0_17 p0_3)), (.int (17 : Int32)), (.ref b2)])) rfl rfl (hb hby at_56)
  have N12 := Fr.snoc X12 N10 g_b2
  have Z12 : n0 ≤ h12.size := Nat.le_trans Z10 (Keep.of_wr W12).1
  have pre12 : ∀ t, Steps p.tables e below (T12.setTop (mkF m 57 #[.val (.long p0_0), .second, .val (.int p0_1), .val (.int p0_2), .val (.int p0_3), .val (.int (v0_7 p0_1)), .val (.int (v0_12 p0_2)), .val (.int (v0_17 p0_3)), .val (.ref b2), .unset, .unset, .unset, .unset, .unset, .unset, .unset, .unset] [])) t → Steps p.tables e below (s₁.setTop (entryFrame m #[(.long p0_0), (.int p0_1), (.int p0_2), (.int p0_3)] maxLocals)) t := fun t k => pre11 t (st12 t k)
  have pre13 : ∀ t, Steps p.tables e below (T12.setTop (mkF m 63 #[.val (.long p0_0), .second, .val (.int p0_1), .val (.int p0_2), .val (.int p0_3), .val (.int (v0_7 p0_1)), .val (.int (v0_12 p0_2)), .val (.int (v0_17 p0_3)), .val (.ref b2), .unset, .unset, .unset, .unset, .unset, .unset, .unset, .unset] [(.int (v0_17 p0_3)), (.int (18 : Int32)), (.ref b2)])) t → Steps p.tables e below (s₁.setTop (entryFrame m #[(.long p0_0), (.int p0_1), (.int p0_2), (.int p0_3)] maxLocals)) t := fun t k => pre12 t (by
    refine XS.aload X12.here hx rfl (hb hby at_57) rfl rfl ?_
    show Steps p.tables e below (T12.setTop (mkF m 59 #[.val (.long p0_0), .second, .val (.int p0_1), .val (.int p0_2), .val (.int p0_3), .val (.int (v0_7 p0_1)), .val (.int (v0_12 p0_2)), .val (.int (v0_17 p0_3)), .val (.ref b2), .unset, .unset, .unset, .unset, .unset, .unset, .unset, .unset] [(.ref b2)])) _
    refine XS.bipush X12.here hx rfl (hb hby at_59) ?_
    show Steps p.tables e below (T12.setTop (mkF m 61 #[.val (.long p0_0), .second, .val (.int p0_1), .val (.int p0_2), .val (.int p0_3), .val (.int (v0_7 p0_1)), .val (.int (v0_12 p0_2)), .val (.int (v0_17 p0_3)), .val (.ref b2), .unset, .unset, .unset, .unset, .unset, .unset, .unset, .unset] [(.int (18 : Int32)), (.ref b2)])) _
    refine XS.iload X12.here hx rfl (hb hby at_61) rfl ?_
    show Steps p.tables e below (T12.setTop (mkF m 63 #[.val (.long p0_0), .second, .val (.int p0_1), .val (.int p0_2), .val (.int p0_3), .val (.int (v0_7 p0_1)), .val (.int (v0_12 p0_2)), .val (.int (v0_17 p0_3)), .val (.ref b2), .unset, .unset, .unset, .unset, .unset, .unset, .unset, .unset] [(.int (v0_17 p0_3)), (.int (18 : Int32)), (.ref b2)])) _
    exact k)
  obtain ⟨T14, h14, X14, e14, W14, B14, st14⟩ := own_stB X12 hx hZ e12 B12 (j := (18 : Int32)) (i := 18) (by decide) (by decide) (g := (mkF m 63 #[.val (.long p0_0), .second, .val (.int p0_1), .val (.int p0_2), .val (.int p0_3), .val (.int (v0_7 p0_1)), .val (.int (v0_12 p0_2)), .val (.int (v0_17 p0_3)), .val (.ref b2), .unset, .unset, .unset, .unset, .unset, .unset, .unset, .unset] [(.int (v0_17 p0_3)), (.int (18 : Int32)), (.ref b2)])) rfl rfl (hb hby at_63)
  have N14 := Fr.snoc X14 N12 g_b2
  have Z14 : n0 ≤ h14.size := Nat.le_trans Z12 (Keep.of_wr W14).1
  have C14 : ArI Z h14 b2 .byte 19 (g0_63 p0_3) := B14
  have pre14 : ∀ t, Steps p.tables e below (T14.setTop (mkF m 64 #[.val (.long p0_0), .second, .val (.int p0_1), .val (.int p0_2), .val (.int p0_3), .val (.int (v0_7 p0_1)), .val (.int (v0_12 p0_2)), .val (.int (v0_17 p0_3)), .val (.ref b2), .unset, .unset, .unset, .unset, .unset, .unset, .unset, .unset] [])) t → Steps p.tables e below (s₁.setTop (entryFrame m #[(.long p0_0), (.int p0_1), (.int p0_2), (.int p0_3)] maxLocals)) t := fun t k => pre13 t (st14 t k)
  have pre15 : ∀ t, Steps p.tables e below (T14.setTop (mkF m 70 #[.val (.long p0_0), .second, .val (.int p0_1), .val (.int p0_2), .val (.int p0_3), .val (.int (v0_7 p0_1)), .val (.int (v0_12 p0_2)), .val (.int (v0_17 p0_3)), .val (.ref b2), .unset, .unset, .unset, .unset, .unset, .unset, .unset, .unset] [(.int (0 : Int32)), (.long p0_0), (.int (v0_12 p0_2)), (.ref b2)])) t → Steps p.tables e below (s₁.setTop (entryFrame m #[(.long p0_0), (.int p0_1), (.int p0_2), (.int p0_3)] maxLocals)) t := fun t k => pre14 t (by
    refine XS.aload X14.here hx rfl (hb hby at_64) rfl rfl ?_
    show Steps p.tables e below (T14.setTop (mkF m 66 #[.val (.long p0_0), .second, .val (.int p0_1), .val (.int p0_2), .val (.int p0_3), .val (.int (v0_7 p0_1)), .val (.int (v0_12 p0_2)), .val (.int (v0_17 p0_3)), .val (.ref b2), .unset, .unset, .unset, .unset, .unset, .unset, .unset, .unset] [(.ref b2)])) _
    refine XS.iload X14.here hx rfl (hb hby at_66) rfl ?_
    show Steps p.tables e below (T14.setTop (mkF m 68 #[.val (.long p0_0), .second, .val (.int p0_1), .val (.int p0_2), .val (.int p0_3), .val (.int (v0_7 p0_1)), .val (.int (v0_12 p0_2)), .val (.int (v0_17 p0_3)), .val (.ref b2), .unset, .unset, .unset, .unset, .unset, .unset, .unset, .unset] [(.int (v0_12 p0_2)), (.ref b2)])) _
    refine XS.lloadN X14.here hx rfl (hb hby at_68) rfl ?_
    show Steps p.tables e below (T14.setTop (mkF m 69 #[.val (.long p0_0), .second, .val (.int p0_1), .val (.int p0_2), .val (.int p0_3), .val (.int (v0_7 p0_1)), .val (.int (v0_12 p0_2)), .val (.int (v0_17 p0_3)), .val (.ref b2), .unset, .unset, .unset, .unset, .unset, .unset, .unset, .unset] [(.long p0_0), (.int (v0_12 p0_2)), (.ref b2)])) _
    refine XS.iconst X14.here hx rfl (hb hby at_69) ?_
    show Steps p.tables e below (T14.setTop (mkF m 70 #[.val (.long p0_0), .second, .val (.int p0_1), .val (.int p0_2), .val (.int p0_3), .val (.int (v0_7 p0_1)), .val (.int (v0_12 p0_2)), .val (.int (v0_17 p0_3)), .val (.ref b2), .unset, .unset, .unset, .unset, .unset, .unset, .unset, .unset] [(.int (0 : Int32)), (.long p0_0), (.int (v0_12 p0_2)), (.ref b2)])) _
    exact k)
  obtain ⟨_, _, ⟨T16, L16, k16, n16⟩, -, X16, ⟨Lc16, hQ16, l16, y16, z16⟩, st16⟩ := Jvm.LawKit.callS X14 hx (y := (⟨"com/example/meterstone/meterstone/core/HexTextRead317PinLaw", "hex", "(JI)B"⟩ : MethodName)) hown (mvT hZ (hw _ (List.mem_of_getElem? (i := 2) rfl))) (mvT hZ (hw _ (List.mem_of_getElem? (i := 3) rfl))) (mvT hZ (hw _ (List.mem_of_getElem? (i := 4) rfl))) (mvT hZ (hw _ (List.mem_of_getElem? (i := 5) rfl))) (by decide) (backOf (W := 2) (rm1 l Z a0 hw [] p0_0 (0 : Int32) h14 n0 Z14 ) hZ (hw _ (List.mem_of_getElem? (i := 5) rfl)) (hw _ (List.mem_of_getElem? (i := 4) rfl)) (by decide) (by decide)) (g := (mkF m 70 #[.val (.long p0_0), .second, .val (.int p0_1), .val (.int p0_2), .val (.int p0_3), .val (.int (v0_7 p0_1)), .val (.int (v0_12 p0_2)), .val (.int (v0_17 p0_3)), .val (.ref b2), .unset, .unset, .unset, .unset, .unset, .unset, .unset, .unset] [(.int (0 : Int32)), (.long p0_0), (.int (v0_12 p0_2)), (.ref b2)])) rfl (by rw [hml]; rfl) (argsL := [(.long p0_0), (.int (0 : Int32))]) (rest := [(.int (v0_12 p0_2)), (.ref b2)]) (lenOf pd_0 rfl) rfl (by show 2 * 0 + _ ≤ _; exact Nat.le_of_eq rfl) (hb hby at_70) (fun _ _ => ⟨rfl, e14, (by decide : 1 + 0 ≤ _), (by decide : 19 + 0 ≤ _)⟩)
  dsimp only [Pt.U, Pt.locs, Pt.cells, Pt.slots] at X16 l16 y16 z16 st16 hQ16
  rw [l16, y16, z16] at X16
  obtain ⟨rfl, M16, e16⟩ := hQ16
  have N16 := Fr.app N14 M16
  replace X16 : Stand p l e room_1 s m #[(.long p0_0), (.int p0_1), (.int p0_2), (.int p0_3)] below meth c T16 _ 1 19 := X16
  have pre16 : ∀ t, Steps p.tables e below (T16.setTop (mkF m 73 #[.val (.long p0_0), .second, .val (.int p0_1), .val (.int p0_2), .val (.int p0_3), .val (.int (v0_7 p0_1)), .val (.int (v0_12 p0_2)), .val (.int (v0_17 p0_3)), .val (.ref b2), .unset, .unset, .unset, .unset, .unset, .unset, .unset, .unset] [(.int (r1 p0_0 (0 : Int32))), (.int (v0_12 p0_2)), (.ref b2)])) t → Steps p.tables e below (s₁.setTop (entryFrame m #[(.long p0_0), (.int p0_1), (.int p0_2), (.int p0_3)] maxLocals)) t := fun t k => pre15 t (st16 t k)
  obtain ⟨T17, h17, X17, e17, W17, B17, st17⟩ := own_stB X16 hx hZ e16 C14 (j := (v0_12 p0_2)) (i := (own_pad p0_2 + 0)) (own_pk0 p0_2) (by exact own_pkl p0_2 0 (by decide)) (g := (mkF m 73 #[.val (.long p0_0), .second, .val (.int p0_1), .val (.int p0_2), .val (.int p0_3), .val (.int (v0_7 p0_1)), .val (.int (v0_12 p0_2)), .val (.int (v0_17 p0_3)), .val (.ref b2), .unset, .unset, .unset, .unset, .unset, .unset, .unset, .unset] [(.int (v0_73 p0_0)), (.int (v0_12 p0_2)), (.ref b2)])) rfl rfl (hb hby at_73)
  have N17 := Fr.snoc X17 N16 g_b2
  have Z17 : n0 ≤ h17.size := Nat.le_trans Z14 (Keep.of_wr W17).1
  have C17 : ArI Z h17 b2 .byte 19 (g0_73 p0_0 p0_2 p0_3) := B17
  have pre17 : ∀ t, Steps p.tables e below (T17.setTop (mkF m 74 #[.val (.long p0_0), .second, .val (.int p0_1), .val (.int p0_2), .val (.int p0_3), .val (.int (v0_7 p0_1)), .val (.int (v0_12 p0_2)), .val (.int (v0_17 p0_3)), .val (.ref b2), .unset, .unset, .unset, .unset, .unset, .unset, .unset, .unset] [])) t → Steps p.tables e below (s₁.setTop (entryFrame m #[(.long p0_0), (.int p0_1), (.int p0_2), (.int p0_3)] maxLocals)) t := fun t k => pre16 t (st17 t k)
  have pre18 : ∀ t, Steps p.tables e below (T17.setTop (mkF m 82 #[.val (.long p0_0), .second, .val (.int p0_1), .val (.int p0_2), .val (.int p0_3), .val (.int (v0_7 p0_1)), .val (.int (v0_12 p0_2)), .val (.int (v0_17 p0_3)), .val (.ref b2), .unset, .unset, .unset, .unset, .unset, .unset, .unset, .unset] [(.int (1 : Int32)), (.long p0_0), (.int ((v0_12 p0_2) + (1 : Int32))), (.ref b2)])) t → Steps p.tables e below (s₁.setTop (entryFrame m #[(.long p0_0), (.int p0_1), (.int p0_2), (.int p0_3)] maxLocals)) t := fun t k => pre17 t (by
    refine XS.aload X17.here hx rfl (hb hby at_74) rfl rfl ?_
    show Steps p.tables e below (T17.setTop (mkF m 76 #[.val (.long p0_0), .second, .val (.int p0_1), .val (.int p0_2), .val (.int p0_3), .val (.int (v0_7 p0_1)), .val (.int (v0_12 p0_2)), .val (.int (v0_17 p0_3)), .val (.ref b2), .unset, .unset, .unset, .unset, .unset, .unset, .unset, .unset] [(.ref b2)])) _
    refine XS.iload X17.here hx rfl (hb hby at_76) rfl ?_
    show Steps p.tables e below (T17.setTop (mkF m 78 #[.val (.long p0_0), .second, .val (.int p0_1), .val (.int p0_2), .val (.int p0_3), .val (.int (v0_7 p0_1)), .val (.int (v0_12 p0_2)), .val (.int (v0_17 p0_3)), .val (.ref b2), .unset, .unset, .unset, .unset, .unset, .unset, .unset, .unset] [(.int (v0_12 p0_2)), (.ref b2)])) _
    refine XS.iconst X17.here hx rfl (hb hby at_78) ?_
    show Steps p.tables e below (T17.setTop (mkF m 79 #[.val (.long p0_0), .second, .val (.int p0_1), .val (.int p0_2), .val (.int p0_3), .val (.int (v0_7 p0_1)), .val (.int (v0_12 p0_2)), .val (.int (v0_17 p0_3)), .val (.ref b2), .unset, .unset, .unset, .unset, .unset, .unset, .unset, .unset] [(.int (1 : Int32)), (.int (v0_12 p0_2)), (.ref b2)])) _
    refine XS.iadd X17.here hx rfl (hb hby at_79) rfl ?_
    show Steps p.tables e below (T17.setTop (mkF m 80 #[.val (.long p0_0), .second, .val (.int p0_1), .val (.int p0_2), .val (.int p0_3), .val (.int (v0_7 p0_1)), .val (.int (v0_12 p0_2)), .val (.int (v0_17 p0_3)), .val (.ref b2), .unset, .unset, .unset, .unset, .unset, .unset, .unset, .unset] [(.int ((v0_12 p0_2) + (1 : Int32))), (.ref b2)])) _
    refine XS.lloadN X17.here hx rfl (hb hby at_80) rfl ?_
    show Steps p.tables e below (T17.setTop (mkF m 81 #[.val (.long p0_0), .second, .val (.int p0_1), .val (.int p0_2), .val (.int p0_3), .val (.int (v0_7 p0_1)), .val (.int (v0_12 p0_2)), .val (.int (v0_17 p0_3)), .val (.ref b2), .unset, .unset, .unset, .unset, .unset, .unset, .unset, .unset] [(.long p0_0), (.int ((v0_12 p0_2) + (1 : Int32))), (.ref b2)])) _
    refine XS.iconst X17.here hx rfl (hb hby at_81) ?_
    show Steps p.tables e below (T17.setTop (mkF m 82 #[.val (.long p0_0), .second, .val (.int p0_1), .val (.int p0_2), .val (.int p0_3), .val (.int (v0_7 p0_1)), .val (.int (v0_12 p0_2)), .val (.int (v0_17 p0_3)), .val (.ref b2), .unset, .unset, .unset, .unset, .unset, .unset, .unset, .unset] [(.int (1 : Int32)), (.long p0_0), (.int ((v0_12 p0_2) + (1 : Int32))), (.ref b2)])) _
    exact k)
  obtain ⟨_, _, ⟨T19, L19, k19, n19⟩, -, X19, ⟨Lc19, hQ19, l19, y19, z19⟩, st19⟩ := Jvm.LawKit.callS X17 hx (y := (⟨"com/example/meterstone/meterstone/core/HexTextRead317PinLaw", "hex", "(JI)B"⟩ : MethodName)) hown (mvT hZ (hw _ (List.mem_of_getElem? (i := 2) rfl))) (mvT hZ (hw _ (List.mem_of_getElem? (i := 3) rfl))) (mvT hZ (hw _ (List.mem_of_getElem? (i := 4) rfl))) (mvT hZ (hw _ (List.mem_of_getElem? (i := 5) rfl))) (by decide) (backOf (W := 2) (rm1 l Z a0 hw [] p0_0 (1 : Int32) h17 n0 Z17 ) hZ (hw _ (List.mem_of_getElem? (i := 5) rfl)) (hw _ (List.mem_of_getElem? (i := 4) rfl)) (by decide) (by decide)) (g := (mkF m 82 #[.val (.long p0_0), .second, .val (.int p0_1), .val (.int p0_2), .val (.int p0_3), .val (.int (v0_7 p0_1)), .val (.int (v0_12 p0_2)), .val (.int (v0_17 p0_3)), .val (.ref b2), .unset, .unset, .unset, .unset, .unset, .unset, .unset, .unset] [(.int (1 : Int32)), (.long p0_0), (.int ((v0_12 p0_2) + (1 : Int32))), (.ref b2)])) rfl (by rw [hml]; rfl) (argsL := [(.long p0_0), (.int (1 : Int32))]) (rest := [(.int ((v0_12 p0_2) + (1 : Int32))), (.ref b2)]) (lenOf pd_0 rfl) rfl (by show 2 * 0 + _ ≤ _; exact Nat.le_of_eq rfl) (hb hby at_82) (fun _ _ => ⟨rfl, e17, (by decide : 1 + 0 ≤ _), (by decide : 19 + 0 ≤ _)⟩)
  dsimp only [Pt.U, Pt.locs, Pt.cells, Pt.slots] at X19 l19 y19 z19 st19 hQ19
  rw [l19, y19, z19] at X19
  obtain ⟨rfl, M19, e19⟩ := hQ19
  have N19 := Fr.app N17 M19
  replace X19 : Stand p l e room_1 s m #[(.long p0_0), (.int p0_1), (.int p0_2), (.int p0_3)] below meth c T19 _ 1 19 := X19
  have pre19 : ∀ t, Steps p.tables e below (T19.setTop (mkF m 85 #[.val (.long p0_0), .second, .val (.int p0_1), .val (.int p0_2), .val (.int p0_3), .val (.int (v0_7 p0_1)), .val (.int (v0_12 p0_2)), .val (.int (v0_17 p0_3)), .val (.ref b2), .unset, .unset, .unset, .unset, .unset, .unset, .unset, .unset] [(.int (r1 p0_0 (1 : Int32))), (.int ((v0_12 p0_2) + (1 : Int32))), (.ref b2)])) t → Steps p.tables e below (s₁.setTop (entryFrame m #[(.long p0_0), (.int p0_1), (.int p0_2), (.int p0_3)] maxLocals)) t := fun t k => pre18 t (st19 t k)
  obtain ⟨T20, h20, X20, e20, W20, B20, st20⟩ := own_stB X19 hx hZ e19 C17 (j := ((v0_12 p0_2) + (1 : Int32))) (i := (own_pad p0_2 + 1)) (own_pk1 p0_2) (by exact own_pkl p0_2 1 (by decide)) (g := (mkF m 85 #[.val (.long p0_0), .second, .val (.int p0_1), .val (.int p0_2), .val (.int p0_3), .val (.int (v0_7 p0_1)), .val (.int (v0_12 p0_2)), .val (.int (v0_17 p0_3)), .val (.ref b2), .unset, .unset, .unset, .unset, .unset, .unset, .unset, .unset] [(.int (v0_85 p0_0)), (.int ((v0_12 p0_2) + (1 : Int32))), (.ref b2)])) rfl rfl (hb hby at_85)
  have N20 := Fr.snoc X20 N19 g_b2
  have Z20 : n0 ≤ h20.size := Nat.le_trans Z17 (Keep.of_wr W20).1
  have C20 : ArI Z h20 b2 .byte 19 (g0_85 p0_0 p0_2 p0_3) := B20
  have pre20 : ∀ t, Steps p.tables e below (T20.setTop (mkF m 86 #[.val (.long p0_0), .second, .val (.int p0_1), .val (.int p0_2), .val (.int p0_3), .val (.int (v0_7 p0_1)), .val (.int (v0_12 p0_2)), .val (.int (v0_17 p0_3)), .val (.ref b2), .unset, .unset, .unset, .unset, .unset, .unset, .unset, .unset] [])) t → Steps p.tables e below (s₁.setTop (entryFrame m #[(.long p0_0), (.int p0_1), (.int p0_2), (.int p0_3)] maxLocals)) t := fun t k => pre19 t (st20 t k)
  have pre21 : ∀ t, Steps p.tables e below (T20.setTop (mkF m 94 #[.val (.long p0_0), .second, .val (.int p0_1), .val (.int p0_2), .val (.int p0_3), .val (.int (v0_7 p0_1)), .val (.int (v0_12 p0_2)), .val (.int (v0_17 p0_3)), .val (.ref b2), .unset, .unset, .unset, .unset, .unset, .unset, .unset, .unset] [(.int (2 : Int32)), (.long p0_0), (.int ((v0_12 p0_2) + (2 : Int32))), (.ref b2)])) t → Steps p.tables e below (s₁.setTop (entryFrame m #[(.long p0_0), (.int p0_1), (.int p0_2), (.int p0_3)] maxLocals)) t := fun t k => pre20 t (by
    refine XS.aload X20.here hx rfl (hb hby at_86) rfl rfl ?_
    show Steps p.tables e below (T20.setTop (mkF m 88 #[.val (.long p0_0), .second, .val (.int p0_1), .val (.int p0_2), .val (.int p0_3), .val (.int (v0_7 p0_1)), .val (.int (v0_12 p0_2)), .val (.int (v0_17 p0_3)), .val (.ref b2), .unset, .unset, .unset, .unset, .unset, .unset, .unset, .unset] [(.ref b2)])) _
    refine XS.iload X20.here hx rfl (hb hby at_88) rfl ?_
    show Steps p.tables e below (T20.setTop (mkF m 90 #[.val (.long p0_0), .second, .val (.int p0_1), .val (.int p0_2), .val (.int p0_3), .val (.int (v0_7 p0_1)), .val (.int (v0_12 p0_2)), .val (.int (v0_17 p0_3)), .val (.ref b2), .unset, .unset, .unset, .unset, .unset, .unset, .unset, .unset] [(.int (v0_12 p0_2)), (.ref b2)])) _
    refine XS.iconst X20.here hx rfl (hb hby at_90) ?_
    show Steps p.tables e below (T20.setTop (mkF m 91 #[.val (.long p0_0), .second, .val (.int p0_1), .val (.int p0_2), .val (.int p0_3), .val (.int (v0_7 p0_1)), .val (.int (v0_12 p0_2)), .val (.int (v0_17 p0_3)), .val (.ref b2), .unset, .unset, .unset, .unset, .unset, .unset, .unset, .unset] [(.int (2 : Int32)), (.int (v0_12 p0_2)), (.ref b2)])) _
    refine XS.iadd X20.here hx rfl (hb hby at_91) rfl ?_
    show Steps p.tables e below (T20.setTop (mkF m 92 #[.val (.long p0_0), .second, .val (.int p0_1), .val (.int p0_2), .val (.int p0_3), .val (.int (v0_7 p0_1)), .val (.int (v0_12 p0_2)), .val (.int (v0_17 p0_3)), .val (.ref b2), .unset, .unset, .unset, .unset, .unset, .unset, .unset, .unset] [(.int ((v0_12 p0_2) + (2 : Int32))), (.ref b2)])) _
    refine XS.lloadN X20.here hx rfl (hb hby at_92) rfl ?_
    show Steps p.tables e below (T20.setTop (mkF m 93 #[.val (.long p0_0), .second, .val (.int p0_1), .val (.int p0_2), .val (.int p0_3), .val (.int (v0_7 p0_1)), .val (.int (v0_12 p0_2)), .val (.int (v0_17 p0_3)), .val (.ref b2), .unset, .unset, .unset, .unset, .unset, .unset, .unset, .unset] [(.long p0_0), (.int ((v0_12 p0_2) + (2 : Int32))), (.ref b2)])) _
    refine XS.iconst X20.here hx rfl (hb hby at_93) ?_
    show Steps p.tables e below (T20.setTop (mkF m 94 #[.val (.long p0_0), .second, .val (.int p0_1), .val (.int p0_2), .val (.int p0_3), .val (.int (v0_7 p0_1)), .val (.int (v0_12 p0_2)), .val (.int (v0_17 p0_3)), .val (.ref b2), .unset, .unset, .unset, .unset, .unset, .unset, .unset, .unset] [(.int (2 : Int32)), (.long p0_0), (.int ((v0_12 p0_2) + (2 : Int32))), (.ref b2)])) _
    exact k)
  obtain ⟨_, _, ⟨T22, L22, k22, n22⟩, -, X22, ⟨Lc22, hQ22, l22, y22, z22⟩, st22⟩ := Jvm.LawKit.callS X20 hx (y := (⟨"com/example/meterstone/meterstone/core/HexTextRead317PinLaw", "hex", "(JI)B"⟩ : MethodName)) hown (mvT hZ (hw _ (List.mem_of_getElem? (i := 2) rfl))) (mvT hZ (hw _ (List.mem_of_getElem? (i := 3) rfl))) (mvT hZ (hw _ (List.mem_of_getElem? (i := 4) rfl))) (mvT hZ (hw _ (List.mem_of_getElem? (i := 5) rfl))) (by decide) (backOf (W := 2) (rm1 l Z a0 hw [] p0_0 (2 : Int32) h20 n0 Z20 ) hZ (hw _ (List.mem_of_getElem? (i := 5) rfl)) (hw _ (List.mem_of_getElem? (i := 4) rfl)) (by decide) (by decide)) (g := (mkF m 94 #[.val (.long p0_0), .second, .val (.int p0_1), .val (.int p0_2), .val (.int p0_3), .val (.int (v0_7 p0_1)), .val (.int (v0_12 p0_2)), .val (.int (v0_17 p0_3)), .val (.ref b2), .unset, .unset, .unset, .unset, .unset, .unset, .unset, .unset] [(.int (2 : Int32)), (.long p0_0), (.int ((v0_12 p0_2) + (2 : Int32))), (.ref b2)])) rfl (by rw [hml]; rfl) (argsL := [(.long p0_0), (.int (2 : Int32))]) (rest := [(.int ((v0_12 p0_2) + (2 : Int32))), (.ref b2)]) (lenOf pd_0 rfl) rfl (by show 2 * 0 + _ ≤ _; exact Nat.le_of_eq rfl) (hb hby at_94) (fun _ _ => ⟨rfl, e20, (by decide : 1 + 0 ≤ _), (by decide : 19 + 0 ≤ _)⟩)
  dsimp only [Pt.U, Pt.locs, Pt.cells, Pt.slots] at X22 l22 y22 z22 st22 hQ22
  rw [l22, y22, z22] at X22
  obtain ⟨rfl, M22, e22⟩ := hQ22
  have N22 := Fr.app N20 M22
  replace X22 : Stand p l e room_1 s m #[(.long p0_0), (.int p0_1), (.int p0_2), (.int p0_3)] below meth c T22 _ 1 19 := X22
  have pre22 : ∀ t, Steps p.tables e below (T22.setTop (mkF m 97 #[.val (.long p0_0), .second, .val (.int p0_1), .val (.int p0_2), .val (.int p0_3), .val (.int (v0_7 p0_1)), .val (.int (v0_12 p0_2)), .val (.int (v0_17 p0_3)), .val (.ref b2), .unset, .unset, .unset, .unset, .unset, .unset, .unset, .unset] [(.int (r1 p0_0 (2 : Int32))), (.int ((v0_12 p0_2) + (2 : Int32))), (.ref b2)])) t → Steps p.tables e below (s₁.setTop (entryFrame m #[(.long p0_0), (.int p0_1), (.int p0_2), (.int p0_3)] maxLocals)) t := fun t k => pre21 t (st22 t k)
  obtain ⟨T23, h23, X23, e23, W23, B23, st23⟩ := own_stB X22 hx hZ e22 C20 (j := ((v0_12 p0_2) + (2 : Int32))) (i := (own_pad p0_2 + 2)) (own_pk2 p0_2) (by exact own_pkl p0_2 2 (by decide)) (g := (mkF m 97 #[.val (.long p0_0), .second, .val (.int p0_1), .val (.int p0_2), .val (.int p0_3), .val (.int (v0_7 p0_1)), .val (.int (v0_12 p0_2)), .val (.int (v0_17 p0_3)), .val (.ref b2), .unset, .unset, .unset, .unset, .unset, .unset, .unset, .unset] [(.int (v0_97 p0_0)), (.int ((v0_12 p0_2) + (2 : Int32))), (.ref b2)])) rfl rfl (hb hby at_97)
  have N23 := Fr.snoc X23 N22 g_b2
  have Z23 : n0 ≤ h23.size := Nat.le_trans Z20 (Keep.of_wr W23).1
  have C23 : ArI Z h23 b2 .byte 19 (g0_97 p0_0 p0_2 p0_3) := B23
  have pre23 : ∀ t, Steps p.tables e below (T23.setTop (mkF m 98 #[.val (.long p0_0), .second, .val (.int p0_1), .val (.int p0_2), .val (.int p0_3), .val (.int (v0_7 p0_1)), .val (.int (v0_12 p0_2)), .val (.int (v0_17 p0_3)), .val (.ref b2), .unset, .unset, .unset, .unset, .unset, .unset, .unset, .unset] [])) t → Steps p.tables e below (s₁.setTop (entryFrame m #[(.long p0_0), (.int p0_1), (.int p0_2), (.int p0_3)] maxLocals)) t := fun t k => pre22 t (st23 t k)
  have pre24 : ∀ t, Steps p.tables e below (T23.setTop (mkF m 106 #[.val (.long p0_0), .second, .val (.int p0_1), .val (.int p0_2), .val (.int p0_3), .val (.int (v0_7 p0_1)), .val (.int (v0_12 p0_2)), .val (.int (v0_17 p0_3)), .val (.ref b2), .unset, .unset, .unset, .unset, .unset, .unset, .unset, .unset] [(.int (3 : Int32)), (.long p0_0), (.int ((v0_12 p0_2) + (3 : Int32))), (.ref b2)])) t → Steps p.tables e below (s₁.setTop (entryFrame m #[(.long p0_0), (.int p0_1), (.int p0_2), (.int p0_3)] maxLocals)) t := fun t k => pre23 t (by
    refine XS.aload X23.here hx rfl (hb hby at_98) rfl rfl ?_
    show Steps p.tables e below (T23.setTop (mkF m 100 #[.val (.long p0_0), .second, .val (.int p0_1), .val (.int p0_2), .val (.int p0_3), .val (.int (v0_7 p0_1)), .val (.int (v0_12 p0_2)), .val (.int (v0_17 p0_3)), .val (.ref b2), .unset, .unset, .unset, .unset, .unset, .unset, .unset, .unset] [(.ref b2)])) _
    refine XS.iload X23.here hx rfl (hb hby at_100) rfl ?_
    show Steps p.tables e below (T23.setTop (mkF m 102 #[.val (.long p0_0), .second, .val (.int p0_1), .val (.int p0_2), .val (.int p0_3), .val (.int (v0_7 p0_1)), .val (.int (v0_12 p0_2)), .val (.int (v0_17 p0_3)), .val (.ref b2), .unset, .unset, .unset, .unset, .unset, .unset, .unset, .unset] [(.int (v0_12 p0_2)), (.ref b2)])) _
    refine XS.iconst X23.here hx rfl (hb hby at_102) ?_
    show Steps p.tables e below (T23.setTop (mkF m 103 #[.val (.long p0_0), .second, .val (.int p0_1), .val (.int p0_2), .val (.int p0_3), .val (.int (v0_7 p0_1)), .val (.int (v0_12 p0_2)), .val (.int (v0_17 p0_3)), .val (.ref b2), .unset, .unset, .unset, .unset, .unset, .unset, .unset, .unset] [(.int (3 : Int32)), (.int (v0_12 p0_2)), (.ref b2)])) _
    refine XS.iadd X23.here hx rfl (hb hby at_103) rfl ?_
    show Steps p.tables e below (T23.setTop (mkF m 104 #[.val (.long p0_0), .second, .val (.int p0_1), .val (.int p0_2), .val (.int p0_3), .val (.int (v0_7 p0_1)), .val (.int (v0_12 p0_2)), .val (.int (v0_17 p0_3)), .val (.ref b2), .unset, .unset, .unset, .unset, .unset, .unset, .unset, .unset] [(.int ((v0_12 p0_2) + (3 : Int32))), (.ref b2)])) _
    refine XS.lloadN X23.here hx rfl (hb hby at_104) rfl ?_
    show Steps p.tables e below (T23.setTop (mkF m 105 #[.val (.long p0_0), .second, .val (.int p0_1), .val (.int p0_2), .val (.int p0_3), .val (.int (v0_7 p0_1)), .val (.int (v0_12 p0_2)), .val (.int (v0_17 p0_3)), .val (.ref b2), .unset, .unset, .unset, .unset, .unset, .unset, .unset, .unset] [(.long p0_0), (.int ((v0_12 p0_2) + (3 : Int32))), (.ref b2)])) _
    refine XS.iconst X23.here hx rfl (hb hby at_105) ?_
    show Steps p.tables e below (T23.setTop (mkF m 106 #[.val (.long p0_0), .second, .val (.int p0_1), .val (.int p0_2), .val (.int p0_3), .val (.int (v0_7 p0_1)), .val (.int (v0_12 p0_2)), .val (.int (v0_17 p0_3)), .val (.ref b2), .unset, .unset, .unset, .unset, .unset, .unset, .unset, .unset] [(.int (3 : Int32)), (.long p0_0), (.int ((v0_12 p0_2) + (3 : Int32))), (.ref b2)])) _
    exact k)
  obtain ⟨_, _, ⟨T25, L25, k25, n25⟩, -, X25, ⟨Lc25, hQ25, l25, y25, z25⟩, st25⟩ := Jvm.LawKit.callS X23 hx (y := (⟨"com/example/meterstone/meterstone/core/HexTextRead317PinLaw", "hex", "(JI)B"⟩ : MethodName)) hown (mvT hZ (hw _ (List.mem_of_getElem? (i := 2) rfl))) (mvT hZ (hw _ (List.mem_of_getElem? (i := 3) rfl))) (mvT hZ (hw _ (List.mem_of_getElem? (i := 4) rfl))) (mvT hZ (hw _ (List.mem_of_getElem? (i := 5) rfl))) (by decide) (backOf (W := 2) (rm1 l Z a0 hw [] p0_0 (3 : Int32) h23 n0 Z23 ) hZ (hw _ (List.mem_of_getElem? (i := 5) rfl)) (hw _ (List.mem_of_getElem? (i := 4) rfl)) (by decide) (by decide)) (g := (mkF m 106 #[.val (.long p0_0), .second, .val (.int p0_1), .val (.int p0_2), .val (.int p0_3), .val (.int (v0_7 p0_1)), .val (.int (v0_12 p0_2)), .val (.int (v0_17 p0_3)), .val (.ref b2), .unset, .unset, .unset, .unset, .unset, .unset, .unset, .unset] [(.int (3 : Int32)), (.long p0_0), (.int ((v0_12 p0_2) + (3 : Int32))), (.ref b2)])) rfl (by rw [hml]; rfl) (argsL := [(.long p0_0), (.int (3 : Int32))]) (rest := [(.int ((v0_12 p0_2) + (3 : Int32))), (.ref b2)]) (lenOf pd_0 rfl) rfl (by show 2 * 0 + _ ≤ _; exact Nat.le_of_eq rfl) (hb hby at_106) (fun _ _ => ⟨rfl, e23, (by decide : 1 + 0 ≤ _), (by decide : 19 + 0 ≤ _)⟩)
  dsimp only [Pt.U, Pt.locs, Pt.cells, Pt.slots] at X25 l25 y25 z25 st25 hQ25
  rw [l25, y25, z25] at X25
  obtain ⟨rfl, M25, e25⟩ := hQ25
  have N25 := Fr.app N23 M25
  replace X25 : Stand p l e room_1 s m #[(.long p0_0), (.int p0_1), (.int p0_2), (.int p0_3)] below meth c T25 _ 1 19 := X25
  have pre25 : ∀ t, Steps p.tables e below (T25.setTop (mkF m 109 #[.val (.long p0_0), .second, .val (.int p0_1), .val (.int p0_2), .val (.int p0_3), .val (.int (v0_7 p0_1)), .val (.int (v0_12 p0_2)), .val (.int (v0_17 p0_3)), .val (.ref b2), .unset, .unset, .unset, .unset, .unset, .unset, .unset, .unset] [(.int (r1 p0_0 (3 : Int32))), (.int ((v0_12 p0_2) + (3 : Int32))), (.ref b2)])) t → Steps p.tables e below (s₁.setTop (entryFrame m #[(.long p0_0), (.int p0_1), (.int p0_2), (.int p0_3)] maxLocals)) t := fun t k => pre24 t (st25 t k)
  obtain ⟨T26, h26, X26, e26, W26, B26, st26⟩ := own_stB X25 hx hZ e25 C23 (j := ((v0_12 p0_2) + (3 : Int32))) (i := (own_pad p0_2 + 3)) (own_pk3 p0_2) (by exact own_pkl p0_2 3 (by decide)) (g := (mkF m 109 #[.val (.long p0_0), .second, .val (.int p0_1), .val (.int p0_2), .val (.int p0_3), .val (.int (v0_7 p0_1)), .val (.int (v0_12 p0_2)), .val (.int (v0_17 p0_3)), .val (.ref b2), .unset, .unset, .unset, .unset, .unset, .unset, .unset, .unset] [(.int (v0_109 p0_0)), (.int ((v0_12 p0_2) + (3 : Int32))), (.ref b2)])) rfl rfl (hb hby at_109)
  have N26 := Fr.snoc X26 N25 g_b2
  have Z26 : n0 ≤ h26.size := Nat.le_trans Z23 (Keep.of_wr W26).1
  have C26 : ArI Z h26 b2 .byte 19 (g0_109 p0_0 p0_2 p0_3) := B26
  have pre26 : ∀ t, Steps p.tables e below (T26.setTop (mkF m 110 #[.val (.long p0_0), .second, .val (.int p0_1), .val (.int p0_2), .val (.int p0_3), .val (.int (v0_7 p0_1)), .val (.int (v0_12 p0_2)), .val (.int (v0_17 p0_3)), .val (.ref b2), .unset, .unset, .unset, .unset, .unset, .unset, .unset, .unset] [])) t → Steps p.tables e below (s₁.setTop (entryFrame m #[(.long p0_0), (.int p0_1), (.int p0_2), (.int p0_3)] maxLocals)) t := fun t k => pre25 t (st26 t k)
  have pre27 : ∀ t, Steps p.tables e below (T26.setTop (mkF m 118 #[.val (.long p0_0), .second, .val (.int p0_1), .val (.int p0_2), .val (.int p0_3), .val (.int (v0_7 p0_1)), .val (.int (v0_12 p0_2)), .val (.int (v0_17 p0_3)), .val (.ref b2), .unset, .unset, .unset, .unset, .unset, .unset, .unset, .unset] [(.int (4 : Int32)), (.long p0_0), (.int ((v0_12 p0_2) + (4 : Int32))), (.ref b2)])) t → Steps p.tables e below (s₁.setTop (entryFrame m #[(.long p0_0), (.int p0_1), (.int p0_2), (.int p0_3)] maxLocals)) t := fun t k => pre26 t (by
    refine XS.aload X26.here hx rfl (hb hby at_110) rfl rfl ?_
    show Steps p.tables e below (T26.setTop (mkF m 112 #[.val (.long p0_0), .second, .val (.int p0_1), .val (.int p0_2), .val (.int p0_3), .val (.int (v0_7 p0_1)), .val (.int (v0_12 p0_2)), .val (.int (v0_17 p0_3)), .val (.ref b2), .unset, .unset, .unset, .unset, .unset, .unset, .unset, .unset] [(.ref b2)])) _
    refine XS.iload X26.here hx rfl (hb hby at_112) rfl ?_
    show Steps p.tables e below (T26.setTop (mkF m 114 #[.val (.long p0_0), .second, .val (.int p0_1), .val (.int p0_2), .val (.int p0_3), .val (.int (v0_7 p0_1)), .val (.int (v0_12 p0_2)), .val (.int (v0_17 p0_3)), .val (.ref b2), .unset, .unset, .unset, .unset, .unset, .unset, .unset, .unset] [(.int (v0_12 p0_2)), (.ref b2)])) _
    refine XS.iconst X26.here hx rfl (hb hby at_114) ?_
    show Steps p.tables e below (T26.setTop (mkF m 115 #[.val (.long p0_0), .second, .val (.int p0_1), .val (.int p0_2), .val (.int p0_3), .val (.int (v0_7 p0_1)), .val (.int (v0_12 p0_2)), .val (.int (v0_17 p0_3)), .val (.ref b2), .unset, .unset, .unset, .unset, .unset, .unset, .unset, .unset] [(.int (4 : Int32)), (.int (v0_12 p0_2)), (.ref b2)])) _
    refine XS.iadd X26.here hx rfl (hb hby at_115) rfl ?_
    show Steps p.tables e below (T26.setTop (mkF m 116 #[.val (.long p0_0), .second, .val (.int p0_1), .val (.int p0_2), .val (.int p0_3), .val (.int (v0_7 p0_1)), .val (.int (v0_12 p0_2)), .val (.int (v0_17 p0_3)), .val (.ref b2), .unset, .unset, .unset, .unset, .unset, .unset, .unset, .unset] [(.int ((v0_12 p0_2) + (4 : Int32))), (.ref b2)])) _
    refine XS.lloadN X26.here hx rfl (hb hby at_116) rfl ?_
    show Steps p.tables e below (T26.setTop (mkF m 117 #[.val (.long p0_0), .second, .val (.int p0_1), .val (.int p0_2), .val (.int p0_3), .val (.int (v0_7 p0_1)), .val (.int (v0_12 p0_2)), .val (.int (v0_17 p0_3)), .val (.ref b2), .unset, .unset, .unset, .unset, .unset, .unset, .unset, .unset] [(.long p0_0), (.int ((v0_12 p0_2) + (4 : Int32))), (.ref b2)])) _
    refine XS.iconst X26.here hx rfl (hb hby at_117) ?_
    show Steps p.tables e below (T26.setTop (mkF m 118 #[.val (.long p0_0), .second, .val (.int p0_1), .val (.int p0_2), .val (.int p0_3), .val (.int (v0_7 p0_1)), .val (.int (v0_12 p0_2)), .val (.int (v0_17 p0_3)), .val (.ref b2), .unset, .unset, .unset, .unset, .unset, .unset, .unset, .unset] [(.int (4 : Int32)), (.long p0_0), (.int ((v0_12 p0_2) + (4 : Int32))), (.ref b2)])) _
    exact k)
  obtain ⟨_, _, ⟨T28, L28, k28, n28⟩, -, X28, ⟨Lc28, hQ28, l28, y28, z28⟩, st28⟩ := Jvm.LawKit.callS X26 hx (y := (⟨"com/example/meterstone/meterstone/core/HexTextRead317PinLaw", "hex", "(JI)B"⟩ : MethodName)) hown (mvT hZ (hw _ (List.mem_of_getElem? (i := 2) rfl))) (mvT hZ (hw _ (List.mem_of_getElem? (i := 3) rfl))) (mvT hZ (hw _ (List.mem_of_getElem? (i := 4) rfl))) (mvT hZ (hw _ (List.mem_of_getElem? (i := 5) rfl))) (by decide) (backOf (W := 2) (rm1 l Z a0 hw [] p0_0 (4 : Int32) h26 n0 Z26 ) hZ (hw _ (List.mem_of_getElem? (i := 5) rfl)) (hw _ (List.mem_of_getElem? (i := 4) rfl)) (by decide) (by decide)) (g := (mkF m 118 #[.val (.long p0_0), .second, .val (.int p0_1), .val (.int p0_2), .val (.int p0_3), .val (.int (v0_7 p0_1)), .val (.int (v0_12 p0_2)), .val (.int (v0_17 p0_3)), .val (.ref b2), .unset, .unset, .unset, .unset, .unset, .unset, .unset, .unset] [(.int (4 : Int32)), (.long p0_0), (.int ((v0_12 p0_2) + (4 : Int32))), (.ref b2)])) rfl (by rw [hml]; rfl) (argsL := [(.long p0_0), (.int (4 : Int32))]) (rest := [(.int ((v0_12 p0_2) + (4 : Int32))), (.ref b2)]) (lenOf pd_0 rfl) rfl (by show 2 * 0 + _ ≤ _; exact Nat.le_of_eq rfl) (hb hby at_118) (fun _ _ => ⟨rfl, e26, (by decide : 1 + 0 ≤ _), (by decide : 19 + 0 ≤ _)⟩)
  dsimp only [Pt.U, Pt.locs, Pt.cells, Pt.slots] at X28 l28 y28 z28 st28 hQ28
  rw [l28, y28, z28] at X28
  obtain ⟨rfl, M28, e28⟩ := hQ28
  have N28 := Fr.app N26 M28
  replace X28 : Stand p l e room_1 s m #[(.long p0_0), (.int p0_1), (.int p0_2), (.int p0_3)] below meth c T28 _ 1 19 := X28
  have pre28 : ∀ t, Steps p.tables e below (T28.setTop (mkF m 121 #[.val (.long p0_0), .second, .val (.int p0_1), .val (.int p0_2), .val (.int p0_3), .val (.int (v0_7 p0_1)), .val (.int (v0_12 p0_2)), .val (.int (v0_17 p0_3)), .val (.ref b2), .unset, .unset, .unset, .unset, .unset, .unset, .unset, .unset] [(.int (r1 p0_0 (4 : Int32))), (.int ((v0_12 p0_2) + (4 : Int32))), (.ref b2)])) t → Steps p.tables e below (s₁.setTop (entryFrame m #[(.long p0_0), (.int p0_1), (.int p0_2), (.int p0_3)] maxLocals)) t := fun t k => pre27 t (st28 t k)
  obtain ⟨T29, h29, X29, e29, W29, B29, st29⟩ := own_stB X28 hx hZ e28 C26 (j := ((v0_12 p0_2) + (4 : Int32))) (i := (own_pad p0_2 + 4)) (own_pk4 p0_2) (by exact own_pkl p0_2 4 (by decide)) (g := (mkF m 121 #[.val (.long p0_0), .second, .val (.int p0_1), .val (.int p0_2), .val (.int p0_3), .val (.int (v0_7 p0_1)), .val (.int (v0_12 p0_2)), .val (.int (v0_17 p0_3)), .val (.ref b2), .unset, .unset, .unset, .unset, .unset, .unset, .unset, .unset] [(.int (v0_121 p0_0)), (.int ((v0_12 p0_2) + (4 : Int32))), (.ref b2)])) rfl rfl (hb hby at_121)
  have N29 := Fr.snoc X29 N28 g_b2
  have Z29 : n0 ≤ h29.size := Nat.le_trans Z26 (Keep.of_wr W29).1
  have C29 : ArI Z h29 b2 .byte 19 (g0_121 p0_0 p0_2 p0_3) := B29
  have pre29 : ∀ t, Steps p.tables e below (T29.setTop (mkF m 122 #[.val (.long p0_0), .second, .val (.int p0_1), .val (.int p0_2), .val (.int p0_3), .val (.int (v0_7 p0_1)), .val (.int (v0_12 p0_2)), .val (.int (v0_17 p0_3)), .val (.ref b2), .unset, .unset, .unset, .unset, .unset, .unset, .unset, .unset] [])) t → Steps p.tables e below (s₁.setTop (entryFrame m #[(.long p0_0), (.int p0_1), (.int p0_2), (.int p0_3)] maxLocals)) t := fun t k => pre28 t (st29 t k)
  have pre30 : ∀ t, Steps p.tables e below (T29.setTop (mkF m 130 #[.val (.long p0_0), .second, .val (.int p0_1), .val (.int p0_2), .val (.int p0_3), .val (.int (v0_7 p0_1)), .val (.int (v0_12 p0_2)), .val (.int (v0_17 p0_3)), .val (.ref b2), .unset, .unset, .unset, .unset, .unset, .unset, .unset, .unset] [(.int (5 : Int32)), (.long p0_0), (.int ((v0_12 p0_2) + (5 : Int32))), (.ref b2)])) t → Steps p.tables e below (s₁.setTop (entryFrame m #[(.long p0_0), (.int p0_1), (.int p0_2), (.int p0_3)] maxLocals)) t := fun t k => pre29 t (by
    refine XS.aload X29.here hx rfl (hb hby at_122) rfl rfl ?_
    show Steps p.tables e below (T29.setTop (mkF m 124 #[.val (.long p0_0), .second, .val (.int p0_1), .val (.int p0_2), .val (.int p0_3), .val (.int (v0_7 p0_1)), .val (.int (v0_12 p0_2)), .val (.int (v0_17 p0_3)), .val (.ref b2), .unset, .unset, .unset, .unset, .unset, .unset, .unset, .unset] [(.ref b2)])) _
    refine XS.iload X29.here hx rfl (hb hby at_124) rfl ?_
    show Steps p.tables e below (T29.setTop (mkF m 126 #[.val (.long p0_0), .second, .val (.int p0_1), .val (.int p0_2), .val (.int p0_3), .val (.int (v0_7 p0_1)), .val (.int (v0_12 p0_2)), .val (.int (v0_17 p0_3)), .val (.ref b2), .unset, .unset, .unset, .unset, .unset, .unset, .unset, .unset] [(.int (v0_12 p0_2)), (.ref b2)])) _
    refine XS.iconst X29.here hx rfl (hb hby at_126) ?_
    show Steps p.tables e below (T29.setTop (mkF m 127 #[.val (.long p0_0), .second, .val (.int p0_1), .val (.int p0_2), .val (.int p0_3), .val (.int (v0_7 p0_1)), .val (.int (v0_12 p0_2)), .val (.int (v0_17 p0_3)), .val (.ref b2), .unset, .unset, .unset, .unset, .unset, .unset, .unset, .unset] [(.int (5 : Int32)), (.int (v0_12 p0_2)), (.ref b2)])) _
    refine XS.iadd X29.here hx rfl (hb hby at_127) rfl ?_
    show Steps p.tables e below (T29.setTop (mkF m 128 #[.val (.long p0_0), .second, .val (.int p0_1), .val (.int p0_2), .val (.int p0_3), .val (.int (v0_7 p0_1)), .val (.int (v0_12 p0_2)), .val (.int (v0_17 p0_3)), .val (.ref b2), .unset, .unset, .unset, .unset, .unset, .unset, .unset, .unset] [(.int ((v0_12 p0_2) + (5 : Int32))), (.ref b2)])) _
    refine XS.lloadN X29.here hx rfl (hb hby at_128) rfl ?_
    show Steps p.tables e below (T29.setTop (mkF m 129 #[.val (.long p0_0), .second, .val (.int p0_1), .val (.int p0_2), .val (.int p0_3), .val (.int (v0_7 p0_1)), .val (.int (v0_12 p0_2)), .val (.int (v0_17 p0_3)), .val (.ref b2), .unset, .unset, .unset, .unset, .unset, .unset, .unset, .unset] [(.long p0_0), (.int ((v0_12 p0_2) + (5 : Int32))), (.ref b2)])) _
    refine XS.iconst X29.here hx rfl (hb hby at_129) ?_
    show Steps p.tables e below (T29.setTop (mkF m 130 #[.val (.long p0_0), .second, .val (.int p0_1), .val (.int p0_2), .val (.int p0_3), .val (.int (v0_7 p0_1)), .val (.int (v0_12 p0_2)), .val (.int (v0_17 p0_3)), .val (.ref b2), .unset, .unset, .unset, .unset, .unset, .unset, .unset, .unset] [(.int (5 : Int32)), (.long p0_0), (.int ((v0_12 p0_2) + (5 : Int32))), (.ref b2)])) _
    exact k)
  obtain ⟨_, _, ⟨T31, L31, k31, n31⟩, -, X31, ⟨Lc31, hQ31, l31, y31, z31⟩, st31⟩ := Jvm.LawKit.callS X29 hx (y := (⟨"com/example/meterstone/meterstone/core/HexTextRead317PinLaw", "hex", "(JI)B"⟩ : MethodName)) hown (mvT hZ (hw _ (List.mem_of_getElem? (i := 2) rfl))) (mvT hZ (hw _ (List.mem_of_getElem? (i := 3) rfl))) (mvT hZ (hw _ (List.mem_of_getElem? (i := 4) rfl))) (mvT hZ (hw _ (List.mem_of_getElem? (i := 5) rfl))) (by decide) (backOf (W := 2) (rm1 l Z a0 hw [] p0_0 (5 : Int32) h29 n0 Z29 ) hZ (hw _ (List.mem_of_getElem? (i := 5) rfl)) (hw _ (List.mem_of_getElem? (i := 4) rfl)) (by decide) (by decide)) (g := (mkF m 130 #[.val (.long p0_0), .second, .val (.int p0_1), .val (.int p0_2), .val (.int p0_3), .val (.int (v0_7 p0_1)), .val (.int (v0_12 p0_2)), .val (.int (v0_17 p0_3)), .val (.ref b2), .unset, .unset, .unset, .unset, .unset, .unset, .unset, .unset] [(.int (5 : Int32)), (.long p0_0), (.int ((v0_12 p0_2) + (5 : Int32))), (.ref b2)])) rfl (by rw [hml]; rfl) (argsL := [(.long p0_0), (.int (5 : Int32))]) (rest := [(.int ((v0_12 p0_2) + (5 : Int32))), (.ref b2)]) (lenOf pd_0 rfl) rfl (by show 2 * 0 + _ ≤ _; exact Nat.le_of_eq rfl) (hb hby at_130) (fun _ _ => ⟨rfl, e29, (by decide : 1 + 0 ≤ _), (by decide : 19 + 0 ≤ _)⟩)
  dsimp only [Pt.U, Pt.locs, Pt.cells, Pt.slots] at X31 l31 y31 z31 st31 hQ31
  rw [l31, y31, z31] at X31
  obtain ⟨rfl, M31, e31⟩ := hQ31
  have N31 := Fr.app N29 M31
  replace X31 : Stand p l e room_1 s m #[(.long p0_0), (.int p0_1), (.int p0_2), (.int p0_3)] below meth c T31 _ 1 19 := X31
  have pre31 : ∀ t, Steps p.tables e below (T31.setTop (mkF m 133 #[.val (.long p0_0), .second, .val (.int p0_1), .val (.int p0_2), .val (.int p0_3), .val (.int (v0_7 p0_1)), .val (.int (v0_12 p0_2)), .val (.int (v0_17 p0_3)), .val (.ref b2), .unset, .unset, .unset, .unset, .unset, .unset, .unset, .unset] [(.int (r1 p0_0 (5 : Int32))), (.int ((v0_12 p0_2) + (5 : Int32))), (.ref b2)])) t → Steps p.tables e below (s₁.setTop (entryFrame m #[(.long p0_0), (.int p0_1), (.int p0_2), (.int p0_3)] maxLocals)) t := fun t k => pre30 t (st31 t k)
  obtain ⟨T32, h32, X32, e32, W32, B32, st32⟩ := own_stB X31 hx hZ e31 C29 (j := ((v0_12 p0_2) + (5 : Int32))) (i := (own_pad p0_2 + 5)) (own_pk5 p0_2) (by exact own_pkl p0_2 5 (by decide)) (g := (mkF m 133 #[.val (.long p0_0), .second, .val (.int p0_1), .val (.int p0_2), .val (.int p0_3), .val (.int (v0_7 p0_1)), .val (.int (v0_12 p0_2)), .val (.int (v0_17 p0_3)), .val (.ref b2), .unset, .unset, .unset, .unset, .unset, .unset, .unset, .unset] [(.int (v0_133 p0_0)), (.int ((v0_12 p0_2) + (5 : Int32))), (.ref b2)])) rfl rfl (hb hby at_133)
  have N32 := Fr.snoc X32 N31 g_b2
  have Z32 : n0 ≤ h32.size := Nat.le_trans Z29 (Keep.of_wr W32).1
  have C32 : ArI Z h32 b2 .byte 19 (g0_133 p0_0 p0_2 p0_3) := B32
  have pre32 : ∀ t, Steps p.tables e below (T32.setTop (mkF m 134 #[.val (.long p0_0), .second, .val (.int p0_1), .val (.int p0_2), .val (.int p0_3), .val (.int (v0_7 p0_1)), .val (.int (v0_12 p0_2)), .val (.int (v0_17 p0_3)), .val (.ref b2), .unset, .unset, .unset, .unset, .unset, .unset, .unset, .unset] [])) t → Steps p.tables e below (s₁.setTop (entryFrame m #[(.long p0_0), (.int p0_1), (.int p0_2), (.int p0_3)] maxLocals)) t := fun t k => pre31 t (st32 t k)
  have pre33 : ∀ t, Steps p.tables e below (T32.setTop (mkF m 144 #[.val (.long p0_0), .second, .val (.int p0_1), .val (.int p0_2), .val (.int p0_3), .val (.int (v0_7 p0_1)), .val (.int (v0_12 p0_2)), .val (.int (v0_17 p0_3)), .val (.ref b2), .unset, .unset, .unset, .unset, .unset, .unset, .unset, .unset] [(.int (6 : Int32)), (.long p0_0), (.int ((v0_12 p0_2) + (6 : Int32))), (.ref b2)])) t → Steps p.tables e below (s₁.setTop (entryFrame m #[(.long p0_0), (.int p0_1), (.int p0_2), (.int p0_3)] maxLocals)) t := fun t k => pre32 t (by
    refine XS.aload X32.here hx rfl (hb hby at_134) rfl rfl ?_
    show Steps p.tables e below (T32.setTop (mkF m 136 #[.val (.long p0_0), .second, .val (.int p0_1), .val (.int p0_2), .val (.int p0_3), .val (.int (v0_7 p0_1)), .val (.int (v0_12 p0_2)), .val (.int (v0_17 p0_3)), .val (.ref b2), .unset, .unset, .unset, .unset, .unset, .unset, .unset, .unset] [(.ref b2)])) _
    refine XS.iload X32.here hx rfl (hb hby at_136) rfl ?_
    show Steps p.tables e below (T32.setTop (mkF m 138 #[.val (.long p0_0), .second, .val (.int p0_1), .val (.int p0_2), .val (.int p0_3), .val (.int (v0_7 p0_1)), .val (.int (v0_12 p0_2)), .val (.int (v0_17 p0_3)), .val (.ref b2), .unset, .unset, .unset, .unset, .unset, .unset, .unset, .unset] [(.int (v0_12 p0_2)), (.ref b2)])) _
    refine XS.bipush X32.here hx rfl (hb hby at_138) ?_
    show Steps p.tables e below (T32.setTop (mkF m 140 #[.val (.long p0_0), .second, .val (.int p0_1), .val (.int p0_2), .val (.int p0_3), .val (.int (v0_7 p0_1)), .val (.int (v0_12 p0_2)), .val (.int (v0_17 p0_3)), .val (.ref b2), .unset, .unset, .unset, .unset, .unset, .unset, .unset, .unset] [(.int (6 : Int32)), (.int (v0_12 p0_2)), (.ref b2)])) _
    refine XS.iadd X32.here hx rfl (hb hby at_140) rfl ?_
    show Steps p.tables e below (T32.setTop (mkF m 141 #[.val (.long p0_0), .second, .val (.int p0_1), .val (.int p0_2), .val (.int p0_3), .val (.int (v0_7 p0_1)), .val (.int (v0_12 p0_2)), .val (.int (v0_17 p0_3)), .val (.ref b2), .unset, .unset, .unset, .unset, .unset, .unset, .unset, .unset] [(.int ((v0_12 p0_2) + (6 : Int32))), (.ref b2)])) _
    refine XS.lloadN X32.here hx rfl (hb hby at_141) rfl ?_
    show Steps p.tables e below (T32.setTop (mkF m 142 #[.val (.long p0_0), .second, .val (.int p0_1), .val (.int p0_2), .val (.int p0_3), .val (.int (v0_7 p0_1)), .val (.int (v0_12 p0_2)), .val (.int (v0_17 p0_3)), .val (.ref b2), .unset, .unset, .unset, .unset, .unset, .unset, .unset, .unset] [(.long p0_0), (.int ((v0_12 p0_2) + (6 : Int32))), (.ref b2)])) _
    refine XS.bipush X32.here hx rfl (hb hby at_142) ?_
    show Steps p.tables e below (T32.setTop (mkF m 144 #[.val (.long p0_0), .second, .val (.int p0_1), .val (.int p0_2), .val (.int p0_3), .val (.int (v0_7 p0_1)), .val (.int (v0_12 p0_2)), .val (.int (v0_17 p0_3)), .val (.ref b2), .unset, .unset, .unset, .unset, .unset, .unset, .unset, .unset] [(.int (6 : Int32)), (.long p0_0), (.int ((v0_12 p0_2) + (6 : Int32))), (.ref b2)])) _
    exact k)
  obtain ⟨_, _, ⟨T34, L34, k34, n34⟩, -, X34, ⟨Lc34, hQ34, l34, y34, z34⟩, st34⟩ := Jvm.LawKit.callS X32 hx (y := (⟨"com/example/meterstone/meterstone/core/HexTextRead317PinLaw", "hex", "(JI)B"⟩ : MethodName)) hown (mvT hZ (hw _ (List.mem_of_getElem? (i := 2) rfl))) (mvT hZ (hw _ (List.mem_of_getElem? (i := 3) rfl))) (mvT hZ (hw _ (List.mem_of_getElem? (i := 4) rfl))) (mvT hZ (hw _ (List.mem_of_getElem? (i := 5) rfl))) (by decide) (backOf (W := 2) (rm1 l Z a0 hw [] p0_0 (6 : Int32) h32 n0 Z32 ) hZ (hw _ (List.mem_of_getElem? (i := 5) rfl)) (hw _ (List.mem_of_getElem? (i := 4) rfl)) (by decide) (by decide)) (g := (mkF m 144 #[.val (.long p0_0), .second, .val (.int p0_1), .val (.int p0_2), .val (.int p0_3), .val (.int (v0_7 p0_1)), .val (.int (v0_12 p0_2)), .val (.int (v0_17 p0_3)), .val (.ref b2), .unset, .unset, .unset, .unset, .unset, .unset, .unset, .unset] [(.int (6 : Int32)), (.long p0_0), (.int ((v0_12 p0_2) + (6 : Int32))), (.ref b2)])) rfl (by rw [hml]; rfl) (argsL := [(.long p0_0), (.int (6 : Int32))]) (rest := [(.int ((v0_12 p0_2) + (6 : Int32))), (.ref b2)]) (lenOf pd_0 rfl) rfl (by show 2 * 0 + _ ≤ _; exact Nat.le_of_eq rfl) (hb hby at_144) (fun _ _ => ⟨rfl, e32, (by decide : 1 + 0 ≤ _), (by decide : 19 + 0 ≤ _)⟩)
  dsimp only [Pt.U, Pt.locs, Pt.cells, Pt.slots] at X34 l34 y34 z34 st34 hQ34
  rw [l34, y34, z34] at X34
  obtain ⟨rfl, M34, e34⟩ := hQ34
  have N34 := Fr.app N32 M34
  replace X34 : Stand p l e room_1 s m #[(.long p0_0), (.int p0_1), (.int p0_2), (.int p0_3)] below meth c T34 _ 1 19 := X34
  have pre34 : ∀ t, Steps p.tables e below (T34.setTop (mkF m 147 #[.val (.long p0_0), .second, .val (.int p0_1), .val (.int p0_2), .val (.int p0_3), .val (.int (v0_7 p0_1)), .val (.int (v0_12 p0_2)), .val (.int (v0_17 p0_3)), .val (.ref b2), .unset, .unset, .unset, .unset, .unset, .unset, .unset, .unset] [(.int (r1 p0_0 (6 : Int32))), (.int ((v0_12 p0_2) + (6 : Int32))), (.ref b2)])) t → Steps p.tables e below (s₁.setTop (entryFrame m #[(.long p0_0), (.int p0_1), (.int p0_2), (.int p0_3)] maxLocals)) t := fun t k => pre33 t (st34 t k)
  obtain ⟨T35, h35, X35, e35, W35, B35, st35⟩ := own_stB X34 hx hZ e34 C32 (j := ((v0_12 p0_2) + (6 : Int32))) (i := (own_pad p0_2 + 6)) (own_pk6 p0_2) (by exact own_pkl p0_2 6 (by decide)) (g := (mkF m 147 #[.val (.long p0_0), .second, .val (.int p0_1), .val (.int p0_2), .val (.int p0_3), .val (.int (v0_7 p0_1)), .val (.int (v0_12 p0_2)), .val (.int (v0_17 p0_3)), .val (.ref b2), .unset, .unset, .unset, .unset, .unset, .unset, .unset, .unset] [(.int (v0_147 p0_0)), (.int ((v0_12 p0_2) + (6 : Int32))), (.ref b2)])) rfl rfl (hb hby at_147)
  have N35 := Fr.snoc X35 N34 g_b2
  have Z35 : n0 ≤ h35.size := Nat.le_trans Z32 (Keep.of_wr W35).1
  have C35 : ArI Z h35 b2 .byte 19 (g0_147 p0_0 p0_2 p0_3) := B35
  have pre35 : ∀ t, Steps p.tables e below (T35.setTop (mkF m 148 #[.val (.long p0_0), .second, .val (.int p0_1), .val (.int p0_2), .val (.int p0_3), .val (.int (v0_7 p0_1)), .val (.int (v0_12 p0_2)), .val (.int (v0_17 p0_3)), .val (.ref b2), .unset, .unset, .unset, .unset, .unset, .unset, .unset, .unset] [])) t → Steps p.tables e below (s₁.setTop (entryFrame m #[(.long p0_0), (.int p0_1), (.int p0_2), (.int p0_3)] maxLocals)) t := fun t k => pre34 t (st35 t k)
  have pre36 : ∀ t, Steps p.tables e below (T35.setTop (mkF m 158 #[.val (.long p0_0), .second, .val (.int p0_1), .val (.int p0_2), .val (.int p0_3), .val (.int (v0_7 p0_1)), .val (.int (v0_12 p0_2)), .val (.int (v0_17 p0_3)), .val (.ref b2), .unset, .unset, .unset, .unset, .unset, .unset, .unset, .unset] [(.int (7 : Int32)), (.long p0_0), (.int ((v0_12 p0_2) + (7 : Int32))), (.ref b2)])) t → Steps p.tables e below (s₁.setTop (entryFrame m #[(.long p0_0), (.int p0_1), (.int p0_2), (.int p0_3)] maxLocals)) t := fun t k => pre35 t (by
    refine XS.aload X35.here hx rfl (hb hby at_148) rfl rfl ?_
    show Steps p.tables e below (T35.setTop (mkF m 150 #[.val (.long p0_0), .second, .val (.int p0_1), .val (.int p0_2), .val (.int p0_3), .val (.int (v0_7 p0_1)), .val (.int (v0_12 p0_2)), .val (.int (v0_17 p0_3)), .val (.ref b2), .unset, .unset, .unset, .unset, .unset, .unset, .unset, .unset] [(.ref b2)])) _
    refine XS.iload X35.here hx rfl (hb hby at_150) rfl ?_
    show Steps p.tables e below (T35.setTop (mkF m 152 #[.val (.long p0_0), .second, .val (.int p0_1), .val (.int p0_2), .val (.int p0_3), .val (.int (v0_7 p0_1)), .val (.int (v0_12 p0_2)), .val (.int (v0_17 p0_3)), .val (.ref b2), .unset, .unset, .unset, .unset, .unset, .unset, .unset, .unset] [(.int (v0_12 p0_2)), (.ref b2)])) _
    refine XS.bipush X35.here hx rfl (hb hby at_152) ?_
    show Steps p.tables e below (T35.setTop (mkF m 154 #[.val (.long p0_0), .second, .val (.int p0_1), .val (.int p0_2), .val (.int p0_3), .val (.int (v0_7 p0_1)), .val (.int (v0_12 p0_2)), .val (.int (v0_17 p0_3)), .val (.ref b2), .unset, .unset, .unset, .unset, .unset, .unset, .unset, .unset] [(.int (7 : Int32)), (.int (v0_12 p0_2)), (.ref b2)])) _
    refine XS.iadd X35.here hx rfl (hb hby at_154) rfl ?_
    show Steps p.tables e below (T35.setTop (mkF m 155 #[.val (.long p0_0), .second, .val (.int p0_1), .val (.int p0_2), .val (.int p0_3), .val (.int (v0_7 p0_1)), .val (.int (v0_12 p0_2)), .val (.int (v0_17 p0_3)), .val (.ref b2), .unset, .unset, .unset, .unset, .unset, .unset, .unset, .unset] [(.int ((v0_12 p0_2) + (7 : Int32))), (.ref b2)])) _
    refine XS.lloadN X35.here hx rfl (hb hby at_155) rfl ?_
    show Steps p.tables e below (T35.setTop (mkF m 156 #[.val (.long p0_0), .second, .val (.int p0_1), .val (.int p0_2), .val (.int p0_3), .val (.int (v0_7 p0_1)), .val (.int (v0_12 p0_2)), .val (.int (v0_17 p0_3)), .val (.ref b2), .unset, .unset, .unset, .unset, .unset, .unset, .unset, .unset] [(.long p0_0), (.int ((v0_12 p0_2) + (7 : Int32))), (.ref b2)])) _
    refine XS.bipush X35.here hx rfl (hb hby at_156) ?_
    show Steps p.tables e below (T35.setTop (mkF m 158 #[.val (.long p0_0), .second, .val (.int p0_1), .val (.int p0_2), .val (.int p0_3), .val (.int (v0_7 p0_1)), .val (.int (v0_12 p0_2)), .val (.int (v0_17 p0_3)), .val (.ref b2), .unset, .unset, .unset, .unset, .unset, .unset, .unset, .unset] [(.int (7 : Int32)), (.long p0_0), (.int ((v0_12 p0_2) + (7 : Int32))), (.ref b2)])) _
    exact k)
  obtain ⟨_, _, ⟨T37, L37, k37, n37⟩, -, X37, ⟨Lc37, hQ37, l37, y37, z37⟩, st37⟩ := Jvm.LawKit.callS X35 hx (y := (⟨"com/example/meterstone/meterstone/core/HexTextRead317PinLaw", "hex", "(JI)B"⟩ : MethodName)) hown (mvT hZ (hw _ (List.mem_of_getElem? (i := 2) rfl))) (mvT hZ (hw _ (List.mem_of_getElem? (i := 3) rfl))) (mvT hZ (hw _ (List.mem_of_getElem? (i := 4) rfl))) (mvT hZ (hw _ (List.mem_of_getElem? (i := 5) rfl))) (by decide) (backOf (W := 2) (rm1 l Z a0 hw [] p0_0 (7 : Int32) h35 n0 Z35 ) hZ (hw _ (List.mem_of_getElem? (i := 5) rfl)) (hw _ (List.mem_of_getElem? (i := 4) rfl)) (by decide) (by decide)) (g := (mkF m 158 #[.val (.long p0_0), .second, .val (.int p0_1), .val (.int p0_2), .val (.int p0_3), .val (.int (v0_7 p0_1)), .val (.int (v0_12 p0_2)), .val (.int (v0_17 p0_3)), .val (.ref b2), .unset, .unset, .unset, .unset, .unset, .unset, .unset, .unset] [(.int (7 : Int32)), (.long p0_0), (.int ((v0_12 p0_2) + (7 : Int32))), (.ref b2)])) rfl (by rw [hml]; rfl) (argsL := [(.long p0_0), (.int (7 : Int32))]) (rest := [(.int ((v0_12 p0_2) + (7 : Int32))), (.ref b2)]) (lenOf pd_0 rfl) rfl (by show 2 * 0 + _ ≤ _; exact Nat.le_of_eq rfl) (hb hby at_158) (fun _ _ => ⟨rfl, e35, (by decide : 1 + 0 ≤ _), (by decide : 19 + 0 ≤ _)⟩)
  dsimp only [Pt.U, Pt.locs, Pt.cells, Pt.slots] at X37 l37 y37 z37 st37 hQ37
  rw [l37, y37, z37] at X37
  obtain ⟨rfl, M37, e37⟩ := hQ37
  have N37 := Fr.app N35 M37
  replace X37 : Stand p l e room_1 s m #[(.long p0_0), (.int p0_1), (.int p0_2), (.int p0_3)] below meth c T37 _ 1 19 := X37
  have pre37 : ∀ t, Steps p.tables e below (T37.setTop (mkF m 161 #[.val (.long p0_0), .second, .val (.int p0_1), .val (.int p0_2), .val (.int p0_3), .val (.int (v0_7 p0_1)), .val (.int (v0_12 p0_2)), .val (.int (v0_17 p0_3)), .val (.ref b2), .unset, .unset, .unset, .unset, .unset, .unset, .unset, .unset] [(.int (r1 p0_0 (7 : Int32))), (.int ((v0_12 p0_2) + (7 : Int32))), (.ref b2)])) t → Steps p.tables e below (s₁.setTop (entryFrame m #[(.long p0_0), (.int p0_1), (.int p0_2), (.int p0_3)] maxLocals)) t := fun t k => pre36 t (st37 t k)
  obtain ⟨T38, h38, X38, e38, W38, B38, st38⟩ := own_stB X37 hx hZ e37 C35 (j := ((v0_12 p0_2) + (7 : Int32))) (i := (own_pad p0_2 + 7)) (own_pk7 p0_2) (by exact own_pkl p0_2 7 (by decide)) (g := (mkF m 161 #[.val (.long p0_0), .second, .val (.int p0_1), .val (.int p0_2), .val (.int p0_3), .val (.int (v0_7 p0_1)), .val (.int (v0_12 p0_2)), .val (.int (v0_17 p0_3)), .val (.ref b2), .unset, .unset, .unset, .unset, .unset, .unset, .unset, .unset] [(.int (v0_161 p0_0)), (.int ((v0_12 p0_2) + (7 : Int32))), (.ref b2)])) rfl rfl (hb hby at_161)
  have N38 := Fr.snoc X38 N37 g_b2
  have Z38 : n0 ≤ h38.size := Nat.le_trans Z35 (Keep.of_wr W38).1
  have C38 : ArI Z h38 b2 .byte 19 (g0_161 p0_0 p0_2 p0_3) := B38
  have pre38 : ∀ t, Steps p.tables e below (T38.setTop (mkF m 162 #[.val (.long p0_0), .second, .val (.int p0_1), .val (.int p0_2), .val (.int p0_3), .val (.int (v0_7 p0_1)), .val (.int (v0_12 p0_2)), .val (.int (v0_17 p0_3)), .val (.ref b2), .unset, .unset, .unset, .unset, .unset, .unset, .unset, .unset] [])) t → Steps p.tables e below (s₁.setTop (entryFrame m #[(.long p0_0), (.int p0_1), (.int p0_2), (.int p0_3)] maxLocals)) t := fun t k => pre37 t (st38 t k)
  have pre39 : ∀ t, Steps p.tables e below (T38.setTop (mkF m 172 #[.val (.long p0_0), .second, .val (.int p0_1), .val (.int p0_2), .val (.int p0_3), .val (.int (v0_7 p0_1)), .val (.int (v0_12 p0_2)), .val (.int (v0_17 p0_3)), .val (.ref b2), .unset, .unset, .unset, .unset, .unset, .unset, .unset, .unset] [(.int (8 : Int32)), (.long p0_0), (.int ((v0_12 p0_2) + (8 : Int32))), (.ref b2)])) t → Steps p.tables e below (s₁.setTop (entryFrame m #[(.long p0_0), (.int p0_1), (.int p0_2), (.int p0_3)] maxLocals)) t := fun t k => pre38 t (by
    refine XS.aload X38.here hx rfl (hb hby at_162) rfl rfl ?_
    show Steps p.tables e below (T38.setTop (mkF m 164 #[.val (.long p0_0), .second, .val (.int p0_1), .val (.int p0_2), .val (.int p0_3), .val (.int (v0_7 p0_1)), .val (.int (v0_12 p0_2)), .val (.int (v0_17 p0_3)), .val (.ref b2), .unset, .unset, .unset, .unset, .unset, .unset, .unset, .unset] [(.ref b2)])) _
    refine XS.iload X38.here hx rfl (hb hby at_164) rfl ?_
    show Steps p.tables e below (T38.setTop (mkF m 166 #[.val (.long p0_0), .second, .val (.int p0_1), .val (.int p0_2), .val (.int p0_3), .val (.int (v0_7 p0_1)), .val (.int (v0_12 p0_2)), .val (.int (v0_17 p0_3)), .val (.ref b2), .unset, .unset, .unset, .unset, .unset, .unset, .unset, .unset] [(.int (v0_12 p0_2)), (.ref b2)])) _
    refine XS.bipush X38.here hx rfl (hb hby at_166) ?_
    show Steps p.tables e below (T38.setTop (mkF m 168 #[.val (.long p0_0), .second, .val (.int p0_1), .val (.int p0_2), .val (.int p0_3), .val (.int (v0_7 p0_1)), .val (.int (v0_12 p0_2)), .val (.int (v0_17 p0_3)), .val (.ref b2), .unset, .unset, .unset, .unset, .unset, .unset, .unset, .unset] [(.int (8 : Int32)), (.int (v0_12 p0_2)), (.ref b2)])) _
    refine XS.iadd X38.here hx rfl (hb hby at_168) rfl ?_
    show Steps p.tables e below (T38.setTop (mkF m 169 #[.val (.long p0_0), .second, .val (.int p0_1), .val (.int p0_2), .val (.int p0_3), .val (.int (v0_7 p0_1)), .val (.int (v0_12 p0_2)), .val (.int (v0_17 p0_3)), .val (.ref b2), .unset, .unset, .unset, .unset, .unset, .unset, .unset, .unset] [(.int ((v0_12 p0_2) + (8 : Int32))), (.ref b2)])) _
    refine XS.lloadN X38.here hx rfl (hb hby at_169) rfl ?_
    show Steps p.tables e below (T38.setTop (mkF m 170 #[.val (.long p0_0), .second, .val (.int p0_1), .val (.int p0_2), .val (.int p0_3), .val (.int (v0_7 p0_1)), .val (.int (v0_12 p0_2)), .val (.int (v0_17 p0_3)), .val (.ref b2), .unset, .unset, .unset, .unset, .unset, .unset, .unset, .unset] [(.long p0_0), (.int ((v0_12 p0_2) + (8 : Int32))), (.ref b2)])) _
    refine XS.bipush X38.here hx rfl (hb hby at_170) ?_
    show Steps p.tables e below (T38.setTop (mkF m 172 #[.val (.long p0_0), .second, .val (.int p0_1), .val (.int p0_2), .val (.int p0_3), .val (.int (v0_7 p0_1)), .val (.int (v0_12 p0_2)), .val (.int (v0_17 p0_3)), .val (.ref b2), .unset, .unset, .unset, .unset, .unset, .unset, .unset, .unset] [(.int (8 : Int32)), (.long p0_0), (.int ((v0_12 p0_2) + (8 : Int32))), (.ref b2)])) _
    exact k)
  obtain ⟨_, _, ⟨T40, L40, k40, n40⟩, -, X40, ⟨Lc40, hQ40, l40, y40, z40⟩, st40⟩ := Jvm.LawKit.callS X38 hx (y := (⟨"com/example/meterstone/meterstone/core/HexTextRead317PinLaw", "hex", "(JI)B"⟩ : MethodName)) hown (mvT hZ (hw _ (List.mem_of_getElem? (i := 2) rfl))) (mvT hZ (hw _ (List.mem_of_getElem? (i := 3) rfl))) (mvT hZ (hw _ (List.mem_of_getElem? (i := 4) rfl))) (mvT hZ (hw _ (List.mem_of_getElem? (i := 5) rfl))) (by decide) (backOf (W := 2) (rm1 l Z a0 hw [] p0_0 (8 : Int32) h38 n0 Z38 ) hZ (hw _ (List.mem_of_getElem? (i := 5) rfl)) (hw _ (List.mem_of_getElem? (i := 4) rfl)) (by decide) (by decide)) (g := (mkF m 172 #[.val (.long p0_0), .second, .val (.int p0_1), .val (.int p0_2), .val (.int p0_3), .val (.int (v0_7 p0_1)), .val (.int (v0_12 p0_2)), .val (.int (v0_17 p0_3)), .val (.ref b2), .unset, .unset, .unset, .unset, .unset, .unset, .unset, .unset] [(.int (8 : Int32)), (.long p0_0), (.int ((v0_12 p0_2) + (8 : Int32))), (.ref b2)])) rfl (by rw [hml]; rfl) (argsL := [(.long p0_0), (.int (8 : Int32))]) (rest := [(.int ((v0_12 p0_2) + (8 : Int32))), (.ref b2)]) (lenOf pd_0 rfl) rfl (by show 2 * 0 + _ ≤ _; exact Nat.le_of_eq rfl) (hb hby at_172) (fun _ _ => ⟨rfl, e38, (by decide : 1 + 0 ≤ _), (by decide : 19 + 0 ≤ _)⟩)
  dsimp only [Pt.U, Pt.locs, Pt.cells, Pt.slots] at X40 l40 y40 z40 st40 hQ40
  rw [l40, y40, z40] at X40
  obtain ⟨rfl, M40, e40⟩ := hQ40
  have N40 := Fr.app N38 M40
  replace X40 : Stand p l e room_1 s m #[(.long p0_0), (.int p0_1), (.int p0_2), (.int p0_3)] below meth c T40 _ 1 19 := X40
  have pre40 : ∀ t, Steps p.tables e below (T40.setTop (mkF m 175 #[.val (.long p0_0), .second, .val (.int p0_1), .val (.int p0_2), .val (.int p0_3), .val (.int (v0_7 p0_1)), .val (.int (v0_12 p0_2)), .val (.int (v0_17 p0_3)), .val (.ref b2), .unset, .unset, .unset, .unset, .unset, .unset, .unset, .unset] [(.int (r1 p0_0 (8 : Int32))), (.int ((v0_12 p0_2) + (8 : Int32))), (.ref b2)])) t → Steps p.tables e below (s₁.setTop (entryFrame m #[(.long p0_0), (.int p0_1), (.int p0_2), (.int p0_3)] maxLocals)) t := fun t k => pre39 t (st40 t k)
  obtain ⟨T41, h41, X41, e41, W41, B41, st41⟩ := own_stB X40 hx hZ e40 C38 (j := ((v0_12 p0_2) + (8 : Int32))) (i := (own_pad p0_2 + 8)) (own_pk8 p0_2) (by exact own_pkl p0_2 8 (by decide)) (g := (mkF m 175 #[.val (.long p0_0), .second, .val (.int p0_1), .val (.int p0_2), .val (.int p0_3), .val (.int (v0_7 p0_1)), .val (.int (v0_12 p0_2)), .val (.int (v0_17 p0_3)), .val (.ref b2), .unset, .unset, .unset, .unset, .unset, .unset, .unset, .unset] [(.int (v0_175 p0_0)), (.int ((v0_12 p0_2) + (8 : Int32))), (.ref b2)])) rfl rfl (hb hby at_175)
  have N41 := Fr.snoc X41 N40 g_b2
  have Z41 : n0 ≤ h41.size := Nat.le_trans Z38 (Keep.of_wr W41).1
  have C41 : ArI Z h41 b2 .byte 19 (g0_175 p0_0 p0_2 p0_3) := B41
  have pre41 : ∀ t, Steps p.tables e below (T41.setTop (mkF m 176 #[.val (.long p0_0), .second, .val (.int p0_1), .val (.int p0_2), .val (.int p0_3), .val (.int (v0_7 p0_1)), .val (.int (v0_12 p0_2)), .val (.int (v0_17 p0_3)), .val (.ref b2), .unset, .unset, .unset, .unset, .unset, .unset, .unset, .unset] [])) t → Steps p.tables e below (s₁.setTop (entryFrame m #[(.long p0_0), (.int p0_1), (.int p0_2), (.int p0_3)] maxLocals)) t := fun t k => pre40 t (st41 t k)
  have pre42 : ∀ t, Steps p.tables e below (T41.setTop (mkF m 186 #[.val (.long p0_0), .second, .val (.int p0_1), .val (.int p0_2), .val (.int p0_3), .val (.int (v0_7 p0_1)), .val (.int (v0_12 p0_2)), .val (.int (v0_17 p0_3)), .val (.ref b2), .unset, .unset, .unset, .unset, .unset, .unset, .unset, .unset] [(.int (9 : Int32)), (.long p0_0), (.int ((v0_12 p0_2) + (9 : Int32))), (.ref b2)])) t → Steps p.tables e below (s₁.setTop (entryFrame m #[(.long p0_0), (.int p0_1), (.int p0_2), (.int p0_3)] maxLocals)) t := fun t k => pre41 t (by
    refine XS.aload X41.here hx rfl (hb hby at_176) rfl rfl ?_
    show Steps p.tables e below (T41.setTop (mkF m 178 #[.val (.long p0_0), .second, .val (.int p0_1), .val (.int p0_2), .val (.int p0_3), .val (.int (v0_7 p0_1)), .val (.int (v0_12 p0_2)), .val (.int (v0_17 p0_3)), .val (.ref b2), .unset, .unset, .unset, .unset, .unset, .unset, .unset, .unset] [(.ref b2)])) _
    refine XS.iload X41.here hx rfl (hb hby at_178) rfl ?_
    show Steps p.tables e below (T41.setTop (mkF m 180 #[.val (.long p0_0), .second, .val (.int p0_1), .val (.int p0_2), .val (.int p0_3), .val (.int (v0_7 p0_1)), .val (.int (v0_12 p0_2)), .val (.int (v0_17 p0_3)), .val (.ref b2), .unset, .unset, .unset, .unset, .unset, .unset, .unset, .unset] [(.int (v0_12 p0_2)), (.ref b2)])) _
    refine XS.bipush X41.here hx rfl (hb hby at_180) ?_
    show Steps p.tables e below (T41.setTop (mkF m 182 #[.val (.long p0_0), .second, .val (.int p0_1), .val (.int p0_2), .val (.int p0_3), .val (.int (v0_7 p0_1)), .val (.int (v0_12 p0_2)), .val (.int (v0_17 p0_3)), .val (.ref b2), .unset, .unset, .unset, .unset, .unset, .unset, .unset, .unset] [(.int (9 : Int32)), (.int (v0_12 p0_2)), (.ref b2)])) _
    refine XS.iadd X41.here hx rfl (hb hby at_182) rfl ?_
    show Steps p.tables e below (T41.setTop (mkF m 183 #[.val (.long p0_0), .second, .val (.int p0_1), .val (.int p0_2), .val (.int p0_3), .val (.int (v0_7 p0_1)), .val (.int (v0_12 p0_2)), .val (.int (v0_17 p0_3)), .val (.ref b2), .unset, .unset, .unset, .unset, .unset, .unset, .unset, .unset] [(.int ((v0_12 p0_2) + (9 : Int32))), (.ref b2)])) _
    refine XS.lloadN X41.here hx rfl (hb hby at_183) rfl ?_
    show Steps p.tables e below (T41.setTop (mkF m 184 #[.val (.long p0_0), .second, .val (.int p0_1), .val (.int p0_2), .val (.int p0_3), .val (.int (v0_7 p0_1)), .val (.int (v0_12 p0_2)), .val (.int (v0_17 p0_3)), .val (.ref b2), .unset, .unset, .unset, .unset, .unset, .unset, .unset, .unset] [(.long p0_0), (.int ((v0_12 p0_2) + (9 : Int32))), (.ref b2)])) _
    refine XS.bipush X41.here hx rfl (hb hby at_184) ?_
    show Steps p.tables e below (T41.setTop (mkF m 186 #[.val (.long p0_0), .second, .val (.int p0_1), .val (.int p0_2), .val (.int p0_3), .val (.int (v0_7 p0_1)), .val (.int (v0_12 p0_2)), .val (.int (v0_17 p0_3)), .val (.ref b2), .unset, .unset, .unset, .unset, .unset, .unset, .unset, .unset] [(.int (9 : Int32)), (.long p0_0), (.int ((v0_12 p0_2) + (9 : Int32))), (.ref b2)])) _
    exact k)
  obtain ⟨_, _, ⟨T43, L43, k43, n43⟩, -, X43, ⟨Lc43, hQ43, l43, y43, z43⟩, st43⟩ := Jvm.LawKit.callS X41 hx (y := (⟨"com/example/meterstone/meterstone/core/HexTextRead317PinLaw", "hex", "(JI)B"⟩ : MethodName)) hown (mvT hZ (hw _ (List.mem_of_getElem? (i := 2) rfl))) (mvT hZ (hw _ (List.mem_of_getElem? (i := 3) rfl))) (mvT hZ (hw _ (List.mem_of_getElem? (i := 4) rfl))) (mvT hZ (hw _ (List.mem_of_getElem? (i := 5) rfl))) (by decide) (backOf (W := 2) (rm1 l Z a0 hw [] p0_0 (9 : Int32) h41 n0 Z41 ) hZ (hw _ (List.mem_of_getElem? (i := 5) rfl)) (hw _ (List.mem_of_getElem? (i := 4) rfl)) (by decide) (by decide)) (g := (mkF m 186 #[.val (.long p0_0), .second, .val (.int p0_1), .val (.int p0_2), .val (.int p0_3), .val (.int (v0_7 p0_1)), .val (.int (v0_12 p0_2)), .val (.int (v0_17 p0_3)), .val (.ref b2), .unset, .unset, .unset, .unset, .unset, .unset, .unset, .unset] [(.int (9 : Int32)), (.long p0_0), (.int ((v0_12 p0_2) + (9 : Int32))), (.ref b2)])) rfl (by rw [hml]; rfl) (argsL := [(.long p0_0), (.int (9 : Int32))]) (rest := [(.int ((v0_12 p0_2) + (9 : Int32))), (.ref b2)]) (lenOf pd_0 rfl) rfl (by show 2 * 0 + _ ≤ _; exact Nat.le_of_eq rfl) (hb hby at_186) (fun _ _ => ⟨rfl, e41, (by decide : 1 + 0 ≤ _), (by decide : 19 + 0 ≤ _)⟩)
  dsimp only [Pt.U, Pt.locs, Pt.cells, Pt.slots] at X43 l43 y43 z43 st43 hQ43
  rw [l43, y43, z43] at X43
  obtain ⟨rfl, M43, e43⟩ := hQ43
  have N43 := Fr.app N41 M43
  replace X43 : Stand p l e room_1 s m #[(.long p0_0), (.int p0_1), (.int p0_2), (.int p0_3)] below meth c T43 _ 1 19 := X43
  have pre43 : ∀ t, Steps p.tables e below (T43.setTop (mkF m 189 #[.val (.long p0_0), .second, .val (.int p0_1), .val (.int p0_2), .val (.int p0_3), .val (.int (v0_7 p0_1)), .val (.int (v0_12 p0_2)), .val (.int (v0_17 p0_3)), .val (.ref b2), .unset, .unset, .unset, .unset, .unset, .unset, .unset, .unset] [(.int (r1 p0_0 (9 : Int32))), (.int ((v0_12 p0_2) + (9 : Int32))), (.ref b2)])) t → Steps p.tables e below (s₁.setTop (entryFrame m #[(.long p0_0), (.int p0_1), (.int p0_2), (.int p0_3)] maxLocals)) t := fun t k => pre42 t (st43 t k)
  obtain ⟨T44, h44, X44, e44, W44, B44, st44⟩ := own_stB X43 hx hZ e43 C41 (j := ((v0_12 p0_2) + (9 : Int32))) (i := (own_pad p0_2 + 9)) (own_pk9 p0_2) (by exact own_pkl p0_2 9 (by decide)) (g := (mkF m 189 #[.val (.long p0_0), .second, .val (.int p0_1), .val (.int p0_2), .val (.int p0_3), .val (.int (v0_7 p0_1)), .val (.int (v0_12 p0_2)), .val (.int (v0_17 p0_3)), .val (.ref b2), .unset, .unset, .unset, .unset, .unset, .unset, .unset, .unset] [(.int (v0_189 p0_0)), (.int ((v0_12 p0_2) + (9 : Int32))), (.ref b2)])) rfl rfl (hb hby at_189)
  have N44 := Fr.snoc X44 N43 g_b2
  have Z44 : n0 ≤ h44.size := Nat.le_trans Z41 (Keep.of_wr W44).1
  have C44 : ArI Z h44 b2 .byte 19 (g0_189 p0_0 p0_2 p0_3) := B44
  have pre44 : ∀ t, Steps p.tables e below (T44.setTop (mkF m 190 #[.val (.long p0_0), .second, .val (.int p0_1), .val (.int p0_2), .val (.int p0_3), .val (.int (v0_7 p0_1)), .val (.int (v0_12 p0_2)), .val (.int (v0_17 p0_3)), .val (.ref b2), .unset, .unset, .unset, .unset, .unset, .unset, .unset, .unset] [])) t → Steps p.tables e below (s₁.setTop (entryFrame m #[(.long p0_0), (.int p0_1), (.int p0_2), (.int p0_3)] maxLocals)) t := fun t k => pre43 t (st44 t k)
  have pre45 : ∀ t, Steps p.tables e below (T44.setTop (mkF m 200 #[.val (.long p0_0), .second, .val (.int p0_1), .val (.int p0_2), .val (.int p0_3), .val (.int (v0_7 p0_1)), .val (.int (v0_12 p0_2)), .val (.int (v0_17 p0_3)), .val (.ref b2), .unset, .unset, .unset, .unset, .unset, .unset, .unset, .unset] [(.int (10 : Int32)), (.long p0_0), (.int ((v0_12 p0_2) + (10 : Int32))), (.ref b2)])) t → Steps p.tables e below (s₁.setTop (entryFrame m #[(.long p0_0), (.int p0_1), (.int p0_2), (.int p0_3)] maxLocals)) t := fun t k => pre44 t (by
    refine XS.aload X44.here hx rfl (hb hby at_190) rfl rfl ?_
    show Steps p.tables e below (T44.setTop (mkF m 192 #[.val (.long p0_0), .second, .val (.int p0_1), .val (.int p0_2), .val (.int p0_3), .val (.int (v0_7 p0_1)), .val (.int (v0_12 p0_2)), .val (.int (v0_17 p0_3)), .val (.ref b2), .unset, .unset, .unset, .unset, .unset, .unset, .unset, .unset] [(.ref b2)])) _
    refine XS.iload X44.here hx rfl (hb hby at_192) rfl ?_
    show Steps p.tables e below (T44.setTop (mkF m 194 #[.val (.long p0_0), .second, .val (.int p0_1), .val (.int p0_2), .val (.int p0_3), .val (.int (v0_7 p0_1)), .val (.int (v0_12 p0_2)), .val (.int (v0_17 p0_3)), .val (.ref b2), .unset, .unset, .unset, .unset, .unset, .unset, .unset, .unset] [(.int (v0_12 p0_2)), (.ref b2)])) _
    refine XS.bipush X44.here hx rfl (hb hby at_194) ?_
    show Steps p.tables e below (T44.setTop (mkF m 196 #[.val (.long p0_0), .second, .val (.int p0_1), .val (.int p0_2), .val (.int p0_3), .val (.int (v0_7 p0_1)), .val (.int (v0_12 p0_2)), .val (.int (v0_17 p0_3)), .val (.ref b2), .unset, .unset, .unset, .unset, .unset, .unset, .unset, .unset] [(.int (10 : Int32)), (.int (v0_12 p0_2)), (.ref b2)])) _
    refine XS.iadd X44.here hx rfl (hb hby at_196) rfl ?_
    show Steps p.tables e below (T44.setTop (mkF m 197 #[.val (.long p0_0), .second, .val (.int p0_1), .val (.int p0_2), .val (.int p0_3), .val (.int (v0_7 p0_1)), .val (.int (v0_12 p0_2)), .val (.int (v0_17 p0_3)), .val (.ref b2), .unset, .unset, .unset, .unset, .unset, .unset, .unset, .unset] [(.int ((v0_12 p0_2) + (10 : Int32))), (.ref b2)])) _
    refine XS.lloadN X44.here hx rfl (hb hby at_197) rfl ?_
    show Steps p.tables e below (T44.setTop (mkF m 198 #[.val (.long p0_0), .second, .val (.int p0_1), .val (.int p0_2), .val (.int p0_3), .val (.int (v0_7 p0_1)), .val (.int (v0_12 p0_2)), .val (.int (v0_17 p0_3)), .val (.ref b2), .unset, .unset, .unset, .unset, .unset, .unset, .unset, .unset] [(.long p0_0), (.int ((v0_12 p0_2) + (10 : Int32))), (.ref b2)])) _
    refine XS.bipush X44.here hx rfl (hb hby at_198) ?_
    show Steps p.tables e below (T44.setTop (mkF m 200 #[.val (.long p0_0), .second, .val (.int p0_1), .val (.int p0_2), .val (.int p0_3), .val (.int (v0_7 p0_1)), .val (.int (v0_12 p0_2)), .val (.int (v0_17 p0_3)), .val (.ref b2), .unset, .unset, .unset, .unset, .unset, .unset, .unset, .unset] [(.int (10 : Int32)), (.long p0_0), (.int ((v0_12 p0_2) + (10 : Int32))), (.ref b2)])) _
    exact k)
  obtain ⟨_, _, ⟨T46, L46, k46, n46⟩, -, X46, ⟨Lc46, hQ46, l46, y46, z46⟩, st46⟩ := Jvm.LawKit.callS X44 hx (y := (⟨"com/example/meterstone/meterstone/core/HexTextRead317PinLaw", "hex", "(JI)B"⟩ : MethodName)) hown (mvT hZ (hw _ (List.mem_of_getElem? (i := 2) rfl))) (mvT hZ (hw _ (List.mem_of_getElem? (i := 3) rfl))) (mvT hZ (hw _ (List.mem_of_getElem? (i := 4) rfl))) (mvT hZ (hw _ (List.mem_of_getElem? (i := 5) rfl))) (by decide) (backOf (W := 2) (rm1 l Z a0 hw [] p0_0 (10 : Int32) h44 n0 Z44 ) hZ (hw _ (List.mem_of_getElem? (i := 5) rfl)) (hw _ (List.mem_of_getElem? (i := 4) rfl)) (by decide) (by decide)) (g := (mkF m 200 #[.val (.long p0_0), .second, .val (.int p0_1), .val (.int p0_2), .val (.int p0_3), .val (.int (v0_7 p0_1)), .val (.int (v0_12 p0_2)), .val (.int (v0_17 p0_3)), .val (.ref b2), .unset, .unset, .unset, .unset, .unset, .unset, .unset, .unset] [(.int (10 : Int32)), (.long p0_0), (.int ((v0_12 p0_2) + (10 : Int32))), (.ref b2)])) rfl (by rw [hml]; rfl) (argsL := [(.long p0_0), (.int (10 : Int32))]) (rest := [(.int ((v0_12 p0_2) + (10 : Int32))), (.ref b2)]) (lenOf pd_0 rfl) rfl (by show 2 * 0 + _ ≤ _; exact Nat.le_of_eq rfl) (hb hby at_200) (fun _ _ => ⟨rfl, e44, (by decide : 1 + 0 ≤ _), (by decide : 19 + 0 ≤ _)⟩)
  dsimp only [Pt.U, Pt.locs, Pt.cells, Pt.slots] at X46 l46 y46 z46 st46 hQ46
  rw [l46, y46, z46] at X46
  obtain ⟨rfl, M46, e46⟩ := hQ46
  have N46 := Fr.app N44 M46
  replace X46 : Stand p l e room_1 s m #[(.long p0_0), (.int p0_1), (.int p0_2), (.int p0_3)] below meth c T46 _ 1 19 := X46
  have pre46 : ∀ t, Steps p.tables e below (T46.setTop (mkF m 203 #[.val (.long p0_0), .second, .val (.int p0_1), .val (.int p0_2), .val (.int p0_3), .val (.int (v0_7 p0_1)), .val (.int (v0_12 p0_2)), .val (.int (v0_17 p0_3)), .val (.ref b2), .unset, .unset, .unset, .unset, .unset, .unset, .unset, .unset] [(.int (r1 p0_0 (10 : Int32))), (.int ((v0_12 p0_2) + (10 : Int32))), (.ref b2)])) t → Steps p.tables e below (s₁.setTop (entryFrame m #[(.long p0_0), (.int p0_1), (.int p0_2), (.int p0_3)] maxLocals)) t := fun t k => pre45 t (st46 t k)
  obtain ⟨T47, h47, X47, e47, W47, B47, st47⟩ := own_stB X46 hx hZ e46 C44 (j := ((v0_12 p0_2) + (10 : Int32))) (i := (own_pad p0_2 + 10)) (own_pk10 p0_2) (by exact own_pkl p0_2 10 (by decide)) (g := (mkF m 203 #[.val (.long p0_0), .second, .val (.int p0_1), .val (.int p0_2), .val (.int p0_3), .val (.int (v0_7 p0_1)), .val (.int (v0_12 p0_2)), .val (.int (v0_17 p0_3)), .val (.ref b2), .unset, .unset, .unset, .unset, .unset, .unset, .unset, .unset] [(.int (v0_203 p0_0)), (.int ((v0_12 p0_2) + (10 : Int32))), (.ref b2)])) rfl rfl (hb hby at_203)
  have N47 := Fr.snoc X47 N46 g_b2
  have Z47 : n0 ≤ h47.size := Nat.le_trans Z44 (Keep.of_wr W47).1
  have C47 : ArI Z h47 b2 .byte 19 (g0_203 p0_0 p0_2 p0_3) := B47
  have pre47 : ∀ t, Steps p.tables e below (T47.setTop (mkF m 204 #[.val (.long p0_0), .second, .val (.int p0_1), .val (.int p0_2), .val (.int p0_3), .val (.int (v0_7 p0_1)), .val (.int (v0_12 p0_2)), .val (.int (v0_17 p0_3)), .val (.ref b2), .unset, .unset, .unset, .unset, .unset, .unset, .unset, .unset] [])) t → Steps p.tables e below (s₁.setTop (entryFrame m #[(.long p0_0), (.int p0_1), (.int p0_2), (.int p0_3)] maxLocals)) t := fun t k => pre46 t (st47 t k)
  have pre48 : ∀ t, Steps p.tables e below (T47.setTop (mkF m 214 #[.val (.long p0_0), .second, .val (.int p0_1), .val (.int p0_2), .val (.int p0_3), .val (.int (v0_7 p0_1)), .val (.int (v0_12 p0_2)), .val (.int (v0_17 p0_3)), .val (.ref b2), .unset, .unset, .unset, .unset, .unset, .unset, .unset, .unset] [(.int (11 : Int32)), (.long p0_0), (.int ((v0_12 p0_2) + (11 : Int32))), (.ref b2)])) t → Steps p.tables e below (s₁.setTop (entryFrame m #[(.long p0_0), (.int p0_1), (.int p0_2), (.int p0_3)] maxLocals)) t := fun t k => pre47 t (by
    refine XS.aload X47.here hx rfl (hb hby at_204) rfl rfl ?_
    show Steps p.tables e below (T47.setTop (mkF m 206 #[.val (.long p0_0), .second, .val (.int p0_1), .val (.int p0_2), .val (.int p0_3), .val (.int (v0_7 p0_1)), .val (.int (v0_12 p0_2)), .val (.int (v0_17 p0_3)), .val (.ref b2), .unset, .unset, .unset, .unset, .unset, .unset, .unset, .unset] [(.ref b2)])) _
    refine XS.iload X47.here hx rfl (hb hby at_206) rfl ?_
    show Steps p.tables e below (T47.setTop (mkF m 208 #[.val (.long p0_0), .second, .val (.int p0_1), .val (.int p0_2), .val (.int p0_3), .val (.int (v0_7 p0_1)), .val (.int (v0_12 p0_2)), .val (.int (v0_17 p0_3)), .val (.ref b2), .unset, .unset, .unset, .unset, .unset, .unset, .unset, .unset] [(.int (v0_12 p0_2)), (.ref b2)])) _
    refine XS.bipush X47.here hx rfl (hb hby at_208) ?_
    show Steps p.tables e below (T47.setTop (mkF m 210 #[.val (.long p0_0), .second, .val (.int p0_1), .val (.int p0_2), .val (.int p0_3), .val (.int (v0_7 p0_1)), .val (.int (v0_12 p0_2)), .val (.int (v0_17 p0_3)), .val (.ref b2), .unset, .unset, .unset, .unset, .unset, .unset, .unset, .unset] [(.int (11 : Int32)), (.int (v0_12 p0_2)), (.ref b2)])) _
    refine XS.iadd X47.here hx rfl (hb hby at_210) rfl ?_
    show Steps p.tables e below (T47.setTop (mkF m 211 #[.val (.long p0_0), .second, .val (.int p0_1), .val (.int p0_2), .val (.int p0_3), .val (.int (v0_7 p0_1)), .val (.int (v0_12 p0_2)), .val (.int (v0_17 p0_3)), .val (.ref b2), .unset, .unset, .unset, .unset, .unset, .unset, .unset, .unset] [(.int ((v0_12 p0_2) + (11 : Int32))), (.ref b2)])) _
    refine XS.lloadN X47.here hx rfl (hb hby at_211) rfl ?_
    show Steps p.tables e below (T47.setTop (mkF m 212 #[.val (.long p0_0), .second, .val (.int p0_1), .val (.int p0_2), .val (.int p0_3), .val (.int (v0_7 p0_1)), .val (.int (v0_12 p0_2)), .val (.int (v0_17 p0_3)), .val (.ref b2), .unset, .unset, .unset, .unset, .unset, .unset, .unset, .unset] [(.long p0_0), (.int ((v0_12 p0_2) + (11 : Int32))), (.ref b2)])) _
    refine XS.bipush X47.here hx rfl (hb hby at_212) ?_
    show Steps p.tables e below (T47.setTop (mkF m 214 #[.val (.long p0_0), .second, .val (.int p0_1), .val (.int p0_2), .val (.int p0_3), .val (.int (v0_7 p0_1)), .val (.int (v0_12 p0_2)), .val (.int (v0_17 p0_3)), .val (.ref b2), .unset, .unset, .unset, .unset, .unset, .unset, .unset, .unset] [(.int (11 : Int32)), (.long p0_0), (.int ((v0_12 p0_2) + (11 : Int32))), (.ref b2)])) _
    exact k)
  obtain ⟨_, _, ⟨T49, L49, k49, n49⟩, -, X49, ⟨Lc49, hQ49, l49, y49, z49⟩, st49⟩ := Jvm.LawKit.callS X47 hx (y := (⟨"com/example/meterstone/meterstone/core/HexTextRead317PinLaw", "hex", "(JI)B"⟩ : MethodName)) hown (mvT hZ (hw _ (List.mem_of_getElem? (i := 2) rfl))) (mvT hZ (hw _ (List.mem_of_getElem? (i := 3) rfl))) (mvT hZ (hw _ (List.mem_of_getElem? (i := 4) rfl))) (mvT hZ (hw _ (List.mem_of_getElem? (i := 5) rfl))) (by decide) (backOf (W := 2) (rm1 l Z a0 hw [] p0_0 (11 : Int32) h47 n0 Z47 ) hZ (hw _ (List.mem_of_getElem? (i := 5) rfl)) (hw _ (List.mem_of_getElem? (i := 4) rfl)) (by decide) (by decide)) (g := (mkF m 214 #[.val (.long p0_0), .second, .val (.int p0_1), .val (.int p0_2), .val (.int p0_3), .val (.int (v0_7 p0_1)), .val (.int (v0_12 p0_2)), .val (.int (v0_17 p0_3)), .val (.ref b2), .unset, .unset, .unset, .unset, .unset, .unset, .unset, .unset] [(.int (11 : Int32)), (.long p0_0), (.int ((v0_12 p0_2) + (11 : Int32))), (.ref b2)])) rfl (by rw [hml]; rfl) (argsL := [(.long p0_0), (.int (11 : Int32))]) (rest := [(.int ((v0_12 p0_2) + (11 : Int32))), (.ref b2)]) (lenOf pd_0 rfl) rfl (by show 2 * 0 + _ ≤ _; exact Nat.le_of_eq rfl) (hb hby at_214) (fun _ _ => ⟨rfl, e47, (by decide : 1 + 0 ≤ _), (by decide : 19 + 0 ≤ _)⟩)
  dsimp only [Pt.U, Pt.locs, Pt.cells, Pt.slots] at X49 l49 y49 z49 st49 hQ49
  rw [l49, y49, z49] at X49
  obtain ⟨rfl, M49, e49⟩ := hQ49
  have N49 := Fr.app N47 M49
  replace X49 : Stand p l e room_1 s m #[(.long p0_0), (.int p0_1), (.int p0_2), (.int p0_3)] below meth c T49 _ 1 19 := X49
  have pre49 : ∀ t, Steps p.tables e below (T49.setTop (mkF m 217 #[.val (.long p0_0), .second, .val (.int p0_1), .val (.int p0_2), .val (.int p0_3), .val (.int (v0_7 p0_1)), .val (.int (v0_12 p0_2)), .val (.int (v0_17 p0_3)), .val (.ref b2), .unset, .unset, .unset, .unset, .unset, .unset, .unset, .unset] [(.int (r1 p0_0 (11 : Int32))), (.int ((v0_12 p0_2) + (11 : Int32))), (.ref b2)])) t → Steps p.tables e below (s₁.setTop (entryFrame m #[(.long p0_0), (.int p0_1), (.int p0_2), (.int p0_3)] maxLocals)) t := fun t k => pre48 t (st49 t k)
  obtain ⟨T50, h50, X50, e50, W50, B50, st50⟩ := own_stB X49 hx hZ e49 C47 (j := ((v0_12 p0_2) + (11 : Int32))) (i := (own_pad p0_2 + 11)) (own_pk11 p0_2) (by exact own_pkl p0_2 11 (by decide)) (g := (mkF m 217 #[.val (.long p0_0), .second, .val (.int p0_1), .val (.int p0_2), .val (.int p0_3), .val (.int (v0_7 p0_1)), .val (.int (v0_12 p0_2)), .val (.int (v0_17 p0_3)), .val (.ref b2), .unset, .unset, .unset, .unset, .unset, .unset, .unset, .unset] [(.int (v0_217 p0_0)), (.int ((v0_12 p0_2) + (11 : Int32))), (.ref b2)])) rfl rfl (hb hby at_217)
  have N50 := Fr.snoc X50 N49 g_b2
  have Z50 : n0 ≤ h50.size := Nat.le_trans Z47 (Keep.of_wr W50).1
  have C50 : ArI Z h50 b2 .byte 19 (g0_217 p0_0 p0_2 p0_3) := B50
  have pre50 : ∀ t, Steps p.tables e below (T50.setTop (mkF m 218 #[.val (.long p0_0), .second, .val (.int p0_1), .val (.int p0_2), .val (.int p0_3), .val (.int (v0_7 p0_1)), .val (.int (v0_12 p0_2)), .val (.int (v0_17 p0_3)), .val (.ref b2), .unset, .unset, .unset, .unset, .unset, .unset, .unset, .unset] [])) t → Steps p.tables e below (s₁.setTop (entryFrame m #[(.long p0_0), (.int p0_1), (.int p0_2), (.int p0_3)] maxLocals)) t := fun t k => pre49 t (st50 t k)
  have pre51 : ∀ t, Steps p.tables e below (T50.setTop (mkF m 228 #[.val (.long p0_0), .second, .val (.int p0_1), .val (.int p0_2), .val (.int p0_3), .val (.int (v0_7 p0_1)), .val (.int (v0_12 p0_2)), .val (.int (v0_17 p0_3)), .val (.ref b2), .unset, .unset, .unset, .unset, .unset, .unset, .unset, .unset] [(.int (12 : Int32)), (.long p0_0), (.int ((v0_12 p0_2) + (12 : Int32))), (.ref b2)])) t → Steps p.tables e below (s₁.setTop (entryFrame m #[(.long p0_0), (.int p0_1), (.int p0_2), (.int p0_3)] maxLocals)) t := fun t k => pre50 t (by
    refine XS.aload X50.here hx rfl (hb hby at_218) rfl rfl ?_
    show Steps p.tables e below (T50.setTop (mkF m 220 #[.val (.long p0_0), .second, .val (.int p0_1), .val (.int p0_2), .val (.int p0_3), .val (.int (v0_7 p0_1)), .val (.int (v0_12 p0_2)), .val (.int (v0_17 p0_3)), .val (.ref b2), .unset, .unset, .unset, .unset, .unset, .unset, .unset, .unset] [(.ref b2)])) _
    refine XS.iload X50.here hx rfl (hb hby at_220) rfl ?_
    show Steps p.tables e below (T50.setTop (mkF m 222 #[.val (.long p0_0), .second, .val (.int p0_1), .val (.int p0_2), .val (.int p0_3), .val (.int (v0_7 p0_1)), .val (.int (v0_12 p0_2)), .val (.int (v0_17 p0_3)), .val (.ref b2), .unset, .unset, .unset, .unset, .unset, .unset, .unset, .unset] [(.int (v0_12 p0_2)), (.ref b2)])) _
    refine XS.bipush X50.here hx rfl (hb hby at_222) ?_
    show Steps p.tables e below (T50.setTop (mkF m 224 #[.val (.long p0_0), .second, .val (.int p0_1), .val (.int p0_2), .val (.int p0_3), .val (.int (v0_7 p0_1)), .val (.int (v0_12 p0_2)), .val (.int (v0_17 p0_3)), .val (.ref b2), .unset, .unset, .unset, .unset, .unset, .unset, .unset, .unset] [(.int (12 : Int32)), (.int (v0_12 p0_2)), (.ref b2)])) _
    refine XS.iadd X50.here hx rfl (hb hby at_224) rfl ?_
    show Steps p.tables e below (T50.setTop (mkF m 225 #[.val (.long p0_0), .second, .val (.int p0_1), .val (.int p0_2), .val (.int p0_3), .val (.int (v0_7 p0_1)), .val (.int (v0_12 p0_2)), .val (.int (v0_17 p0_3)), .val (.ref b2), .unset, .unset, .unset, .unset, .unset, .unset, .unset, .unset] [(.int ((v0_12 p0_2) + (12 : Int32))), (.ref b2)])) _
    refine XS.lloadN X50.here hx rfl (hb hby at_225) rfl ?_
    show Steps p.tables e below (T50.setTop (mkF m 226 #[.val (.long p0_0), .second, .val (.int p0_1), .val (.int p0_2), .val (.int p0_3), .val (.int (v0_7 p0_1)), .val (.int (v0_12 p0_2)), .val (.int (v0_17 p0_3)), .val (.ref b2), .unset, .unset, .unset, .unset, .unset, .unset, .unset, .unset] [(.long p0_0), (.int ((v0_12 p0_2) + (12 : Int32))), (.ref b2)])) _
    refine XS.bipush X50.here hx rfl (hb hby at_226) ?_
    show Steps p.tables e below (T50.setTop (mkF m 228 #[.val (.long p0_0), .second, .val (.int p0_1), .val (.int p0_2), .val (.int p0_3), .val (.int (v0_7 p0_1)), .val (.int (v0_12 p0_2)), .val (.int (v0_17 p0_3)), .val (.ref b2), .unset, .unset, .unset, .unset, .unset, .unset, .unset, .unset] [(.int (12 : Int32)), (.long p0_0), (.int ((v0_12 p0_2) + (12 : Int32))), (.ref b2)])) _
    exact k)
  obtain ⟨_, _, ⟨T52, L52, k52, n52⟩, -, X52, ⟨Lc52, hQ52, l52, y52, z52⟩, st52⟩ := Jvm.LawKit.callS X50 hx (y := (⟨"com/example/meterstone/meterstone/core/HexTextRead317PinLaw", "hex", "(JI)B"⟩ : MethodName)) hown (mvT hZ (hw _ (List.mem_of_getElem? (i := 2) rfl))) (mvT hZ (hw _ (List.mem_of_getElem? (i := 3) rfl))) (mvT hZ (hw _ (List.mem_of_getElem? (i := 4) rfl))) (mvT hZ (hw _ (List.mem_of_getElem? (i := 5) rfl))) (by decide) (backOf (W := 2) (rm1 l Z a0 hw [] p0_0 (12 : Int32) h50 n0 Z50 ) hZ (hw _ (List.mem_of_getElem? (i := 5) rfl)) (hw _ (List.mem_of_getElem? (i := 4) rfl)) (by decide) (by decide)) (g := (mkF m 228 #[.val (.long p0_0), .second, .val (.int p0_1), .val (.int p0_2), .val (.int p0_3), .val (.int (v0_7 p0_1)), .val (.int (v0_12 p0_2)), .val (.int (v0_17 p0_3)), .val (.ref b2), .unset, .unset, .unset, .unset, .unset, .unset, .unset, .unset] [(.int (12 : Int32)), (.long p0_0), (.int ((v0_12 p0_2) + (12 : Int32))), (.ref b2)])) rfl (by rw [hml]; rfl) (argsL := [(.long p0_0), (.int (12 : Int32))]) (rest := [(.int ((v0_12 p0_2) + (12 : Int32))), (.ref b2)]) (lenOf pd_0 rfl) rfl (by show 2 * 0 + _ ≤ _; exact Nat.le_of_eq rfl) (hb hby at_228) (fun _ _ => ⟨rfl, e50, (by decide : 1 + 0 ≤ _), (by decide : 19 + 0 ≤ _)⟩)
  dsimp only [Pt.U, Pt.locs, Pt.cells, Pt.slots] at X52 l52 y52 z52 st52 hQ52
  rw [l52, y52, z52] at X52
  obtain ⟨rfl, M52, e52⟩ := hQ52
  have N52 := Fr.app N50 M52
  replace X52 : Stand p l e room_1 s m #[(.long p0_0), (.int p0_1), (.int p0_2), (.int p0_3)] below meth c T52 _ 1 19 := X52
  have pre52 : ∀ t, Steps p.tables e below (T52.setTop (mkF m 231 #[.val (.long p0_0), .second, .val (.int p0_1), .val (.int p0_2), .val (.int p0_3), .val (.int (v0_7 p0_1)), .val (.int (v0_12 p0_2)), .val (.int (v0_17 p0_3)), .val (.ref b2), .unset, .unset, .unset, .unset, .unset, .unset, .unset, .unset] [(.int (r1 p0_0 (12 : Int32))), (.int ((v0_12 p0_2) + (12 : Int32))), (.ref b2)])) t → Steps p.tables e below (s₁.setTop (entryFrame m #[(.long p0_0), (.int p0_1), (.int p0_2), (.int p0_3)] maxLocals)) t := fun t k => pre51 t (st52 t k)
  obtain ⟨T53, h53, X53, e53, W53, B53, st53⟩ := own_stB X52 hx hZ e52 C50 (j := ((v0_12 p0_2) + (12 : Int32))) (i := (own_pad p0_2 + 12)) (own_pk12 p0_2) (by exact own_pkl p0_2 12 (by decide)) (g := (mkF m 231 #[.val (.long p0_0), .second, .val (.int p0_1), .val (.int p0_2), .val (.int p0_3), .val (.int (v0_7 p0_1)), .val (.int (v0_12 p0_2)), .val (.int (v0_17 p0_3)), .val (.ref b2), .unset, .unset, .unset, .unset, .unset, .unset, .unset, .unset] [(.int (v0_231 p0_0)), (.int ((v0_12 p0_2) + (12 : Int32))), (.ref b2)])) rfl rfl (hb hby at_231)
  have N53 := Fr.snoc X53 N52 g_b2
  have Z53 : n0 ≤ h53.size := Nat.le_trans Z50 (Keep.of_wr W53).1
  have C53 : ArI Z h53 b2 .byte 19 (g0_231 p0_0 p0_2 p0_3) := B53
  have pre53 : ∀ t, Steps p.tables e below (T53.setTop (mkF m 232 #[.val (.long p0_0), .second, .val (.int p0_1), .val (.int p0_2), .val (.int p0_3), .val (.int (v0_7 p0_1)), .val (.int (v0_12 p0_2)), .val (.int (v0_17 p0_3)), .val (.ref b2), .unset, .unset, .unset, .unset, .unset, .unset, .unset, .unset] [])) t → Steps p.tables e below (s₁.setTop (entryFrame m #[(.long p0_0), (.int p0_1), (.int p0_2), (.int p0_3)] maxLocals)) t := fun t k => pre52 t (st53 t k)
  have pre54 : ∀ t, Steps p.tables e below (T53.setTop (mkF m 242 #[.val (.long p0_0), .second, .val (.int p0_1), .val (.int p0_2), .val (.int p0_3), .val (.int (v0_7 p0_1)), .val (.int (v0_12 p0_2)), .val (.int (v0_17 p0_3)), .val (.ref b2), .unset, .unset, .unset, .unset, .unset, .unset, .unset, .unset] [(.int (13 : Int32)), (.long p0_0), (.int ((v0_12 p0_2) + (13 : Int32))), (.ref b2)])) t → Steps p.tables e below (s₁.setTop (entryFrame m #[(.long p0_0), (.int p0_1), (.int p0_2), (.int p0_3)] maxLocals)) t := fun t k => pre53 t (by
    refine XS.aload X53.here hx rfl (hb hby at_232) rfl rfl ?_
    show Steps p.tables e below (T53.setTop (mkF m 234 #[.val (.long p0_0), .second, .val (.int p0_1), .val (.int p0_2), .val (.int p0_3), .val (.int (v0_7 p0_1)), .val (.int (v0_12 p0_2)), .val (.int (v0_17 p0_3)), .val (.ref b2), .unset, .unset, .unset, .unset, .unset, .unset, .unset, .unset] [(.ref b2)])) _
    refine XS.iload X53.here hx rfl (hb hby at_234) rfl ?_
    show Steps p.tables e below (T53.setTop (mkF m 236 #[.val (.long p0_0), .second, .val (.int p0_1), .val (.int p0_2), .val (.int p0_3), .val (.int (v0_7 p0_1)), .val (.int (v0_12 p0_2)), .val (.int (v0_17 p0_3)), .val (.ref b2), .unset, .unset, .unset, .unset, .unset, .unset, .unset, .unset] [(.int (v0_12 p0_2)), (.ref b2)])) _
    refine XS.bipush X53.here hx rfl (hb hby at_236) ?_
    show Steps p.tables e below (T53.setTop (mkF m 238 #[.val (.long p0_0), .second, .val (.int p0_1), .val (.int p0_2), .val (.int p0_3), .val (.int (v0_7 p0_1)), .val (.int (v0_12 p0_2)), .val (.int (v0_17 p0_3)), .val (.ref b2), .unset, .unset, .unset, .unset, .unset, .unset, .unset, .unset] [(.int (13 : Int32)), (.int (v0_12 p0_2)), (.ref b2)])) _
    refine XS.iadd X53.here hx rfl (hb hby at_238) rfl ?_
    show Steps p.tables e below (T53.setTop (mkF m 239 #[.val (.long p0_0), .second, .val (.int p0_1), .val (.int p0_2), .val (.int p0_3), .val (.int (v0_7 p0_1)), .val (.int (v0_12 p0_2)), .val (.int (v0_17 p0_3)), .val (.ref b2), .unset, .unset, .unset, .unset, .unset, .unset, .unset, .unset] [(.int ((v0_12 p0_2) + (13 : Int32))), (.ref b2)])) _
    refine XS.lloadN X53.here hx rfl (hb hby at_239) rfl ?_
    show Steps p.tables e below (T53.setTop (mkF m 240 #[.val (.long p0_0), .second, .val (.int p0_1), .val (.int p0_2), .val (.int p0_3), .val (.int (v0_7 p0_1)), .val (.int (v0_12 p0_2)), .val (.int (v0_17 p0_3)), .val (.ref b2), .unset, .unset, .unset, .unset, .unset, .unset, .unset, .unset] [(.long p0_0), (.int ((v0_12 p0_2) + (13 : Int32))), (.ref b2)])) _
    refine XS.bipush X53.here hx rfl (hb hby at_240) ?_
    show Steps p.tables e below (T53.setTop (mkF m 242 #[.val (.long p0_0), .second, .val (.int p0_1), .val (.int p0_2), .val (.int p0_3), .val (.int (v0_7 p0_1)), .val (.int (v0_12 p0_2)), .val (.int (v0_17 p0_3)), .val (.ref b2), .unset, .unset, .unset, .unset, .unset, .unset, .unset, .unset] [(.int (13 : Int32)), (.long p0_0), (.int ((v0_12 p0_2) + (13 : Int32))), (.ref b2)])) _
    exact k)
  obtain ⟨_, _, ⟨T55, L55, k55, n55⟩, -, X55, ⟨Lc55, hQ55, l55, y55, z55⟩, st55⟩ := Jvm.LawKit.callS X53 hx (y := (⟨"com/example/meterstone/meterstone/core/HexTextRead317PinLaw", "hex", "(JI)B"⟩ : MethodName)) hown (mvT hZ (hw _ (List.mem_of_getElem? (i := 2) rfl))) (mvT hZ (hw _ (List.mem_of_getElem? (i := 3) rfl))) (mvT hZ (hw _ (List.mem_of_getElem? (i := 4) rfl))) (mvT hZ (hw _ (List.mem_of_getElem? (i := 5) rfl))) (by decide) (backOf (W := 2) (rm1 l Z a0 hw [] p0_0 (13 : Int32) h53 n0 Z53 ) hZ (hw _ (List.mem_of_getElem? (i := 5) rfl)) (hw _ (List.mem_of_getElem? (i := 4) rfl)) (by decide) (by decide)) (g := (mkF m 242 #[.val (.long p0_0), .second, .val (.int p0_1), .val (.int p0_2), .val (.int p0_3), .val (.int (v0_7 p0_1)), .val (.int (v0_12 p0_2)), .val (.int (v0_17 p0_3)), .val (.ref b2), .unset, .unset, .unset, .unset, .unset, .unset, .unset, .unset] [(.int (13 : Int32)), (.long p0_0), (.int ((v0_12 p0_2) + (13 : Int32))), (.ref b2)])) rfl (by rw [hml]; rfl) (argsL := [(.long p0_0), (.int (13 : Int32))]) (rest := [(.int ((v0_12 p0_2) + (13 : Int32))), (.ref b2)]) (lenOf pd_0 rfl) rfl (by show 2 * 0 + _ ≤ _; exact Nat.le_of_eq rfl) (hb hby at_242) (fun _ _ => ⟨rfl, e53, (by decide : 1 + 0 ≤ _), (by decide : 19 + 0 ≤ _)⟩)
  dsimp only [Pt.U, Pt.locs, Pt.cells, Pt.slots] at X55 l55 y55 z55 st55 hQ55
  rw [l55, y55, z55] at X55
  obtain ⟨rfl, M55, e55⟩ := hQ55
  have N55 := Fr.app N53 M55
  replace X55 : Stand p l e room_1 s m #[(.long p0_0), (.int p0_1), (.int p0_2), (.int p0_3)] below meth c T55 _ 1 19 := X55
  have pre55 : ∀ t, Steps p.tables e below (T55.setTop (mkF m 245 #[.val (.long p0_0), .second, .val (.int p0_1), .val (.int p0_2), .val (.int p0_3), .val (.int (v0_7 p0_1)), .val (.int (v0_12 p0_2)), .val (.int (v0_17 p0_3)), .val (.ref b2), .unset, .unset, .unset, .unset, .unset, .unset, .unset, .unset] [(.int (r1 p0_0 (13 : Int32))), (.int ((v0_12 p0_2) + (13 : Int32))), (.ref b2)])) t → Steps p.tables e below (s₁.setTop (entryFrame m #[(.long p0_0), (.int p0_1), (.int p0_2), (.int p0_3)] maxLocals)) t := fun t k => pre54 t (st55 t k)
  obtain ⟨T56, h56, X56, e56, W56, B56, st56⟩ := own_stB X55 hx hZ e55 C53 (j := ((v0_12 p0_2) + (13 : Int32))) (i := (own_pad p0_2 + 13)) (own_pk13 p0_2) (by exact own_pkl p0_2 13 (by decide)) (g := (mkF m 245 #[.val (.long p0_0), .second, .val (.int p0_1), .val (.int p0_2), .val (.int p0_3), .val (.int (v0_7 p0_1)), .val (.int (v0_12 p0_2)), .val (.int (v0_17 p0_3)), .val (.ref b2), .unset, .unset, .unset, .unset, .unset, .unset, .unset, .unset] [(.int (v0_245 p0_0)), (.int ((v0_12 p0_2) + (13 : Int32))), (.ref b2)])) rfl rfl (hb hby at_245)
  have N56 := Fr.snoc X56 N55 g_b2
  have Z56 : n0 ≤ h56.size := Nat.le_trans Z53 (Keep.of_wr W56).1
  have C56 : ArI Z h56 b2 .byte 19 (g0_245 p0_0 p0_2 p0_3) := B56
  have pre56 : ∀ t, Steps p.tables e below (T56.setTop (mkF m 246 #[.val (.long p0_0), .second, .val (.int p0_1), .val (.int p0_2), .val (.int p0_3), .val (.int (v0_7 p0_1)), .val (.int (v0_12 p0_2)), .val (.int (v0_17 p0_3)), .val (.ref b2), .unset, .unset, .unset, .unset, .unset, .unset, .unset, .unset] [])) t → Steps p.tables e below (s₁.setTop (entryFrame m #[(.long p0_0), (.int p0_1), (.int p0_2), (.int p0_3)] maxLocals)) t := fun t k => pre55 t (st56 t k)
  have pre57 : ∀ t, Steps p.tables e below (T56.setTop (mkF m 256 #[.val (.long p0_0), .second, .val (.int p0_1), .val (.int p0_2), .val (.int p0_3), .val (.int (v0_7 p0_1)), .val (.int (v0_12 p0_2)), .val (.int (v0_17 p0_3)), .val (.ref b2), .unset, .unset, .unset, .unset, .unset, .unset, .unset, .unset] [(.int (14 : Int32)), (.long p0_0), (.int ((v0_12 p0_2) + (14 : Int32))), (.ref b2)])) t → Steps p.tables e below (s₁.setTop (entryFrame m #[(.long p0_0), (.int p0_1), (.int p0_2), (.int p0_3)] maxLocals)) t := fun t k => pre56 t (by
    refine XS.aload X56.here hx rfl (hb hby at_246) rfl rfl ?_
    show Steps p.tables e below (T56.setTop (mkF m 248 #[.val (.long p0_0), .second, .val (.int p0_1), .val (.int p0_2), .val (.int p0_3), .val (.int (v0_7 p0_1)), .val (.int (v0_12 p0_2)), .val (.int (v0_17 p0_3)), .val (.ref b2), .unset, .unset, .unset, .unset, .unset, .unset, .unset, .unset] [(.ref b2)])) _
    refine XS.iload X56.here hx rfl (hb hby at_248) rfl ?_
    show Steps p.tables e below (T56.setTop (mkF m 250 #[.val (.long p0_0), .second, .val (.int p0_1), .val (.int p0_2), .val (.int p0_3), .val (.int (v0_7 p0_1)), .val (.int (v0_12 p0_2)), .val (.int (v0_17 p0_3)), .val (.ref b2), .unset, .unset, .unset, .unset, .unset, .unset, .unset, .unset] [(.int (v0_12 p0_2)), (.ref b2)])) _
    refine XS.bipush X56.here hx rfl (hb hby at_250) ?_
    show Steps p.tables e below (T56.setTop (mkF m 252 #[.val (.long p0_0), .second, .val (.int p0_1), .val (.int p0_2), .val (.int p0_3), .val (.int (v0_7 p0_1)), .val (.int (v0_12 p0_2)), .val (.int (v0_17 p0_3)), .val (.ref b2), .unset, .unset, .unset, .unset, .unset, .unset, .unset, .unset] [(.int (14 : Int32)), (.int (v0_12 p0_2)), (.ref b2)])) _
    refine XS.iadd X56.here hx rfl (hb hby at_252) rfl ?_
    show Steps p.tables e below (T56.setTop (mkF m 253 #[.val (.long p0_0), .second, .val (.int p0_1), .val (.int p0_2), .val (.int p0_3), .val (.int (v0_7 p0_1)), .val (.int (v0_12 p0_2)), .val (.int (v0_17 p0_3)), .val (.ref b2), .unset, .unset, .unset, .unset, .unset, .unset, .unset, .unset] [(.int ((v0_12 p0_2) + (14 : Int32))), (.ref b2)])) _
    refine XS.lloadN X56.here hx rfl (hb hby at_253) rfl ?_
    show Steps p.tables e below (T56.setTop (mkF m 254 #[.val (.long p0_0), .second, .val (.int p0_1), .val (.int p0_2), .val (.int p0_3), .val (.int (v0_7 p0_1)), .val (.int (v0_12 p0_2)), .val (.int (v0_17 p0_3)), .val (.ref b2), .unset, .unset, .unset, .unset, .unset, .unset, .unset, .unset] [(.long p0_0), (.int ((v0_12 p0_2) + (14 : Int32))), (.ref b2)])) _
    refine XS.bipush X56.here hx rfl (hb hby at_254) ?_
    show Steps p.tables e below (T56.setTop (mkF m 256 #[.val (.long p0_0), .second, .val (.int p0_1), .val (.int p0_2), .val (.int p0_3), .val (.int (v0_7 p0_1)), .val (.int (v0_12 p0_2)), .val (.int (v0_17 p0_3)), .val (.ref b2), .unset, .unset, .unset, .unset, .unset, .unset, .unset, .unset] [(.int (14 : Int32)), (.long p0_0), (.int ((v0_12 p0_2) + (14 : Int32))), (.ref b2)])) _
    exact k)
  obtain ⟨_, _, ⟨T58, L58, k58, n58⟩, -, X58, ⟨Lc58, hQ58, l58, y58, z58⟩, st58⟩ := Jvm.LawKit.callS X56 hx (y := (⟨"com/example/meterstone/meterstone/core/HexTextRead317PinLaw", "hex", "(JI)B"⟩ : MethodName)) hown (mvT hZ (hw _ (List.mem_of_getElem? (i := 2) rfl))) (mvT hZ (hw _ (List.mem_of_getElem? (i := 3) rfl))) (mvT hZ (hw _ (List.mem_of_getElem? (i := 4) rfl))) (mvT hZ (hw _ (List.mem_of_getElem? (i := 5) rfl))) (by decide) (backOf (W := 2) (rm1 l Z a0 hw [] p0_0 (14 : Int32) h56 n0 Z56 ) hZ (hw _ (List.mem_of_getElem? (i := 5) rfl)) (hw _ (List.mem_of_getElem? (i := 4) rfl)) (by decide) (by decide)) (g := (mkF m 256 #[.val (.long p0_0), .second, .val (.int p0_1), .val (.int p0_2), .val (.int p0_3), .val (.int (v0_7 p0_1)), .val (.int (v0_12 p0_2)), .val (.int (v0_17 p0_3)), .val (.ref b2), .unset, .unset, .unset, .unset, .unset, .unset, .unset, .unset] [(.int (14 : Int32)), (.long p0_0), (.int ((v0_12 p0_2) + (14 : Int32))), (.ref b2)])) rfl (by rw [hml]; rfl) (argsL := [(.long p0_0), (.int (14 : Int32))]) (rest := [(.int ((v0_12 p0_2) + (14 : Int32))), (.ref b2)]) (lenOf pd_0 rfl) rfl (by show 2 * 0 + _ ≤ _; exact Nat.le_of_eq rfl) (hb hby at_256) (fun _ _ => ⟨rfl, e56, (by decide : 1 + 0 ≤ _), (by decide : 19 + 0 ≤ _)⟩)
  dsimp only [Pt.U, Pt.locs, Pt.cells, Pt.slots] at X58 l58 y58 z58 st58 hQ58
  rw [l58, y58, z58] at X58
  obtain ⟨rfl, M58, e58⟩ := hQ58
  have N58 := Fr.app N56 M58
  replace X58 : Stand p l e room_1 s m #[(.long p0_0), (.int p0_1), (.int p0_2), (.int p0_3)] below meth c T58 _ 1 19 := X58
  have pre58 : ∀ t, Steps p.tables e below (T58.setTop (mkF m 259 #[.val (.long p0_0), .second, .val (.int p0_1), .val (.int p0_2), .val (.int p0_3), .val (.int (v0_7 p0_1)), .val (.int (v0_12 p0_2)), .val (.int (v0_17 p0_3)), .val (.ref b2), .unset, .unset, .unset, .unset, .unset, .unset, .unset, .unset] [(.int (r1 p0_0 (14 : Int32))), (.int ((v0_12 p0_2) + (14 : Int32))), (.ref b2)])) t → Steps p.tables e below (s₁.setTop (entryFrame m #[(.long p0_0), (.int p0_1), (.int p0_2), (.int p0_3)] maxLocals)) t := fun t k => pre57 t (st58 t k)
  obtain ⟨T59, h59, X59, e59, W59, B59, st59⟩ := own_stB X58 hx hZ e58 C56 (j := ((v0_12 p0_2) + (14 : Int32))) (i := (own_pad p0_2 + 14)) (own_pk14 p0_2) (by exact own_pkl p0_2 14 (by decide)) (g := (mkF m 259 #[.val (.long p0_0), .second, .val (.int p0_1), .val (.int p0_2), .val (.int p0_3), .val (.int (v0_7 p0_1)), .val (.int (v0_12 p0_2)), .val (.int (v0_17 p0_3)), .val (.ref b2), .unset, .unset, .unset, .unset, .unset, .unset, .unset, .unset] [(.int (v0_259 p0_0)), (.int ((v0_12 p0_2) + (14 : Int32))), (.ref b2)])) rfl rfl (hb hby at_259)
  have N59 := Fr.snoc X59 N58 g_b2
  have Z59 : n0 ≤ h59.size := Nat.le_trans Z56 (Keep.of_wr W59).1
  have C59 : ArI Z h59 b2 .byte 19 (g0_259 p0_0 p0_2 p0_3) := B59
  have pre59 : ∀ t, Steps p.tables e below (T59.setTop (mkF m 260 #[.val (.long p0_0), .second, .val (.int p0_1), .val (.int p0_2), .val (.int p0_3), .val (.int (v0_7 p0_1)), .val (.int (v0_12 p0_2)), .val (.int (v0_17 p0_3)), .val (.ref b2), .unset, .unset, .unset, .unset, .unset, .unset, .unset, .unset] [])) t → Steps p.tables e below (s₁.setTop (entryFrame m #[(.long p0_0), (.int p0_1), (.int p0_2), (.int p0_3)] maxLocals)) t := fun t k => pre58 t (st59 t k)
  have pre60 : ∀ t, Steps p.tables e below (T59.setTop (mkF m 270 #[.val (.long p0_0), .second, .val (.int p0_1), .val (.int p0_2), .val (.int p0_3), .val (.int (v0_7 p0_1)), .val (.int (v0_12 p0_2)), .val (.int (v0_17 p0_3)), .val (.ref b2), .unset, .unset, .unset, .unset, .unset, .unset, .unset, .unset] [(.int (15 : Int32)), (.long p0_0), (.int ((v0_12 p0_2) + (15 : Int32))), (.ref b2)])) t → Steps p.tables e below (s₁.setTop (entryFrame m #[(.long p0_0), (.int p0_1), (.int p0_2), (.int p0_3)] maxLocals)) t := fun t k => pre59 t (by
    refine XS.aload X59.here hx rfl (hb hby at_260) rfl rfl ?_
    show Steps p.tables e below (T59.setTop (mkF m 262 #[.val (.long p0_0), .second, .val (.int p0_1), .val (.int p0_2), .val (.int p0_3), .val (.int (v0_7 p0_1)), .val (.int (v0_12 p0_2)), .val (.int (v0_17 p0_3)), .val (.ref b2), .unset, .unset, .unset, .unset, .unset, .unset, .unset, .unset] [(.ref b2)])) _
    refine XS.iload X59.here hx rfl (hb hby at_262) rfl ?_
    show Steps p.tables e below (T59.setTop (mkF m 264 #[.val (.long p0_0), .second, .val (.int p0_1), .val (.int p0_2), .val (.int p0_3), .val (.int (v0_7 p0_1)), .val (.int (v0_12 p0_2)), .val (.int (v0_17 p0_3)), .val (.ref b2), .unset, .unset, .unset, .unset, .unset, .unset, .unset, .unset] [(.int (v0_12 p0_2)), (.ref b2)])) _
    refine XS.bipush X59.here hx rfl (hb hby at_264) ?_
    show Steps p.tables e below (T59.setTop (mkF m 266 #[.val (.long p0_0), .second, .val (.int p0_1), .val (.int p0_2), .val (.int p0_3), .val (.int (v0_7 p0_1)), .val (.int (v0_12 p0_2)), .val (.int (v0_17 p0_3)), .val (.ref b2), .unset, .unset, .unset, .unset, .unset, .unset, .unset, .unset] [(.int (15 : Int32)), (.int (v0_12 p0_2)), (.ref b2)])) _
    refine XS.iadd X59.here hx rfl (hb hby at_266) rfl ?_
    show Steps p.tables e below (T59.setTop (mkF m 267 #[.val (.long p0_0), .second, .val (.int p0_1), .val (.int p0_2), .val (.int p0_3), .val (.int (v0_7 p0_1)), .val (.int (v0_12 p0_2)), .val (.int (v0_17 p0_3)), .val (.ref b2), .unset, .unset, .unset, .unset, .unset, .unset, .unset, .unset] [(.int ((v0_12 p0_2) + (15 : Int32))), (.ref b2)])) _
    refine XS.lloadN X59.here hx rfl (hb hby at_267) rfl ?_
    show Steps p.tables e below (T59.setTop (mkF m 268 #[.val (.long p0_0), .second, .val (.int p0_1), .val (.int p0_2), .val (.int p0_3), .val (.int (v0_7 p0_1)), .val (.int (v0_12 p0_2)), .val (.int (v0_17 p0_3)), .val (.ref b2), .unset, .unset, .unset, .unset, .unset, .unset, .unset, .unset] [(.long p0_0), (.int ((v0_12 p0_2) + (15 : Int32))), (.ref b2)])) _
    refine XS.bipush X59.here hx rfl (hb hby at_268) ?_
    show Steps p.tables e below (T59.setTop (mkF m 270 #[.val (.long p0_0), .second, .val (.int p0_1), .val (.int p0_2), .val (.int p0_3), .val (.int (v0_7 p0_1)), .val (.int (v0_12 p0_2)), .val (.int (v0_17 p0_3)), .val (.ref b2), .unset, .unset, .unset, .unset, .unset, .unset, .unset, .unset] [(.int (15 : Int32)), (.long p0_0), (.int ((v0_12 p0_2) + (15 : Int32))), (.ref b2)])) _
    exact k)
  obtain ⟨_, _, ⟨T61, L61, k61, n61⟩, -, X61, ⟨Lc61, hQ61, l61, y61, z61⟩, st61⟩ := Jvm.LawKit.callS X59 hx (y := (⟨"com/example/meterstone/meterstone/core/HexTextRead317PinLaw", "hex", "(JI)B"⟩ : MethodName)) hown (mvT hZ (hw _ (List.mem_of_getElem? (i := 2) rfl))) (mvT hZ (hw _ (List.mem_of_getElem? (i := 3) rfl))) (mvT hZ (hw _ (List.mem_of_getElem? (i := 4) rfl))) (mvT hZ (hw _ (List.mem_of_getElem? (i := 5) rfl))) (by decide) (backOf (W := 2) (rm1 l Z a0 hw [] p0_0 (15 : Int32) h59 n0 Z59 ) hZ (hw _ (List.mem_of_getElem? (i := 5) rfl)) (hw _ (List.mem_of_getElem? (i := 4) rfl)) (by decide) (by decide)) (g := (mkF m 270 #[.val (.long p0_0), .second, .val (.int p0_1), .val (.int p0_2), .val (.int p0_3), .val (.int (v0_7 p0_1)), .val (.int (v0_12 p0_2)), .val (.int (v0_17 p0_3)), .val (.ref b2), .unset, .unset, .unset, .unset, .unset, .unset, .unset, .unset] [(.int (15 : Int32)), (.long p0_0), (.int ((v0_12 p0_2) + (15 : Int32))), (.ref b2)])) rfl (by rw [hml]; rfl) (argsL := [(.long p0_0), (.int (15 : Int32))]) (rest := [(.int ((v0_12 p0_2) + (15 : Int32))), (.ref b2)]) (lenOf pd_0 rfl) rfl (by show 2 * 0 + _ ≤ _; exact Nat.le_of_eq rfl) (hb hby at_270) (fun _ _ => ⟨rfl, e59, (by decide : 1 + 0 ≤ _), (by decide : 19 + 0 ≤ _)⟩)
  dsimp only [Pt.U, Pt.locs, Pt.cells, Pt.slots] at X61 l61 y61 z61 st61 hQ61
  rw [l61, y61, z61] at X61
  obtain ⟨rfl, M61, e61⟩ := hQ61
  have N61 := Fr.app N59 M61
  replace X61 : Stand p l e room_1 s m #[(.long p0_0), (.int p0_1), (.int p0_2), (.int p0_3)] below meth c T61 _ 1 19 := X61
  have pre61 : ∀ t, Steps p.tables e below (T61.setTop (mkF m 273 #[.val (.long p0_0), .second, .val (.int p0_1), .val (.int p0_2), .val (.int p0_3), .val (.int (v0_7 p0_1)), .val (.int (v0_12 p0_2)), .val (.int (v0_17 p0_3)), .val (.ref b2), .unset, .unset, .unset, .unset, .unset, .unset, .unset, .unset] [(.int (r1 p0_0 (15 : Int32))), (.int ((v0_12 p0_2) + (15 : Int32))), (.ref b2)])) t → Steps p.tables e below (s₁.setTop (entryFrame m #[(.long p0_0), (.int p0_1), (.int p0_2), (.int p0_3)] maxLocals)) t := fun t k => pre60 t (st61 t k)
  obtain ⟨T62, h62, X62, e62, W62, B62, st62⟩ := own_stB X61 hx hZ e61 C59 (j := ((v0_12 p0_2) + (15 : Int32))) (i := (own_pad p0_2 + 15)) (own_pk15 p0_2) (by exact own_pkl p0_2 15 (by decide)) (g := (mkF m 273 #[.val (.long p0_0), .second, .val (.int p0_1), .val (.int p0_2), .val (.int p0_3), .val (.int (v0_7 p0_1)), .val (.int (v0_12 p0_2)), .val (.int (v0_17 p0_3)), .val (.ref b2), .unset, .unset, .unset, .unset, .unset, .unset, .unset, .unset] [(.int (v0_273 p0_0)), (.int ((v0_12 p0_2) + (15 : Int32))), (.ref b2)])) rfl rfl (hb hby at_273)
  have N62 := Fr.snoc X62 N61 g_b2
  have Z62 : n0 ≤ h62.size := Nat.le_trans Z59 (Keep.of_wr W62).1
  have C62 : ArI Z h62 b2 .byte 19 (g0_273 p0_0 p0_2 p0_3) := B62
  have pre62 : ∀ t, Steps p.tables e below (T62.setTop (mkF m 274 #[.val (.long p0_0), .second, .val (.int p0_1), .val (.int p0_2), .val (.int p0_3), .val (.int (v0_7 p0_1)), .val (.int (v0_12 p0_2)), .val (.int (v0_17 p0_3)), .val (.ref b2), .unset, .unset, .unset, .unset, .unset, .unset, .unset, .unset] [])) t → Steps p.tables e below (s₁.setTop (entryFrame m #[(.long p0_0), (.int p0_1), (.int p0_2), (.int p0_3)] maxLocals)) t := fun t k => pre61 t (st62 t k)
  have pre63 : ∀ t, Steps p.tables e below (T62.setTop (mkF m 278 #[.val (.long p0_0), .second, .val (.int p0_1), .val (.int p0_2), .val (.int p0_3), .val (.int (v0_7 p0_1)), .val (.int (v0_12 p0_2)), .val (.int (v0_17 p0_3)), .val (.ref b2), .unset, .unset, .unset, .unset, .unset, .unset, .unset, .unset] [(.int (16 : Int32)), (.int (v0_7 p0_1))])) t → Steps p.tables e below (s₁.setTop (entryFrame m #[(.long p0_0), (.int p0_1), (.int p0_2), (.int p0_3)] maxLocals)) t := fun t k => pre62 t (by
    refine XS.iload X62.here hx rfl (hb hby at_274) rfl ?_
    show Steps p.tables e below (T62.setTop (mkF m 276 #[.val (.long p0_0), .second, .val (.int p0_1), .val (.int p0_2), .val (.int p0_3), .val (.int (v0_7 p0_1)), .val (.int (v0_12 p0_2)), .val (.int (v0_17 p0_3)), .val (.ref b2), .unset, .unset, .unset, .unset, .unset, .unset, .unset, .unset] [(.int (v0_7 p0_1))])) _
    refine XS.bipush X62.here hx rfl (hb hby at_276) ?_
    show Steps p.tables e below (T62.setTop (mkF m 278 #[.val (.long p0_0), .second, .val (.int p0_1), .val (.int p0_2), .val (.int p0_3), .val (.int (v0_7 p0_1)), .val (.int (v0_12 p0_2)), .val (.int (v0_17 p0_3)), .val (.ref b2), .unset, .unset, .unset, .unset, .unset, .unset, .unset, .unset] [(.int (16 : Int32)), (.int (v0_7 p0_1))])) _
    exact k)
  obtain ⟨T64, L64, X64, e64, N64, st64⟩ : ∃ (T' : State) (L' : List Loc), Stand p l e room_1 s m #[(.long p0_0), (.int p0_1), (.int p0_2), (.int p0_3)] below meth c T' L' 1 19 ∧ T'.heap = h62 ∧ Fr n0 L' ∧ ∀ t, Steps p.tables e below (T'.setTop (mkF m 295 #[.val (.long p0_0), .second, .val (.int p0_1), .val (.int p0_2), .val (.int p0_3), .val (.int (v0_7 p0_1)), .val (.int (v0_12 p0_2)), .val (.int (v0_17 p0_3)), .val (.ref b2), .unset, .unset, .unset, .unset, .unset, .unset, .unset, .unset] [(.long (j0_295_s0 p0_0 p0_1))])) t → Steps p.tables e below (T62.setTop (mkF m 278 #[.val (.long p0_0), .second, .val (.int p0_1), .val (.int p0_2), .val (.int p0_3), .val (.int (v0_7 p0_1)), .val (.int (v0_12 p0_2)), .val (.int (v0_17 p0_3)), .val (.ref b2), .unset, .unset, .unset, .unset, .unset, .unset, .unset, .unset] [(.int (16 : Int32)), (.int (v0_7 p0_1))])) t := by
    have pre64 : ∀ t, Steps p.tables e below (T62.setTop (mkF m 278 #[.val (.long p0_0), .second, .val (.int p0_1), .val (.int p0_2), .val (.int p0_3), .val (.int (v0_7 p0_1)), .val (.int (v0_12 p0_2)), .val (.int (v0_17 p0_3)), .val (.ref b2), .unset, .unset, .unset, .unset, .unset, .unset, .unset, .unset] [(.int (16 : Int32)), (.int (v0_7 p0_1))])) t → Steps p.tables e below (T62.setTop (mkF m 278 #[.val (.long p0_0), .second, .val (.int p0_1), .val (.int p0_2), .val (.int p0_3), .val (.int (v0_7 p0_1)), .val (.int (v0_12 p0_2)), .val (.int (v0_17 p0_3)), .val (.ref b2), .unset, .unset, .unset, .unset, .unset, .unset, .unset, .unset] [(.int (16 : Int32)), (.int (v0_7 p0_1))])) t := fun t k => k
    by_cases hc278_65 : (v0_7 p0_1) = (16 : Int32)
    · have pre66 : ∀ t, Steps p.tables e below (T62.setTop (mkF m 295 #[.val (.long p0_0), .second, .val (.int p0_1), .val (.int p0_2), .val (.int p0_3), .val (.int (v0_7 p0_1)), .val (.int (v0_12 p0_2)), .val (.int (v0_17 p0_3)), .val (.ref b2), .unset, .unset, .unset, .unset, .unset, .unset, .unset, .unset] [(.long p0_0)])) t → Steps p.tables e below (T62.setTop (mkF m 278 #[.val (.long p0_0), .second, .val (.int p0_1), .val (.int p0_2), .val (.int p0_3), .val (.int (v0_7 p0_1)), .val (.int (v0_12 p0_2)), .val (.int (v0_17 p0_3)), .val (.ref b2), .unset, .unset, .unset, .unset, .unset, .unset, .unset, .unset] [(.int (16 : Int32)), (.int (v0_7 p0_1))])) t := fun t k => pre64 t (by
        refine XS.icmpNo X62.here hx rfl (hb hby at_278) rfl (teq hc278_65).2 ?_
        show Steps p.tables e below (T62.setTop (mkF m 281 #[.val (.long p0_0), .second, .val (.int p0_1), .val (.int p0_2), .val (.int p0_3), .val (.int (v0_7 p0_1)), .val (.int (v0_12 p0_2)), .val (.int (v0_17 p0_3)), .val (.ref b2), .unset, .unset, .unset, .unset, .unset, .unset, .unset, .unset] [])) _
        refine XS.lloadN X62.here hx rfl (hb hby at_281) rfl ?_
        show Steps p.tables e below (T62.setTop (mkF m 282 #[.val (.long p0_0), .second, .val (.int p0_1), .val (.int p0_2), .val (.int p0_3), .val (.int (v0_7 p0_1)), .val (.int (v0_12 p0_2)), .val (.int (v0_17 p0_3)), .val (.ref b2), .unset, .unset, .unset, .unset, .unset, .unset, .unset, .unset] [(.long p0_0)])) _
        refine XS.goto X62.here hx rfl (pc0 := 282) (pc' := 295) rfl (hb hby at_282) (by decide) (by decide) ?_
        show Steps p.tables e below (T62.setTop (mkF m 295 #[.val (.long p0_0), .second, .val (.int p0_1), .val (.int p0_2), .val (.int p0_3), .val (.int (v0_7 p0_1)), .val (.int (v0_12 p0_2)), .val (.int (v0_17 p0_3)), .val (.ref b2), .unset, .unset, .unset, .unset, .unset, .unset, .unset, .unset] [(.long p0_0)])) _
        exact k)
      have hj68 : (j0_295_s0 p0_0 p0_1) = p0_0 := by unfold j0_295_s0; rw [if_pos hc278_65]
      exact ⟨T62, _, X62, e62, N62, fun t k => pre66 t (by rw [hj68] at k; exact k)⟩
    · have pre67 : ∀ t, Steps p.tables e below (T62.setTop (mkF m 295 #[.val (.long p0_0), .second, .val (.int p0_1), .val (.int p0_2), .val (.int p0_3), .val (.int (v0_7 p0_1)), .val (.int (v0_12 p0_2)), .val (.int (v0_17 p0_3)), .val (.ref b2), .unset, .unset, .unset, .unset, .unset, .unset, .unset, .unset] [(.long (p0_0 &&& ((own_shlL (1 : Int64) ((4 : Int32) * (v0_7 p0_1))) - (1 : Int64))))])) t → Steps p.tables e below (T62.setTop (mkF m 278 #[.val (.long p0_0), .second, .val (.int p0_1), .val (.int p0_2), .val (.int p0_3), .val (.int (v0_7 p0_1)), .val (.int (v0_12 p0_2)), .val (.int (v0_17 p0_3)), .val (.ref b2), .unset, .unset, .unset, .unset, .unset, .unset, .unset, .unset] [(.int (16 : Int32)), (.int (v0_7 p0_1))])) t := fun t k => pre64 t (by
        refine XS.icmpYes X62.here hx rfl (pc0 := 278) (pc' := 285) rfl (hb hby at_278) rfl (feq hc278_65).2 (by decide) (by decide) ?_
        show Steps p.tables e below (T62.setTop (mkF m 285 #[.val (.long p0_0), .second, .val (.int p0_1), .val (.int p0_2), .val (.int p0_3), .val (.int (v0_7 p0_1)), .val (.int (v0_12 p0_2)), .val (.int (v0_17 p0_3)), .val (.ref b2), .unset, .unset, .unset, .unset, .unset, .unset, .unset, .unset] [])) _
        refine XS.lloadN X62.here hx rfl (hb hby at_285) rfl ?_
        show Steps p.tables e below (T62.setTop (mkF m 286 #[.val (.long p0_0), .second, .val (.int p0_1), .val (.int p0_2), .val (.int p0_3), .val (.int (v0_7 p0_1)), .val (.int (v0_12 p0_2)), .val (.int (v0_17 p0_3)), .val (.ref b2), .unset, .unset, .unset, .unset, .unset, .unset, .unset, .unset] [(.long p0_0)])) _
        refine XS.lconst X62.here hx rfl (hb hby at_286) ?_
        show Steps p.tables e below (T62.setTop (mkF m 287 #[.val (.long p0_0), .second, .val (.int p0_1), .val (.int p0_2), .val (.int p0_3), .val (.int (v0_7 p0_1)), .val (.int (v0_12 p0_2)), .val (.int (v0_17 p0_3)), .val (.ref b2), .unset, .unset, .unset, .unset, .unset, .unset, .unset, .unset] [(.long (1 : Int64)), (.long p0_0)])) _
        refine XS.iconst X62.here hx rfl (hb hby at_287) ?_
        show Steps p.tables e below (T62.setTop (mkF m 288 #[.val (.long p0_0), .second, .val (.int p0_1), .val (.int p0_2), .val (.int p0_3), .val (.int (v0_7 p0_1)), .val (.int (v0_12 p0_2)), .val (.int (v0_17 p0_3)), .val (.ref b2), .unset, .unset, .unset, .unset, .unset, .unset, .unset, .unset] [(.int (4 : Int32)), (.long (1 : Int64)), (.long p0_0)])) _
        refine XS.iload X62.here hx rfl (hb hby at_288) rfl ?_
        show Steps p.tables e below (T62.setTop (mkF m 290 #[.val (.long p0_0), .second, .val (.int p0_1), .val (.int p0_2), .val (.int p0_3), .val (.int (v0_7 p0_1)), .val (.int (v0_12 p0_2)), .val (.int (v0_17 p0_3)), .val (.ref b2), .unset, .unset, .unset, .unset, .unset, .unset, .unset, .unset] [(.int (v0_7 p0_1)), (.int (4 : Int32)), (.long (1 : Int64)), (.long p0_0)])) _
        refine XS.imul X62.here hx rfl (hb hby at_290) rfl ?_
        show Steps p.tables e below (T62.setTop (mkF m 291 #[.val (.long p0_0), .second, .val (.int p0_1), .val (.int p0_2), .val (.int p0_3), .val (.int (v0_7 p0_1)), .val (.int (v0_12 p0_2)), .val (.int (v0_17 p0_3)), .val (.ref b2), .unset, .unset, .unset, .unset, .unset, .unset, .unset, .unset] [(.int ((4 : Int32) * (v0_7 p0_1))), (.long (1 : Int64)), (.long p0_0)])) _
        refine XS.lshl X62.here hx rfl (hb hby at_291) rfl ?_
        show Steps p.tables e below (T62.setTop (mkF m 292 #[.val (.long p0_0), .second, .val (.int p0_1), .val (.int p0_2), .val (.int p0_3), .val (.int (v0_7 p0_1)), .val (.int (v0_12 p0_2)), .val (.int (v0_17 p0_3)), .val (.ref b2), .unset, .unset, .unset, .unset, .unset, .unset, .unset, .unset] [(.long (own_shlL (1 : Int64) ((4 : Int32) * (v0_7 p0_1)))), (.long p0_0)])) _
        refine XS.lconst X62.here hx rfl (hb hby at_292) ?_
        show Steps p.tables e below (T62.setTop (mkF m 293 #[.val (.long p0_0), .second, .val (.int p0_1), .val (.int p0_2), .val (.int p0_3), .val (.int (v0_7 p0_1)), .val (.int (v0_12 p0_2)), .val (.int (v0_17 p0_3)), .val (.ref b2), .unset, .unset, .unset, .unset, .unset, .unset, .unset, .unset] [(.long (1 : Int64)), (.long (own_shlL (1 : Int64) ((4 : Int32) * (v0_7 p0_1)))), (.long p0_0)])) _
        refine XS.lsub X62.here hx rfl (hb hby at_293) rfl ?_
        show Steps p.tables e below (T62.setTop (mkF m 294 #[.val (.long p0_0), .second, .val (.int p0_1), .val (.int p0_2), .val (.int p0_3), .val (.int (v0_7 p0_1)), .val (.int (v0_12 p0_2)), .val (.int (v0_17 p0_3)), .val (.ref b2), .unset, .unset, .unset, .unset, .unset, .unset, .unset, .unset] [(.long ((own_shlL (1 : Int64) ((4 : Int32) * (v0_7 p0_1))) - (1 : Int64))), (.long p0_0)])) _
        refine XS.land X62.here hx rfl (hb hby at_294) rfl ?_
        show Steps p.tables e below (T62.setTop (mkF m 295 #[.val (.long p0_0), .second, .val (.int p0_1), .val (.int p0_2), .val (.int p0_3), .val (.int (v0_7 p0_1)), .val (.int (v0_12 p0_2)), .val (.int (v0_17 p0_3)), .val (.ref b2), .unset, .unset, .unset, .unset, .unset, .unset, .unset, .unset] [(.long (p0_0 &&& ((own_shlL (1 : Int64) ((4 : Int32) * (v0_7 p0_1))) - (1 : Int64))))])) _
        exact k)
      have hj69 : (j0_295_s0 p0_0 p0_1) = (p0_0 &&& ((own_shlL (1 : Int64) ((4 : Int32) * (v0_7 p0_1))) - (1 : Int64))) := by unfold j0_295_s0; rw [if_neg hc278_65]
      exact ⟨T62, _, X62, e62, N62, fun t k => pre67 t (by rw [hj69] at k; exact k)⟩
  have pre64 : ∀ t, Steps p.tables e below (T64.setTop (mkF m 295 #[.val (.long p0_0), .second, .val (.int p0_1), .val (.int p0_2), .val (.int p0_3), .val (.int (v0_7 p0_1)), .val (.int (v0_12 p0_2)), .val (.int (v0_17 p0_3)), .val (.ref b2), .unset, .unset, .unset, .unset, .unset, .unset, .unset, .unset] [(.long (j0_295_s0 p0_0 p0_1))])) t → Steps p.tables e below (s₁.setTop (entryFrame m #[(.long p0_0), (.int p0_1), (.int p0_2), (.int p0_3)] maxLocals)) t := fun t k => pre63 t (st64 t k)
  have pre70 : ∀ t, Steps p.tables e below (T64.setTop (mkF m 299 #[.val (.long p0_0), .second, .val (.int p0_1), .val (.int p0_2), .val (.int p0_3), .val (.int (v0_7 p0_1)), .val (.int (v0_12 p0_2)), .val (.int (v0_17 p0_3)), .val (.ref b2), .val (.long (j0_295_s0 p0_0 p0_1)), .second, .unset, .unset, .unset, .unset, .unset, .unset] [(.int (v0_7 p0_1))])) t → Steps p.tables e below (s₁.setTop (entryFrame m #[(.long p0_0), (.int p0_1), (.int p0_2), (.int p0_3)] maxLocals)) t := fun t k => pre64 t (by
    refine XS.lstore X64.here hx rfl (hb hby at_295) rfl (l' := #[.val (.long p0_0), .second, .val (.int p0_1), .val (.int p0_2), .val (.int p0_3), .val (.int (v0_7 p0_1)), .val (.int (v0_12 p0_2)), .val (.int (v0_17 p0_3)), .val (.ref b2), .val (.long (j0_295_s0 p0_0 p0_1)), .second, .unset, .unset, .unset, .unset, .unset, .unset]) rfl ?_
    show Steps p.tables e below (T64.setTop (mkF m 297 #[.val (.long p0_0), .second, .val (.int p0_1), .val (.int p0_2), .val (.int p0_3), .val (.int (v0_7 p0_1)), .val (.int (v0_12 p0_2)), .val (.int (v0_17 p0_3)), .val (.ref b2), .val (.long (j0_295_s0 p0_0 p0_1)), .second, .unset, .unset, .unset, .unset, .unset, .unset] [])) _
    refine XS.iload X64.here hx rfl (hb hby at_297) rfl ?_
    show Steps p.tables e below (T64.setTop (mkF m 299 #[.val (.long p0_0), .second, .val (.int p0_1), .val (.int p0_2), .val (.int p0_3), .val (.int (v0_7 p0_1)), .val (.int (v0_12 p0_2)), .val (.int (v0_17 p0_3)), .val (.ref b2), .val (.long (j0_295_s0 p0_0 p0_1)), .second, .unset, .unset, .unset, .unset, .unset, .unset] [(.int (v0_7 p0_1))])) _
    exact k)
  obtain ⟨T71, L71, X71, e71, N71, st71⟩ : ∃ (T' : State) (L' : List Loc), Stand p l e room_1 s m #[(.long p0_0), (.int p0_1), (.int p0_2), (.int p0_3)] below meth c T' L' 1 19 ∧ T'.heap = h62 ∧ Fr n0 L' ∧ ∀ t, Steps p.tables e below (T'.setTop (mkF m 315 #[.val (.long p0_0), .second, .val (.int p0_1), .val (.int p0_2), .val (.int p0_3), .val (.int (v0_7 p0_1)), .val (.int (v0_12 p0_2)), .val (.int (v0_17 p0_3)), .val (.ref b2), .val (.long (j0_295_s0 p0_0 p0_1)), .second, .unset, .unset, .unset, .unset, .unset, .unset] [(.long (j0_315_s0 p0_0 p0_1))])) t → Steps p.tables e below (T64.setTop (mkF m 299 #[.val (.long p0_0), .second, .val (.int p0_1), .val (.int p0_2), .val (.int p0_3), .val (.int (v0_7 p0_1)), .val (.int (v0_12 p0_2)), .val (.int (v0_17 p0_3)), .val (.ref b2), .val (.long (j0_295_s0 p0_0 p0_1)), .second, .unset, .unset, .unset, .unset, .unset, .unset] [(.int (v0_7 p0_1))])) t := by
    have pre71 : ∀ t, Steps p.tables e below (T64.setTop (mkF m 299 #[.val (.long p0_0), .second, .val (.int p0_1), .val (.int p0_2), .val (.int p0_3), .val (.int (v0_7 p0_1)), .val (.int (v0_12 p0_2)), .val (.int (v0_17 p0_3)), .val (.ref b2), .val (.long (j0_295_s0 p0_0 p0_1)), .second, .unset, .unset, .unset, .unset, .unset, .unset] [(.int (v0_7 p0_1))])) t → Steps p.tables e below (T64.setTop (mkF m 299 #[.val (.long p0_0), .second, .val (.int p0_1), .val (.int p0_2), .val (.int p0_3), .val (.int (v0_7 p0_1)), .val (.int (v0_12 p0_2)), .val (.int (v0_17 p0_3)), .val (.ref b2), .val (.long (j0_295_s0 p0_0 p0_1)), .second, .unset, .unset, .unset, .unset, .unset, .unset] [(.int (v0_7 p0_1))])) t := fun t k => k
    by_cases hc299_72 : (v0_7 p0_1) = (0 : Int32)
    · have pre73 : ∀ t, Steps p.tables e below (T64.setTop (mkF m 315 #[.val (.long p0_0), .second, .val (.int p0_1), .val (.int p0_2), .val (.int p0_3), .val (.int (v0_7 p0_1)), .val (.int (v0_12 p0_2)), .val (.int (v0_17 p0_3)), .val (.ref b2), .val (.long (j0_295_s0 p0_0 p0_1)), .second, .unset, .unset, .unset, .unset, .unset, .unset] [(.long (0 : Int64))])) t → Steps p.tables e below (T64.setTop (mkF m 299 #[.val (.long p0_0), .second, .val (.int p0_1), .val (.int p0_2), .val (.int p0_3), .val (.int (v0_7 p0_1)), .val (.int (v0_12 p0_2)), .val (.int (v0_17 p0_3)), .val (.ref b2), .val (.long (j0_295_s0 p0_0 p0_1)), .second, .unset, .unset, .unset, .unset, .unset, .unset] [(.int (v0_7 p0_1))])) t := fun t k => pre71 t (by
        refine XS.ifNo X64.here hx rfl (hb hby at_299) rfl ((if0 _ _).trans (teq hc299_72).2) ?_
        show Steps p.tables e below (T64.setTop (mkF m 302 #[.val (.long p0_0), .second, .val (.int p0_1), .val (.int p0_2), .val (.int p0_3), .val (.int (v0_7 p0_1)), .val (.int (v0_12 p0_2)), .val (.int (v0_17 p0_3)), .val (.ref b2), .val (.long (j0_295_s0 p0_0 p0_1)), .second, .unset, .unset, .unset, .unset, .unset, .unset] [])) _
        refine XS.lconst X64.here hx rfl (hb hby at_302) ?_
        show Steps p.tables e below (T64.setTop (mkF m 303 #[.val (.long p0_0), .second, .val (.int p0_1), .val (.int p0_2), .val (.int p0_3), .val (.int (v0_7 p0_1)), .val (.int (v0_12 p0_2)), .val (.int (v0_17 p0_3)), .val (.ref b2), .val (.long (j0_295_s0 p0_0 p0_1)), .second, .unset, .unset, .unset, .unset, .unset, .unset] [(.long (0 : Int64))])) _
        refine XS.goto X64.here hx rfl (pc0 := 303) (pc' := 315) rfl (hb hby at_303) (by decide) (by decide) ?_
        show Steps p.tables e below (T64.setTop (mkF m 315 #[.val (.long p0_0), .second, .val (.int p0_1), .val (.int p0_2), .val (.int p0_3), .val (.int (v0_7 p0_1)), .val (.int (v0_12 p0_2)), .val (.int (v0_17 p0_3)), .val (.ref b2), .val (.long (j0_295_s0 p0_0 p0_1)), .second, .unset, .unset, .unset, .unset, .unset, .unset] [(.long (0 : Int64))])) _
        exact k)
      have hj75 : (j0_315_s0 p0_0 p0_1) = (0 : Int64) := by unfold j0_315_s0; rw [if_pos hc299_72]
      exact ⟨T64, _, X64, e64, N64, fun t k => pre73 t (by rw [hj75] at k; exact k)⟩
    · have pre74 : ∀ t, Steps p.tables e below (T64.setTop (mkF m 315 #[.val (.long p0_0), .second, .val (.int p0_1), .val (.int p0_2), .val (.int p0_3), .val (.int (v0_7 p0_1)), .val (.int (v0_12 p0_2)), .val (.int (v0_17 p0_3)), .val (.ref b2), .val (.long (j0_295_s0 p0_0 p0_1)), .second, .unset, .unset, .unset, .unset, .unset, .unset] [(.long (own_ushrL p0_0 ((64 : Int32) - ((4 : Int32) * (v0_7 p0_1)))))])) t → Steps p.tables e below (T64.setTop (mkF m 299 #[.val (.long p0_0), .second, .val (.int p0_1), .val (.int p0_2), .val (.int p0_3), .val (.int (v0_7 p0_1)), .val (.int (v0_12 p0_2)), .val (.int (v0_17 p0_3)), .val (.ref b2), .val (.long (j0_295_s0 p0_0 p0_1)), .second, .unset, .unset, .unset, .unset, .unset, .unset] [(.int (v0_7 p0_1))])) t := fun t k => pre71 t (by
        refine XS.ifYes X64.here hx rfl (pc0 := 299) (pc' := 306) rfl (hb hby at_299) rfl ((if0 _ _).trans (feq hc299_72).2) (by decide) (by decide) ?_
        show Steps p.tables e below (T64.setTop (mkF m 306 #[.val (.long p0_0), .second, .val (.int p0_1), .val (.int p0_2), .val (.int p0_3), .val (.int (v0_7 p0_1)), .val (.int (v0_12 p0_2)), .val (.int (v0_17 p0_3)), .val (.ref b2), .val (.long (j0_295_s0 p0_0 p0_1)), .second, .unset, .unset, .unset, .unset, .unset, .unset] [])) _
        refine XS.lloadN X64.here hx rfl (hb hby at_306) rfl ?_
        show Steps p.tables e below (T64.setTop (mkF m 307 #[.val (.long p0_0), .second, .val (.int p0_1), .val (.int p0_2), .val (.int p0_3), .val (.int (v0_7 p0_1)), .val (.int (v0_12 p0_2)), .val (.int (v0_17 p0_3)), .val (.ref b2), .val (.long (j0_295_s0 p0_0 p0_1)), .second, .unset, .unset, .unset, .unset, .unset, .unset] [(.long p0_0)])) _
        refine XS.bipush X64.here hx rfl (hb hby at_307) ?_
        show Steps p.tables e below (T64.setTop (mkF m 309 #[.val (.long p0_0), .second, .val (.int p0_1), .val (.int p0_2), .val (.int p0_3), .val (.int (v0_7 p0_1)), .val (.int (v0_12 p0_2)), .val (.int (v0_17 p0_3)), .val (.ref b2), .val (.long (j0_295_s0 p0_0 p0_1)), .second, .unset, .unset, .unset, .unset, .unset, .unset] [(.int (64 : Int32)), (.long p0_0)])) _
        refine XS.iconst X64.here hx rfl (hb hby at_309) ?_
        show Steps p.tables e below (T64.setTop (mkF m 310 #[.val (.long p0_0), .second, .val (.int p0_1), .val (.int p0_2), .val (.int p0_3), .val (.int (v0_7 p0_1)), .val (.int (v0_12 p0_2)), .val (.int (v0_17 p0_3)), .val (.ref b2), .val (.long (j0_295_s0 p0_0 p0_1)), .second, .unset, .unset, .unset, .unset, .unset, .unset] [(.int (4 : Int32)), (.int (64 : Int32)), (.long p0_0)])) _
        refine XS.iload X64.here hx rfl (hb hby at_310) rfl ?_
        show Steps p.tables e below (T64.setTop (mkF m 312 #[.val (.long p0_0), .second, .val (.int p0_1), .val (.int p0_2), .val (.int p0_3), .val (.int (v0_7 p0_1)), .val (.int (v0_12 p0_2)), .val (.int (v0_17 p0_3)), .val (.ref b2), .val (.long (j0_295_s0 p0_0 p0_1)), .second, .unset, .unset, .unset, .unset, .unset, .unset] [(.int (v0_7 p0_1)), (.int (4 : Int32)), (.int (64 : Int32)), (.long p0_0)])) _
        refine XS.imul X64.here hx rfl (hb hby at_312) rfl ?_
        show Steps p.tables e below (T64.setTop (mkF m 313 #[.val (.long p0_0), .second, .val (.int p0_1), .val (.int p0_2), .val (.int p0_3), .val (.int (v0_7 p0_1)), .val (.int (v0_12 p0_2)), .val (.int (v0_17 p0_3)), .val (.ref b2), .val (.long (j0_295_s0 p0_0 p0_1)), .second, .unset, .unset, .unset, .unset, .unset, .unset] [(.int ((4 : Int32) * (v0_7 p0_1))), (.int (64 : Int32)), (.long p0_0)])) _
        refine XS.isub X64.here hx rfl (hb hby at_313) rfl ?_
        show Steps p.tables e below (T64.setTop (mkF m 314 #[.val (.long p0_0), .second, .val (.int p0_1), .val (.int p0_2), .val (.int p0_3), .val (.int (v0_7 p0_1)), .val (.int (v0_12 p0_2)), .val (.int (v0_17 p0_3)), .val (.ref b2), .val (.long (j0_295_s0 p0_0 p0_1)), .second, .unset, .unset, .unset, .unset, .unset, .unset] [(.int ((64 : Int32) - ((4 : Int32) * (v0_7 p0_1)))), (.long p0_0)])) _
        refine XS.lushr X64.here hx rfl (hb hby at_314) rfl ?_
        show Steps p.tables e below (T64.setTop (mkF m 315 #[.val (.long p0_0), .second, .val (.int p0_1), .val (.int p0_2), .val (.int p0_3), .val (.int (v0_7 p0_1)), .val (.int (v0_12 p0_2)), .val (.int (v0_17 p0_3)), .val (.ref b2), .val (.long (j0_295_s0 p0_0 p0_1)), .second, .unset, .unset, .unset, .unset, .unset, .unset] [(.long (own_ushrL p0_0 ((64 : Int32) - ((4 : Int32) * (v0_7 p0_1)))))])) _
        exact k)
      have hj76 : (j0_315_s0 p0_0 p0_1) = (own_ushrL p0_0 ((64 : Int32) - ((4 : Int32) * (v0_7 p0_1)))) := by unfold j0_315_s0; rw [if_neg hc299_72]
      exact ⟨T64, _, X64, e64, N64, fun t k => pre74 t (by rw [hj76] at k; exact k)⟩
  have pre71 : ∀ t, Steps p.tables e below (T71.setTop (mkF m 315 #[.val (.long p0_0), .second, .val (.int p0_1), .val (.int p0_2), .val (.int p0_3), .val (.int (v0_7 p0_1)), .val (.int (v0_12 p0_2)), .val (.int (v0_17 p0_3)), .val (.ref b2), .val (.long (j0_295_s0 p0_0 p0_1)), .second, .unset, .unset, .unset, .unset, .unset, .unset] [(.long (j0_315_s0 p0_0 p0_1))])) t → Steps p.tables e below (s₁.setTop (entryFrame m #[(.long p0_0), (.int p0_1), (.int p0_2), (.int p0_3)] maxLocals)) t := fun t k => pre70 t (st71 t k)
  have pre77 : ∀ t, Steps p.tables e below (T71.setTop (mkF m 329 #[.val (.long p0_0), .second, .val (.int p0_1), .val (.int p0_2), .val (.int p0_3), .val (.int (v0_7 p0_1)), .val (.int (v0_12 p0_2)), .val (.int (v0_17 p0_3)), .val (.ref b2), .val (.long (j0_295_s0 p0_0 p0_1)), .second, .val (.long (j0_315_s0 p0_0 p0_1)), .second, .unset, .unset, .unset, .unset] [(.int (v0_7 p0_1)), (.int (((v0_12 p0_2) + (16 : Int32)) - (v0_7 p0_1))), (.ref b2)])) t → Steps p.tables e below (s₁.setTop (entryFrame m #[(.long p0_0), (.int p0_1), (.int p0_2), (.int p0_3)] maxLocals)) t := fun t k => pre71 t (by
    refine XS.lstore X71.here hx rfl (hb hby at_315) rfl (l' := #[.val (.long p0_0), .second, .val (.int p0_1), .val (.int p0_2), .val (.int p0_3), .val (.int (v0_7 p0_1)), .val (.int (v0_12 p0_2)), .val (.int (v0_17 p0_3)), .val (.ref b2), .val (.long (j0_295_s0 p0_0 p0_1)), .second, .val (.long (j0_315_s0 p0_0 p0_1)), .second, .unset, .unset, .unset, .unset]) rfl ?_
    show Steps p.tables e below (T71.setTop (mkF m 317 #[.val (.long p0_0), .second, .val (.int p0_1), .val (.int p0_2), .val (.int p0_3), .val (.int (v0_7 p0_1)), .val (.int (v0_12 p0_2)), .val (.int (v0_17 p0_3)), .val (.ref b2), .val (.long (j0_295_s0 p0_0 p0_1)), .second, .val (.long (j0_315_s0 p0_0 p0_1)), .second, .unset, .unset, .unset, .unset] [])) _
    refine XS.aload X71.here hx rfl (hb hby at_317) rfl rfl ?_
    show Steps p.tables e below (T71.setTop (mkF m 319 #[.val (.long p0_0), .second, .val (.int p0_1), .val (.int p0_2), .val (.int p0_3), .val (.int (v0_7 p0_1)), .val (.int (v0_12 p0_2)), .val (.int (v0_17 p0_3)), .val (.ref b2), .val (.long (j0_295_s0 p0_0 p0_1)), .second, .val (.long (j0_315_s0 p0_0 p0_1)), .second, .unset, .unset, .unset, .unset] [(.ref b2)])) _
    refine XS.iload X71.here hx rfl (hb hby at_319) rfl ?_
    show Steps p.tables e below (T71.setTop (mkF m 321 #[.val (.long p0_0), .second, .val (.int p0_1), .val (.int p0_2), .val (.int p0_3), .val (.int (v0_7 p0_1)), .val (.int (v0_12 p0_2)), .val (.int (v0_17 p0_3)), .val (.ref b2), .val (.long (j0_295_s0 p0_0 p0_1)), .second, .val (.long (j0_315_s0 p0_0 p0_1)), .second, .unset, .unset, .unset, .unset] [(.int (v0_12 p0_2)), (.ref b2)])) _
    refine XS.bipush X71.here hx rfl (hb hby at_321) ?_
    show Steps p.tables e below (T71.setTop (mkF m 323 #[.val (.long p0_0), .second, .val (.int p0_1), .val (.int p0_2), .val (.int p0_3), .val (.int (v0_7 p0_1)), .val (.int (v0_12 p0_2)), .val (.int (v0_17 p0_3)), .val (.ref b2), .val (.long (j0_295_s0 p0_0 p0_1)), .second, .val (.long (j0_315_s0 p0_0 p0_1)), .second, .unset, .unset, .unset, .unset] [(.int (16 : Int32)), (.int (v0_12 p0_2)), (.ref b2)])) _
    refine XS.iadd X71.here hx rfl (hb hby at_323) rfl ?_
    show Steps p.tables e below (T71.setTop (mkF m 324 #[.val (.long p0_0), .second, .val (.int p0_1), .val (.int p0_2), .val (.int p0_3), .val (.int (v0_7 p0_1)), .val (.int (v0_12 p0_2)), .val (.int (v0_17 p0_3)), .val (.ref b2), .val (.long (j0_295_s0 p0_0 p0_1)), .second, .val (.long (j0_315_s0 p0_0 p0_1)), .second, .unset, .unset, .unset, .unset] [(.int ((v0_12 p0_2) + (16 : Int32))), (.ref b2)])) _
    refine XS.iload X71.here hx rfl (hb hby at_324) rfl ?_
    show Steps p.tables e below (T71.setTop (mkF m 326 #[.val (.long p0_0), .second, .val (.int p0_1), .val (.int p0_2), .val (.int p0_3), .val (.int (v0_7 p0_1)), .val (.int (v0_12 p0_2)), .val (.int (v0_17 p0_3)), .val (.ref b2), .val (.long (j0_295_s0 p0_0 p0_1)), .second, .val (.long (j0_315_s0 p0_0 p0_1)), .second, .unset, .unset, .unset, .unset] [(.int (v0_7 p0_1)), (.int ((v0_12 p0_2) + (16 : Int32))), (.ref b2)])) _
    refine XS.isub X71.here hx rfl (hb hby at_326) rfl ?_
    show Steps p.tables e below (T71.setTop (mkF m 327 #[.val (.long p0_0), .second, .val (.int p0_1), .val (.int p0_2), .val (.int p0_3), .val (.int (v0_7 p0_1)), .val (.int (v0_12 p0_2)), .val (.int (v0_17 p0_3)), .val (.ref b2), .val (.long (j0_295_s0 p0_0 p0_1)), .second, .val (.long (j0_315_s0 p0_0 p0_1)), .second, .unset, .unset, .unset, .unset] [(.int (((v0_12 p0_2) + (16 : Int32)) - (v0_7 p0_1))), (.ref b2)])) _
    refine XS.iload X71.here hx rfl (hb hby at_327) rfl ?_
    show Steps p.tables e below (T71.setTop (mkF m 329 #[.val (.long p0_0), .second, .val (.int p0_1), .val (.int p0_2), .val (.int p0_3), .val (.int (v0_7 p0_1)), .val (.int (v0_12 p0_2)), .val (.int (v0_17 p0_3)), .val (.ref b2), .val (.long (j0_295_s0 p0_0 p0_1)), .second, .val (.long (j0_315_s0 p0_0 p0_1)), .second, .unset, .unset, .unset, .unset] [(.int (v0_7 p0_1)), (.int (((v0_12 p0_2) + (16 : Int32)) - (v0_7 p0_1))), (.ref b2)])) _
    exact k)
  obtain ⟨_, _, ⟨T78, L78, k78, n78⟩, -, X78, ⟨Lc78, hQ78, l78, y78, z78⟩, st78⟩ := Jvm.LawKit.callS X71 hx (y := (⟨"com/example/meterstone/meterstone/core/HexText", "read", "([BII)J"⟩ : MethodName)) hown (mvT hZ (hw _ (List.mem_of_getElem? (i := 6) rfl))) (mvT hZ (hw _ (List.mem_of_getElem? (i := 7) rfl))) (mvT hZ (hw _ (List.mem_of_getElem? (i := 8) rfl))) (mvT hZ (hw _ (List.mem_of_getElem? (i := 9) rfl))) (by decide) (backOf (W := 0) (rm2 l Z a0 hw [] b2 (((v0_12 p0_2) + (16 : Int32)) - (v0_7 p0_1)) (v0_7 p0_1) (own_pad p0_2 + 16 - own_dig p0_1) (own_dig p0_1) 19 (g0_273 p0_0 p0_2 p0_3) h62 n0 Z62 (own_o p0_1 p0_2) (own_d p0_1) (own_od p0_1 p0_2) (by decide) C62) hZ (hw _ (List.mem_of_getElem? (i := 9) rfl)) (hw _ (List.mem_of_getElem? (i := 8) rfl)) (by decide) (by decide)) (g := (mkF m 329 #[.val (.long p0_0), .second, .val (.int p0_1), .val (.int p0_2), .val (.int p0_3), .val (.int (v0_7 p0_1)), .val (.int (v0_12 p0_2)), .val (.int (v0_17 p0_3)), .val (.ref b2), .val (.long (j0_295_s0 p0_0 p0_1)), .second, .val (.long (j0_315_s0 p0_0 p0_1)), .second, .unset, .unset, .unset, .unset] [(.int (v0_7 p0_1)), (.int (((v0_12 p0_2) + (16 : Int32)) - (v0_7 p0_1))), (.ref b2)])) rfl (by rw [hml]; rfl) (argsL := [(.ref b2), (.int (((v0_12 p0_2) + (16 : Int32)) - (v0_7 p0_1))), (.int (v0_7 p0_1))]) (rest := []) (lenOf pd_1 rfl) rfl (by show 2 * 0 + _ ≤ _; exact Nat.le_of_eq rfl) (hb hby at_329) (fun _ _ => ⟨rfl, e71, (by decide : 1 + 0 ≤ _), (by decide : 19 + 0 ≤ _)⟩)
  dsimp only [Pt.U, Pt.locs, Pt.cells, Pt.slots] at X78 l78 y78 z78 st78 hQ78
  rw [l78, y78, z78] at X78
  obtain ⟨rfl, M78, e78⟩ := hQ78
  have N78 := Fr.app N71 M78
  replace X78 : Stand p l e room_1 s m #[(.long p0_0), (.int p0_1), (.int p0_2), (.int p0_3)] below meth c T78 _ 1 19 := X78
  have pre78 : ∀ t, Steps p.tables e below (T78.setTop (mkF m 332 #[.val (.long p0_0), .second, .val (.int p0_1), .val (.int p0_2), .val (.int p0_3), .val (.int (v0_7 p0_1)), .val (.int (v0_12 p0_2)), .val (.int (v0_17 p0_3)), .val (.ref b2), .val (.long (j0_295_s0 p0_0 p0_1)), .second, .val (.long (j0_315_s0 p0_0 p0_1)), .second, .unset, .unset, .unset, .unset] [(.long (c0_329 p0_0 p0_1 p0_2 p0_3))])) t → Steps p.tables e below (s₁.setTop (entryFrame m #[(.long p0_0), (.int p0_1), (.int p0_2), (.int p0_3)] maxLocals)) t := fun t k => pre77 t (st78 t k)
  have pre79 : ∀ t, Steps p.tables e below (T78.setTop (mkF m 340 #[.val (.long p0_0), .second, .val (.int p0_1), .val (.int p0_2), .val (.int p0_3), .val (.int (v0_7 p0_1)), .val (.int (v0_12 p0_2)), .val (.int (v0_17 p0_3)), .val (.ref b2), .val (.long (j0_295_s0 p0_0 p0_1)), .second, .val (.long (j0_315_s0 p0_0 p0_1)), .second, .val (.long (c0_329 p0_0 p0_1 p0_2 p0_3)), .second, .unset, .unset] [(.int (v0_7 p0_1)), (.int (v0_12 p0_2)), (.ref b2)])) t → Steps p.tables e below (s₁.setTop (entryFrame m #[(.long p0_0), (.int p0_1), (.int p0_2), (.int p0_3)] maxLocals)) t := fun t k => pre78 t (by
    refine XS.lstore X78.here hx rfl (hb hby at_332) rfl (l' := #[.val (.long p0_0), .second, .val (.int p0_1), .val (.int p0_2), .val (.int p0_3), .val (.int (v0_7 p0_1)), .val (.int (v0_12 p0_2)), .val (.int (v0_17 p0_3)), .val (.ref b2), .val (.long (j0_295_s0 p0_0 p0_1)), .second, .val (.long (j0_315_s0 p0_0 p0_1)), .second, .val (.long (c0_329 p0_0 p0_1 p0_2 p0_3)), .second, .unset, .unset]) rfl ?_
    show Steps p.tables e below (T78.setTop (mkF m 334 #[.val (.long p0_0), .second, .val (.int p0_1), .val (.int p0_2), .val (.int p0_3), .val (.int (v0_7 p0_1)), .val (.int (v0_12 p0_2)), .val (.int (v0_17 p0_3)), .val (.ref b2), .val (.long (j0_295_s0 p0_0 p0_1)), .second, .val (.long (j0_315_s0 p0_0 p0_1)), .second, .val (.long (c0_329 p0_0 p0_1 p0_2 p0_3)), .second, .unset, .unset] [])) _
    refine XS.aload X78.here hx rfl (hb hby at_334) rfl rfl ?_
    show Steps p.tables e below (T78.setTop (mkF m 336 #[.val (.long p0_0), .second, .val (.int p0_1), .val (.int p0_2), .val (.int p0_3), .val (.int (v0_7 p0_1)), .val (.int (v0_12 p0_2)), .val (.int (v0_17 p0_3)), .val (.ref b2), .val (.long (j0_295_s0 p0_0 p0_1)), .second, .val (.long (j0_315_s0 p0_0 p0_1)), .second, .val (.long (c0_329 p0_0 p0_1 p0_2 p0_3)), .second, .unset, .unset] [(.ref b2)])) _
    refine XS.iload X78.here hx rfl (hb hby at_336) rfl ?_
    show Steps p.tables e below (T78.setTop (mkF m 338 #[.val (.long p0_0), .second, .val (.int p0_1), .val (.int p0_2), .val (.int p0_3), .val (.int (v0_7 p0_1)), .val (.int (v0_12 p0_2)), .val (.int (v0_17 p0_3)), .val (.ref b2), .val (.long (j0_295_s0 p0_0 p0_1)), .second, .val (.long (j0_315_s0 p0_0 p0_1)), .second, .val (.long (c0_329 p0_0 p0_1 p0_2 p0_3)), .second, .unset, .unset] [(.int (v0_12 p0_2)), (.ref b2)])) _
    refine XS.iload X78.here hx rfl (hb hby at_338) rfl ?_
    show Steps p.tables e below (T78.setTop (mkF m 340 #[.val (.long p0_0), .second, .val (.int p0_1), .val (.int p0_2), .val (.int p0_3), .val (.int (v0_7 p0_1)), .val (.int (v0_12 p0_2)), .val (.int (v0_17 p0_3)), .val (.ref b2), .val (.long (j0_295_s0 p0_0 p0_1)), .second, .val (.long (j0_315_s0 p0_0 p0_1)), .second, .val (.long (c0_329 p0_0 p0_1 p0_2 p0_3)), .second, .unset, .unset] [(.int (v0_7 p0_1)), (.int (v0_12 p0_2)), (.ref b2)])) _
    exact k)
  obtain ⟨_, _, ⟨T80, L80, k80, n80⟩, -, X80, ⟨Lc80, hQ80, l80, y80, z80⟩, st80⟩ := Jvm.LawKit.callS X78 hx (y := (⟨"com/example/meterstone/meterstone/core/HexText", "read", "([BII)J"⟩ : MethodName)) hown (mvT hZ (hw _ (List.mem_of_getElem? (i := 6) rfl))) (mvT hZ (hw _ (List.mem_of_getElem? (i := 7) rfl))) (mvT hZ (hw _ (List.mem_of_getElem? (i := 8) rfl))) (mvT hZ (hw _ (List.mem_of_getElem? (i := 9) rfl))) (by decide) (backOf (W := 0) (rm2 l Z a0 hw [] b2 (v0_12 p0_2) (v0_7 p0_1) (own_pad p0_2) (own_dig p0_1) 19 (g0_273 p0_0 p0_2 p0_3) h62 n0 Z62 (own_o' p0_2) (own_d p0_1) (own_od' p0_1 p0_2) (by decide) C62) hZ (hw _ (List.mem_of_getElem? (i := 9) rfl)) (hw _ (List.mem_of_getElem? (i := 8) rfl)) (by decide) (by decide)) (g := (mkF m 340 #[.val (.long p0_0), .second, .val (.int p0_1), .val (.int p0_2), .val (.int p0_3), .val (.int (v0_7 p0_1)), .val (.int (v0_12 p0_2)), .val (.int (v0_17 p0_3)), .val (.ref b2), .val (.long (j0_295_s0 p0_0 p0_1)), .second, .val (.long (j0_315_s0 p0_0 p0_1)), .second, .val (.long (c0_329 p0_0 p0_1 p0_2 p0_3)), .second, .unset, .unset] [(.int (v0_7 p0_1)), (.int (v0_12 p0_2)), (.ref b2)])) rfl (by rw [hml]; rfl) (argsL := [(.ref b2), (.int (v0_12 p0_2)), (.int (v0_7 p0_1))]) (rest := []) (lenOf pd_1 rfl) rfl (by show 2 * 0 + _ ≤ _; exact Nat.le_of_eq rfl) (hb hby at_340) (fun _ _ => ⟨rfl, e78, (by decide : 1 + 0 ≤ _), (by decide : 19 + 0 ≤ _)⟩)
  dsimp only [Pt.U, Pt.locs, Pt.cells, Pt.slots] at X80 l80 y80 z80 st80 hQ80
  rw [l80, y80, z80] at X80
  obtain ⟨rfl, M80, e80⟩ := hQ80
  have N80 := Fr.app N78 M80
  replace X80 : Stand p l e room_1 s m #[(.long p0_0), (.int p0_1), (.int p0_2), (.int p0_3)] below meth c T80 _ 1 19 := X80
  have pre80 : ∀ t, Steps p.tables e below (T80.setTop (mkF m 343 #[.val (.long p0_0), .second, .val (.int p0_1), .val (.int p0_2), .val (.int p0_3), .val (.int (v0_7 p0_1)), .val (.int (v0_12 p0_2)), .val (.int (v0_17 p0_3)), .val (.ref b2), .val (.long (j0_295_s0 p0_0 p0_1)), .second, .val (.long (j0_315_s0 p0_0 p0_1)), .second, .val (.long (c0_329 p0_0 p0_1 p0_2 p0_3)), .second, .unset, .unset] [(.long (r2 (own_pad p0_2) (own_dig p0_1) (g0_273 p0_0 p0_2 p0_3)))])) t → Steps p.tables e below (s₁.setTop (entryFrame m #[(.long p0_0), (.int p0_1), (.int p0_2), (.int p0_3)] maxLocals)) t := fun t k => pre79 t (st80 t k)
  have pre83 : ∀ t, Steps p.tables e below (T80.setTop (mkF m 366 #[.val (.long p0_0), .second, .val (.int p0_1), .val (.int p0_2), .val (.int p0_3), .val (.int (v0_7 p0_1)), .val (.int (v0_12 p0_2)), .val (.int (v0_17 p0_3)), .val (.ref b2), .val (.long (j0_295_s0 p0_0 p0_1)), .second, .val (.long (j0_315_s0 p0_0 p0_1)), .second, .val (.long (c0_329 p0_0 p0_1 p0_2 p0_3)), .second, .val (.long (v0_343 p0_0 p0_1 p0_2 p0_3)), .second] [(.int (1 : Int32))])) t → Steps p.tables e below (s₁.setTop (entryFrame m #[(.long p0_0), (.int p0_1), (.int p0_2), (.int p0_3)] maxLocals)) t := fun t k => pre80 t (by
    show Steps p.tables e below (T80.setTop (mkF m 343 #[.val (.long p0_0), .second, .val (.int p0_1), .val (.int p0_2), .val (.int p0_3), .val (.int (v0_7 p0_1)), .val (.int (v0_12 p0_2)), .val (.int (v0_17 p0_3)), .val (.ref b2), .val (.long (j0_295_s0 p0_0 p0_1)), .second, .val (.long (j0_315_s0 p0_0 p0_1)), .second, .val (.long (c0_329 p0_0 p0_1 p0_2 p0_3)), .second, .unset, .unset] [(.long (v0_343 p0_0 p0_1 p0_2 p0_3))])) _
    refine XS.lstore X80.here hx rfl (hb hby at_343) rfl (l' := #[.val (.long p0_0), .second, .val (.int p0_1), .val (.int p0_2), .val (.int p0_3), .val (.int (v0_7 p0_1)), .val (.int (v0_12 p0_2)), .val (.int (v0_17 p0_3)), .val (.ref b2), .val (.long (j0_295_s0 p0_0 p0_1)), .second, .val (.long (j0_315_s0 p0_0 p0_1)), .second, .val (.long (c0_329 p0_0 p0_1 p0_2 p0_3)), .second, .val (.long (v0_343 p0_0 p0_1 p0_2 p0_3)), .second]) rfl ?_
    show Steps p.tables e below (T80.setTop (mkF m 345 #[.val (.long p0_0), .second, .val (.int p0_1), .val (.int p0_2), .val (.int p0_3), .val (.int (v0_7 p0_1)), .val (.int (v0_12 p0_2)), .val (.int (v0_17 p0_3)), .val (.ref b2), .val (.long (j0_295_s0 p0_0 p0_1)), .second, .val (.long (j0_315_s0 p0_0 p0_1)), .second, .val (.long (c0_329 p0_0 p0_1 p0_2 p0_3)), .second, .val (.long (v0_343 p0_0 p0_1 p0_2 p0_3)), .second] [])) _
    refine XS.lload X80.here hx rfl (hb hby at_345) rfl ?_
    show Steps p.tables e below (T80.setTop (mkF m 347 #[.val (.long p0_0), .second, .val (.int p0_1), .val (.int p0_2), .val (.int p0_3), .val (.int (v0_7 p0_1)), .val (.int (v0_12 p0_2)), .val (.int (v0_17 p0_3)), .val (.ref b2), .val (.long (j0_295_s0 p0_0 p0_1)), .second, .val (.long (j0_315_s0 p0_0 p0_1)), .second, .val (.long (c0_329 p0_0 p0_1 p0_2 p0_3)), .second, .val (.long (v0_343 p0_0 p0_1 p0_2 p0_3)), .second] [(.long (c0_329 p0_0 p0_1 p0_2 p0_3))])) _
    refine XS.lload X80.here hx rfl (hb hby at_347) rfl ?_
    show Steps p.tables e below (T80.setTop (mkF m 349 #[.val (.long p0_0), .second, .val (.int p0_1), .val (.int p0_2), .val (.int p0_3), .val (.int (v0_7 p0_1)), .val (.int (v0_12 p0_2)), .val (.int (v0_17 p0_3)), .val (.ref b2), .val (.long (j0_295_s0 p0_0 p0_1)), .second, .val (.long (j0_315_s0 p0_0 p0_1)), .second, .val (.long (c0_329 p0_0 p0_1 p0_2 p0_3)), .second, .val (.long (v0_343 p0_0 p0_1 p0_2 p0_3)), .second] [(.long (j0_295_s0 p0_0 p0_1)), (.long (c0_329 p0_0 p0_1 p0_2 p0_3))])) _
    refine XS.lcmp X80.here hx rfl (hb hby at_349) rfl ?_
    show Steps p.tables e below (T80.setTop (mkF m 350 #[.val (.long p0_0), .second, .val (.int p0_1), .val (.int p0_2), .val (.int p0_3), .val (.int (v0_7 p0_1)), .val (.int (v0_12 p0_2)), .val (.int (v0_17 p0_3)), .val (.ref b2), .val (.long (j0_295_s0 p0_0 p0_1)), .second, .val (.long (j0_315_s0 p0_0 p0_1)), .second, .val (.long (c0_329 p0_0 p0_1 p0_2 p0_3)), .second, .val (.long (v0_343 p0_0 p0_1 p0_2 p0_3)), .second] [(.int (lcmpW (c0_329 p0_0 p0_1 p0_2 p0_3) (j0_295_s0 p0_0 p0_1)))])) _
    refine XS.ifNo X80.here hx rfl (hb hby at_350) rfl ((if0 _ _).trans (teq ((lw_eq (c0_329 p0_0 p0_1 p0_2 p0_3) (j0_295_s0 p0_0 p0_1)).mpr (show (c0_329 p0_0 p0_1 p0_2 p0_3) = (j0_295_s0 p0_0 p0_1) from (own_low p0_0 p0_1 p0_2 p0_3)))).2) ?_
    show Steps p.tables e below (T80.setTop (mkF m 353 #[.val (.long p0_0), .second, .val (.int p0_1), .val (.int p0_2), .val (.int p0_3), .val (.int (v0_7 p0_1)), .val (.int (v0_12 p0_2)), .val (.int (v0_17 p0_3)), .val (.ref b2), .val (.long (j0_295_s0 p0_0 p0_1)), .second, .val (.long (j0_315_s0 p0_0 p0_1)), .second, .val (.long (c0_329 p0_0 p0_1 p0_2 p0_3)), .second, .val (.long (v0_343 p0_0 p0_1 p0_2 p0_3)), .second] [])) _
    refine XS.lload X80.here hx rfl (hb hby at_353) rfl ?_
    show Steps p.tables e below (T80.setTop (mkF m 355 #[.val (.long p0_0), .second, .val (.int p0_1), .val (.int p0_2), .val (.int p0_3), .val (.int (v0_7 p0_1)), .val (.int (v0_12 p0_2)), .val (.int (v0_17 p0_3)), .val (.ref b2), .val (.long (j0_295_s0 p0_0 p0_1)), .second, .val (.long (j0_315_s0 p0_0 p0_1)), .second, .val (.long (c0_329 p0_0 p0_1 p0_2 p0_3)), .second, .val (.long (v0_343 p0_0 p0_1 p0_2 p0_3)), .second] [(.long (v0_343 p0_0 p0_1 p0_2 p0_3))])) _
    refine XS.lload X80.here hx rfl (hb hby at_355) rfl ?_
    show Steps p.tables e below (T80.setTop (mkF m 357 #[.val (.long p0_0), .second, .val (.int p0_1), .val (.int p0_2), .val (.int p0_3), .val (.int (v0_7 p0_1)), .val (.int (v0_12 p0_2)), .val (.int (v0_17 p0_3)), .val (.ref b2), .val (.long (j0_295_s0 p0_0 p0_1)), .second, .val (.long (j0_315_s0 p0_0 p0_1)), .second, .val (.long (c0_329 p0_0 p0_1 p0_2 p0_3)), .second, .val (.long (v0_343 p0_0 p0_1 p0_2 p0_3)), .second] [(.long (j0_315_s0 p0_0 p0_1)), (.long (v0_343 p0_0 p0_1 p0_2 p0_3))])) _
    refine XS.lcmp X80.here hx rfl (hb hby at_357) rfl ?_
    show Steps p.tables e below (T80.setTop (mkF m 358 #[.val (.long p0_0), .second, .val (.int p0_1), .val (.int p0_2), .val (.int p0_3), .val (.int (v0_7 p0_1)), .val (.int (v0_12 p0_2)), .val (.int (v0_17 p0_3)), .val (.ref b2), .val (.long (j0_295_s0 p0_0 p0_1)), .second, .val (.long (j0_315_s0 p0_0 p0_1)), .second, .val (.long (c0_329 p0_0 p0_1 p0_2 p0_3)), .second, .val (.long (v0_343 p0_0 p0_1 p0_2 p0_3)), .second] [(.int (lcmpW (v0_343 p0_0 p0_1 p0_2 p0_3) (j0_315_s0 p0_0 p0_1)))])) _
    refine XS.ifNo X80.here hx rfl (hb hby at_358) rfl ((if0 _ _).trans (teq ((lw_eq (v0_343 p0_0 p0_1 p0_2 p0_3) (j0_315_s0 p0_0 p0_1)).mpr (show (v0_343 p0_0 p0_1 p0_2 p0_3) = (j0_315_s0 p0_0 p0_1) from (own_top p0_0 p0_1 p0_2 p0_3)))).2) ?_
    show Steps p.tables e below (T80.setTop (mkF m 361 #[.val (.long p0_0), .second, .val (.int p0_1), .val (.int p0_2), .val (.int p0_3), .val (.int (v0_7 p0_1)), .val (.int (v0_12 p0_2)), .val (.int (v0_17 p0_3)), .val (.ref b2), .val (.long (j0_295_s0 p0_0 p0_1)), .second, .val (.long (j0_315_s0 p0_0 p0_1)), .second, .val (.long (c0_329 p0_0 p0_1 p0_2 p0_3)), .second, .val (.long (v0_343 p0_0 p0_1 p0_2 p0_3)), .second] [])) _
    refine XS.iconst X80.here hx rfl (hb hby at_361) ?_
    show Steps p.tables e below (T80.setTop (mkF m 362 #[.val (.long p0_0), .second, .val (.int p0_1), .val (.int p0_2), .val (.int p0_3), .val (.int (v0_7 p0_1)), .val (.int (v0_12 p0_2)), .val (.int (v0_17 p0_3)), .val (.ref b2), .val (.long (j0_295_s0 p0_0 p0_1)), .second, .val (.long (j0_315_s0 p0_0 p0_1)), .second, .val (.long (c0_329 p0_0 p0_1 p0_2 p0_3)), .second, .val (.long (v0_343 p0_0 p0_1 p0_2 p0_3)), .second] [(.int (1 : Int32))])) _
    refine XS.goto X80.here hx rfl (pc0 := 362) (pc' := 366) rfl (hb hby at_362) (by decide) (by decide) ?_
    show Steps p.tables e below (T80.setTop (mkF m 366 #[.val (.long p0_0), .second, .val (.int p0_1), .val (.int p0_2), .val (.int p0_3), .val (.int (v0_7 p0_1)), .val (.int (v0_12 p0_2)), .val (.int (v0_17 p0_3)), .val (.ref b2), .val (.long (j0_295_s0 p0_0 p0_1)), .second, .val (.long (j0_315_s0 p0_0 p0_1)), .second, .val (.long (c0_329 p0_0 p0_1 p0_2 p0_3)), .second, .val (.long (v0_343 p0_0 p0_1 p0_2 p0_3)), .second] [(.int (1 : Int32))])) _
    exact k)
  obtain ⟨fs, hr, hrun, hended, hW, hsame⟩ := X80.leave (v := some (.int (1 : Int32))) (fun h => by rw [Bd.returns] at h; cases h) Bd.notSynchronized
  refine ⟨_, _, pre83 _ ?_, hrun, hended, _, _, rfl, ?_, ⟨_, rfl⟩, hW, hsame.mono (by decide) (by decide)⟩
  · show Steps p.tables e below (T80.setTop (mkF m 366 #[.val (.long p0_0), .second, .val (.int p0_1), .val (.int p0_2), .val (.int p0_3), .val (.int (v0_7 p0_1)), .val (.int (v0_12 p0_2)), .val (.int (v0_17 p0_3)), .val (.ref b2), .val (.long (j0_295_s0 p0_0 p0_1)), .second, .val (.long (j0_315_s0 p0_0 p0_1)), .second, .val (.long (c0_329 p0_0 p0_1 p0_2 p0_3)), .second, .val (.long (v0_343 p0_0 p0_1 p0_2 p0_3)), .second] [(.int (1 : Int32))])) _
    exact retN X80 hx (t := .boolean) Bd.returns (by simp) (hb hby at_366) hr
  · show Q0 Z p0_0 p0_1 p0_2 p0_3 h0 n0 _ T80.heap _
    rw [e80]
    exact ⟨rfl, N80⟩
set_option maxRecDepth 65536 in
set_option maxHeartbeats 40000000 in
theorem comes_1 {Post : Tables → Env → Array Value → State → Outcome → State → Prop} (hpost : ∀ tb e args s v u, (limb_1_1.after args s (.returned v) u = true ∧ limb_1_2.after args s (.returned v) u = true ∧ True) → FrameEnd s (.returned v) u (Jvm.fieldLocs frame_1_writes args s ++ Jvm.arrayLocs frame_1_arrays args s ++ Jvm.staticLocs frame_1_statics s) 16 128 → Post tb e args s (.returned v) u) :
    ArmFor flags0 classFile x code maxLocals ret World_1 tables_1 room_1 Calls_1 rest_1 Pre_1 Post := by
  intro l hfl _ _ p e ha hc hk s m args below hf hA hF happ hP
  obtain ⟨hcalls, hrest, hpre⟩ := hP
  obtain ⟨-, -, -, hnamed, -, -, -, hat⟩ := (Spec.applies_iff hf).mp happ
  obtain ⟨hg, hn⟩ := and_e (Cond.before_iff.mp (show (Jvm.Cond.and given_1 narrow_1).before args s = true from hpre))
  obtain ⟨gc, g0⟩ := and_e hg
  obtain ⟨ga0, g1⟩ := and_e g0
  obtain ⟨ga1, g2⟩ := and_e g1
  obtain ⟨ga2, g3⟩ := and_e g2
  obtain ⟨w0, w1, w2, w3, rfl⟩ : ∃ w0 w1 w2 w3 : Value, args = #[w0, w1, w2, w3] := by
    have hs : args.size = 4 := by simpa [Cond.value, given_1] using gc
    obtain ⟨L⟩ := args
    match L, hs with
    | [w0, w1, w2, w3], _ => exact ⟨w0, w1, w2, w3, rfl⟩
  have hw := fun d (hd : d ∈ tables_1) => atoms_spec (ws := Jvm.Cond.code x code maxLocals ret :: tables_1) hat d (List.mem_cons_of_mem _ hd)
  obtain ⟨i0, ei0⟩ := isL_v ga0
  obtain rfl : w0 = (.long i0) := Option.some.inj ei0
  obtain ⟨i1, ei1⟩ := is_v ga1
  obtain rfl : w1 = (.int i1) := Option.some.inj ei1
  obtain ⟨i2, ei2⟩ := is_v ga2
  obtain rfl : w2 = (.int i2) := Option.some.inj ei2
  obtain ⟨i3, ei3⟩ := is_v g3
  obtain rfl : w3 = (.int i3) := Option.some.inj ei3
  obtain ⟨n, o, h1, h2, h3, _, L, rfl, ⟨rfl, N⟩, hq⟩ := rm0 l s _ hw tables_1 i0 i1 i2 i3  s.heap s.heap.size (Nat.le_refl _)  p e ha hc hk s m _ below hf ((Spec.applies_iff_loose hf).mp happ).1 ⟨rfl, State.Warmed39.refl s, rfl⟩ trivial
  refine ⟨n, _, h1, h2, h3, hpost _ _ _ _ _ _ ⟨Cond.after_iff.mpr rfl, Cond.after_iff.mpr (eq_i res_at (Term.int_eval (1)) rfl), trivial⟩ ⟨hq.1, hq.2.1, (hq.2.2.sift fun y hy => Or.inr (N y hy)).mono (by decide) (by decide)⟩⟩
theorem main_1_1 : Claimed_1_1 := comes_1 fun _ _ _ _ _ _ h hF => ⟨h.1, hF⟩
theorem main_1_2 : Claimed_1_2 := comes_1 fun _ _ _ _ _ _ h hF => ⟨h.2.1, hF⟩
end Jvm.Pilot.@@N@@
namespace Jvm.Pilot.@@N@@
open Jvm Jvm.ClassFile Sem Op Lib Jvm.Free Jvm.Stand Jvm.Pilot.@@N@@.Jvm.D
/-! MADE BY PROGRAM (witnessworld.py) out of the Statement's table words and the real class files: 9 classes; the members and pool entries that the words name. The judged class is class 1, her method 2. -/
namespace start1
open Jvm.ClassFile
def u (s : String) : CpInfo := .utf8 (stringToUtf16 s)
/-- a pool by its gaps: so many unusable entries, then the entry; so many at the end -/
def gap : Nat → List CpInfo → List CpInfo
  | 0, r => r
  | n + 1, r => .unusable :: gap n r
def poolList (es : List (Nat × CpInfo)) (last : Nat) : List CpInfo := es.foldr (fun e r => gap e.1 (e.2 :: r)) (gap last [])
def pool (es : List (Nat × CpInfo)) (last : Nat) : Array CpInfo := ⟨poolList es last⟩
def fileOf (pool : Array CpInfo) (this : Nat) (attrs : Array Attribute := #[]) (ms : Array MethodInfo := #[]) (fl : Nat := 33) (sup : Nat := 0) (ifs : Array Nat := #[]) (fds : Array FieldInfo := #[]) : ClassFile where
  minorVersion := 0
  majorVersion := 65
  constantPool := pool
  accessFlags := fl
  thisClass := this
  superClass := sup
  interfaces := ifs
  fields := fds
  methods := ms
  attributes := attrs
def plain (name : String) (sup : Option ClassId) : Class where
  name := name
  kind := .ordinary
  loader := none
  accessFlags := 33
  super := sup
  interfaces := #[]
  cf := none
  fields := #[]
  methods := #[]
  instanceTypes := #[]
  staticTypes := #[]
  resolved := #[]
  callSites := []
  init := .initialized
  statics := none
  mirror := none

def pool0 : Array CpInfo := pool [(5, u "<init>"), (0, u "()V"), (1, .class_ 10), (1, u "java/lang/Object")] 113

def k0m0 : Method := { name := "<init>", desc := "()V", sig := { parameters := [], returnType := none }, accessFlags := 1, code := none }
/-- java/lang/Object -/
def k0 : Class := { plain "java/lang/Object" none with
  accessFlags := 33
  interfaces := #[]
  cf := some (fileOf pool0 8 #[] #[{ accessFlags := 1, nameIndex := 5, descriptorIndex := 6, attributes := #[] }] 33 0 #[] #[])
  fields := #[]
  methods := #[k0m0]
  instanceTypes := #[]
  staticTypes := #[]
  resolved := Array.replicate 124 none
  statics := none }

def pool1 : Array CpInfo := pool [(2, .class_ 4), (1, u "java/lang/Object"), (0, u "<init>"), (0, u "()V"), (0, .integer 2147483647), (0, .methodref 9 10), (0, .class_ 11), (0, .nameAndType 12 13), (0, u "com/example/meterstone/meterstone/core/HexTextRead317PinLaw"), (0, u "hex"), (0, u "(JI)B"), (0, .methodref 15 16), (0, .class_ 17), (0, .nameAndType 18 19), (0, u "com/example/meterstone/meterstone/core/HexText"), (0, u "read"), (0, u "([BII)J"), (3, u "law"), (0, u "(JIII)Z")] 4

def k1m0 : Method := { name := "<init>", desc := "()V", sig := { parameters := [], returnType := none }, accessFlags := 2, code := none }
def k1c1 : Code := { maxStack := 5, maxLocals := 4, code := method_2_code, exceptionTable := #[], attributes := #[] }
def k1m1 : Method := { name := "hex", desc := "(JI)B", sig := { parameters := [.long, .int], returnType := some .byte }, accessFlags := 10, code := some k1c1 }
def k1c2 : Code := { maxStack := 6, maxLocals := 17, code := code, exceptionTable := #[], attributes := #[] }
def k1m2 : Method := { name := "law", desc := "(JIII)Z", sig := { parameters := [.long, .int, .int, .int], returnType := some .boolean }, accessFlags := 9, code := some k1c2 }
/-- com/example/meterstone/meterstone/core/HexTextRead317PinLaw -/
def k1 : Class := { plain "com/example/meterstone/meterstone/core/HexTextRead317PinLaw" (some 0) with
  accessFlags := 49
  interfaces := #[]
  cf := some (fileOf pool1 9 #[] #[{ accessFlags := 2, nameIndex := 5, descriptorIndex := 6, attributes := #[] }, { accessFlags := 10, nameIndex := 12, descriptorIndex := 13, attributes := #[] }, { accessFlags := 9, nameIndex := 23, descriptorIndex := 24, attributes := #[] }] 49 2 #[] #[])
  fields := #[]
  methods := #[k1m0, k1m1, k1m2]
  instanceTypes := #[]
  staticTypes := #[]
  resolved := Array.replicate 29 none
  statics := none }

def pool2 : Array CpInfo := pool [(2, .class_ 4), (1, u "java/lang/Object"), (0, u "<init>"), (0, u "()V"), (1, .class_ 10), (1, u "com/example/meterstone/meterstone/core/HexText"), (0, u "DIGITS"), (0, u "[B"), (8, u "LONGS"), (0, u "Ljava/lang/invoke/VarHandle;"), (75, u "read"), (0, u "([BII)J"), (7, .class_ 108), (0, u "com/example/meterstone/meterstone/core/HexText$Header"), (0, .class_ 110), (0, u "com/example/meterstone/meterstone/core/HexText$Header$Field")] 3

def k2m0 : Method := { name := "<init>", desc := "()V", sig := { parameters := [], returnType := none }, accessFlags := 2, code := none }
def k2c1 : Code := { maxStack := 4, maxLocals := 7, code := prog_53_method_6_code, exceptionTable := #[], attributes := #[] }
def k2m1 : Method := { name := "read", desc := "([BII)J", sig := { parameters := [(.array .byte), .int, .int], returnType := some .long }, accessFlags := 8, code := some k2c1 }
/-- com/example/meterstone/meterstone/core/HexText -/
def k2 : Class := { plain "com/example/meterstone/meterstone/core/HexText" (some 0) with
  accessFlags := 48
  interfaces := #[]
  cf := some (fileOf pool2 8 #[.nestMembers #[107, 109]] #[{ accessFlags := 2, nameIndex := 5, descriptorIndex := 6, attributes := #[] }, { accessFlags := 8, nameIndex := 98, descriptorIndex := 99, attributes := #[] }] 48 2 #[] #[{ accessFlags := 24, nameIndex := 11, descriptorIndex := 12, attributes := #[] }, { accessFlags := 26, nameIndex := 21, descriptorIndex := 22, attributes := #[] }])
  fields := #[{ name := "DIGITS", type := (.array .byte), accessFlags := 24, slot := 0, constantValue := 0 }, { name := "LONGS", type := (.object "java/lang/invoke/VarHandle"), accessFlags := 26, slot := 1, constantValue := 0 }]
  methods := #[k2m0, k2m1]
  instanceTypes := #[]
  staticTypes := #[(.array .byte), (.object "java/lang/invoke/VarHandle")]
  resolved := Array.replicate 114 none
  statics := none }

def pool3 : Array CpInfo := pool [(1, u "java/lang/Cloneable"), (0, .class_ 1), (0, u "java/lang/Object"), (0, .class_ 3)] 3

/-- java/lang/Cloneable -/
def k3 : Class := { plain "java/lang/Cloneable" (some 0) with
  accessFlags := 1537
  interfaces := #[]
  cf := some (fileOf pool3 2 #[] #[] 1537 4 #[] #[])
  fields := #[]
  methods := #[]
  instanceTypes := #[]
  staticTypes := #[]
  resolved := Array.replicate 8 none
  statics := none }

def pool4 : Array CpInfo := pool [(1, u "java/io/Serializable"), (0, .class_ 1), (0, u "java/lang/Object"), (0, .class_ 3)] 3

/-- java/io/Serializable -/
def k4 : Class := { plain "java/io/Serializable" (some 0) with
  accessFlags := 1537
  interfaces := #[]
  cf := some (fileOf pool4 2 #[] #[] 1537 4 #[] #[])
  fields := #[]
  methods := #[]
  instanceTypes := #[]
  staticTypes := #[]
  resolved := Array.replicate 8 none
  statics := none }

/-- the primitive byte -/
def k5 : Class := { plain "byte" none with kind := .primitive 'B', accessFlags := 0x411 }
/-- [B -/
def k6 : Class := { plain "[B" (some 0) with kind := .array 5 .byte, interfaces := #[3, 4], accessFlags := 1041 }

/-- the primitive int -/
def k7 : Class := { plain "int" none with kind := .primitive 'I', accessFlags := 0x411 }
/-- [I -/
def k8 : Class := { plain "[I" (some 0) with kind := .array 7 .int, interfaces := #[3, 4], accessFlags := 1041 }

def heap : Heap := #[]
def classes : Array Class := #[k0, k1, k2, k3, k4, k5, k6, k7, k8]
def interned : List (Array UInt16 × Addr) := []
def slotsUsed : Nat := 0
def theMethod : MethodId := ⟨1, 2⟩
def args0 : Array Value := #[.long 5, .int 6, .int 7, .int 8]
def aboutOver (below : List Frame) : State where
  vm := { classes := classes, interned := interned.toArray }
  heap := heap
  slotsUsed := slotsUsed
  threads := #[{ frames := .invoking theMethod args0 :: below }]
def below0 : List Frame := [.native { method := ⟨0, 0⟩, args := #[] }]
def about1 : State := aboutOver below0
def p0 : Program := .bare "" "" ""
def e0 : Env := launch0.env 0 0 0
theorem w_frames : about1.frames = Frame.invoking theMethod args0 :: below0 := rfl
set_option maxRecDepth 65536 in
theorem w_args : argsFit about1.vm theMethod args0 = true := by decide +kernel
set_option maxRecDepth 65536 in
theorem w_heap : heapFits about1 = true := by decide +kernel
set_option maxRecDepth 65536 in
theorem w_runnable : about1.curStatus? = some .runnable := by decide +kernel
set_option maxRecDepth 65536 in
theorem w_alone : about1.alone = true := by decide +kernel
set_option maxRecDepth 65536 in
theorem w_named : about1.methodNamed? x = some theMethod := by decide +kernel
set_option maxRecDepth 65536 in
theorem w_hears : about1.hears theMethod below0 = true := by decide +kernel
set_option maxRecDepth 65536 in
theorem w_ripe : about1.ripe theMethod args0 below0 = true := by decide +kernel
theorem w_running : about1.status = .running := rfl
set_option maxRecDepth 65536 in
theorem w_room : about1.hasRoom e0.platform room_1 = true :=
  launch0.hasRoom_least _ room_1 (by decide +kernel) (by decide +kernel) (by decide +kernel) (by decide +kernel) (by decide +kernel) (by decide +kernel)
theorem allAtoms_all (ts : List Jvm.Cond) (a : Array Jvm.Value) (st : Jvm.State) : (allAtoms ts).before a st = ts.all (fun c => c.before a st) := by
  induction ts with
  | nil => rfl
  | cons c t ih =>
    show (Jvm.Cond.and c (allAtoms t)).before a st = _
    rw [Jvm.Cond.before_and, ih, List.all_cons]
def words1 : List Jvm.Cond := Jvm.Cond.code x code maxLocals ret :: tables_1
/-- a 'code' word, met by the world's own term for the bytes: nothing is compared byte by byte -/
theorem code_word {y : MethodName} {bytes : ByteArray} {mx : Nat} {rt : Option FieldType} {a : Array Value} {s : State} {m : MethodId} {meth : Method} {c : Code} (h1 : s.methodNamed? y = some m) (h2 : s.vm.method? m = some meth) (h3 : meth.code = some c) (h4 : c.code = bytes)
    (h5 : (c.maxLocals == mx && c.exceptionTable.isEmpty && decide (c.maxStack ≤ mostOperands) && decide (meth.sig.returnType = rt) && !meth.locks && decide (parseMethodDescriptor y.desc = some meth.sig)) = true) : (Jvm.Cond.code y bytes mx rt).before a s = true := by
  simp only [Bool.and_eq_true, beq_iff_eq, Bool.not_eq_true', decide_eq_true_eq] at h5
  obtain ⟨⟨⟨⟨⟨g1, g2⟩, g3⟩, g4⟩, g5⟩, g6⟩ := h5
  simp [Cond.before, Cond.holds, Cond.value, h1, h2, h3, h4, g1, g2, g3, g4, g5, g6]
def isCode : Jvm.Cond → Bool
  | .code _ _ _ _ => true
  | _ => false
theorem all_split {L : List Jvm.Cond} {P : Jvm.Cond → Bool} (h1 : L.all (fun c => isCode c || P c) = true) (h2 : ∀ c ∈ L.filter isCode, P c = true) : L.all P = true := by
  refine List.all_eq_true.mpr fun c hc => ?_
  have h := List.all_eq_true.mp h1 c hc
  rcases Bool.eq_false_or_eq_true (isCode c) with hi | hi
  · exact h2 c (List.mem_filter.mpr ⟨hc, hi⟩)
  · simpa [hi] using h
set_option maxRecDepth 65536 in
theorem w_c0 : (Jvm.Cond.code x code maxLocals ret).before args0 about1 = true := code_word (m := ⟨1, 2⟩) (meth := k1m2) (c := k1c2) (by decide +kernel) rfl rfl rfl (by decide +kernel)
set_option maxRecDepth 65536 in
theorem w_c1 : (Jvm.Cond.code ({ cls := "com/example/meterstone/meterstone/core/HexTextRead317PinLaw", name := "hex", desc := "(JI)B" } : Jvm.MethodName) method_2_code (4 : Nat) (Option.some Jvm.ClassFile.FieldType.byte)).before args0 about1 = true := code_word (m := ⟨1, 1⟩) (meth := k1m1) (c := k1c1) (by decide +kernel) rfl rfl rfl (by decide +kernel)
set_option maxRecDepth 65536 in
theorem w_c2 : (Jvm.Cond.code ({ cls := "com/example/meterstone/meterstone/core/HexText", name := "read", desc := "([BII)J" } : Jvm.MethodName) prog_53_method_6_code (7 : Nat) (Option.some Jvm.ClassFile.FieldType.long)).before args0 about1 = true := code_word (m := ⟨2, 1⟩) (meth := k2m1) (c := k2c1) (by decide +kernel) rfl rfl rfl (by decide +kernel)
def codes1 : List Jvm.Cond := [Jvm.Cond.code x code maxLocals ret, Jvm.Cond.code ({ cls := "com/example/meterstone/meterstone/core/HexTextRead317PinLaw", name := "hex", desc := "(JI)B" } : Jvm.MethodName) method_2_code (4 : Nat) (Option.some Jvm.ClassFile.FieldType.byte), Jvm.Cond.code ({ cls := "com/example/meterstone/meterstone/core/HexText", name := "read", desc := "([BII)J" } : Jvm.MethodName) prog_53_method_6_code (7 : Nat) (Option.some Jvm.ClassFile.FieldType.long)]
set_option maxRecDepth 65536 in
theorem codes_eq : words1.filter isCode = codes1 := rfl
theorem w_codes : ∀ c ∈ words1.filter isCode, c.before args0 about1 = true := by
  rw [codes_eq]
  intro c hc
  simp only [codes1, List.mem_cons, List.not_mem_nil, or_false] at hc
  rcases hc with rfl | rfl | rfl
  · exact w_c0
  · exact w_c1
  · exact w_c2
set_option maxRecDepth 65536 in
theorem w_t1 : words1.all (fun c => isCode c || c.before args0 about1) = true := by decide +kernel
theorem w_tables : (allAtoms (Jvm.Cond.code x code maxLocals ret :: tables_1)).before args0 about1 = true := by
  rw [allAtoms_all]
  show words1.all (fun c => c.before args0 about1) = true
  refine all_split ?_ w_codes
  rw [w_t1]
set_option maxRecDepth 65536 in
theorem w_case : (Jvm.Cond.and given_1 narrow_1).before args0 about1 = true := by decide +kernel
theorem w_applies : (headSpec (Jvm.Cond.code x code maxLocals ret :: tables_1) room_1).applies x e0.platform about1 = true :=
  (Spec.applies_iff w_frames).mpr ⟨w_running, w_runnable, w_alone, w_named, w_hears, w_ripe, w_room, w_tables⟩
theorem atStart : AtStart classFile x code maxLocals ret World_1 tables_1 room_1 Calls_1 rest_1 Pre_1 launch0 p0 e0 about1 theMethod args0 below0 :=
  ⟨lists_1, trivial, launch0.admits_env _ _ _, launch0.least_env, fairChoices_fair.cas, fairChoices_fair.clock, w_frames, w_args, w_heap, w_applies, trivial, trivial, w_case⟩
end start1
theorem witness_1 : WitnessClaimed_1 := ⟨start1.p0, start1.e0, start1.about1, start1.theMethod, start1.args0, start1.below0, start1.atStart⟩
end Jvm.Pilot.@@N@@
