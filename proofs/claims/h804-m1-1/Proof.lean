import JvmDerived
import JvmDerived.Pilot.@@N@@Statement
import JvmDerived.Pilot.@@N@@Code
set_option linter.unusedVariables false
set_option linter.unusedSimpArgs false
@@BLOCK:NumsL.lean.txt@@
namespace Jvm.Pilot.@@N@@
open Jvm Jvm.ClassFile Sem Op Lib Jvm.Free Jvm.Stand Jvm.LawKit Jvm.RoadKit Bundle Jvm.Pilot.@@N@@.Jvm.D
def own_shl (x y : Int32) : Int32 := x <<< (y &&& 31)
def own_shr (x y : Int32) : Int32 := x >>> (y &&& 31)
def own_ushr (x y : Int32) : Int32 := (x.toUInt32 >>> (y &&& 31).toUInt32).toInt32
def own_shlL (x : Int64) (y : Int32) : Int64 := x <<< (y &&& 0x3f).toInt64
def own_shrL (x : Int64) (y : Int32) : Int64 := x >>> (y &&& 0x3f).toInt64
def own_ushrL (x : Int64) (y : Int32) : Int64 := (x.toUInt64 >>> (y &&& 0x3f).toInt64.toUInt64).toInt64
def own_remL (x y : Int64) : Int64 := x - (x / y) * y
section OwnKit
variable {p : Program} {l : Launch} {e : Env} {R : Room} {s : State} {m : MethodId} {args : Array Value} {below : List Frame} {meth : Method} {c : Code} {T : State} {locs : List Loc} {cells slots : Nat} {Z : State} {h h' : Heap} {a b : Addr}
theorem retI (X : Stand p l e R s m args below meth c T locs cells slots) (hx : p.tables.exec = Jvm.exec) {pc : Nat} {Ls : Array Slot} {z : Int32} {rest : List Value} (hret : meth.sig.returnType = some .int) (hd : decode c.code pc = .ok (.ireturn, 1)) {fs : List Frame}
    (hl : ∀ (f : JFrame) (acts : List Action), f.method = m → f.locked = none → f.entered = [] → (doReturn e (T.setTop f) acts (some (.int z))).1 = T.setFrames fs) : Steps p.tables e below (T.setTop (mkF m pc Ls (.int z :: rest))) (T.setFrames fs) :=
  retOut X hx hret rfl (Or.inl ⟨rfl, Or.inl rfl, _, rfl⟩) hd hl
theorem own_retJ (X : Stand p l e R s m args below meth c T locs cells slots) (hx : p.tables.exec = Jvm.exec) {pc : Nat} {Ls : Array Slot} {z : Int64} {rest : List Value} (hret : meth.sig.returnType = some .long) (hd : decode c.code pc = .ok (.lreturn, 1)) {fs : List Frame}
    (hl : ∀ (f : JFrame) (acts : List Action), f.method = m → f.locked = none → f.entered = [] → (doReturn e (T.setTop f) acts (some (.long z))).1 = T.setFrames fs) : Steps p.tables e below (T.setTop (mkF m pc Ls (.long z :: rest))) (T.setFrames fs) :=
  retOut X hx hret rfl (Or.inr (Or.inl ⟨rfl, rfl, _, rfl⟩)) hd hl
/-- an array of n places of one of the int kinds: place i holds f i -/
def ArI (Z : State) (h : Heap) (a : Addr) (ty : FieldType) (n : Nat) (f : Nat → Int32) : Prop := ∃ c : Cell, Arr Z h a c ty ∧ c.slots.size = n ∧ ∀ i, i < n → c.slots[i]? = some (.int (f i))
def own_upd (f : Nat → Int32) (i : Nat) (x : Int32) : Nat → Int32 := fun k => if k = i then x else f k
theorem ArI.lt {ty : FieldType} {n : Nat} {f : Nat → Int32} (A : ArI Z h a ty n f) : a < h.size := by obtain ⟨c, A, -⟩ := A; exact A.lt
theorem ArI.ext {ty : FieldType} {n : Nat} {f : Nat → Int32} (A : ArI Z h a ty n f) (E : Ext h h') : ArI Z h' a ty n f := by obtain ⟨c, A, r⟩ := A; exact ⟨c, A.ext E, r⟩
theorem ArI.other {ty : FieldType} {n : Nat} {f : Nat → Int32} {sl : Nat} {v : Value} (A : ArI Z h b ty n f) (W : Wr h h' a sl v) (q : b ≠ a) : ArI Z h' b ty n f := by obtain ⟨c, A, r⟩ := A; exact ⟨c, A.other W q, r⟩
theorem ArI.keep {ty : FieldType} {n : Nat} {f : Nat → Int32} {ws : List Addr} (A : ArI Z h a ty n f) (K : Keep h h' ws) (q : a ∉ ws) : ArI Z h' a ty n f := by obtain ⟨c, A, r⟩ := A; exact ⟨c, ⟨K.2.1 a c A.1 q, A.2⟩, r⟩
theorem ArI.new {ty : FieldType} {k : ClassId} {z : Int32} {n : Nat} (hd : defaultValue ty = .int 0) (A : Arr Z h a (newA k ty z) ty) (hn : z.toNatClampNeg = n) : ArI Z h a ty n (fun _ => 0) :=
  ⟨_, A, by rw [sz_new, hn], fun i hi => by rw [newA]; simp [hn, hi, hd]⟩
theorem ArI.set {ty : FieldType} {n i : Nat} {f : Nat → Int32} {cl : Cell} {x : Int32} (A : Arr Z h a cl ty) (S : cl.slots.size = n) (H : ∀ i, i < n → cl.slots[i]? = some (.int (f i))) (W : Wr h h' a i (.int x)) : ArI Z h' a ty n (own_upd f i x) :=
  ⟨cl.setSlot i (.int x), A.same W, by rw [sz_set]; exact S, fun k hk => by
    by_cases q : k = i
    · subst q; simp [Cell.setSlot, own_upd, Array.getElem?_setIfInBounds, S, hk]
    · simp only [Cell.setSlot, own_upd, Array.getElem?_setIfInBounds, if_neg (Ne.symm q), if_neg q]; exact H k hk⟩
theorem own_in {cl : Cell} {j : Int32} {i n : Nat} (S : cl.slots.size = n) (hj : ¬ j < 0 ∧ j.toNatClampNeg = i) (hi : i < n) : ¬ (j < 0 ∨ cl.slots.size ≤ j.toNatClampNeg) := by
  obtain ⟨j0, rfl⟩ := hj
  rw [S]; rintro (q | q)
  · exact j0 q
  · exact absurd hi (Nat.not_lt.mpr q)
theorem own_stI {n i : Nat} {f : Nat → Int32} (X : Stand p l e R s m args below meth c T locs cells slots) (hx : p.tables.exec = Jvm.exec) (hZ : Z.Warmed39 s.vm) (eT : T.heap = h) (A : ArI Z h a .int n f) {j x : Int32} (hj : ¬ j < 0 ∧ j.toNatClampNeg = i) (hi : i < n) {g : JFrame} (hg : g.method = m) {rest : List Value} (hs : g.stack = .int x :: .int j :: .ref a :: rest) (hd : decode c.code g.pc = .ok (.iastore, 1)) :
    ∃ T' h', Stand p l e R s m args below meth c T' (locs ++ [⟨a, i⟩]) cells slots ∧ T'.heap = h' ∧ Wr h h' a i (.int x) ∧ ArI Z h' a .int n (own_upd f i x) ∧ ∀ target, Steps p.tables e below (T'.setTop { g with pc := g.pc + 1, stack := rest }) target → Steps p.tables e below (T.setTop g) target := by
  obtain ⟨cl, Ar, S, H⟩ := A
  have hin := own_in S hj hi
  obtain ⟨T', h', X', e', W', st⟩ := stI X hx hZ eT Ar hin hg hs hd
  rw [hj.2] at X' W'
  exact ⟨T', h', X', e', W', ArI.set Ar S H W', st⟩
theorem own_stC {n i : Nat} {f : Nat → Int32} (X : Stand p l e R s m args below meth c T locs cells slots) (hx : p.tables.exec = Jvm.exec) (hZ : Z.Warmed39 s.vm) (eT : T.heap = h) (A : ArI Z h a .char n f) {j x : Int32} (hj : ¬ j < 0 ∧ j.toNatClampNeg = i) (hi : i < n) {g : JFrame} (hg : g.method = m) {rest : List Value} (hs : g.stack = .int x :: .int j :: .ref a :: rest) (hd : decode c.code g.pc = .ok (.castore, 1)) :
    ∃ T' h', Stand p l e R s m args below meth c T' (locs ++ [⟨a, i⟩]) cells slots ∧ T'.heap = h' ∧ Wr h h' a i (.int (nar .char x)) ∧ ArI Z h' a .char n (own_upd f i (nar .char x)) ∧ ∀ target, Steps p.tables e below (T'.setTop { g with pc := g.pc + 1, stack := rest }) target → Steps p.tables e below (T.setTop g) target := by
  obtain ⟨cl, Ar, S, H⟩ := A
  have hin := own_in S hj hi
  obtain ⟨T', h', X', e', W', st⟩ := stC X hx hZ eT Ar hin hg hs hd
  rw [hj.2] at X' W'
  exact ⟨T', h', X', e', W', ArI.set Ar S H W', st⟩
theorem own_stB {n i : Nat} {f : Nat → Int32} (X : Stand p l e R s m args below meth c T locs cells slots) (hx : p.tables.exec = Jvm.exec) (hZ : Z.Warmed39 s.vm) (eT : T.heap = h) (A : ArI Z h a .byte n f) {j x : Int32} (hj : ¬ j < 0 ∧ j.toNatClampNeg = i) (hi : i < n) {g : JFrame} (hg : g.method = m) {rest : List Value} (hs : g.stack = .int x :: .int j :: .ref a :: rest) (hd : decode c.code g.pc = .ok (.bastore, 1)) :
    ∃ T' h', Stand p l e R s m args below meth c T' (locs ++ [⟨a, i⟩]) cells slots ∧ T'.heap = h' ∧ Wr h h' a i (.int (nar .byte x)) ∧ ArI Z h' a .byte n (own_upd f i (nar .byte x)) ∧ ∀ target, Steps p.tables e below (T'.setTop { g with pc := g.pc + 1, stack := rest }) target → Steps p.tables e below (T.setTop g) target := by
  obtain ⟨cl, Ar, S, H⟩ := A
  have hin := own_in S hj hi
  obtain ⟨T', h', X', e', W', st⟩ := stB X hx hZ eT Ar hin hg hs hd
  rw [hj.2] at X' W'
  exact ⟨T', h', X', e', W', ArI.set Ar S H W', st⟩
theorem own_ldI {n i : Nat} {f : Nat → Int32} (X : Stand p l e R s m args below meth c T locs cells slots) (hx : p.tables.exec = Jvm.exec) (hZ : Z.Warmed39 s.vm) (eT : T.heap = h) (A : ArI Z h a .int n f) {j : Int32} (hj : ¬ j < 0 ∧ j.toNatClampNeg = i) (hi : i < n) {g : JFrame} (hg : g.method = m) {rest : List Value} (hs : g.stack = .int j :: .ref a :: rest) (hd : decode c.code g.pc = .ok (.iaload, 1)) (target : State)
    (k : Steps p.tables e below (T.setTop { g with pc := g.pc + 1, stack := .int (f i) :: rest }) target) : Steps p.tables e below (T.setTop g) target := by
  obtain ⟨cl, Ar, S, H⟩ := A
  exact X.iaload hx (by rw [eT]; exact Ar.1) (State.isArrayOf_alike hZ.alike Ar.2.1) Ar.2.2 (own_in S hj hi) (by rw [hj.2]; exact H i hi) hg hs hd _ k
theorem own_ldC {n i : Nat} {f : Nat → Int32} (X : Stand p l e R s m args below meth c T locs cells slots) (hx : p.tables.exec = Jvm.exec) (hZ : Z.Warmed39 s.vm) (eT : T.heap = h) (A : ArI Z h a .char n f) {j : Int32} (hj : ¬ j < 0 ∧ j.toNatClampNeg = i) (hi : i < n) {g : JFrame} (hg : g.method = m) {rest : List Value} (hs : g.stack = .int j :: .ref a :: rest) (hd : decode c.code g.pc = .ok (.caload, 1)) (target : State)
    (k : Steps p.tables e below (T.setTop { g with pc := g.pc + 1, stack := .int (f i) :: rest }) target) : Steps p.tables e below (T.setTop g) target := by
  obtain ⟨cl, Ar, S, H⟩ := A
  exact X.caload hx (by rw [eT]; exact Ar.1) (State.isArrayOf_alike hZ.alike Ar.2.1) Ar.2.2 (own_in S hj hi) (by rw [hj.2]; exact H i hi) hg hs hd _ k
theorem own_ldB {n i : Nat} {f : Nat → Int32} (X : Stand p l e R s m args below meth c T locs cells slots) (hx : p.tables.exec = Jvm.exec) (hZ : Z.Warmed39 s.vm) (eT : T.heap = h) (A : ArI Z h a .byte n f) {j : Int32} (hj : ¬ j < 0 ∧ j.toNatClampNeg = i) (hi : i < n) {g : JFrame} (hg : g.method = m) {rest : List Value} (hs : g.stack = .int j :: .ref a :: rest) (hd : decode c.code g.pc = .ok (.baload, 1)) (target : State)
    (k : Steps p.tables e below (T.setTop { g with pc := g.pc + 1, stack := .int (f i) :: rest }) target) : Steps p.tables e below (T.setTop g) target := by
  obtain ⟨cl, Ar, S, H⟩ := A
  exact X.baloadBytes hx (by rw [eT]; exact Ar.1) (State.isArrayOf_alike hZ.alike Ar.2.1) Ar.2.2 (own_in S hj hi) (by rw [hj.2]; exact H i hi) hg hs hd _ k
theorem own_len {n : Nat} {ty : FieldType} {f : Nat → Int32} (X : Stand p l e R s m args below meth c T locs cells slots) (hx : p.tables.exec = Jvm.exec) (hZ : Z.Warmed39 s.vm) (eT : T.heap = h) (A : ArI Z h a ty n f) {N : Int32} (hN : n.toInt32 = N) {g : JFrame} (hg : g.method = m) {rest : List Value} (hs : g.stack = .ref a :: rest) (hd : decode c.code g.pc = .ok (.arraylength, 1)) (target : State)
    (k : Steps p.tables e below (T.setTop { g with pc := g.pc + 1, stack := .int N :: rest }) target) : Steps p.tables e below (T.setTop g) target := by
  obtain ⟨cl, Ar, S, H⟩ := A
  exact X.arraylength hx (by rw [eT]; exact Ar.1) (State.isArrayOf_alike hZ.alike Ar.2.1) hg hs hd _ (by rw [S, hN]; exact k)
end OwnKit
theorem d1_0 : decode jdk_29_method_69_code 0 = .ok (.iload_n 0, 1) := by decide +kernel
theorem d1_1 : decode jdk_29_method_69_code 1 = .ok (.iload_n 1, 1) := by decide +kernel
theorem d1_2 : decode jdk_29_method_69_code 2 = .ok (.if_icmp .gt 7, 3) := by decide +kernel
theorem d1_5 : decode jdk_29_method_69_code 5 = .ok (.iload_n 0, 1) := by decide +kernel
theorem d1_6 : decode jdk_29_method_69_code 6 = .ok (.goto 4, 3) := by decide +kernel
theorem d1_9 : decode jdk_29_method_69_code 9 = .ok (.iload_n 1, 1) := by decide +kernel
theorem d1_10 : decode jdk_29_method_69_code 10 = .ok (.ireturn, 1) := by decide +kernel
theorem ef_1 (m : MethodId) (x0 : Int32) (x1 : Int32) : entryFrame m #[(.int x0), (.int x1)] 2 = mkF m 0 #[.val (.int x0), .val (.int x1)] [] := by first | (simp [entryFrame, mkF, argsToLocals, Value.category]; done) | rfl
abbrev R1 : Room := { frames := 0, cells := 0, slots := 0, locals := 0 }
def r1 (p1_0 : Int32) (p1_1 : Int32) : Int32 := (if p1_1 < p1_0 then p1_1 else p1_0)
def Q1 (Z : State) (p1_0 : Int32) (p1_1 : Int32) (h0 : Heap) (n0 : Nat) (v : Option Value) (h : Heap) (L : List Loc) : Prop := v = some (.int (r1 p1_0 p1_1)) ∧ Fr n0 L ∧ h = h0
set_option maxRecDepth 65536 in
set_option maxHeartbeats 40000000 in
theorem rm1 (l : Launch) (Z : State) (a0 : Array Value) (hw : ∀ d ∈ tables_1, d.before a0 Z = true) (ws : List Jvm.Cond) (p1_0 : Int32) (p1_1 : Int32) (h0 : Heap) (n0 : Nat) (Z0 : n0 ≤ h0.size) :
    MetFree l (⟨"java/lang/Math", "min", "(II)I"⟩ : MethodName) (head1 (Jvm.Cond.code (⟨"java/lang/Math", "min", "(II)I"⟩ : MethodName) jdk_29_method_69_code 2 (some .int) :: ws) R1) (fun a U => a = #[(.int p1_0), (.int p1_1)] ∧ Z.Warmed39 U.vm ∧ U.heap = h0) (fun _ _ _ _ _ => True) (fun _ U o U' => ∃ v L, o = .returned v ∧ Q1 Z p1_0 p1_1 h0 n0 v U'.heap L ∧ FrameEnd U o U' L R1.cells R1.slots) := by
  refine MetFree.of_bodySF (Jvm.Free.JP.mathPlain rfl (by decide +kernel)) hisR ?_
  intro p e s m args below meth c s₁ Bd hml0 hP hK
  obtain ⟨rfl, hZ, hh⟩ := hP
  have hx := Bd.exec
  have hby := Bd.bytes
  have hml : c.maxLocals = 2 := hml0
  have hown : s.vm.findClass "java/lang/Math" = some m.cls := findClass_of_methodNamed Bd.named
  have hnm := (name_of_methodNamed Bd.named Bd.method).1
  have X0 : Stand p l e R1 s m #[(.int p1_0), (.int p1_1)] below meth c s₁ [] 0 0 := Stand.of_body Bd
  have e0 : s₁.heap = h0 := by rw [← hh, Bd.state]; rfl
  have N0 := Fr.nil n0
  have pre0 : ∀ t, Steps p.tables e below (s₁.setTop (mkF m 0 #[.val (.int p1_0), .val (.int p1_1)] [])) t → Steps p.tables e below (s₁.setTop (entryFrame m #[(.int p1_0), (.int p1_1)] 2)) t := fun t k => castTop (ef_1 m p1_0 p1_1) k
  have pre1 : ∀ t, Steps p.tables e below (s₁.setTop (mkF m 2 #[.val (.int p1_0), .val (.int p1_1)] [(.int p1_1), (.int p1_0)])) t → Steps p.tables e below (s₁.setTop (entryFrame m #[(.int p1_0), (.int p1_1)] 2)) t := fun t k => pre0 t (by
    refine XS.iloadN X0.here hx rfl (hb hby d1_0) rfl ?_
    show Steps p.tables e below (s₁.setTop (mkF m 1 #[.val (.int p1_0), .val (.int p1_1)] [(.int p1_0)])) _
    refine XS.iloadN X0.here hx rfl (hb hby d1_1) rfl ?_
    show Steps p.tables e below (s₁.setTop (mkF m 2 #[.val (.int p1_0), .val (.int p1_1)] [(.int p1_1), (.int p1_0)])) _
    exact k)
  by_cases hc2_2 : p1_1 < p1_0
  · have pre3 : ∀ t, Steps p.tables e below (s₁.setTop (mkF m 10 #[.val (.int p1_0), .val (.int p1_1)] [(.int p1_1)])) t → Steps p.tables e below (s₁.setTop (entryFrame m #[(.int p1_0), (.int p1_1)] 2)) t := fun t k => pre1 t (by
      refine XS.icmpYes X0.here hx rfl (pc0 := 2) (pc' := 9) rfl (hb hby d1_2) rfl (tlt hc2_2).2.2.1 (by decide) (by decide) ?_
      show Steps p.tables e below (s₁.setTop (mkF m 9 #[.val (.int p1_0), .val (.int p1_1)] [])) _
      refine XS.iloadN X0.here hx rfl (hb hby d1_9) rfl ?_
      show Steps p.tables e below (s₁.setTop (mkF m 10 #[.val (.int p1_0), .val (.int p1_1)] [(.int p1_1)])) _
      exact k)
    have hret : (r1 p1_0 p1_1) = p1_1 := by unfold r1; rw [if_pos hc2_2]
    obtain ⟨fs, hr, hrun, hended, hW, hsame⟩ := X0.leave (v := some (.int p1_1)) (fun h => by rw [Bd.returns] at h; cases h) Bd.notSynchronized
    refine ⟨_, _, pre3 _ ?_, hrun, hended, _, _, rfl, ?_, ⟨_, rfl⟩, hW, hsame.mono (by decide) (by decide)⟩
    · show Steps p.tables e below (s₁.setTop (mkF m 10 #[.val (.int p1_0), .val (.int p1_1)] [(.int p1_1)])) _
      exact retI X0 hx Bd.returns (hb hby d1_10) hr
    · show Q1 Z p1_0 p1_1 h0 n0 _ s₁.heap _
      rw [e0]
      exact ⟨(by rw [hret]), N0, rfl⟩
  · have pre4 : ∀ t, Steps p.tables e below (s₁.setTop (mkF m 10 #[.val (.int p1_0), .val (.int p1_1)] [(.int p1_0)])) t → Steps p.tables e below (s₁.setTop (entryFrame m #[(.int p1_0), (.int p1_1)] 2)) t := fun t k => pre1 t (by
      refine XS.icmpNo X0.here hx rfl (hb hby d1_2) rfl (flt hc2_2).2.2.1 ?_
      show Steps p.tables e below (s₁.setTop (mkF m 5 #[.val (.int p1_0), .val (.int p1_1)] [])) _
      refine XS.iloadN X0.here hx rfl (hb hby d1_5) rfl ?_
      show Steps p.tables e below (s₁.setTop (mkF m 6 #[.val (.int p1_0), .val (.int p1_1)] [(.int p1_0)])) _
      refine XS.goto X0.here hx rfl (pc0 := 6) (pc' := 10) rfl (hb hby d1_6) (by decide) (by decide) ?_
      show Steps p.tables e below (s₁.setTop (mkF m 10 #[.val (.int p1_0), .val (.int p1_1)] [(.int p1_0)])) _
      exact k)
    have hret : (r1 p1_0 p1_1) = p1_0 := by unfold r1; rw [if_neg hc2_2]
    obtain ⟨fs, hr, hrun, hended, hW, hsame⟩ := X0.leave (v := some (.int p1_0)) (fun h => by rw [Bd.returns] at h; cases h) Bd.notSynchronized
    refine ⟨_, _, pre4 _ ?_, hrun, hended, _, _, rfl, ?_, ⟨_, rfl⟩, hW, hsame.mono (by decide) (by decide)⟩
    · show Steps p.tables e below (s₁.setTop (mkF m 10 #[.val (.int p1_0), .val (.int p1_1)] [(.int p1_0)])) _
      exact retI X0 hx Bd.returns (hb hby d1_10) hr
    · show Q1 Z p1_0 p1_1 h0 n0 _ s₁.heap _
      rw [e0]
      exact ⟨(by rw [hret]), N0, rfl⟩
abbrev R2 : Room := { frames := 0, cells := 0, slots := 0, locals := 0 }
def own_ch (v : Int32) : Int32 := nar .char (((48 : Int32) + (v % (10 : Int32))).toUInt32.toUInt16.toUInt32.toInt32)
theorem d2_8 : decode prog_1_method_5_code 8 = .ok (.iload 5, 2) := by decide +kernel
theorem d2_10 : decode prog_1_method_5_code 10 = .ok (.iload_n 1, 1) := by decide +kernel
theorem d2_11 : decode prog_1_method_5_code 11 = .ok (.if_icmp .lt 29, 3) := by decide +kernel
theorem d2_14 : decode prog_1_method_5_code 14 = .ok (.aload_n 0, 1) := by decide +kernel
theorem d2_15 : decode prog_1_method_5_code 15 = .ok (.iload 5, 2) := by decide +kernel
theorem d2_17 : decode prog_1_method_5_code 17 = .ok (.bipush 48, 2) := by decide +kernel
theorem d2_19 : decode prog_1_method_5_code 19 = .ok (.iload 4, 2) := by decide +kernel
theorem d2_21 : decode prog_1_method_5_code 21 = .ok (.bipush 10, 2) := by decide +kernel
theorem d2_23 : decode prog_1_method_5_code 23 = .ok (.irem, 1) := by decide +kernel
theorem d2_24 : decode prog_1_method_5_code 24 = .ok (.iadd, 1) := by decide +kernel
theorem d2_25 : decode prog_1_method_5_code 25 = .ok (.i2c, 1) := by decide +kernel
theorem d2_26 : decode prog_1_method_5_code 26 = .ok (.castore, 1) := by decide +kernel
theorem d2_27 : decode prog_1_method_5_code 27 = .ok (.iload 4, 2) := by decide +kernel
theorem d2_29 : decode prog_1_method_5_code 29 = .ok (.bipush 10, 2) := by decide +kernel
theorem d2_31 : decode prog_1_method_5_code 31 = .ok (.idiv, 1) := by decide +kernel
theorem d2_32 : decode prog_1_method_5_code 32 = .ok (.istore 4, 2) := by decide +kernel
theorem d2_34 : decode prog_1_method_5_code 34 = .ok (.iinc 5 (-1), 3) := by decide +kernel
theorem d2_37 : decode prog_1_method_5_code 37 = .ok (.goto (-29), 3) := by decide +kernel
def vwr_26 (pv : Int32) : Int32 := ((((48 : Int32) + (pv % (10 : Int32)))).toUInt32.toUInt16.toUInt32.toInt32)
def vwr_32 (pv : Int32) : Int32 := (pv / (10 : Int32))
set_option maxRecDepth 65536 in
set_option maxHeartbeats 40000000 in
theorem tn_turn {p : Program} {l : Launch} {e : Env} {s : State} {m : MethodId} {args : Array Value} {below : List Frame} {meth : Method} {c : Code} {T0 : State} {locs : List Loc} {Z : State} {a0 : Array Value} {h0 : Heap} {n0 : Nat} (ar : Addr) (pf : Int32) (pt : Int32) (pn : Int32) (pv : Int32) (pi : Int32) (ki : Nat) (nn : Nat) (ff : Nat → Int32)
    (X0 : Stand p l e R2 s m args below meth c T0 locs 0 0) (hx : p.tables.exec = Jvm.exec) (hZ : Z.Warmed39 s.vm) (hw : ∀ d ∈ tables_1, d.before a0 Z = true) (hby : c.code = prog_1_method_5_code) (hml : c.maxLocals = 6) (hown : s.vm.findClass "com/example/chronofield/chronofield/AsciiDigits" = some m.cls) (e0 : T0.heap = h0) (N0 : Fr n0 locs) (Z0 : n0 ≤ h0.size) (g_ar : n0 ≤ ar) (hA : ArI Z h0 ar .char nn ff) (hge : ¬ pi < pf) (hix : ¬ pi < 0 ∧ pi.toNatClampNeg = ki) (hil : ki < nn) :
    ∃ (T' : State) (L' : List Loc) (h' : Heap), Stand p l e R2 s m args below meth c T' L' 0 0 ∧ T'.heap = h' ∧ Fr n0 L' ∧ n0 ≤ h'.size ∧ Keep h0 h' [ar] ∧ ArI Z h' ar .char nn (own_upd ff ki (own_ch pv)) ∧ ∀ t, Steps p.tables e below (T'.setTop (mkF m 8 #[.val (.ref ar), .val (.int pf), .val (.int pt), .val (.int pn), .val (.int (vwr_32 pv)), .val (.int (pi + (-1 : Int32)))] [])) t → Steps p.tables e below (T0.setTop (mkF m 8 #[.val (.ref ar), .val (.int pf), .val (.int pt), .val (.int pn), .val (.int pv), .val (.int pi)] [])) t := by
  have pre0 : ∀ t, Steps p.tables e below (T0.setTop (mkF m 8 #[.val (.ref ar), .val (.int pf), .val (.int pt), .val (.int pn), .val (.int pv), .val (.int pi)] [])) t → Steps p.tables e below (T0.setTop (mkF m 8 #[.val (.ref ar), .val (.int pf), .val (.int pt), .val (.int pn), .val (.int pv), .val (.int pi)] [])) t := fun t k => k
  have pre2 : ∀ t, Steps p.tables e below (T0.setTop (mkF m 26 #[.val (.ref ar), .val (.int pf), .val (.int pt), .val (.int pn), .val (.int pv), .val (.int pi)] [(.int ((((48 : Int32) + (pv % (10 : Int32)))).toUInt32.toUInt16.toUInt32.toInt32)), (.int pi), (.ref ar)])) t → Steps p.tables e below (T0.setTop (mkF m 8 #[.val (.ref ar), .val (.int pf), .val (.int pt), .val (.int pn), .val (.int pv), .val (.int pi)] [])) t := fun t k => pre0 t (by
    refine XS.iload X0.here hx rfl (hb hby d2_8) rfl ?_
    show Steps p.tables e below (T0.setTop (mkF m 10 #[.val (.ref ar), .val (.int pf), .val (.int pt), .val (.int pn), .val (.int pv), .val (.int pi)] [(.int pi)])) _
    refine XS.iloadN X0.here hx rfl (hb hby d2_10) rfl ?_
    show Steps p.tables e below (T0.setTop (mkF m 11 #[.val (.ref ar), .val (.int pf), .val (.int pt), .val (.int pn), .val (.int pv), .val (.int pi)] [(.int pf), (.int pi)])) _
    refine XS.icmpNo X0.here hx rfl (hb hby d2_11) rfl (flt (show ¬ (pi < pf) from hge)).1 ?_
    show Steps p.tables e below (T0.setTop (mkF m 14 #[.val (.ref ar), .val (.int pf), .val (.int pt), .val (.int pn), .val (.int pv), .val (.int pi)] [])) _
    refine XS.aloadN X0.here hx rfl (hb hby d2_14) rfl rfl ?_
    show Steps p.tables e below (T0.setTop (mkF m 15 #[.val (.ref ar), .val (.int pf), .val (.int pt), .val (.int pn), .val (.int pv), .val (.int pi)] [(.ref ar)])) _
    refine XS.iload X0.here hx rfl (hb hby d2_15) rfl ?_
    show Steps p.tables e below (T0.setTop (mkF m 17 #[.val (.ref ar), .val (.int pf), .val (.int pt), .val (.int pn), .val (.int pv), .val (.int pi)] [(.int pi), (.ref ar)])) _
    refine XS.bipush X0.here hx rfl (hb hby d2_17) ?_
    show Steps p.tables e below (T0.setTop (mkF m 19 #[.val (.ref ar), .val (.int pf), .val (.int pt), .val (.int pn), .val (.int pv), .val (.int pi)] [(.int (48 : Int32)), (.int pi), (.ref ar)])) _
    refine XS.iload X0.here hx rfl (hb hby d2_19) rfl ?_
    show Steps p.tables e below (T0.setTop (mkF m 21 #[.val (.ref ar), .val (.int pf), .val (.int pt), .val (.int pn), .val (.int pv), .val (.int pi)] [(.int pv), (.int (48 : Int32)), (.int pi), (.ref ar)])) _
    refine XS.bipush X0.here hx rfl (hb hby d2_21) ?_
    show Steps p.tables e below (T0.setTop (mkF m 23 #[.val (.ref ar), .val (.int pf), .val (.int pt), .val (.int pn), .val (.int pv), .val (.int pi)] [(.int (10 : Int32)), (.int pv), (.int (48 : Int32)), (.int pi), (.ref ar)])) _
    refine iremM (g := (mkF m 23 #[.val (.ref ar), .val (.int pf), .val (.int pt), .val (.int pn), .val (.int pv), .val (.int pi)] [(.int (10 : Int32)), (.int pv), (.int (48 : Int32)), (.int pi), (.ref ar)])) X0 hx rfl (hb hby d2_23) rfl (by decide) ?_
    show Steps p.tables e below (T0.setTop (mkF m 24 #[.val (.ref ar), .val (.int pf), .val (.int pt), .val (.int pn), .val (.int pv), .val (.int pi)] [(.int (pv % (10 : Int32))), (.int (48 : Int32)), (.int pi), (.ref ar)])) _
    refine XS.iadd X0.here hx rfl (hb hby d2_24) rfl ?_
    show Steps p.tables e below (T0.setTop (mkF m 25 #[.val (.ref ar), .val (.int pf), .val (.int pt), .val (.int pn), .val (.int pv), .val (.int pi)] [(.int ((48 : Int32) + (pv % (10 : Int32)))), (.int pi), (.ref ar)])) _
    refine XS.i2c X0.here hx rfl (hb hby d2_25) rfl ?_
    show Steps p.tables e below (T0.setTop (mkF m 26 #[.val (.ref ar), .val (.int pf), .val (.int pt), .val (.int pn), .val (.int pv), .val (.int pi)] [(.int ((((48 : Int32) + (pv % (10 : Int32)))).toUInt32.toUInt16.toUInt32.toInt32)), (.int pi), (.ref ar)])) _
    exact k)
  obtain ⟨T3, h3, X3, e3, W3, B3, st3⟩ := own_stC X0 hx hZ e0 hA (j := pi) (i := ki) hix (by exact hil) (g := (mkF m 26 #[.val (.ref ar), .val (.int pf), .val (.int pt), .val (.int pn), .val (.int pv), .val (.int pi)] [(.int (vwr_26 pv)), (.int pi), (.ref ar)])) rfl rfl (hb hby d2_26)
  have N3 := Fr.snoc X3 N0 g_ar
  have Z3 : n0 ≤ h3.size := Nat.le_trans Z0 (Keep.of_wr W3).1
  have K3 : Keep h0 h3 [ar] := (Keep.refl h0 [ar]).wr W3 (Or.inl (by simp))
  have C3 : ArI Z h3 ar .char nn (own_upd ff ki (own_ch pv)) := B3
  have pre3 : ∀ t, Steps p.tables e below (T3.setTop (mkF m 27 #[.val (.ref ar), .val (.int pf), .val (.int pt), .val (.int pn), .val (.int pv), .val (.int pi)] [])) t → Steps p.tables e below (T0.setTop (mkF m 8 #[.val (.ref ar), .val (.int pf), .val (.int pt), .val (.int pn), .val (.int pv), .val (.int pi)] [])) t := fun t k => pre2 t (st3 t k)
  have pre4 : ∀ t, Steps p.tables e below (T3.setTop (mkF m 8 #[.val (.ref ar), .val (.int pf), .val (.int pt), .val (.int pn), .val (.int (vwr_32 pv)), .val (.int (pi + (-1 : Int32)))] [])) t → Steps p.tables e below (T0.setTop (mkF m 8 #[.val (.ref ar), .val (.int pf), .val (.int pt), .val (.int pn), .val (.int pv), .val (.int pi)] [])) t := fun t k => pre3 t (by
    refine XS.iload X3.here hx rfl (hb hby d2_27) rfl ?_
    show Steps p.tables e below (T3.setTop (mkF m 29 #[.val (.ref ar), .val (.int pf), .val (.int pt), .val (.int pn), .val (.int pv), .val (.int pi)] [(.int pv)])) _
    refine XS.bipush X3.here hx rfl (hb hby d2_29) ?_
    show Steps p.tables e below (T3.setTop (mkF m 31 #[.val (.ref ar), .val (.int pf), .val (.int pt), .val (.int pn), .val (.int pv), .val (.int pi)] [(.int (10 : Int32)), (.int pv)])) _
    refine XS.idiv X3.here hx rfl (hb hby d2_31) rfl (by decide) ?_
    show Steps p.tables e below (T3.setTop (mkF m 32 #[.val (.ref ar), .val (.int pf), .val (.int pt), .val (.int pn), .val (.int pv), .val (.int pi)] [(.int (pv / (10 : Int32)))])) _
    show Steps p.tables e below (T3.setTop (mkF m 32 #[.val (.ref ar), .val (.int pf), .val (.int pt), .val (.int pn), .val (.int pv), .val (.int pi)] [(.int (vwr_32 pv))])) _
    refine XS.istore X3.here hx rfl (hb hby d2_32) rfl (l' := #[.val (.ref ar), .val (.int pf), .val (.int pt), .val (.int pn), .val (.int (vwr_32 pv)), .val (.int pi)]) rfl ?_
    show Steps p.tables e below (T3.setTop (mkF m 34 #[.val (.ref ar), .val (.int pf), .val (.int pt), .val (.int pn), .val (.int (vwr_32 pv)), .val (.int pi)] [])) _
    refine XS.iinc X3.here hx rfl (hb hby d2_34) rfl (l' := #[.val (.ref ar), .val (.int pf), .val (.int pt), .val (.int pn), .val (.int (vwr_32 pv)), .val (.int (pi + (-1 : Int32)))]) rfl ?_
    show Steps p.tables e below (T3.setTop (mkF m 37 #[.val (.ref ar), .val (.int pf), .val (.int pt), .val (.int pn), .val (.int (vwr_32 pv)), .val (.int (pi + (-1 : Int32)))] [])) _
    refine XS.goto X3.here hx rfl (pc0 := 37) (pc' := 8) rfl (hb hby d2_37) (by decide) (by decide) ?_
    show Steps p.tables e below (T3.setTop (mkF m 8 #[.val (.ref ar), .val (.int pf), .val (.int pt), .val (.int pn), .val (.int (vwr_32 pv)), .val (.int (pi + (-1 : Int32)))] [])) _
    exact k)
  exact ⟨T3, _, _, X3, e3, N3, Z3, K3, C3, pre4⟩
set_option maxRecDepth 65536 in
set_option maxHeartbeats 40000000 in
theorem tn_out {p : Program} {l : Launch} {e : Env} {s : State} {m : MethodId} {args : Array Value} {below : List Frame} {meth : Method} {c : Code} {T0 : State} {locs : List Loc} {Z : State} {a0 : Array Value} {h0 : Heap} {n0 : Nat} (ar : Addr) (pf : Int32) (pt : Int32) (pn : Int32) (pv : Int32) (pi : Int32)
    (X0 : Stand p l e R2 s m args below meth c T0 locs 0 0) (hx : p.tables.exec = Jvm.exec) (hZ : Z.Warmed39 s.vm) (hw : ∀ d ∈ tables_1, d.before a0 Z = true) (hby : c.code = prog_1_method_5_code) (hml : c.maxLocals = 6) (hown : s.vm.findClass "com/example/chronofield/chronofield/AsciiDigits" = some m.cls) (e0 : T0.heap = h0) (N0 : Fr n0 locs) (Z0 : n0 ≤ h0.size) (hlt : pi < pf) :
    ∃ (T' : State) (L' : List Loc), Stand p l e R2 s m args below meth c T' L' 0 0 ∧ T'.heap = h0 ∧ Fr n0 L' ∧ ∀ t, Steps p.tables e below (T'.setTop (mkF m 40 #[.val (.ref ar), .val (.int pf), .val (.int pt), .val (.int pn), .val (.int pv), .val (.int pi)] [])) t → Steps p.tables e below (T0.setTop (mkF m 8 #[.val (.ref ar), .val (.int pf), .val (.int pt), .val (.int pn), .val (.int pv), .val (.int pi)] [])) t := by
  have pre0 : ∀ t, Steps p.tables e below (T0.setTop (mkF m 8 #[.val (.ref ar), .val (.int pf), .val (.int pt), .val (.int pn), .val (.int pv), .val (.int pi)] [])) t → Steps p.tables e below (T0.setTop (mkF m 8 #[.val (.ref ar), .val (.int pf), .val (.int pt), .val (.int pn), .val (.int pv), .val (.int pi)] [])) t := fun t k => k
  have pre2 : ∀ t, Steps p.tables e below (T0.setTop (mkF m 40 #[.val (.ref ar), .val (.int pf), .val (.int pt), .val (.int pn), .val (.int pv), .val (.int pi)] [])) t → Steps p.tables e below (T0.setTop (mkF m 8 #[.val (.ref ar), .val (.int pf), .val (.int pt), .val (.int pn), .val (.int pv), .val (.int pi)] [])) t := fun t k => pre0 t (by
    refine XS.iload X0.here hx rfl (hb hby d2_8) rfl ?_
    show Steps p.tables e below (T0.setTop (mkF m 10 #[.val (.ref ar), .val (.int pf), .val (.int pt), .val (.int pn), .val (.int pv), .val (.int pi)] [(.int pi)])) _
    refine XS.iloadN X0.here hx rfl (hb hby d2_10) rfl ?_
    show Steps p.tables e below (T0.setTop (mkF m 11 #[.val (.ref ar), .val (.int pf), .val (.int pt), .val (.int pn), .val (.int pv), .val (.int pi)] [(.int pf), (.int pi)])) _
    refine XS.icmpYes X0.here hx rfl (pc0 := 11) (pc' := 40) rfl (hb hby d2_11) rfl (tlt (show pi < pf from hlt)).1 (by decide) (by decide) ?_
    show Steps p.tables e below (T0.setTop (mkF m 40 #[.val (.ref ar), .val (.int pf), .val (.int pt), .val (.int pn), .val (.int pv), .val (.int pi)] [])) _
    exact k)
  exact ⟨T0, _, X0, e0, N0, pre2⟩
def own_wr (o : Nat) : Nat → Int32 → (Nat → Int32) → (Nat → Int32)
  | 0, _, f => f
  | k + 1, v, f => own_wr o k (v / (10 : Int32)) (own_upd f (o + k) (own_ch v))
theorem own_minus (pi : Int32) (z : Int) (h : pi.toInt = z) (h1 : -2147483648 < z) : (pi + (-1 : Int32)).toInt = z - 1 := by
  have b := pi.toInt_lt
  have o : (-1 : Int32).toInt = -1 := rfl
  rw [Jvm.Kit.i32_add (by rw [o]; omega) (by rw [o]; omega), o, h]; omega
set_option maxRecDepth 65536 in
set_option maxHeartbeats 4000000 in
theorem loop_wr {p : Program} {l : Launch} {e : Env} {s : State} {m : MethodId} {args : Array Value} {below : List Frame} {meth : Method} {c : Code} {Z : State} {a0 : Array Value} {n0 : Nat} (hx : p.tables.exec = Jvm.exec) (hZ : Z.Warmed39 s.vm) (hw : ∀ d ∈ tables_1, d.before a0 Z = true) (hby : c.code = prog_1_method_5_code) (hml : c.maxLocals = 6) (hown : s.vm.findClass "com/example/chronofield/chronofield/AsciiDigits" = some m.cls)
    (ar : Addr) (pf pt pn : Int32) (oo nn : Nat) (hof : pf = Int32.ofNat oo) (hnn : nn < 2147483647) (g_ar : n0 ≤ ar) :
    ∀ (k : Nat) (pv pi : Int32) (ff : Nat → Int32) {T0 : State} {locs : List Loc} {h0 : Heap}, pi.toInt = (oo : Int) + (k : Int) - 1 → oo + k ≤ nn → Stand p l e R2 s m args below meth c T0 locs 0 0 → T0.heap = h0 → Fr n0 locs → n0 ≤ h0.size → ArI Z h0 ar .char nn ff →
      ∃ (T' : State) (L' : List Loc) (h' : Heap) (pv' pi' : Int32), Stand p l e R2 s m args below meth c T' L' 0 0 ∧ T'.heap = h' ∧ Fr n0 L' ∧ n0 ≤ h'.size ∧ Keep h0 h' [ar] ∧ ArI Z h' ar .char nn (own_wr oo k pv ff) ∧
        ∀ t, Steps p.tables e below (T'.setTop (mkF m 40 #[.val (.ref ar), .val (.int pf), .val (.int pt), .val (.int pn), .val (.int pv'), .val (.int pi')] [])) t → Steps p.tables e below (T0.setTop (mkF m 8 #[.val (.ref ar), .val (.int pf), .val (.int pt), .val (.int pn), .val (.int pv), .val (.int pi)] [])) t := by
  have hf : ∀ k, oo + k ≤ nn → pf.toInt = (oo : Int) := fun k hk => by rw [hof, Int32.toInt_ofNat_of_lt (by omega)]
  intro k
  induction k with
  | zero =>
    intro pv pi ff T0 locs h0 hpi hok X0 e0 N0 Z0 hA
    obtain ⟨T1, L1, X1, e1, N1, st1⟩ := tn_out ar pf pt pn pv pi X0 hx hZ hw hby hml hown e0 N0 Z0 (by rw [Int32.lt_iff_toInt_lt, hpi, hf 0 hok]; omega)
    exact ⟨T1, L1, h0, pv, pi, X1, e1, N1, Z0, Keep.refl _ _, hA, st1⟩
  | succ k ih =>
    intro pv pi ff T0 locs h0 hpi hok X0 e0 N0 Z0 hA
    have hix : ¬ pi < 0 ∧ pi.toNatClampNeg = (oo + k) := by
      refine ⟨?_, ?_⟩
      · rw [Int32.lt_iff_toInt_lt, show (0 : Int32).toInt = 0 from rfl]; omega
      · show pi.toInt.toNat = oo + k; omega
    obtain ⟨T1, L1, h1, X1, e1, N1, Z1, K1, A1, st1⟩ := tn_turn ar pf pt pn pv pi (oo + k) nn ff X0 hx hZ hw hby hml hown e0 N0 Z0 g_ar hA (by rw [Int32.lt_iff_toInt_lt, hpi, hf (k + 1) hok]; omega) hix (by omega)
    obtain ⟨T2, L2, h2, pv2, pi2, X2, e2, N2, Z2, K2, A2, st2⟩ := ih (pv / (10 : Int32)) (pi + (-1 : Int32)) _ (by rw [own_minus pi _ hpi (by omega)]; omega) (by omega) X1 e1 N1 Z1 A1
    exact ⟨T2, L2, h2, pv2, pi2, X2, e2, N2, Z2, K1.trans K2 (fun x q => Or.inl q), A2, fun t k => st1 t (st2 t k)⟩

theorem pn_0 : plainName "com/example/chronofield/chronofield/AsciiDigits" = true := by first | (simp [plainName, overriddenIn]; done) | decide +kernel
theorem d2_0 : decode prog_1_method_5_code 0 = .ok (.iload_n 3, 1) := by decide +kernel
theorem d2_1 : decode prog_1_method_5_code 1 = .ok (.istore 4, 2) := by decide +kernel
theorem d2_3 : decode prog_1_method_5_code 3 = .ok (.iload_n 2, 1) := by decide +kernel
theorem d2_4 : decode prog_1_method_5_code 4 = .ok (.iconst 1, 1) := by decide +kernel
theorem d2_5 : decode prog_1_method_5_code 5 = .ok (.isub, 1) := by decide +kernel
theorem d2_6 : decode prog_1_method_5_code 6 = .ok (.istore 5, 2) := by decide +kernel
theorem d2_40 : decode prog_1_method_5_code 40 = .ok (.return_, 1) := by decide +kernel
theorem ef_2 (m : MethodId) (x0 : Addr) (x1 : Int32) (x2 : Int32) (x3 : Int32) : entryFrame m #[(.ref x0), (.int x1), (.int x2), (.int x3)] 6 = mkF m 0 #[.val (.ref x0), .val (.int x1), .val (.int x2), .val (.int x3), .unset, .unset] [] := by first | (simp [entryFrame, mkF, argsToLocals, Value.category]; done) | rfl
def Q2 (Z : State) (ar : Addr) (pf : Int32) (pt : Int32) (pn : Int32) (oo : Nat) (kk : Nat) (nn : Nat) (ff : Nat → Int32) (h0 : Heap) (n0 : Nat) (v : Option Value) (h : Heap) (L : List Loc) : Prop := v = none ∧ Fr n0 L ∧ Keep h0 h [ar] ∧ ArI Z h ar .char nn (own_wr oo kk pn ff)
set_option maxRecDepth 65536 in
set_option maxHeartbeats 40000000 in
theorem rm2 (l : Launch) (Z : State) (a0 : Array Value) (hw : ∀ d ∈ tables_1, d.before a0 Z = true) (ws : List Jvm.Cond) (ar : Addr) (pf : Int32) (pt : Int32) (pn : Int32) (oo : Nat) (kk : Nat) (nn : Nat) (ff : Nat → Int32) (h0 : Heap) (n0 : Nat) (Z0 : n0 ≤ h0.size) (hof : pf = Int32.ofNat oo) (hpi : (pt - (1 : Int32)).toInt = (oo : Int) + (kk : Int) - 1) (hok : oo + kk ≤ nn) (hnn : nn < 2147483647) (g_ar : n0 ≤ ar) (hA : ArI Z h0 ar .char nn ff) :
    MetFree l (⟨"com/example/chronofield/chronofield/AsciiDigits", "write", "([CIII)V"⟩ : MethodName) (head1 (Jvm.Cond.code (⟨"com/example/chronofield/chronofield/AsciiDigits", "write", "([CIII)V"⟩ : MethodName) prog_1_method_5_code 6 none :: ws) R2) (fun a U => a = #[(.ref ar), (.int pf), (.int pt), (.int pn)] ∧ Z.Warmed39 U.vm ∧ U.heap = h0) (fun _ _ _ _ _ => True) (fun _ U o U' => ∃ v L, o = .returned v ∧ Q2 Z ar pf pt pn oo kk nn ff h0 n0 v U'.heap L ∧ FrameEnd U o U' L R2.cells R2.slots) := by
  refine MetFree.of_bodySF (plainFor_of_name pn_0) hisR ?_
  intro p e s m args below meth c s₁ Bd hml0 hP hK
  obtain ⟨rfl, hZ, hh⟩ := hP
  have hx := Bd.exec
  have hby := Bd.bytes
  have hml : c.maxLocals = 6 := hml0
  have hown : s.vm.findClass "com/example/chronofield/chronofield/AsciiDigits" = some m.cls := findClass_of_methodNamed Bd.named
  have hnm := (name_of_methodNamed Bd.named Bd.method).1
  have X0 : Stand p l e R2 s m #[(.ref ar), (.int pf), (.int pt), (.int pn)] below meth c s₁ [] 0 0 := Stand.of_body Bd
  have e0 : s₁.heap = h0 := by rw [← hh, Bd.state]; rfl
  have N0 := Fr.nil n0
  have pre0 : ∀ t, Steps p.tables e below (s₁.setTop (mkF m 0 #[.val (.ref ar), .val (.int pf), .val (.int pt), .val (.int pn), .unset, .unset] [])) t → Steps p.tables e below (s₁.setTop (entryFrame m #[(.ref ar), (.int pf), (.int pt), (.int pn)] 6)) t := fun t k => castTop (ef_2 m ar pf pt pn) k
  have pre1 : ∀ t, Steps p.tables e below (s₁.setTop (mkF m 8 #[.val (.ref ar), .val (.int pf), .val (.int pt), .val (.int pn), .val (.int pn), .val (.int (pt - (1 : Int32)))] [])) t → Steps p.tables e below (s₁.setTop (entryFrame m #[(.ref ar), (.int pf), (.int pt), (.int pn)] 6)) t := fun t k => pre0 t (by
    refine XS.iloadN X0.here hx rfl (hb hby d2_0) rfl ?_
    show Steps p.tables e below (s₁.setTop (mkF m 1 #[.val (.ref ar), .val (.int pf), .val (.int pt), .val (.int pn), .unset, .unset] [(.int pn)])) _
    refine XS.istore X0.here hx rfl (hb hby d2_1) rfl (l' := #[.val (.ref ar), .val (.int pf), .val (.int pt), .val (.int pn), .val (.int pn), .unset]) rfl ?_
    show Steps p.tables e below (s₁.setTop (mkF m 3 #[.val (.ref ar), .val (.int pf), .val (.int pt), .val (.int pn), .val (.int pn), .unset] [])) _
    refine XS.iloadN X0.here hx rfl (hb hby d2_3) rfl ?_
    show Steps p.tables e below (s₁.setTop (mkF m 4 #[.val (.ref ar), .val (.int pf), .val (.int pt), .val (.int pn), .val (.int pn), .unset] [(.int pt)])) _
    refine XS.iconst X0.here hx rfl (hb hby d2_4) ?_
    show Steps p.tables e below (s₁.setTop (mkF m 5 #[.val (.ref ar), .val (.int pf), .val (.int pt), .val (.int pn), .val (.int pn), .unset] [(.int (1 : Int32)), (.int pt)])) _
    refine XS.isub X0.here hx rfl (hb hby d2_5) rfl ?_
    show Steps p.tables e below (s₁.setTop (mkF m 6 #[.val (.ref ar), .val (.int pf), .val (.int pt), .val (.int pn), .val (.int pn), .unset] [(.int (pt - (1 : Int32)))])) _
    show Steps p.tables e below (s₁.setTop (mkF m 6 #[.val (.ref ar), .val (.int pf), .val (.int pt), .val (.int pn), .val (.int pn), .unset] [(.int (pt - (1 : Int32)))])) _
    refine XS.istore X0.here hx rfl (hb hby d2_6) rfl (l' := #[.val (.ref ar), .val (.int pf), .val (.int pt), .val (.int pn), .val (.int pn), .val (.int (pt - (1 : Int32)))]) rfl ?_
    show Steps p.tables e below (s₁.setTop (mkF m 8 #[.val (.ref ar), .val (.int pf), .val (.int pt), .val (.int pn), .val (.int pn), .val (.int (pt - (1 : Int32)))] [])) _
    exact k)
  obtain ⟨T2, L2, h2, pv, pi, X2, e2, N2, Z2, K2, A2, st2⟩ := loop_wr (T0 := s₁) hx hZ hw hby hml hown ar pf pt pn oo nn hof hnn g_ar kk pn ((pt - (1 : Int32))) ff hpi hok X0 e0 N0 Z0 hA
  have pre2 : ∀ t, Steps p.tables e below (T2.setTop (mkF m 40 #[.val (.ref ar), .val (.int pf), .val (.int pt), .val (.int pn), .val (.int pv), .val (.int pi)] [])) t → Steps p.tables e below (s₁.setTop (entryFrame m #[(.ref ar), (.int pf), (.int pt), (.int pn)] 6)) t := fun t k => pre1 t (st2 t k)
  obtain ⟨fs, hr, hrun, hended, hW, hsame⟩ := X2.leave (v := none) (fun _ => rfl) Bd.notSynchronized
  refine ⟨_, _, pre2 _ ?_, hrun, hended, _, _, rfl, ?_, ⟨_, rfl⟩, hW, hsame.mono (by decide) (by decide)⟩
  · show Steps p.tables e below (T2.setTop (mkF m 40 #[.val (.ref ar), .val (.int pf), .val (.int pt), .val (.int pn), .val (.int pv), .val (.int pi)] [])) _
    exact X2.returnOut hx Bd.returns (hb hby d2_40) hr
  · show Q2 Z ar pf pt pn oo kk nn ff h0 n0 _ T2.heap _
    rw [e2]
    exact ⟨rfl, N2, K2, A2⟩
theorem pn_1 : plainName "com/example/chronofield/chronofield/AsciiDigitsWritePinLaw" = true := by first | (simp [plainName, overriddenIn]; done) | decide +kernel
theorem d3_0 : decode method_3_code 0 = .ok (.iload_n 1, 1) := by decide +kernel
theorem d3_1 : decode method_3_code 1 = .ok (.iload_n 2, 1) := by decide +kernel
theorem d3_2 : decode method_3_code 2 = .ok (.if_icmp .lt 8, 3) := by decide +kernel
theorem d3_5 : decode method_3_code 5 = .ok (.iload_n 1, 1) := by decide +kernel
theorem d3_6 : decode method_3_code 6 = .ok (.iload_n 3, 1) := by decide +kernel
theorem d3_7 : decode method_3_code 7 = .ok (.if_icmp .lt 17, 3) := by decide +kernel
theorem d3_10 : decode method_3_code 10 = .ok (.aload_n 0, 1) := by decide +kernel
theorem d3_11 : decode method_3_code 11 = .ok (.iload_n 1, 1) := by decide +kernel
theorem d3_12 : decode method_3_code 12 = .ok (.caload, 1) := by decide +kernel
theorem d3_13 : decode method_3_code 13 = .ok (.iload 5, 2) := by decide +kernel
theorem d3_15 : decode method_3_code 15 = .ok (.if_icmp .ne 7, 3) := by decide +kernel
theorem d3_18 : decode method_3_code 18 = .ok (.iconst 1, 1) := by decide +kernel
theorem d3_19 : decode method_3_code 19 = .ok (.goto 4, 3) := by decide +kernel
theorem d3_22 : decode method_3_code 22 = .ok (.iconst 0, 1) := by decide +kernel
theorem d3_23 : decode method_3_code 23 = .ok (.ireturn, 1) := by decide +kernel
theorem d3_24 : decode method_3_code 24 = .ok (.iload 4, 2) := by decide +kernel
theorem d3_26 : decode method_3_code 26 = .ok (.aload 6, 2) := by decide +kernel
theorem d3_28 : decode method_3_code 28 = .ok (.iload_n 3, 1) := by decide +kernel
theorem d3_29 : decode method_3_code 29 = .ok (.iconst 1, 1) := by decide +kernel
theorem d3_30 : decode method_3_code 30 = .ok (.isub, 1) := by decide +kernel
theorem d3_31 : decode method_3_code 31 = .ok (.iload_n 1, 1) := by decide +kernel
theorem d3_32 : decode method_3_code 32 = .ok (.isub, 1) := by decide +kernel
theorem d3_33 : decode method_3_code 33 = .ok (.iaload, 1) := by decide +kernel
theorem d3_34 : decode method_3_code 34 = .ok (.idiv, 1) := by decide +kernel
theorem d3_35 : decode method_3_code 35 = .ok (.bipush 10, 2) := by decide +kernel
theorem d3_37 : decode method_3_code 37 = .ok (.irem, 1) := by decide +kernel
theorem d3_38 : decode method_3_code 38 = .ok (.istore 7, 2) := by decide +kernel
theorem d3_40 : decode method_3_code 40 = .ok (.aload_n 0, 1) := by decide +kernel
theorem d3_41 : decode method_3_code 41 = .ok (.iload_n 1, 1) := by decide +kernel
theorem d3_42 : decode method_3_code 42 = .ok (.caload, 1) := by decide +kernel
theorem d3_43 : decode method_3_code 43 = .ok (.bipush 48, 2) := by decide +kernel
theorem d3_45 : decode method_3_code 45 = .ok (.iload 7, 2) := by decide +kernel
theorem d3_47 : decode method_3_code 47 = .ok (.iadd, 1) := by decide +kernel
theorem d3_48 : decode method_3_code 48 = .ok (.i2c, 1) := by decide +kernel
theorem d3_49 : decode method_3_code 49 = .ok (.if_icmp .ne 7, 3) := by decide +kernel
theorem d3_52 : decode method_3_code 52 = .ok (.iconst 1, 1) := by decide +kernel
theorem d3_53 : decode method_3_code 53 = .ok (.goto 4, 3) := by decide +kernel
theorem d3_56 : decode method_3_code 56 = .ok (.iconst 0, 1) := by decide +kernel
theorem d3_57 : decode method_3_code 57 = .ok (.ireturn, 1) := by decide +kernel
theorem ef_3 (m : MethodId) (x0 : Addr) (x1 : Int32) (x2 : Int32) (x3 : Int32) (x4 : Int32) (x5 : Int32) (x6 : Addr) : entryFrame m #[(.ref x0), (.int x1), (.int x2), (.int x3), (.int x4), (.int x5), (.ref x6)] 8 = mkF m 0 #[.val (.ref x0), .val (.int x1), .val (.int x2), .val (.int x3), .val (.int x4), .val (.int x5), .val (.ref x6), .unset] [] := by first | (simp [entryFrame, mkF, argsToLocals, Value.category]; done) | rfl
abbrev R3 : Room := { frames := 0, cells := 0, slots := 0, locals := 0 }
def v3_38 (pn : Int32) (kp : Nat) (fp : Nat → Int32) : Int32 := ((pn / (fp kp)) % (10 : Int32))
def r3 (pi : Int32) (pf : Int32) (pt : Int32) (pn : Int32) (pc : Int32) (ki : Nat) (kp : Nat) (ft : Nat → Int32) (fp : Nat → Int32) : Int32 := (if pi < pf then (if (ft ki) = pc then (1 : Int32) else (0 : Int32)) else (if pi < pt then (if (ft ki) = ((((48 : Int32) + (v3_38 pn kp fp))).toUInt32.toUInt16.toUInt32.toInt32) then (1 : Int32) else (0 : Int32)) else (if (ft ki) = pc then (1 : Int32) else (0 : Int32))))
def Q3 (Z : State) (tA : Addr) (pi : Int32) (pf : Int32) (pt : Int32) (pn : Int32) (pc : Int32) (pA : Addr) (ki : Nat) (kp : Nat) (nt : Nat) (ft : Nat → Int32) (np : Nat) (fp : Nat → Int32) (h0 : Heap) (n0 : Nat) (v : Option Value) (h : Heap) (L : List Loc) : Prop := v = some (.int (r3 pi pf pt pn pc ki kp ft fp)) ∧ Fr n0 L ∧ h = h0
set_option maxRecDepth 65536 in
set_option maxHeartbeats 40000000 in
theorem rm3 (l : Launch) (Z : State) (a0 : Array Value) (hw : ∀ d ∈ tables_1, d.before a0 Z = true) (ws : List Jvm.Cond) (tA : Addr) (pi : Int32) (pf : Int32) (pt : Int32) (pn : Int32) (pc : Int32) (pA : Addr) (ki : Nat) (kp : Nat) (nt : Nat) (ft : Nat → Int32) (np : Nat) (fp : Nat → Int32) (h0 : Heap) (n0 : Nat) (Z0 : n0 ≤ h0.size) (hi : ¬ pi < 0 ∧ pi.toNatClampNeg = ki) (hil : ki < nt) (hkp : ¬ (pi < pf) → pi < pt → (¬ ((pt - (1 : Int32)) - pi) < 0 ∧ ((pt - (1 : Int32)) - pi).toNatClampNeg = kp)) (hkl : kp < np) (hnz : (fp kp) ≠ 0) (hT : ArI Z h0 tA .char nt ft) (hP : ArI Z h0 pA .int np fp) :
    MetFree l (⟨"com/example/chronofield/chronofield/AsciiDigitsWritePinLaw", "ok", "([CIIIIC[I)Z"⟩ : MethodName) (head1 (Jvm.Cond.code (⟨"com/example/chronofield/chronofield/AsciiDigitsWritePinLaw", "ok", "([CIIIIC[I)Z"⟩ : MethodName) method_3_code 8 (some .boolean) :: ws) R3) (fun a U => a = #[(.ref tA), (.int pi), (.int pf), (.int pt), (.int pn), (.int pc), (.ref pA)] ∧ Z.Warmed39 U.vm ∧ U.heap = h0) (fun _ _ _ _ _ => True) (fun _ U o U' => ∃ v L, o = .returned v ∧ Q3 Z tA pi pf pt pn pc pA ki kp nt ft np fp h0 n0 v U'.heap L ∧ FrameEnd U o U' L R3.cells R3.slots) := by
  refine MetFree.of_bodySF (plainFor_of_name pn_1) hisR ?_
  intro p e s m args below meth c s₁ Bd hml0 hP hK
  obtain ⟨rfl, hZ, hh⟩ := hP
  have hx := Bd.exec
  have hby := Bd.bytes
  have hml : c.maxLocals = 8 := hml0
  have hown : s.vm.findClass "com/example/chronofield/chronofield/AsciiDigitsWritePinLaw" = some m.cls := findClass_of_methodNamed Bd.named
  have hnm := (name_of_methodNamed Bd.named Bd.method).1
  have X0 : Stand p l e R3 s m #[(.ref tA), (.int pi), (.int pf), (.int pt), (.int pn), (.int pc), (.ref pA)] below meth c s₁ [] 0 0 := Stand.of_body Bd
  have e0 : s₁.heap = h0 := by rw [← hh, Bd.state]; rfl
  have N0 := Fr.nil n0
  have pre0 : ∀ t, Steps p.tables e below (s₁.setTop (mkF m 0 #[.val (.ref tA), .val (.int pi), .val (.int pf), .val (.int pt), .val (.int pn), .val (.int pc), .val (.ref pA), .unset] [])) t → Steps p.tables e below (s₁.setTop (entryFrame m #[(.ref tA), (.int pi), (.int pf), (.int pt), (.int pn), (.int pc), (.ref pA)] 8)) t := fun t k => castTop (ef_3 m tA pi pf pt pn pc pA) k
  have pre1 : ∀ t, Steps p.tables e below (s₁.setTop (mkF m 2 #[.val (.ref tA), .val (.int pi), .val (.int pf), .val (.int pt), .val (.int pn), .val (.int pc), .val (.ref pA), .unset] [(.int pf), (.int pi)])) t → Steps p.tables e below (s₁.setTop (entryFrame m #[(.ref tA), (.int pi), (.int pf), (.int pt), (.int pn), (.int pc), (.ref pA)] 8)) t := fun t k => pre0 t (by
    refine XS.iloadN X0.here hx rfl (hb hby d3_0) rfl ?_
    show Steps p.tables e below (s₁.setTop (mkF m 1 #[.val (.ref tA), .val (.int pi), .val (.int pf), .val (.int pt), .val (.int pn), .val (.int pc), .val (.ref pA), .unset] [(.int pi)])) _
    refine XS.iloadN X0.here hx rfl (hb hby d3_1) rfl ?_
    show Steps p.tables e below (s₁.setTop (mkF m 2 #[.val (.ref tA), .val (.int pi), .val (.int pf), .val (.int pt), .val (.int pn), .val (.int pc), .val (.ref pA), .unset] [(.int pf), (.int pi)])) _
    exact k)
  by_cases hc2_2 : pi < pf
  · have pre3 : ∀ t, Steps p.tables e below (s₁.setTop (mkF m 15 #[.val (.ref tA), .val (.int pi), .val (.int pf), .val (.int pt), .val (.int pn), .val (.int pc), .val (.ref pA), .unset] [(.int pc), (.int (ft ki))])) t → Steps p.tables e below (s₁.setTop (entryFrame m #[(.ref tA), (.int pi), (.int pf), (.int pt), (.int pn), (.int pc), (.ref pA)] 8)) t := fun t k => pre1 t (by
      refine XS.icmpYes X0.here hx rfl (pc0 := 2) (pc' := 10) rfl (hb hby d3_2) rfl (tlt hc2_2).1 (by decide) (by decide) ?_
      show Steps p.tables e below (s₁.setTop (mkF m 10 #[.val (.ref tA), .val (.int pi), .val (.int pf), .val (.int pt), .val (.int pn), .val (.int pc), .val (.ref pA), .unset] [])) _
      refine XS.aloadN X0.here hx rfl (hb hby d3_10) rfl rfl ?_
      show Steps p.tables e below (s₁.setTop (mkF m 11 #[.val (.ref tA), .val (.int pi), .val (.int pf), .val (.int pt), .val (.int pn), .val (.int pc), .val (.ref pA), .unset] [(.ref tA)])) _
      refine XS.iloadN X0.here hx rfl (hb hby d3_11) rfl ?_
      show Steps p.tables e below (s₁.setTop (mkF m 12 #[.val (.ref tA), .val (.int pi), .val (.int pf), .val (.int pt), .val (.int pn), .val (.int pc), .val (.ref pA), .unset] [(.int pi), (.ref tA)])) _
      refine own_ldC X0 hx hZ e0 hT (j := pi) (i := ki) hi (by exact hil) (g := (mkF m 12 #[.val (.ref tA), .val (.int pi), .val (.int pf), .val (.int pt), .val (.int pn), .val (.int pc), .val (.ref pA), .unset] [(.int pi), (.ref tA)])) rfl rfl (hb hby d3_12) _ ?_
      show Steps p.tables e below (s₁.setTop (mkF m 13 #[.val (.ref tA), .val (.int pi), .val (.int pf), .val (.int pt), .val (.int pn), .val (.int pc), .val (.ref pA), .unset] [(.int (ft ki))])) _
      refine XS.iload X0.here hx rfl (hb hby d3_13) rfl ?_
      show Steps p.tables e below (s₁.setTop (mkF m 15 #[.val (.ref tA), .val (.int pi), .val (.int pf), .val (.int pt), .val (.int pn), .val (.int pc), .val (.ref pA), .unset] [(.int pc), (.int (ft ki))])) _
      exact k)
    by_cases hc15_4 : (ft ki) = pc
    · have pre5 : ∀ t, Steps p.tables e below (s₁.setTop (mkF m 23 #[.val (.ref tA), .val (.int pi), .val (.int pf), .val (.int pt), .val (.int pn), .val (.int pc), .val (.ref pA), .unset] [(.int (1 : Int32))])) t → Steps p.tables e below (s₁.setTop (entryFrame m #[(.ref tA), (.int pi), (.int pf), (.int pt), (.int pn), (.int pc), (.ref pA)] 8)) t := fun t k => pre3 t (by
        refine XS.icmpNo X0.here hx rfl (hb hby d3_15) rfl (teq hc15_4).2 ?_
        show Steps p.tables e below (s₁.setTop (mkF m 18 #[.val (.ref tA), .val (.int pi), .val (.int pf), .val (.int pt), .val (.int pn), .val (.int pc), .val (.ref pA), .unset] [])) _
        refine XS.iconst X0.here hx rfl (hb hby d3_18) ?_
        show Steps p.tables e below (s₁.setTop (mkF m 19 #[.val (.ref tA), .val (.int pi), .val (.int pf), .val (.int pt), .val (.int pn), .val (.int pc), .val (.ref pA), .unset] [(.int (1 : Int32))])) _
        refine XS.goto X0.here hx rfl (pc0 := 19) (pc' := 23) rfl (hb hby d3_19) (by decide) (by decide) ?_
        show Steps p.tables e below (s₁.setTop (mkF m 23 #[.val (.ref tA), .val (.int pi), .val (.int pf), .val (.int pt), .val (.int pn), .val (.int pc), .val (.ref pA), .unset] [(.int (1 : Int32))])) _
        exact k)
      have hret : (r3 pi pf pt pn pc ki kp ft fp) = (1 : Int32) := by unfold r3; rw [if_pos hc2_2, if_pos hc15_4]
      obtain ⟨fs, hr, hrun, hended, hW, hsame⟩ := X0.leave (v := some (.int (1 : Int32))) (fun h => by rw [Bd.returns] at h; cases h) Bd.notSynchronized
      refine ⟨_, _, pre5 _ ?_, hrun, hended, _, _, rfl, ?_, ⟨_, rfl⟩, hW, hsame.mono (by decide) (by decide)⟩
      · show Steps p.tables e below (s₁.setTop (mkF m 23 #[.val (.ref tA), .val (.int pi), .val (.int pf), .val (.int pt), .val (.int pn), .val (.int pc), .val (.ref pA), .unset] [(.int (1 : Int32))])) _
        exact retN X0 hx (t := .boolean) Bd.returns (by simp) (hb hby d3_23) hr
      · show Q3 Z tA pi pf pt pn pc pA ki kp nt ft np fp h0 n0 _ s₁.heap _
        rw [e0]
        exact ⟨(by rw [hret]), N0, rfl⟩
    · have pre6 : ∀ t, Steps p.tables e below (s₁.setTop (mkF m 23 #[.val (.ref tA), .val (.int pi), .val (.int pf), .val (.int pt), .val (.int pn), .val (.int pc), .val (.ref pA), .unset] [(.int (0 : Int32))])) t → Steps p.tables e below (s₁.setTop (entryFrame m #[(.ref tA), (.int pi), (.int pf), (.int pt), (.int pn), (.int pc), (.ref pA)] 8)) t := fun t k => pre3 t (by
        refine XS.icmpYes X0.here hx rfl (pc0 := 15) (pc' := 22) rfl (hb hby d3_15) rfl (feq hc15_4).2 (by decide) (by decide) ?_
        show Steps p.tables e below (s₁.setTop (mkF m 22 #[.val (.ref tA), .val (.int pi), .val (.int pf), .val (.int pt), .val (.int pn), .val (.int pc), .val (.ref pA), .unset] [])) _
        refine XS.iconst X0.here hx rfl (hb hby d3_22) ?_
        show Steps p.tables e below (s₁.setTop (mkF m 23 #[.val (.ref tA), .val (.int pi), .val (.int pf), .val (.int pt), .val (.int pn), .val (.int pc), .val (.ref pA), .unset] [(.int (0 : Int32))])) _
        exact k)
      have hret : (r3 pi pf pt pn pc ki kp ft fp) = (0 : Int32) := by unfold r3; rw [if_pos hc2_2, if_neg hc15_4]
      obtain ⟨fs, hr, hrun, hended, hW, hsame⟩ := X0.leave (v := some (.int (0 : Int32))) (fun h => by rw [Bd.returns] at h; cases h) Bd.notSynchronized
      refine ⟨_, _, pre6 _ ?_, hrun, hended, _, _, rfl, ?_, ⟨_, rfl⟩, hW, hsame.mono (by decide) (by decide)⟩
      · show Steps p.tables e below (s₁.setTop (mkF m 23 #[.val (.ref tA), .val (.int pi), .val (.int pf), .val (.int pt), .val (.int pn), .val (.int pc), .val (.ref pA), .unset] [(.int (0 : Int32))])) _
        exact retN X0 hx (t := .boolean) Bd.returns (by simp) (hb hby d3_23) hr
      · show Q3 Z tA pi pf pt pn pc pA ki kp nt ft np fp h0 n0 _ s₁.heap _
        rw [e0]
        exact ⟨(by rw [hret]), N0, rfl⟩
  · have pre7 : ∀ t, Steps p.tables e below (s₁.setTop (mkF m 7 #[.val (.ref tA), .val (.int pi), .val (.int pf), .val (.int pt), .val (.int pn), .val (.int pc), .val (.ref pA), .unset] [(.int pt), (.int pi)])) t → Steps p.tables e below (s₁.setTop (entryFrame m #[(.ref tA), (.int pi), (.int pf), (.int pt), (.int pn), (.int pc), (.ref pA)] 8)) t := fun t k => pre1 t (by
      refine XS.icmpNo X0.here hx rfl (hb hby d3_2) rfl (flt hc2_2).1 ?_
      show Steps p.tables e below (s₁.setTop (mkF m 5 #[.val (.ref tA), .val (.int pi), .val (.int pf), .val (.int pt), .val (.int pn), .val (.int pc), .val (.ref pA), .unset] [])) _
      refine XS.iloadN X0.here hx rfl (hb hby d3_5) rfl ?_
      show Steps p.tables e below (s₁.setTop (mkF m 6 #[.val (.ref tA), .val (.int pi), .val (.int pf), .val (.int pt), .val (.int pn), .val (.int pc), .val (.ref pA), .unset] [(.int pi)])) _
      refine XS.iloadN X0.here hx rfl (hb hby d3_6) rfl ?_
      show Steps p.tables e below (s₁.setTop (mkF m 7 #[.val (.ref tA), .val (.int pi), .val (.int pf), .val (.int pt), .val (.int pn), .val (.int pc), .val (.ref pA), .unset] [(.int pt), (.int pi)])) _
      exact k)
    by_cases hc7_8 : pi < pt
    · have pre9 : ∀ t, Steps p.tables e below (s₁.setTop (mkF m 49 #[.val (.ref tA), .val (.int pi), .val (.int pf), .val (.int pt), .val (.int pn), .val (.int pc), .val (.ref pA), .val (.int (v3_38 pn kp fp))] [(.int ((((48 : Int32) + (v3_38 pn kp fp))).toUInt32.toUInt16.toUInt32.toInt32)), (.int (ft ki))])) t → Steps p.tables e below (s₁.setTop (entryFrame m #[(.ref tA), (.int pi), (.int pf), (.int pt), (.int pn), (.int pc), (.ref pA)] 8)) t := fun t k => pre7 t (by
        refine XS.icmpYes X0.here hx rfl (pc0 := 7) (pc' := 24) rfl (hb hby d3_7) rfl (tlt hc7_8).1 (by decide) (by decide) ?_
        show Steps p.tables e below (s₁.setTop (mkF m 24 #[.val (.ref tA), .val (.int pi), .val (.int pf), .val (.int pt), .val (.int pn), .val (.int pc), .val (.ref pA), .unset] [])) _
        refine XS.iload X0.here hx rfl (hb hby d3_24) rfl ?_
        show Steps p.tables e below (s₁.setTop (mkF m 26 #[.val (.ref tA), .val (.int pi), .val (.int pf), .val (.int pt), .val (.int pn), .val (.int pc), .val (.ref pA), .unset] [(.int pn)])) _
        refine XS.aload X0.here hx rfl (hb hby d3_26) rfl rfl ?_
        show Steps p.tables e below (s₁.setTop (mkF m 28 #[.val (.ref tA), .val (.int pi), .val (.int pf), .val (.int pt), .val (.int pn), .val (.int pc), .val (.ref pA), .unset] [(.ref pA), (.int pn)])) _
        refine XS.iloadN X0.here hx rfl (hb hby d3_28) rfl ?_
        show Steps p.tables e below (s₁.setTop (mkF m 29 #[.val (.ref tA), .val (.int pi), .val (.int pf), .val (.int pt), .val (.int pn), .val (.int pc), .val (.ref pA), .unset] [(.int pt), (.ref pA), (.int pn)])) _
        refine XS.iconst X0.here hx rfl (hb hby d3_29) ?_
        show Steps p.tables e below (s₁.setTop (mkF m 30 #[.val (.ref tA), .val (.int pi), .val (.int pf), .val (.int pt), .val (.int pn), .val (.int pc), .val (.ref pA), .unset] [(.int (1 : Int32)), (.int pt), (.ref pA), (.int pn)])) _
        refine XS.isub X0.here hx rfl (hb hby d3_30) rfl ?_
        show Steps p.tables e below (s₁.setTop (mkF m 31 #[.val (.ref tA), .val (.int pi), .val (.int pf), .val (.int pt), .val (.int pn), .val (.int pc), .val (.ref pA), .unset] [(.int (pt - (1 : Int32))), (.ref pA), (.int pn)])) _
        refine XS.iloadN X0.here hx rfl (hb hby d3_31) rfl ?_
        show Steps p.tables e below (s₁.setTop (mkF m 32 #[.val (.ref tA), .val (.int pi), .val (.int pf), .val (.int pt), .val (.int pn), .val (.int pc), .val (.ref pA), .unset] [(.int pi), (.int (pt - (1 : Int32))), (.ref pA), (.int pn)])) _
        refine XS.isub X0.here hx rfl (hb hby d3_32) rfl ?_
        show Steps p.tables e below (s₁.setTop (mkF m 33 #[.val (.ref tA), .val (.int pi), .val (.int pf), .val (.int pt), .val (.int pn), .val (.int pc), .val (.ref pA), .unset] [(.int ((pt - (1 : Int32)) - pi)), (.ref pA), (.int pn)])) _
        refine own_ldI X0 hx hZ e0 hP (j := ((pt - (1 : Int32)) - pi)) (i := kp) (hkp hc2_2 hc7_8) (by exact hkl) (g := (mkF m 33 #[.val (.ref tA), .val (.int pi), .val (.int pf), .val (.int pt), .val (.int pn), .val (.int pc), .val (.ref pA), .unset] [(.int ((pt - (1 : Int32)) - pi)), (.ref pA), (.int pn)])) rfl rfl (hb hby d3_33) _ ?_
        show Steps p.tables e below (s₁.setTop (mkF m 34 #[.val (.ref tA), .val (.int pi), .val (.int pf), .val (.int pt), .val (.int pn), .val (.int pc), .val (.ref pA), .unset] [(.int (fp kp)), (.int pn)])) _
        refine XS.idiv X0.here hx rfl (hb hby d3_34) rfl hnz ?_
        show Steps p.tables e below (s₁.setTop (mkF m 35 #[.val (.ref tA), .val (.int pi), .val (.int pf), .val (.int pt), .val (.int pn), .val (.int pc), .val (.ref pA), .unset] [(.int (pn / (fp kp)))])) _
        refine XS.bipush X0.here hx rfl (hb hby d3_35) ?_
        show Steps p.tables e below (s₁.setTop (mkF m 37 #[.val (.ref tA), .val (.int pi), .val (.int pf), .val (.int pt), .val (.int pn), .val (.int pc), .val (.ref pA), .unset] [(.int (10 : Int32)), (.int (pn / (fp kp)))])) _
        refine iremM (g := (mkF m 37 #[.val (.ref tA), .val (.int pi), .val (.int pf), .val (.int pt), .val (.int pn), .val (.int pc), .val (.ref pA), .unset] [(.int (10 : Int32)), (.int (pn / (fp kp)))])) X0 hx rfl (hb hby d3_37) rfl (by decide) ?_
        show Steps p.tables e below (s₁.setTop (mkF m 38 #[.val (.ref tA), .val (.int pi), .val (.int pf), .val (.int pt), .val (.int pn), .val (.int pc), .val (.ref pA), .unset] [(.int ((pn / (fp kp)) % (10 : Int32)))])) _
        show Steps p.tables e below (s₁.setTop (mkF m 38 #[.val (.ref tA), .val (.int pi), .val (.int pf), .val (.int pt), .val (.int pn), .val (.int pc), .val (.ref pA), .unset] [(.int (v3_38 pn kp fp))])) _
        refine XS.istore X0.here hx rfl (hb hby d3_38) rfl (l' := #[.val (.ref tA), .val (.int pi), .val (.int pf), .val (.int pt), .val (.int pn), .val (.int pc), .val (.ref pA), .val (.int (v3_38 pn kp fp))]) rfl ?_
        show Steps p.tables e below (s₁.setTop (mkF m 40 #[.val (.ref tA), .val (.int pi), .val (.int pf), .val (.int pt), .val (.int pn), .val (.int pc), .val (.ref pA), .val (.int (v3_38 pn kp fp))] [])) _
        refine XS.aloadN X0.here hx rfl (hb hby d3_40) rfl rfl ?_
        show Steps p.tables e below (s₁.setTop (mkF m 41 #[.val (.ref tA), .val (.int pi), .val (.int pf), .val (.int pt), .val (.int pn), .val (.int pc), .val (.ref pA), .val (.int (v3_38 pn kp fp))] [(.ref tA)])) _
        refine XS.iloadN X0.here hx rfl (hb hby d3_41) rfl ?_
        show Steps p.tables e below (s₁.setTop (mkF m 42 #[.val (.ref tA), .val (.int pi), .val (.int pf), .val (.int pt), .val (.int pn), .val (.int pc), .val (.ref pA), .val (.int (v3_38 pn kp fp))] [(.int pi), (.ref tA)])) _
        refine own_ldC X0 hx hZ e0 hT (j := pi) (i := ki) hi (by exact hil) (g := (mkF m 42 #[.val (.ref tA), .val (.int pi), .val (.int pf), .val (.int pt), .val (.int pn), .val (.int pc), .val (.ref pA), .val (.int (v3_38 pn kp fp))] [(.int pi), (.ref tA)])) rfl rfl (hb hby d3_42) _ ?_
        show Steps p.tables e below (s₁.setTop (mkF m 43 #[.val (.ref tA), .val (.int pi), .val (.int pf), .val (.int pt), .val (.int pn), .val (.int pc), .val (.ref pA), .val (.int (v3_38 pn kp fp))] [(.int (ft ki))])) _
        refine XS.bipush X0.here hx rfl (hb hby d3_43) ?_
        show Steps p.tables e below (s₁.setTop (mkF m 45 #[.val (.ref tA), .val (.int pi), .val (.int pf), .val (.int pt), .val (.int pn), .val (.int pc), .val (.ref pA), .val (.int (v3_38 pn kp fp))] [(.int (48 : Int32)), (.int (ft ki))])) _
        refine XS.iload X0.here hx rfl (hb hby d3_45) rfl ?_
        show Steps p.tables e below (s₁.setTop (mkF m 47 #[.val (.ref tA), .val (.int pi), .val (.int pf), .val (.int pt), .val (.int pn), .val (.int pc), .val (.ref pA), .val (.int (v3_38 pn kp fp))] [(.int (v3_38 pn kp fp)), (.int (48 : Int32)), (.int (ft ki))])) _
        refine XS.iadd X0.here hx rfl (hb hby d3_47) rfl ?_
        show Steps p.tables e below (s₁.setTop (mkF m 48 #[.val (.ref tA), .val (.int pi), .val (.int pf), .val (.int pt), .val (.int pn), .val (.int pc), .val (.ref pA), .val (.int (v3_38 pn kp fp))] [(.int ((48 : Int32) + (v3_38 pn kp fp))), (.int (ft ki))])) _
        refine XS.i2c X0.here hx rfl (hb hby d3_48) rfl ?_
        show Steps p.tables e below (s₁.setTop (mkF m 49 #[.val (.ref tA), .val (.int pi), .val (.int pf), .val (.int pt), .val (.int pn), .val (.int pc), .val (.ref pA), .val (.int (v3_38 pn kp fp))] [(.int ((((48 : Int32) + (v3_38 pn kp fp))).toUInt32.toUInt16.toUInt32.toInt32)), (.int (ft ki))])) _
        exact k)
      by_cases hc49_10 : (ft ki) = ((((48 : Int32) + (v3_38 pn kp fp))).toUInt32.toUInt16.toUInt32.toInt32)
      · have pre11 : ∀ t, Steps p.tables e below (s₁.setTop (mkF m 57 #[.val (.ref tA), .val (.int pi), .val (.int pf), .val (.int pt), .val (.int pn), .val (.int pc), .val (.ref pA), .val (.int (v3_38 pn kp fp))] [(.int (1 : Int32))])) t → Steps p.tables e below (s₁.setTop (entryFrame m #[(.ref tA), (.int pi), (.int pf), (.int pt), (.int pn), (.int pc), (.ref pA)] 8)) t := fun t k => pre9 t (by
          refine XS.icmpNo X0.here hx rfl (hb hby d3_49) rfl (teq hc49_10).2 ?_
          show Steps p.tables e below (s₁.setTop (mkF m 52 #[.val (.ref tA), .val (.int pi), .val (.int pf), .val (.int pt), .val (.int pn), .val (.int pc), .val (.ref pA), .val (.int (v3_38 pn kp fp))] [])) _
          refine XS.iconst X0.here hx rfl (hb hby d3_52) ?_
          show Steps p.tables e below (s₁.setTop (mkF m 53 #[.val (.ref tA), .val (.int pi), .val (.int pf), .val (.int pt), .val (.int pn), .val (.int pc), .val (.ref pA), .val (.int (v3_38 pn kp fp))] [(.int (1 : Int32))])) _
          refine XS.goto X0.here hx rfl (pc0 := 53) (pc' := 57) rfl (hb hby d3_53) (by decide) (by decide) ?_
          show Steps p.tables e below (s₁.setTop (mkF m 57 #[.val (.ref tA), .val (.int pi), .val (.int pf), .val (.int pt), .val (.int pn), .val (.int pc), .val (.ref pA), .val (.int (v3_38 pn kp fp))] [(.int (1 : Int32))])) _
          exact k)
        have hret : (r3 pi pf pt pn pc ki kp ft fp) = (1 : Int32) := by unfold r3; rw [if_neg hc2_2, if_pos hc7_8, if_pos hc49_10]
        obtain ⟨fs, hr, hrun, hended, hW, hsame⟩ := X0.leave (v := some (.int (1 : Int32))) (fun h => by rw [Bd.returns] at h; cases h) Bd.notSynchronized
        refine ⟨_, _, pre11 _ ?_, hrun, hended, _, _, rfl, ?_, ⟨_, rfl⟩, hW, hsame.mono (by decide) (by decide)⟩
        · show Steps p.tables e below (s₁.setTop (mkF m 57 #[.val (.ref tA), .val (.int pi), .val (.int pf), .val (.int pt), .val (.int pn), .val (.int pc), .val (.ref pA), .val (.int (v3_38 pn kp fp))] [(.int (1 : Int32))])) _
          exact retN X0 hx (t := .boolean) Bd.returns (by simp) (hb hby d3_57) hr
        · show Q3 Z tA pi pf pt pn pc pA ki kp nt ft np fp h0 n0 _ s₁.heap _
          rw [e0]
          exact ⟨(by rw [hret]), N0, rfl⟩
      · have pre12 : ∀ t, Steps p.tables e below (s₁.setTop (mkF m 57 #[.val (.ref tA), .val (.int pi), .val (.int pf), .val (.int pt), .val (.int pn), .val (.int pc), .val (.ref pA), .val (.int (v3_38 pn kp fp))] [(.int (0 : Int32))])) t → Steps p.tables e below (s₁.setTop (entryFrame m #[(.ref tA), (.int pi), (.int pf), (.int pt), (.int pn), (.int pc), (.ref pA)] 8)) t := fun t k => pre9 t (by
          refine XS.icmpYes X0.here hx rfl (pc0 := 49) (pc' := 56) rfl (hb hby d3_49) rfl (feq hc49_10).2 (by decide) (by decide) ?_
          show Steps p.tables e below (s₁.setTop (mkF m 56 #[.val (.ref tA), .val (.int pi), .val (.int pf), .val (.int pt), .val (.int pn), .val (.int pc), .val (.ref pA), .val (.int (v3_38 pn kp fp))] [])) _
          refine XS.iconst X0.here hx rfl (hb hby d3_56) ?_
          show Steps p.tables e below (s₁.setTop (mkF m 57 #[.val (.ref tA), .val (.int pi), .val (.int pf), .val (.int pt), .val (.int pn), .val (.int pc), .val (.ref pA), .val (.int (v3_38 pn kp fp))] [(.int (0 : Int32))])) _
          exact k)
        have hret : (r3 pi pf pt pn pc ki kp ft fp) = (0 : Int32) := by unfold r3; rw [if_neg hc2_2, if_pos hc7_8, if_neg hc49_10]
        obtain ⟨fs, hr, hrun, hended, hW, hsame⟩ := X0.leave (v := some (.int (0 : Int32))) (fun h => by rw [Bd.returns] at h; cases h) Bd.notSynchronized
        refine ⟨_, _, pre12 _ ?_, hrun, hended, _, _, rfl, ?_, ⟨_, rfl⟩, hW, hsame.mono (by decide) (by decide)⟩
        · show Steps p.tables e below (s₁.setTop (mkF m 57 #[.val (.ref tA), .val (.int pi), .val (.int pf), .val (.int pt), .val (.int pn), .val (.int pc), .val (.ref pA), .val (.int (v3_38 pn kp fp))] [(.int (0 : Int32))])) _
          exact retN X0 hx (t := .boolean) Bd.returns (by simp) (hb hby d3_57) hr
        · show Q3 Z tA pi pf pt pn pc pA ki kp nt ft np fp h0 n0 _ s₁.heap _
          rw [e0]
          exact ⟨(by rw [hret]), N0, rfl⟩
    · have pre13 : ∀ t, Steps p.tables e below (s₁.setTop (mkF m 15 #[.val (.ref tA), .val (.int pi), .val (.int pf), .val (.int pt), .val (.int pn), .val (.int pc), .val (.ref pA), .unset] [(.int pc), (.int (ft ki))])) t → Steps p.tables e below (s₁.setTop (entryFrame m #[(.ref tA), (.int pi), (.int pf), (.int pt), (.int pn), (.int pc), (.ref pA)] 8)) t := fun t k => pre7 t (by
        refine XS.icmpNo X0.here hx rfl (hb hby d3_7) rfl (flt hc7_8).1 ?_
        show Steps p.tables e below (s₁.setTop (mkF m 10 #[.val (.ref tA), .val (.int pi), .val (.int pf), .val (.int pt), .val (.int pn), .val (.int pc), .val (.ref pA), .unset] [])) _
        refine XS.aloadN X0.here hx rfl (hb hby d3_10) rfl rfl ?_
        show Steps p.tables e below (s₁.setTop (mkF m 11 #[.val (.ref tA), .val (.int pi), .val (.int pf), .val (.int pt), .val (.int pn), .val (.int pc), .val (.ref pA), .unset] [(.ref tA)])) _
        refine XS.iloadN X0.here hx rfl (hb hby d3_11) rfl ?_
        show Steps p.tables e below (s₁.setTop (mkF m 12 #[.val (.ref tA), .val (.int pi), .val (.int pf), .val (.int pt), .val (.int pn), .val (.int pc), .val (.ref pA), .unset] [(.int pi), (.ref tA)])) _
        refine own_ldC X0 hx hZ e0 hT (j := pi) (i := ki) hi (by exact hil) (g := (mkF m 12 #[.val (.ref tA), .val (.int pi), .val (.int pf), .val (.int pt), .val (.int pn), .val (.int pc), .val (.ref pA), .unset] [(.int pi), (.ref tA)])) rfl rfl (hb hby d3_12) _ ?_
        show Steps p.tables e below (s₁.setTop (mkF m 13 #[.val (.ref tA), .val (.int pi), .val (.int pf), .val (.int pt), .val (.int pn), .val (.int pc), .val (.ref pA), .unset] [(.int (ft ki))])) _
        refine XS.iload X0.here hx rfl (hb hby d3_13) rfl ?_
        show Steps p.tables e below (s₁.setTop (mkF m 15 #[.val (.ref tA), .val (.int pi), .val (.int pf), .val (.int pt), .val (.int pn), .val (.int pc), .val (.ref pA), .unset] [(.int pc), (.int (ft ki))])) _
        exact k)
      by_cases hc15_14 : (ft ki) = pc
      · have pre15 : ∀ t, Steps p.tables e below (s₁.setTop (mkF m 23 #[.val (.ref tA), .val (.int pi), .val (.int pf), .val (.int pt), .val (.int pn), .val (.int pc), .val (.ref pA), .unset] [(.int (1 : Int32))])) t → Steps p.tables e below (s₁.setTop (entryFrame m #[(.ref tA), (.int pi), (.int pf), (.int pt), (.int pn), (.int pc), (.ref pA)] 8)) t := fun t k => pre13 t (by
          refine XS.icmpNo X0.here hx rfl (hb hby d3_15) rfl (teq hc15_14).2 ?_
          show Steps p.tables e below (s₁.setTop (mkF m 18 #[.val (.ref tA), .val (.int pi), .val (.int pf), .val (.int pt), .val (.int pn), .val (.int pc), .val (.ref pA), .unset] [])) _
          refine XS.iconst X0.here hx rfl (hb hby d3_18) ?_
          show Steps p.tables e below (s₁.setTop (mkF m 19 #[.val (.ref tA), .val (.int pi), .val (.int pf), .val (.int pt), .val (.int pn), .val (.int pc), .val (.ref pA), .unset] [(.int (1 : Int32))])) _
          refine XS.goto X0.here hx rfl (pc0 := 19) (pc' := 23) rfl (hb hby d3_19) (by decide) (by decide) ?_
          show Steps p.tables e below (s₁.setTop (mkF m 23 #[.val (.ref tA), .val (.int pi), .val (.int pf), .val (.int pt), .val (.int pn), .val (.int pc), .val (.ref pA), .unset] [(.int (1 : Int32))])) _
          exact k)
        have hret : (r3 pi pf pt pn pc ki kp ft fp) = (1 : Int32) := by unfold r3; rw [if_neg hc2_2, if_neg hc7_8, if_pos hc15_14]
        obtain ⟨fs, hr, hrun, hended, hW, hsame⟩ := X0.leave (v := some (.int (1 : Int32))) (fun h => by rw [Bd.returns] at h; cases h) Bd.notSynchronized
        refine ⟨_, _, pre15 _ ?_, hrun, hended, _, _, rfl, ?_, ⟨_, rfl⟩, hW, hsame.mono (by decide) (by decide)⟩
        · show Steps p.tables e below (s₁.setTop (mkF m 23 #[.val (.ref tA), .val (.int pi), .val (.int pf), .val (.int pt), .val (.int pn), .val (.int pc), .val (.ref pA), .unset] [(.int (1 : Int32))])) _
          exact retN X0 hx (t := .boolean) Bd.returns (by simp) (hb hby d3_23) hr
        · show Q3 Z tA pi pf pt pn pc pA ki kp nt ft np fp h0 n0 _ s₁.heap _
          rw [e0]
          exact ⟨(by rw [hret]), N0, rfl⟩
      · have pre16 : ∀ t, Steps p.tables e below (s₁.setTop (mkF m 23 #[.val (.ref tA), .val (.int pi), .val (.int pf), .val (.int pt), .val (.int pn), .val (.int pc), .val (.ref pA), .unset] [(.int (0 : Int32))])) t → Steps p.tables e below (s₁.setTop (entryFrame m #[(.ref tA), (.int pi), (.int pf), (.int pt), (.int pn), (.int pc), (.ref pA)] 8)) t := fun t k => pre13 t (by
          refine XS.icmpYes X0.here hx rfl (pc0 := 15) (pc' := 22) rfl (hb hby d3_15) rfl (feq hc15_14).2 (by decide) (by decide) ?_
          show Steps p.tables e below (s₁.setTop (mkF m 22 #[.val (.ref tA), .val (.int pi), .val (.int pf), .val (.int pt), .val (.int pn), .val (.int pc), .val (.ref pA), .unset] [])) _
          refine XS.iconst X0.here hx rfl (hb hby d3_22) ?_
          show Steps p.tables e below (s₁.setTop (mkF m 23 #[.val (.ref tA), .val (.int pi), .val (.int pf), .val (.int pt), .val (.int pn), .val (.int pc), .val (.ref pA), .unset] [(.int (0 : Int32))])) _
          exact k)
        have hret : (r3 pi pf pt pn pc ki kp ft fp) = (0 : Int32) := by unfold r3; rw [if_neg hc2_2, if_neg hc7_8, if_neg hc15_14]
        obtain ⟨fs, hr, hrun, hended, hW, hsame⟩ := X0.leave (v := some (.int (0 : Int32))) (fun h => by rw [Bd.returns] at h; cases h) Bd.notSynchronized
        refine ⟨_, _, pre16 _ ?_, hrun, hended, _, _, rfl, ?_, ⟨_, rfl⟩, hW, hsame.mono (by decide) (by decide)⟩
        · show Steps p.tables e below (s₁.setTop (mkF m 23 #[.val (.ref tA), .val (.int pi), .val (.int pf), .val (.int pt), .val (.int pn), .val (.int pc), .val (.ref pA), .unset] [(.int (0 : Int32))])) _
          exact retN X0 hx (t := .boolean) Bd.returns (by simp) (hb hby d3_23) hr
        · show Q3 Z tA pi pf pt pn pc pA ki kp nt ft np fp h0 n0 _ s₁.heap _
          rw [e0]
          exact ⟨(by rw [hret]), N0, rfl⟩
def own_o (a : Int32) : Nat := ((a &&& (2147483647 : Int32)) % (11 : Int32)).toNatClampNeg
def own_wd (a b : Int32) : Nat := ((b &&& (2147483647 : Int32)) % ((r1 (9 : Int32) ((10 : Int32) - ((a &&& (2147483647 : Int32)) % (11 : Int32)))) + (1 : Int32))).toNatClampNeg
theorem pd_0 : parseMethodDescriptor "(II)I" = some ⟨[.int, .int], some .int⟩ := by decide +kernel
theorem pd_1 : parseMethodDescriptor "([CIII)V" = some ⟨[(.array .char), .int, .int, .int], none⟩ := by decide +kernel
theorem pd_2 : parseMethodDescriptor "([CIIIIC[I)Z" = some ⟨[(.array .char), .int, .int, .int, .int, .char, (.array .int)], some .boolean⟩ := by decide +kernel
theorem ef_0 (m : MethodId) (x0 : Int32) (x1 : Int32) (x2 : Int32) (x3 : Int32) : entryFrame m #[(.int x0), (.int x1), (.int x2), (.int x3)] maxLocals = mkF m 0 #[.val (.int x0), .val (.int x1), .val (.int x2), .val (.int x3), .unset, .unset, .unset, .unset, .unset, .unset, .unset, .unset] [] := by first | (simp [entryFrame, mkF, argsToLocals, Value.category, maxLocals]; done) | rfl
def g0_12  : Nat → Int32 := (own_upd (own_upd (fun _ => (0 : Int32)) 0 (1 : Int32)) 1 (10 : Int32))
def g0_29  : Nat → Int32 := (own_upd (own_upd (own_upd g0_12 2 (100 : Int32)) 3 (1000 : Int32)) 4 (10000 : Int32))
def g0_40  : Nat → Int32 := (own_upd (own_upd g0_29 5 (100000 : Int32)) 6 (1000000 : Int32))
def g0_52  : Nat → Int32 := (own_upd (own_upd g0_40 7 (10000000 : Int32)) 8 (100000000 : Int32))
def v0_68 (p0_0 : Int32) : Int32 := ((p0_0 &&& (2147483647 : Int32)) % (11 : Int32))
def v0_80 (p0_0 : Int32) : Int32 := (r1 (9 : Int32) ((10 : Int32) - (v0_68 p0_0)))
def v0_91 (p0_0 : Int32) (p0_1 : Int32) : Int32 := ((p0_1 &&& (2147483647 : Int32)) % ((v0_80 p0_0) + (1 : Int32)))
def v0_98 (p0_0 : Int32) (p0_1 : Int32) : Int32 := ((v0_68 p0_0) + (v0_91 p0_0 p0_1))
def v0_110 (p0_0 : Int32) (p0_1 : Int32) (p0_2 : Int32) : Int32 := ((p0_2 &&& (2147483647 : Int32)) % ((own_upd g0_52 9 (1000000000 : Int32)) (own_wd p0_0 p0_1)))
def v0_118 (p0_3 : Int32) : Int32 := (((p0_3 &&& (255 : Int32))).toUInt32.toUInt16.toUInt32.toInt32)
def g0_133 (p0_3 : Int32) : Nat → Int32 := (own_upd (own_upd (fun _ => (0 : Int32)) 0 (nar .char (v0_118 p0_3))) 1 (nar .char (v0_118 p0_3)))
def g0_143 (p0_3 : Int32) : Nat → Int32 := (own_upd (own_upd (g0_133 p0_3) 2 (nar .char (v0_118 p0_3))) 3 (nar .char (v0_118 p0_3)))
def g0_153 (p0_3 : Int32) : Nat → Int32 := (own_upd (own_upd (g0_143 p0_3) 4 (nar .char (v0_118 p0_3))) 5 (nar .char (v0_118 p0_3)))
def g0_165 (p0_3 : Int32) : Nat → Int32 := (own_upd (own_upd (g0_153 p0_3) 6 (nar .char (v0_118 p0_3))) 7 (nar .char (v0_118 p0_3)))
def g0_177 (p0_3 : Int32) : Nat → Int32 := (own_upd (own_upd (g0_165 p0_3) 8 (nar .char (v0_118 p0_3))) 9 (nar .char (v0_118 p0_3)))
def g0_188 (p0_0 : Int32) (p0_1 : Int32) (p0_2 : Int32) (p0_3 : Int32) : Nat → Int32 := (own_wr (own_o p0_0) (own_wd p0_0 p0_1) (v0_110 p0_0 p0_1 p0_2) (g0_177 p0_3))
def c0_204 (p0_0 : Int32) (p0_1 : Int32) (p0_2 : Int32) (p0_3 : Int32) : Int32 := (r3 (0 : Int32) (v0_68 p0_0) (v0_98 p0_0 p0_1) (v0_110 p0_0 p0_1 p0_2) (v0_118 p0_3) 0 (own_o p0_0 + own_wd p0_0 p0_1 - 1 - 0) (g0_188 p0_0 p0_1 p0_2 p0_3) (own_upd g0_52 9 (1000000000 : Int32)))
def c0_223 (p0_0 : Int32) (p0_1 : Int32) (p0_2 : Int32) (p0_3 : Int32) : Int32 := (r3 (1 : Int32) (v0_68 p0_0) (v0_98 p0_0 p0_1) (v0_110 p0_0 p0_1 p0_2) (v0_118 p0_3) 1 (own_o p0_0 + own_wd p0_0 p0_1 - 1 - 1) (g0_188 p0_0 p0_1 p0_2 p0_3) (own_upd g0_52 9 (1000000000 : Int32)))
def c0_242 (p0_0 : Int32) (p0_1 : Int32) (p0_2 : Int32) (p0_3 : Int32) : Int32 := (r3 (2 : Int32) (v0_68 p0_0) (v0_98 p0_0 p0_1) (v0_110 p0_0 p0_1 p0_2) (v0_118 p0_3) 2 (own_o p0_0 + own_wd p0_0 p0_1 - 1 - 2) (g0_188 p0_0 p0_1 p0_2 p0_3) (own_upd g0_52 9 (1000000000 : Int32)))
def c0_261 (p0_0 : Int32) (p0_1 : Int32) (p0_2 : Int32) (p0_3 : Int32) : Int32 := (r3 (3 : Int32) (v0_68 p0_0) (v0_98 p0_0 p0_1) (v0_110 p0_0 p0_1 p0_2) (v0_118 p0_3) 3 (own_o p0_0 + own_wd p0_0 p0_1 - 1 - 3) (g0_188 p0_0 p0_1 p0_2 p0_3) (own_upd g0_52 9 (1000000000 : Int32)))
def c0_280 (p0_0 : Int32) (p0_1 : Int32) (p0_2 : Int32) (p0_3 : Int32) : Int32 := (r3 (4 : Int32) (v0_68 p0_0) (v0_98 p0_0 p0_1) (v0_110 p0_0 p0_1 p0_2) (v0_118 p0_3) 4 (own_o p0_0 + own_wd p0_0 p0_1 - 1 - 4) (g0_188 p0_0 p0_1 p0_2 p0_3) (own_upd g0_52 9 (1000000000 : Int32)))
def c0_299 (p0_0 : Int32) (p0_1 : Int32) (p0_2 : Int32) (p0_3 : Int32) : Int32 := (r3 (5 : Int32) (v0_68 p0_0) (v0_98 p0_0 p0_1) (v0_110 p0_0 p0_1 p0_2) (v0_118 p0_3) 5 (own_o p0_0 + own_wd p0_0 p0_1 - 1 - 5) (g0_188 p0_0 p0_1 p0_2 p0_3) (own_upd g0_52 9 (1000000000 : Int32)))
def c0_319 (p0_0 : Int32) (p0_1 : Int32) (p0_2 : Int32) (p0_3 : Int32) : Int32 := (r3 (6 : Int32) (v0_68 p0_0) (v0_98 p0_0 p0_1) (v0_110 p0_0 p0_1 p0_2) (v0_118 p0_3) 6 (own_o p0_0 + own_wd p0_0 p0_1 - 1 - 6) (g0_188 p0_0 p0_1 p0_2 p0_3) (own_upd g0_52 9 (1000000000 : Int32)))
def c0_339 (p0_0 : Int32) (p0_1 : Int32) (p0_2 : Int32) (p0_3 : Int32) : Int32 := (r3 (7 : Int32) (v0_68 p0_0) (v0_98 p0_0 p0_1) (v0_110 p0_0 p0_1 p0_2) (v0_118 p0_3) 7 (own_o p0_0 + own_wd p0_0 p0_1 - 1 - 7) (g0_188 p0_0 p0_1 p0_2 p0_3) (own_upd g0_52 9 (1000000000 : Int32)))
def c0_359 (p0_0 : Int32) (p0_1 : Int32) (p0_2 : Int32) (p0_3 : Int32) : Int32 := (r3 (8 : Int32) (v0_68 p0_0) (v0_98 p0_0 p0_1) (v0_110 p0_0 p0_1 p0_2) (v0_118 p0_3) 8 (own_o p0_0 + own_wd p0_0 p0_1 - 1 - 8) (g0_188 p0_0 p0_1 p0_2 p0_3) (own_upd g0_52 9 (1000000000 : Int32)))
def c0_379 (p0_0 : Int32) (p0_1 : Int32) (p0_2 : Int32) (p0_3 : Int32) : Int32 := (r3 (9 : Int32) (v0_68 p0_0) (v0_98 p0_0 p0_1) (v0_110 p0_0 p0_1 p0_2) (v0_118 p0_3) 9 (own_o p0_0 + own_wd p0_0 p0_1 - 1 - 9) (g0_188 p0_0 p0_1 p0_2 p0_3) (own_upd g0_52 9 (1000000000 : Int32)))
theorem own_F (a : Int32) : 0 ≤ (v0_68 a).toInt ∧ (v0_68 a).toInt < 11 ∧ own_o a = (v0_68 a).toInt.toNat := by
  have a1 : (a &&& (2147483647 : Int32)).toInt = a.toInt % 2 ^ 31 := Jvm.Kit.i32_mask a _ (k := 31) (by decide) (by decide)
  have e : (v0_68 a).toInt = (a.toInt % 2 ^ 31) % 11 := by unfold v0_68; rw [Jvm.Kit.i32_rem_nonneg (by omega), a1]; rfl
  exact ⟨by omega, by omega, rfl⟩
theorem own_R (a : Int32) : (v0_80 a + (1 : Int32)).toInt = (if 10 - (v0_68 a).toInt < 9 then 10 - (v0_68 a).toInt else 9) + 1 := by
  have h := own_F a
  have o : (1 : Int32).toInt = 1 := rfl
  have t : (10 : Int32).toInt = 10 := rfl
  have n : (9 : Int32).toInt = 9 := rfl
  have e : ((10 : Int32) - v0_68 a).toInt = 10 - (v0_68 a).toInt := by rw [Jvm.Kit.i32_sub (by rw [t]; omega) (by rw [t]; omega), t]
  have e2 : (v0_80 a).toInt = (if 10 - (v0_68 a).toInt < 9 then 10 - (v0_68 a).toInt else 9) := by
    unfold v0_80 r1
    simp only [Int32.lt_iff_toInt_lt, e, n]
    split
    · exact e
    · exact n
  rw [Jvm.Kit.i32_add (by rw [e2, o]; split <;> omega) (by rw [e2, o]; split <;> omega), e2, o]
theorem own_nz1 (a : Int32) : (v0_80 a) + (1 : Int32) ≠ 0 := fun q => by
  have h := own_R a
  have h' := own_F a
  rw [q, show (0 : Int32).toInt = 0 from rfl] at h
  revert h; split <;> omega
theorem own_W (a b : Int32) : 0 ≤ (v0_91 a b).toInt ∧ (v0_91 a b).toInt < 10 ∧ (v0_68 a).toInt + (v0_91 a b).toInt < 11 ∧ own_wd a b = (v0_91 a b).toInt.toNat := by
  have a1 : (b &&& (2147483647 : Int32)).toInt = b.toInt % 2 ^ 31 := Jvm.Kit.i32_mask b _ (k := 31) (by decide) (by decide)
  have h := own_R a
  have h' := own_F a
  have e : (v0_91 a b).toInt = (b.toInt % 2 ^ 31) % (v0_80 a + (1 : Int32)).toInt := by unfold v0_91; rw [Jvm.Kit.i32_rem_nonneg (by omega), a1]
  have p : 0 < (v0_80 a + (1 : Int32)).toInt := by rw [h]; split <;> omega
  have r1 := Int.emod_nonneg (b.toInt % 2 ^ 31) (show (v0_80 a + (1 : Int32)).toInt ≠ 0 by omega)
  have r2 := Int.emod_lt_of_pos (b.toInt % 2 ^ 31) p
  rw [← e] at r1 r2
  rw [h] at r2
  refine ⟨r1, ?_, ?_, rfl⟩
  · revert r2; split <;> omega
  · revert r2; split <;> omega
theorem own_ixw (a b : Int32) : ¬ (v0_91 a b) < 0 ∧ (v0_91 a b).toNatClampNeg = own_wd a b := by
  have h := own_W a b
  refine ⟨?_, rfl⟩
  rw [Int32.lt_iff_toInt_lt, show (0 : Int32).toInt = 0 from rfl]; omega
theorem own_wl (a b : Int32) : own_wd a b < 10 := by have h := own_W a b; omega
theorem own_P : ∀ j, j < 10 → ((own_upd g0_52 9 (1000000000 : Int32)) j).toInt = (10 : Int) ^ j := by decide +kernel
theorem own_Pp (j : Nat) : (0 : Int) < 10 ^ j := Int.pow_pos (by decide)
theorem own_Pnz (j : Nat) (h : j < 10) : (own_upd g0_52 9 (1000000000 : Int32)) j ≠ 0 := fun q => by
  have e := own_P j h
  have := own_Pp j
  rw [q, show (0 : Int32).toInt = 0 from rfl] at e; omega
theorem own_nz2 (a b : Int32) : (own_upd g0_52 9 (1000000000 : Int32)) (own_wd a b) ≠ 0 := own_Pnz _ (own_wl a b)
theorem own_of (a : Int32) : v0_68 a = Int32.ofNat (own_o a) := by
  have h := own_F a
  apply Int32.toInt_inj.mp
  rw [Int32.toInt_ofNat_of_lt (by omega)]; omega
theorem own_T (a b : Int32) : (v0_98 a b).toInt = (own_o a : Int) + (own_wd a b : Int) := by
  have h := own_F a
  have h' := own_W a b
  unfold v0_98; rw [Jvm.Kit.i32_add (by omega) (by omega)]; omega
theorem own_pi (a b : Int32) : ((v0_98 a b) - (1 : Int32)).toInt = (own_o a : Int) + (own_wd a b : Int) - 1 := by
  have h := own_T a b
  have h1 := own_F a
  have h2 := own_W a b
  have o : (1 : Int32).toInt = 1 := rfl
  rw [Jvm.Kit.i32_sub (by rw [o]; omega) (by rw [o]; omega), o, h]
theorem own_ok10 (a b : Int32) : own_o a + own_wd a b ≤ 10 := by
  have h1 := own_F a
  have h2 := own_W a b
  omega
theorem own_kp (a b : Int32) (k : Nat) (hk : k < 10) : ¬ (Int32.ofNat k) < (v0_68 a) → (Int32.ofNat k) < (v0_98 a b) → (¬ (((v0_98 a b) - (1 : Int32)) - (Int32.ofNat k)) < 0 ∧ (((v0_98 a b) - (1 : Int32)) - (Int32.ofNat k)).toNatClampNeg = (own_o a + own_wd a b - 1 - k)) := by
  intro _ q
  have t := own_T a b
  have p := own_pi a b
  have w := own_ok10 a b
  have e : (Int32.ofNat k).toInt = (k : Int) := Int32.toInt_ofNat_of_lt (by omega)
  rw [Int32.lt_iff_toInt_lt, e, t] at q
  have f : (((v0_98 a b) - (1 : Int32)) - (Int32.ofNat k)).toInt = (own_o a : Int) + (own_wd a b : Int) - 1 - k := by rw [Jvm.Kit.i32_sub (by rw [p, e]; omega) (by rw [p, e]; omega), p, e]
  refine ⟨?_, ?_⟩
  · rw [Int32.lt_iff_toInt_lt, f, show (0 : Int32).toInt = 0 from rfl]; omega
  · show (((v0_98 a b) - (1 : Int32)) - (Int32.ofNat k)).toInt.toNat = _
    rw [f]; omega
theorem own_kpl (a b : Int32) (k : Nat) : own_o a + own_wd a b - 1 - k < 10 := by have := own_ok10 a b; omega
theorem own_knz (a b : Int32) (k : Nat) : (own_upd g0_52 9 (1000000000 : Int32)) (own_o a + own_wd a b - 1 - k) ≠ 0 := own_Pnz _ (own_kpl a b k)
def own_dv : Nat → Int32 → Int32
  | 0, v => v
  | j + 1, v => own_dv j (v / (10 : Int32))
theorem own_dvI (j : Nat) : ∀ v : Int32, 0 ≤ v.toInt → (own_dv j v).toInt = v.toInt / 10 ^ j := by
  induction j with
  | zero => intro v _; show v.toInt = _; rw [Int.pow_zero, Int.ediv_one]
  | succ j ih =>
    intro v hv
    have t : (10 : Int32).toInt = 10 := rfl
    have e : (v / (10 : Int32)).toInt = v.toInt / 10 := by rw [Jvm.Kit.i32_div (by rw [t]; omega), t, Int.tdiv_eq_ediv_of_nonneg hv]
    show (own_dv j (v / (10 : Int32))).toInt = _
    rw [ih _ (by rw [e]; omega), e, Int.ediv_ediv_of_nonneg (by decide), Int.pow_succ, Int.mul_comm]
theorem own_wrA (o : Nat) (k : Nat) : ∀ (v : Int32) (f : Nat → Int32) (x : Nat), own_wr o k v f x = if o ≤ x ∧ x < o + k then own_ch (own_dv (o + k - 1 - x) v) else f x := by
  induction k with
  | zero => intro v f x; rw [if_neg (by omega)]; rfl
  | succ k ih =>
    intro v f x
    show own_wr o k (v / (10 : Int32)) (own_upd f (o + k) (own_ch v)) x = _
    rw [ih]
    by_cases h1 : o ≤ x ∧ x < o + k
    · rw [if_pos h1, if_pos (by omega), show o + (k + 1) - 1 - x = (o + k - 1 - x) + 1 by omega]; rfl
    · rw [if_neg h1]
      unfold own_upd
      by_cases h2 : x = o + k
      · rw [if_pos h2, if_pos (by omega), show o + (k + 1) - 1 - x = 0 by omega]; rfl
      · rw [if_neg h2, if_neg (by omega)]
theorem own_c2 (x : Int32) : nar .char (x.toUInt32.toUInt16.toUInt32.toInt32) = x.toUInt32.toUInt16.toUInt32.toInt32 := by
  show (x.toUInt32.toUInt16.toUInt32.toInt32).toUInt32.toUInt16.toUInt32.toInt32 = _
  simp
  congr 1
  apply UInt32.toNat_inj.mp
  simp
theorem own_fill (f : Int32) : ∀ x, x < 10 → g0_177 f x = v0_118 f := by
  intro x hx
  have e : nar .char (v0_118 f) = v0_118 f := by unfold v0_118; exact own_c2 _
  unfold g0_177 g0_165 g0_153 g0_143 g0_133 own_upd
  simp only [e]
  repeat' split
  all_goals first | rfl | omega
theorem own_main (a b n f : Int32) (k : Nat) (hk : k < 10) : ¬ (r3 (Int32.ofNat k) (v0_68 a) (v0_98 a b) (v0_110 a b n) (v0_118 f) k (own_o a + own_wd a b - 1 - k) (g0_188 a b n f) (own_upd g0_52 9 (1000000000 : Int32))) = (0 : Int32) := by
  have hF := own_F a
  have hT := own_T a b
  have hw := own_ok10 a b
  have e : (Int32.ofNat k).toInt = (k : Int) := Int32.toInt_ofNat_of_lt (by omega)
  have hN : 0 ≤ (v0_110 a b n).toInt := by
    have a1 : (n &&& (2147483647 : Int32)).toInt = n.toInt % 2 ^ 31 := Jvm.Kit.i32_mask n _ (k := 31) (by decide) (by decide)
    have q := own_P _ (own_wl a b)
    have q' := own_Pp (own_wd a b)
    unfold v0_110
    rw [Jvm.Kit.i32_rem_nonneg (by omega), q]
    exact Int.emod_nonneg _ (by omega)
  unfold r3
  simp only [Int32.lt_iff_toInt_lt, e, hT]
  have hg : g0_188 a b n f k = if own_o a ≤ k ∧ k < own_o a + own_wd a b then own_ch (own_dv (own_o a + own_wd a b - 1 - k) (v0_110 a b n)) else v0_118 f := by
    unfold g0_188; rw [own_wrA, own_fill f k hk]
  by_cases h1 : (k : Int) < (v0_68 a).toInt
  · have q : g0_188 a b n f k = v0_118 f := by rw [hg, if_neg (by omega)]
    rw [if_pos h1, q, if_pos rfl]; decide
  · rw [if_neg h1]
    by_cases h2 : (k : Int) < (own_o a : Int) + (own_wd a b : Int)
    · have q : g0_188 a b n f k = own_ch (own_dv (own_o a + own_wd a b - 1 - k) (v0_110 a b n)) := by rw [hg, if_pos (by omega)]
      rw [if_pos h2, q]
      have hj := own_kpl a b k
      generalize own_o a + own_wd a b - 1 - k = j at *
      have d : own_dv j (v0_110 a b n) = (v0_110 a b n) / ((own_upd g0_52 9 (1000000000 : Int32)) j) := by
        have q := own_P j hj
        have q' := own_Pp j
        apply Int32.toInt_inj.mp
        rw [own_dvI _ _ hN, Jvm.Kit.i32_div (by rw [q]; omega), q, Int.tdiv_eq_ediv_of_nonneg hN]
      rw [d]
      unfold own_ch v3_38
      rw [own_c2, if_pos rfl]; decide
    · have q : g0_188 a b n f k = v0_118 f := by rw [hg, if_neg (by omega)]
      rw [if_neg h2, q, if_pos rfl]; decide
def Q0 (Z : State) (p0_0 : Int32) (p0_1 : Int32) (p0_2 : Int32) (p0_3 : Int32) (h0 : Heap) (n0 : Nat) (v : Option Value) (h : Heap) (L : List Loc) : Prop := v = some (.int (1 : Int32)) ∧ Fr n0 L
set_option maxRecDepth 65536 in
set_option maxHeartbeats 40000000 in
theorem rm0 (l : Launch) (Z : State) (a0 : Array Value) (hw : ∀ d ∈ tables_1, d.before a0 Z = true) (ws : List Jvm.Cond) (p0_0 : Int32) (p0_1 : Int32) (p0_2 : Int32) (p0_3 : Int32) (h0 : Heap) (n0 : Nat) (Z0 : n0 ≤ h0.size) :
    MetFree l x (head1 (Jvm.Cond.code x code maxLocals ret :: ws) room_1) (fun a U => a = #[(.int p0_0), (.int p0_1), (.int p0_2), (.int p0_3)] ∧ Z.Warmed39 U.vm ∧ U.heap = h0) (fun _ _ _ _ _ => True) (fun _ U o U' => ∃ v L, o = .returned v ∧ Q0 Z p0_0 p0_1 p0_2 p0_3 h0 n0 v U'.heap L ∧ FrameEnd U o U' L room_1.cells room_1.slots) := by
  refine MetFree.of_bodySF (plainFor_of_name pn_1) hisR ?_
  intro p e s m args below meth c s₁ Bd hml0 hP hK
  obtain ⟨rfl, hZ, hh⟩ := hP
  have hx := Bd.exec
  have hby := Bd.bytes
  have hml : c.maxLocals = 12 := hml0
  have hown : s.vm.findClass "com/example/chronofield/chronofield/AsciiDigitsWritePinLaw" = some m.cls := findClass_of_methodNamed Bd.named
  have hnm := (name_of_methodNamed Bd.named Bd.method).1
  have X0 : Stand p l e room_1 s m #[(.int p0_0), (.int p0_1), (.int p0_2), (.int p0_3)] below meth c s₁ [] 0 0 := Stand.of_body Bd
  have e0 : s₁.heap = h0 := by rw [← hh, Bd.state]; rfl
  have N0 := Fr.nil n0
  have pre0 : ∀ t, Steps p.tables e below (s₁.setTop (mkF m 0 #[.val (.int p0_0), .val (.int p0_1), .val (.int p0_2), .val (.int p0_3), .unset, .unset, .unset, .unset, .unset, .unset, .unset, .unset] [])) t → Steps p.tables e below (s₁.setTop (entryFrame m #[(.int p0_0), (.int p0_1), (.int p0_2), (.int p0_3)] maxLocals)) t := fun t k => castTop (ef_0 m p0_0 p0_1 p0_2 p0_3) k
  have pre1 : ∀ t, Steps p.tables e below (s₁.setTop (mkF m 2 #[.val (.int p0_0), .val (.int p0_1), .val (.int p0_2), .val (.int p0_3), .unset, .unset, .unset, .unset, .unset, .unset, .unset, .unset] [(.int (10 : Int32))])) t → Steps p.tables e below (s₁.setTop (entryFrame m #[(.int p0_0), (.int p0_1), (.int p0_2), (.int p0_3)] maxLocals)) t := fun t k => pre0 t (by
    refine XS.bipush X0.here hx rfl (hb hby at_0) ?_
    show Steps p.tables e below (s₁.setTop (mkF m 2 #[.val (.int p0_0), .val (.int p0_1), .val (.int p0_2), .val (.int p0_3), .unset, .unset, .unset, .unset, .unset, .unset, .unset, .unset] [(.int (10 : Int32))])) _
    exact k)
  obtain ⟨T2, h2, k2, X2, e2, E2, A2, st2⟩ := newP X0 hx hZ (hw _ (List.mem_of_getElem? (i := 0) rfl)) e0 (g := (mkF m 2 #[.val (.int p0_0), .val (.int p0_1), .val (.int p0_2), .val (.int p0_3), .unset, .unset, .unset, .unset, .unset, .unset, .unset, .unset] [(.int (10 : Int32))])) rfl (hb hby at_2) rfl (by decide) (cap := 10) (by decide) (by decide) (by decide) (by decide)
  obtain ⟨b2, q2⟩ : ∃ z, z = h0.size := ⟨_, rfl⟩
  rw [← q2] at A2 st2
  have g_b2 : n0 ≤ b2 := Nat.le_trans Z0 (Nat.le_of_eq q2.symm)
  have Z2 : n0 ≤ h2.size := Nat.le_trans Z0 E2.1
  have B2 : ArI Z h2 b2 .int 10 (fun _ => (0 : Int32)) := ArI.new rfl A2 (by decide)
  have pre2 : ∀ t, Steps p.tables e below (T2.setTop (mkF m 4 #[.val (.int p0_0), .val (.int p0_1), .val (.int p0_2), .val (.int p0_3), .unset, .unset, .unset, .unset, .unset, .unset, .unset, .unset] [(.ref b2)])) t → Steps p.tables e below (s₁.setTop (entryFrame m #[(.int p0_0), (.int p0_1), (.int p0_2), (.int p0_3)] maxLocals)) t := fun t k => pre1 t (st2 t k)
  have pre3 : ∀ t, Steps p.tables e below (T2.setTop (mkF m 7 #[.val (.int p0_0), .val (.int p0_1), .val (.int p0_2), .val (.int p0_3), .unset, .unset, .unset, .unset, .unset, .unset, .unset, .unset] [(.int (1 : Int32)), (.int (0 : Int32)), (.ref b2), (.ref b2)])) t → Steps p.tables e below (s₁.setTop (entryFrame m #[(.int p0_0), (.int p0_1), (.int p0_2), (.int p0_3)] maxLocals)) t := fun t k => pre2 t (by
    refine XS.dup X2.here hx rfl (hb hby at_4) rfl rfl ?_
    show Steps p.tables e below (T2.setTop (mkF m 5 #[.val (.int p0_0), .val (.int p0_1), .val (.int p0_2), .val (.int p0_3), .unset, .unset, .unset, .unset, .unset, .unset, .unset, .unset] [(.ref b2), (.ref b2)])) _
    refine XS.iconst X2.here hx rfl (hb hby at_5) ?_
    show Steps p.tables e below (T2.setTop (mkF m 6 #[.val (.int p0_0), .val (.int p0_1), .val (.int p0_2), .val (.int p0_3), .unset, .unset, .unset, .unset, .unset, .unset, .unset, .unset] [(.int (0 : Int32)), (.ref b2), (.ref b2)])) _
    refine XS.iconst X2.here hx rfl (hb hby at_6) ?_
    show Steps p.tables e below (T2.setTop (mkF m 7 #[.val (.int p0_0), .val (.int p0_1), .val (.int p0_2), .val (.int p0_3), .unset, .unset, .unset, .unset, .unset, .unset, .unset, .unset] [(.int (1 : Int32)), (.int (0 : Int32)), (.ref b2), (.ref b2)])) _
    exact k)
  obtain ⟨T4, h4, X4, e4, W4, B4, st4⟩ := own_stI X2 hx hZ e2 B2 (j := (0 : Int32)) (i := 0) (by decide) (by decide) (g := (mkF m 7 #[.val (.int p0_0), .val (.int p0_1), .val (.int p0_2), .val (.int p0_3), .unset, .unset, .unset, .unset, .unset, .unset, .unset, .unset] [(.int (1 : Int32)), (.int (0 : Int32)), (.ref b2), (.ref b2)])) rfl rfl (hb hby at_7)
  have N4 := Fr.snoc X4 N0 g_b2
  have Z4 : n0 ≤ h4.size := Nat.le_trans Z2 (Keep.of_wr W4).1
  have pre4 : ∀ t, Steps p.tables e below (T4.setTop (mkF m 8 #[.val (.int p0_0), .val (.int p0_1), .val (.int p0_2), .val (.int p0_3), .unset, .unset, .unset, .unset, .unset, .unset, .unset, .unset] [(.ref b2)])) t → Steps p.tables e below (s₁.setTop (entryFrame m #[(.int p0_0), (.int p0_1), (.int p0_2), (.int p0_3)] maxLocals)) t := fun t k => pre3 t (st4 t k)
  have pre5 : ∀ t, Steps p.tables e below (T4.setTop (mkF m 12 #[.val (.int p0_0), .val (.int p0_1), .val (.int p0_2), .val (.int p0_3), .unset, .unset, .unset, .unset, .unset, .unset, .unset, .unset] [(.int (10 : Int32)), (.int (1 : Int32)), (.ref b2), (.ref b2)])) t → Steps p.tables e below (s₁.setTop (entryFrame m #[(.int p0_0), (.int p0_1), (.int p0_2), (.int p0_3)] maxLocals)) t := fun t k => pre4 t (by
    refine XS.dup X4.here hx rfl (hb hby at_8) rfl rfl ?_
    show Steps p.tables e below (T4.setTop (mkF m 9 #[.val (.int p0_0), .val (.int p0_1), .val (.int p0_2), .val (.int p0_3), .unset, .unset, .unset, .unset, .unset, .unset, .unset, .unset] [(.ref b2), (.ref b2)])) _
    refine XS.iconst X4.here hx rfl (hb hby at_9) ?_
    show Steps p.tables e below (T4.setTop (mkF m 10 #[.val (.int p0_0), .val (.int p0_1), .val (.int p0_2), .val (.int p0_3), .unset, .unset, .unset, .unset, .unset, .unset, .unset, .unset] [(.int (1 : Int32)), (.ref b2), (.ref b2)])) _
    refine XS.bipush X4.here hx rfl (hb hby at_10) ?_
    show Steps p.tables e below (T4.setTop (mkF m 12 #[.val (.int p0_0), .val (.int p0_1), .val (.int p0_2), .val (.int p0_3), .unset, .unset, .unset, .unset, .unset, .unset, .unset, .unset] [(.int (10 : Int32)), (.int (1 : Int32)), (.ref b2), (.ref b2)])) _
    exact k)
  obtain ⟨T6, h6, X6, e6, W6, B6, st6⟩ := own_stI X4 hx hZ e4 B4 (j := (1 : Int32)) (i := 1) (by decide) (by decide) (g := (mkF m 12 #[.val (.int p0_0), .val (.int p0_1), .val (.int p0_2), .val (.int p0_3), .unset, .unset, .unset, .unset, .unset, .unset, .unset, .unset] [(.int (10 : Int32)), (.int (1 : Int32)), (.ref b2), (.ref b2)])) rfl rfl (hb hby at_12)
  have N6 := Fr.snoc X6 N4 g_b2
  have Z6 : n0 ≤ h6.size := Nat.le_trans Z4 (Keep.of_wr W6).1
  have C6 : ArI Z h6 b2 .int 10 g0_12 := B6
  have pre6 : ∀ t, Steps p.tables e below (T6.setTop (mkF m 13 #[.val (.int p0_0), .val (.int p0_1), .val (.int p0_2), .val (.int p0_3), .unset, .unset, .unset, .unset, .unset, .unset, .unset, .unset] [(.ref b2)])) t → Steps p.tables e below (s₁.setTop (entryFrame m #[(.int p0_0), (.int p0_1), (.int p0_2), (.int p0_3)] maxLocals)) t := fun t k => pre5 t (st6 t k)
  have pre7 : ∀ t, Steps p.tables e below (T6.setTop (mkF m 17 #[.val (.int p0_0), .val (.int p0_1), .val (.int p0_2), .val (.int p0_3), .unset, .unset, .unset, .unset, .unset, .unset, .unset, .unset] [(.int (100 : Int32)), (.int (2 : Int32)), (.ref b2), (.ref b2)])) t → Steps p.tables e below (s₁.setTop (entryFrame m #[(.int p0_0), (.int p0_1), (.int p0_2), (.int p0_3)] maxLocals)) t := fun t k => pre6 t (by
    refine XS.dup X6.here hx rfl (hb hby at_13) rfl rfl ?_
    show Steps p.tables e below (T6.setTop (mkF m 14 #[.val (.int p0_0), .val (.int p0_1), .val (.int p0_2), .val (.int p0_3), .unset, .unset, .unset, .unset, .unset, .unset, .unset, .unset] [(.ref b2), (.ref b2)])) _
    refine XS.iconst X6.here hx rfl (hb hby at_14) ?_
    show Steps p.tables e below (T6.setTop (mkF m 15 #[.val (.int p0_0), .val (.int p0_1), .val (.int p0_2), .val (.int p0_3), .unset, .unset, .unset, .unset, .unset, .unset, .unset, .unset] [(.int (2 : Int32)), (.ref b2), (.ref b2)])) _
    refine XS.bipush X6.here hx rfl (hb hby at_15) ?_
    show Steps p.tables e below (T6.setTop (mkF m 17 #[.val (.int p0_0), .val (.int p0_1), .val (.int p0_2), .val (.int p0_3), .unset, .unset, .unset, .unset, .unset, .unset, .unset, .unset] [(.int (100 : Int32)), (.int (2 : Int32)), (.ref b2), (.ref b2)])) _
    exact k)
  obtain ⟨T8, h8, X8, e8, W8, B8, st8⟩ := own_stI X6 hx hZ e6 C6 (j := (2 : Int32)) (i := 2) (by decide) (by decide) (g := (mkF m 17 #[.val (.int p0_0), .val (.int p0_1), .val (.int p0_2), .val (.int p0_3), .unset, .unset, .unset, .unset, .unset, .unset, .unset, .unset] [(.int (100 : Int32)), (.int (2 : Int32)), (.ref b2), (.ref b2)])) rfl rfl (hb hby at_17)
  have N8 := Fr.snoc X8 N6 g_b2
  have Z8 : n0 ≤ h8.size := Nat.le_trans Z6 (Keep.of_wr W8).1
  have pre8 : ∀ t, Steps p.tables e below (T8.setTop (mkF m 18 #[.val (.int p0_0), .val (.int p0_1), .val (.int p0_2), .val (.int p0_3), .unset, .unset, .unset, .unset, .unset, .unset, .unset, .unset] [(.ref b2)])) t → Steps p.tables e below (s₁.setTop (entryFrame m #[(.int p0_0), (.int p0_1), (.int p0_2), (.int p0_3)] maxLocals)) t := fun t k => pre7 t (st8 t k)
  have pre9 : ∀ t, Steps p.tables e below (T8.setTop (mkF m 23 #[.val (.int p0_0), .val (.int p0_1), .val (.int p0_2), .val (.int p0_3), .unset, .unset, .unset, .unset, .unset, .unset, .unset, .unset] [(.int (1000 : Int32)), (.int (3 : Int32)), (.ref b2), (.ref b2)])) t → Steps p.tables e below (s₁.setTop (entryFrame m #[(.int p0_0), (.int p0_1), (.int p0_2), (.int p0_3)] maxLocals)) t := fun t k => pre8 t (by
    refine XS.dup X8.here hx rfl (hb hby at_18) rfl rfl ?_
    show Steps p.tables e below (T8.setTop (mkF m 19 #[.val (.int p0_0), .val (.int p0_1), .val (.int p0_2), .val (.int p0_3), .unset, .unset, .unset, .unset, .unset, .unset, .unset, .unset] [(.ref b2), (.ref b2)])) _
    refine XS.iconst X8.here hx rfl (hb hby at_19) ?_
    show Steps p.tables e below (T8.setTop (mkF m 20 #[.val (.int p0_0), .val (.int p0_1), .val (.int p0_2), .val (.int p0_3), .unset, .unset, .unset, .unset, .unset, .unset, .unset, .unset] [(.int (3 : Int32)), (.ref b2), (.ref b2)])) _
    refine XS.sipush X8.here hx rfl (hb hby at_20) ?_
    show Steps p.tables e below (T8.setTop (mkF m 23 #[.val (.int p0_0), .val (.int p0_1), .val (.int p0_2), .val (.int p0_3), .unset, .unset, .unset, .unset, .unset, .unset, .unset, .unset] [(.int (1000 : Int32)), (.int (3 : Int32)), (.ref b2), (.ref b2)])) _
    exact k)
  obtain ⟨T10, h10, X10, e10, W10, B10, st10⟩ := own_stI X8 hx hZ e8 B8 (j := (3 : Int32)) (i := 3) (by decide) (by decide) (g := (mkF m 23 #[.val (.int p0_0), .val (.int p0_1), .val (.int p0_2), .val (.int p0_3), .unset, .unset, .unset, .unset, .unset, .unset, .unset, .unset] [(.int (1000 : Int32)), (.int (3 : Int32)), (.ref b2), (.ref b2)])) rfl rfl (hb hby at_23)
  have N10 := Fr.snoc X10 N8 g_b2
  have Z10 : n0 ≤ h10.size := Nat.le_trans Z8 (Keep.of_wr W10).1
  have pre10 : ∀ t, Steps p.tables e below (T10.setTop (mkF m 24 #[.val (.int p0_0), .val (.int p0_1), .val (.int p0_2), .val (.int p0_3), .unset, .unset, .unset, .unset, .unset, .unset, .unset, .unset] [(.ref b2)])) t → Steps p.tables e below (s₁.setTop (entryFrame m #[(.int p0_0), (.int p0_1), (.int p0_2), (.int p0_3)] maxLocals)) t := fun t k => pre9 t (st10 t k)
  have pre11 : ∀ t, Steps p.tables e below (T10.setTop (mkF m 29 #[.val (.int p0_0), .val (.int p0_1), .val (.int p0_2), .val (.int p0_3), .unset, .unset, .unset, .unset, .unset, .unset, .unset, .unset] [(.int (10000 : Int32)), (.int (4 : Int32)), (.ref b2), (.ref b2)])) t → Steps p.tables e below (s₁.setTop (entryFrame m #[(.int p0_0), (.int p0_1), (.int p0_2), (.int p0_3)] maxLocals)) t := fun t k => pre10 t (by
    refine XS.dup X10.here hx rfl (hb hby at_24) rfl rfl ?_
    show Steps p.tables e below (T10.setTop (mkF m 25 #[.val (.int p0_0), .val (.int p0_1), .val (.int p0_2), .val (.int p0_3), .unset, .unset, .unset, .unset, .unset, .unset, .unset, .unset] [(.ref b2), (.ref b2)])) _
    refine XS.iconst X10.here hx rfl (hb hby at_25) ?_
    show Steps p.tables e below (T10.setTop (mkF m 26 #[.val (.int p0_0), .val (.int p0_1), .val (.int p0_2), .val (.int p0_3), .unset, .unset, .unset, .unset, .unset, .unset, .unset, .unset] [(.int (4 : Int32)), (.ref b2), (.ref b2)])) _
    refine XS.sipush X10.here hx rfl (hb hby at_26) ?_
    show Steps p.tables e below (T10.setTop (mkF m 29 #[.val (.int p0_0), .val (.int p0_1), .val (.int p0_2), .val (.int p0_3), .unset, .unset, .unset, .unset, .unset, .unset, .unset, .unset] [(.int (10000 : Int32)), (.int (4 : Int32)), (.ref b2), (.ref b2)])) _
    exact k)
  obtain ⟨T12, h12, X12, e12, W12, B12, st12⟩ := own_stI X10 hx hZ e10 B10 (j := (4 : Int32)) (i := 4) (by decide) (by decide) (g := (mkF m 29 #[.val (.int p0_0), .val (.int p0_1), .val (.int p0_2), .val (.int p0_3), .unset, .unset, .unset, .unset, .unset, .unset, .unset, .unset] [(.int (10000 : Int32)), (.int (4 : Int32)), (.ref b2), (.ref b2)])) rfl rfl (hb hby at_29)
  have N12 := Fr.snoc X12 N10 g_b2
  have Z12 : n0 ≤ h12.size := Nat.le_trans Z10 (Keep.of_wr W12).1
  have C12 : ArI Z h12 b2 .int 10 g0_29 := B12
  have pre12 : ∀ t, Steps p.tables e below (T12.setTop (mkF m 30 #[.val (.int p0_0), .val (.int p0_1), .val (.int p0_2), .val (.int p0_3), .unset, .unset, .unset, .unset, .unset, .unset, .unset, .unset] [(.ref b2)])) t → Steps p.tables e below (s₁.setTop (entryFrame m #[(.int p0_0), (.int p0_1), (.int p0_2), (.int p0_3)] maxLocals)) t := fun t k => pre11 t (st12 t k)
  have pre13 : ∀ t, Steps p.tables e below (T12.setTop (mkF m 34 #[.val (.int p0_0), .val (.int p0_1), .val (.int p0_2), .val (.int p0_3), .unset, .unset, .unset, .unset, .unset, .unset, .unset, .unset] [(.int (100000 : Int32)), (.int (5 : Int32)), (.ref b2), (.ref b2)])) t → Steps p.tables e below (s₁.setTop (entryFrame m #[(.int p0_0), (.int p0_1), (.int p0_2), (.int p0_3)] maxLocals)) t := fun t k => pre12 t (by
    refine XS.dup X12.here hx rfl (hb hby at_30) rfl rfl ?_
    show Steps p.tables e below (T12.setTop (mkF m 31 #[.val (.int p0_0), .val (.int p0_1), .val (.int p0_2), .val (.int p0_3), .unset, .unset, .unset, .unset, .unset, .unset, .unset, .unset] [(.ref b2), (.ref b2)])) _
    refine XS.iconst X12.here hx rfl (hb hby at_31) ?_
    show Steps p.tables e below (T12.setTop (mkF m 32 #[.val (.int p0_0), .val (.int p0_1), .val (.int p0_2), .val (.int p0_3), .unset, .unset, .unset, .unset, .unset, .unset, .unset, .unset] [(.int (5 : Int32)), (.ref b2), (.ref b2)])) _
    refine X12.ldcInt hx hown (mvT hZ (hw _ (List.mem_of_getElem? (i := 1) rfl))) (g := (mkF m 32 #[.val (.int p0_0), .val (.int p0_1), .val (.int p0_2), .val (.int p0_3), .unset, .unset, .unset, .unset, .unset, .unset, .unset, .unset] [(.int (5 : Int32)), (.ref b2), (.ref b2)])) rfl (hb hby at_32) _ ?_
    show Steps p.tables e below (T12.setTop (mkF m 34 #[.val (.int p0_0), .val (.int p0_1), .val (.int p0_2), .val (.int p0_3), .unset, .unset, .unset, .unset, .unset, .unset, .unset, .unset] [(.int (100000 : Int32)), (.int (5 : Int32)), (.ref b2), (.ref b2)])) _
    exact k)
  obtain ⟨T14, h14, X14, e14, W14, B14, st14⟩ := own_stI X12 hx hZ e12 C12 (j := (5 : Int32)) (i := 5) (by decide) (by decide) (g := (mkF m 34 #[.val (.int p0_0), .val (.int p0_1), .val (.int p0_2), .val (.int p0_3), .unset, .unset, .unset, .unset, .unset, .unset, .unset, .unset] [(.int (100000 : Int32)), (.int (5 : Int32)), (.ref b2), (.ref b2)])) rfl rfl (hb hby at_34)
  have N14 := Fr.snoc X14 N12 g_b2
  have Z14 : n0 ≤ h14.size := Nat.le_trans Z12 (Keep.of_wr W14).1
  have pre14 : ∀ t, Steps p.tables e below (T14.setTop (mkF m 35 #[.val (.int p0_0), .val (.int p0_1), .val (.int p0_2), .val (.int p0_3), .unset, .unset, .unset, .unset, .unset, .unset, .unset, .unset] [(.ref b2)])) t → Steps p.tables e below (s₁.setTop (entryFrame m #[(.int p0_0), (.int p0_1), (.int p0_2), (.int p0_3)] maxLocals)) t := fun t k => pre13 t (st14 t k)
  have pre15 : ∀ t, Steps p.tables e below (T14.setTop (mkF m 40 #[.val (.int p0_0), .val (.int p0_1), .val (.int p0_2), .val (.int p0_3), .unset, .unset, .unset, .unset, .unset, .unset, .unset, .unset] [(.int (1000000 : Int32)), (.int (6 : Int32)), (.ref b2), (.ref b2)])) t → Steps p.tables e below (s₁.setTop (entryFrame m #[(.int p0_0), (.int p0_1), (.int p0_2), (.int p0_3)] maxLocals)) t := fun t k => pre14 t (by
    refine XS.dup X14.here hx rfl (hb hby at_35) rfl rfl ?_
    show Steps p.tables e below (T14.setTop (mkF m 36 #[.val (.int p0_0), .val (.int p0_1), .val (.int p0_2), .val (.int p0_3), .unset, .unset, .unset, .unset, .unset, .unset, .unset, .unset] [(.ref b2), (.ref b2)])) _
    refine XS.bipush X14.here hx rfl (hb hby at_36) ?_
    show Steps p.tables e below (T14.setTop (mkF m 38 #[.val (.int p0_0), .val (.int p0_1), .val (.int p0_2), .val (.int p0_3), .unset, .unset, .unset, .unset, .unset, .unset, .unset, .unset] [(.int (6 : Int32)), (.ref b2), (.ref b2)])) _
    refine X14.ldcInt hx hown (mvT hZ (hw _ (List.mem_of_getElem? (i := 2) rfl))) (g := (mkF m 38 #[.val (.int p0_0), .val (.int p0_1), .val (.int p0_2), .val (.int p0_3), .unset, .unset, .unset, .unset, .unset, .unset, .unset, .unset] [(.int (6 : Int32)), (.ref b2), (.ref b2)])) rfl (hb hby at_38) _ ?_
    show Steps p.tables e below (T14.setTop (mkF m 40 #[.val (.int p0_0), .val (.int p0_1), .val (.int p0_2), .val (.int p0_3), .unset, .unset, .unset, .unset, .unset, .unset, .unset, .unset] [(.int (1000000 : Int32)), (.int (6 : Int32)), (.ref b2), (.ref b2)])) _
    exact k)
  obtain ⟨T16, h16, X16, e16, W16, B16, st16⟩ := own_stI X14 hx hZ e14 B14 (j := (6 : Int32)) (i := 6) (by decide) (by decide) (g := (mkF m 40 #[.val (.int p0_0), .val (.int p0_1), .val (.int p0_2), .val (.int p0_3), .unset, .unset, .unset, .unset, .unset, .unset, .unset, .unset] [(.int (1000000 : Int32)), (.int (6 : Int32)), (.ref b2), (.ref b2)])) rfl rfl (hb hby at_40)
  have N16 := Fr.snoc X16 N14 g_b2
  have Z16 : n0 ≤ h16.size := Nat.le_trans Z14 (Keep.of_wr W16).1
  have C16 : ArI Z h16 b2 .int 10 g0_40 := B16
  have pre16 : ∀ t, Steps p.tables e below (T16.setTop (mkF m 41 #[.val (.int p0_0), .val (.int p0_1), .val (.int p0_2), .val (.int p0_3), .unset, .unset, .unset, .unset, .unset, .unset, .unset, .unset] [(.ref b2)])) t → Steps p.tables e below (s₁.setTop (entryFrame m #[(.int p0_0), (.int p0_1), (.int p0_2), (.int p0_3)] maxLocals)) t := fun t k => pre15 t (st16 t k)
  have pre17 : ∀ t, Steps p.tables e below (T16.setTop (mkF m 46 #[.val (.int p0_0), .val (.int p0_1), .val (.int p0_2), .val (.int p0_3), .unset, .unset, .unset, .unset, .unset, .unset, .unset, .unset] [(.int (10000000 : Int32)), (.int (7 : Int32)), (.ref b2), (.ref b2)])) t → Steps p.tables e below (s₁.setTop (entryFrame m #[(.int p0_0), (.int p0_1), (.int p0_2), (.int p0_3)] maxLocals)) t := fun t k => pre16 t (by
    refine XS.dup X16.here hx rfl (hb hby at_41) rfl rfl ?_
    show Steps p.tables e below (T16.setTop (mkF m 42 #[.val (.int p0_0), .val (.int p0_1), .val (.int p0_2), .val (.int p0_3), .unset, .unset, .unset, .unset, .unset, .unset, .unset, .unset] [(.ref b2), (.ref b2)])) _
    refine XS.bipush X16.here hx rfl (hb hby at_42) ?_
    show Steps p.tables e below (T16.setTop (mkF m 44 #[.val (.int p0_0), .val (.int p0_1), .val (.int p0_2), .val (.int p0_3), .unset, .unset, .unset, .unset, .unset, .unset, .unset, .unset] [(.int (7 : Int32)), (.ref b2), (.ref b2)])) _
    refine X16.ldcInt hx hown (mvT hZ (hw _ (List.mem_of_getElem? (i := 3) rfl))) (g := (mkF m 44 #[.val (.int p0_0), .val (.int p0_1), .val (.int p0_2), .val (.int p0_3), .unset, .unset, .unset, .unset, .unset, .unset, .unset, .unset] [(.int (7 : Int32)), (.ref b2), (.ref b2)])) rfl (hb hby at_44) _ ?_
    show Steps p.tables e below (T16.setTop (mkF m 46 #[.val (.int p0_0), .val (.int p0_1), .val (.int p0_2), .val (.int p0_3), .unset, .unset, .unset, .unset, .unset, .unset, .unset, .unset] [(.int (10000000 : Int32)), (.int (7 : Int32)), (.ref b2), (.ref b2)])) _
    exact k)
  obtain ⟨T18, h18, X18, e18, W18, B18, st18⟩ := own_stI X16 hx hZ e16 C16 (j := (7 : Int32)) (i := 7) (by decide) (by decide) (g := (mkF m 46 #[.val (.int p0_0), .val (.int p0_1), .val (.int p0_2), .val (.int p0_3), .unset, .unset, .unset, .unset, .unset, .unset, .unset, .unset] [(.int (10000000 : Int32)), (.int (7 : Int32)), (.ref b2), (.ref b2)])) rfl rfl (hb hby at_46)
  have N18 := Fr.snoc X18 N16 g_b2
  have Z18 : n0 ≤ h18.size := Nat.le_trans Z16 (Keep.of_wr W18).1
  have pre18 : ∀ t, Steps p.tables e below (T18.setTop (mkF m 47 #[.val (.int p0_0), .val (.int p0_1), .val (.int p0_2), .val (.int p0_3), .unset, .unset, .unset, .unset, .unset, .unset, .unset, .unset] [(.ref b2)])) t → Steps p.tables e below (s₁.setTop (entryFrame m #[(.int p0_0), (.int p0_1), (.int p0_2), (.int p0_3)] maxLocals)) t := fun t k => pre17 t (st18 t k)
  have pre19 : ∀ t, Steps p.tables e below (T18.setTop (mkF m 52 #[.val (.int p0_0), .val (.int p0_1), .val (.int p0_2), .val (.int p0_3), .unset, .unset, .unset, .unset, .unset, .unset, .unset, .unset] [(.int (100000000 : Int32)), (.int (8 : Int32)), (.ref b2), (.ref b2)])) t → Steps p.tables e below (s₁.setTop (entryFrame m #[(.int p0_0), (.int p0_1), (.int p0_2), (.int p0_3)] maxLocals)) t := fun t k => pre18 t (by
    refine XS.dup X18.here hx rfl (hb hby at_47) rfl rfl ?_
    show Steps p.tables e below (T18.setTop (mkF m 48 #[.val (.int p0_0), .val (.int p0_1), .val (.int p0_2), .val (.int p0_3), .unset, .unset, .unset, .unset, .unset, .unset, .unset, .unset] [(.ref b2), (.ref b2)])) _
    refine XS.bipush X18.here hx rfl (hb hby at_48) ?_
    show Steps p.tables e below (T18.setTop (mkF m 50 #[.val (.int p0_0), .val (.int p0_1), .val (.int p0_2), .val (.int p0_3), .unset, .unset, .unset, .unset, .unset, .unset, .unset, .unset] [(.int (8 : Int32)), (.ref b2), (.ref b2)])) _
    refine X18.ldcInt hx hown (mvT hZ (hw _ (List.mem_of_getElem? (i := 4) rfl))) (g := (mkF m 50 #[.val (.int p0_0), .val (.int p0_1), .val (.int p0_2), .val (.int p0_3), .unset, .unset, .unset, .unset, .unset, .unset, .unset, .unset] [(.int (8 : Int32)), (.ref b2), (.ref b2)])) rfl (hb hby at_50) _ ?_
    show Steps p.tables e below (T18.setTop (mkF m 52 #[.val (.int p0_0), .val (.int p0_1), .val (.int p0_2), .val (.int p0_3), .unset, .unset, .unset, .unset, .unset, .unset, .unset, .unset] [(.int (100000000 : Int32)), (.int (8 : Int32)), (.ref b2), (.ref b2)])) _
    exact k)
  obtain ⟨T20, h20, X20, e20, W20, B20, st20⟩ := own_stI X18 hx hZ e18 B18 (j := (8 : Int32)) (i := 8) (by decide) (by decide) (g := (mkF m 52 #[.val (.int p0_0), .val (.int p0_1), .val (.int p0_2), .val (.int p0_3), .unset, .unset, .unset, .unset, .unset, .unset, .unset, .unset] [(.int (100000000 : Int32)), (.int (8 : Int32)), (.ref b2), (.ref b2)])) rfl rfl (hb hby at_52)
  have N20 := Fr.snoc X20 N18 g_b2
  have Z20 : n0 ≤ h20.size := Nat.le_trans Z18 (Keep.of_wr W20).1
  have C20 : ArI Z h20 b2 .int 10 g0_52 := B20
  have pre20 : ∀ t, Steps p.tables e below (T20.setTop (mkF m 53 #[.val (.int p0_0), .val (.int p0_1), .val (.int p0_2), .val (.int p0_3), .unset, .unset, .unset, .unset, .unset, .unset, .unset, .unset] [(.ref b2)])) t → Steps p.tables e below (s₁.setTop (entryFrame m #[(.int p0_0), (.int p0_1), (.int p0_2), (.int p0_3)] maxLocals)) t := fun t k => pre19 t (st20 t k)
  have pre21 : ∀ t, Steps p.tables e below (T20.setTop (mkF m 58 #[.val (.int p0_0), .val (.int p0_1), .val (.int p0_2), .val (.int p0_3), .unset, .unset, .unset, .unset, .unset, .unset, .unset, .unset] [(.int (1000000000 : Int32)), (.int (9 : Int32)), (.ref b2), (.ref b2)])) t → Steps p.tables e below (s₁.setTop (entryFrame m #[(.int p0_0), (.int p0_1), (.int p0_2), (.int p0_3)] maxLocals)) t := fun t k => pre20 t (by
    refine XS.dup X20.here hx rfl (hb hby at_53) rfl rfl ?_
    show Steps p.tables e below (T20.setTop (mkF m 54 #[.val (.int p0_0), .val (.int p0_1), .val (.int p0_2), .val (.int p0_3), .unset, .unset, .unset, .unset, .unset, .unset, .unset, .unset] [(.ref b2), (.ref b2)])) _
    refine XS.bipush X20.here hx rfl (hb hby at_54) ?_
    show Steps p.tables e below (T20.setTop (mkF m 56 #[.val (.int p0_0), .val (.int p0_1), .val (.int p0_2), .val (.int p0_3), .unset, .unset, .unset, .unset, .unset, .unset, .unset, .unset] [(.int (9 : Int32)), (.ref b2), (.ref b2)])) _
    refine X20.ldcInt hx hown (mvT hZ (hw _ (List.mem_of_getElem? (i := 5) rfl))) (g := (mkF m 56 #[.val (.int p0_0), .val (.int p0_1), .val (.int p0_2), .val (.int p0_3), .unset, .unset, .unset, .unset, .unset, .unset, .unset, .unset] [(.int (9 : Int32)), (.ref b2), (.ref b2)])) rfl (hb hby at_56) _ ?_
    show Steps p.tables e below (T20.setTop (mkF m 58 #[.val (.int p0_0), .val (.int p0_1), .val (.int p0_2), .val (.int p0_3), .unset, .unset, .unset, .unset, .unset, .unset, .unset, .unset] [(.int (1000000000 : Int32)), (.int (9 : Int32)), (.ref b2), (.ref b2)])) _
    exact k)
  obtain ⟨T22, h22, X22, e22, W22, B22, st22⟩ := own_stI X20 hx hZ e20 C20 (j := (9 : Int32)) (i := 9) (by decide) (by decide) (g := (mkF m 58 #[.val (.int p0_0), .val (.int p0_1), .val (.int p0_2), .val (.int p0_3), .unset, .unset, .unset, .unset, .unset, .unset, .unset, .unset] [(.int (1000000000 : Int32)), (.int (9 : Int32)), (.ref b2), (.ref b2)])) rfl rfl (hb hby at_58)
  have N22 := Fr.snoc X22 N20 g_b2
  have Z22 : n0 ≤ h22.size := Nat.le_trans Z20 (Keep.of_wr W22).1
  have pre22 : ∀ t, Steps p.tables e below (T22.setTop (mkF m 59 #[.val (.int p0_0), .val (.int p0_1), .val (.int p0_2), .val (.int p0_3), .unset, .unset, .unset, .unset, .unset, .unset, .unset, .unset] [(.ref b2)])) t → Steps p.tables e below (s₁.setTop (entryFrame m #[(.int p0_0), (.int p0_1), (.int p0_2), (.int p0_3)] maxLocals)) t := fun t k => pre21 t (st22 t k)
  have pre23 : ∀ t, Steps p.tables e below (T22.setTop (mkF m 77 #[.val (.int p0_0), .val (.int p0_1), .val (.int p0_2), .val (.int p0_3), .val (.ref b2), .val (.int (v0_68 p0_0)), .unset, .unset, .unset, .unset, .unset, .unset] [(.int ((10 : Int32) - (v0_68 p0_0))), (.int (9 : Int32))])) t → Steps p.tables e below (s₁.setTop (entryFrame m #[(.int p0_0), (.int p0_1), (.int p0_2), (.int p0_3)] maxLocals)) t := fun t k => pre22 t (by
    refine XS.astore X22.here hx rfl (hb hby at_59) rfl rfl (l' := #[.val (.int p0_0), .val (.int p0_1), .val (.int p0_2), .val (.int p0_3), .val (.ref b2), .unset, .unset, .unset, .unset, .unset, .unset, .unset]) rfl ?_
    show Steps p.tables e below (T22.setTop (mkF m 61 #[.val (.int p0_0), .val (.int p0_1), .val (.int p0_2), .val (.int p0_3), .val (.ref b2), .unset, .unset, .unset, .unset, .unset, .unset, .unset] [])) _
    refine XS.iloadN X22.here hx rfl (hb hby at_61) rfl ?_
    show Steps p.tables e below (T22.setTop (mkF m 62 #[.val (.int p0_0), .val (.int p0_1), .val (.int p0_2), .val (.int p0_3), .val (.ref b2), .unset, .unset, .unset, .unset, .unset, .unset, .unset] [(.int p0_0)])) _
    refine X22.ldcInt hx hown (mvT hZ (hw _ (List.mem_of_getElem? (i := 6) rfl))) (g := (mkF m 62 #[.val (.int p0_0), .val (.int p0_1), .val (.int p0_2), .val (.int p0_3), .val (.ref b2), .unset, .unset, .unset, .unset, .unset, .unset, .unset] [(.int p0_0)])) rfl (hb hby at_62) _ ?_
    show Steps p.tables e below (T22.setTop (mkF m 64 #[.val (.int p0_0), .val (.int p0_1), .val (.int p0_2), .val (.int p0_3), .val (.ref b2), .unset, .unset, .unset, .unset, .unset, .unset, .unset] [(.int (2147483647 : Int32)), (.int p0_0)])) _
    refine XS.iand X22.here hx rfl (hb hby at_64) rfl ?_
    show Steps p.tables e below (T22.setTop (mkF m 65 #[.val (.int p0_0), .val (.int p0_1), .val (.int p0_2), .val (.int p0_3), .val (.ref b2), .unset, .unset, .unset, .unset, .unset, .unset, .unset] [(.int (p0_0 &&& (2147483647 : Int32)))])) _
    refine XS.bipush X22.here hx rfl (hb hby at_65) ?_
    show Steps p.tables e below (T22.setTop (mkF m 67 #[.val (.int p0_0), .val (.int p0_1), .val (.int p0_2), .val (.int p0_3), .val (.ref b2), .unset, .unset, .unset, .unset, .unset, .unset, .unset] [(.int (11 : Int32)), (.int (p0_0 &&& (2147483647 : Int32)))])) _
    refine iremM (g := (mkF m 67 #[.val (.int p0_0), .val (.int p0_1), .val (.int p0_2), .val (.int p0_3), .val (.ref b2), .unset, .unset, .unset, .unset, .unset, .unset, .unset] [(.int (11 : Int32)), (.int (p0_0 &&& (2147483647 : Int32)))])) X22 hx rfl (hb hby at_67) rfl (by decide) ?_
    show Steps p.tables e below (T22.setTop (mkF m 68 #[.val (.int p0_0), .val (.int p0_1), .val (.int p0_2), .val (.int p0_3), .val (.ref b2), .unset, .unset, .unset, .unset, .unset, .unset, .unset] [(.int ((p0_0 &&& (2147483647 : Int32)) % (11 : Int32)))])) _
    show Steps p.tables e below (T22.setTop (mkF m 68 #[.val (.int p0_0), .val (.int p0_1), .val (.int p0_2), .val (.int p0_3), .val (.ref b2), .unset, .unset, .unset, .unset, .unset, .unset, .unset] [(.int (v0_68 p0_0))])) _
    refine XS.istore X22.here hx rfl (hb hby at_68) rfl (l' := #[.val (.int p0_0), .val (.int p0_1), .val (.int p0_2), .val (.int p0_3), .val (.ref b2), .val (.int (v0_68 p0_0)), .unset, .unset, .unset, .unset, .unset, .unset]) rfl ?_
    show Steps p.tables e below (T22.setTop (mkF m 70 #[.val (.int p0_0), .val (.int p0_1), .val (.int p0_2), .val (.int p0_3), .val (.ref b2), .val (.int (v0_68 p0_0)), .unset, .unset, .unset, .unset, .unset, .unset] [])) _
    refine XS.bipush X22.here hx rfl (hb hby at_70) ?_
    show Steps p.tables e below (T22.setTop (mkF m 72 #[.val (.int p0_0), .val (.int p0_1), .val (.int p0_2), .val (.int p0_3), .val (.ref b2), .val (.int (v0_68 p0_0)), .unset, .unset, .unset, .unset, .unset, .unset] [(.int (9 : Int32))])) _
    refine XS.bipush X22.here hx rfl (hb hby at_72) ?_
    show Steps p.tables e below (T22.setTop (mkF m 74 #[.val (.int p0_0), .val (.int p0_1), .val (.int p0_2), .val (.int p0_3), .val (.ref b2), .val (.int (v0_68 p0_0)), .unset, .unset, .unset, .unset, .unset, .unset] [(.int (10 : Int32)), (.int (9 : Int32))])) _
    refine XS.iload X22.here hx rfl (hb hby at_74) rfl ?_
    show Steps p.tables e below (T22.setTop (mkF m 76 #[.val (.int p0_0), .val (.int p0_1), .val (.int p0_2), .val (.int p0_3), .val (.ref b2), .val (.int (v0_68 p0_0)), .unset, .unset, .unset, .unset, .unset, .unset] [(.int (v0_68 p0_0)), (.int (10 : Int32)), (.int (9 : Int32))])) _
    refine XS.isub X22.here hx rfl (hb hby at_76) rfl ?_
    show Steps p.tables e below (T22.setTop (mkF m 77 #[.val (.int p0_0), .val (.int p0_1), .val (.int p0_2), .val (.int p0_3), .val (.ref b2), .val (.int (v0_68 p0_0)), .unset, .unset, .unset, .unset, .unset, .unset] [(.int ((10 : Int32) - (v0_68 p0_0))), (.int (9 : Int32))])) _
    exact k)
  obtain ⟨_, _, ⟨T24, L24, k24, n24⟩, -, X24, ⟨Lc24, hQ24, l24, y24, z24⟩, st24⟩ := Jvm.LawKit.callS X22 hx (y := (⟨"java/lang/Math", "min", "(II)I"⟩ : MethodName)) hown (mvT hZ (hw _ (List.mem_of_getElem? (i := 7) rfl))) (mvT hZ (hw _ (List.mem_of_getElem? (i := 8) rfl))) (mvT hZ (hw _ (List.mem_of_getElem? (i := 9) rfl))) (mvT hZ (hw _ (List.mem_of_getElem? (i := 10) rfl))) (by decide) (backOf (W := 0) (rm1 l Z a0 hw [] (9 : Int32) ((10 : Int32) - (v0_68 p0_0)) h22 n0 Z22 ) hZ (hw _ (List.mem_of_getElem? (i := 10) rfl)) (hw _ (List.mem_of_getElem? (i := 9) rfl)) (by decide) (by decide)) (g := (mkF m 77 #[.val (.int p0_0), .val (.int p0_1), .val (.int p0_2), .val (.int p0_3), .val (.ref b2), .val (.int (v0_68 p0_0)), .unset, .unset, .unset, .unset, .unset, .unset] [(.int ((10 : Int32) - (v0_68 p0_0))), (.int (9 : Int32))])) rfl (by rw [hml]; rfl) (argsL := [(.int (9 : Int32)), (.int ((10 : Int32) - (v0_68 p0_0)))]) (rest := []) (lenOf pd_0 rfl) rfl (by show 2 * 0 + _ ≤ _; exact Nat.le_of_eq rfl) (hb hby at_77) (fun _ _ => ⟨rfl, e22, (by decide : 1 + 0 ≤ _), (by decide : 10 + 0 ≤ _)⟩)
  dsimp only [Pt.U, Pt.locs, Pt.cells, Pt.slots] at X24 l24 y24 z24 st24 hQ24
  rw [l24, y24, z24] at X24
  obtain ⟨rfl, M24, e24⟩ := hQ24
  have N24 := Fr.app N22 M24
  replace X24 : Stand p l e room_1 s m #[(.int p0_0), (.int p0_1), (.int p0_2), (.int p0_3)] below meth c T24 _ 1 10 := X24
  have pre24 : ∀ t, Steps p.tables e below (T24.setTop (mkF m 80 #[.val (.int p0_0), .val (.int p0_1), .val (.int p0_2), .val (.int p0_3), .val (.ref b2), .val (.int (v0_68 p0_0)), .unset, .unset, .unset, .unset, .unset, .unset] [(.int (r1 (9 : Int32) ((10 : Int32) - (v0_68 p0_0))))])) t → Steps p.tables e below (s₁.setTop (entryFrame m #[(.int p0_0), (.int p0_1), (.int p0_2), (.int p0_3)] maxLocals)) t := fun t k => pre23 t (st24 t k)
  have pre25 : ∀ t, Steps p.tables e below (T24.setTop (mkF m 122 #[.val (.int p0_0), .val (.int p0_1), .val (.int p0_2), .val (.int p0_3), .val (.ref b2), .val (.int (v0_68 p0_0)), .val (.int (v0_80 p0_0)), .val (.int (v0_91 p0_0 p0_1)), .val (.int (v0_98 p0_0 p0_1)), .val (.int (v0_110 p0_0 p0_1 p0_2)), .val (.int (v0_118 p0_3)), .unset] [(.int (10 : Int32))])) t → Steps p.tables e below (s₁.setTop (entryFrame m #[(.int p0_0), (.int p0_1), (.int p0_2), (.int p0_3)] maxLocals)) t := fun t k => pre24 t (by
    show Steps p.tables e below (T24.setTop (mkF m 80 #[.val (.int p0_0), .val (.int p0_1), .val (.int p0_2), .val (.int p0_3), .val (.ref b2), .val (.int (v0_68 p0_0)), .unset, .unset, .unset, .unset, .unset, .unset] [(.int (v0_80 p0_0))])) _
    refine XS.istore X24.here hx rfl (hb hby at_80) rfl (l' := #[.val (.int p0_0), .val (.int p0_1), .val (.int p0_2), .val (.int p0_3), .val (.ref b2), .val (.int (v0_68 p0_0)), .val (.int (v0_80 p0_0)), .unset, .unset, .unset, .unset, .unset]) rfl ?_
    show Steps p.tables e below (T24.setTop (mkF m 82 #[.val (.int p0_0), .val (.int p0_1), .val (.int p0_2), .val (.int p0_3), .val (.ref b2), .val (.int (v0_68 p0_0)), .val (.int (v0_80 p0_0)), .unset, .unset, .unset, .unset, .unset] [])) _
    refine XS.iloadN X24.here hx rfl (hb hby at_82) rfl ?_
    show Steps p.tables e below (T24.setTop (mkF m 83 #[.val (.int p0_0), .val (.int p0_1), .val (.int p0_2), .val (.int p0_3), .val (.ref b2), .val (.int (v0_68 p0_0)), .val (.int (v0_80 p0_0)), .unset, .unset, .unset, .unset, .unset] [(.int p0_1)])) _
    refine X24.ldcInt hx hown (mvT hZ (hw _ (List.mem_of_getElem? (i := 6) rfl))) (g := (mkF m 83 #[.val (.int p0_0), .val (.int p0_1), .val (.int p0_2), .val (.int p0_3), .val (.ref b2), .val (.int (v0_68 p0_0)), .val (.int (v0_80 p0_0)), .unset, .unset, .unset, .unset, .unset] [(.int p0_1)])) rfl (hb hby at_83) _ ?_
    show Steps p.tables e below (T24.setTop (mkF m 85 #[.val (.int p0_0), .val (.int p0_1), .val (.int p0_2), .val (.int p0_3), .val (.ref b2), .val (.int (v0_68 p0_0)), .val (.int (v0_80 p0_0)), .unset, .unset, .unset, .unset, .unset] [(.int (2147483647 : Int32)), (.int p0_1)])) _
    refine XS.iand X24.here hx rfl (hb hby at_85) rfl ?_
    show Steps p.tables e below (T24.setTop (mkF m 86 #[.val (.int p0_0), .val (.int p0_1), .val (.int p0_2), .val (.int p0_3), .val (.ref b2), .val (.int (v0_68 p0_0)), .val (.int (v0_80 p0_0)), .unset, .unset, .unset, .unset, .unset] [(.int (p0_1 &&& (2147483647 : Int32)))])) _
    refine XS.iload X24.here hx rfl (hb hby at_86) rfl ?_
    show Steps p.tables e below (T24.setTop (mkF m 88 #[.val (.int p0_0), .val (.int p0_1), .val (.int p0_2), .val (.int p0_3), .val (.ref b2), .val (.int (v0_68 p0_0)), .val (.int (v0_80 p0_0)), .unset, .unset, .unset, .unset, .unset] [(.int (v0_80 p0_0)), (.int (p0_1 &&& (2147483647 : Int32)))])) _
    refine XS.iconst X24.here hx rfl (hb hby at_88) ?_
    show Steps p.tables e below (T24.setTop (mkF m 89 #[.val (.int p0_0), .val (.int p0_1), .val (.int p0_2), .val (.int p0_3), .val (.ref b2), .val (.int (v0_68 p0_0)), .val (.int (v0_80 p0_0)), .unset, .unset, .unset, .unset, .unset] [(.int (1 : Int32)), (.int (v0_80 p0_0)), (.int (p0_1 &&& (2147483647 : Int32)))])) _
    refine XS.iadd X24.here hx rfl (hb hby at_89) rfl ?_
    show Steps p.tables e below (T24.setTop (mkF m 90 #[.val (.int p0_0), .val (.int p0_1), .val (.int p0_2), .val (.int p0_3), .val (.ref b2), .val (.int (v0_68 p0_0)), .val (.int (v0_80 p0_0)), .unset, .unset, .unset, .unset, .unset] [(.int ((v0_80 p0_0) + (1 : Int32))), (.int (p0_1 &&& (2147483647 : Int32)))])) _
    refine iremM (g := (mkF m 90 #[.val (.int p0_0), .val (.int p0_1), .val (.int p0_2), .val (.int p0_3), .val (.ref b2), .val (.int (v0_68 p0_0)), .val (.int (v0_80 p0_0)), .unset, .unset, .unset, .unset, .unset] [(.int ((v0_80 p0_0) + (1 : Int32))), (.int (p0_1 &&& (2147483647 : Int32)))])) X24 hx rfl (hb hby at_90) rfl (own_nz1 p0_0) ?_
    show Steps p.tables e below (T24.setTop (mkF m 91 #[.val (.int p0_0), .val (.int p0_1), .val (.int p0_2), .val (.int p0_3), .val (.ref b2), .val (.int (v0_68 p0_0)), .val (.int (v0_80 p0_0)), .unset, .unset, .unset, .unset, .unset] [(.int ((p0_1 &&& (2147483647 : Int32)) % ((v0_80 p0_0) + (1 : Int32))))])) _
    show Steps p.tables e below (T24.setTop (mkF m 91 #[.val (.int p0_0), .val (.int p0_1), .val (.int p0_2), .val (.int p0_3), .val (.ref b2), .val (.int (v0_68 p0_0)), .val (.int (v0_80 p0_0)), .unset, .unset, .unset, .unset, .unset] [(.int (v0_91 p0_0 p0_1))])) _
    refine XS.istore X24.here hx rfl (hb hby at_91) rfl (l' := #[.val (.int p0_0), .val (.int p0_1), .val (.int p0_2), .val (.int p0_3), .val (.ref b2), .val (.int (v0_68 p0_0)), .val (.int (v0_80 p0_0)), .val (.int (v0_91 p0_0 p0_1)), .unset, .unset, .unset, .unset]) rfl ?_
    show Steps p.tables e below (T24.setTop (mkF m 93 #[.val (.int p0_0), .val (.int p0_1), .val (.int p0_2), .val (.int p0_3), .val (.ref b2), .val (.int (v0_68 p0_0)), .val (.int (v0_80 p0_0)), .val (.int (v0_91 p0_0 p0_1)), .unset, .unset, .unset, .unset] [])) _
    refine XS.iload X24.here hx rfl (hb hby at_93) rfl ?_
    show Steps p.tables e below (T24.setTop (mkF m 95 #[.val (.int p0_0), .val (.int p0_1), .val (.int p0_2), .val (.int p0_3), .val (.ref b2), .val (.int (v0_68 p0_0)), .val (.int (v0_80 p0_0)), .val (.int (v0_91 p0_0 p0_1)), .unset, .unset, .unset, .unset] [(.int (v0_68 p0_0))])) _
    refine XS.iload X24.here hx rfl (hb hby at_95) rfl ?_
    show Steps p.tables e below (T24.setTop (mkF m 97 #[.val (.int p0_0), .val (.int p0_1), .val (.int p0_2), .val (.int p0_3), .val (.ref b2), .val (.int (v0_68 p0_0)), .val (.int (v0_80 p0_0)), .val (.int (v0_91 p0_0 p0_1)), .unset, .unset, .unset, .unset] [(.int (v0_91 p0_0 p0_1)), (.int (v0_68 p0_0))])) _
    refine XS.iadd X24.here hx rfl (hb hby at_97) rfl ?_
    show Steps p.tables e below (T24.setTop (mkF m 98 #[.val (.int p0_0), .val (.int p0_1), .val (.int p0_2), .val (.int p0_3), .val (.ref b2), .val (.int (v0_68 p0_0)), .val (.int (v0_80 p0_0)), .val (.int (v0_91 p0_0 p0_1)), .unset, .unset, .unset, .unset] [(.int ((v0_68 p0_0) + (v0_91 p0_0 p0_1)))])) _
    show Steps p.tables e below (T24.setTop (mkF m 98 #[.val (.int p0_0), .val (.int p0_1), .val (.int p0_2), .val (.int p0_3), .val (.ref b2), .val (.int (v0_68 p0_0)), .val (.int (v0_80 p0_0)), .val (.int (v0_91 p0_0 p0_1)), .unset, .unset, .unset, .unset] [(.int (v0_98 p0_0 p0_1))])) _
    refine XS.istore X24.here hx rfl (hb hby at_98) rfl (l' := #[.val (.int p0_0), .val (.int p0_1), .val (.int p0_2), .val (.int p0_3), .val (.ref b2), .val (.int (v0_68 p0_0)), .val (.int (v0_80 p0_0)), .val (.int (v0_91 p0_0 p0_1)), .val (.int (v0_98 p0_0 p0_1)), .unset, .unset, .unset]) rfl ?_
    show Steps p.tables e below (T24.setTop (mkF m 100 #[.val (.int p0_0), .val (.int p0_1), .val (.int p0_2), .val (.int p0_3), .val (.ref b2), .val (.int (v0_68 p0_0)), .val (.int (v0_80 p0_0)), .val (.int (v0_91 p0_0 p0_1)), .val (.int (v0_98 p0_0 p0_1)), .unset, .unset, .unset] [])) _
    refine XS.iloadN X24.here hx rfl (hb hby at_100) rfl ?_
    show Steps p.tables e below (T24.setTop (mkF m 101 #[.val (.int p0_0), .val (.int p0_1), .val (.int p0_2), .val (.int p0_3), .val (.ref b2), .val (.int (v0_68 p0_0)), .val (.int (v0_80 p0_0)), .val (.int (v0_91 p0_0 p0_1)), .val (.int (v0_98 p0_0 p0_1)), .unset, .unset, .unset] [(.int p0_2)])) _
    refine X24.ldcInt hx hown (mvT hZ (hw _ (List.mem_of_getElem? (i := 6) rfl))) (g := (mkF m 101 #[.val (.int p0_0), .val (.int p0_1), .val (.int p0_2), .val (.int p0_3), .val (.ref b2), .val (.int (v0_68 p0_0)), .val (.int (v0_80 p0_0)), .val (.int (v0_91 p0_0 p0_1)), .val (.int (v0_98 p0_0 p0_1)), .unset, .unset, .unset] [(.int p0_2)])) rfl (hb hby at_101) _ ?_
    show Steps p.tables e below (T24.setTop (mkF m 103 #[.val (.int p0_0), .val (.int p0_1), .val (.int p0_2), .val (.int p0_3), .val (.ref b2), .val (.int (v0_68 p0_0)), .val (.int (v0_80 p0_0)), .val (.int (v0_91 p0_0 p0_1)), .val (.int (v0_98 p0_0 p0_1)), .unset, .unset, .unset] [(.int (2147483647 : Int32)), (.int p0_2)])) _
    refine XS.iand X24.here hx rfl (hb hby at_103) rfl ?_
    show Steps p.tables e below (T24.setTop (mkF m 104 #[.val (.int p0_0), .val (.int p0_1), .val (.int p0_2), .val (.int p0_3), .val (.ref b2), .val (.int (v0_68 p0_0)), .val (.int (v0_80 p0_0)), .val (.int (v0_91 p0_0 p0_1)), .val (.int (v0_98 p0_0 p0_1)), .unset, .unset, .unset] [(.int (p0_2 &&& (2147483647 : Int32)))])) _
    refine XS.aload X24.here hx rfl (hb hby at_104) rfl rfl ?_
    show Steps p.tables e below (T24.setTop (mkF m 106 #[.val (.int p0_0), .val (.int p0_1), .val (.int p0_2), .val (.int p0_3), .val (.ref b2), .val (.int (v0_68 p0_0)), .val (.int (v0_80 p0_0)), .val (.int (v0_91 p0_0 p0_1)), .val (.int (v0_98 p0_0 p0_1)), .unset, .unset, .unset] [(.ref b2), (.int (p0_2 &&& (2147483647 : Int32)))])) _
    refine XS.iload X24.here hx rfl (hb hby at_106) rfl ?_
    show Steps p.tables e below (T24.setTop (mkF m 108 #[.val (.int p0_0), .val (.int p0_1), .val (.int p0_2), .val (.int p0_3), .val (.ref b2), .val (.int (v0_68 p0_0)), .val (.int (v0_80 p0_0)), .val (.int (v0_91 p0_0 p0_1)), .val (.int (v0_98 p0_0 p0_1)), .unset, .unset, .unset] [(.int (v0_91 p0_0 p0_1)), (.ref b2), (.int (p0_2 &&& (2147483647 : Int32)))])) _
    refine own_ldI X24 hx hZ e24 B22 (j := (v0_91 p0_0 p0_1)) (i := (own_wd p0_0 p0_1)) (own_ixw p0_0 p0_1) (by exact own_wl p0_0 p0_1) (g := (mkF m 108 #[.val (.int p0_0), .val (.int p0_1), .val (.int p0_2), .val (.int p0_3), .val (.ref b2), .val (.int (v0_68 p0_0)), .val (.int (v0_80 p0_0)), .val (.int (v0_91 p0_0 p0_1)), .val (.int (v0_98 p0_0 p0_1)), .unset, .unset, .unset] [(.int (v0_91 p0_0 p0_1)), (.ref b2), (.int (p0_2 &&& (2147483647 : Int32)))])) rfl rfl (hb hby at_108) _ ?_
    show Steps p.tables e below (T24.setTop (mkF m 109 #[.val (.int p0_0), .val (.int p0_1), .val (.int p0_2), .val (.int p0_3), .val (.ref b2), .val (.int (v0_68 p0_0)), .val (.int (v0_80 p0_0)), .val (.int (v0_91 p0_0 p0_1)), .val (.int (v0_98 p0_0 p0_1)), .unset, .unset, .unset] [(.int ((own_upd g0_52 9 (1000000000 : Int32)) (own_wd p0_0 p0_1))), (.int (p0_2 &&& (2147483647 : Int32)))])) _
    refine iremM (g := (mkF m 109 #[.val (.int p0_0), .val (.int p0_1), .val (.int p0_2), .val (.int p0_3), .val (.ref b2), .val (.int (v0_68 p0_0)), .val (.int (v0_80 p0_0)), .val (.int (v0_91 p0_0 p0_1)), .val (.int (v0_98 p0_0 p0_1)), .unset, .unset, .unset] [(.int ((own_upd g0_52 9 (1000000000 : Int32)) (own_wd p0_0 p0_1))), (.int (p0_2 &&& (2147483647 : Int32)))])) X24 hx rfl (hb hby at_109) rfl (own_nz2 p0_0 p0_1) ?_
    show Steps p.tables e below (T24.setTop (mkF m 110 #[.val (.int p0_0), .val (.int p0_1), .val (.int p0_2), .val (.int p0_3), .val (.ref b2), .val (.int (v0_68 p0_0)), .val (.int (v0_80 p0_0)), .val (.int (v0_91 p0_0 p0_1)), .val (.int (v0_98 p0_0 p0_1)), .unset, .unset, .unset] [(.int ((p0_2 &&& (2147483647 : Int32)) % ((own_upd g0_52 9 (1000000000 : Int32)) (own_wd p0_0 p0_1))))])) _
    show Steps p.tables e below (T24.setTop (mkF m 110 #[.val (.int p0_0), .val (.int p0_1), .val (.int p0_2), .val (.int p0_3), .val (.ref b2), .val (.int (v0_68 p0_0)), .val (.int (v0_80 p0_0)), .val (.int (v0_91 p0_0 p0_1)), .val (.int (v0_98 p0_0 p0_1)), .unset, .unset, .unset] [(.int (v0_110 p0_0 p0_1 p0_2))])) _
    refine XS.istore X24.here hx rfl (hb hby at_110) rfl (l' := #[.val (.int p0_0), .val (.int p0_1), .val (.int p0_2), .val (.int p0_3), .val (.ref b2), .val (.int (v0_68 p0_0)), .val (.int (v0_80 p0_0)), .val (.int (v0_91 p0_0 p0_1)), .val (.int (v0_98 p0_0 p0_1)), .val (.int (v0_110 p0_0 p0_1 p0_2)), .unset, .unset]) rfl ?_
    show Steps p.tables e below (T24.setTop (mkF m 112 #[.val (.int p0_0), .val (.int p0_1), .val (.int p0_2), .val (.int p0_3), .val (.ref b2), .val (.int (v0_68 p0_0)), .val (.int (v0_80 p0_0)), .val (.int (v0_91 p0_0 p0_1)), .val (.int (v0_98 p0_0 p0_1)), .val (.int (v0_110 p0_0 p0_1 p0_2)), .unset, .unset] [])) _
    refine XS.iloadN X24.here hx rfl (hb hby at_112) rfl ?_
    show Steps p.tables e below (T24.setTop (mkF m 113 #[.val (.int p0_0), .val (.int p0_1), .val (.int p0_2), .val (.int p0_3), .val (.ref b2), .val (.int (v0_68 p0_0)), .val (.int (v0_80 p0_0)), .val (.int (v0_91 p0_0 p0_1)), .val (.int (v0_98 p0_0 p0_1)), .val (.int (v0_110 p0_0 p0_1 p0_2)), .unset, .unset] [(.int p0_3)])) _
    refine XS.sipush X24.here hx rfl (hb hby at_113) ?_
    show Steps p.tables e below (T24.setTop (mkF m 116 #[.val (.int p0_0), .val (.int p0_1), .val (.int p0_2), .val (.int p0_3), .val (.ref b2), .val (.int (v0_68 p0_0)), .val (.int (v0_80 p0_0)), .val (.int (v0_91 p0_0 p0_1)), .val (.int (v0_98 p0_0 p0_1)), .val (.int (v0_110 p0_0 p0_1 p0_2)), .unset, .unset] [(.int (255 : Int32)), (.int p0_3)])) _
    refine XS.iand X24.here hx rfl (hb hby at_116) rfl ?_
    show Steps p.tables e below (T24.setTop (mkF m 117 #[.val (.int p0_0), .val (.int p0_1), .val (.int p0_2), .val (.int p0_3), .val (.ref b2), .val (.int (v0_68 p0_0)), .val (.int (v0_80 p0_0)), .val (.int (v0_91 p0_0 p0_1)), .val (.int (v0_98 p0_0 p0_1)), .val (.int (v0_110 p0_0 p0_1 p0_2)), .unset, .unset] [(.int (p0_3 &&& (255 : Int32)))])) _
    refine XS.i2c X24.here hx rfl (hb hby at_117) rfl ?_
    show Steps p.tables e below (T24.setTop (mkF m 118 #[.val (.int p0_0), .val (.int p0_1), .val (.int p0_2), .val (.int p0_3), .val (.ref b2), .val (.int (v0_68 p0_0)), .val (.int (v0_80 p0_0)), .val (.int (v0_91 p0_0 p0_1)), .val (.int (v0_98 p0_0 p0_1)), .val (.int (v0_110 p0_0 p0_1 p0_2)), .unset, .unset] [(.int (((p0_3 &&& (255 : Int32))).toUInt32.toUInt16.toUInt32.toInt32))])) _
    show Steps p.tables e below (T24.setTop (mkF m 118 #[.val (.int p0_0), .val (.int p0_1), .val (.int p0_2), .val (.int p0_3), .val (.ref b2), .val (.int (v0_68 p0_0)), .val (.int (v0_80 p0_0)), .val (.int (v0_91 p0_0 p0_1)), .val (.int (v0_98 p0_0 p0_1)), .val (.int (v0_110 p0_0 p0_1 p0_2)), .unset, .unset] [(.int (v0_118 p0_3))])) _
    refine XS.istore X24.here hx rfl (hb hby at_118) rfl (l' := #[.val (.int p0_0), .val (.int p0_1), .val (.int p0_2), .val (.int p0_3), .val (.ref b2), .val (.int (v0_68 p0_0)), .val (.int (v0_80 p0_0)), .val (.int (v0_91 p0_0 p0_1)), .val (.int (v0_98 p0_0 p0_1)), .val (.int (v0_110 p0_0 p0_1 p0_2)), .val (.int (v0_118 p0_3)), .unset]) rfl ?_
    show Steps p.tables e below (T24.setTop (mkF m 120 #[.val (.int p0_0), .val (.int p0_1), .val (.int p0_2), .val (.int p0_3), .val (.ref b2), .val (.int (v0_68 p0_0)), .val (.int (v0_80 p0_0)), .val (.int (v0_91 p0_0 p0_1)), .val (.int (v0_98 p0_0 p0_1)), .val (.int (v0_110 p0_0 p0_1 p0_2)), .val (.int (v0_118 p0_3)), .unset] [])) _
    refine XS.bipush X24.here hx rfl (hb hby at_120) ?_
    show Steps p.tables e below (T24.setTop (mkF m 122 #[.val (.int p0_0), .val (.int p0_1), .val (.int p0_2), .val (.int p0_3), .val (.ref b2), .val (.int (v0_68 p0_0)), .val (.int (v0_80 p0_0)), .val (.int (v0_91 p0_0 p0_1)), .val (.int (v0_98 p0_0 p0_1)), .val (.int (v0_110 p0_0 p0_1 p0_2)), .val (.int (v0_118 p0_3)), .unset] [(.int (10 : Int32))])) _
    exact k)
  obtain ⟨T26, h26, k26, X26, e26, E26, A26, st26⟩ := newP X24 hx hZ (hw _ (List.mem_of_getElem? (i := 11) rfl)) e24 (g := (mkF m 122 #[.val (.int p0_0), .val (.int p0_1), .val (.int p0_2), .val (.int p0_3), .val (.ref b2), .val (.int (v0_68 p0_0)), .val (.int (v0_80 p0_0)), .val (.int (v0_91 p0_0 p0_1)), .val (.int (v0_98 p0_0 p0_1)), .val (.int (v0_110 p0_0 p0_1 p0_2)), .val (.int (v0_118 p0_3)), .unset] [(.int (10 : Int32))])) rfl (hb hby at_122) rfl (by decide) (cap := 10) (by decide) (by decide) (by decide) (by decide)
  obtain ⟨b26, q26⟩ : ∃ z, z = h22.size := ⟨_, rfl⟩
  rw [← q26] at A26 st26
  have ne_b2_b26 : b2 ≠ b26 := Nat.ne_of_lt (Nat.lt_of_lt_of_le B22.lt (Nat.le_of_eq q26.symm))
  have g_b26 : n0 ≤ b26 := Nat.le_trans Z22 (Nat.le_of_eq q26.symm)
  have Ar27 : ArI Z h26 b2 .int 10 (own_upd g0_52 9 (1000000000 : Int32)) := B22.ext E26
  have Z26 : n0 ≤ h26.size := Nat.le_trans Z22 E26.1
  have B26 : ArI Z h26 b26 .char 10 (fun _ => (0 : Int32)) := ArI.new rfl A26 (by decide)
  have pre26 : ∀ t, Steps p.tables e below (T26.setTop (mkF m 124 #[.val (.int p0_0), .val (.int p0_1), .val (.int p0_2), .val (.int p0_3), .val (.ref b2), .val (.int (v0_68 p0_0)), .val (.int (v0_80 p0_0)), .val (.int (v0_91 p0_0 p0_1)), .val (.int (v0_98 p0_0 p0_1)), .val (.int (v0_110 p0_0 p0_1 p0_2)), .val (.int (v0_118 p0_3)), .unset] [(.ref b26)])) t → Steps p.tables e below (s₁.setTop (entryFrame m #[(.int p0_0), (.int p0_1), (.int p0_2), (.int p0_3)] maxLocals)) t := fun t k => pre25 t (st26 t k)
  have pre28 : ∀ t, Steps p.tables e below (T26.setTop (mkF m 128 #[.val (.int p0_0), .val (.int p0_1), .val (.int p0_2), .val (.int p0_3), .val (.ref b2), .val (.int (v0_68 p0_0)), .val (.int (v0_80 p0_0)), .val (.int (v0_91 p0_0 p0_1)), .val (.int (v0_98 p0_0 p0_1)), .val (.int (v0_110 p0_0 p0_1 p0_2)), .val (.int (v0_118 p0_3)), .unset] [(.int (v0_118 p0_3)), (.int (0 : Int32)), (.ref b26), (.ref b26)])) t → Steps p.tables e below (s₁.setTop (entryFrame m #[(.int p0_0), (.int p0_1), (.int p0_2), (.int p0_3)] maxLocals)) t := fun t k => pre26 t (by
    refine XS.dup X26.here hx rfl (hb hby at_124) rfl rfl ?_
    show Steps p.tables e below (T26.setTop (mkF m 125 #[.val (.int p0_0), .val (.int p0_1), .val (.int p0_2), .val (.int p0_3), .val (.ref b2), .val (.int (v0_68 p0_0)), .val (.int (v0_80 p0_0)), .val (.int (v0_91 p0_0 p0_1)), .val (.int (v0_98 p0_0 p0_1)), .val (.int (v0_110 p0_0 p0_1 p0_2)), .val (.int (v0_118 p0_3)), .unset] [(.ref b26), (.ref b26)])) _
    refine XS.iconst X26.here hx rfl (hb hby at_125) ?_
    show Steps p.tables e below (T26.setTop (mkF m 126 #[.val (.int p0_0), .val (.int p0_1), .val (.int p0_2), .val (.int p0_3), .val (.ref b2), .val (.int (v0_68 p0_0)), .val (.int (v0_80 p0_0)), .val (.int (v0_91 p0_0 p0_1)), .val (.int (v0_98 p0_0 p0_1)), .val (.int (v0_110 p0_0 p0_1 p0_2)), .val (.int (v0_118 p0_3)), .unset] [(.int (0 : Int32)), (.ref b26), (.ref b26)])) _
    refine XS.iload X26.here hx rfl (hb hby at_126) rfl ?_
    show Steps p.tables e below (T26.setTop (mkF m 128 #[.val (.int p0_0), .val (.int p0_1), .val (.int p0_2), .val (.int p0_3), .val (.ref b2), .val (.int (v0_68 p0_0)), .val (.int (v0_80 p0_0)), .val (.int (v0_91 p0_0 p0_1)), .val (.int (v0_98 p0_0 p0_1)), .val (.int (v0_110 p0_0 p0_1 p0_2)), .val (.int (v0_118 p0_3)), .unset] [(.int (v0_118 p0_3)), (.int (0 : Int32)), (.ref b26), (.ref b26)])) _
    exact k)
  obtain ⟨T29, h29, X29, e29, W29, B29, st29⟩ := own_stC X26 hx hZ e26 B26 (j := (0 : Int32)) (i := 0) (by decide) (by decide) (g := (mkF m 128 #[.val (.int p0_0), .val (.int p0_1), .val (.int p0_2), .val (.int p0_3), .val (.ref b2), .val (.int (v0_68 p0_0)), .val (.int (v0_80 p0_0)), .val (.int (v0_91 p0_0 p0_1)), .val (.int (v0_98 p0_0 p0_1)), .val (.int (v0_110 p0_0 p0_1 p0_2)), .val (.int (v0_118 p0_3)), .unset] [(.int (v0_118 p0_3)), (.int (0 : Int32)), (.ref b26), (.ref b26)])) rfl rfl (hb hby at_128)
  have Ar30 : ArI Z h29 b2 .int 10 (own_upd g0_52 9 (1000000000 : Int32)) := Ar27.other W29 ne_b2_b26
  have N29 := Fr.snoc X29 N24 g_b26
  have Z29 : n0 ≤ h29.size := Nat.le_trans Z26 (Keep.of_wr W29).1
  have pre29 : ∀ t, Steps p.tables e below (T29.setTop (mkF m 129 #[.val (.int p0_0), .val (.int p0_1), .val (.int p0_2), .val (.int p0_3), .val (.ref b2), .val (.int (v0_68 p0_0)), .val (.int (v0_80 p0_0)), .val (.int (v0_91 p0_0 p0_1)), .val (.int (v0_98 p0_0 p0_1)), .val (.int (v0_110 p0_0 p0_1 p0_2)), .val (.int (v0_118 p0_3)), .unset] [(.ref b26)])) t → Steps p.tables e below (s₁.setTop (entryFrame m #[(.int p0_0), (.int p0_1), (.int p0_2), (.int p0_3)] maxLocals)) t := fun t k => pre28 t (st29 t k)
  have pre31 : ∀ t, Steps p.tables e below (T29.setTop (mkF m 133 #[.val (.int p0_0), .val (.int p0_1), .val (.int p0_2), .val (.int p0_3), .val (.ref b2), .val (.int (v0_68 p0_0)), .val (.int (v0_80 p0_0)), .val (.int (v0_91 p0_0 p0_1)), .val (.int (v0_98 p0_0 p0_1)), .val (.int (v0_110 p0_0 p0_1 p0_2)), .val (.int (v0_118 p0_3)), .unset] [(.int (v0_118 p0_3)), (.int (1 : Int32)), (.ref b26), (.ref b26)])) t → Steps p.tables e below (s₁.setTop (entryFrame m #[(.int p0_0), (.int p0_1), (.int p0_2), (.int p0_3)] maxLocals)) t := fun t k => pre29 t (by
    refine XS.dup X29.here hx rfl (hb hby at_129) rfl rfl ?_
    show Steps p.tables e below (T29.setTop (mkF m 130 #[.val (.int p0_0), .val (.int p0_1), .val (.int p0_2), .val (.int p0_3), .val (.ref b2), .val (.int (v0_68 p0_0)), .val (.int (v0_80 p0_0)), .val (.int (v0_91 p0_0 p0_1)), .val (.int (v0_98 p0_0 p0_1)), .val (.int (v0_110 p0_0 p0_1 p0_2)), .val (.int (v0_118 p0_3)), .unset] [(.ref b26), (.ref b26)])) _
    refine XS.iconst X29.here hx rfl (hb hby at_130) ?_
    show Steps p.tables e below (T29.setTop (mkF m 131 #[.val (.int p0_0), .val (.int p0_1), .val (.int p0_2), .val (.int p0_3), .val (.ref b2), .val (.int (v0_68 p0_0)), .val (.int (v0_80 p0_0)), .val (.int (v0_91 p0_0 p0_1)), .val (.int (v0_98 p0_0 p0_1)), .val (.int (v0_110 p0_0 p0_1 p0_2)), .val (.int (v0_118 p0_3)), .unset] [(.int (1 : Int32)), (.ref b26), (.ref b26)])) _
    refine XS.iload X29.here hx rfl (hb hby at_131) rfl ?_
    show Steps p.tables e below (T29.setTop (mkF m 133 #[.val (.int p0_0), .val (.int p0_1), .val (.int p0_2), .val (.int p0_3), .val (.ref b2), .val (.int (v0_68 p0_0)), .val (.int (v0_80 p0_0)), .val (.int (v0_91 p0_0 p0_1)), .val (.int (v0_98 p0_0 p0_1)), .val (.int (v0_110 p0_0 p0_1 p0_2)), .val (.int (v0_118 p0_3)), .unset] [(.int (v0_118 p0_3)), (.int (1 : Int32)), (.ref b26), (.ref b26)])) _
    exact k)
  obtain ⟨T32, h32, X32, e32, W32, B32, st32⟩ := own_stC X29 hx hZ e29 B29 (j := (1 : Int32)) (i := 1) (by decide) (by decide) (g := (mkF m 133 #[.val (.int p0_0), .val (.int p0_1), .val (.int p0_2), .val (.int p0_3), .val (.ref b2), .val (.int (v0_68 p0_0)), .val (.int (v0_80 p0_0)), .val (.int (v0_91 p0_0 p0_1)), .val (.int (v0_98 p0_0 p0_1)), .val (.int (v0_110 p0_0 p0_1 p0_2)), .val (.int (v0_118 p0_3)), .unset] [(.int (v0_118 p0_3)), (.int (1 : Int32)), (.ref b26), (.ref b26)])) rfl rfl (hb hby at_133)
  have Ar33 : ArI Z h32 b2 .int 10 (own_upd g0_52 9 (1000000000 : Int32)) := Ar30.other W32 ne_b2_b26
  have N32 := Fr.snoc X32 N29 g_b26
  have Z32 : n0 ≤ h32.size := Nat.le_trans Z29 (Keep.of_wr W32).1
  have C32 : ArI Z h32 b26 .char 10 (g0_133 p0_3) := B32
  have pre32 : ∀ t, Steps p.tables e below (T32.setTop (mkF m 134 #[.val (.int p0_0), .val (.int p0_1), .val (.int p0_2), .val (.int p0_3), .val (.ref b2), .val (.int (v0_68 p0_0)), .val (.int (v0_80 p0_0)), .val (.int (v0_91 p0_0 p0_1)), .val (.int (v0_98 p0_0 p0_1)), .val (.int (v0_110 p0_0 p0_1 p0_2)), .val (.int (v0_118 p0_3)), .unset] [(.ref b26)])) t → Steps p.tables e below (s₁.setTop (entryFrame m #[(.int p0_0), (.int p0_1), (.int p0_2), (.int p0_3)] maxLocals)) t := fun t k => pre31 t (st32 t k)
  have pre34 : ∀ t, Steps p.tables e below (T32.setTop (mkF m 138 #[.val (.int p0_0), .val (.int p0_1), .val (.int p0_2), .val (.int p0_3), .val (.ref b2), .val (.int (v0_68 p0_0)), .val (.int (v0_80 p0_0)), .val (.int (v0_91 p0_0 p0_1)), .val (.int (v0_98 p0_0 p0_1)), .val (.int (v0_110 p0_0 p0_1 p0_2)), .val (.int (v0_118 p0_3)), .unset] [(.int (v0_118 p0_3)), (.int (2 : Int32)), (.ref b26), (.ref b26)])) t → Steps p.tables e below (s₁.setTop (entryFrame m #[(.int p0_0), (.int p0_1), (.int p0_2), (.int p0_3)] maxLocals)) t := fun t k => pre32 t (by
    refine XS.dup X32.here hx rfl (hb hby at_134) rfl rfl ?_
    show Steps p.tables e below (T32.setTop (mkF m 135 #[.val (.int p0_0), .val (.int p0_1), .val (.int p0_2), .val (.int p0_3), .val (.ref b2), .val (.int (v0_68 p0_0)), .val (.int (v0_80 p0_0)), .val (.int (v0_91 p0_0 p0_1)), .val (.int (v0_98 p0_0 p0_1)), .val (.int (v0_110 p0_0 p0_1 p0_2)), .val (.int (v0_118 p0_3)), .unset] [(.ref b26), (.ref b26)])) _
    refine XS.iconst X32.here hx rfl (hb hby at_135) ?_
    show Steps p.tables e below (T32.setTop (mkF m 136 #[.val (.int p0_0), .val (.int p0_1), .val (.int p0_2), .val (.int p0_3), .val (.ref b2), .val (.int (v0_68 p0_0)), .val (.int (v0_80 p0_0)), .val (.int (v0_91 p0_0 p0_1)), .val (.int (v0_98 p0_0 p0_1)), .val (.int (v0_110 p0_0 p0_1 p0_2)), .val (.int (v0_118 p0_3)), .unset] [(.int (2 : Int32)), (.ref b26), (.ref b26)])) _
    refine XS.iload X32.here hx rfl (hb hby at_136) rfl ?_
    show Steps p.tables e below (T32.setTop (mkF m 138 #[.val (.int p0_0), .val (.int p0_1), .val (.int p0_2), .val (.int p0_3), .val (.ref b2), .val (.int (v0_68 p0_0)), .val (.int (v0_80 p0_0)), .val (.int (v0_91 p0_0 p0_1)), .val (.int (v0_98 p0_0 p0_1)), .val (.int (v0_110 p0_0 p0_1 p0_2)), .val (.int (v0_118 p0_3)), .unset] [(.int (v0_118 p0_3)), (.int (2 : Int32)), (.ref b26), (.ref b26)])) _
    exact k)
  obtain ⟨T35, h35, X35, e35, W35, B35, st35⟩ := own_stC X32 hx hZ e32 C32 (j := (2 : Int32)) (i := 2) (by decide) (by decide) (g := (mkF m 138 #[.val (.int p0_0), .val (.int p0_1), .val (.int p0_2), .val (.int p0_3), .val (.ref b2), .val (.int (v0_68 p0_0)), .val (.int (v0_80 p0_0)), .val (.int (v0_91 p0_0 p0_1)), .val (.int (v0_98 p0_0 p0_1)), .val (.int (v0_110 p0_0 p0_1 p0_2)), .val (.int (v0_118 p0_3)), .unset] [(.int (v0_118 p0_3)), (.int (2 : Int32)), (.ref b26), (.ref b26)])) rfl rfl (hb hby at_138)
  have Ar36 : ArI Z h35 b2 .int 10 (own_upd g0_52 9 (1000000000 : Int32)) := Ar33.other W35 ne_b2_b26
  have N35 := Fr.snoc X35 N32 g_b26
  have Z35 : n0 ≤ h35.size := Nat.le_trans Z32 (Keep.of_wr W35).1
  have pre35 : ∀ t, Steps p.tables e below (T35.setTop (mkF m 139 #[.val (.int p0_0), .val (.int p0_1), .val (.int p0_2), .val (.int p0_3), .val (.ref b2), .val (.int (v0_68 p0_0)), .val (.int (v0_80 p0_0)), .val (.int (v0_91 p0_0 p0_1)), .val (.int (v0_98 p0_0 p0_1)), .val (.int (v0_110 p0_0 p0_1 p0_2)), .val (.int (v0_118 p0_3)), .unset] [(.ref b26)])) t → Steps p.tables e below (s₁.setTop (entryFrame m #[(.int p0_0), (.int p0_1), (.int p0_2), (.int p0_3)] maxLocals)) t := fun t k => pre34 t (st35 t k)
  have pre37 : ∀ t, Steps p.tables e below (T35.setTop (mkF m 143 #[.val (.int p0_0), .val (.int p0_1), .val (.int p0_2), .val (.int p0_3), .val (.ref b2), .val (.int (v0_68 p0_0)), .val (.int (v0_80 p0_0)), .val (.int (v0_91 p0_0 p0_1)), .val (.int (v0_98 p0_0 p0_1)), .val (.int (v0_110 p0_0 p0_1 p0_2)), .val (.int (v0_118 p0_3)), .unset] [(.int (v0_118 p0_3)), (.int (3 : Int32)), (.ref b26), (.ref b26)])) t → Steps p.tables e below (s₁.setTop (entryFrame m #[(.int p0_0), (.int p0_1), (.int p0_2), (.int p0_3)] maxLocals)) t := fun t k => pre35 t (by
    refine XS.dup X35.here hx rfl (hb hby at_139) rfl rfl ?_
    show Steps p.tables e below (T35.setTop (mkF m 140 #[.val (.int p0_0), .val (.int p0_1), .val (.int p0_2), .val (.int p0_3), .val (.ref b2), .val (.int (v0_68 p0_0)), .val (.int (v0_80 p0_0)), .val (.int (v0_91 p0_0 p0_1)), .val (.int (v0_98 p0_0 p0_1)), .val (.int (v0_110 p0_0 p0_1 p0_2)), .val (.int (v0_118 p0_3)), .unset] [(.ref b26), (.ref b26)])) _
    refine XS.iconst X35.here hx rfl (hb hby at_140) ?_
    show Steps p.tables e below (T35.setTop (mkF m 141 #[.val (.int p0_0), .val (.int p0_1), .val (.int p0_2), .val (.int p0_3), .val (.ref b2), .val (.int (v0_68 p0_0)), .val (.int (v0_80 p0_0)), .val (.int (v0_91 p0_0 p0_1)), .val (.int (v0_98 p0_0 p0_1)), .val (.int (v0_110 p0_0 p0_1 p0_2)), .val (.int (v0_118 p0_3)), .unset] [(.int (3 : Int32)), (.ref b26), (.ref b26)])) _
    refine XS.iload X35.here hx rfl (hb hby at_141) rfl ?_
    show Steps p.tables e below (T35.setTop (mkF m 143 #[.val (.int p0_0), .val (.int p0_1), .val (.int p0_2), .val (.int p0_3), .val (.ref b2), .val (.int (v0_68 p0_0)), .val (.int (v0_80 p0_0)), .val (.int (v0_91 p0_0 p0_1)), .val (.int (v0_98 p0_0 p0_1)), .val (.int (v0_110 p0_0 p0_1 p0_2)), .val (.int (v0_118 p0_3)), .unset] [(.int (v0_118 p0_3)), (.int (3 : Int32)), (.ref b26), (.ref b26)])) _
    exact k)
  obtain ⟨T38, h38, X38, e38, W38, B38, st38⟩ := own_stC X35 hx hZ e35 B35 (j := (3 : Int32)) (i := 3) (by decide) (by decide) (g := (mkF m 143 #[.val (.int p0_0), .val (.int p0_1), .val (.int p0_2), .val (.int p0_3), .val (.ref b2), .val (.int (v0_68 p0_0)), .val (.int (v0_80 p0_0)), .val (.int (v0_91 p0_0 p0_1)), .val (.int (v0_98 p0_0 p0_1)), .val (.int (v0_110 p0_0 p0_1 p0_2)), .val (.int (v0_118 p0_3)), .unset] [(.int (v0_118 p0_3)), (.int (3 : Int32)), (.ref b26), (.ref b26)])) rfl rfl (hb hby at_143)
  have Ar39 : ArI Z h38 b2 .int 10 (own_upd g0_52 9 (1000000000 : Int32)) := Ar36.other W38 ne_b2_b26
  have N38 := Fr.snoc X38 N35 g_b26
  have Z38 : n0 ≤ h38.size := Nat.le_trans Z35 (Keep.of_wr W38).1
  have C38 : ArI Z h38 b26 .char 10 (g0_143 p0_3) := B38
  have pre38 : ∀ t, Steps p.tables e below (T38.setTop (mkF m 144 #[.val (.int p0_0), .val (.int p0_1), .val (.int p0_2), .val (.int p0_3), .val (.ref b2), .val (.int (v0_68 p0_0)), .val (.int (v0_80 p0_0)), .val (.int (v0_91 p0_0 p0_1)), .val (.int (v0_98 p0_0 p0_1)), .val (.int (v0_110 p0_0 p0_1 p0_2)), .val (.int (v0_118 p0_3)), .unset] [(.ref b26)])) t → Steps p.tables e below (s₁.setTop (entryFrame m #[(.int p0_0), (.int p0_1), (.int p0_2), (.int p0_3)] maxLocals)) t := fun t k => pre37 t (st38 t k)
  have pre40 : ∀ t, Steps p.tables e below (T38.setTop (mkF m 148 #[.val (.int p0_0), .val (.int p0_1), .val (.int p0_2), .val (.int p0_3), .val (.ref b2), .val (.int (v0_68 p0_0)), .val (.int (v0_80 p0_0)), .val (.int (v0_91 p0_0 p0_1)), .val (.int (v0_98 p0_0 p0_1)), .val (.int (v0_110 p0_0 p0_1 p0_2)), .val (.int (v0_118 p0_3)), .unset] [(.int (v0_118 p0_3)), (.int (4 : Int32)), (.ref b26), (.ref b26)])) t → Steps p.tables e below (s₁.setTop (entryFrame m #[(.int p0_0), (.int p0_1), (.int p0_2), (.int p0_3)] maxLocals)) t := fun t k => pre38 t (by
    refine XS.dup X38.here hx rfl (hb hby at_144) rfl rfl ?_
    show Steps p.tables e below (T38.setTop (mkF m 145 #[.val (.int p0_0), .val (.int p0_1), .val (.int p0_2), .val (.int p0_3), .val (.ref b2), .val (.int (v0_68 p0_0)), .val (.int (v0_80 p0_0)), .val (.int (v0_91 p0_0 p0_1)), .val (.int (v0_98 p0_0 p0_1)), .val (.int (v0_110 p0_0 p0_1 p0_2)), .val (.int (v0_118 p0_3)), .unset] [(.ref b26), (.ref b26)])) _
    refine XS.iconst X38.here hx rfl (hb hby at_145) ?_
    show Steps p.tables e below (T38.setTop (mkF m 146 #[.val (.int p0_0), .val (.int p0_1), .val (.int p0_2), .val (.int p0_3), .val (.ref b2), .val (.int (v0_68 p0_0)), .val (.int (v0_80 p0_0)), .val (.int (v0_91 p0_0 p0_1)), .val (.int (v0_98 p0_0 p0_1)), .val (.int (v0_110 p0_0 p0_1 p0_2)), .val (.int (v0_118 p0_3)), .unset] [(.int (4 : Int32)), (.ref b26), (.ref b26)])) _
    refine XS.iload X38.here hx rfl (hb hby at_146) rfl ?_
    show Steps p.tables e below (T38.setTop (mkF m 148 #[.val (.int p0_0), .val (.int p0_1), .val (.int p0_2), .val (.int p0_3), .val (.ref b2), .val (.int (v0_68 p0_0)), .val (.int (v0_80 p0_0)), .val (.int (v0_91 p0_0 p0_1)), .val (.int (v0_98 p0_0 p0_1)), .val (.int (v0_110 p0_0 p0_1 p0_2)), .val (.int (v0_118 p0_3)), .unset] [(.int (v0_118 p0_3)), (.int (4 : Int32)), (.ref b26), (.ref b26)])) _
    exact k)
  obtain ⟨T41, h41, X41, e41, W41, B41, st41⟩ := own_stC X38 hx hZ e38 C38 (j := (4 : Int32)) (i := 4) (by decide) (by decide) (g := (mkF m 148 #[.val (.int p0_0), .val (.int p0_1), .val (.int p0_2), .val (.int p0_3), .val (.ref b2), .val (.int (v0_68 p0_0)), .val (.int (v0_80 p0_0)), .val (.int (v0_91 p0_0 p0_1)), .val (.int (v0_98 p0_0 p0_1)), .val (.int (v0_110 p0_0 p0_1 p0_2)), .val (.int (v0_118 p0_3)), .unset] [(.int (v0_118 p0_3)), (.int (4 : Int32)), (.ref b26), (.ref b26)])) rfl rfl (hb hby at_148)
  have Ar42 : ArI Z h41 b2 .int 10 (own_upd g0_52 9 (1000000000 : Int32)) := Ar39.other W41 ne_b2_b26
  have N41 := Fr.snoc X41 N38 g_b26
  have Z41 : n0 ≤ h41.size := Nat.le_trans Z38 (Keep.of_wr W41).1
  have pre41 : ∀ t, Steps p.tables e below (T41.setTop (mkF m 149 #[.val (.int p0_0), .val (.int p0_1), .val (.int p0_2), .val (.int p0_3), .val (.ref b2), .val (.int (v0_68 p0_0)), .val (.int (v0_80 p0_0)), .val (.int (v0_91 p0_0 p0_1)), .val (.int (v0_98 p0_0 p0_1)), .val (.int (v0_110 p0_0 p0_1 p0_2)), .val (.int (v0_118 p0_3)), .unset] [(.ref b26)])) t → Steps p.tables e below (s₁.setTop (entryFrame m #[(.int p0_0), (.int p0_1), (.int p0_2), (.int p0_3)] maxLocals)) t := fun t k => pre40 t (st41 t k)
  have pre43 : ∀ t, Steps p.tables e below (T41.setTop (mkF m 153 #[.val (.int p0_0), .val (.int p0_1), .val (.int p0_2), .val (.int p0_3), .val (.ref b2), .val (.int (v0_68 p0_0)), .val (.int (v0_80 p0_0)), .val (.int (v0_91 p0_0 p0_1)), .val (.int (v0_98 p0_0 p0_1)), .val (.int (v0_110 p0_0 p0_1 p0_2)), .val (.int (v0_118 p0_3)), .unset] [(.int (v0_118 p0_3)), (.int (5 : Int32)), (.ref b26), (.ref b26)])) t → Steps p.tables e below (s₁.setTop (entryFrame m #[(.int p0_0), (.int p0_1), (.int p0_2), (.int p0_3)] maxLocals)) t := fun t k => pre41 t (by
    refine XS.dup X41.here hx rfl (hb hby at_149) rfl rfl ?_
    show Steps p.tables e below (T41.setTop (mkF m 150 #[.val (.int p0_0), .val (.int p0_1), .val (.int p0_2), .val (.int p0_3), .val (.ref b2), .val (.int (v0_68 p0_0)), .val (.int (v0_80 p0_0)), .val (.int (v0_91 p0_0 p0_1)), .val (.int (v0_98 p0_0 p0_1)), .val (.int (v0_110 p0_0 p0_1 p0_2)), .val (.int (v0_118 p0_3)), .unset] [(.ref b26), (.ref b26)])) _
    refine XS.iconst X41.here hx rfl (hb hby at_150) ?_
    show Steps p.tables e below (T41.setTop (mkF m 151 #[.val (.int p0_0), .val (.int p0_1), .val (.int p0_2), .val (.int p0_3), .val (.ref b2), .val (.int (v0_68 p0_0)), .val (.int (v0_80 p0_0)), .val (.int (v0_91 p0_0 p0_1)), .val (.int (v0_98 p0_0 p0_1)), .val (.int (v0_110 p0_0 p0_1 p0_2)), .val (.int (v0_118 p0_3)), .unset] [(.int (5 : Int32)), (.ref b26), (.ref b26)])) _
    refine XS.iload X41.here hx rfl (hb hby at_151) rfl ?_
    show Steps p.tables e below (T41.setTop (mkF m 153 #[.val (.int p0_0), .val (.int p0_1), .val (.int p0_2), .val (.int p0_3), .val (.ref b2), .val (.int (v0_68 p0_0)), .val (.int (v0_80 p0_0)), .val (.int (v0_91 p0_0 p0_1)), .val (.int (v0_98 p0_0 p0_1)), .val (.int (v0_110 p0_0 p0_1 p0_2)), .val (.int (v0_118 p0_3)), .unset] [(.int (v0_118 p0_3)), (.int (5 : Int32)), (.ref b26), (.ref b26)])) _
    exact k)
  obtain ⟨T44, h44, X44, e44, W44, B44, st44⟩ := own_stC X41 hx hZ e41 B41 (j := (5 : Int32)) (i := 5) (by decide) (by decide) (g := (mkF m 153 #[.val (.int p0_0), .val (.int p0_1), .val (.int p0_2), .val (.int p0_3), .val (.ref b2), .val (.int (v0_68 p0_0)), .val (.int (v0_80 p0_0)), .val (.int (v0_91 p0_0 p0_1)), .val (.int (v0_98 p0_0 p0_1)), .val (.int (v0_110 p0_0 p0_1 p0_2)), .val (.int (v0_118 p0_3)), .unset] [(.int (v0_118 p0_3)), (.int (5 : Int32)), (.ref b26), (.ref b26)])) rfl rfl (hb hby at_153)
  have Ar45 : ArI Z h44 b2 .int 10 (own_upd g0_52 9 (1000000000 : Int32)) := Ar42.other W44 ne_b2_b26
  have N44 := Fr.snoc X44 N41 g_b26
  have Z44 : n0 ≤ h44.size := Nat.le_trans Z41 (Keep.of_wr W44).1
  have C44 : ArI Z h44 b26 .char 10 (g0_153 p0_3) := B44
  have pre44 : ∀ t, Steps p.tables e below (T44.setTop (mkF m 154 #[.val (.int p0_0), .val (.int p0_1), .val (.int p0_2), .val (.int p0_3), .val (.ref b2), .val (.int (v0_68 p0_0)), .val (.int (v0_80 p0_0)), .val (.int (v0_91 p0_0 p0_1)), .val (.int (v0_98 p0_0 p0_1)), .val (.int (v0_110 p0_0 p0_1 p0_2)), .val (.int (v0_118 p0_3)), .unset] [(.ref b26)])) t → Steps p.tables e below (s₁.setTop (entryFrame m #[(.int p0_0), (.int p0_1), (.int p0_2), (.int p0_3)] maxLocals)) t := fun t k => pre43 t (st44 t k)
  have pre46 : ∀ t, Steps p.tables e below (T44.setTop (mkF m 159 #[.val (.int p0_0), .val (.int p0_1), .val (.int p0_2), .val (.int p0_3), .val (.ref b2), .val (.int (v0_68 p0_0)), .val (.int (v0_80 p0_0)), .val (.int (v0_91 p0_0 p0_1)), .val (.int (v0_98 p0_0 p0_1)), .val (.int (v0_110 p0_0 p0_1 p0_2)), .val (.int (v0_118 p0_3)), .unset] [(.int (v0_118 p0_3)), (.int (6 : Int32)), (.ref b26), (.ref b26)])) t → Steps p.tables e below (s₁.setTop (entryFrame m #[(.int p0_0), (.int p0_1), (.int p0_2), (.int p0_3)] maxLocals)) t := fun t k => pre44 t (by
    refine XS.dup X44.here hx rfl (hb hby at_154) rfl rfl ?_
    show Steps p.tables e below (T44.setTop (mkF m 155 #[.val (.int p0_0), .val (.int p0_1), .val (.int p0_2), .val (.int p0_3), .val (.ref b2), .val (.int (v0_68 p0_0)), .val (.int (v0_80 p0_0)), .val (.int (v0_91 p0_0 p0_1)), .val (.int (v0_98 p0_0 p0_1)), .val (.int (v0_110 p0_0 p0_1 p0_2)), .val (.int (v0_118 p0_3)), .unset] [(.ref b26), (.ref b26)])) _
    refine XS.bipush X44.here hx rfl (hb hby at_155) ?_
    show Steps p.tables e below (T44.setTop (mkF m 157 #[.val (.int p0_0), .val (.int p0_1), .val (.int p0_2), .val (.int p0_3), .val (.ref b2), .val (.int (v0_68 p0_0)), .val (.int (v0_80 p0_0)), .val (.int (v0_91 p0_0 p0_1)), .val (.int (v0_98 p0_0 p0_1)), .val (.int (v0_110 p0_0 p0_1 p0_2)), .val (.int (v0_118 p0_3)), .unset] [(.int (6 : Int32)), (.ref b26), (.ref b26)])) _
    refine XS.iload X44.here hx rfl (hb hby at_157) rfl ?_
    show Steps p.tables e below (T44.setTop (mkF m 159 #[.val (.int p0_0), .val (.int p0_1), .val (.int p0_2), .val (.int p0_3), .val (.ref b2), .val (.int (v0_68 p0_0)), .val (.int (v0_80 p0_0)), .val (.int (v0_91 p0_0 p0_1)), .val (.int (v0_98 p0_0 p0_1)), .val (.int (v0_110 p0_0 p0_1 p0_2)), .val (.int (v0_118 p0_3)), .unset] [(.int (v0_118 p0_3)), (.int (6 : Int32)), (.ref b26), (.ref b26)])) _
    exact k)
  obtain ⟨T47, h47, X47, e47, W47, B47, st47⟩ := own_stC X44 hx hZ e44 C44 (j := (6 : Int32)) (i := 6) (by decide) (by decide) (g := (mkF m 159 #[.val (.int p0_0), .val (.int p0_1), .val (.int p0_2), .val (.int p0_3), .val (.ref b2), .val (.int (v0_68 p0_0)), .val (.int (v0_80 p0_0)), .val (.int (v0_91 p0_0 p0_1)), .val (.int (v0_98 p0_0 p0_1)), .val (.int (v0_110 p0_0 p0_1 p0_2)), .val (.int (v0_118 p0_3)), .unset] [(.int (v0_118 p0_3)), (.int (6 : Int32)), (.ref b26), (.ref b26)])) rfl rfl (hb hby at_159)
  have Ar48 : ArI Z h47 b2 .int 10 (own_upd g0_52 9 (1000000000 : Int32)) := Ar45.other W47 ne_b2_b26
  have N47 := Fr.snoc X47 N44 g_b26
  have Z47 : n0 ≤ h47.size := Nat.le_trans Z44 (Keep.of_wr W47).1
  have pre47 : ∀ t, Steps p.tables e below (T47.setTop (mkF m 160 #[.val (.int p0_0), .val (.int p0_1), .val (.int p0_2), .val (.int p0_3), .val (.ref b2), .val (.int (v0_68 p0_0)), .val (.int (v0_80 p0_0)), .val (.int (v0_91 p0_0 p0_1)), .val (.int (v0_98 p0_0 p0_1)), .val (.int (v0_110 p0_0 p0_1 p0_2)), .val (.int (v0_118 p0_3)), .unset] [(.ref b26)])) t → Steps p.tables e below (s₁.setTop (entryFrame m #[(.int p0_0), (.int p0_1), (.int p0_2), (.int p0_3)] maxLocals)) t := fun t k => pre46 t (st47 t k)
  have pre49 : ∀ t, Steps p.tables e below (T47.setTop (mkF m 165 #[.val (.int p0_0), .val (.int p0_1), .val (.int p0_2), .val (.int p0_3), .val (.ref b2), .val (.int (v0_68 p0_0)), .val (.int (v0_80 p0_0)), .val (.int (v0_91 p0_0 p0_1)), .val (.int (v0_98 p0_0 p0_1)), .val (.int (v0_110 p0_0 p0_1 p0_2)), .val (.int (v0_118 p0_3)), .unset] [(.int (v0_118 p0_3)), (.int (7 : Int32)), (.ref b26), (.ref b26)])) t → Steps p.tables e below (s₁.setTop (entryFrame m #[(.int p0_0), (.int p0_1), (.int p0_2), (.int p0_3)] maxLocals)) t := fun t k => pre47 t (by
    refine XS.dup X47.here hx rfl (hb hby at_160) rfl rfl ?_
    show Steps p.tables e below (T47.setTop (mkF m 161 #[.val (.int p0_0), .val (.int p0_1), .val (.int p0_2), .val (.int p0_3), .val (.ref b2), .val (.int (v0_68 p0_0)), .val (.int (v0_80 p0_0)), .val (.int (v0_91 p0_0 p0_1)), .val (.int (v0_98 p0_0 p0_1)), .val (.int (v0_110 p0_0 p0_1 p0_2)), .val (.int (v0_118 p0_3)), .unset] [(.ref b26), (.ref b26)])) _
    refine XS.bipush X47.here hx rfl (hb hby at_161) ?_
    show Steps p.tables e below (T47.setTop (mkF m 163 #[.val (.int p0_0), .val (.int p0_1), .val (.int p0_2), .val (.int p0_3), .val (.ref b2), .val (.int (v0_68 p0_0)), .val (.int (v0_80 p0_0)), .val (.int (v0_91 p0_0 p0_1)), .val (.int (v0_98 p0_0 p0_1)), .val (.int (v0_110 p0_0 p0_1 p0_2)), .val (.int (v0_118 p0_3)), .unset] [(.int (7 : Int32)), (.ref b26), (.ref b26)])) _
    refine XS.iload X47.here hx rfl (hb hby at_163) rfl ?_
    show Steps p.tables e below (T47.setTop (mkF m 165 #[.val (.int p0_0), .val (.int p0_1), .val (.int p0_2), .val (.int p0_3), .val (.ref b2), .val (.int (v0_68 p0_0)), .val (.int (v0_80 p0_0)), .val (.int (v0_91 p0_0 p0_1)), .val (.int (v0_98 p0_0 p0_1)), .val (.int (v0_110 p0_0 p0_1 p0_2)), .val (.int (v0_118 p0_3)), .unset] [(.int (v0_118 p0_3)), (.int (7 : Int32)), (.ref b26), (.ref b26)])) _
    exact k)
  obtain ⟨T50, h50, X50, e50, W50, B50, st50⟩ := own_stC X47 hx hZ e47 B47 (j := (7 : Int32)) (i := 7) (by decide) (by decide) (g := (mkF m 165 #[.val (.int p0_0), .val (.int p0_1), .val (.int p0_2), .val (.int p0_3), .val (.ref b2), .val (.int (v0_68 p0_0)), .val (.int (v0_80 p0_0)), .val (.int (v0_91 p0_0 p0_1)), .val (.int (v0_98 p0_0 p0_1)), .val (.int (v0_110 p0_0 p0_1 p0_2)), .val (.int (v0_118 p0_3)), .unset] [(.int (v0_118 p0_3)), (.int (7 : Int32)), (.ref b26), (.ref b26)])) rfl rfl (hb hby at_165)
  have Ar51 : ArI Z h50 b2 .int 10 (own_upd g0_52 9 (1000000000 : Int32)) := Ar48.other W50 ne_b2_b26
  have N50 := Fr.snoc X50 N47 g_b26
  have Z50 : n0 ≤ h50.size := Nat.le_trans Z47 (Keep.of_wr W50).1
  have C50 : ArI Z h50 b26 .char 10 (g0_165 p0_3) := B50
  have pre50 : ∀ t, Steps p.tables e below (T50.setTop (mkF m 166 #[.val (.int p0_0), .val (.int p0_1), .val (.int p0_2), .val (.int p0_3), .val (.ref b2), .val (.int (v0_68 p0_0)), .val (.int (v0_80 p0_0)), .val (.int (v0_91 p0_0 p0_1)), .val (.int (v0_98 p0_0 p0_1)), .val (.int (v0_110 p0_0 p0_1 p0_2)), .val (.int (v0_118 p0_3)), .unset] [(.ref b26)])) t → Steps p.tables e below (s₁.setTop (entryFrame m #[(.int p0_0), (.int p0_1), (.int p0_2), (.int p0_3)] maxLocals)) t := fun t k => pre49 t (st50 t k)
  have pre52 : ∀ t, Steps p.tables e below (T50.setTop (mkF m 171 #[.val (.int p0_0), .val (.int p0_1), .val (.int p0_2), .val (.int p0_3), .val (.ref b2), .val (.int (v0_68 p0_0)), .val (.int (v0_80 p0_0)), .val (.int (v0_91 p0_0 p0_1)), .val (.int (v0_98 p0_0 p0_1)), .val (.int (v0_110 p0_0 p0_1 p0_2)), .val (.int (v0_118 p0_3)), .unset] [(.int (v0_118 p0_3)), (.int (8 : Int32)), (.ref b26), (.ref b26)])) t → Steps p.tables e below (s₁.setTop (entryFrame m #[(.int p0_0), (.int p0_1), (.int p0_2), (.int p0_3)] maxLocals)) t := fun t k => pre50 t (by
    refine XS.dup X50.here hx rfl (hb hby at_166) rfl rfl ?_
    show Steps p.tables e below (T50.setTop (mkF m 167 #[.val (.int p0_0), .val (.int p0_1), .val (.int p0_2), .val (.int p0_3), .val (.ref b2), .val (.int (v0_68 p0_0)), .val (.int (v0_80 p0_0)), .val (.int (v0_91 p0_0 p0_1)), .val (.int (v0_98 p0_0 p0_1)), .val (.int (v0_110 p0_0 p0_1 p0_2)), .val (.int (v0_118 p0_3)), .unset] [(.ref b26), (.ref b26)])) _
    refine XS.bipush X50.here hx rfl (hb hby at_167) ?_
    show Steps p.tables e below (T50.setTop (mkF m 169 #[.val (.int p0_0), .val (.int p0_1), .val (.int p0_2), .val (.int p0_3), .val (.ref b2), .val (.int (v0_68 p0_0)), .val (.int (v0_80 p0_0)), .val (.int (v0_91 p0_0 p0_1)), .val (.int (v0_98 p0_0 p0_1)), .val (.int (v0_110 p0_0 p0_1 p0_2)), .val (.int (v0_118 p0_3)), .unset] [(.int (8 : Int32)), (.ref b26), (.ref b26)])) _
    refine XS.iload X50.here hx rfl (hb hby at_169) rfl ?_
    show Steps p.tables e below (T50.setTop (mkF m 171 #[.val (.int p0_0), .val (.int p0_1), .val (.int p0_2), .val (.int p0_3), .val (.ref b2), .val (.int (v0_68 p0_0)), .val (.int (v0_80 p0_0)), .val (.int (v0_91 p0_0 p0_1)), .val (.int (v0_98 p0_0 p0_1)), .val (.int (v0_110 p0_0 p0_1 p0_2)), .val (.int (v0_118 p0_3)), .unset] [(.int (v0_118 p0_3)), (.int (8 : Int32)), (.ref b26), (.ref b26)])) _
    exact k)
  obtain ⟨T53, h53, X53, e53, W53, B53, st53⟩ := own_stC X50 hx hZ e50 C50 (j := (8 : Int32)) (i := 8) (by decide) (by decide) (g := (mkF m 171 #[.val (.int p0_0), .val (.int p0_1), .val (.int p0_2), .val (.int p0_3), .val (.ref b2), .val (.int (v0_68 p0_0)), .val (.int (v0_80 p0_0)), .val (.int (v0_91 p0_0 p0_1)), .val (.int (v0_98 p0_0 p0_1)), .val (.int (v0_110 p0_0 p0_1 p0_2)), .val (.int (v0_118 p0_3)), .unset] [(.int (v0_118 p0_3)), (.int (8 : Int32)), (.ref b26), (.ref b26)])) rfl rfl (hb hby at_171)
  have Ar54 : ArI Z h53 b2 .int 10 (own_upd g0_52 9 (1000000000 : Int32)) := Ar51.other W53 ne_b2_b26
  have N53 := Fr.snoc X53 N50 g_b26
  have Z53 : n0 ≤ h53.size := Nat.le_trans Z50 (Keep.of_wr W53).1
  have pre53 : ∀ t, Steps p.tables e below (T53.setTop (mkF m 172 #[.val (.int p0_0), .val (.int p0_1), .val (.int p0_2), .val (.int p0_3), .val (.ref b2), .val (.int (v0_68 p0_0)), .val (.int (v0_80 p0_0)), .val (.int (v0_91 p0_0 p0_1)), .val (.int (v0_98 p0_0 p0_1)), .val (.int (v0_110 p0_0 p0_1 p0_2)), .val (.int (v0_118 p0_3)), .unset] [(.ref b26)])) t → Steps p.tables e below (s₁.setTop (entryFrame m #[(.int p0_0), (.int p0_1), (.int p0_2), (.int p0_3)] maxLocals)) t := fun t k => pre52 t (st53 t k)
  have pre55 : ∀ t, Steps p.tables e below (T53.setTop (mkF m 177 #[.val (.int p0_0), .val (.int p0_1), .val (.int p0_2), .val (.int p0_3), .val (.ref b2), .val (.int (v0_68 p0_0)), .val (.int (v0_80 p0_0)), .val (.int (v0_91 p0_0 p0_1)), .val (.int (v0_98 p0_0 p0_1)), .val (.int (v0_110 p0_0 p0_1 p0_2)), .val (.int (v0_118 p0_3)), .unset] [(.int (v0_118 p0_3)), (.int (9 : Int32)), (.ref b26), (.ref b26)])) t → Steps p.tables e below (s₁.setTop (entryFrame m #[(.int p0_0), (.int p0_1), (.int p0_2), (.int p0_3)] maxLocals)) t := fun t k => pre53 t (by
    refine XS.dup X53.here hx rfl (hb hby at_172) rfl rfl ?_
    show Steps p.tables e below (T53.setTop (mkF m 173 #[.val (.int p0_0), .val (.int p0_1), .val (.int p0_2), .val (.int p0_3), .val (.ref b2), .val (.int (v0_68 p0_0)), .val (.int (v0_80 p0_0)), .val (.int (v0_91 p0_0 p0_1)), .val (.int (v0_98 p0_0 p0_1)), .val (.int (v0_110 p0_0 p0_1 p0_2)), .val (.int (v0_118 p0_3)), .unset] [(.ref b26), (.ref b26)])) _
    refine XS.bipush X53.here hx rfl (hb hby at_173) ?_
    show Steps p.tables e below (T53.setTop (mkF m 175 #[.val (.int p0_0), .val (.int p0_1), .val (.int p0_2), .val (.int p0_3), .val (.ref b2), .val (.int (v0_68 p0_0)), .val (.int (v0_80 p0_0)), .val (.int (v0_91 p0_0 p0_1)), .val (.int (v0_98 p0_0 p0_1)), .val (.int (v0_110 p0_0 p0_1 p0_2)), .val (.int (v0_118 p0_3)), .unset] [(.int (9 : Int32)), (.ref b26), (.ref b26)])) _
    refine XS.iload X53.here hx rfl (hb hby at_175) rfl ?_
    show Steps p.tables e below (T53.setTop (mkF m 177 #[.val (.int p0_0), .val (.int p0_1), .val (.int p0_2), .val (.int p0_3), .val (.ref b2), .val (.int (v0_68 p0_0)), .val (.int (v0_80 p0_0)), .val (.int (v0_91 p0_0 p0_1)), .val (.int (v0_98 p0_0 p0_1)), .val (.int (v0_110 p0_0 p0_1 p0_2)), .val (.int (v0_118 p0_3)), .unset] [(.int (v0_118 p0_3)), (.int (9 : Int32)), (.ref b26), (.ref b26)])) _
    exact k)
  obtain ⟨T56, h56, X56, e56, W56, B56, st56⟩ := own_stC X53 hx hZ e53 B53 (j := (9 : Int32)) (i := 9) (by decide) (by decide) (g := (mkF m 177 #[.val (.int p0_0), .val (.int p0_1), .val (.int p0_2), .val (.int p0_3), .val (.ref b2), .val (.int (v0_68 p0_0)), .val (.int (v0_80 p0_0)), .val (.int (v0_91 p0_0 p0_1)), .val (.int (v0_98 p0_0 p0_1)), .val (.int (v0_110 p0_0 p0_1 p0_2)), .val (.int (v0_118 p0_3)), .unset] [(.int (v0_118 p0_3)), (.int (9 : Int32)), (.ref b26), (.ref b26)])) rfl rfl (hb hby at_177)
  have Ar57 : ArI Z h56 b2 .int 10 (own_upd g0_52 9 (1000000000 : Int32)) := Ar54.other W56 ne_b2_b26
  have N56 := Fr.snoc X56 N53 g_b26
  have Z56 : n0 ≤ h56.size := Nat.le_trans Z53 (Keep.of_wr W56).1
  have C56 : ArI Z h56 b26 .char 10 (g0_177 p0_3) := B56
  have pre56 : ∀ t, Steps p.tables e below (T56.setTop (mkF m 178 #[.val (.int p0_0), .val (.int p0_1), .val (.int p0_2), .val (.int p0_3), .val (.ref b2), .val (.int (v0_68 p0_0)), .val (.int (v0_80 p0_0)), .val (.int (v0_91 p0_0 p0_1)), .val (.int (v0_98 p0_0 p0_1)), .val (.int (v0_110 p0_0 p0_1 p0_2)), .val (.int (v0_118 p0_3)), .unset] [(.ref b26)])) t → Steps p.tables e below (s₁.setTop (entryFrame m #[(.int p0_0), (.int p0_1), (.int p0_2), (.int p0_3)] maxLocals)) t := fun t k => pre55 t (st56 t k)
  have pre58 : ∀ t, Steps p.tables e below (T56.setTop (mkF m 188 #[.val (.int p0_0), .val (.int p0_1), .val (.int p0_2), .val (.int p0_3), .val (.ref b2), .val (.int (v0_68 p0_0)), .val (.int (v0_80 p0_0)), .val (.int (v0_91 p0_0 p0_1)), .val (.int (v0_98 p0_0 p0_1)), .val (.int (v0_110 p0_0 p0_1 p0_2)), .val (.int (v0_118 p0_3)), .val (.ref b26)] [(.int (v0_110 p0_0 p0_1 p0_2)), (.int (v0_98 p0_0 p0_1)), (.int (v0_68 p0_0)), (.ref b26)])) t → Steps p.tables e below (s₁.setTop (entryFrame m #[(.int p0_0), (.int p0_1), (.int p0_2), (.int p0_3)] maxLocals)) t := fun t k => pre56 t (by
    refine XS.astore X56.here hx rfl (hb hby at_178) rfl rfl (l' := #[.val (.int p0_0), .val (.int p0_1), .val (.int p0_2), .val (.int p0_3), .val (.ref b2), .val (.int (v0_68 p0_0)), .val (.int (v0_80 p0_0)), .val (.int (v0_91 p0_0 p0_1)), .val (.int (v0_98 p0_0 p0_1)), .val (.int (v0_110 p0_0 p0_1 p0_2)), .val (.int (v0_118 p0_3)), .val (.ref b26)]) rfl ?_
    show Steps p.tables e below (T56.setTop (mkF m 180 #[.val (.int p0_0), .val (.int p0_1), .val (.int p0_2), .val (.int p0_3), .val (.ref b2), .val (.int (v0_68 p0_0)), .val (.int (v0_80 p0_0)), .val (.int (v0_91 p0_0 p0_1)), .val (.int (v0_98 p0_0 p0_1)), .val (.int (v0_110 p0_0 p0_1 p0_2)), .val (.int (v0_118 p0_3)), .val (.ref b26)] [])) _
    refine XS.aload X56.here hx rfl (hb hby at_180) rfl rfl ?_
    show Steps p.tables e below (T56.setTop (mkF m 182 #[.val (.int p0_0), .val (.int p0_1), .val (.int p0_2), .val (.int p0_3), .val (.ref b2), .val (.int (v0_68 p0_0)), .val (.int (v0_80 p0_0)), .val (.int (v0_91 p0_0 p0_1)), .val (.int (v0_98 p0_0 p0_1)), .val (.int (v0_110 p0_0 p0_1 p0_2)), .val (.int (v0_118 p0_3)), .val (.ref b26)] [(.ref b26)])) _
    refine XS.iload X56.here hx rfl (hb hby at_182) rfl ?_
    show Steps p.tables e below (T56.setTop (mkF m 184 #[.val (.int p0_0), .val (.int p0_1), .val (.int p0_2), .val (.int p0_3), .val (.ref b2), .val (.int (v0_68 p0_0)), .val (.int (v0_80 p0_0)), .val (.int (v0_91 p0_0 p0_1)), .val (.int (v0_98 p0_0 p0_1)), .val (.int (v0_110 p0_0 p0_1 p0_2)), .val (.int (v0_118 p0_3)), .val (.ref b26)] [(.int (v0_68 p0_0)), (.ref b26)])) _
    refine XS.iload X56.here hx rfl (hb hby at_184) rfl ?_
    show Steps p.tables e below (T56.setTop (mkF m 186 #[.val (.int p0_0), .val (.int p0_1), .val (.int p0_2), .val (.int p0_3), .val (.ref b2), .val (.int (v0_68 p0_0)), .val (.int (v0_80 p0_0)), .val (.int (v0_91 p0_0 p0_1)), .val (.int (v0_98 p0_0 p0_1)), .val (.int (v0_110 p0_0 p0_1 p0_2)), .val (.int (v0_118 p0_3)), .val (.ref b26)] [(.int (v0_98 p0_0 p0_1)), (.int (v0_68 p0_0)), (.ref b26)])) _
    refine XS.iload X56.here hx rfl (hb hby at_186) rfl ?_
    show Steps p.tables e below (T56.setTop (mkF m 188 #[.val (.int p0_0), .val (.int p0_1), .val (.int p0_2), .val (.int p0_3), .val (.ref b2), .val (.int (v0_68 p0_0)), .val (.int (v0_80 p0_0)), .val (.int (v0_91 p0_0 p0_1)), .val (.int (v0_98 p0_0 p0_1)), .val (.int (v0_110 p0_0 p0_1 p0_2)), .val (.int (v0_118 p0_3)), .val (.ref b26)] [(.int (v0_110 p0_0 p0_1 p0_2)), (.int (v0_98 p0_0 p0_1)), (.int (v0_68 p0_0)), (.ref b26)])) _
    exact k)
  obtain ⟨_, _, ⟨T59, L59, k59, n59⟩, -, X59, ⟨Lc59, hQ59, l59, y59, z59⟩, st59⟩ := Jvm.LawKit.callS X56 hx (y := (⟨"com/example/chronofield/chronofield/AsciiDigits", "write", "([CIII)V"⟩ : MethodName)) hown (mvT hZ (hw _ (List.mem_of_getElem? (i := 12) rfl))) (mvT hZ (hw _ (List.mem_of_getElem? (i := 13) rfl))) (mvT hZ (hw _ (List.mem_of_getElem? (i := 14) rfl))) (mvT hZ (hw _ (List.mem_of_getElem? (i := 15) rfl))) (by decide) (backOf (W := 0) (rm2 l Z a0 hw [] b26 (v0_68 p0_0) (v0_98 p0_0 p0_1) (v0_110 p0_0 p0_1 p0_2) (own_o p0_0) (own_wd p0_0 p0_1) 10 (g0_177 p0_3) h56 n0 Z56 (own_of p0_0) (own_pi p0_0 p0_1) (own_ok10 p0_0 p0_1) (by decide) g_b26 C56) hZ (hw _ (List.mem_of_getElem? (i := 15) rfl)) (hw _ (List.mem_of_getElem? (i := 14) rfl)) (by decide) (by decide)) (g := (mkF m 188 #[.val (.int p0_0), .val (.int p0_1), .val (.int p0_2), .val (.int p0_3), .val (.ref b2), .val (.int (v0_68 p0_0)), .val (.int (v0_80 p0_0)), .val (.int (v0_91 p0_0 p0_1)), .val (.int (v0_98 p0_0 p0_1)), .val (.int (v0_110 p0_0 p0_1 p0_2)), .val (.int (v0_118 p0_3)), .val (.ref b26)] [(.int (v0_110 p0_0 p0_1 p0_2)), (.int (v0_98 p0_0 p0_1)), (.int (v0_68 p0_0)), (.ref b26)])) rfl (by rw [hml]; rfl) (argsL := [(.ref b26), (.int (v0_68 p0_0)), (.int (v0_98 p0_0 p0_1)), (.int (v0_110 p0_0 p0_1 p0_2))]) (rest := []) (lenOf pd_1 rfl) rfl (by show 2 * 0 + _ ≤ _; exact Nat.le_of_eq rfl) (hb hby at_188) (fun _ _ => ⟨rfl, e56, (by decide : 2 + 0 ≤ _), (by decide : 20 + 0 ≤ _)⟩)
  dsimp only [Pt.U, Pt.locs, Pt.cells, Pt.slots] at X59 l59 y59 z59 st59 hQ59
  rw [l59, y59, z59] at X59
  obtain ⟨rfl, M59, K59c, P59_0⟩ := hQ59
  have N59 := Fr.app N56 M59
  have K59 : Keep h56 T59.heap [b26] := K59c
  have Z59 : n0 ≤ T59.heap.size := Nat.le_trans Z56 K59.1
  have Ar60 : ArI Z T59.heap b2 .int 10 (own_upd g0_52 9 (1000000000 : Int32)) := Ar57.keep K59 (ninS ne_b2_b26 nin0)
  have C61 : ArI Z T59.heap b26 .char 10 (g0_188 p0_0 p0_1 p0_2 p0_3) := P59_0
  replace X59 : Stand p l e room_1 s m #[(.int p0_0), (.int p0_1), (.int p0_2), (.int p0_3)] below meth c T59 _ 2 20 := X59
  have pre59 : ∀ t, Steps p.tables e below (T59.setTop (mkF m 191 #[.val (.int p0_0), .val (.int p0_1), .val (.int p0_2), .val (.int p0_3), .val (.ref b2), .val (.int (v0_68 p0_0)), .val (.int (v0_80 p0_0)), .val (.int (v0_91 p0_0 p0_1)), .val (.int (v0_98 p0_0 p0_1)), .val (.int (v0_110 p0_0 p0_1 p0_2)), .val (.int (v0_118 p0_3)), .val (.ref b26)] [])) t → Steps p.tables e below (s₁.setTop (entryFrame m #[(.int p0_0), (.int p0_1), (.int p0_2), (.int p0_3)] maxLocals)) t := fun t k => pre58 t (st59 t k)
  have pre62 : ∀ t, Steps p.tables e below (T59.setTop (mkF m 204 #[.val (.int p0_0), .val (.int p0_1), .val (.int p0_2), .val (.int p0_3), .val (.ref b2), .val (.int (v0_68 p0_0)), .val (.int (v0_80 p0_0)), .val (.int (v0_91 p0_0 p0_1)), .val (.int (v0_98 p0_0 p0_1)), .val (.int (v0_110 p0_0 p0_1 p0_2)), .val (.int (v0_118 p0_3)), .val (.ref b26)] [(.ref b2), (.int (v0_118 p0_3)), (.int (v0_110 p0_0 p0_1 p0_2)), (.int (v0_98 p0_0 p0_1)), (.int (v0_68 p0_0)), (.int (0 : Int32)), (.ref b26)])) t → Steps p.tables e below (s₁.setTop (entryFrame m #[(.int p0_0), (.int p0_1), (.int p0_2), (.int p0_3)] maxLocals)) t := fun t k => pre59 t (by
    refine XS.aload X59.here hx rfl (hb hby at_191) rfl rfl ?_
    show Steps p.tables e below (T59.setTop (mkF m 193 #[.val (.int p0_0), .val (.int p0_1), .val (.int p0_2), .val (.int p0_3), .val (.ref b2), .val (.int (v0_68 p0_0)), .val (.int (v0_80 p0_0)), .val (.int (v0_91 p0_0 p0_1)), .val (.int (v0_98 p0_0 p0_1)), .val (.int (v0_110 p0_0 p0_1 p0_2)), .val (.int (v0_118 p0_3)), .val (.ref b26)] [(.ref b26)])) _
    refine XS.iconst X59.here hx rfl (hb hby at_193) ?_
    show Steps p.tables e below (T59.setTop (mkF m 194 #[.val (.int p0_0), .val (.int p0_1), .val (.int p0_2), .val (.int p0_3), .val (.ref b2), .val (.int (v0_68 p0_0)), .val (.int (v0_80 p0_0)), .val (.int (v0_91 p0_0 p0_1)), .val (.int (v0_98 p0_0 p0_1)), .val (.int (v0_110 p0_0 p0_1 p0_2)), .val (.int (v0_118 p0_3)), .val (.ref b26)] [(.int (0 : Int32)), (.ref b26)])) _
    refine XS.iload X59.here hx rfl (hb hby at_194) rfl ?_
    show Steps p.tables e below (T59.setTop (mkF m 196 #[.val (.int p0_0), .val (.int p0_1), .val (.int p0_2), .val (.int p0_3), .val (.ref b2), .val (.int (v0_68 p0_0)), .val (.int (v0_80 p0_0)), .val (.int (v0_91 p0_0 p0_1)), .val (.int (v0_98 p0_0 p0_1)), .val (.int (v0_110 p0_0 p0_1 p0_2)), .val (.int (v0_118 p0_3)), .val (.ref b26)] [(.int (v0_68 p0_0)), (.int (0 : Int32)), (.ref b26)])) _
    refine XS.iload X59.here hx rfl (hb hby at_196) rfl ?_
    show Steps p.tables e below (T59.setTop (mkF m 198 #[.val (.int p0_0), .val (.int p0_1), .val (.int p0_2), .val (.int p0_3), .val (.ref b2), .val (.int (v0_68 p0_0)), .val (.int (v0_80 p0_0)), .val (.int (v0_91 p0_0 p0_1)), .val (.int (v0_98 p0_0 p0_1)), .val (.int (v0_110 p0_0 p0_1 p0_2)), .val (.int (v0_118 p0_3)), .val (.ref b26)] [(.int (v0_98 p0_0 p0_1)), (.int (v0_68 p0_0)), (.int (0 : Int32)), (.ref b26)])) _
    refine XS.iload X59.here hx rfl (hb hby at_198) rfl ?_
    show Steps p.tables e below (T59.setTop (mkF m 200 #[.val (.int p0_0), .val (.int p0_1), .val (.int p0_2), .val (.int p0_3), .val (.ref b2), .val (.int (v0_68 p0_0)), .val (.int (v0_80 p0_0)), .val (.int (v0_91 p0_0 p0_1)), .val (.int (v0_98 p0_0 p0_1)), .val (.int (v0_110 p0_0 p0_1 p0_2)), .val (.int (v0_118 p0_3)), .val (.ref b26)] [(.int (v0_110 p0_0 p0_1 p0_2)), (.int (v0_98 p0_0 p0_1)), (.int (v0_68 p0_0)), (.int (0 : Int32)), (.ref b26)])) _
    refine XS.iload X59.here hx rfl (hb hby at_200) rfl ?_
    show Steps p.tables e below (T59.setTop (mkF m 202 #[.val (.int p0_0), .val (.int p0_1), .val (.int p0_2), .val (.int p0_3), .val (.ref b2), .val (.int (v0_68 p0_0)), .val (.int (v0_80 p0_0)), .val (.int (v0_91 p0_0 p0_1)), .val (.int (v0_98 p0_0 p0_1)), .val (.int (v0_110 p0_0 p0_1 p0_2)), .val (.int (v0_118 p0_3)), .val (.ref b26)] [(.int (v0_118 p0_3)), (.int (v0_110 p0_0 p0_1 p0_2)), (.int (v0_98 p0_0 p0_1)), (.int (v0_68 p0_0)), (.int (0 : Int32)), (.ref b26)])) _
    refine XS.aload X59.here hx rfl (hb hby at_202) rfl rfl ?_
    show Steps p.tables e below (T59.setTop (mkF m 204 #[.val (.int p0_0), .val (.int p0_1), .val (.int p0_2), .val (.int p0_3), .val (.ref b2), .val (.int (v0_68 p0_0)), .val (.int (v0_80 p0_0)), .val (.int (v0_91 p0_0 p0_1)), .val (.int (v0_98 p0_0 p0_1)), .val (.int (v0_110 p0_0 p0_1 p0_2)), .val (.int (v0_118 p0_3)), .val (.ref b26)] [(.ref b2), (.int (v0_118 p0_3)), (.int (v0_110 p0_0 p0_1 p0_2)), (.int (v0_98 p0_0 p0_1)), (.int (v0_68 p0_0)), (.int (0 : Int32)), (.ref b26)])) _
    exact k)
  obtain ⟨_, _, ⟨T63, L63, k63, n63⟩, -, X63, ⟨Lc63, hQ63, l63, y63, z63⟩, st63⟩ := Jvm.LawKit.callS X59 hx (y := (⟨"com/example/chronofield/chronofield/AsciiDigitsWritePinLaw", "ok", "([CIIIIC[I)Z"⟩ : MethodName)) hown (mvT hZ (hw _ (List.mem_of_getElem? (i := 16) rfl))) (mvT hZ (hw _ (List.mem_of_getElem? (i := 17) rfl))) (mvT hZ (hw _ (List.mem_of_getElem? (i := 18) rfl))) (mvT hZ (hw _ (List.mem_of_getElem? (i := 19) rfl))) (by decide) (backOf (W := 0) (rm3 l Z a0 hw [] b26 (0 : Int32) (v0_68 p0_0) (v0_98 p0_0 p0_1) (v0_110 p0_0 p0_1 p0_2) (v0_118 p0_3) b2 0 (own_o p0_0 + own_wd p0_0 p0_1 - 1 - 0) 10 (g0_188 p0_0 p0_1 p0_2 p0_3) 10 (own_upd g0_52 9 (1000000000 : Int32)) T59.heap n0 Z59 (by decide) (by decide) (own_kp p0_0 p0_1 0 (by decide)) (own_kpl p0_0 p0_1 0) (own_knz p0_0 p0_1 0) C61 Ar60) hZ (hw _ (List.mem_of_getElem? (i := 19) rfl)) (hw _ (List.mem_of_getElem? (i := 18) rfl)) (by decide) (by decide)) (g := (mkF m 204 #[.val (.int p0_0), .val (.int p0_1), .val (.int p0_2), .val (.int p0_3), .val (.ref b2), .val (.int (v0_68 p0_0)), .val (.int (v0_80 p0_0)), .val (.int (v0_91 p0_0 p0_1)), .val (.int (v0_98 p0_0 p0_1)), .val (.int (v0_110 p0_0 p0_1 p0_2)), .val (.int (v0_118 p0_3)), .val (.ref b26)] [(.ref b2), (.int (v0_118 p0_3)), (.int (v0_110 p0_0 p0_1 p0_2)), (.int (v0_98 p0_0 p0_1)), (.int (v0_68 p0_0)), (.int (0 : Int32)), (.ref b26)])) rfl (by rw [hml]; rfl) (argsL := [(.ref b26), (.int (0 : Int32)), (.int (v0_68 p0_0)), (.int (v0_98 p0_0 p0_1)), (.int (v0_110 p0_0 p0_1 p0_2)), (.int (v0_118 p0_3)), (.ref b2)]) (rest := []) (lenOf pd_2 rfl) rfl (by show 2 * 0 + _ ≤ _; exact Nat.le_of_eq rfl) (hb hby at_204) (fun _ _ => ⟨rfl, rfl, (by decide : 2 + 0 ≤ _), (by decide : 20 + 0 ≤ _)⟩)
  dsimp only [Pt.U, Pt.locs, Pt.cells, Pt.slots] at X63 l63 y63 z63 st63 hQ63
  rw [l63, y63, z63] at X63
  obtain ⟨rfl, M63, e63⟩ := hQ63
  have N63 := Fr.app N59 M63
  replace X63 : Stand p l e room_1 s m #[(.int p0_0), (.int p0_1), (.int p0_2), (.int p0_3)] below meth c T63 _ 2 20 := X63
  have pre63 : ∀ t, Steps p.tables e below (T63.setTop (mkF m 207 #[.val (.int p0_0), .val (.int p0_1), .val (.int p0_2), .val (.int p0_3), .val (.ref b2), .val (.int (v0_68 p0_0)), .val (.int (v0_80 p0_0)), .val (.int (v0_91 p0_0 p0_1)), .val (.int (v0_98 p0_0 p0_1)), .val (.int (v0_110 p0_0 p0_1 p0_2)), .val (.int (v0_118 p0_3)), .val (.ref b26)] [(.int (c0_204 p0_0 p0_1 p0_2 p0_3))])) t → Steps p.tables e below (s₁.setTop (entryFrame m #[(.int p0_0), (.int p0_1), (.int p0_2), (.int p0_3)] maxLocals)) t := fun t k => pre62 t (st63 t k)
  have pre65 : ∀ t, Steps p.tables e below (T63.setTop (mkF m 223 #[.val (.int p0_0), .val (.int p0_1), .val (.int p0_2), .val (.int p0_3), .val (.ref b2), .val (.int (v0_68 p0_0)), .val (.int (v0_80 p0_0)), .val (.int (v0_91 p0_0 p0_1)), .val (.int (v0_98 p0_0 p0_1)), .val (.int (v0_110 p0_0 p0_1 p0_2)), .val (.int (v0_118 p0_3)), .val (.ref b26)] [(.ref b2), (.int (v0_118 p0_3)), (.int (v0_110 p0_0 p0_1 p0_2)), (.int (v0_98 p0_0 p0_1)), (.int (v0_68 p0_0)), (.int (1 : Int32)), (.ref b26)])) t → Steps p.tables e below (s₁.setTop (entryFrame m #[(.int p0_0), (.int p0_1), (.int p0_2), (.int p0_3)] maxLocals)) t := fun t k => pre63 t (by
    refine XS.ifNo X63.here hx rfl (hb hby at_207) rfl ((if0 _ _).trans (feq (show ¬ ((c0_204 p0_0 p0_1 p0_2 p0_3) = (0 : Int32)) from (own_main p0_0 p0_1 p0_2 p0_3 0 (by decide)))).1) ?_
    show Steps p.tables e below (T63.setTop (mkF m 210 #[.val (.int p0_0), .val (.int p0_1), .val (.int p0_2), .val (.int p0_3), .val (.ref b2), .val (.int (v0_68 p0_0)), .val (.int (v0_80 p0_0)), .val (.int (v0_91 p0_0 p0_1)), .val (.int (v0_98 p0_0 p0_1)), .val (.int (v0_110 p0_0 p0_1 p0_2)), .val (.int (v0_118 p0_3)), .val (.ref b26)] [])) _
    refine XS.aload X63.here hx rfl (hb hby at_210) rfl rfl ?_
    show Steps p.tables e below (T63.setTop (mkF m 212 #[.val (.int p0_0), .val (.int p0_1), .val (.int p0_2), .val (.int p0_3), .val (.ref b2), .val (.int (v0_68 p0_0)), .val (.int (v0_80 p0_0)), .val (.int (v0_91 p0_0 p0_1)), .val (.int (v0_98 p0_0 p0_1)), .val (.int (v0_110 p0_0 p0_1 p0_2)), .val (.int (v0_118 p0_3)), .val (.ref b26)] [(.ref b26)])) _
    refine XS.iconst X63.here hx rfl (hb hby at_212) ?_
    show Steps p.tables e below (T63.setTop (mkF m 213 #[.val (.int p0_0), .val (.int p0_1), .val (.int p0_2), .val (.int p0_3), .val (.ref b2), .val (.int (v0_68 p0_0)), .val (.int (v0_80 p0_0)), .val (.int (v0_91 p0_0 p0_1)), .val (.int (v0_98 p0_0 p0_1)), .val (.int (v0_110 p0_0 p0_1 p0_2)), .val (.int (v0_118 p0_3)), .val (.ref b26)] [(.int (1 : Int32)), (.ref b26)])) _
    refine XS.iload X63.here hx rfl (hb hby at_213) rfl ?_
    show Steps p.tables e below (T63.setTop (mkF m 215 #[.val (.int p0_0), .val (.int p0_1), .val (.int p0_2), .val (.int p0_3), .val (.ref b2), .val (.int (v0_68 p0_0)), .val (.int (v0_80 p0_0)), .val (.int (v0_91 p0_0 p0_1)), .val (.int (v0_98 p0_0 p0_1)), .val (.int (v0_110 p0_0 p0_1 p0_2)), .val (.int (v0_118 p0_3)), .val (.ref b26)] [(.int (v0_68 p0_0)), (.int (1 : Int32)), (.ref b26)])) _
    refine XS.iload X63.here hx rfl (hb hby at_215) rfl ?_
    show Steps p.tables e below (T63.setTop (mkF m 217 #[.val (.int p0_0), .val (.int p0_1), .val (.int p0_2), .val (.int p0_3), .val (.ref b2), .val (.int (v0_68 p0_0)), .val (.int (v0_80 p0_0)), .val (.int (v0_91 p0_0 p0_1)), .val (.int (v0_98 p0_0 p0_1)), .val (.int (v0_110 p0_0 p0_1 p0_2)), .val (.int (v0_118 p0_3)), .val (.ref b26)] [(.int (v0_98 p0_0 p0_1)), (.int (v0_68 p0_0)), (.int (1 : Int32)), (.ref b26)])) _
    refine XS.iload X63.here hx rfl (hb hby at_217) rfl ?_
    show Steps p.tables e below (T63.setTop (mkF m 219 #[.val (.int p0_0), .val (.int p0_1), .val (.int p0_2), .val (.int p0_3), .val (.ref b2), .val (.int (v0_68 p0_0)), .val (.int (v0_80 p0_0)), .val (.int (v0_91 p0_0 p0_1)), .val (.int (v0_98 p0_0 p0_1)), .val (.int (v0_110 p0_0 p0_1 p0_2)), .val (.int (v0_118 p0_3)), .val (.ref b26)] [(.int (v0_110 p0_0 p0_1 p0_2)), (.int (v0_98 p0_0 p0_1)), (.int (v0_68 p0_0)), (.int (1 : Int32)), (.ref b26)])) _
    refine XS.iload X63.here hx rfl (hb hby at_219) rfl ?_
    show Steps p.tables e below (T63.setTop (mkF m 221 #[.val (.int p0_0), .val (.int p0_1), .val (.int p0_2), .val (.int p0_3), .val (.ref b2), .val (.int (v0_68 p0_0)), .val (.int (v0_80 p0_0)), .val (.int (v0_91 p0_0 p0_1)), .val (.int (v0_98 p0_0 p0_1)), .val (.int (v0_110 p0_0 p0_1 p0_2)), .val (.int (v0_118 p0_3)), .val (.ref b26)] [(.int (v0_118 p0_3)), (.int (v0_110 p0_0 p0_1 p0_2)), (.int (v0_98 p0_0 p0_1)), (.int (v0_68 p0_0)), (.int (1 : Int32)), (.ref b26)])) _
    refine XS.aload X63.here hx rfl (hb hby at_221) rfl rfl ?_
    show Steps p.tables e below (T63.setTop (mkF m 223 #[.val (.int p0_0), .val (.int p0_1), .val (.int p0_2), .val (.int p0_3), .val (.ref b2), .val (.int (v0_68 p0_0)), .val (.int (v0_80 p0_0)), .val (.int (v0_91 p0_0 p0_1)), .val (.int (v0_98 p0_0 p0_1)), .val (.int (v0_110 p0_0 p0_1 p0_2)), .val (.int (v0_118 p0_3)), .val (.ref b26)] [(.ref b2), (.int (v0_118 p0_3)), (.int (v0_110 p0_0 p0_1 p0_2)), (.int (v0_98 p0_0 p0_1)), (.int (v0_68 p0_0)), (.int (1 : Int32)), (.ref b26)])) _
    exact k)
  obtain ⟨_, _, ⟨T66, L66, k66, n66⟩, -, X66, ⟨Lc66, hQ66, l66, y66, z66⟩, st66⟩ := Jvm.LawKit.callS X63 hx (y := (⟨"com/example/chronofield/chronofield/AsciiDigitsWritePinLaw", "ok", "([CIIIIC[I)Z"⟩ : MethodName)) hown (mvT hZ (hw _ (List.mem_of_getElem? (i := 16) rfl))) (mvT hZ (hw _ (List.mem_of_getElem? (i := 17) rfl))) (mvT hZ (hw _ (List.mem_of_getElem? (i := 18) rfl))) (mvT hZ (hw _ (List.mem_of_getElem? (i := 19) rfl))) (by decide) (backOf (W := 0) (rm3 l Z a0 hw [] b26 (1 : Int32) (v0_68 p0_0) (v0_98 p0_0 p0_1) (v0_110 p0_0 p0_1 p0_2) (v0_118 p0_3) b2 1 (own_o p0_0 + own_wd p0_0 p0_1 - 1 - 1) 10 (g0_188 p0_0 p0_1 p0_2 p0_3) 10 (own_upd g0_52 9 (1000000000 : Int32)) T59.heap n0 Z59 (by decide) (by decide) (own_kp p0_0 p0_1 1 (by decide)) (own_kpl p0_0 p0_1 1) (own_knz p0_0 p0_1 1) C61 Ar60) hZ (hw _ (List.mem_of_getElem? (i := 19) rfl)) (hw _ (List.mem_of_getElem? (i := 18) rfl)) (by decide) (by decide)) (g := (mkF m 223 #[.val (.int p0_0), .val (.int p0_1), .val (.int p0_2), .val (.int p0_3), .val (.ref b2), .val (.int (v0_68 p0_0)), .val (.int (v0_80 p0_0)), .val (.int (v0_91 p0_0 p0_1)), .val (.int (v0_98 p0_0 p0_1)), .val (.int (v0_110 p0_0 p0_1 p0_2)), .val (.int (v0_118 p0_3)), .val (.ref b26)] [(.ref b2), (.int (v0_118 p0_3)), (.int (v0_110 p0_0 p0_1 p0_2)), (.int (v0_98 p0_0 p0_1)), (.int (v0_68 p0_0)), (.int (1 : Int32)), (.ref b26)])) rfl (by rw [hml]; rfl) (argsL := [(.ref b26), (.int (1 : Int32)), (.int (v0_68 p0_0)), (.int (v0_98 p0_0 p0_1)), (.int (v0_110 p0_0 p0_1 p0_2)), (.int (v0_118 p0_3)), (.ref b2)]) (rest := []) (lenOf pd_2 rfl) rfl (by show 2 * 0 + _ ≤ _; exact Nat.le_of_eq rfl) (hb hby at_223) (fun _ _ => ⟨rfl, e63, (by decide : 2 + 0 ≤ _), (by decide : 20 + 0 ≤ _)⟩)
  dsimp only [Pt.U, Pt.locs, Pt.cells, Pt.slots] at X66 l66 y66 z66 st66 hQ66
  rw [l66, y66, z66] at X66
  obtain ⟨rfl, M66, e66⟩ := hQ66
  have N66 := Fr.app N63 M66
  replace X66 : Stand p l e room_1 s m #[(.int p0_0), (.int p0_1), (.int p0_2), (.int p0_3)] below meth c T66 _ 2 20 := X66
  have pre66 : ∀ t, Steps p.tables e below (T66.setTop (mkF m 226 #[.val (.int p0_0), .val (.int p0_1), .val (.int p0_2), .val (.int p0_3), .val (.ref b2), .val (.int (v0_68 p0_0)), .val (.int (v0_80 p0_0)), .val (.int (v0_91 p0_0 p0_1)), .val (.int (v0_98 p0_0 p0_1)), .val (.int (v0_110 p0_0 p0_1 p0_2)), .val (.int (v0_118 p0_3)), .val (.ref b26)] [(.int (c0_223 p0_0 p0_1 p0_2 p0_3))])) t → Steps p.tables e below (s₁.setTop (entryFrame m #[(.int p0_0), (.int p0_1), (.int p0_2), (.int p0_3)] maxLocals)) t := fun t k => pre65 t (st66 t k)
  have pre68 : ∀ t, Steps p.tables e below (T66.setTop (mkF m 242 #[.val (.int p0_0), .val (.int p0_1), .val (.int p0_2), .val (.int p0_3), .val (.ref b2), .val (.int (v0_68 p0_0)), .val (.int (v0_80 p0_0)), .val (.int (v0_91 p0_0 p0_1)), .val (.int (v0_98 p0_0 p0_1)), .val (.int (v0_110 p0_0 p0_1 p0_2)), .val (.int (v0_118 p0_3)), .val (.ref b26)] [(.ref b2), (.int (v0_118 p0_3)), (.int (v0_110 p0_0 p0_1 p0_2)), (.int (v0_98 p0_0 p0_1)), (.int (v0_68 p0_0)), (.int (2 : Int32)), (.ref b26)])) t → Steps p.tables e below (s₁.setTop (entryFrame m #[(.int p0_0), (.int p0_1), (.int p0_2), (.int p0_3)] maxLocals)) t := fun t k => pre66 t (by
    refine XS.ifNo X66.here hx rfl (hb hby at_226) rfl ((if0 _ _).trans (feq (show ¬ ((c0_223 p0_0 p0_1 p0_2 p0_3) = (0 : Int32)) from (own_main p0_0 p0_1 p0_2 p0_3 1 (by decide)))).1) ?_
    show Steps p.tables e below (T66.setTop (mkF m 229 #[.val (.int p0_0), .val (.int p0_1), .val (.int p0_2), .val (.int p0_3), .val (.ref b2), .val (.int (v0_68 p0_0)), .val (.int (v0_80 p0_0)), .val (.int (v0_91 p0_0 p0_1)), .val (.int (v0_98 p0_0 p0_1)), .val (.int (v0_110 p0_0 p0_1 p0_2)), .val (.int (v0_118 p0_3)), .val (.ref b26)] [])) _
    refine XS.aload X66.here hx rfl (hb hby at_229) rfl rfl ?_
    show Steps p.tables e below (T66.setTop (mkF m 231 #[.val (.int p0_0), .val (.int p0_1), .val (.int p0_2), .val (.int p0_3), .val (.ref b2), .val (.int (v0_68 p0_0)), .val (.int (v0_80 p0_0)), .val (.int (v0_91 p0_0 p0_1)), .val (.int (v0_98 p0_0 p0_1)), .val (.int (v0_110 p0_0 p0_1 p0_2)), .val (.int (v0_118 p0_3)), .val (.ref b26)] [(.ref b26)])) _
    refine XS.iconst X66.here hx rfl (hb hby at_231) ?_
    show Steps p.tables e below (T66.setTop (mkF m 232 #[.val (.int p0_0), .val (.int p0_1), .val (.int p0_2), .val (.int p0_3), .val (.ref b2), .val (.int (v0_68 p0_0)), .val (.int (v0_80 p0_0)), .val (.int (v0_91 p0_0 p0_1)), .val (.int (v0_98 p0_0 p0_1)), .val (.int (v0_110 p0_0 p0_1 p0_2)), .val (.int (v0_118 p0_3)), .val (.ref b26)] [(.int (2 : Int32)), (.ref b26)])) _
    refine XS.iload X66.here hx rfl (hb hby at_232) rfl ?_
    show Steps p.tables e below (T66.setTop (mkF m 234 #[.val (.int p0_0), .val (.int p0_1), .val (.int p0_2), .val (.int p0_3), .val (.ref b2), .val (.int (v0_68 p0_0)), .val (.int (v0_80 p0_0)), .val (.int (v0_91 p0_0 p0_1)), .val (.int (v0_98 p0_0 p0_1)), .val (.int (v0_110 p0_0 p0_1 p0_2)), .val (.int (v0_118 p0_3)), .val (.ref b26)] [(.int (v0_68 p0_0)), (.int (2 : Int32)), (.ref b26)])) _
    refine XS.iload X66.here hx rfl (hb hby at_234) rfl ?_
    show Steps p.tables e below (T66.setTop (mkF m 236 #[.val (.int p0_0), .val (.int p0_1), .val (.int p0_2), .val (.int p0_3), .val (.ref b2), .val (.int (v0_68 p0_0)), .val (.int (v0_80 p0_0)), .val (.int (v0_91 p0_0 p0_1)), .val (.int (v0_98 p0_0 p0_1)), .val (.int (v0_110 p0_0 p0_1 p0_2)), .val (.int (v0_118 p0_3)), .val (.ref b26)] [(.int (v0_98 p0_0 p0_1)), (.int (v0_68 p0_0)), (.int (2 : Int32)), (.ref b26)])) _
    refine XS.iload X66.here hx rfl (hb hby at_236) rfl ?_
    show Steps p.tables e below (T66.setTop (mkF m 238 #[.val (.int p0_0), .val (.int p0_1), .val (.int p0_2), .val (.int p0_3), .val (.ref b2), .val (.int (v0_68 p0_0)), .val (.int (v0_80 p0_0)), .val (.int (v0_91 p0_0 p0_1)), .val (.int (v0_98 p0_0 p0_1)), .val (.int (v0_110 p0_0 p0_1 p0_2)), .val (.int (v0_118 p0_3)), .val (.ref b26)] [(.int (v0_110 p0_0 p0_1 p0_2)), (.int (v0_98 p0_0 p0_1)), (.int (v0_68 p0_0)), (.int (2 : Int32)), (.ref b26)])) _
    refine XS.iload X66.here hx rfl (hb hby at_238) rfl ?_
    show Steps p.tables e below (T66.setTop (mkF m 240 #[.val (.int p0_0), .val (.int p0_1), .val (.int p0_2), .val (.int p0_3), .val (.ref b2), .val (.int (v0_68 p0_0)), .val (.int (v0_80 p0_0)), .val (.int (v0_91 p0_0 p0_1)), .val (.int (v0_98 p0_0 p0_1)), .val (.int (v0_110 p0_0 p0_1 p0_2)), .val (.int (v0_118 p0_3)), .val (.ref b26)] [(.int (v0_118 p0_3)), (.int (v0_110 p0_0 p0_1 p0_2)), (.int (v0_98 p0_0 p0_1)), (.int (v0_68 p0_0)), (.int (2 : Int32)), (.ref b26)])) _
    refine XS.aload X66.here hx rfl (hb hby at_240) rfl rfl ?_
    show Steps p.tables e below (T66.setTop (mkF m 242 #[.val (.int p0_0), .val (.int p0_1), .val (.int p0_2), .val (.int p0_3), .val (.ref b2), .val (.int (v0_68 p0_0)), .val (.int (v0_80 p0_0)), .val (.int (v0_91 p0_0 p0_1)), .val (.int (v0_98 p0_0 p0_1)), .val (.int (v0_110 p0_0 p0_1 p0_2)), .val (.int (v0_118 p0_3)), .val (.ref b26)] [(.ref b2), (.int (v0_118 p0_3)), (.int (v0_110 p0_0 p0_1 p0_2)), (.int (v0_98 p0_0 p0_1)), (.int (v0_68 p0_0)), (.int (2 : Int32)), (.ref b26)])) _
    exact k)
  obtain ⟨_, _, ⟨T69, L69, k69, n69⟩, -, X69, ⟨Lc69, hQ69, l69, y69, z69⟩, st69⟩ := Jvm.LawKit.callS X66 hx (y := (⟨"com/example/chronofield/chronofield/AsciiDigitsWritePinLaw", "ok", "([CIIIIC[I)Z"⟩ : MethodName)) hown (mvT hZ (hw _ (List.mem_of_getElem? (i := 16) rfl))) (mvT hZ (hw _ (List.mem_of_getElem? (i := 17) rfl))) (mvT hZ (hw _ (List.mem_of_getElem? (i := 18) rfl))) (mvT hZ (hw _ (List.mem_of_getElem? (i := 19) rfl))) (by decide) (backOf (W := 0) (rm3 l Z a0 hw [] b26 (2 : Int32) (v0_68 p0_0) (v0_98 p0_0 p0_1) (v0_110 p0_0 p0_1 p0_2) (v0_118 p0_3) b2 2 (own_o p0_0 + own_wd p0_0 p0_1 - 1 - 2) 10 (g0_188 p0_0 p0_1 p0_2 p0_3) 10 (own_upd g0_52 9 (1000000000 : Int32)) T59.heap n0 Z59 (by decide) (by decide) (own_kp p0_0 p0_1 2 (by decide)) (own_kpl p0_0 p0_1 2) (own_knz p0_0 p0_1 2) C61 Ar60) hZ (hw _ (List.mem_of_getElem? (i := 19) rfl)) (hw _ (List.mem_of_getElem? (i := 18) rfl)) (by decide) (by decide)) (g := (mkF m 242 #[.val (.int p0_0), .val (.int p0_1), .val (.int p0_2), .val (.int p0_3), .val (.ref b2), .val (.int (v0_68 p0_0)), .val (.int (v0_80 p0_0)), .val (.int (v0_91 p0_0 p0_1)), .val (.int (v0_98 p0_0 p0_1)), .val (.int (v0_110 p0_0 p0_1 p0_2)), .val (.int (v0_118 p0_3)), .val (.ref b26)] [(.ref b2), (.int (v0_118 p0_3)), (.int (v0_110 p0_0 p0_1 p0_2)), (.int (v0_98 p0_0 p0_1)), (.int (v0_68 p0_0)), (.int (2 : Int32)), (.ref b26)])) rfl (by rw [hml]; rfl) (argsL := [(.ref b26), (.int (2 : Int32)), (.int (v0_68 p0_0)), (.int (v0_98 p0_0 p0_1)), (.int (v0_110 p0_0 p0_1 p0_2)), (.int (v0_118 p0_3)), (.ref b2)]) (rest := []) (lenOf pd_2 rfl) rfl (by show 2 * 0 + _ ≤ _; exact Nat.le_of_eq rfl) (hb hby at_242) (fun _ _ => ⟨rfl, e66, (by decide : 2 + 0 ≤ _), (by decide : 20 + 0 ≤ _)⟩)
  dsimp only [Pt.U, Pt.locs, Pt.cells, Pt.slots] at X69 l69 y69 z69 st69 hQ69
  rw [l69, y69, z69] at X69
  obtain ⟨rfl, M69, e69⟩ := hQ69
  have N69 := Fr.app N66 M69
  replace X69 : Stand p l e room_1 s m #[(.int p0_0), (.int p0_1), (.int p0_2), (.int p0_3)] below meth c T69 _ 2 20 := X69
  have pre69 : ∀ t, Steps p.tables e below (T69.setTop (mkF m 245 #[.val (.int p0_0), .val (.int p0_1), .val (.int p0_2), .val (.int p0_3), .val (.ref b2), .val (.int (v0_68 p0_0)), .val (.int (v0_80 p0_0)), .val (.int (v0_91 p0_0 p0_1)), .val (.int (v0_98 p0_0 p0_1)), .val (.int (v0_110 p0_0 p0_1 p0_2)), .val (.int (v0_118 p0_3)), .val (.ref b26)] [(.int (c0_242 p0_0 p0_1 p0_2 p0_3))])) t → Steps p.tables e below (s₁.setTop (entryFrame m #[(.int p0_0), (.int p0_1), (.int p0_2), (.int p0_3)] maxLocals)) t := fun t k => pre68 t (st69 t k)
  have pre71 : ∀ t, Steps p.tables e below (T69.setTop (mkF m 261 #[.val (.int p0_0), .val (.int p0_1), .val (.int p0_2), .val (.int p0_3), .val (.ref b2), .val (.int (v0_68 p0_0)), .val (.int (v0_80 p0_0)), .val (.int (v0_91 p0_0 p0_1)), .val (.int (v0_98 p0_0 p0_1)), .val (.int (v0_110 p0_0 p0_1 p0_2)), .val (.int (v0_118 p0_3)), .val (.ref b26)] [(.ref b2), (.int (v0_118 p0_3)), (.int (v0_110 p0_0 p0_1 p0_2)), (.int (v0_98 p0_0 p0_1)), (.int (v0_68 p0_0)), (.int (3 : Int32)), (.ref b26)])) t → Steps p.tables e below (s₁.setTop (entryFrame m #[(.int p0_0), (.int p0_1), (.int p0_2), (.int p0_3)] maxLocals)) t := fun t k => pre69 t (by
    refine XS.ifNo X69.here hx rfl (hb hby at_245) rfl ((if0 _ _).trans (feq (show ¬ ((c0_242 p0_0 p0_1 p0_2 p0_3) = (0 : Int32)) from (own_main p0_0 p0_1 p0_2 p0_3 2 (by decide)))).1) ?_
    show Steps p.tables e below (T69.setTop (mkF m 248 #[.val (.int p0_0), .val (.int p0_1), .val (.int p0_2), .val (.int p0_3), .val (.ref b2), .val (.int (v0_68 p0_0)), .val (.int (v0_80 p0_0)), .val (.int (v0_91 p0_0 p0_1)), .val (.int (v0_98 p0_0 p0_1)), .val (.int (v0_110 p0_0 p0_1 p0_2)), .val (.int (v0_118 p0_3)), .val (.ref b26)] [])) _
    refine XS.aload X69.here hx rfl (hb hby at_248) rfl rfl ?_
    show Steps p.tables e below (T69.setTop (mkF m 250 #[.val (.int p0_0), .val (.int p0_1), .val (.int p0_2), .val (.int p0_3), .val (.ref b2), .val (.int (v0_68 p0_0)), .val (.int (v0_80 p0_0)), .val (.int (v0_91 p0_0 p0_1)), .val (.int (v0_98 p0_0 p0_1)), .val (.int (v0_110 p0_0 p0_1 p0_2)), .val (.int (v0_118 p0_3)), .val (.ref b26)] [(.ref b26)])) _
    refine XS.iconst X69.here hx rfl (hb hby at_250) ?_
    show Steps p.tables e below (T69.setTop (mkF m 251 #[.val (.int p0_0), .val (.int p0_1), .val (.int p0_2), .val (.int p0_3), .val (.ref b2), .val (.int (v0_68 p0_0)), .val (.int (v0_80 p0_0)), .val (.int (v0_91 p0_0 p0_1)), .val (.int (v0_98 p0_0 p0_1)), .val (.int (v0_110 p0_0 p0_1 p0_2)), .val (.int (v0_118 p0_3)), .val (.ref b26)] [(.int (3 : Int32)), (.ref b26)])) _
    refine XS.iload X69.here hx rfl (hb hby at_251) rfl ?_
    show Steps p.tables e below (T69.setTop (mkF m 253 #[.val (.int p0_0), .val (.int p0_1), .val (.int p0_2), .val (.int p0_3), .val (.ref b2), .val (.int (v0_68 p0_0)), .val (.int (v0_80 p0_0)), .val (.int (v0_91 p0_0 p0_1)), .val (.int (v0_98 p0_0 p0_1)), .val (.int (v0_110 p0_0 p0_1 p0_2)), .val (.int (v0_118 p0_3)), .val (.ref b26)] [(.int (v0_68 p0_0)), (.int (3 : Int32)), (.ref b26)])) _
    refine XS.iload X69.here hx rfl (hb hby at_253) rfl ?_
    show Steps p.tables e below (T69.setTop (mkF m 255 #[.val (.int p0_0), .val (.int p0_1), .val (.int p0_2), .val (.int p0_3), .val (.ref b2), .val (.int (v0_68 p0_0)), .val (.int (v0_80 p0_0)), .val (.int (v0_91 p0_0 p0_1)), .val (.int (v0_98 p0_0 p0_1)), .val (.int (v0_110 p0_0 p0_1 p0_2)), .val (.int (v0_118 p0_3)), .val (.ref b26)] [(.int (v0_98 p0_0 p0_1)), (.int (v0_68 p0_0)), (.int (3 : Int32)), (.ref b26)])) _
    refine XS.iload X69.here hx rfl (hb hby at_255) rfl ?_
    show Steps p.tables e below (T69.setTop (mkF m 257 #[.val (.int p0_0), .val (.int p0_1), .val (.int p0_2), .val (.int p0_3), .val (.ref b2), .val (.int (v0_68 p0_0)), .val (.int (v0_80 p0_0)), .val (.int (v0_91 p0_0 p0_1)), .val (.int (v0_98 p0_0 p0_1)), .val (.int (v0_110 p0_0 p0_1 p0_2)), .val (.int (v0_118 p0_3)), .val (.ref b26)] [(.int (v0_110 p0_0 p0_1 p0_2)), (.int (v0_98 p0_0 p0_1)), (.int (v0_68 p0_0)), (.int (3 : Int32)), (.ref b26)])) _
    refine XS.iload X69.here hx rfl (hb hby at_257) rfl ?_
    show Steps p.tables e below (T69.setTop (mkF m 259 #[.val (.int p0_0), .val (.int p0_1), .val (.int p0_2), .val (.int p0_3), .val (.ref b2), .val (.int (v0_68 p0_0)), .val (.int (v0_80 p0_0)), .val (.int (v0_91 p0_0 p0_1)), .val (.int (v0_98 p0_0 p0_1)), .val (.int (v0_110 p0_0 p0_1 p0_2)), .val (.int (v0_118 p0_3)), .val (.ref b26)] [(.int (v0_118 p0_3)), (.int (v0_110 p0_0 p0_1 p0_2)), (.int (v0_98 p0_0 p0_1)), (.int (v0_68 p0_0)), (.int (3 : Int32)), (.ref b26)])) _
    refine XS.aload X69.here hx rfl (hb hby at_259) rfl rfl ?_
    show Steps p.tables e below (T69.setTop (mkF m 261 #[.val (.int p0_0), .val (.int p0_1), .val (.int p0_2), .val (.int p0_3), .val (.ref b2), .val (.int (v0_68 p0_0)), .val (.int (v0_80 p0_0)), .val (.int (v0_91 p0_0 p0_1)), .val (.int (v0_98 p0_0 p0_1)), .val (.int (v0_110 p0_0 p0_1 p0_2)), .val (.int (v0_118 p0_3)), .val (.ref b26)] [(.ref b2), (.int (v0_118 p0_3)), (.int (v0_110 p0_0 p0_1 p0_2)), (.int (v0_98 p0_0 p0_1)), (.int (v0_68 p0_0)), (.int (3 : Int32)), (.ref b26)])) _
    exact k)
  obtain ⟨_, _, ⟨T72, L72, k72, n72⟩, -, X72, ⟨Lc72, hQ72, l72, y72, z72⟩, st72⟩ := Jvm.LawKit.callS X69 hx (y := (⟨"com/example/chronofield/chronofield/AsciiDigitsWritePinLaw", "ok", "([CIIIIC[I)Z"⟩ : MethodName)) hown (mvT hZ (hw _ (List.mem_of_getElem? (i := 16) rfl))) (mvT hZ (hw _ (List.mem_of_getElem? (i := 17) rfl))) (mvT hZ (hw _ (List.mem_of_getElem? (i := 18) rfl))) (mvT hZ (hw _ (List.mem_of_getElem? (i := 19) rfl))) (by decide) (backOf (W := 0) (rm3 l Z a0 hw [] b26 (3 : Int32) (v0_68 p0_0) (v0_98 p0_0 p0_1) (v0_110 p0_0 p0_1 p0_2) (v0_118 p0_3) b2 3 (own_o p0_0 + own_wd p0_0 p0_1 - 1 - 3) 10 (g0_188 p0_0 p0_1 p0_2 p0_3) 10 (own_upd g0_52 9 (1000000000 : Int32)) T59.heap n0 Z59 (by decide) (by decide) (own_kp p0_0 p0_1 3 (by decide)) (own_kpl p0_0 p0_1 3) (own_knz p0_0 p0_1 3) C61 Ar60) hZ (hw _ (List.mem_of_getElem? (i := 19) rfl)) (hw _ (List.mem_of_getElem? (i := 18) rfl)) (by decide) (by decide)) (g := (mkF m 261 #[.val (.int p0_0), .val (.int p0_1), .val (.int p0_2), .val (.int p0_3), .val (.ref b2), .val (.int (v0_68 p0_0)), .val (.int (v0_80 p0_0)), .val (.int (v0_91 p0_0 p0_1)), .val (.int (v0_98 p0_0 p0_1)), .val (.int (v0_110 p0_0 p0_1 p0_2)), .val (.int (v0_118 p0_3)), .val (.ref b26)] [(.ref b2), (.int (v0_118 p0_3)), (.int (v0_110 p0_0 p0_1 p0_2)), (.int (v0_98 p0_0 p0_1)), (.int (v0_68 p0_0)), (.int (3 : Int32)), (.ref b26)])) rfl (by rw [hml]; rfl) (argsL := [(.ref b26), (.int (3 : Int32)), (.int (v0_68 p0_0)), (.int (v0_98 p0_0 p0_1)), (.int (v0_110 p0_0 p0_1 p0_2)), (.int (v0_118 p0_3)), (.ref b2)]) (rest := []) (lenOf pd_2 rfl) rfl (by show 2 * 0 + _ ≤ _; exact Nat.le_of_eq rfl) (hb hby at_261) (fun _ _ => ⟨rfl, e69, (by decide : 2 + 0 ≤ _), (by decide : 20 + 0 ≤ _)⟩)
  dsimp only [Pt.U, Pt.locs, Pt.cells, Pt.slots] at X72 l72 y72 z72 st72 hQ72
  rw [l72, y72, z72] at X72
  obtain ⟨rfl, M72, e72⟩ := hQ72
  have N72 := Fr.app N69 M72
  replace X72 : Stand p l e room_1 s m #[(.int p0_0), (.int p0_1), (.int p0_2), (.int p0_3)] below meth c T72 _ 2 20 := X72
  have pre72 : ∀ t, Steps p.tables e below (T72.setTop (mkF m 264 #[.val (.int p0_0), .val (.int p0_1), .val (.int p0_2), .val (.int p0_3), .val (.ref b2), .val (.int (v0_68 p0_0)), .val (.int (v0_80 p0_0)), .val (.int (v0_91 p0_0 p0_1)), .val (.int (v0_98 p0_0 p0_1)), .val (.int (v0_110 p0_0 p0_1 p0_2)), .val (.int (v0_118 p0_3)), .val (.ref b26)] [(.int (c0_261 p0_0 p0_1 p0_2 p0_3))])) t → Steps p.tables e below (s₁.setTop (entryFrame m #[(.int p0_0), (.int p0_1), (.int p0_2), (.int p0_3)] maxLocals)) t := fun t k => pre71 t (st72 t k)
  have pre74 : ∀ t, Steps p.tables e below (T72.setTop (mkF m 280 #[.val (.int p0_0), .val (.int p0_1), .val (.int p0_2), .val (.int p0_3), .val (.ref b2), .val (.int (v0_68 p0_0)), .val (.int (v0_80 p0_0)), .val (.int (v0_91 p0_0 p0_1)), .val (.int (v0_98 p0_0 p0_1)), .val (.int (v0_110 p0_0 p0_1 p0_2)), .val (.int (v0_118 p0_3)), .val (.ref b26)] [(.ref b2), (.int (v0_118 p0_3)), (.int (v0_110 p0_0 p0_1 p0_2)), (.int (v0_98 p0_0 p0_1)), (.int (v0_68 p0_0)), (.int (4 : Int32)), (.ref b26)])) t → Steps p.tables e below (s₁.setTop (entryFrame m #[(.int p0_0), (.int p0_1), (.int p0_2), (.int p0_3)] maxLocals)) t := fun t k => pre72 t (by
    refine XS.ifNo X72.here hx rfl (hb hby at_264) rfl ((if0 _ _).trans (feq (show ¬ ((c0_261 p0_0 p0_1 p0_2 p0_3) = (0 : Int32)) from (own_main p0_0 p0_1 p0_2 p0_3 3 (by decide)))).1) ?_
    show Steps p.tables e below (T72.setTop (mkF m 267 #[.val (.int p0_0), .val (.int p0_1), .val (.int p0_2), .val (.int p0_3), .val (.ref b2), .val (.int (v0_68 p0_0)), .val (.int (v0_80 p0_0)), .val (.int (v0_91 p0_0 p0_1)), .val (.int (v0_98 p0_0 p0_1)), .val (.int (v0_110 p0_0 p0_1 p0_2)), .val (.int (v0_118 p0_3)), .val (.ref b26)] [])) _
    refine XS.aload X72.here hx rfl (hb hby at_267) rfl rfl ?_
    show Steps p.tables e below (T72.setTop (mkF m 269 #[.val (.int p0_0), .val (.int p0_1), .val (.int p0_2), .val (.int p0_3), .val (.ref b2), .val (.int (v0_68 p0_0)), .val (.int (v0_80 p0_0)), .val (.int (v0_91 p0_0 p0_1)), .val (.int (v0_98 p0_0 p0_1)), .val (.int (v0_110 p0_0 p0_1 p0_2)), .val (.int (v0_118 p0_3)), .val (.ref b26)] [(.ref b26)])) _
    refine XS.iconst X72.here hx rfl (hb hby at_269) ?_
    show Steps p.tables e below (T72.setTop (mkF m 270 #[.val (.int p0_0), .val (.int p0_1), .val (.int p0_2), .val (.int p0_3), .val (.ref b2), .val (.int (v0_68 p0_0)), .val (.int (v0_80 p0_0)), .val (.int (v0_91 p0_0 p0_1)), .val (.int (v0_98 p0_0 p0_1)), .val (.int (v0_110 p0_0 p0_1 p0_2)), .val (.int (v0_118 p0_3)), .val (.ref b26)] [(.int (4 : Int32)), (.ref b26)])) _
    refine XS.iload X72.here hx rfl (hb hby at_270) rfl ?_
    show Steps p.tables e below (T72.setTop (mkF m 272 #[.val (.int p0_0), .val (.int p0_1), .val (.int p0_2), .val (.int p0_3), .val (.ref b2), .val (.int (v0_68 p0_0)), .val (.int (v0_80 p0_0)), .val (.int (v0_91 p0_0 p0_1)), .val (.int (v0_98 p0_0 p0_1)), .val (.int (v0_110 p0_0 p0_1 p0_2)), .val (.int (v0_118 p0_3)), .val (.ref b26)] [(.int (v0_68 p0_0)), (.int (4 : Int32)), (.ref b26)])) _
    refine XS.iload X72.here hx rfl (hb hby at_272) rfl ?_
    show Steps p.tables e below (T72.setTop (mkF m 274 #[.val (.int p0_0), .val (.int p0_1), .val (.int p0_2), .val (.int p0_3), .val (.ref b2), .val (.int (v0_68 p0_0)), .val (.int (v0_80 p0_0)), .val (.int (v0_91 p0_0 p0_1)), .val (.int (v0_98 p0_0 p0_1)), .val (.int (v0_110 p0_0 p0_1 p0_2)), .val (.int (v0_118 p0_3)), .val (.ref b26)] [(.int (v0_98 p0_0 p0_1)), (.int (v0_68 p0_0)), (.int (4 : Int32)), (.ref b26)])) _
    refine XS.iload X72.here hx rfl (hb hby at_274) rfl ?_
    show Steps p.tables e below (T72.setTop (mkF m 276 #[.val (.int p0_0), .val (.int p0_1), .val (.int p0_2), .val (.int p0_3), .val (.ref b2), .val (.int (v0_68 p0_0)), .val (.int (v0_80 p0_0)), .val (.int (v0_91 p0_0 p0_1)), .val (.int (v0_98 p0_0 p0_1)), .val (.int (v0_110 p0_0 p0_1 p0_2)), .val (.int (v0_118 p0_3)), .val (.ref b26)] [(.int (v0_110 p0_0 p0_1 p0_2)), (.int (v0_98 p0_0 p0_1)), (.int (v0_68 p0_0)), (.int (4 : Int32)), (.ref b26)])) _
    refine XS.iload X72.here hx rfl (hb hby at_276) rfl ?_
    show Steps p.tables e below (T72.setTop (mkF m 278 #[.val (.int p0_0), .val (.int p0_1), .val (.int p0_2), .val (.int p0_3), .val (.ref b2), .val (.int (v0_68 p0_0)), .val (.int (v0_80 p0_0)), .val (.int (v0_91 p0_0 p0_1)), .val (.int (v0_98 p0_0 p0_1)), .val (.int (v0_110 p0_0 p0_1 p0_2)), .val (.int (v0_118 p0_3)), .val (.ref b26)] [(.int (v0_118 p0_3)), (.int (v0_110 p0_0 p0_1 p0_2)), (.int (v0_98 p0_0 p0_1)), (.int (v0_68 p0_0)), (.int (4 : Int32)), (.ref b26)])) _
    refine XS.aload X72.here hx rfl (hb hby at_278) rfl rfl ?_
    show Steps p.tables e below (T72.setTop (mkF m 280 #[.val (.int p0_0), .val (.int p0_1), .val (.int p0_2), .val (.int p0_3), .val (.ref b2), .val (.int (v0_68 p0_0)), .val (.int (v0_80 p0_0)), .val (.int (v0_91 p0_0 p0_1)), .val (.int (v0_98 p0_0 p0_1)), .val (.int (v0_110 p0_0 p0_1 p0_2)), .val (.int (v0_118 p0_3)), .val (.ref b26)] [(.ref b2), (.int (v0_118 p0_3)), (.int (v0_110 p0_0 p0_1 p0_2)), (.int (v0_98 p0_0 p0_1)), (.int (v0_68 p0_0)), (.int (4 : Int32)), (.ref b26)])) _
    exact k)
  obtain ⟨_, _, ⟨T75, L75, k75, n75⟩, -, X75, ⟨Lc75, hQ75, l75, y75, z75⟩, st75⟩ := Jvm.LawKit.callS X72 hx (y := (⟨"com/example/chronofield/chronofield/AsciiDigitsWritePinLaw", "ok", "([CIIIIC[I)Z"⟩ : MethodName)) hown (mvT hZ (hw _ (List.mem_of_getElem? (i := 16) rfl))) (mvT hZ (hw _ (List.mem_of_getElem? (i := 17) rfl))) (mvT hZ (hw _ (List.mem_of_getElem? (i := 18) rfl))) (mvT hZ (hw _ (List.mem_of_getElem? (i := 19) rfl))) (by decide) (backOf (W := 0) (rm3 l Z a0 hw [] b26 (4 : Int32) (v0_68 p0_0) (v0_98 p0_0 p0_1) (v0_110 p0_0 p0_1 p0_2) (v0_118 p0_3) b2 4 (own_o p0_0 + own_wd p0_0 p0_1 - 1 - 4) 10 (g0_188 p0_0 p0_1 p0_2 p0_3) 10 (own_upd g0_52 9 (1000000000 : Int32)) T59.heap n0 Z59 (by decide) (by decide) (own_kp p0_0 p0_1 4 (by decide)) (own_kpl p0_0 p0_1 4) (own_knz p0_0 p0_1 4) C61 Ar60) hZ (hw _ (List.mem_of_getElem? (i := 19) rfl)) (hw _ (List.mem_of_getElem? (i := 18) rfl)) (by decide) (by decide)) (g := (mkF m 280 #[.val (.int p0_0), .val (.int p0_1), .val (.int p0_2), .val (.int p0_3), .val (.ref b2), .val (.int (v0_68 p0_0)), .val (.int (v0_80 p0_0)), .val (.int (v0_91 p0_0 p0_1)), .val (.int (v0_98 p0_0 p0_1)), .val (.int (v0_110 p0_0 p0_1 p0_2)), .val (.int (v0_118 p0_3)), .val (.ref b26)] [(.ref b2), (.int (v0_118 p0_3)), (.int (v0_110 p0_0 p0_1 p0_2)), (.int (v0_98 p0_0 p0_1)), (.int (v0_68 p0_0)), (.int (4 : Int32)), (.ref b26)])) rfl (by rw [hml]; rfl) (argsL := [(.ref b26), (.int (4 : Int32)), (.int (v0_68 p0_0)), (.int (v0_98 p0_0 p0_1)), (.int (v0_110 p0_0 p0_1 p0_2)), (.int (v0_118 p0_3)), (.ref b2)]) (rest := []) (lenOf pd_2 rfl) rfl (by show 2 * 0 + _ ≤ _; exact Nat.le_of_eq rfl) (hb hby at_280) (fun _ _ => ⟨rfl, e72, (by decide : 2 + 0 ≤ _), (by decide : 20 + 0 ≤ _)⟩)
  dsimp only [Pt.U, Pt.locs, Pt.cells, Pt.slots] at X75 l75 y75 z75 st75 hQ75
  rw [l75, y75, z75] at X75
  obtain ⟨rfl, M75, e75⟩ := hQ75
  have N75 := Fr.app N72 M75
  replace X75 : Stand p l e room_1 s m #[(.int p0_0), (.int p0_1), (.int p0_2), (.int p0_3)] below meth c T75 _ 2 20 := X75
  have pre75 : ∀ t, Steps p.tables e below (T75.setTop (mkF m 283 #[.val (.int p0_0), .val (.int p0_1), .val (.int p0_2), .val (.int p0_3), .val (.ref b2), .val (.int (v0_68 p0_0)), .val (.int (v0_80 p0_0)), .val (.int (v0_91 p0_0 p0_1)), .val (.int (v0_98 p0_0 p0_1)), .val (.int (v0_110 p0_0 p0_1 p0_2)), .val (.int (v0_118 p0_3)), .val (.ref b26)] [(.int (c0_280 p0_0 p0_1 p0_2 p0_3))])) t → Steps p.tables e below (s₁.setTop (entryFrame m #[(.int p0_0), (.int p0_1), (.int p0_2), (.int p0_3)] maxLocals)) t := fun t k => pre74 t (st75 t k)
  have pre77 : ∀ t, Steps p.tables e below (T75.setTop (mkF m 299 #[.val (.int p0_0), .val (.int p0_1), .val (.int p0_2), .val (.int p0_3), .val (.ref b2), .val (.int (v0_68 p0_0)), .val (.int (v0_80 p0_0)), .val (.int (v0_91 p0_0 p0_1)), .val (.int (v0_98 p0_0 p0_1)), .val (.int (v0_110 p0_0 p0_1 p0_2)), .val (.int (v0_118 p0_3)), .val (.ref b26)] [(.ref b2), (.int (v0_118 p0_3)), (.int (v0_110 p0_0 p0_1 p0_2)), (.int (v0_98 p0_0 p0_1)), (.int (v0_68 p0_0)), (.int (5 : Int32)), (.ref b26)])) t → Steps p.tables e below (s₁.setTop (entryFrame m #[(.int p0_0), (.int p0_1), (.int p0_2), (.int p0_3)] maxLocals)) t := fun t k => pre75 t (by
    refine XS.ifNo X75.here hx rfl (hb hby at_283) rfl ((if0 _ _).trans (feq (show ¬ ((c0_280 p0_0 p0_1 p0_2 p0_3) = (0 : Int32)) from (own_main p0_0 p0_1 p0_2 p0_3 4 (by decide)))).1) ?_
    show Steps p.tables e below (T75.setTop (mkF m 286 #[.val (.int p0_0), .val (.int p0_1), .val (.int p0_2), .val (.int p0_3), .val (.ref b2), .val (.int (v0_68 p0_0)), .val (.int (v0_80 p0_0)), .val (.int (v0_91 p0_0 p0_1)), .val (.int (v0_98 p0_0 p0_1)), .val (.int (v0_110 p0_0 p0_1 p0_2)), .val (.int (v0_118 p0_3)), .val (.ref b26)] [])) _
    refine XS.aload X75.here hx rfl (hb hby at_286) rfl rfl ?_
    show Steps p.tables e below (T75.setTop (mkF m 288 #[.val (.int p0_0), .val (.int p0_1), .val (.int p0_2), .val (.int p0_3), .val (.ref b2), .val (.int (v0_68 p0_0)), .val (.int (v0_80 p0_0)), .val (.int (v0_91 p0_0 p0_1)), .val (.int (v0_98 p0_0 p0_1)), .val (.int (v0_110 p0_0 p0_1 p0_2)), .val (.int (v0_118 p0_3)), .val (.ref b26)] [(.ref b26)])) _
    refine XS.iconst X75.here hx rfl (hb hby at_288) ?_
    show Steps p.tables e below (T75.setTop (mkF m 289 #[.val (.int p0_0), .val (.int p0_1), .val (.int p0_2), .val (.int p0_3), .val (.ref b2), .val (.int (v0_68 p0_0)), .val (.int (v0_80 p0_0)), .val (.int (v0_91 p0_0 p0_1)), .val (.int (v0_98 p0_0 p0_1)), .val (.int (v0_110 p0_0 p0_1 p0_2)), .val (.int (v0_118 p0_3)), .val (.ref b26)] [(.int (5 : Int32)), (.ref b26)])) _
    refine XS.iload X75.here hx rfl (hb hby at_289) rfl ?_
    show Steps p.tables e below (T75.setTop (mkF m 291 #[.val (.int p0_0), .val (.int p0_1), .val (.int p0_2), .val (.int p0_3), .val (.ref b2), .val (.int (v0_68 p0_0)), .val (.int (v0_80 p0_0)), .val (.int (v0_91 p0_0 p0_1)), .val (.int (v0_98 p0_0 p0_1)), .val (.int (v0_110 p0_0 p0_1 p0_2)), .val (.int (v0_118 p0_3)), .val (.ref b26)] [(.int (v0_68 p0_0)), (.int (5 : Int32)), (.ref b26)])) _
    refine XS.iload X75.here hx rfl (hb hby at_291) rfl ?_
    show Steps p.tables e below (T75.setTop (mkF m 293 #[.val (.int p0_0), .val (.int p0_1), .val (.int p0_2), .val (.int p0_3), .val (.ref b2), .val (.int (v0_68 p0_0)), .val (.int (v0_80 p0_0)), .val (.int (v0_91 p0_0 p0_1)), .val (.int (v0_98 p0_0 p0_1)), .val (.int (v0_110 p0_0 p0_1 p0_2)), .val (.int (v0_118 p0_3)), .val (.ref b26)] [(.int (v0_98 p0_0 p0_1)), (.int (v0_68 p0_0)), (.int (5 : Int32)), (.ref b26)])) _
    refine XS.iload X75.here hx rfl (hb hby at_293) rfl ?_
    show Steps p.tables e below (T75.setTop (mkF m 295 #[.val (.int p0_0), .val (.int p0_1), .val (.int p0_2), .val (.int p0_3), .val (.ref b2), .val (.int (v0_68 p0_0)), .val (.int (v0_80 p0_0)), .val (.int (v0_91 p0_0 p0_1)), .val (.int (v0_98 p0_0 p0_1)), .val (.int (v0_110 p0_0 p0_1 p0_2)), .val (.int (v0_118 p0_3)), .val (.ref b26)] [(.int (v0_110 p0_0 p0_1 p0_2)), (.int (v0_98 p0_0 p0_1)), (.int (v0_68 p0_0)), (.int (5 : Int32)), (.ref b26)])) _
    refine XS.iload X75.here hx rfl (hb hby at_295) rfl ?_
    show Steps p.tables e below (T75.setTop (mkF m 297 #[.val (.int p0_0), .val (.int p0_1), .val (.int p0_2), .val (.int p0_3), .val (.ref b2), .val (.int (v0_68 p0_0)), .val (.int (v0_80 p0_0)), .val (.int (v0_91 p0_0 p0_1)), .val (.int (v0_98 p0_0 p0_1)), .val (.int (v0_110 p0_0 p0_1 p0_2)), .val (.int (v0_118 p0_3)), .val (.ref b26)] [(.int (v0_118 p0_3)), (.int (v0_110 p0_0 p0_1 p0_2)), (.int (v0_98 p0_0 p0_1)), (.int (v0_68 p0_0)), (.int (5 : Int32)), (.ref b26)])) _
    refine XS.aload X75.here hx rfl (hb hby at_297) rfl rfl ?_
    show Steps p.tables e below (T75.setTop (mkF m 299 #[.val (.int p0_0), .val (.int p0_1), .val (.int p0_2), .val (.int p0_3), .val (.ref b2), .val (.int (v0_68 p0_0)), .val (.int (v0_80 p0_0)), .val (.int (v0_91 p0_0 p0_1)), .val (.int (v0_98 p0_0 p0_1)), .val (.int (v0_110 p0_0 p0_1 p0_2)), .val (.int (v0_118 p0_3)), .val (.ref b26)] [(.ref b2), (.int (v0_118 p0_3)), (.int (v0_110 p0_0 p0_1 p0_2)), (.int (v0_98 p0_0 p0_1)), (.int (v0_68 p0_0)), (.int (5 : Int32)), (.ref b26)])) _
    exact k)
  obtain ⟨_, _, ⟨T78, L78, k78, n78⟩, -, X78, ⟨Lc78, hQ78, l78, y78, z78⟩, st78⟩ := Jvm.LawKit.callS X75 hx (y := (⟨"com/example/chronofield/chronofield/AsciiDigitsWritePinLaw", "ok", "([CIIIIC[I)Z"⟩ : MethodName)) hown (mvT hZ (hw _ (List.mem_of_getElem? (i := 16) rfl))) (mvT hZ (hw _ (List.mem_of_getElem? (i := 17) rfl))) (mvT hZ (hw _ (List.mem_of_getElem? (i := 18) rfl))) (mvT hZ (hw _ (List.mem_of_getElem? (i := 19) rfl))) (by decide) (backOf (W := 0) (rm3 l Z a0 hw [] b26 (5 : Int32) (v0_68 p0_0) (v0_98 p0_0 p0_1) (v0_110 p0_0 p0_1 p0_2) (v0_118 p0_3) b2 5 (own_o p0_0 + own_wd p0_0 p0_1 - 1 - 5) 10 (g0_188 p0_0 p0_1 p0_2 p0_3) 10 (own_upd g0_52 9 (1000000000 : Int32)) T59.heap n0 Z59 (by decide) (by decide) (own_kp p0_0 p0_1 5 (by decide)) (own_kpl p0_0 p0_1 5) (own_knz p0_0 p0_1 5) C61 Ar60) hZ (hw _ (List.mem_of_getElem? (i := 19) rfl)) (hw _ (List.mem_of_getElem? (i := 18) rfl)) (by decide) (by decide)) (g := (mkF m 299 #[.val (.int p0_0), .val (.int p0_1), .val (.int p0_2), .val (.int p0_3), .val (.ref b2), .val (.int (v0_68 p0_0)), .val (.int (v0_80 p0_0)), .val (.int (v0_91 p0_0 p0_1)), .val (.int (v0_98 p0_0 p0_1)), .val (.int (v0_110 p0_0 p0_1 p0_2)), .val (.int (v0_118 p0_3)), .val (.ref b26)] [(.ref b2), (.int (v0_118 p0_3)), (.int (v0_110 p0_0 p0_1 p0_2)), (.int (v0_98 p0_0 p0_1)), (.int (v0_68 p0_0)), (.int (5 : Int32)), (.ref b26)])) rfl (by rw [hml]; rfl) (argsL := [(.ref b26), (.int (5 : Int32)), (.int (v0_68 p0_0)), (.int (v0_98 p0_0 p0_1)), (.int (v0_110 p0_0 p0_1 p0_2)), (.int (v0_118 p0_3)), (.ref b2)]) (rest := []) (lenOf pd_2 rfl) rfl (by show 2 * 0 + _ ≤ _; exact Nat.le_of_eq rfl) (hb hby at_299) (fun _ _ => ⟨rfl, e75, (by decide : 2 + 0 ≤ _), (by decide : 20 + 0 ≤ _)⟩)
  dsimp only [Pt.U, Pt.locs, Pt.cells, Pt.slots] at X78 l78 y78 z78 st78 hQ78
  rw [l78, y78, z78] at X78
  obtain ⟨rfl, M78, e78⟩ := hQ78
  have N78 := Fr.app N75 M78
  replace X78 : Stand p l e room_1 s m #[(.int p0_0), (.int p0_1), (.int p0_2), (.int p0_3)] below meth c T78 _ 2 20 := X78
  have pre78 : ∀ t, Steps p.tables e below (T78.setTop (mkF m 302 #[.val (.int p0_0), .val (.int p0_1), .val (.int p0_2), .val (.int p0_3), .val (.ref b2), .val (.int (v0_68 p0_0)), .val (.int (v0_80 p0_0)), .val (.int (v0_91 p0_0 p0_1)), .val (.int (v0_98 p0_0 p0_1)), .val (.int (v0_110 p0_0 p0_1 p0_2)), .val (.int (v0_118 p0_3)), .val (.ref b26)] [(.int (c0_299 p0_0 p0_1 p0_2 p0_3))])) t → Steps p.tables e below (s₁.setTop (entryFrame m #[(.int p0_0), (.int p0_1), (.int p0_2), (.int p0_3)] maxLocals)) t := fun t k => pre77 t (st78 t k)
  have pre80 : ∀ t, Steps p.tables e below (T78.setTop (mkF m 319 #[.val (.int p0_0), .val (.int p0_1), .val (.int p0_2), .val (.int p0_3), .val (.ref b2), .val (.int (v0_68 p0_0)), .val (.int (v0_80 p0_0)), .val (.int (v0_91 p0_0 p0_1)), .val (.int (v0_98 p0_0 p0_1)), .val (.int (v0_110 p0_0 p0_1 p0_2)), .val (.int (v0_118 p0_3)), .val (.ref b26)] [(.ref b2), (.int (v0_118 p0_3)), (.int (v0_110 p0_0 p0_1 p0_2)), (.int (v0_98 p0_0 p0_1)), (.int (v0_68 p0_0)), (.int (6 : Int32)), (.ref b26)])) t → Steps p.tables e below (s₁.setTop (entryFrame m #[(.int p0_0), (.int p0_1), (.int p0_2), (.int p0_3)] maxLocals)) t := fun t k => pre78 t (by
    refine XS.ifNo X78.here hx rfl (hb hby at_302) rfl ((if0 _ _).trans (feq (show ¬ ((c0_299 p0_0 p0_1 p0_2 p0_3) = (0 : Int32)) from (own_main p0_0 p0_1 p0_2 p0_3 5 (by decide)))).1) ?_
    show Steps p.tables e below (T78.setTop (mkF m 305 #[.val (.int p0_0), .val (.int p0_1), .val (.int p0_2), .val (.int p0_3), .val (.ref b2), .val (.int (v0_68 p0_0)), .val (.int (v0_80 p0_0)), .val (.int (v0_91 p0_0 p0_1)), .val (.int (v0_98 p0_0 p0_1)), .val (.int (v0_110 p0_0 p0_1 p0_2)), .val (.int (v0_118 p0_3)), .val (.ref b26)] [])) _
    refine XS.aload X78.here hx rfl (hb hby at_305) rfl rfl ?_
    show Steps p.tables e below (T78.setTop (mkF m 307 #[.val (.int p0_0), .val (.int p0_1), .val (.int p0_2), .val (.int p0_3), .val (.ref b2), .val (.int (v0_68 p0_0)), .val (.int (v0_80 p0_0)), .val (.int (v0_91 p0_0 p0_1)), .val (.int (v0_98 p0_0 p0_1)), .val (.int (v0_110 p0_0 p0_1 p0_2)), .val (.int (v0_118 p0_3)), .val (.ref b26)] [(.ref b26)])) _
    refine XS.bipush X78.here hx rfl (hb hby at_307) ?_
    show Steps p.tables e below (T78.setTop (mkF m 309 #[.val (.int p0_0), .val (.int p0_1), .val (.int p0_2), .val (.int p0_3), .val (.ref b2), .val (.int (v0_68 p0_0)), .val (.int (v0_80 p0_0)), .val (.int (v0_91 p0_0 p0_1)), .val (.int (v0_98 p0_0 p0_1)), .val (.int (v0_110 p0_0 p0_1 p0_2)), .val (.int (v0_118 p0_3)), .val (.ref b26)] [(.int (6 : Int32)), (.ref b26)])) _
    refine XS.iload X78.here hx rfl (hb hby at_309) rfl ?_
    show Steps p.tables e below (T78.setTop (mkF m 311 #[.val (.int p0_0), .val (.int p0_1), .val (.int p0_2), .val (.int p0_3), .val (.ref b2), .val (.int (v0_68 p0_0)), .val (.int (v0_80 p0_0)), .val (.int (v0_91 p0_0 p0_1)), .val (.int (v0_98 p0_0 p0_1)), .val (.int (v0_110 p0_0 p0_1 p0_2)), .val (.int (v0_118 p0_3)), .val (.ref b26)] [(.int (v0_68 p0_0)), (.int (6 : Int32)), (.ref b26)])) _
    refine XS.iload X78.here hx rfl (hb hby at_311) rfl ?_
    show Steps p.tables e below (T78.setTop (mkF m 313 #[.val (.int p0_0), .val (.int p0_1), .val (.int p0_2), .val (.int p0_3), .val (.ref b2), .val (.int (v0_68 p0_0)), .val (.int (v0_80 p0_0)), .val (.int (v0_91 p0_0 p0_1)), .val (.int (v0_98 p0_0 p0_1)), .val (.int (v0_110 p0_0 p0_1 p0_2)), .val (.int (v0_118 p0_3)), .val (.ref b26)] [(.int (v0_98 p0_0 p0_1)), (.int (v0_68 p0_0)), (.int (6 : Int32)), (.ref b26)])) _
    refine XS.iload X78.here hx rfl (hb hby at_313) rfl ?_
    show Steps p.tables e below (T78.setTop (mkF m 315 #[.val (.int p0_0), .val (.int p0_1), .val (.int p0_2), .val (.int p0_3), .val (.ref b2), .val (.int (v0_68 p0_0)), .val (.int (v0_80 p0_0)), .val (.int (v0_91 p0_0 p0_1)), .val (.int (v0_98 p0_0 p0_1)), .val (.int (v0_110 p0_0 p0_1 p0_2)), .val (.int (v0_118 p0_3)), .val (.ref b26)] [(.int (v0_110 p0_0 p0_1 p0_2)), (.int (v0_98 p0_0 p0_1)), (.int (v0_68 p0_0)), (.int (6 : Int32)), (.ref b26)])) _
    refine XS.iload X78.here hx rfl (hb hby at_315) rfl ?_
    show Steps p.tables e below (T78.setTop (mkF m 317 #[.val (.int p0_0), .val (.int p0_1), .val (.int p0_2), .val (.int p0_3), .val (.ref b2), .val (.int (v0_68 p0_0)), .val (.int (v0_80 p0_0)), .val (.int (v0_91 p0_0 p0_1)), .val (.int (v0_98 p0_0 p0_1)), .val (.int (v0_110 p0_0 p0_1 p0_2)), .val (.int (v0_118 p0_3)), .val (.ref b26)] [(.int (v0_118 p0_3)), (.int (v0_110 p0_0 p0_1 p0_2)), (.int (v0_98 p0_0 p0_1)), (.int (v0_68 p0_0)), (.int (6 : Int32)), (.ref b26)])) _
    refine XS.aload X78.here hx rfl (hb hby at_317) rfl rfl ?_
    show Steps p.tables e below (T78.setTop (mkF m 319 #[.val (.int p0_0), .val (.int p0_1), .val (.int p0_2), .val (.int p0_3), .val (.ref b2), .val (.int (v0_68 p0_0)), .val (.int (v0_80 p0_0)), .val (.int (v0_91 p0_0 p0_1)), .val (.int (v0_98 p0_0 p0_1)), .val (.int (v0_110 p0_0 p0_1 p0_2)), .val (.int (v0_118 p0_3)), .val (.ref b26)] [(.ref b2), (.int (v0_118 p0_3)), (.int (v0_110 p0_0 p0_1 p0_2)), (.int (v0_98 p0_0 p0_1)), (.int (v0_68 p0_0)), (.int (6 : Int32)), (.ref b26)])) _
    exact k)
  obtain ⟨_, _, ⟨T81, L81, k81, n81⟩, -, X81, ⟨Lc81, hQ81, l81, y81, z81⟩, st81⟩ := Jvm.LawKit.callS X78 hx (y := (⟨"com/example/chronofield/chronofield/AsciiDigitsWritePinLaw", "ok", "([CIIIIC[I)Z"⟩ : MethodName)) hown (mvT hZ (hw _ (List.mem_of_getElem? (i := 16) rfl))) (mvT hZ (hw _ (List.mem_of_getElem? (i := 17) rfl))) (mvT hZ (hw _ (List.mem_of_getElem? (i := 18) rfl))) (mvT hZ (hw _ (List.mem_of_getElem? (i := 19) rfl))) (by decide) (backOf (W := 0) (rm3 l Z a0 hw [] b26 (6 : Int32) (v0_68 p0_0) (v0_98 p0_0 p0_1) (v0_110 p0_0 p0_1 p0_2) (v0_118 p0_3) b2 6 (own_o p0_0 + own_wd p0_0 p0_1 - 1 - 6) 10 (g0_188 p0_0 p0_1 p0_2 p0_3) 10 (own_upd g0_52 9 (1000000000 : Int32)) T59.heap n0 Z59 (by decide) (by decide) (own_kp p0_0 p0_1 6 (by decide)) (own_kpl p0_0 p0_1 6) (own_knz p0_0 p0_1 6) C61 Ar60) hZ (hw _ (List.mem_of_getElem? (i := 19) rfl)) (hw _ (List.mem_of_getElem? (i := 18) rfl)) (by decide) (by decide)) (g := (mkF m 319 #[.val (.int p0_0), .val (.int p0_1), .val (.int p0_2), .val (.int p0_3), .val (.ref b2), .val (.int (v0_68 p0_0)), .val (.int (v0_80 p0_0)), .val (.int (v0_91 p0_0 p0_1)), .val (.int (v0_98 p0_0 p0_1)), .val (.int (v0_110 p0_0 p0_1 p0_2)), .val (.int (v0_118 p0_3)), .val (.ref b26)] [(.ref b2), (.int (v0_118 p0_3)), (.int (v0_110 p0_0 p0_1 p0_2)), (.int (v0_98 p0_0 p0_1)), (.int (v0_68 p0_0)), (.int (6 : Int32)), (.ref b26)])) rfl (by rw [hml]; rfl) (argsL := [(.ref b26), (.int (6 : Int32)), (.int (v0_68 p0_0)), (.int (v0_98 p0_0 p0_1)), (.int (v0_110 p0_0 p0_1 p0_2)), (.int (v0_118 p0_3)), (.ref b2)]) (rest := []) (lenOf pd_2 rfl) rfl (by show 2 * 0 + _ ≤ _; exact Nat.le_of_eq rfl) (hb hby at_319) (fun _ _ => ⟨rfl, e78, (by decide : 2 + 0 ≤ _), (by decide : 20 + 0 ≤ _)⟩)
  dsimp only [Pt.U, Pt.locs, Pt.cells, Pt.slots] at X81 l81 y81 z81 st81 hQ81
  rw [l81, y81, z81] at X81
  obtain ⟨rfl, M81, e81⟩ := hQ81
  have N81 := Fr.app N78 M81
  replace X81 : Stand p l e room_1 s m #[(.int p0_0), (.int p0_1), (.int p0_2), (.int p0_3)] below meth c T81 _ 2 20 := X81
  have pre81 : ∀ t, Steps p.tables e below (T81.setTop (mkF m 322 #[.val (.int p0_0), .val (.int p0_1), .val (.int p0_2), .val (.int p0_3), .val (.ref b2), .val (.int (v0_68 p0_0)), .val (.int (v0_80 p0_0)), .val (.int (v0_91 p0_0 p0_1)), .val (.int (v0_98 p0_0 p0_1)), .val (.int (v0_110 p0_0 p0_1 p0_2)), .val (.int (v0_118 p0_3)), .val (.ref b26)] [(.int (c0_319 p0_0 p0_1 p0_2 p0_3))])) t → Steps p.tables e below (s₁.setTop (entryFrame m #[(.int p0_0), (.int p0_1), (.int p0_2), (.int p0_3)] maxLocals)) t := fun t k => pre80 t (st81 t k)
  have pre83 : ∀ t, Steps p.tables e below (T81.setTop (mkF m 339 #[.val (.int p0_0), .val (.int p0_1), .val (.int p0_2), .val (.int p0_3), .val (.ref b2), .val (.int (v0_68 p0_0)), .val (.int (v0_80 p0_0)), .val (.int (v0_91 p0_0 p0_1)), .val (.int (v0_98 p0_0 p0_1)), .val (.int (v0_110 p0_0 p0_1 p0_2)), .val (.int (v0_118 p0_3)), .val (.ref b26)] [(.ref b2), (.int (v0_118 p0_3)), (.int (v0_110 p0_0 p0_1 p0_2)), (.int (v0_98 p0_0 p0_1)), (.int (v0_68 p0_0)), (.int (7 : Int32)), (.ref b26)])) t → Steps p.tables e below (s₁.setTop (entryFrame m #[(.int p0_0), (.int p0_1), (.int p0_2), (.int p0_3)] maxLocals)) t := fun t k => pre81 t (by
    refine XS.ifNo X81.here hx rfl (hb hby at_322) rfl ((if0 _ _).trans (feq (show ¬ ((c0_319 p0_0 p0_1 p0_2 p0_3) = (0 : Int32)) from (own_main p0_0 p0_1 p0_2 p0_3 6 (by decide)))).1) ?_
    show Steps p.tables e below (T81.setTop (mkF m 325 #[.val (.int p0_0), .val (.int p0_1), .val (.int p0_2), .val (.int p0_3), .val (.ref b2), .val (.int (v0_68 p0_0)), .val (.int (v0_80 p0_0)), .val (.int (v0_91 p0_0 p0_1)), .val (.int (v0_98 p0_0 p0_1)), .val (.int (v0_110 p0_0 p0_1 p0_2)), .val (.int (v0_118 p0_3)), .val (.ref b26)] [])) _
    refine XS.aload X81.here hx rfl (hb hby at_325) rfl rfl ?_
    show Steps p.tables e below (T81.setTop (mkF m 327 #[.val (.int p0_0), .val (.int p0_1), .val (.int p0_2), .val (.int p0_3), .val (.ref b2), .val (.int (v0_68 p0_0)), .val (.int (v0_80 p0_0)), .val (.int (v0_91 p0_0 p0_1)), .val (.int (v0_98 p0_0 p0_1)), .val (.int (v0_110 p0_0 p0_1 p0_2)), .val (.int (v0_118 p0_3)), .val (.ref b26)] [(.ref b26)])) _
    refine XS.bipush X81.here hx rfl (hb hby at_327) ?_
    show Steps p.tables e below (T81.setTop (mkF m 329 #[.val (.int p0_0), .val (.int p0_1), .val (.int p0_2), .val (.int p0_3), .val (.ref b2), .val (.int (v0_68 p0_0)), .val (.int (v0_80 p0_0)), .val (.int (v0_91 p0_0 p0_1)), .val (.int (v0_98 p0_0 p0_1)), .val (.int (v0_110 p0_0 p0_1 p0_2)), .val (.int (v0_118 p0_3)), .val (.ref b26)] [(.int (7 : Int32)), (.ref b26)])) _
    refine XS.iload X81.here hx rfl (hb hby at_329) rfl ?_
    show Steps p.tables e below (T81.setTop (mkF m 331 #[.val (.int p0_0), .val (.int p0_1), .val (.int p0_2), .val (.int p0_3), .val (.ref b2), .val (.int (v0_68 p0_0)), .val (.int (v0_80 p0_0)), .val (.int (v0_91 p0_0 p0_1)), .val (.int (v0_98 p0_0 p0_1)), .val (.int (v0_110 p0_0 p0_1 p0_2)), .val (.int (v0_118 p0_3)), .val (.ref b26)] [(.int (v0_68 p0_0)), (.int (7 : Int32)), (.ref b26)])) _
    refine XS.iload X81.here hx rfl (hb hby at_331) rfl ?_
    show Steps p.tables e below (T81.setTop (mkF m 333 #[.val (.int p0_0), .val (.int p0_1), .val (.int p0_2), .val (.int p0_3), .val (.ref b2), .val (.int (v0_68 p0_0)), .val (.int (v0_80 p0_0)), .val (.int (v0_91 p0_0 p0_1)), .val (.int (v0_98 p0_0 p0_1)), .val (.int (v0_110 p0_0 p0_1 p0_2)), .val (.int (v0_118 p0_3)), .val (.ref b26)] [(.int (v0_98 p0_0 p0_1)), (.int (v0_68 p0_0)), (.int (7 : Int32)), (.ref b26)])) _
    refine XS.iload X81.here hx rfl (hb hby at_333) rfl ?_
    show Steps p.tables e below (T81.setTop (mkF m 335 #[.val (.int p0_0), .val (.int p0_1), .val (.int p0_2), .val (.int p0_3), .val (.ref b2), .val (.int (v0_68 p0_0)), .val (.int (v0_80 p0_0)), .val (.int (v0_91 p0_0 p0_1)), .val (.int (v0_98 p0_0 p0_1)), .val (.int (v0_110 p0_0 p0_1 p0_2)), .val (.int (v0_118 p0_3)), .val (.ref b26)] [(.int (v0_110 p0_0 p0_1 p0_2)), (.int (v0_98 p0_0 p0_1)), (.int (v0_68 p0_0)), (.int (7 : Int32)), (.ref b26)])) _
    refine XS.iload X81.here hx rfl (hb hby at_335) rfl ?_
    show Steps p.tables e below (T81.setTop (mkF m 337 #[.val (.int p0_0), .val (.int p0_1), .val (.int p0_2), .val (.int p0_3), .val (.ref b2), .val (.int (v0_68 p0_0)), .val (.int (v0_80 p0_0)), .val (.int (v0_91 p0_0 p0_1)), .val (.int (v0_98 p0_0 p0_1)), .val (.int (v0_110 p0_0 p0_1 p0_2)), .val (.int (v0_118 p0_3)), .val (.ref b26)] [(.int (v0_118 p0_3)), (.int (v0_110 p0_0 p0_1 p0_2)), (.int (v0_98 p0_0 p0_1)), (.int (v0_68 p0_0)), (.int (7 : Int32)), (.ref b26)])) _
    refine XS.aload X81.here hx rfl (hb hby at_337) rfl rfl ?_
    show Steps p.tables e below (T81.setTop (mkF m 339 #[.val (.int p0_0), .val (.int p0_1), .val (.int p0_2), .val (.int p0_3), .val (.ref b2), .val (.int (v0_68 p0_0)), .val (.int (v0_80 p0_0)), .val (.int (v0_91 p0_0 p0_1)), .val (.int (v0_98 p0_0 p0_1)), .val (.int (v0_110 p0_0 p0_1 p0_2)), .val (.int (v0_118 p0_3)), .val (.ref b26)] [(.ref b2), (.int (v0_118 p0_3)), (.int (v0_110 p0_0 p0_1 p0_2)), (.int (v0_98 p0_0 p0_1)), (.int (v0_68 p0_0)), (.int (7 : Int32)), (.ref b26)])) _
    exact k)
  obtain ⟨_, _, ⟨T84, L84, k84, n84⟩, -, X84, ⟨Lc84, hQ84, l84, y84, z84⟩, st84⟩ := Jvm.LawKit.callS X81 hx (y := (⟨"com/example/chronofield/chronofield/AsciiDigitsWritePinLaw", "ok", "([CIIIIC[I)Z"⟩ : MethodName)) hown (mvT hZ (hw _ (List.mem_of_getElem? (i := 16) rfl))) (mvT hZ (hw _ (List.mem_of_getElem? (i := 17) rfl))) (mvT hZ (hw _ (List.mem_of_getElem? (i := 18) rfl))) (mvT hZ (hw _ (List.mem_of_getElem? (i := 19) rfl))) (by decide) (backOf (W := 0) (rm3 l Z a0 hw [] b26 (7 : Int32) (v0_68 p0_0) (v0_98 p0_0 p0_1) (v0_110 p0_0 p0_1 p0_2) (v0_118 p0_3) b2 7 (own_o p0_0 + own_wd p0_0 p0_1 - 1 - 7) 10 (g0_188 p0_0 p0_1 p0_2 p0_3) 10 (own_upd g0_52 9 (1000000000 : Int32)) T59.heap n0 Z59 (by decide) (by decide) (own_kp p0_0 p0_1 7 (by decide)) (own_kpl p0_0 p0_1 7) (own_knz p0_0 p0_1 7) C61 Ar60) hZ (hw _ (List.mem_of_getElem? (i := 19) rfl)) (hw _ (List.mem_of_getElem? (i := 18) rfl)) (by decide) (by decide)) (g := (mkF m 339 #[.val (.int p0_0), .val (.int p0_1), .val (.int p0_2), .val (.int p0_3), .val (.ref b2), .val (.int (v0_68 p0_0)), .val (.int (v0_80 p0_0)), .val (.int (v0_91 p0_0 p0_1)), .val (.int (v0_98 p0_0 p0_1)), .val (.int (v0_110 p0_0 p0_1 p0_2)), .val (.int (v0_118 p0_3)), .val (.ref b26)] [(.ref b2), (.int (v0_118 p0_3)), (.int (v0_110 p0_0 p0_1 p0_2)), (.int (v0_98 p0_0 p0_1)), (.int (v0_68 p0_0)), (.int (7 : Int32)), (.ref b26)])) rfl (by rw [hml]; rfl) (argsL := [(.ref b26), (.int (7 : Int32)), (.int (v0_68 p0_0)), (.int (v0_98 p0_0 p0_1)), (.int (v0_110 p0_0 p0_1 p0_2)), (.int (v0_118 p0_3)), (.ref b2)]) (rest := []) (lenOf pd_2 rfl) rfl (by show 2 * 0 + _ ≤ _; exact Nat.le_of_eq rfl) (hb hby at_339) (fun _ _ => ⟨rfl, e81, (by decide : 2 + 0 ≤ _), (by decide : 20 + 0 ≤ _)⟩)
  dsimp only [Pt.U, Pt.locs, Pt.cells, Pt.slots] at X84 l84 y84 z84 st84 hQ84
  rw [l84, y84, z84] at X84
  obtain ⟨rfl, M84, e84⟩ := hQ84
  have N84 := Fr.app N81 M84
  replace X84 : Stand p l e room_1 s m #[(.int p0_0), (.int p0_1), (.int p0_2), (.int p0_3)] below meth c T84 _ 2 20 := X84
  have pre84 : ∀ t, Steps p.tables e below (T84.setTop (mkF m 342 #[.val (.int p0_0), .val (.int p0_1), .val (.int p0_2), .val (.int p0_3), .val (.ref b2), .val (.int (v0_68 p0_0)), .val (.int (v0_80 p0_0)), .val (.int (v0_91 p0_0 p0_1)), .val (.int (v0_98 p0_0 p0_1)), .val (.int (v0_110 p0_0 p0_1 p0_2)), .val (.int (v0_118 p0_3)), .val (.ref b26)] [(.int (c0_339 p0_0 p0_1 p0_2 p0_3))])) t → Steps p.tables e below (s₁.setTop (entryFrame m #[(.int p0_0), (.int p0_1), (.int p0_2), (.int p0_3)] maxLocals)) t := fun t k => pre83 t (st84 t k)
  have pre86 : ∀ t, Steps p.tables e below (T84.setTop (mkF m 359 #[.val (.int p0_0), .val (.int p0_1), .val (.int p0_2), .val (.int p0_3), .val (.ref b2), .val (.int (v0_68 p0_0)), .val (.int (v0_80 p0_0)), .val (.int (v0_91 p0_0 p0_1)), .val (.int (v0_98 p0_0 p0_1)), .val (.int (v0_110 p0_0 p0_1 p0_2)), .val (.int (v0_118 p0_3)), .val (.ref b26)] [(.ref b2), (.int (v0_118 p0_3)), (.int (v0_110 p0_0 p0_1 p0_2)), (.int (v0_98 p0_0 p0_1)), (.int (v0_68 p0_0)), (.int (8 : Int32)), (.ref b26)])) t → Steps p.tables e below (s₁.setTop (entryFrame m #[(.int p0_0), (.int p0_1), (.int p0_2), (.int p0_3)] maxLocals)) t := fun t k => pre84 t (by
    refine XS.ifNo X84.here hx rfl (hb hby at_342) rfl ((if0 _ _).trans (feq (show ¬ ((c0_339 p0_0 p0_1 p0_2 p0_3) = (0 : Int32)) from (own_main p0_0 p0_1 p0_2 p0_3 7 (by decide)))).1) ?_
    show Steps p.tables e below (T84.setTop (mkF m 345 #[.val (.int p0_0), .val (.int p0_1), .val (.int p0_2), .val (.int p0_3), .val (.ref b2), .val (.int (v0_68 p0_0)), .val (.int (v0_80 p0_0)), .val (.int (v0_91 p0_0 p0_1)), .val (.int (v0_98 p0_0 p0_1)), .val (.int (v0_110 p0_0 p0_1 p0_2)), .val (.int (v0_118 p0_3)), .val (.ref b26)] [])) _
    refine XS.aload X84.here hx rfl (hb hby at_345) rfl rfl ?_
    show Steps p.tables e below (T84.setTop (mkF m 347 #[.val (.int p0_0), .val (.int p0_1), .val (.int p0_2), .val (.int p0_3), .val (.ref b2), .val (.int (v0_68 p0_0)), .val (.int (v0_80 p0_0)), .val (.int (v0_91 p0_0 p0_1)), .val (.int (v0_98 p0_0 p0_1)), .val (.int (v0_110 p0_0 p0_1 p0_2)), .val (.int (v0_118 p0_3)), .val (.ref b26)] [(.ref b26)])) _
    refine XS.bipush X84.here hx rfl (hb hby at_347) ?_
    show Steps p.tables e below (T84.setTop (mkF m 349 #[.val (.int p0_0), .val (.int p0_1), .val (.int p0_2), .val (.int p0_3), .val (.ref b2), .val (.int (v0_68 p0_0)), .val (.int (v0_80 p0_0)), .val (.int (v0_91 p0_0 p0_1)), .val (.int (v0_98 p0_0 p0_1)), .val (.int (v0_110 p0_0 p0_1 p0_2)), .val (.int (v0_118 p0_3)), .val (.ref b26)] [(.int (8 : Int32)), (.ref b26)])) _
    refine XS.iload X84.here hx rfl (hb hby at_349) rfl ?_
    show Steps p.tables e below (T84.setTop (mkF m 351 #[.val (.int p0_0), .val (.int p0_1), .val (.int p0_2), .val (.int p0_3), .val (.ref b2), .val (.int (v0_68 p0_0)), .val (.int (v0_80 p0_0)), .val (.int (v0_91 p0_0 p0_1)), .val (.int (v0_98 p0_0 p0_1)), .val (.int (v0_110 p0_0 p0_1 p0_2)), .val (.int (v0_118 p0_3)), .val (.ref b26)] [(.int (v0_68 p0_0)), (.int (8 : Int32)), (.ref b26)])) _
    refine XS.iload X84.here hx rfl (hb hby at_351) rfl ?_
    show Steps p.tables e below (T84.setTop (mkF m 353 #[.val (.int p0_0), .val (.int p0_1), .val (.int p0_2), .val (.int p0_3), .val (.ref b2), .val (.int (v0_68 p0_0)), .val (.int (v0_80 p0_0)), .val (.int (v0_91 p0_0 p0_1)), .val (.int (v0_98 p0_0 p0_1)), .val (.int (v0_110 p0_0 p0_1 p0_2)), .val (.int (v0_118 p0_3)), .val (.ref b26)] [(.int (v0_98 p0_0 p0_1)), (.int (v0_68 p0_0)), (.int (8 : Int32)), (.ref b26)])) _
    refine XS.iload X84.here hx rfl (hb hby at_353) rfl ?_
    show Steps p.tables e below (T84.setTop (mkF m 355 #[.val (.int p0_0), .val (.int p0_1), .val (.int p0_2), .val (.int p0_3), .val (.ref b2), .val (.int (v0_68 p0_0)), .val (.int (v0_80 p0_0)), .val (.int (v0_91 p0_0 p0_1)), .val (.int (v0_98 p0_0 p0_1)), .val (.int (v0_110 p0_0 p0_1 p0_2)), .val (.int (v0_118 p0_3)), .val (.ref b26)] [(.int (v0_110 p0_0 p0_1 p0_2)), (.int (v0_98 p0_0 p0_1)), (.int (v0_68 p0_0)), (.int (8 : Int32)), (.ref b26)])) _
    refine XS.iload X84.here hx rfl (hb hby at_355) rfl ?_
    show Steps p.tables e below (T84.setTop (mkF m 357 #[.val (.int p0_0), .val (.int p0_1), .val (.int p0_2), .val (.int p0_3), .val (.ref b2), .val (.int (v0_68 p0_0)), .val (.int (v0_80 p0_0)), .val (.int (v0_91 p0_0 p0_1)), .val (.int (v0_98 p0_0 p0_1)), .val (.int (v0_110 p0_0 p0_1 p0_2)), .val (.int (v0_118 p0_3)), .val (.ref b26)] [(.int (v0_118 p0_3)), (.int (v0_110 p0_0 p0_1 p0_2)), (.int (v0_98 p0_0 p0_1)), (.int (v0_68 p0_0)), (.int (8 : Int32)), (.ref b26)])) _
    refine XS.aload X84.here hx rfl (hb hby at_357) rfl rfl ?_
    show Steps p.tables e below (T84.setTop (mkF m 359 #[.val (.int p0_0), .val (.int p0_1), .val (.int p0_2), .val (.int p0_3), .val (.ref b2), .val (.int (v0_68 p0_0)), .val (.int (v0_80 p0_0)), .val (.int (v0_91 p0_0 p0_1)), .val (.int (v0_98 p0_0 p0_1)), .val (.int (v0_110 p0_0 p0_1 p0_2)), .val (.int (v0_118 p0_3)), .val (.ref b26)] [(.ref b2), (.int (v0_118 p0_3)), (.int (v0_110 p0_0 p0_1 p0_2)), (.int (v0_98 p0_0 p0_1)), (.int (v0_68 p0_0)), (.int (8 : Int32)), (.ref b26)])) _
    exact k)
  obtain ⟨_, _, ⟨T87, L87, k87, n87⟩, -, X87, ⟨Lc87, hQ87, l87, y87, z87⟩, st87⟩ := Jvm.LawKit.callS X84 hx (y := (⟨"com/example/chronofield/chronofield/AsciiDigitsWritePinLaw", "ok", "([CIIIIC[I)Z"⟩ : MethodName)) hown (mvT hZ (hw _ (List.mem_of_getElem? (i := 16) rfl))) (mvT hZ (hw _ (List.mem_of_getElem? (i := 17) rfl))) (mvT hZ (hw _ (List.mem_of_getElem? (i := 18) rfl))) (mvT hZ (hw _ (List.mem_of_getElem? (i := 19) rfl))) (by decide) (backOf (W := 0) (rm3 l Z a0 hw [] b26 (8 : Int32) (v0_68 p0_0) (v0_98 p0_0 p0_1) (v0_110 p0_0 p0_1 p0_2) (v0_118 p0_3) b2 8 (own_o p0_0 + own_wd p0_0 p0_1 - 1 - 8) 10 (g0_188 p0_0 p0_1 p0_2 p0_3) 10 (own_upd g0_52 9 (1000000000 : Int32)) T59.heap n0 Z59 (by decide) (by decide) (own_kp p0_0 p0_1 8 (by decide)) (own_kpl p0_0 p0_1 8) (own_knz p0_0 p0_1 8) C61 Ar60) hZ (hw _ (List.mem_of_getElem? (i := 19) rfl)) (hw _ (List.mem_of_getElem? (i := 18) rfl)) (by decide) (by decide)) (g := (mkF m 359 #[.val (.int p0_0), .val (.int p0_1), .val (.int p0_2), .val (.int p0_3), .val (.ref b2), .val (.int (v0_68 p0_0)), .val (.int (v0_80 p0_0)), .val (.int (v0_91 p0_0 p0_1)), .val (.int (v0_98 p0_0 p0_1)), .val (.int (v0_110 p0_0 p0_1 p0_2)), .val (.int (v0_118 p0_3)), .val (.ref b26)] [(.ref b2), (.int (v0_118 p0_3)), (.int (v0_110 p0_0 p0_1 p0_2)), (.int (v0_98 p0_0 p0_1)), (.int (v0_68 p0_0)), (.int (8 : Int32)), (.ref b26)])) rfl (by rw [hml]; rfl) (argsL := [(.ref b26), (.int (8 : Int32)), (.int (v0_68 p0_0)), (.int (v0_98 p0_0 p0_1)), (.int (v0_110 p0_0 p0_1 p0_2)), (.int (v0_118 p0_3)), (.ref b2)]) (rest := []) (lenOf pd_2 rfl) rfl (by show 2 * 0 + _ ≤ _; exact Nat.le_of_eq rfl) (hb hby at_359) (fun _ _ => ⟨rfl, e84, (by decide : 2 + 0 ≤ _), (by decide : 20 + 0 ≤ _)⟩)
  dsimp only [Pt.U, Pt.locs, Pt.cells, Pt.slots] at X87 l87 y87 z87 st87 hQ87
  rw [l87, y87, z87] at X87
  obtain ⟨rfl, M87, e87⟩ := hQ87
  have N87 := Fr.app N84 M87
  replace X87 : Stand p l e room_1 s m #[(.int p0_0), (.int p0_1), (.int p0_2), (.int p0_3)] below meth c T87 _ 2 20 := X87
  have pre87 : ∀ t, Steps p.tables e below (T87.setTop (mkF m 362 #[.val (.int p0_0), .val (.int p0_1), .val (.int p0_2), .val (.int p0_3), .val (.ref b2), .val (.int (v0_68 p0_0)), .val (.int (v0_80 p0_0)), .val (.int (v0_91 p0_0 p0_1)), .val (.int (v0_98 p0_0 p0_1)), .val (.int (v0_110 p0_0 p0_1 p0_2)), .val (.int (v0_118 p0_3)), .val (.ref b26)] [(.int (c0_359 p0_0 p0_1 p0_2 p0_3))])) t → Steps p.tables e below (s₁.setTop (entryFrame m #[(.int p0_0), (.int p0_1), (.int p0_2), (.int p0_3)] maxLocals)) t := fun t k => pre86 t (st87 t k)
  have pre89 : ∀ t, Steps p.tables e below (T87.setTop (mkF m 379 #[.val (.int p0_0), .val (.int p0_1), .val (.int p0_2), .val (.int p0_3), .val (.ref b2), .val (.int (v0_68 p0_0)), .val (.int (v0_80 p0_0)), .val (.int (v0_91 p0_0 p0_1)), .val (.int (v0_98 p0_0 p0_1)), .val (.int (v0_110 p0_0 p0_1 p0_2)), .val (.int (v0_118 p0_3)), .val (.ref b26)] [(.ref b2), (.int (v0_118 p0_3)), (.int (v0_110 p0_0 p0_1 p0_2)), (.int (v0_98 p0_0 p0_1)), (.int (v0_68 p0_0)), (.int (9 : Int32)), (.ref b26)])) t → Steps p.tables e below (s₁.setTop (entryFrame m #[(.int p0_0), (.int p0_1), (.int p0_2), (.int p0_3)] maxLocals)) t := fun t k => pre87 t (by
    refine XS.ifNo X87.here hx rfl (hb hby at_362) rfl ((if0 _ _).trans (feq (show ¬ ((c0_359 p0_0 p0_1 p0_2 p0_3) = (0 : Int32)) from (own_main p0_0 p0_1 p0_2 p0_3 8 (by decide)))).1) ?_
    show Steps p.tables e below (T87.setTop (mkF m 365 #[.val (.int p0_0), .val (.int p0_1), .val (.int p0_2), .val (.int p0_3), .val (.ref b2), .val (.int (v0_68 p0_0)), .val (.int (v0_80 p0_0)), .val (.int (v0_91 p0_0 p0_1)), .val (.int (v0_98 p0_0 p0_1)), .val (.int (v0_110 p0_0 p0_1 p0_2)), .val (.int (v0_118 p0_3)), .val (.ref b26)] [])) _
    refine XS.aload X87.here hx rfl (hb hby at_365) rfl rfl ?_
    show Steps p.tables e below (T87.setTop (mkF m 367 #[.val (.int p0_0), .val (.int p0_1), .val (.int p0_2), .val (.int p0_3), .val (.ref b2), .val (.int (v0_68 p0_0)), .val (.int (v0_80 p0_0)), .val (.int (v0_91 p0_0 p0_1)), .val (.int (v0_98 p0_0 p0_1)), .val (.int (v0_110 p0_0 p0_1 p0_2)), .val (.int (v0_118 p0_3)), .val (.ref b26)] [(.ref b26)])) _
    refine XS.bipush X87.here hx rfl (hb hby at_367) ?_
    show Steps p.tables e below (T87.setTop (mkF m 369 #[.val (.int p0_0), .val (.int p0_1), .val (.int p0_2), .val (.int p0_3), .val (.ref b2), .val (.int (v0_68 p0_0)), .val (.int (v0_80 p0_0)), .val (.int (v0_91 p0_0 p0_1)), .val (.int (v0_98 p0_0 p0_1)), .val (.int (v0_110 p0_0 p0_1 p0_2)), .val (.int (v0_118 p0_3)), .val (.ref b26)] [(.int (9 : Int32)), (.ref b26)])) _
    refine XS.iload X87.here hx rfl (hb hby at_369) rfl ?_
    show Steps p.tables e below (T87.setTop (mkF m 371 #[.val (.int p0_0), .val (.int p0_1), .val (.int p0_2), .val (.int p0_3), .val (.ref b2), .val (.int (v0_68 p0_0)), .val (.int (v0_80 p0_0)), .val (.int (v0_91 p0_0 p0_1)), .val (.int (v0_98 p0_0 p0_1)), .val (.int (v0_110 p0_0 p0_1 p0_2)), .val (.int (v0_118 p0_3)), .val (.ref b26)] [(.int (v0_68 p0_0)), (.int (9 : Int32)), (.ref b26)])) _
    refine XS.iload X87.here hx rfl (hb hby at_371) rfl ?_
    show Steps p.tables e below (T87.setTop (mkF m 373 #[.val (.int p0_0), .val (.int p0_1), .val (.int p0_2), .val (.int p0_3), .val (.ref b2), .val (.int (v0_68 p0_0)), .val (.int (v0_80 p0_0)), .val (.int (v0_91 p0_0 p0_1)), .val (.int (v0_98 p0_0 p0_1)), .val (.int (v0_110 p0_0 p0_1 p0_2)), .val (.int (v0_118 p0_3)), .val (.ref b26)] [(.int (v0_98 p0_0 p0_1)), (.int (v0_68 p0_0)), (.int (9 : Int32)), (.ref b26)])) _
    refine XS.iload X87.here hx rfl (hb hby at_373) rfl ?_
    show Steps p.tables e below (T87.setTop (mkF m 375 #[.val (.int p0_0), .val (.int p0_1), .val (.int p0_2), .val (.int p0_3), .val (.ref b2), .val (.int (v0_68 p0_0)), .val (.int (v0_80 p0_0)), .val (.int (v0_91 p0_0 p0_1)), .val (.int (v0_98 p0_0 p0_1)), .val (.int (v0_110 p0_0 p0_1 p0_2)), .val (.int (v0_118 p0_3)), .val (.ref b26)] [(.int (v0_110 p0_0 p0_1 p0_2)), (.int (v0_98 p0_0 p0_1)), (.int (v0_68 p0_0)), (.int (9 : Int32)), (.ref b26)])) _
    refine XS.iload X87.here hx rfl (hb hby at_375) rfl ?_
    show Steps p.tables e below (T87.setTop (mkF m 377 #[.val (.int p0_0), .val (.int p0_1), .val (.int p0_2), .val (.int p0_3), .val (.ref b2), .val (.int (v0_68 p0_0)), .val (.int (v0_80 p0_0)), .val (.int (v0_91 p0_0 p0_1)), .val (.int (v0_98 p0_0 p0_1)), .val (.int (v0_110 p0_0 p0_1 p0_2)), .val (.int (v0_118 p0_3)), .val (.ref b26)] [(.int (v0_118 p0_3)), (.int (v0_110 p0_0 p0_1 p0_2)), (.int (v0_98 p0_0 p0_1)), (.int (v0_68 p0_0)), (.int (9 : Int32)), (.ref b26)])) _
    refine XS.aload X87.here hx rfl (hb hby at_377) rfl rfl ?_
    show Steps p.tables e below (T87.setTop (mkF m 379 #[.val (.int p0_0), .val (.int p0_1), .val (.int p0_2), .val (.int p0_3), .val (.ref b2), .val (.int (v0_68 p0_0)), .val (.int (v0_80 p0_0)), .val (.int (v0_91 p0_0 p0_1)), .val (.int (v0_98 p0_0 p0_1)), .val (.int (v0_110 p0_0 p0_1 p0_2)), .val (.int (v0_118 p0_3)), .val (.ref b26)] [(.ref b2), (.int (v0_118 p0_3)), (.int (v0_110 p0_0 p0_1 p0_2)), (.int (v0_98 p0_0 p0_1)), (.int (v0_68 p0_0)), (.int (9 : Int32)), (.ref b26)])) _
    exact k)
  obtain ⟨_, _, ⟨T90, L90, k90, n90⟩, -, X90, ⟨Lc90, hQ90, l90, y90, z90⟩, st90⟩ := Jvm.LawKit.callS X87 hx (y := (⟨"com/example/chronofield/chronofield/AsciiDigitsWritePinLaw", "ok", "([CIIIIC[I)Z"⟩ : MethodName)) hown (mvT hZ (hw _ (List.mem_of_getElem? (i := 16) rfl))) (mvT hZ (hw _ (List.mem_of_getElem? (i := 17) rfl))) (mvT hZ (hw _ (List.mem_of_getElem? (i := 18) rfl))) (mvT hZ (hw _ (List.mem_of_getElem? (i := 19) rfl))) (by decide) (backOf (W := 0) (rm3 l Z a0 hw [] b26 (9 : Int32) (v0_68 p0_0) (v0_98 p0_0 p0_1) (v0_110 p0_0 p0_1 p0_2) (v0_118 p0_3) b2 9 (own_o p0_0 + own_wd p0_0 p0_1 - 1 - 9) 10 (g0_188 p0_0 p0_1 p0_2 p0_3) 10 (own_upd g0_52 9 (1000000000 : Int32)) T59.heap n0 Z59 (by decide) (by decide) (own_kp p0_0 p0_1 9 (by decide)) (own_kpl p0_0 p0_1 9) (own_knz p0_0 p0_1 9) C61 Ar60) hZ (hw _ (List.mem_of_getElem? (i := 19) rfl)) (hw _ (List.mem_of_getElem? (i := 18) rfl)) (by decide) (by decide)) (g := (mkF m 379 #[.val (.int p0_0), .val (.int p0_1), .val (.int p0_2), .val (.int p0_3), .val (.ref b2), .val (.int (v0_68 p0_0)), .val (.int (v0_80 p0_0)), .val (.int (v0_91 p0_0 p0_1)), .val (.int (v0_98 p0_0 p0_1)), .val (.int (v0_110 p0_0 p0_1 p0_2)), .val (.int (v0_118 p0_3)), .val (.ref b26)] [(.ref b2), (.int (v0_118 p0_3)), (.int (v0_110 p0_0 p0_1 p0_2)), (.int (v0_98 p0_0 p0_1)), (.int (v0_68 p0_0)), (.int (9 : Int32)), (.ref b26)])) rfl (by rw [hml]; rfl) (argsL := [(.ref b26), (.int (9 : Int32)), (.int (v0_68 p0_0)), (.int (v0_98 p0_0 p0_1)), (.int (v0_110 p0_0 p0_1 p0_2)), (.int (v0_118 p0_3)), (.ref b2)]) (rest := []) (lenOf pd_2 rfl) rfl (by show 2 * 0 + _ ≤ _; exact Nat.le_of_eq rfl) (hb hby at_379) (fun _ _ => ⟨rfl, e87, (by decide : 2 + 0 ≤ _), (by decide : 20 + 0 ≤ _)⟩)
  dsimp only [Pt.U, Pt.locs, Pt.cells, Pt.slots] at X90 l90 y90 z90 st90 hQ90
  rw [l90, y90, z90] at X90
  obtain ⟨rfl, M90, e90⟩ := hQ90
  have N90 := Fr.app N87 M90
  replace X90 : Stand p l e room_1 s m #[(.int p0_0), (.int p0_1), (.int p0_2), (.int p0_3)] below meth c T90 _ 2 20 := X90
  have pre90 : ∀ t, Steps p.tables e below (T90.setTop (mkF m 382 #[.val (.int p0_0), .val (.int p0_1), .val (.int p0_2), .val (.int p0_3), .val (.ref b2), .val (.int (v0_68 p0_0)), .val (.int (v0_80 p0_0)), .val (.int (v0_91 p0_0 p0_1)), .val (.int (v0_98 p0_0 p0_1)), .val (.int (v0_110 p0_0 p0_1 p0_2)), .val (.int (v0_118 p0_3)), .val (.ref b26)] [(.int (c0_379 p0_0 p0_1 p0_2 p0_3))])) t → Steps p.tables e below (s₁.setTop (entryFrame m #[(.int p0_0), (.int p0_1), (.int p0_2), (.int p0_3)] maxLocals)) t := fun t k => pre89 t (st90 t k)
  have pre92 : ∀ t, Steps p.tables e below (T90.setTop (mkF m 390 #[.val (.int p0_0), .val (.int p0_1), .val (.int p0_2), .val (.int p0_3), .val (.ref b2), .val (.int (v0_68 p0_0)), .val (.int (v0_80 p0_0)), .val (.int (v0_91 p0_0 p0_1)), .val (.int (v0_98 p0_0 p0_1)), .val (.int (v0_110 p0_0 p0_1 p0_2)), .val (.int (v0_118 p0_3)), .val (.ref b26)] [(.int (1 : Int32))])) t → Steps p.tables e below (s₁.setTop (entryFrame m #[(.int p0_0), (.int p0_1), (.int p0_2), (.int p0_3)] maxLocals)) t := fun t k => pre90 t (by
    refine XS.ifNo X90.here hx rfl (hb hby at_382) rfl ((if0 _ _).trans (feq (show ¬ ((c0_379 p0_0 p0_1 p0_2 p0_3) = (0 : Int32)) from (own_main p0_0 p0_1 p0_2 p0_3 9 (by decide)))).1) ?_
    show Steps p.tables e below (T90.setTop (mkF m 385 #[.val (.int p0_0), .val (.int p0_1), .val (.int p0_2), .val (.int p0_3), .val (.ref b2), .val (.int (v0_68 p0_0)), .val (.int (v0_80 p0_0)), .val (.int (v0_91 p0_0 p0_1)), .val (.int (v0_98 p0_0 p0_1)), .val (.int (v0_110 p0_0 p0_1 p0_2)), .val (.int (v0_118 p0_3)), .val (.ref b26)] [])) _
    refine XS.iconst X90.here hx rfl (hb hby at_385) ?_
    show Steps p.tables e below (T90.setTop (mkF m 386 #[.val (.int p0_0), .val (.int p0_1), .val (.int p0_2), .val (.int p0_3), .val (.ref b2), .val (.int (v0_68 p0_0)), .val (.int (v0_80 p0_0)), .val (.int (v0_91 p0_0 p0_1)), .val (.int (v0_98 p0_0 p0_1)), .val (.int (v0_110 p0_0 p0_1 p0_2)), .val (.int (v0_118 p0_3)), .val (.ref b26)] [(.int (1 : Int32))])) _
    refine XS.goto X90.here hx rfl (pc0 := 386) (pc' := 390) rfl (hb hby at_386) (by decide) (by decide) ?_
    show Steps p.tables e below (T90.setTop (mkF m 390 #[.val (.int p0_0), .val (.int p0_1), .val (.int p0_2), .val (.int p0_3), .val (.ref b2), .val (.int (v0_68 p0_0)), .val (.int (v0_80 p0_0)), .val (.int (v0_91 p0_0 p0_1)), .val (.int (v0_98 p0_0 p0_1)), .val (.int (v0_110 p0_0 p0_1 p0_2)), .val (.int (v0_118 p0_3)), .val (.ref b26)] [(.int (1 : Int32))])) _
    exact k)
  obtain ⟨fs, hr, hrun, hended, hW, hsame⟩ := X90.leave (v := some (.int (1 : Int32))) (fun h => by rw [Bd.returns] at h; cases h) Bd.notSynchronized
  refine ⟨_, _, pre92 _ ?_, hrun, hended, _, _, rfl, ?_, ⟨_, rfl⟩, hW, hsame.mono (by decide) (by decide)⟩
  · show Steps p.tables e below (T90.setTop (mkF m 390 #[.val (.int p0_0), .val (.int p0_1), .val (.int p0_2), .val (.int p0_3), .val (.ref b2), .val (.int (v0_68 p0_0)), .val (.int (v0_80 p0_0)), .val (.int (v0_91 p0_0 p0_1)), .val (.int (v0_98 p0_0 p0_1)), .val (.int (v0_110 p0_0 p0_1 p0_2)), .val (.int (v0_118 p0_3)), .val (.ref b26)] [(.int (1 : Int32))])) _
    exact retN X90 hx (t := .boolean) Bd.returns (by simp) (hb hby at_390) hr
  · show Q0 Z p0_0 p0_1 p0_2 p0_3 h0 n0 _ T90.heap _
    rw [e90]
    exact ⟨rfl, N90⟩
set_option maxRecDepth 65536 in
set_option maxHeartbeats 40000000 in
theorem comes_1 {Post : Tables → Env → Array Value → State → Outcome → State → Prop} (hpost : ∀ tb e args s v u, (limb_1_1.after args s (.returned v) u = true ∧ limb_1_2.after args s (.returned v) u = true ∧ True) → FrameEnd s (.returned v) u (Jvm.fieldLocs frame_1_writes args s ++ Jvm.arrayLocs frame_1_arrays args s ++ Jvm.staticLocs frame_1_statics s) 16 128 → Post tb e args s (.returned v) u) :
    ArmFor flags0 classFile x code maxLocals ret World_1 tables_1 room_1 Calls_1 rest_1 Pre_1 Post := by
  intro l hfl _ _ p e ha hc hk s m args below hf hA hF happ hP
  obtain ⟨hcalls, hrest, hpre⟩ := hP
  obtain ⟨-, -, -, hnamed, -, -, -, hat⟩ := (Spec.applies_iff hf).mp happ
  obtain ⟨hg, hn⟩ := and_e (Cond.before_iff.mp (show (Jvm.Cond.and given_1 narrow_1).before args s = true from hpre))
  obtain ⟨gc, g0⟩ := and_e hg
  obtain ⟨ga0, g1⟩ := and_e g0
  obtain ⟨ga1, g2⟩ := and_e g1
  obtain ⟨ga2, g3⟩ := and_e g2
  obtain ⟨w0, w1, w2, w3, rfl⟩ : ∃ w0 w1 w2 w3 : Value, args = #[w0, w1, w2, w3] := by
    have hs : args.size = 4 := by simpa [Cond.value, given_1] using gc
    obtain ⟨L⟩ := args
    match L, hs with
    | [w0, w1, w2, w3], _ => exact ⟨w0, w1, w2, w3, rfl⟩
  have hw := fun d (hd : d ∈ tables_1) => atoms_spec (ws := Jvm.Cond.code x code maxLocals ret :: tables_1) hat d (List.mem_cons_of_mem _ hd)
  obtain ⟨i0, ei0⟩ := is_v ga0
  obtain rfl : w0 = (.int i0) := Option.some.inj ei0
  obtain ⟨i1, ei1⟩ := is_v ga1
  obtain rfl : w1 = (.int i1) := Option.some.inj ei1
  obtain ⟨i2, ei2⟩ := is_v ga2
  obtain rfl : w2 = (.int i2) := Option.some.inj ei2
  obtain ⟨i3, ei3⟩ := is_v g3
  obtain rfl : w3 = (.int i3) := Option.some.inj ei3
  obtain ⟨n, o, h1, h2, h3, _, L, rfl, ⟨rfl, N⟩, hq⟩ := rm0 l s _ hw tables_1 i0 i1 i2 i3  s.heap s.heap.size (Nat.le_refl _)  p e ha hc hk s m _ below hf ((Spec.applies_iff_loose hf).mp happ).1 ⟨rfl, State.Warmed39.refl s, rfl⟩ trivial
  refine ⟨n, _, h1, h2, h3, hpost _ _ _ _ _ _ ⟨Cond.after_iff.mpr rfl, Cond.after_iff.mpr (eq_i res_at (Term.int_eval (1)) rfl), trivial⟩ ⟨hq.1, hq.2.1, (hq.2.2.sift fun y hy => Or.inr (N y hy)).mono (by decide) (by decide)⟩⟩
theorem main_1_1 : Claimed_1_1 := comes_1 fun _ _ _ _ _ _ h hF => ⟨h.1, hF⟩
theorem main_1_2 : Claimed_1_2 := comes_1 fun _ _ _ _ _ _ h hF => ⟨h.2.1, hF⟩
end Jvm.Pilot.@@N@@
namespace Jvm.Pilot.@@N@@
open Jvm Jvm.ClassFile Sem Op Lib Jvm.Free Jvm.Stand Jvm.Pilot.@@N@@.Jvm.D
/-! MADE BY PROGRAM (witnessworld.py) out of the Statement's table words and the real class files: 12 classes; the members and pool entries that the words name. The judged class is class 1, her method 1. -/
namespace start1
open Jvm.ClassFile
def u (s : String) : CpInfo := .utf8 (stringToUtf16 s)
/-- a pool by its gaps: so many unusable entries, then the entry; so many at the end -/
def gap : Nat → List CpInfo → List CpInfo
  | 0, r => r
  | n + 1, r => .unusable :: gap n r
def poolList (es : List (Nat × CpInfo)) (last : Nat) : List CpInfo := es.foldr (fun e r => gap e.1 (e.2 :: r)) (gap last [])
def pool (es : List (Nat × CpInfo)) (last : Nat) : Array CpInfo := ⟨poolList es last⟩
def fileOf (pool : Array CpInfo) (this : Nat) (attrs : Array Attribute := #[]) (ms : Array MethodInfo := #[]) (fl : Nat := 33) (sup : Nat := 0) (ifs : Array Nat := #[]) (fds : Array FieldInfo := #[]) : ClassFile where
  minorVersion := 0
  majorVersion := 65
  constantPool := pool
  accessFlags := fl
  thisClass := this
  superClass := sup
  interfaces := ifs
  fields := fds
  methods := ms
  attributes := attrs
def plain (name : String) (sup : Option ClassId) : Class where
  name := name
  kind := .ordinary
  loader := none
  accessFlags := 33
  super := sup
  interfaces := #[]
  cf := none
  fields := #[]
  methods := #[]
  instanceTypes := #[]
  staticTypes := #[]
  resolved := #[]
  callSites := []
  init := .initialized
  statics := none
  mirror := none

def pool0 : Array CpInfo := pool [(5, u "<init>"), (0, u "()V"), (1, .class_ 10), (1, u "java/lang/Object")] 113

def k0m0 : Method := { name := "<init>", desc := "()V", sig := { parameters := [], returnType := none }, accessFlags := 1, code := none }
/-- java/lang/Object -/
def k0 : Class := { plain "java/lang/Object" none with
  accessFlags := 33
  interfaces := #[]
  cf := some (fileOf pool0 8 #[] #[{ accessFlags := 1, nameIndex := 5, descriptorIndex := 6, attributes := #[] }] 33 0 #[] #[])
  fields := #[]
  methods := #[k0m0]
  instanceTypes := #[]
  staticTypes := #[]
  resolved := Array.replicate 124 none
  statics := none }

def pool1 : Array CpInfo := pool [(2, .class_ 4), (1, u "java/lang/Object"), (0, u "<init>"), (0, u "()V"), (0, .integer 100000), (0, .integer 1000000), (0, .integer 10000000), (0, .integer 100000000), (0, .integer 1000000000), (0, .integer 2147483647), (0, .methodref 14 15), (0, .class_ 16), (0, .nameAndType 17 18), (0, u "java/lang/Math"), (0, u "min"), (0, u "(II)I"), (0, .methodref 20 21), (0, .class_ 22), (0, .nameAndType 23 24), (0, u "com/example/chronofield/chronofield/AsciiDigits"), (0, u "write"), (0, u "([CIII)V"), (0, .methodref 26 27), (0, .class_ 28), (0, .nameAndType 29 30), (0, u "com/example/chronofield/chronofield/AsciiDigitsWritePinLaw"), (0, u "ok"), (0, u "([CIIIIC[I)Z"), (2, u "law"), (0, u "(IIII)Z")] 7

def k1m0 : Method := { name := "<init>", desc := "()V", sig := { parameters := [], returnType := none }, accessFlags := 2, code := none }
def k1c1 : Code := { maxStack := 7, maxLocals := 12, code := code, exceptionTable := #[], attributes := #[] }
def k1m1 : Method := { name := "law", desc := "(IIII)Z", sig := { parameters := [.int, .int, .int, .int], returnType := some .boolean }, accessFlags := 9, code := some k1c1 }
def k1c2 : Code := { maxStack := 4, maxLocals := 8, code := method_3_code, exceptionTable := #[], attributes := #[] }
def k1m2 : Method := { name := "ok", desc := "([CIIIIC[I)Z", sig := { parameters := [(.array .char), .int, .int, .int, .int, .char, (.array .int)], returnType := some .boolean }, accessFlags := 10, code := some k1c2 }
/-- com/example/chronofield/chronofield/AsciiDigitsWritePinLaw -/
def k1 : Class := { plain "com/example/chronofield/chronofield/AsciiDigitsWritePinLaw" (some 0) with
  accessFlags := 49
  interfaces := #[]
  cf := some (fileOf pool1 26 #[] #[{ accessFlags := 2, nameIndex := 5, descriptorIndex := 6, attributes := #[] }, { accessFlags := 9, nameIndex := 33, descriptorIndex := 34, attributes := #[] }, { accessFlags := 10, nameIndex := 29, descriptorIndex := 30, attributes := #[] }] 49 2 #[] #[])
  fields := #[]
  methods := #[k1m0, k1m1, k1m2]
  instanceTypes := #[]
  staticTypes := #[]
  resolved := Array.replicate 42 none
  statics := none }

def pool2 : Array CpInfo := pool [(1, .class_ 2), (0, u "java/lang/Math"), (1, .class_ 6), (1, u "java/lang/Object"), (0, u "<init>"), (0, u "()V"), (89, .class_ 100), (1, u "java/lang/Math$RandomNumberGeneratorHolder"), (71, u "negativeZeroFloatBits"), (0, u "J"), (2, u "negativeZeroDoubleBits"), (24, u "min"), (43, u "$assertionsDisabled"), (0, u "Z"), (88, u "(II)I"), (2, u "twoToTheDoubleScaleDown"), (0, u "D"), (4, u "twoToTheDoubleScaleUp"), (9, u "E"), (3, u "PI"), (2, u "TAU"), (2, u "DEGREES_TO_RADIANS"), (0, u "RADIANS_TO_DEGREES")] 94

def k2m0 : Method := { name := "<init>", desc := "()V", sig := { parameters := [], returnType := none }, accessFlags := 2, code := none }
def k2c1 : Code := { maxStack := 2, maxLocals := 2, code := jdk_29_method_69_code, exceptionTable := #[], attributes := #[] }
def k2m1 : Method := { name := "min", desc := "(II)I", sig := { parameters := [.int, .int], returnType := some .int }, accessFlags := 9, code := some k2c1 }
/-- java/lang/Math -/
def k2 : Class := { plain "java/lang/Math" (some 0) with
  accessFlags := 49
  interfaces := #[]
  cf := some (fileOf pool2 1 #[.nestMembers #[98]] #[{ accessFlags := 2, nameIndex := 7, descriptorIndex := 8, attributes := #[] }, { accessFlags := 9, nameIndex := 201, descriptorIndex := 335, attributes := #[] }] 49 4 #[] #[{ accessFlags := 25, nameIndex := 354, descriptorIndex := 339, attributes := #[] }, { accessFlags := 25, nameIndex := 358, descriptorIndex := 339, attributes := #[] }, { accessFlags := 25, nameIndex := 361, descriptorIndex := 339, attributes := #[] }, { accessFlags := 26, nameIndex := 364, descriptorIndex := 339, attributes := #[] }, { accessFlags := 26, nameIndex := 365, descriptorIndex := 339, attributes := #[] }, { accessFlags := 26, nameIndex := 172, descriptorIndex := 173, attributes := #[] }, { accessFlags := 26, nameIndex := 176, descriptorIndex := 173, attributes := #[] }, { accessFlags := 8, nameIndex := 344, descriptorIndex := 339, attributes := #[] }, { accessFlags := 8, nameIndex := 338, descriptorIndex := 339, attributes := #[] }, { accessFlags := 4120, nameIndex := 245, descriptorIndex := 246, attributes := #[] }])
  fields := #[{ name := "E", type := .double, accessFlags := 25, slot := 0, constantValue := 0 }, { name := "PI", type := .double, accessFlags := 25, slot := 1, constantValue := 0 }, { name := "TAU", type := .double, accessFlags := 25, slot := 2, constantValue := 0 }, { name := "DEGREES_TO_RADIANS", type := .double, accessFlags := 26, slot := 3, constantValue := 0 }, { name := "RADIANS_TO_DEGREES", type := .double, accessFlags := 26, slot := 4, constantValue := 0 }, { name := "negativeZeroFloatBits", type := .long, accessFlags := 26, slot := 5, constantValue := 0 }, { name := "negativeZeroDoubleBits", type := .long, accessFlags := 26, slot := 6, constantValue := 0 }, { name := "twoToTheDoubleScaleUp", type := .double, accessFlags := 8, slot := 7, constantValue := 0 }, { name := "twoToTheDoubleScaleDown", type := .double, accessFlags := 8, slot := 8, constantValue := 0 }, { name := "$assertionsDisabled", type := .boolean, accessFlags := 4120, slot := 9, constantValue := 0 }]
  methods := #[k2m0, k2m1]
  instanceTypes := #[]
  staticTypes := #[.double, .double, .double, .double, .double, .long, .long, .double, .double, .boolean]
  resolved := Array.replicate 460 none
  statics := none }

def pool3 : Array CpInfo := pool [(2, .class_ 4), (1, u "java/lang/Object"), (0, u "<init>"), (0, u "()V"), (7, .class_ 16), (1, u "com/example/chronofield/chronofield/AsciiDigits"), (8, u "write"), (0, u "([CIII)V")] 13

def k3m0 : Method := { name := "<init>", desc := "()V", sig := { parameters := [], returnType := none }, accessFlags := 2, code := none }
def k3c1 : Code := { maxStack := 5, maxLocals := 6, code := prog_1_method_5_code, exceptionTable := #[], attributes := #[] }
def k3m1 : Method := { name := "write", desc := "([CIII)V", sig := { parameters := [(.array .char), .int, .int, .int], returnType := none }, accessFlags := 8, code := some k3c1 }
/-- com/example/chronofield/chronofield/AsciiDigits -/
def k3 : Class := { plain "com/example/chronofield/chronofield/AsciiDigits" (some 0) with
  accessFlags := 48
  interfaces := #[]
  cf := some (fileOf pool3 14 #[] #[{ accessFlags := 2, nameIndex := 5, descriptorIndex := 6, attributes := #[] }, { accessFlags := 8, nameIndex := 25, descriptorIndex := 26, attributes := #[] }] 48 2 #[] #[])
  fields := #[]
  methods := #[k3m0, k3m1]
  instanceTypes := #[]
  staticTypes := #[]
  resolved := Array.replicate 40 none
  statics := none }

def pool4 : Array CpInfo := pool [(1, u "java/lang/Cloneable"), (0, .class_ 1), (0, u "java/lang/Object"), (0, .class_ 3)] 3

/-- java/lang/Cloneable -/
def k4 : Class := { plain "java/lang/Cloneable" (some 0) with
  accessFlags := 1537
  interfaces := #[]
  cf := some (fileOf pool4 2 #[] #[] 1537 4 #[] #[])
  fields := #[]
  methods := #[]
  instanceTypes := #[]
  staticTypes := #[]
  resolved := Array.replicate 8 none
  statics := none }

def pool5 : Array CpInfo := pool [(1, u "java/io/Serializable"), (0, .class_ 1), (0, u "java/lang/Object"), (0, .class_ 3)] 3

/-- java/io/Serializable -/
def k5 : Class := { plain "java/io/Serializable" (some 0) with
  accessFlags := 1537
  interfaces := #[]
  cf := some (fileOf pool5 2 #[] #[] 1537 4 #[] #[])
  fields := #[]
  methods := #[]
  instanceTypes := #[]
  staticTypes := #[]
  resolved := Array.replicate 8 none
  statics := none }

/-- the primitive byte -/
def k6 : Class := { plain "byte" none with kind := .primitive 'B', accessFlags := 0x411 }
/-- [B -/
def k7 : Class := { plain "[B" (some 0) with kind := .array 6 .byte, interfaces := #[4, 5], accessFlags := 1041 }

/-- the primitive char -/
def k8 : Class := { plain "char" none with kind := .primitive 'C', accessFlags := 0x411 }
/-- [C -/
def k9 : Class := { plain "[C" (some 0) with kind := .array 8 .char, interfaces := #[4, 5], accessFlags := 1041 }

/-- the primitive int -/
def k10 : Class := { plain "int" none with kind := .primitive 'I', accessFlags := 0x411 }
/-- [I -/
def k11 : Class := { plain "[I" (some 0) with kind := .array 10 .int, interfaces := #[4, 5], accessFlags := 1041 }

def heap : Heap := #[]
def classes : Array Class := #[k0, k1, k2, k3, k4, k5, k6, k7, k8, k9, k10, k11]
def interned : List (Array UInt16 × Addr) := []
def slotsUsed : Nat := 0
def theMethod : MethodId := ⟨1, 1⟩
def args0 : Array Value := #[.int 5, .int 6, .int 7, .int 8]
def aboutOver (below : List Frame) : State where
  vm := { classes := classes, interned := interned.toArray }
  heap := heap
  slotsUsed := slotsUsed
  threads := #[{ frames := .invoking theMethod args0 :: below }]
def below0 : List Frame := [.native { method := ⟨0, 0⟩, args := #[] }]
def about1 : State := aboutOver below0
def p0 : Program := .bare "" "" ""
def e0 : Env := launch0.env 0 0 0
theorem w_frames : about1.frames = Frame.invoking theMethod args0 :: below0 := rfl
set_option maxRecDepth 65536 in
theorem w_args : argsFit about1.vm theMethod args0 = true := by decide +kernel
set_option maxRecDepth 65536 in
theorem w_heap : heapFits about1 = true := by decide +kernel
set_option maxRecDepth 65536 in
theorem w_runnable : about1.curStatus? = some .runnable := by decide +kernel
set_option maxRecDepth 65536 in
theorem w_alone : about1.alone = true := by decide +kernel
set_option maxRecDepth 65536 in
theorem w_named : about1.methodNamed? x = some theMethod := by decide +kernel
set_option maxRecDepth 65536 in
theorem w_hears : about1.hears theMethod below0 = true := by decide +kernel
set_option maxRecDepth 65536 in
theorem w_ripe : about1.ripe theMethod args0 below0 = true := by decide +kernel
theorem w_running : about1.status = .running := rfl
set_option maxRecDepth 65536 in
theorem w_room : about1.hasRoom e0.platform room_1 = true :=
  launch0.hasRoom_least _ room_1 (by decide +kernel) (by decide +kernel) (by decide +kernel) (by decide +kernel) (by decide +kernel) (by decide +kernel)
theorem allAtoms_all (ts : List Jvm.Cond) (a : Array Jvm.Value) (st : Jvm.State) : (allAtoms ts).before a st = ts.all (fun c => c.before a st) := by
  induction ts with
  | nil => rfl
  | cons c t ih =>
    show (Jvm.Cond.and c (allAtoms t)).before a st = _
    rw [Jvm.Cond.before_and, ih, List.all_cons]
def words1 : List Jvm.Cond := Jvm.Cond.code x code maxLocals ret :: tables_1
/-- a 'code' word, met by the world's own term for the bytes: nothing is compared byte by byte -/
theorem code_word {y : MethodName} {bytes : ByteArray} {mx : Nat} {rt : Option FieldType} {a : Array Value} {s : State} {m : MethodId} {meth : Method} {c : Code} (h1 : s.methodNamed? y = some m) (h2 : s.vm.method? m = some meth) (h3 : meth.code = some c) (h4 : c.code = bytes)
    (h5 : (c.maxLocals == mx && c.exceptionTable.isEmpty && decide (c.maxStack ≤ mostOperands) && decide (meth.sig.returnType = rt) && !meth.locks && decide (parseMethodDescriptor y.desc = some meth.sig)) = true) : (Jvm.Cond.code y bytes mx rt).before a s = true := by
  simp only [Bool.and_eq_true, beq_iff_eq, Bool.not_eq_true', decide_eq_true_eq] at h5
  obtain ⟨⟨⟨⟨⟨g1, g2⟩, g3⟩, g4⟩, g5⟩, g6⟩ := h5
  simp [Cond.before, Cond.holds, Cond.value, h1, h2, h3, h4, g1, g2, g3, g4, g5, g6]
def isCode : Jvm.Cond → Bool
  | .code _ _ _ _ => true
  | _ => false
theorem all_split {L : List Jvm.Cond} {P : Jvm.Cond → Bool} (h1 : L.all (fun c => isCode c || P c) = true) (h2 : ∀ c ∈ L.filter isCode, P c = true) : L.all P = true := by
  refine List.all_eq_true.mpr fun c hc => ?_
  have h := List.all_eq_true.mp h1 c hc
  rcases Bool.eq_false_or_eq_true (isCode c) with hi | hi
  · exact h2 c (List.mem_filter.mpr ⟨hc, hi⟩)
  · simpa [hi] using h
set_option maxRecDepth 65536 in
theorem w_c0 : (Jvm.Cond.code x code maxLocals ret).before args0 about1 = true := code_word (m := ⟨1, 1⟩) (meth := k1m1) (c := k1c1) (by decide +kernel) rfl rfl rfl (by decide +kernel)
set_option maxRecDepth 65536 in
theorem w_c1 : (Jvm.Cond.code ({ cls := "java/lang/Math", name := "min", desc := "(II)I" } : Jvm.MethodName) jdk_29_method_69_code (2 : Nat) (Option.some Jvm.ClassFile.FieldType.int)).before args0 about1 = true := code_word (m := ⟨2, 1⟩) (meth := k2m1) (c := k2c1) (by decide +kernel) rfl rfl rfl (by decide +kernel)
set_option maxRecDepth 65536 in
theorem w_c2 : (Jvm.Cond.code ({ cls := "com/example/chronofield/chronofield/AsciiDigits", name := "write", desc := "([CIII)V" } : Jvm.MethodName) prog_1_method_5_code (6 : Nat) (Option.none : Option Jvm.ClassFile.FieldType)).before args0 about1 = true := code_word (m := ⟨3, 1⟩) (meth := k3m1) (c := k3c1) (by decide +kernel) rfl rfl rfl (by decide +kernel)
set_option maxRecDepth 65536 in
theorem w_c3 : (Jvm.Cond.code ({ cls := "com/example/chronofield/chronofield/AsciiDigitsWritePinLaw", name := "ok", desc := "([CIIIIC[I)Z" } : Jvm.MethodName) method_3_code (8 : Nat) (Option.some Jvm.ClassFile.FieldType.boolean)).before args0 about1 = true := code_word (m := ⟨1, 2⟩) (meth := k1m2) (c := k1c2) (by decide +kernel) rfl rfl rfl (by decide +kernel)
def codes1 : List Jvm.Cond := [Jvm.Cond.code x code maxLocals ret, Jvm.Cond.code ({ cls := "java/lang/Math", name := "min", desc := "(II)I" } : Jvm.MethodName) jdk_29_method_69_code (2 : Nat) (Option.some Jvm.ClassFile.FieldType.int), Jvm.Cond.code ({ cls := "com/example/chronofield/chronofield/AsciiDigits", name := "write", desc := "([CIII)V" } : Jvm.MethodName) prog_1_method_5_code (6 : Nat) (Option.none : Option Jvm.ClassFile.FieldType), Jvm.Cond.code ({ cls := "com/example/chronofield/chronofield/AsciiDigitsWritePinLaw", name := "ok", desc := "([CIIIIC[I)Z" } : Jvm.MethodName) method_3_code (8 : Nat) (Option.some Jvm.ClassFile.FieldType.boolean)]
set_option maxRecDepth 65536 in
theorem codes_eq : words1.filter isCode = codes1 := rfl
theorem w_codes : ∀ c ∈ words1.filter isCode, c.before args0 about1 = true := by
  rw [codes_eq]
  intro c hc
  simp only [codes1, List.mem_cons, List.not_mem_nil, or_false] at hc
  rcases hc with rfl | rfl | rfl | rfl
  · exact w_c0
  · exact w_c1
  · exact w_c2
  · exact w_c3
set_option maxRecDepth 65536 in
theorem w_t1 : words1.all (fun c => isCode c || c.before args0 about1) = true := by decide +kernel
theorem w_tables : (allAtoms (Jvm.Cond.code x code maxLocals ret :: tables_1)).before args0 about1 = true := by
  rw [allAtoms_all]
  show words1.all (fun c => c.before args0 about1) = true
  refine all_split ?_ w_codes
  rw [w_t1]
set_option maxRecDepth 65536 in
theorem w_case : (Jvm.Cond.and given_1 narrow_1).before args0 about1 = true := by decide +kernel
theorem w_applies : (headSpec (Jvm.Cond.code x code maxLocals ret :: tables_1) room_1).applies x e0.platform about1 = true :=
  (Spec.applies_iff w_frames).mpr ⟨w_running, w_runnable, w_alone, w_named, w_hears, w_ripe, w_room, w_tables⟩
theorem atStart : AtStart classFile x code maxLocals ret World_1 tables_1 room_1 Calls_1 rest_1 Pre_1 launch0 p0 e0 about1 theMethod args0 below0 :=
  ⟨lists_1, trivial, launch0.admits_env _ _ _, launch0.least_env, fairChoices_fair.cas, fairChoices_fair.clock, w_frames, w_args, w_heap, w_applies, trivial, trivial, w_case⟩
end start1
theorem witness_1 : WitnessClaimed_1 := ⟨start1.p0, start1.e0, start1.about1, start1.theMethod, start1.args0, start1.below0, start1.atStart⟩
end Jvm.Pilot.@@N@@
