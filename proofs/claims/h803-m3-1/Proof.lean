import JvmDerived
import JvmDerived.Pilot.@@N@@Statement
import JvmDerived.Pilot.@@N@@Code
set_option linter.unusedVariables false
set_option linter.unusedSimpArgs false
@@BLOCK:NumsL.lean.txt@@
namespace Jvm.Pilot.@@N@@
open Jvm Jvm.ClassFile Sem Op Lib Jvm.Free Jvm.Stand Jvm.LawKit Jvm.RoadKit Bundle Jvm.Pilot.@@N@@.Jvm.D
def own_shl (x y : Int32) : Int32 := x <<< (y &&& 31)
def own_shr (x y : Int32) : Int32 := x >>> (y &&& 31)
def own_ushr (x y : Int32) : Int32 := (x.toUInt32 >>> (y &&& 31).toUInt32).toInt32
def own_shlL (x : Int64) (y : Int32) : Int64 := x <<< (y &&& 0x3f).toInt64
def own_shrL (x : Int64) (y : Int32) : Int64 := x >>> (y &&& 0x3f).toInt64
def own_ushrL (x : Int64) (y : Int32) : Int64 := (x.toUInt64 >>> (y &&& 0x3f).toInt64.toUInt64).toInt64
def own_remL (x y : Int64) : Int64 := x - (x / y) * y
section OwnKit
variable {p : Program} {l : Launch} {e : Env} {R : Room} {s : State} {m : MethodId} {args : Array Value} {below : List Frame} {meth : Method} {c : Code} {T : State} {locs : List Loc} {cells slots : Nat} {Z : State} {h h' : Heap} {a b : Addr}
theorem retI (X : Stand p l e R s m args below meth c T locs cells slots) (hx : p.tables.exec = Jvm.exec) {pc : Nat} {Ls : Array Slot} {z : Int32} {rest : List Value} (hret : meth.sig.returnType = some .int) (hd : decode c.code pc = .ok (.ireturn, 1)) {fs : List Frame}
    (hl : ∀ (f : JFrame) (acts : List Action), f.method = m → f.locked = none → f.entered = [] → (doReturn e (T.setTop f) acts (some (.int z))).1 = T.setFrames fs) : Steps p.tables e below (T.setTop (mkF m pc Ls (.int z :: rest))) (T.setFrames fs) :=
  retOut X hx hret rfl (Or.inl ⟨rfl, Or.inl rfl, _, rfl⟩) hd hl
theorem own_retJ (X : Stand p l e R s m args below meth c T locs cells slots) (hx : p.tables.exec = Jvm.exec) {pc : Nat} {Ls : Array Slot} {z : Int64} {rest : List Value} (hret : meth.sig.returnType = some .long) (hd : decode c.code pc = .ok (.lreturn, 1)) {fs : List Frame}
    (hl : ∀ (f : JFrame) (acts : List Action), f.method = m → f.locked = none → f.entered = [] → (doReturn e (T.setTop f) acts (some (.long z))).1 = T.setFrames fs) : Steps p.tables e below (T.setTop (mkF m pc Ls (.long z :: rest))) (T.setFrames fs) :=
  retOut X hx hret rfl (Or.inr (Or.inl ⟨rfl, rfl, _, rfl⟩)) hd hl
/-- an array of n places of one of the int kinds: place i holds f i -/
def ArI (Z : State) (h : Heap) (a : Addr) (ty : FieldType) (n : Nat) (f : Nat → Int32) : Prop := ∃ c : Cell, Arr Z h a c ty ∧ c.slots.size = n ∧ ∀ i, i < n → c.slots[i]? = some (.int (f i))
def own_upd (f : Nat → Int32) (i : Nat) (x : Int32) : Nat → Int32 := fun k => if k = i then x else f k
theorem ArI.lt {ty : FieldType} {n : Nat} {f : Nat → Int32} (A : ArI Z h a ty n f) : a < h.size := by obtain ⟨c, A, -⟩ := A; exact A.lt
theorem ArI.ext {ty : FieldType} {n : Nat} {f : Nat → Int32} (A : ArI Z h a ty n f) (E : Ext h h') : ArI Z h' a ty n f := by obtain ⟨c, A, r⟩ := A; exact ⟨c, A.ext E, r⟩
theorem ArI.other {ty : FieldType} {n : Nat} {f : Nat → Int32} {sl : Nat} {v : Value} (A : ArI Z h b ty n f) (W : Wr h h' a sl v) (q : b ≠ a) : ArI Z h' b ty n f := by obtain ⟨c, A, r⟩ := A; exact ⟨c, A.other W q, r⟩
theorem ArI.keep {ty : FieldType} {n : Nat} {f : Nat → Int32} {ws : List Addr} (A : ArI Z h a ty n f) (K : Keep h h' ws) (q : a ∉ ws) : ArI Z h' a ty n f := by obtain ⟨c, A, r⟩ := A; exact ⟨c, ⟨K.2.1 a c A.1 q, A.2⟩, r⟩
theorem ArI.new {ty : FieldType} {k : ClassId} {z : Int32} {n : Nat} (hd : defaultValue ty = .int 0) (A : Arr Z h a (newA k ty z) ty) (hn : z.toNatClampNeg = n) : ArI Z h a ty n (fun _ => 0) :=
  ⟨_, A, by rw [sz_new, hn], fun i hi => by rw [newA]; simp [hn, hi, hd]⟩
theorem ArI.set {ty : FieldType} {n i : Nat} {f : Nat → Int32} {cl : Cell} {x : Int32} (A : Arr Z h a cl ty) (S : cl.slots.size = n) (H : ∀ i, i < n → cl.slots[i]? = some (.int (f i))) (W : Wr h h' a i (.int x)) : ArI Z h' a ty n (own_upd f i x) :=
  ⟨cl.setSlot i (.int x), A.same W, by rw [sz_set]; exact S, fun k hk => by
    by_cases q : k = i
    · subst q; simp [Cell.setSlot, own_upd, Array.getElem?_setIfInBounds, S, hk]
    · simp only [Cell.setSlot, own_upd, Array.getElem?_setIfInBounds, if_neg (Ne.symm q), if_neg q]; exact H k hk⟩
theorem own_in {cl : Cell} {j : Int32} {i n : Nat} (S : cl.slots.size = n) (hj : ¬ j < 0 ∧ j.toNatClampNeg = i) (hi : i < n) : ¬ (j < 0 ∨ cl.slots.size ≤ j.toNatClampNeg) := by
  obtain ⟨j0, rfl⟩ := hj
  rw [S]; rintro (q | q)
  · exact j0 q
  · exact absurd hi (Nat.not_lt.mpr q)
theorem own_stI {n i : Nat} {f : Nat → Int32} (X : Stand p l e R s m args below meth c T locs cells slots) (hx : p.tables.exec = Jvm.exec) (hZ : Z.Warmed39 s.vm) (eT : T.heap = h) (A : ArI Z h a .int n f) {j x : Int32} (hj : ¬ j < 0 ∧ j.toNatClampNeg = i) (hi : i < n) {g : JFrame} (hg : g.method = m) {rest : List Value} (hs : g.stack = .int x :: .int j :: .ref a :: rest) (hd : decode c.code g.pc = .ok (.iastore, 1)) :
    ∃ T' h', Stand p l e R s m args below meth c T' (locs ++ [⟨a, i⟩]) cells slots ∧ T'.heap = h' ∧ Wr h h' a i (.int x) ∧ ArI Z h' a .int n (own_upd f i x) ∧ ∀ target, Steps p.tables e below (T'.setTop { g with pc := g.pc + 1, stack := rest }) target → Steps p.tables e below (T.setTop g) target := by
  obtain ⟨cl, Ar, S, H⟩ := A
  have hin := own_in S hj hi
  obtain ⟨T', h', X', e', W', st⟩ := stI X hx hZ eT Ar hin hg hs hd
  rw [hj.2] at X' W'
  exact ⟨T', h', X', e', W', ArI.set Ar S H W', st⟩
theorem own_stC {n i : Nat} {f : Nat → Int32} (X : Stand p l e R s m args below meth c T locs cells slots) (hx : p.tables.exec = Jvm.exec) (hZ : Z.Warmed39 s.vm) (eT : T.heap = h) (A : ArI Z h a .char n f) {j x : Int32} (hj : ¬ j < 0 ∧ j.toNatClampNeg = i) (hi : i < n) {g : JFrame} (hg : g.method = m) {rest : List Value} (hs : g.stack = .int x :: .int j :: .ref a :: rest) (hd : decode c.code g.pc = .ok (.castore, 1)) :
    ∃ T' h', Stand p l e R s m args below meth c T' (locs ++ [⟨a, i⟩]) cells slots ∧ T'.heap = h' ∧ Wr h h' a i (.int (nar .char x)) ∧ ArI Z h' a .char n (own_upd f i (nar .char x)) ∧ ∀ target, Steps p.tables e below (T'.setTop { g with pc := g.pc + 1, stack := rest }) target → Steps p.tables e below (T.setTop g) target := by
  obtain ⟨cl, Ar, S, H⟩ := A
  have hin := own_in S hj hi
  obtain ⟨T', h', X', e', W', st⟩ := stC X hx hZ eT Ar hin hg hs hd
  rw [hj.2] at X' W'
  exact ⟨T', h', X', e', W', ArI.set Ar S H W', st⟩
theorem own_stB {n i : Nat} {f : Nat → Int32} (X : Stand p l e R s m args below meth c T locs cells slots) (hx : p.tables.exec = Jvm.exec) (hZ : Z.Warmed39 s.vm) (eT : T.heap = h) (A : ArI Z h a .byte n f) {j x : Int32} (hj : ¬ j < 0 ∧ j.toNatClampNeg = i) (hi : i < n) {g : JFrame} (hg : g.method = m) {rest : List Value} (hs : g.stack = .int x :: .int j :: .ref a :: rest) (hd : decode c.code g.pc = .ok (.bastore, 1)) :
    ∃ T' h', Stand p l e R s m args below meth c T' (locs ++ [⟨a, i⟩]) cells slots ∧ T'.heap = h' ∧ Wr h h' a i (.int (nar .byte x)) ∧ ArI Z h' a .byte n (own_upd f i (nar .byte x)) ∧ ∀ target, Steps p.tables e below (T'.setTop { g with pc := g.pc + 1, stack := rest }) target → Steps p.tables e below (T.setTop g) target := by
  obtain ⟨cl, Ar, S, H⟩ := A
  have hin := own_in S hj hi
  obtain ⟨T', h', X', e', W', st⟩ := stB X hx hZ eT Ar hin hg hs hd
  rw [hj.2] at X' W'
  exact ⟨T', h', X', e', W', ArI.set Ar S H W', st⟩
theorem own_ldI {n i : Nat} {f : Nat → Int32} (X : Stand p l e R s m args below meth c T locs cells slots) (hx : p.tables.exec = Jvm.exec) (hZ : Z.Warmed39 s.vm) (eT : T.heap = h) (A : ArI Z h a .int n f) {j : Int32} (hj : ¬ j < 0 ∧ j.toNatClampNeg = i) (hi : i < n) {g : JFrame} (hg : g.method = m) {rest : List Value} (hs : g.stack = .int j :: .ref a :: rest) (hd : decode c.code g.pc = .ok (.iaload, 1)) (target : State)
    (k : Steps p.tables e below (T.setTop { g with pc := g.pc + 1, stack := .int (f i) :: rest }) target) : Steps p.tables e below (T.setTop g) target := by
  obtain ⟨cl, Ar, S, H⟩ := A
  exact X.iaload hx (by rw [eT]; exact Ar.1) (State.isArrayOf_alike hZ.alike Ar.2.1) Ar.2.2 (own_in S hj hi) (by rw [hj.2]; exact H i hi) hg hs hd _ k
theorem own_ldC {n i : Nat} {f : Nat → Int32} (X : Stand p l e R s m args below meth c T locs cells slots) (hx : p.tables.exec = Jvm.exec) (hZ : Z.Warmed39 s.vm) (eT : T.heap = h) (A : ArI Z h a .char n f) {j : Int32} (hj : ¬ j < 0 ∧ j.toNatClampNeg = i) (hi : i < n) {g : JFrame} (hg : g.method = m) {rest : List Value} (hs : g.stack = .int j :: .ref a :: rest) (hd : decode c.code g.pc = .ok (.caload, 1)) (target : State)
    (k : Steps p.tables e below (T.setTop { g with pc := g.pc + 1, stack := .int (f i) :: rest }) target) : Steps p.tables e below (T.setTop g) target := by
  obtain ⟨cl, Ar, S, H⟩ := A
  exact X.caload hx (by rw [eT]; exact Ar.1) (State.isArrayOf_alike hZ.alike Ar.2.1) Ar.2.2 (own_in S hj hi) (by rw [hj.2]; exact H i hi) hg hs hd _ k
theorem own_ldB {n i : Nat} {f : Nat → Int32} (X : Stand p l e R s m args below meth c T locs cells slots) (hx : p.tables.exec = Jvm.exec) (hZ : Z.Warmed39 s.vm) (eT : T.heap = h) (A : ArI Z h a .byte n f) {j : Int32} (hj : ¬ j < 0 ∧ j.toNatClampNeg = i) (hi : i < n) {g : JFrame} (hg : g.method = m) {rest : List Value} (hs : g.stack = .int j :: .ref a :: rest) (hd : decode c.code g.pc = .ok (.baload, 1)) (target : State)
    (k : Steps p.tables e below (T.setTop { g with pc := g.pc + 1, stack := .int (f i) :: rest }) target) : Steps p.tables e below (T.setTop g) target := by
  obtain ⟨cl, Ar, S, H⟩ := A
  exact X.baloadBytes hx (by rw [eT]; exact Ar.1) (State.isArrayOf_alike hZ.alike Ar.2.1) Ar.2.2 (own_in S hj hi) (by rw [hj.2]; exact H i hi) hg hs hd _ k
theorem own_len {n : Nat} {ty : FieldType} {f : Nat → Int32} (X : Stand p l e R s m args below meth c T locs cells slots) (hx : p.tables.exec = Jvm.exec) (hZ : Z.Warmed39 s.vm) (eT : T.heap = h) (A : ArI Z h a ty n f) {N : Int32} (hN : n.toInt32 = N) {g : JFrame} (hg : g.method = m) {rest : List Value} (hs : g.stack = .ref a :: rest) (hd : decode c.code g.pc = .ok (.arraylength, 1)) (target : State)
    (k : Steps p.tables e below (T.setTop { g with pc := g.pc + 1, stack := .int N :: rest }) target) : Steps p.tables e below (T.setTop g) target := by
  obtain ⟨cl, Ar, S, H⟩ := A
  exact X.arraylength hx (by rw [eT]; exact Ar.1) (State.isArrayOf_alike hZ.alike Ar.2.1) hg hs hd _ (by rw [S, hN]; exact k)
end OwnKit
theorem pn_0 : plainName "com/example/consigliere/consigliere/engine/Rng" = true := by first | (simp [plainName, overriddenIn]; done) | decide +kernel
theorem d1_0 : decode prog_3_method_1_code 0 = .ok (.aload_n 0, 1) := by decide +kernel
theorem d1_1 : decode prog_3_method_1_code 1 = .ok (.invokespecial 1, 3) := by decide +kernel
theorem d1_4 : decode prog_3_method_1_code 4 = .ok (.aload_n 0, 1) := by decide +kernel
theorem d1_5 : decode prog_3_method_1_code 5 = .ok (.lload_n 1, 1) := by decide +kernel
theorem d1_6 : decode prog_3_method_1_code 6 = .ok (.putfield 7, 3) := by decide +kernel
theorem d1_9 : decode prog_3_method_1_code 9 = .ok (.return_, 1) := by decide +kernel
theorem ef_1 (m : MethodId) (x0 : Addr) (x1 : Int64) : entryFrame m #[(.ref x0), (.long x1)] 3 = mkF m 0 #[.val (.ref x0), .val (.long x1), .second] [] := by first | (simp [entryFrame, mkF, argsToLocals, Value.category]; done) | rfl
abbrev R1 : Room := { frames := 1, cells := 0, slots := 0, locals := 12 }
def Q1 (Z : State) (a1_0 : Addr) (p1_1 : Int64) (w1_state : Int64) (h0 : Heap) (n0 : Nat) (v : Option Value) (h : Heap) (L : List Loc) : Prop := v = none ∧ Fr n0 L ∧ Keep h0 h [a1_0] ∧ Fld Z h a1_0 "com/example/consigliere/consigliere/engine/Rng" "state" "J" (.long p1_1)
set_option maxRecDepth 65536 in
set_option maxHeartbeats 40000000 in
theorem rm1 (l : Launch) (Z : State) (a0 : Array Value) (hw : ∀ d ∈ tables_1, d.before a0 Z = true) (ws : List Jvm.Cond) (a1_0 : Addr) (p1_1 : Int64) (w1_state : Int64) (h0 : Heap) (n0 : Nat) (Z0 : n0 ≤ h0.size) (E_a1_0 : Exa Z h0 a1_0 "com/example/consigliere/consigliere/engine/Rng") (F_state_a1_0 : Fld Z h0 a1_0 "com/example/consigliere/consigliere/engine/Rng" "state" "J" (.long w1_state)) (g_a1_0 : n0 ≤ a1_0) :
    MetFree l (⟨"com/example/consigliere/consigliere/engine/Rng", "<init>", "(J)V"⟩ : MethodName) (head1 (Jvm.Cond.code (⟨"com/example/consigliere/consigliere/engine/Rng", "<init>", "(J)V"⟩ : MethodName) prog_3_method_1_code 3 none :: ws) R1) (fun a U => a = #[(.ref a1_0), (.long p1_1)] ∧ Z.Warmed39 U.vm ∧ U.heap = h0) (fun _ _ _ _ _ => True) (fun _ U o U' => ∃ v L, o = .returned v ∧ Q1 Z a1_0 p1_1 w1_state h0 n0 v U'.heap L ∧ FrameEnd U o U' L R1.cells R1.slots) := by
  refine MetFree.of_bodySF (plainFor_of_name pn_0) hisR ?_
  intro p e s m args below meth c s₁ Bd hml0 hP hK
  obtain ⟨rfl, hZ, hh⟩ := hP
  have hx := Bd.exec
  have hby := Bd.bytes
  have hml : c.maxLocals = 3 := hml0
  have hown : s.vm.findClass "com/example/consigliere/consigliere/engine/Rng" = some m.cls := findClass_of_methodNamed Bd.named
  have hnm := (name_of_methodNamed Bd.named Bd.method).1
  have X0 : Stand p l e R1 s m #[(.ref a1_0), (.long p1_1)] below meth c s₁ [] 0 0 := Stand.of_body Bd
  have e0 : s₁.heap = h0 := by rw [← hh, Bd.state]; rfl
  have N0 := Fr.nil n0
  have pre0 : ∀ t, Steps p.tables e below (s₁.setTop (mkF m 0 #[.val (.ref a1_0), .val (.long p1_1), .second] [])) t → Steps p.tables e below (s₁.setTop (entryFrame m #[(.ref a1_0), (.long p1_1)] 3)) t := fun t k => castTop (ef_1 m a1_0 p1_1) k
  have pre1 : ∀ t, Steps p.tables e below (s₁.setTop (mkF m 1 #[.val (.ref a1_0), .val (.long p1_1), .second] [(.ref a1_0)])) t → Steps p.tables e below (s₁.setTop (entryFrame m #[(.ref a1_0), (.long p1_1)] 3)) t := fun t k => pre0 t (by
    refine XS.aloadN X0.here hx rfl (hb hby d1_0) rfl rfl ?_
    show Steps p.tables e below (s₁.setTop (mkF m 1 #[.val (.ref a1_0), .val (.long p1_1), .second] [(.ref a1_0)])) _
    exact k)
  obtain ⟨T2, X2, e2, st2⟩ := initO X0 hx hZ hown (hw _ (List.mem_of_getElem? (i := 8) rfl)) (hw _ (List.mem_of_getElem? (i := 9) rfl)) (hw _ (List.mem_of_getElem? (i := 10) rfl)) e0 (g := (mkF m 1 #[.val (.ref a1_0), .val (.long p1_1), .second] [(.ref a1_0)])) rfl (by rw [hml]; rfl) rfl (hb hby d1_1) (by decide) (W := 0) (by show 2 * 0 + _ ≤ _; exact Nat.le_of_eq rfl) (by decide)
  have pre2 : ∀ t, Steps p.tables e below (T2.setTop (mkF m 4 #[.val (.ref a1_0), .val (.long p1_1), .second] [])) t → Steps p.tables e below (s₁.setTop (entryFrame m #[(.ref a1_0), (.long p1_1)] 3)) t := fun t k => pre1 t (st2 t k)
  have pre3 : ∀ t, Steps p.tables e below (T2.setTop (mkF m 6 #[.val (.ref a1_0), .val (.long p1_1), .second] [(.long p1_1), (.ref a1_0)])) t → Steps p.tables e below (s₁.setTop (entryFrame m #[(.ref a1_0), (.long p1_1)] 3)) t := fun t k => pre2 t (by
    refine XS.aloadN X2.here hx rfl (hb hby d1_4) rfl rfl ?_
    show Steps p.tables e below (T2.setTop (mkF m 5 #[.val (.ref a1_0), .val (.long p1_1), .second] [(.ref a1_0)])) _
    refine XS.lloadN X2.here hx rfl (hb hby d1_5) rfl ?_
    show Steps p.tables e below (T2.setTop (mkF m 6 #[.val (.ref a1_0), .val (.long p1_1), .second] [(.long p1_1), (.ref a1_0)])) _
    exact k)
  obtain ⟨T4, h4, X4, e4, W4, st4⟩ := putF X2 hx hZ hown (host := "") (Or.inl (hw _ (List.mem_of_getElem? (i := 11) rfl))) Via.refl e2 F_state_a1_0 E_a1_0 (Or.inl (hw _ (List.mem_of_getElem? (i := 12) rfl))) (hw _ (List.mem_of_getElem? (i := 3) rfl)) (ty := .long) (by decide) rfl rfl (g := (mkF m 6 #[.val (.ref a1_0), .val (.long p1_1), .second] [(.long p1_1), (.ref a1_0)])) rfl rfl (hb hby d1_6)
  have Ex5 : Exa Z h4 a1_0 "com/example/consigliere/consigliere/engine/Rng" := E_a1_0.wr W4
  have N4 := Fr.snoc X4 N0 g_a1_0
  have Z4 : n0 ≤ h4.size := Nat.le_trans Z0 (Keep.of_wr W4).1
  have K4 : Keep h0 h4 [a1_0] := (Keep.refl h0 [a1_0]).wr W4 (Or.inl (by simp))
  have F6 : Fld Z h4 a1_0 "com/example/consigliere/consigliere/engine/Rng" "state" "J" (.long p1_1) := F_state_a1_0.same W4
  have pre4 : ∀ t, Steps p.tables e below (T4.setTop (mkF m 9 #[.val (.ref a1_0), .val (.long p1_1), .second] [])) t → Steps p.tables e below (s₁.setTop (entryFrame m #[(.ref a1_0), (.long p1_1)] 3)) t := fun t k => pre3 t (st4 t k)
  obtain ⟨fs, hr, hrun, hended, hW, hsame⟩ := X4.leave (v := none) (fun _ => rfl) Bd.notSynchronized
  refine ⟨_, _, pre4 _ ?_, hrun, hended, _, _, rfl, ?_, ⟨_, rfl⟩, hW, hsame.mono (by decide) (by decide)⟩
  · show Steps p.tables e below (T4.setTop (mkF m 9 #[.val (.ref a1_0), .val (.long p1_1), .second] [])) _
    exact X4.returnOut hx Bd.returns (hb hby d1_9) hr
  · show Q1 Z a1_0 p1_1 w1_state h0 n0 _ T4.heap _
    rw [e4]
    exact ⟨rfl, N4, K4, F6⟩
theorem d5_0 : decode prog_3_method_2_code 0 = .ok (.aload_n 0, 1) := by decide +kernel
theorem d5_1 : decode prog_3_method_2_code 1 = .ok (.dup, 1) := by decide +kernel
theorem d5_2 : decode prog_3_method_2_code 2 = .ok (.getfield 7, 3) := by decide +kernel
theorem d5_5 : decode prog_3_method_2_code 5 = .ok (.ldc2_w 13, 3) := by decide +kernel
theorem d5_8 : decode prog_3_method_2_code 8 = .ok (.ladd, 1) := by decide +kernel
theorem d5_9 : decode prog_3_method_2_code 9 = .ok (.putfield 7, 3) := by decide +kernel
theorem d5_12 : decode prog_3_method_2_code 12 = .ok (.aload_n 0, 1) := by decide +kernel
theorem d5_13 : decode prog_3_method_2_code 13 = .ok (.getfield 7, 3) := by decide +kernel
theorem d5_16 : decode prog_3_method_2_code 16 = .ok (.lstore_n 1, 1) := by decide +kernel
theorem d5_17 : decode prog_3_method_2_code 17 = .ok (.lload_n 1, 1) := by decide +kernel
theorem d5_18 : decode prog_3_method_2_code 18 = .ok (.lload_n 1, 1) := by decide +kernel
theorem d5_19 : decode prog_3_method_2_code 19 = .ok (.bipush 30, 2) := by decide +kernel
theorem d5_21 : decode prog_3_method_2_code 21 = .ok (.lushr, 1) := by decide +kernel
theorem d5_22 : decode prog_3_method_2_code 22 = .ok (.lxor, 1) := by decide +kernel
theorem d5_23 : decode prog_3_method_2_code 23 = .ok (.ldc2_w 15, 3) := by decide +kernel
theorem d5_26 : decode prog_3_method_2_code 26 = .ok (.lmul, 1) := by decide +kernel
theorem d5_27 : decode prog_3_method_2_code 27 = .ok (.lstore_n 1, 1) := by decide +kernel
theorem d5_28 : decode prog_3_method_2_code 28 = .ok (.lload_n 1, 1) := by decide +kernel
theorem d5_29 : decode prog_3_method_2_code 29 = .ok (.lload_n 1, 1) := by decide +kernel
theorem d5_30 : decode prog_3_method_2_code 30 = .ok (.bipush 27, 2) := by decide +kernel
theorem d5_32 : decode prog_3_method_2_code 32 = .ok (.lushr, 1) := by decide +kernel
theorem d5_33 : decode prog_3_method_2_code 33 = .ok (.lxor, 1) := by decide +kernel
theorem d5_34 : decode prog_3_method_2_code 34 = .ok (.ldc2_w 17, 3) := by decide +kernel
theorem d5_37 : decode prog_3_method_2_code 37 = .ok (.lmul, 1) := by decide +kernel
theorem d5_38 : decode prog_3_method_2_code 38 = .ok (.lstore_n 1, 1) := by decide +kernel
theorem d5_39 : decode prog_3_method_2_code 39 = .ok (.lload_n 1, 1) := by decide +kernel
theorem d5_40 : decode prog_3_method_2_code 40 = .ok (.lload_n 1, 1) := by decide +kernel
theorem d5_41 : decode prog_3_method_2_code 41 = .ok (.bipush 31, 2) := by decide +kernel
theorem d5_43 : decode prog_3_method_2_code 43 = .ok (.lushr, 1) := by decide +kernel
theorem d5_44 : decode prog_3_method_2_code 44 = .ok (.lxor, 1) := by decide +kernel
theorem d5_45 : decode prog_3_method_2_code 45 = .ok (.lreturn, 1) := by decide +kernel
theorem ef_5 (m : MethodId) (x0 : Addr) : entryFrame m #[(.ref x0)] 3 = mkF m 0 #[.val (.ref x0), .unset, .unset] [] := by first | (simp [entryFrame, mkF, argsToLocals, Value.category]; done) | rfl
abbrev R5 : Room := { frames := 0, cells := 0, slots := 0, locals := 0 }
def v5_9 (w5_state : Int64) : Int64 := (w5_state + (-7046029254386353131 : Int64))
def v5_27 (w5_state : Int64) : Int64 := (((v5_9 w5_state) ^^^ (own_ushrL (v5_9 w5_state) (30 : Int32))) * (-4658895280553007687 : Int64))
def v5_38 (w5_state : Int64) : Int64 := (((v5_27 w5_state) ^^^ (own_ushrL (v5_27 w5_state) (27 : Int32))) * (-7723592293110705685 : Int64))
def r5 (w5_state : Int64) : Int64 := ((v5_38 w5_state) ^^^ (own_ushrL (v5_38 w5_state) (31 : Int32)))
def Q5 (Z : State) (a5_0 : Addr) (w5_state : Int64) (h0 : Heap) (n0 : Nat) (v : Option Value) (h : Heap) (L : List Loc) : Prop := v = some (.long (r5 w5_state)) ∧ Fr n0 L ∧ Keep h0 h [a5_0] ∧ Fld Z h a5_0 "com/example/consigliere/consigliere/engine/Rng" "state" "J" (.long (v5_9 w5_state))
set_option maxRecDepth 65536 in
set_option maxHeartbeats 40000000 in
theorem rm5 (l : Launch) (Z : State) (a0 : Array Value) (hw : ∀ d ∈ tables_1, d.before a0 Z = true) (ws : List Jvm.Cond) (a5_0 : Addr) (w5_state : Int64) (h0 : Heap) (n0 : Nat) (Z0 : n0 ≤ h0.size) (E_a5_0 : Exa Z h0 a5_0 "com/example/consigliere/consigliere/engine/Rng") (F_state_a5_0 : Fld Z h0 a5_0 "com/example/consigliere/consigliere/engine/Rng" "state" "J" (.long w5_state)) (g_a5_0 : n0 ≤ a5_0) :
    MetFree l (⟨"com/example/consigliere/consigliere/engine/Rng", "nextLong", "()J"⟩ : MethodName) (head1 (Jvm.Cond.code (⟨"com/example/consigliere/consigliere/engine/Rng", "nextLong", "()J"⟩ : MethodName) prog_3_method_2_code 3 (some .long) :: ws) R5) (fun a U => a = #[(.ref a5_0)] ∧ Z.Warmed39 U.vm ∧ U.heap = h0) (fun _ _ _ _ _ => True) (fun _ U o U' => ∃ v L, o = .returned v ∧ Q5 Z a5_0 w5_state h0 n0 v U'.heap L ∧ FrameEnd U o U' L R5.cells R5.slots) := by
  refine MetFree.of_bodySF (plainFor_of_name pn_0) hisR ?_
  intro p e s m args below meth c s₁ Bd hml0 hP hK
  obtain ⟨rfl, hZ, hh⟩ := hP
  have hx := Bd.exec
  have hby := Bd.bytes
  have hml : c.maxLocals = 3 := hml0
  have hown : s.vm.findClass "com/example/consigliere/consigliere/engine/Rng" = some m.cls := findClass_of_methodNamed Bd.named
  have hnm := (name_of_methodNamed Bd.named Bd.method).1
  have X0 : Stand p l e R5 s m #[(.ref a5_0)] below meth c s₁ [] 0 0 := Stand.of_body Bd
  have e0 : s₁.heap = h0 := by rw [← hh, Bd.state]; rfl
  have N0 := Fr.nil n0
  have pre0 : ∀ t, Steps p.tables e below (s₁.setTop (mkF m 0 #[.val (.ref a5_0), .unset, .unset] [])) t → Steps p.tables e below (s₁.setTop (entryFrame m #[(.ref a5_0)] 3)) t := fun t k => castTop (ef_5 m a5_0) k
  have pre1 : ∀ t, Steps p.tables e below (s₁.setTop (mkF m 2 #[.val (.ref a5_0), .unset, .unset] [(.ref a5_0), (.ref a5_0)])) t → Steps p.tables e below (s₁.setTop (entryFrame m #[(.ref a5_0)] 3)) t := fun t k => pre0 t (by
    refine XS.aloadN X0.here hx rfl (hb hby d5_0) rfl rfl ?_
    show Steps p.tables e below (s₁.setTop (mkF m 1 #[.val (.ref a5_0), .unset, .unset] [(.ref a5_0)])) _
    refine XS.dup X0.here hx rfl (hb hby d5_1) rfl rfl ?_
    show Steps p.tables e below (s₁.setTop (mkF m 2 #[.val (.ref a5_0), .unset, .unset] [(.ref a5_0), (.ref a5_0)])) _
    exact k)
  obtain ⟨T2, X2, e2, st2⟩ := getF X0 hx hZ hown (host := "") (Or.inl (hw _ (List.mem_of_getElem? (i := 11) rfl))) Via.refl e0 F_state_a5_0 (g := (mkF m 2 #[.val (.ref a5_0), .unset, .unset] [(.ref a5_0), (.ref a5_0)])) rfl rfl (hb hby d5_2)
  have pre2 : ∀ t, Steps p.tables e below (T2.setTop (mkF m 5 #[.val (.ref a5_0), .unset, .unset] [(.long w5_state), (.ref a5_0)])) t → Steps p.tables e below (s₁.setTop (entryFrame m #[(.ref a5_0)] 3)) t := fun t k => pre1 t (st2 t k)
  have pre3 : ∀ t, Steps p.tables e below (T2.setTop (mkF m 9 #[.val (.ref a5_0), .unset, .unset] [(.long (w5_state + (-7046029254386353131 : Int64))), (.ref a5_0)])) t → Steps p.tables e below (s₁.setTop (entryFrame m #[(.ref a5_0)] 3)) t := fun t k => pre2 t (by
    refine X2.ldc2Long hx hown (mvT hZ (hw _ (List.mem_of_getElem? (i := 29) rfl))) (g := (mkF m 5 #[.val (.ref a5_0), .unset, .unset] [(.long w5_state), (.ref a5_0)])) rfl (hb hby d5_5) _ ?_
    show Steps p.tables e below (T2.setTop (mkF m 8 #[.val (.ref a5_0), .unset, .unset] [(.long (-7046029254386353131 : Int64)), (.long w5_state), (.ref a5_0)])) _
    refine XS.ladd X2.here hx rfl (hb hby d5_8) rfl ?_
    show Steps p.tables e below (T2.setTop (mkF m 9 #[.val (.ref a5_0), .unset, .unset] [(.long (w5_state + (-7046029254386353131 : Int64))), (.ref a5_0)])) _
    exact k)
  obtain ⟨T4, h4, X4, e4, W4, st4⟩ := putF X2 hx hZ hown (host := "") (Or.inl (hw _ (List.mem_of_getElem? (i := 11) rfl))) Via.refl e2 F_state_a5_0 E_a5_0 (Or.inl (hw _ (List.mem_of_getElem? (i := 12) rfl))) (hw _ (List.mem_of_getElem? (i := 3) rfl)) (ty := .long) (by decide) rfl rfl (g := (mkF m 9 #[.val (.ref a5_0), .unset, .unset] [(.long (v5_9 w5_state)), (.ref a5_0)])) rfl rfl (hb hby d5_9)
  have Ex5 : Exa Z h4 a5_0 "com/example/consigliere/consigliere/engine/Rng" := E_a5_0.wr W4
  have N4 := Fr.snoc X4 N0 g_a5_0
  have Z4 : n0 ≤ h4.size := Nat.le_trans Z0 (Keep.of_wr W4).1
  have K4 : Keep h0 h4 [a5_0] := (Keep.refl h0 [a5_0]).wr W4 (Or.inl (by simp))
  have F6 : Fld Z h4 a5_0 "com/example/consigliere/consigliere/engine/Rng" "state" "J" (.long (v5_9 w5_state)) := F_state_a5_0.same W4
  have pre4 : ∀ t, Steps p.tables e below (T4.setTop (mkF m 12 #[.val (.ref a5_0), .unset, .unset] [])) t → Steps p.tables e below (s₁.setTop (entryFrame m #[(.ref a5_0)] 3)) t := fun t k => pre3 t (st4 t k)
  have pre7 : ∀ t, Steps p.tables e below (T4.setTop (mkF m 13 #[.val (.ref a5_0), .unset, .unset] [(.ref a5_0)])) t → Steps p.tables e below (s₁.setTop (entryFrame m #[(.ref a5_0)] 3)) t := fun t k => pre4 t (by
    refine XS.aloadN X4.here hx rfl (hb hby d5_12) rfl rfl ?_
    show Steps p.tables e below (T4.setTop (mkF m 13 #[.val (.ref a5_0), .unset, .unset] [(.ref a5_0)])) _
    exact k)
  obtain ⟨T8, X8, e8, st8⟩ := getF X4 hx hZ hown (host := "") (Or.inl (hw _ (List.mem_of_getElem? (i := 11) rfl))) Via.refl e4 F6 (g := (mkF m 13 #[.val (.ref a5_0), .unset, .unset] [(.ref a5_0)])) rfl rfl (hb hby d5_13)
  have pre8 : ∀ t, Steps p.tables e below (T8.setTop (mkF m 16 #[.val (.ref a5_0), .unset, .unset] [(.long (v5_9 w5_state))])) t → Steps p.tables e below (s₁.setTop (entryFrame m #[(.ref a5_0)] 3)) t := fun t k => pre7 t (st8 t k)
  have pre9 : ∀ t, Steps p.tables e below (T8.setTop (mkF m 45 #[.val (.ref a5_0), .val (.long (v5_38 w5_state)), .second] [(.long ((v5_38 w5_state) ^^^ (own_ushrL (v5_38 w5_state) (31 : Int32))))])) t → Steps p.tables e below (s₁.setTop (entryFrame m #[(.ref a5_0)] 3)) t := fun t k => pre8 t (by
    refine XS.lstoreN X8.here hx rfl (hb hby d5_16) rfl (l' := #[.val (.ref a5_0), .val (.long (v5_9 w5_state)), .second]) rfl ?_
    show Steps p.tables e below (T8.setTop (mkF m 17 #[.val (.ref a5_0), .val (.long (v5_9 w5_state)), .second] [])) _
    refine XS.lloadN X8.here hx rfl (hb hby d5_17) rfl ?_
    show Steps p.tables e below (T8.setTop (mkF m 18 #[.val (.ref a5_0), .val (.long (v5_9 w5_state)), .second] [(.long (v5_9 w5_state))])) _
    refine XS.lloadN X8.here hx rfl (hb hby d5_18) rfl ?_
    show Steps p.tables e below (T8.setTop (mkF m 19 #[.val (.ref a5_0), .val (.long (v5_9 w5_state)), .second] [(.long (v5_9 w5_state)), (.long (v5_9 w5_state))])) _
    refine XS.bipush X8.here hx rfl (hb hby d5_19) ?_
    show Steps p.tables e below (T8.setTop (mkF m 21 #[.val (.ref a5_0), .val (.long (v5_9 w5_state)), .second] [(.int (30 : Int32)), (.long (v5_9 w5_state)), (.long (v5_9 w5_state))])) _
    refine XS.lushr X8.here hx rfl (hb hby d5_21) rfl ?_
    show Steps p.tables e below (T8.setTop (mkF m 22 #[.val (.ref a5_0), .val (.long (v5_9 w5_state)), .second] [(.long (own_ushrL (v5_9 w5_state) (30 : Int32))), (.long (v5_9 w5_state))])) _
    refine XS.lxor X8.here hx rfl (hb hby d5_22) rfl ?_
    show Steps p.tables e below (T8.setTop (mkF m 23 #[.val (.ref a5_0), .val (.long (v5_9 w5_state)), .second] [(.long ((v5_9 w5_state) ^^^ (own_ushrL (v5_9 w5_state) (30 : Int32))))])) _
    refine X8.ldc2Long hx hown (mvT hZ (hw _ (List.mem_of_getElem? (i := 30) rfl))) (g := (mkF m 23 #[.val (.ref a5_0), .val (.long (v5_9 w5_state)), .second] [(.long ((v5_9 w5_state) ^^^ (own_ushrL (v5_9 w5_state) (30 : Int32))))])) rfl (hb hby d5_23) _ ?_
    show Steps p.tables e below (T8.setTop (mkF m 26 #[.val (.ref a5_0), .val (.long (v5_9 w5_state)), .second] [(.long (-4658895280553007687 : Int64)), (.long ((v5_9 w5_state) ^^^ (own_ushrL (v5_9 w5_state) (30 : Int32))))])) _
    refine XS.lmul X8.here hx rfl (hb hby d5_26) rfl ?_
    show Steps p.tables e below (T8.setTop (mkF m 27 #[.val (.ref a5_0), .val (.long (v5_9 w5_state)), .second] [(.long (((v5_9 w5_state) ^^^ (own_ushrL (v5_9 w5_state) (30 : Int32))) * (-4658895280553007687 : Int64)))])) _
    show Steps p.tables e below (T8.setTop (mkF m 27 #[.val (.ref a5_0), .val (.long (v5_9 w5_state)), .second] [(.long (v5_27 w5_state))])) _
    refine XS.lstoreN X8.here hx rfl (hb hby d5_27) rfl (l' := #[.val (.ref a5_0), .val (.long (v5_27 w5_state)), .second]) rfl ?_
    show Steps p.tables e below (T8.setTop (mkF m 28 #[.val (.ref a5_0), .val (.long (v5_27 w5_state)), .second] [])) _
    refine XS.lloadN X8.here hx rfl (hb hby d5_28) rfl ?_
    show Steps p.tables e below (T8.setTop (mkF m 29 #[.val (.ref a5_0), .val (.long (v5_27 w5_state)), .second] [(.long (v5_27 w5_state))])) _
    refine XS.lloadN X8.here hx rfl (hb hby d5_29) rfl ?_
    show Steps p.tables e below (T8.setTop (mkF m 30 #[.val (.ref a5_0), .val (.long (v5_27 w5_state)), .second] [(.long (v5_27 w5_state)), (.long (v5_27 w5_state))])) _
    refine XS.bipush X8.here hx rfl (hb hby d5_30) ?_
    show Steps p.tables e below (T8.setTop (mkF m 32 #[.val (.ref a5_0), .val (.long (v5_27 w5_state)), .second] [(.int (27 : Int32)), (.long (v5_27 w5_state)), (.long (v5_27 w5_state))])) _
    refine XS.lushr X8.here hx rfl (hb hby d5_32) rfl ?_
    show Steps p.tables e below (T8.setTop (mkF m 33 #[.val (.ref a5_0), .val (.long (v5_27 w5_state)), .second] [(.long (own_ushrL (v5_27 w5_state) (27 : Int32))), (.long (v5_27 w5_state))])) _
    refine XS.lxor X8.here hx rfl (hb hby d5_33) rfl ?_
    show Steps p.tables e below (T8.setTop (mkF m 34 #[.val (.ref a5_0), .val (.long (v5_27 w5_state)), .second] [(.long ((v5_27 w5_state) ^^^ (own_ushrL (v5_27 w5_state) (27 : Int32))))])) _
    refine X8.ldc2Long hx hown (mvT hZ (hw _ (List.mem_of_getElem? (i := 31) rfl))) (g := (mkF m 34 #[.val (.ref a5_0), .val (.long (v5_27 w5_state)), .second] [(.long ((v5_27 w5_state) ^^^ (own_ushrL (v5_27 w5_state) (27 : Int32))))])) rfl (hb hby d5_34) _ ?_
    show Steps p.tables e below (T8.setTop (mkF m 37 #[.val (.ref a5_0), .val (.long (v5_27 w5_state)), .second] [(.long (-7723592293110705685 : Int64)), (.long ((v5_27 w5_state) ^^^ (own_ushrL (v5_27 w5_state) (27 : Int32))))])) _
    refine XS.lmul X8.here hx rfl (hb hby d5_37) rfl ?_
    show Steps p.tables e below (T8.setTop (mkF m 38 #[.val (.ref a5_0), .val (.long (v5_27 w5_state)), .second] [(.long (((v5_27 w5_state) ^^^ (own_ushrL (v5_27 w5_state) (27 : Int32))) * (-7723592293110705685 : Int64)))])) _
    show Steps p.tables e below (T8.setTop (mkF m 38 #[.val (.ref a5_0), .val (.long (v5_27 w5_state)), .second] [(.long (v5_38 w5_state))])) _
    refine XS.lstoreN X8.here hx rfl (hb hby d5_38) rfl (l' := #[.val (.ref a5_0), .val (.long (v5_38 w5_state)), .second]) rfl ?_
    show Steps p.tables e below (T8.setTop (mkF m 39 #[.val (.ref a5_0), .val (.long (v5_38 w5_state)), .second] [])) _
    refine XS.lloadN X8.here hx rfl (hb hby d5_39) rfl ?_
    show Steps p.tables e below (T8.setTop (mkF m 40 #[.val (.ref a5_0), .val (.long (v5_38 w5_state)), .second] [(.long (v5_38 w5_state))])) _
    refine XS.lloadN X8.here hx rfl (hb hby d5_40) rfl ?_
    show Steps p.tables e below (T8.setTop (mkF m 41 #[.val (.ref a5_0), .val (.long (v5_38 w5_state)), .second] [(.long (v5_38 w5_state)), (.long (v5_38 w5_state))])) _
    refine XS.bipush X8.here hx rfl (hb hby d5_41) ?_
    show Steps p.tables e below (T8.setTop (mkF m 43 #[.val (.ref a5_0), .val (.long (v5_38 w5_state)), .second] [(.int (31 : Int32)), (.long (v5_38 w5_state)), (.long (v5_38 w5_state))])) _
    refine XS.lushr X8.here hx rfl (hb hby d5_43) rfl ?_
    show Steps p.tables e below (T8.setTop (mkF m 44 #[.val (.ref a5_0), .val (.long (v5_38 w5_state)), .second] [(.long (own_ushrL (v5_38 w5_state) (31 : Int32))), (.long (v5_38 w5_state))])) _
    refine XS.lxor X8.here hx rfl (hb hby d5_44) rfl ?_
    show Steps p.tables e below (T8.setTop (mkF m 45 #[.val (.ref a5_0), .val (.long (v5_38 w5_state)), .second] [(.long ((v5_38 w5_state) ^^^ (own_ushrL (v5_38 w5_state) (31 : Int32))))])) _
    exact k)
  obtain ⟨fs, hr, hrun, hended, hW, hsame⟩ := X8.leave (v := some (.long ((v5_38 w5_state) ^^^ (own_ushrL (v5_38 w5_state) (31 : Int32))))) (fun h => by rw [Bd.returns] at h; cases h) Bd.notSynchronized
  refine ⟨_, _, pre9 _ ?_, hrun, hended, _, _, rfl, ?_, ⟨_, rfl⟩, hW, hsame.mono (by decide) (by decide)⟩
  · show Steps p.tables e below (T8.setTop (mkF m 45 #[.val (.ref a5_0), .val (.long (v5_38 w5_state)), .second] [(.long ((v5_38 w5_state) ^^^ (own_ushrL (v5_38 w5_state) (31 : Int32))))])) _
    exact own_retJ X8 hx Bd.returns (hb hby d5_45) hr
  · show Q5 Z a5_0 w5_state h0 n0 _ T8.heap _
    rw [e8]
    exact ⟨rfl, N4, K4, F6⟩
abbrev R4 : Room := { frames := 1, cells := 0, slots := 0, locals := 14 }
def own_dr (w : Int64) : Int64 := (own_ushrL (r5 w) (32 : Int32))
theorem pd_0 : parseMethodDescriptor "()J" = some ⟨[], some .long⟩ := by decide +kernel
theorem d4_29 : decode prog_3_method_3_code 29 = .ok (.aload_n 0, 1) := by decide +kernel
theorem d4_30 : decode prog_3_method_3_code 30 = .ok (.invokevirtual 30, 3) := by decide +kernel
theorem d4_33 : decode prog_3_method_3_code 33 = .ok (.bipush 32, 2) := by decide +kernel
theorem d4_35 : decode prog_3_method_3_code 35 = .ok (.lushr, 1) := by decide +kernel
theorem d4_36 : decode prog_3_method_3_code 36 = .ok (.lstore 4, 2) := by decide +kernel
theorem d4_38 : decode prog_3_method_3_code 38 = .ok (.lload 4, 2) := by decide +kernel
theorem d4_40 : decode prog_3_method_3_code 40 = .ok (.lload_n 2, 1) := by decide +kernel
theorem d4_41 : decode prog_3_method_3_code 41 = .ok (.lcmp, 1) := by decide +kernel
theorem d4_42 : decode prog_3_method_3_code 42 = .ok (.ifCond .ge (-13), 3) := by decide +kernel
set_option maxRecDepth 65536 in
set_option maxHeartbeats 40000000 in
theorem tnA_go {p : Program} {l : Launch} {e : Env} {s : State} {m : MethodId} {args : Array Value} {below : List Frame} {meth : Method} {c : Code} {T0 : State} {locs : List Loc} {Z : State} {a0 : Array Value} {h0 : Heap} {n0 : Nat} (ao : Addr) (pb : Int32) (lim : Int64) (w : Int64) (dr : Int64)
    (X0 : Stand p l e R4 s m args below meth c T0 locs 0 0) (hx : p.tables.exec = Jvm.exec) (hZ : Z.Warmed39 s.vm) (hw : ∀ d ∈ tables_1, d.before a0 Z = true) (hby : c.code = prog_3_method_3_code) (hml : c.maxLocals = 6) (hown : s.vm.findClass "com/example/consigliere/consigliere/engine/Rng" = some m.cls) (e0 : T0.heap = h0) (N0 : Fr n0 locs) (Z0 : n0 ≤ h0.size) (g_ao : n0 ≤ ao) (hE : Exa Z h0 ao "com/example/consigliere/consigliere/engine/Rng") (hF : Fld Z h0 ao "com/example/consigliere/consigliere/engine/Rng" "state" "J" (.long w)) (hrej : ¬ (own_dr w) < lim) :
    ∃ (T' : State) (L' : List Loc) (h' : Heap), Stand p l e R4 s m args below meth c T' L' 0 0 ∧ T'.heap = h' ∧ Fr n0 L' ∧ n0 ≤ h'.size ∧ Keep h0 h' [ao] ∧ Exa Z h' ao "com/example/consigliere/consigliere/engine/Rng" ∧ Fld Z h' ao "com/example/consigliere/consigliere/engine/Rng" "state" "J" (.long (v5_9 w)) ∧ ∀ t, Steps p.tables e below (T'.setTop (mkF m 29 #[.val (.ref ao), .val (.int pb), .val (.long lim), .second, .val (.long (own_dr w)), .second] [])) t → Steps p.tables e below (T0.setTop (mkF m 29 #[.val (.ref ao), .val (.int pb), .val (.long lim), .second, .unset, .unset] [])) t := by
  have pre0 : ∀ t, Steps p.tables e below (T0.setTop (mkF m 29 #[.val (.ref ao), .val (.int pb), .val (.long lim), .second, .unset, .unset] [])) t → Steps p.tables e below (T0.setTop (mkF m 29 #[.val (.ref ao), .val (.int pb), .val (.long lim), .second, .unset, .unset] [])) t := fun t k => k
  have pre1 : ∀ t, Steps p.tables e below (T0.setTop (mkF m 30 #[.val (.ref ao), .val (.int pb), .val (.long lim), .second, .unset, .unset] [(.ref ao)])) t → Steps p.tables e below (T0.setTop (mkF m 29 #[.val (.ref ao), .val (.int pb), .val (.long lim), .second, .unset, .unset] [])) t := fun t k => pre0 t (by
    refine XS.aloadN X0.here hx rfl (hb hby d4_29) rfl rfl ?_
    show Steps p.tables e below (T0.setTop (mkF m 30 #[.val (.ref ao), .val (.int pb), .val (.long lim), .second, .unset, .unset] [(.ref ao)])) _
    exact k)
  obtain ⟨cq2, kq2, qa2, qb2, qc2⟩ := isOf hZ e0 hE
  obtain ⟨_, _, ⟨T2, L2, k2, n2⟩, -, X2, ⟨Lc2, hQ2, l2, y2, z2⟩, st2⟩ := X0.virtualBack hx (y := (⟨"com/example/consigliere/consigliere/engine/Rng", "nextLong", "()J"⟩ : MethodName)) (z := (⟨"com/example/consigliere/consigliere/engine/Rng", "nextLong", "()J"⟩ : MethodName)) hown (mvT hZ (hw _ (List.mem_of_getElem? (i := 24) rfl))) (mvT hZ (hw _ (List.mem_of_getElem? (i := 25) rfl))) (notFace_of_selects (args := #[]) (mvT hZ (hw _ (List.mem_of_getElem? (i := 27) rfl)))) (mvT hZ (hw _ (List.mem_of_getElem? (i := 27) rfl))) (mvT hZ (hw _ (List.mem_of_getElem? (i := 26) rfl))) (by decide) (backOf (W := 0) (rm5 l Z a0 hw [] ao w h0 n0 Z0 hE hF g_ao) hZ (hw _ (List.mem_of_getElem? (i := 28) rfl)) (hw _ (List.mem_of_getElem? (i := 4) rfl)) (by decide) (by decide)) qa2 qc2 (g := (mkF m 30 #[.val (.ref ao), .val (.int pb), .val (.long lim), .second, .unset, .unset] [(.ref ao)])) rfl (by rw [hml]; rfl) (Steps.refl _) (argsL := []) (rest := []) (lenOf pd_0 rfl) rfl (by show 2 * 0 + _ ≤ _; exact Nat.le_of_eq rfl) (hb hby d4_30) (fun _ _ => ⟨rfl, e0, (by decide : 0 + 0 ≤ _), (by decide : 0 + 0 ≤ _)⟩)
  dsimp only [Pt.U, Pt.locs, Pt.cells, Pt.slots] at X2 l2 y2 z2 st2 hQ2
  rw [l2, y2, z2] at X2
  obtain ⟨rfl, M2, K2c, P2_0⟩ := hQ2
  have N2 := Fr.app N0 M2
  have K2 : Keep h0 T2.heap [ao] := K2c
  have Z2 : n0 ≤ T2.heap.size := Nat.le_trans Z0 K2.1
  have Ex3 : Exa Z T2.heap ao "com/example/consigliere/consigliere/engine/Rng" := hE.keep K2
  have F4 : Fld Z T2.heap ao "com/example/consigliere/consigliere/engine/Rng" "state" "J" (.long (v5_9 w)) := P2_0
  have KK2 : Keep h0 T2.heap [ao] := (Keep.refl h0 [ao]).trans K2 (allS (Or.inl (by simp)) all0)
  replace X2 : Stand p l e R4 s m args below meth c T2 _ 0 0 := X2
  have pre2 : ∀ t, Steps p.tables e below (T2.setTop (mkF m 33 #[.val (.ref ao), .val (.int pb), .val (.long lim), .second, .unset, .unset] [(.long (r5 w))])) t → Steps p.tables e below (T0.setTop (mkF m 29 #[.val (.ref ao), .val (.int pb), .val (.long lim), .second, .unset, .unset] [])) t := fun t k => pre1 t (st2.trans k)
  have pre6 : ∀ t, Steps p.tables e below (T2.setTop (mkF m 29 #[.val (.ref ao), .val (.int pb), .val (.long lim), .second, .val (.long (own_dr w)), .second] [])) t → Steps p.tables e below (T0.setTop (mkF m 29 #[.val (.ref ao), .val (.int pb), .val (.long lim), .second, .unset, .unset] [])) t := fun t k => pre2 t (by
    refine XS.bipush X2.here hx rfl (hb hby d4_33) ?_
    show Steps p.tables e below (T2.setTop (mkF m 35 #[.val (.ref ao), .val (.int pb), .val (.long lim), .second, .unset, .unset] [(.int (32 : Int32)), (.long (r5 w))])) _
    refine XS.lushr X2.here hx rfl (hb hby d4_35) rfl ?_
    show Steps p.tables e below (T2.setTop (mkF m 36 #[.val (.ref ao), .val (.int pb), .val (.long lim), .second, .unset, .unset] [(.long (own_ushrL (r5 w) (32 : Int32)))])) _
    show Steps p.tables e below (T2.setTop (mkF m 36 #[.val (.ref ao), .val (.int pb), .val (.long lim), .second, .unset, .unset] [(.long (own_dr w))])) _
    refine XS.lstore X2.here hx rfl (hb hby d4_36) rfl (l' := #[.val (.ref ao), .val (.int pb), .val (.long lim), .second, .val (.long (own_dr w)), .second]) rfl ?_
    show Steps p.tables e below (T2.setTop (mkF m 38 #[.val (.ref ao), .val (.int pb), .val (.long lim), .second, .val (.long (own_dr w)), .second] [])) _
    refine XS.lload X2.here hx rfl (hb hby d4_38) rfl ?_
    show Steps p.tables e below (T2.setTop (mkF m 40 #[.val (.ref ao), .val (.int pb), .val (.long lim), .second, .val (.long (own_dr w)), .second] [(.long (own_dr w))])) _
    refine XS.lloadN X2.here hx rfl (hb hby d4_40) rfl ?_
    show Steps p.tables e below (T2.setTop (mkF m 41 #[.val (.ref ao), .val (.int pb), .val (.long lim), .second, .val (.long (own_dr w)), .second] [(.long lim), (.long (own_dr w))])) _
    refine XS.lcmp X2.here hx rfl (hb hby d4_41) rfl ?_
    show Steps p.tables e below (T2.setTop (mkF m 42 #[.val (.ref ao), .val (.int pb), .val (.long lim), .second, .val (.long (own_dr w)), .second] [(.int (lcmpW (own_dr w) lim))])) _
    refine XS.ifYes X2.here hx rfl (pc0 := 42) (pc' := 29) rfl (hb hby d4_42) rfl ((if0 _ _).trans (flt (fun q => (show ¬ ((own_dr w) < lim) from hrej) ((lw_lt (own_dr w) lim).mp q))).2.1) (by decide) (by decide) ?_
    show Steps p.tables e below (T2.setTop (mkF m 29 #[.val (.ref ao), .val (.int pb), .val (.long lim), .second, .val (.long (own_dr w)), .second] [])) _
    exact k)
  exact ⟨T2, _, _, X2, rfl, N2, Z2, KK2, Ex3, F4, pre6⟩
set_option maxRecDepth 65536 in
set_option maxHeartbeats 40000000 in
theorem tnA_out {p : Program} {l : Launch} {e : Env} {s : State} {m : MethodId} {args : Array Value} {below : List Frame} {meth : Method} {c : Code} {T0 : State} {locs : List Loc} {Z : State} {a0 : Array Value} {h0 : Heap} {n0 : Nat} (ao : Addr) (pb : Int32) (lim : Int64) (w : Int64) (dr : Int64)
    (X0 : Stand p l e R4 s m args below meth c T0 locs 0 0) (hx : p.tables.exec = Jvm.exec) (hZ : Z.Warmed39 s.vm) (hw : ∀ d ∈ tables_1, d.before a0 Z = true) (hby : c.code = prog_3_method_3_code) (hml : c.maxLocals = 6) (hown : s.vm.findClass "com/example/consigliere/consigliere/engine/Rng" = some m.cls) (e0 : T0.heap = h0) (N0 : Fr n0 locs) (Z0 : n0 ≤ h0.size) (g_ao : n0 ≤ ao) (hE : Exa Z h0 ao "com/example/consigliere/consigliere/engine/Rng") (hF : Fld Z h0 ao "com/example/consigliere/consigliere/engine/Rng" "state" "J" (.long w)) (hacc : (own_dr w) < lim) :
    ∃ (T' : State) (L' : List Loc) (h' : Heap), Stand p l e R4 s m args below meth c T' L' 0 0 ∧ T'.heap = h' ∧ Fr n0 L' ∧ n0 ≤ h'.size ∧ Keep h0 h' [ao] ∧ Exa Z h' ao "com/example/consigliere/consigliere/engine/Rng" ∧ Fld Z h' ao "com/example/consigliere/consigliere/engine/Rng" "state" "J" (.long (v5_9 w)) ∧ ∀ t, Steps p.tables e below (T'.setTop (mkF m 45 #[.val (.ref ao), .val (.int pb), .val (.long lim), .second, .val (.long (own_dr w)), .second] [])) t → Steps p.tables e below (T0.setTop (mkF m 29 #[.val (.ref ao), .val (.int pb), .val (.long lim), .second, .unset, .unset] [])) t := by
  have pre0 : ∀ t, Steps p.tables e below (T0.setTop (mkF m 29 #[.val (.ref ao), .val (.int pb), .val (.long lim), .second, .unset, .unset] [])) t → Steps p.tables e below (T0.setTop (mkF m 29 #[.val (.ref ao), .val (.int pb), .val (.long lim), .second, .unset, .unset] [])) t := fun t k => k
  have pre1 : ∀ t, Steps p.tables e below (T0.setTop (mkF m 30 #[.val (.ref ao), .val (.int pb), .val (.long lim), .second, .unset, .unset] [(.ref ao)])) t → Steps p.tables e below (T0.setTop (mkF m 29 #[.val (.ref ao), .val (.int pb), .val (.long lim), .second, .unset, .unset] [])) t := fun t k => pre0 t (by
    refine XS.aloadN X0.here hx rfl (hb hby d4_29) rfl rfl ?_
    show Steps p.tables e below (T0.setTop (mkF m 30 #[.val (.ref ao), .val (.int pb), .val (.long lim), .second, .unset, .unset] [(.ref ao)])) _
    exact k)
  obtain ⟨cq2, kq2, qa2, qb2, qc2⟩ := isOf hZ e0 hE
  obtain ⟨_, _, ⟨T2, L2, k2, n2⟩, -, X2, ⟨Lc2, hQ2, l2, y2, z2⟩, st2⟩ := X0.virtualBack hx (y := (⟨"com/example/consigliere/consigliere/engine/Rng", "nextLong", "()J"⟩ : MethodName)) (z := (⟨"com/example/consigliere/consigliere/engine/Rng", "nextLong", "()J"⟩ : MethodName)) hown (mvT hZ (hw _ (List.mem_of_getElem? (i := 24) rfl))) (mvT hZ (hw _ (List.mem_of_getElem? (i := 25) rfl))) (notFace_of_selects (args := #[]) (mvT hZ (hw _ (List.mem_of_getElem? (i := 27) rfl)))) (mvT hZ (hw _ (List.mem_of_getElem? (i := 27) rfl))) (mvT hZ (hw _ (List.mem_of_getElem? (i := 26) rfl))) (by decide) (backOf (W := 0) (rm5 l Z a0 hw [] ao w h0 n0 Z0 hE hF g_ao) hZ (hw _ (List.mem_of_getElem? (i := 28) rfl)) (hw _ (List.mem_of_getElem? (i := 4) rfl)) (by decide) (by decide)) qa2 qc2 (g := (mkF m 30 #[.val (.ref ao), .val (.int pb), .val (.long lim), .second, .unset, .unset] [(.ref ao)])) rfl (by rw [hml]; rfl) (Steps.refl _) (argsL := []) (rest := []) (lenOf pd_0 rfl) rfl (by show 2 * 0 + _ ≤ _; exact Nat.le_of_eq rfl) (hb hby d4_30) (fun _ _ => ⟨rfl, e0, (by decide : 0 + 0 ≤ _), (by decide : 0 + 0 ≤ _)⟩)
  dsimp only [Pt.U, Pt.locs, Pt.cells, Pt.slots] at X2 l2 y2 z2 st2 hQ2
  rw [l2, y2, z2] at X2
  obtain ⟨rfl, M2, K2c, P2_0⟩ := hQ2
  have N2 := Fr.app N0 M2
  have K2 : Keep h0 T2.heap [ao] := K2c
  have Z2 : n0 ≤ T2.heap.size := Nat.le_trans Z0 K2.1
  have Ex3 : Exa Z T2.heap ao "com/example/consigliere/consigliere/engine/Rng" := hE.keep K2
  have F4 : Fld Z T2.heap ao "com/example/consigliere/consigliere/engine/Rng" "state" "J" (.long (v5_9 w)) := P2_0
  have KK2 : Keep h0 T2.heap [ao] := (Keep.refl h0 [ao]).trans K2 (allS (Or.inl (by simp)) all0)
  replace X2 : Stand p l e R4 s m args below meth c T2 _ 0 0 := X2
  have pre2 : ∀ t, Steps p.tables e below (T2.setTop (mkF m 33 #[.val (.ref ao), .val (.int pb), .val (.long lim), .second, .unset, .unset] [(.long (r5 w))])) t → Steps p.tables e below (T0.setTop (mkF m 29 #[.val (.ref ao), .val (.int pb), .val (.long lim), .second, .unset, .unset] [])) t := fun t k => pre1 t (st2.trans k)
  have pre6 : ∀ t, Steps p.tables e below (T2.setTop (mkF m 45 #[.val (.ref ao), .val (.int pb), .val (.long lim), .second, .val (.long (own_dr w)), .second] [])) t → Steps p.tables e below (T0.setTop (mkF m 29 #[.val (.ref ao), .val (.int pb), .val (.long lim), .second, .unset, .unset] [])) t := fun t k => pre2 t (by
    refine XS.bipush X2.here hx rfl (hb hby d4_33) ?_
    show Steps p.tables e below (T2.setTop (mkF m 35 #[.val (.ref ao), .val (.int pb), .val (.long lim), .second, .unset, .unset] [(.int (32 : Int32)), (.long (r5 w))])) _
    refine XS.lushr X2.here hx rfl (hb hby d4_35) rfl ?_
    show Steps p.tables e below (T2.setTop (mkF m 36 #[.val (.ref ao), .val (.int pb), .val (.long lim), .second, .unset, .unset] [(.long (own_ushrL (r5 w) (32 : Int32)))])) _
    show Steps p.tables e below (T2.setTop (mkF m 36 #[.val (.ref ao), .val (.int pb), .val (.long lim), .second, .unset, .unset] [(.long (own_dr w))])) _
    refine XS.lstore X2.here hx rfl (hb hby d4_36) rfl (l' := #[.val (.ref ao), .val (.int pb), .val (.long lim), .second, .val (.long (own_dr w)), .second]) rfl ?_
    show Steps p.tables e below (T2.setTop (mkF m 38 #[.val (.ref ao), .val (.int pb), .val (.long lim), .second, .val (.long (own_dr w)), .second] [])) _
    refine XS.lload X2.here hx rfl (hb hby d4_38) rfl ?_
    show Steps p.tables e below (T2.setTop (mkF m 40 #[.val (.ref ao), .val (.int pb), .val (.long lim), .second, .val (.long (own_dr w)), .second] [(.long (own_dr w))])) _
    refine XS.lloadN X2.here hx rfl (hb hby d4_40) rfl ?_
    show Steps p.tables e below (T2.setTop (mkF m 41 #[.val (.ref ao), .val (.int pb), .val (.long lim), .second, .val (.long (own_dr w)), .second] [(.long lim), (.long (own_dr w))])) _
    refine XS.lcmp X2.here hx rfl (hb hby d4_41) rfl ?_
    show Steps p.tables e below (T2.setTop (mkF m 42 #[.val (.ref ao), .val (.int pb), .val (.long lim), .second, .val (.long (own_dr w)), .second] [(.int (lcmpW (own_dr w) lim))])) _
    refine XS.ifNo X2.here hx rfl (hb hby d4_42) rfl ((if0 _ _).trans (tlt ((lw_lt (own_dr w) lim).mpr (show (own_dr w) < lim from hacc))).2.1) ?_
    show Steps p.tables e below (T2.setTop (mkF m 45 #[.val (.ref ao), .val (.int pb), .val (.long lim), .second, .val (.long (own_dr w)), .second] [])) _
    exact k)
  exact ⟨T2, _, _, X2, rfl, N2, Z2, KK2, Ex3, F4, pre6⟩
set_option maxRecDepth 65536 in
set_option maxHeartbeats 40000000 in
theorem tnB_go {p : Program} {l : Launch} {e : Env} {s : State} {m : MethodId} {args : Array Value} {below : List Frame} {meth : Method} {c : Code} {T0 : State} {locs : List Loc} {Z : State} {a0 : Array Value} {h0 : Heap} {n0 : Nat} (ao : Addr) (pb : Int32) (lim : Int64) (w : Int64) (dr : Int64)
    (X0 : Stand p l e R4 s m args below meth c T0 locs 0 0) (hx : p.tables.exec = Jvm.exec) (hZ : Z.Warmed39 s.vm) (hw : ∀ d ∈ tables_1, d.before a0 Z = true) (hby : c.code = prog_3_method_3_code) (hml : c.maxLocals = 6) (hown : s.vm.findClass "com/example/consigliere/consigliere/engine/Rng" = some m.cls) (e0 : T0.heap = h0) (N0 : Fr n0 locs) (Z0 : n0 ≤ h0.size) (g_ao : n0 ≤ ao) (hE : Exa Z h0 ao "com/example/consigliere/consigliere/engine/Rng") (hF : Fld Z h0 ao "com/example/consigliere/consigliere/engine/Rng" "state" "J" (.long w)) (hrej : ¬ (own_dr w) < lim) :
    ∃ (T' : State) (L' : List Loc) (h' : Heap), Stand p l e R4 s m args below meth c T' L' 0 0 ∧ T'.heap = h' ∧ Fr n0 L' ∧ n0 ≤ h'.size ∧ Keep h0 h' [ao] ∧ Exa Z h' ao "com/example/consigliere/consigliere/engine/Rng" ∧ Fld Z h' ao "com/example/consigliere/consigliere/engine/Rng" "state" "J" (.long (v5_9 w)) ∧ ∀ t, Steps p.tables e below (T'.setTop (mkF m 29 #[.val (.ref ao), .val (.int pb), .val (.long lim), .second, .val (.long (own_dr w)), .second] [])) t → Steps p.tables e below (T0.setTop (mkF m 29 #[.val (.ref ao), .val (.int pb), .val (.long lim), .second, .val (.long dr), .second] [])) t := by
  have pre0 : ∀ t, Steps p.tables e below (T0.setTop (mkF m 29 #[.val (.ref ao), .val (.int pb), .val (.long lim), .second, .val (.long dr), .second] [])) t → Steps p.tables e below (T0.setTop (mkF m 29 #[.val (.ref ao), .val (.int pb), .val (.long lim), .second, .val (.long dr), .second] [])) t := fun t k => k
  have pre1 : ∀ t, Steps p.tables e below (T0.setTop (mkF m 30 #[.val (.ref ao), .val (.int pb), .val (.long lim), .second, .val (.long dr), .second] [(.ref ao)])) t → Steps p.tables e below (T0.setTop (mkF m 29 #[.val (.ref ao), .val (.int pb), .val (.long lim), .second, .val (.long dr), .second] [])) t := fun t k => pre0 t (by
    refine XS.aloadN X0.here hx rfl (hb hby d4_29) rfl rfl ?_
    show Steps p.tables e below (T0.setTop (mkF m 30 #[.val (.ref ao), .val (.int pb), .val (.long lim), .second, .val (.long dr), .second] [(.ref ao)])) _
    exact k)
  obtain ⟨cq2, kq2, qa2, qb2, qc2⟩ := isOf hZ e0 hE
  obtain ⟨_, _, ⟨T2, L2, k2, n2⟩, -, X2, ⟨Lc2, hQ2, l2, y2, z2⟩, st2⟩ := X0.virtualBack hx (y := (⟨"com/example/consigliere/consigliere/engine/Rng", "nextLong", "()J"⟩ : MethodName)) (z := (⟨"com/example/consigliere/consigliere/engine/Rng", "nextLong", "()J"⟩ : MethodName)) hown (mvT hZ (hw _ (List.mem_of_getElem? (i := 24) rfl))) (mvT hZ (hw _ (List.mem_of_getElem? (i := 25) rfl))) (notFace_of_selects (args := #[]) (mvT hZ (hw _ (List.mem_of_getElem? (i := 27) rfl)))) (mvT hZ (hw _ (List.mem_of_getElem? (i := 27) rfl))) (mvT hZ (hw _ (List.mem_of_getElem? (i := 26) rfl))) (by decide) (backOf (W := 0) (rm5 l Z a0 hw [] ao w h0 n0 Z0 hE hF g_ao) hZ (hw _ (List.mem_of_getElem? (i := 28) rfl)) (hw _ (List.mem_of_getElem? (i := 4) rfl)) (by decide) (by decide)) qa2 qc2 (g := (mkF m 30 #[.val (.ref ao), .val (.int pb), .val (.long lim), .second, .val (.long dr), .second] [(.ref ao)])) rfl (by rw [hml]; rfl) (Steps.refl _) (argsL := []) (rest := []) (lenOf pd_0 rfl) rfl (by show 2 * 0 + _ ≤ _; exact Nat.le_of_eq rfl) (hb hby d4_30) (fun _ _ => ⟨rfl, e0, (by decide : 0 + 0 ≤ _), (by decide : 0 + 0 ≤ _)⟩)
  dsimp only [Pt.U, Pt.locs, Pt.cells, Pt.slots] at X2 l2 y2 z2 st2 hQ2
  rw [l2, y2, z2] at X2
  obtain ⟨rfl, M2, K2c, P2_0⟩ := hQ2
  have N2 := Fr.app N0 M2
  have K2 : Keep h0 T2.heap [ao] := K2c
  have Z2 : n0 ≤ T2.heap.size := Nat.le_trans Z0 K2.1
  have Ex3 : Exa Z T2.heap ao "com/example/consigliere/consigliere/engine/Rng" := hE.keep K2
  have F4 : Fld Z T2.heap ao "com/example/consigliere/consigliere/engine/Rng" "state" "J" (.long (v5_9 w)) := P2_0
  have KK2 : Keep h0 T2.heap [ao] := (Keep.refl h0 [ao]).trans K2 (allS (Or.inl (by simp)) all0)
  replace X2 : Stand p l e R4 s m args below meth c T2 _ 0 0 := X2
  have pre2 : ∀ t, Steps p.tables e below (T2.setTop (mkF m 33 #[.val (.ref ao), .val (.int pb), .val (.long lim), .second, .val (.long dr), .second] [(.long (r5 w))])) t → Steps p.tables e below (T0.setTop (mkF m 29 #[.val (.ref ao), .val (.int pb), .val (.long lim), .second, .val (.long dr), .second] [])) t := fun t k => pre1 t (st2.trans k)
  have pre6 : ∀ t, Steps p.tables e below (T2.setTop (mkF m 29 #[.val (.ref ao), .val (.int pb), .val (.long lim), .second, .val (.long (own_dr w)), .second] [])) t → Steps p.tables e below (T0.setTop (mkF m 29 #[.val (.ref ao), .val (.int pb), .val (.long lim), .second, .val (.long dr), .second] [])) t := fun t k => pre2 t (by
    refine XS.bipush X2.here hx rfl (hb hby d4_33) ?_
    show Steps p.tables e below (T2.setTop (mkF m 35 #[.val (.ref ao), .val (.int pb), .val (.long lim), .second, .val (.long dr), .second] [(.int (32 : Int32)), (.long (r5 w))])) _
    refine XS.lushr X2.here hx rfl (hb hby d4_35) rfl ?_
    show Steps p.tables e below (T2.setTop (mkF m 36 #[.val (.ref ao), .val (.int pb), .val (.long lim), .second, .val (.long dr), .second] [(.long (own_ushrL (r5 w) (32 : Int32)))])) _
    show Steps p.tables e below (T2.setTop (mkF m 36 #[.val (.ref ao), .val (.int pb), .val (.long lim), .second, .val (.long dr), .second] [(.long (own_dr w))])) _
    refine XS.lstore X2.here hx rfl (hb hby d4_36) rfl (l' := #[.val (.ref ao), .val (.int pb), .val (.long lim), .second, .val (.long (own_dr w)), .second]) rfl ?_
    show Steps p.tables e below (T2.setTop (mkF m 38 #[.val (.ref ao), .val (.int pb), .val (.long lim), .second, .val (.long (own_dr w)), .second] [])) _
    refine XS.lload X2.here hx rfl (hb hby d4_38) rfl ?_
    show Steps p.tables e below (T2.setTop (mkF m 40 #[.val (.ref ao), .val (.int pb), .val (.long lim), .second, .val (.long (own_dr w)), .second] [(.long (own_dr w))])) _
    refine XS.lloadN X2.here hx rfl (hb hby d4_40) rfl ?_
    show Steps p.tables e below (T2.setTop (mkF m 41 #[.val (.ref ao), .val (.int pb), .val (.long lim), .second, .val (.long (own_dr w)), .second] [(.long lim), (.long (own_dr w))])) _
    refine XS.lcmp X2.here hx rfl (hb hby d4_41) rfl ?_
    show Steps p.tables e below (T2.setTop (mkF m 42 #[.val (.ref ao), .val (.int pb), .val (.long lim), .second, .val (.long (own_dr w)), .second] [(.int (lcmpW (own_dr w) lim))])) _
    refine XS.ifYes X2.here hx rfl (pc0 := 42) (pc' := 29) rfl (hb hby d4_42) rfl ((if0 _ _).trans (flt (fun q => (show ¬ ((own_dr w) < lim) from hrej) ((lw_lt (own_dr w) lim).mp q))).2.1) (by decide) (by decide) ?_
    show Steps p.tables e below (T2.setTop (mkF m 29 #[.val (.ref ao), .val (.int pb), .val (.long lim), .second, .val (.long (own_dr w)), .second] [])) _
    exact k)
  exact ⟨T2, _, _, X2, rfl, N2, Z2, KK2, Ex3, F4, pre6⟩
set_option maxRecDepth 65536 in
set_option maxHeartbeats 40000000 in
theorem tnB_out {p : Program} {l : Launch} {e : Env} {s : State} {m : MethodId} {args : Array Value} {below : List Frame} {meth : Method} {c : Code} {T0 : State} {locs : List Loc} {Z : State} {a0 : Array Value} {h0 : Heap} {n0 : Nat} (ao : Addr) (pb : Int32) (lim : Int64) (w : Int64) (dr : Int64)
    (X0 : Stand p l e R4 s m args below meth c T0 locs 0 0) (hx : p.tables.exec = Jvm.exec) (hZ : Z.Warmed39 s.vm) (hw : ∀ d ∈ tables_1, d.before a0 Z = true) (hby : c.code = prog_3_method_3_code) (hml : c.maxLocals = 6) (hown : s.vm.findClass "com/example/consigliere/consigliere/engine/Rng" = some m.cls) (e0 : T0.heap = h0) (N0 : Fr n0 locs) (Z0 : n0 ≤ h0.size) (g_ao : n0 ≤ ao) (hE : Exa Z h0 ao "com/example/consigliere/consigliere/engine/Rng") (hF : Fld Z h0 ao "com/example/consigliere/consigliere/engine/Rng" "state" "J" (.long w)) (hacc : (own_dr w) < lim) :
    ∃ (T' : State) (L' : List Loc) (h' : Heap), Stand p l e R4 s m args below meth c T' L' 0 0 ∧ T'.heap = h' ∧ Fr n0 L' ∧ n0 ≤ h'.size ∧ Keep h0 h' [ao] ∧ Exa Z h' ao "com/example/consigliere/consigliere/engine/Rng" ∧ Fld Z h' ao "com/example/consigliere/consigliere/engine/Rng" "state" "J" (.long (v5_9 w)) ∧ ∀ t, Steps p.tables e below (T'.setTop (mkF m 45 #[.val (.ref ao), .val (.int pb), .val (.long lim), .second, .val (.long (own_dr w)), .second] [])) t → Steps p.tables e below (T0.setTop (mkF m 29 #[.val (.ref ao), .val (.int pb), .val (.long lim), .second, .val (.long dr), .second] [])) t := by
  have pre0 : ∀ t, Steps p.tables e below (T0.setTop (mkF m 29 #[.val (.ref ao), .val (.int pb), .val (.long lim), .second, .val (.long dr), .second] [])) t → Steps p.tables e below (T0.setTop (mkF m 29 #[.val (.ref ao), .val (.int pb), .val (.long lim), .second, .val (.long dr), .second] [])) t := fun t k => k
  have pre1 : ∀ t, Steps p.tables e below (T0.setTop (mkF m 30 #[.val (.ref ao), .val (.int pb), .val (.long lim), .second, .val (.long dr), .second] [(.ref ao)])) t → Steps p.tables e below (T0.setTop (mkF m 29 #[.val (.ref ao), .val (.int pb), .val (.long lim), .second, .val (.long dr), .second] [])) t := fun t k => pre0 t (by
    refine XS.aloadN X0.here hx rfl (hb hby d4_29) rfl rfl ?_
    show Steps p.tables e below (T0.setTop (mkF m 30 #[.val (.ref ao), .val (.int pb), .val (.long lim), .second, .val (.long dr), .second] [(.ref ao)])) _
    exact k)
  obtain ⟨cq2, kq2, qa2, qb2, qc2⟩ := isOf hZ e0 hE
  obtain ⟨_, _, ⟨T2, L2, k2, n2⟩, -, X2, ⟨Lc2, hQ2, l2, y2, z2⟩, st2⟩ := X0.virtualBack hx (y := (⟨"com/example/consigliere/consigliere/engine/Rng", "nextLong", "()J"⟩ : MethodName)) (z := (⟨"com/example/consigliere/consigliere/engine/Rng", "nextLong", "()J"⟩ : MethodName)) hown (mvT hZ (hw _ (List.mem_of_getElem? (i := 24) rfl))) (mvT hZ (hw _ (List.mem_of_getElem? (i := 25) rfl))) (notFace_of_selects (args := #[]) (mvT hZ (hw _ (List.mem_of_getElem? (i := 27) rfl)))) (mvT hZ (hw _ (List.mem_of_getElem? (i := 27) rfl))) (mvT hZ (hw _ (List.mem_of_getElem? (i := 26) rfl))) (by decide) (backOf (W := 0) (rm5 l Z a0 hw [] ao w h0 n0 Z0 hE hF g_ao) hZ (hw _ (List.mem_of_getElem? (i := 28) rfl)) (hw _ (List.mem_of_getElem? (i := 4) rfl)) (by decide) (by decide)) qa2 qc2 (g := (mkF m 30 #[.val (.ref ao), .val (.int pb), .val (.long lim), .second, .val (.long dr), .second] [(.ref ao)])) rfl (by rw [hml]; rfl) (Steps.refl _) (argsL := []) (rest := []) (lenOf pd_0 rfl) rfl (by show 2 * 0 + _ ≤ _; exact Nat.le_of_eq rfl) (hb hby d4_30) (fun _ _ => ⟨rfl, e0, (by decide : 0 + 0 ≤ _), (by decide : 0 + 0 ≤ _)⟩)
  dsimp only [Pt.U, Pt.locs, Pt.cells, Pt.slots] at X2 l2 y2 z2 st2 hQ2
  rw [l2, y2, z2] at X2
  obtain ⟨rfl, M2, K2c, P2_0⟩ := hQ2
  have N2 := Fr.app N0 M2
  have K2 : Keep h0 T2.heap [ao] := K2c
  have Z2 : n0 ≤ T2.heap.size := Nat.le_trans Z0 K2.1
  have Ex3 : Exa Z T2.heap ao "com/example/consigliere/consigliere/engine/Rng" := hE.keep K2
  have F4 : Fld Z T2.heap ao "com/example/consigliere/consigliere/engine/Rng" "state" "J" (.long (v5_9 w)) := P2_0
  have KK2 : Keep h0 T2.heap [ao] := (Keep.refl h0 [ao]).trans K2 (allS (Or.inl (by simp)) all0)
  replace X2 : Stand p l e R4 s m args below meth c T2 _ 0 0 := X2
  have pre2 : ∀ t, Steps p.tables e below (T2.setTop (mkF m 33 #[.val (.ref ao), .val (.int pb), .val (.long lim), .second, .val (.long dr), .second] [(.long (r5 w))])) t → Steps p.tables e below (T0.setTop (mkF m 29 #[.val (.ref ao), .val (.int pb), .val (.long lim), .second, .val (.long dr), .second] [])) t := fun t k => pre1 t (st2.trans k)
  have pre6 : ∀ t, Steps p.tables e below (T2.setTop (mkF m 45 #[.val (.ref ao), .val (.int pb), .val (.long lim), .second, .val (.long (own_dr w)), .second] [])) t → Steps p.tables e below (T0.setTop (mkF m 29 #[.val (.ref ao), .val (.int pb), .val (.long lim), .second, .val (.long dr), .second] [])) t := fun t k => pre2 t (by
    refine XS.bipush X2.here hx rfl (hb hby d4_33) ?_
    show Steps p.tables e below (T2.setTop (mkF m 35 #[.val (.ref ao), .val (.int pb), .val (.long lim), .second, .val (.long dr), .second] [(.int (32 : Int32)), (.long (r5 w))])) _
    refine XS.lushr X2.here hx rfl (hb hby d4_35) rfl ?_
    show Steps p.tables e below (T2.setTop (mkF m 36 #[.val (.ref ao), .val (.int pb), .val (.long lim), .second, .val (.long dr), .second] [(.long (own_ushrL (r5 w) (32 : Int32)))])) _
    show Steps p.tables e below (T2.setTop (mkF m 36 #[.val (.ref ao), .val (.int pb), .val (.long lim), .second, .val (.long dr), .second] [(.long (own_dr w))])) _
    refine XS.lstore X2.here hx rfl (hb hby d4_36) rfl (l' := #[.val (.ref ao), .val (.int pb), .val (.long lim), .second, .val (.long (own_dr w)), .second]) rfl ?_
    show Steps p.tables e below (T2.setTop (mkF m 38 #[.val (.ref ao), .val (.int pb), .val (.long lim), .second, .val (.long (own_dr w)), .second] [])) _
    refine XS.lload X2.here hx rfl (hb hby d4_38) rfl ?_
    show Steps p.tables e below (T2.setTop (mkF m 40 #[.val (.ref ao), .val (.int pb), .val (.long lim), .second, .val (.long (own_dr w)), .second] [(.long (own_dr w))])) _
    refine XS.lloadN X2.here hx rfl (hb hby d4_40) rfl ?_
    show Steps p.tables e below (T2.setTop (mkF m 41 #[.val (.ref ao), .val (.int pb), .val (.long lim), .second, .val (.long (own_dr w)), .second] [(.long lim), (.long (own_dr w))])) _
    refine XS.lcmp X2.here hx rfl (hb hby d4_41) rfl ?_
    show Steps p.tables e below (T2.setTop (mkF m 42 #[.val (.ref ao), .val (.int pb), .val (.long lim), .second, .val (.long (own_dr w)), .second] [(.int (lcmpW (own_dr w) lim))])) _
    refine XS.ifNo X2.here hx rfl (hb hby d4_42) rfl ((if0 _ _).trans (tlt ((lw_lt (own_dr w) lim).mpr (show (own_dr w) < lim from hacc))).2.1) ?_
    show Steps p.tables e below (T2.setTop (mkF m 45 #[.val (.ref ao), .val (.int pb), .val (.long lim), .second, .val (.long (own_dr w)), .second] [])) _
    exact k)
  exact ⟨T2, _, _, X2, rfl, N2, Z2, KK2, Ex3, F4, pre6⟩
def own_itG (f : Int64 → Int64) : Nat → Int64 → Int64
  | 0, w => w
  | k + 1, w => own_itG f k (f w)
theorem own_itG_s (f : Int64 → Int64) (k : Nat) (w : Int64) : own_itG f (k + 1) w = own_itG f k (f w) := rfl
def own_it (k : Nat) (w : Int64) : Int64 := own_itG v5_9 k w
theorem own_it_zero (w : Int64) : own_it 0 w = w := rfl
theorem own_it_succ (k : Nat) (w : Int64) : own_it (k + 1) w = own_it k (v5_9 w) := own_itG_s v5_9 k w
def own_lim (b : Int32) : Int64 := (4294967296 : Int64) - (own_remL (4294967296 : Int64) (b.toInt64))
theorem own_nzb {b : Int32} (hb : (0 : Int32) < b) : b.toInt64 ≠ 0 := fun h => by
  have q : b.toInt64.toInt = 0 := by rw [h]; rfl
  rw [Jvm.Kit.i64_of_i32] at q
  rw [Int32.lt_iff_toInt_lt, show (0 : Int32).toInt = 0 from rfl] at hb
  omega
set_option maxRecDepth 65536 in
set_option maxHeartbeats 4000000 in
theorem loopB {p : Program} {l : Launch} {e : Env} {s : State} {m : MethodId} {args : Array Value} {below : List Frame} {meth : Method} {c : Code} {Z : State} {a0 : Array Value} {n0 : Nat} (hx : p.tables.exec = Jvm.exec) (hZ : Z.Warmed39 s.vm) (hw : ∀ d ∈ tables_1, d.before a0 Z = true) (hby : c.code = prog_3_method_3_code) (hml : c.maxLocals = 6) (hown : s.vm.findClass "com/example/consigliere/consigliere/engine/Rng" = some m.cls)
    (ao : Addr) (pb : Int32) (lim : Int64) (g_ao : n0 ≤ ao) :
    ∀ (j : Nat) (w dr : Int64) {T0 : State} {locs : List Loc} {h0 : Heap}, (∀ i, i < j → ¬ (own_dr (own_it i w)) < lim) → (own_dr (own_it j w)) < lim → Stand p l e R4 s m args below meth c T0 locs 0 0 → T0.heap = h0 → Fr n0 locs → n0 ≤ h0.size →
      Exa Z h0 ao "com/example/consigliere/consigliere/engine/Rng" → Fld Z h0 ao "com/example/consigliere/consigliere/engine/Rng" "state" "J" (.long w) →
      ∃ (T' : State) (L' : List Loc) (h' : Heap), Stand p l e R4 s m args below meth c T' L' 0 0 ∧ T'.heap = h' ∧ Fr n0 L' ∧ n0 ≤ h'.size ∧ Keep h0 h' [ao] ∧ Exa Z h' ao "com/example/consigliere/consigliere/engine/Rng" ∧ Fld Z h' ao "com/example/consigliere/consigliere/engine/Rng" "state" "J" (.long (own_it (j + 1) w)) ∧
        ∀ t, Steps p.tables e below (T'.setTop (mkF m 45 #[.val (.ref ao), .val (.int pb), .val (.long lim), .second, .val (.long (own_dr (own_it j w))), .second] [])) t → Steps p.tables e below (T0.setTop (mkF m 29 #[.val (.ref ao), .val (.int pb), .val (.long lim), .second, .val (.long dr), .second] [])) t := by
  intro j
  induction j with
  | zero =>
    intro w dr T0 locs h0 hrej hacc X0 e0 N0 Z0 hE hF
    rw [own_it_zero] at hacc
    rw [own_it_succ, own_it_zero, own_it_zero]
    obtain ⟨T1, L1, h1, X1, e1, N1, Z1, K1, E1, F1, st1⟩ := tnB_out ao pb lim w dr X0 hx hZ hw hby hml hown e0 N0 Z0 g_ao hE hF hacc
    exact ⟨T1, L1, h1, X1, e1, N1, Z1, K1, E1, F1, st1⟩
  | succ j ih =>
    intro w dr T0 locs h0 hrej hacc X0 e0 N0 Z0 hE hF
    have hr0 := hrej 0 (Nat.succ_pos j)
    rw [own_it_zero] at hr0
    rw [own_it_succ] at hacc
    rw [own_it_succ (j + 1) w, own_it_succ j w]
    obtain ⟨T1, L1, h1, X1, e1, N1, Z1, K1, E1, F1, st1⟩ := tnB_go ao pb lim w dr X0 hx hZ hw hby hml hown e0 N0 Z0 g_ao hE hF hr0
    obtain ⟨T2, L2, h2, X2, e2, N2, Z2, K2, E2, F2, st2⟩ := ih (v5_9 w) (own_dr w) (fun i hi => by have q := hrej (i + 1) (Nat.succ_lt_succ hi); rw [own_it_succ] at q; exact q) hacc X1 e1 N1 Z1 E1 F1
    exact ⟨T2, L2, h2, X2, e2, N2, Z2, K1.trans K2 (fun x q => Or.inl q), E2, F2, fun t k => st1 t (st2 t k)⟩
set_option maxRecDepth 65536 in
set_option maxHeartbeats 4000000 in
theorem loop_next {p : Program} {l : Launch} {e : Env} {s : State} {m : MethodId} {args : Array Value} {below : List Frame} {meth : Method} {c : Code} {Z : State} {a0 : Array Value} {n0 : Nat} {T0 : State} {locs : List Loc} {h0 : Heap} (hx : p.tables.exec = Jvm.exec) (hZ : Z.Warmed39 s.vm) (hw : ∀ d ∈ tables_1, d.before a0 Z = true) (hby : c.code = prog_3_method_3_code) (hml : c.maxLocals = 6) (hown : s.vm.findClass "com/example/consigliere/consigliere/engine/Rng" = some m.cls)
    (ao : Addr) (pb : Int32) (lim : Int64) (j : Nat) (w : Int64) (hrej : ∀ i, i < j → ¬ (own_dr (own_it i w)) < lim) (hacc : (own_dr (own_it j w)) < lim) (X0 : Stand p l e R4 s m args below meth c T0 locs 0 0) (e0 : T0.heap = h0) (N0 : Fr n0 locs) (Z0 : n0 ≤ h0.size) (g_ao : n0 ≤ ao)
    (hE : Exa Z h0 ao "com/example/consigliere/consigliere/engine/Rng") (hF : Fld Z h0 ao "com/example/consigliere/consigliere/engine/Rng" "state" "J" (.long w)) :
      ∃ (T' : State) (L' : List Loc) (h' : Heap), Stand p l e R4 s m args below meth c T' L' 0 0 ∧ T'.heap = h' ∧ Fr n0 L' ∧ n0 ≤ h'.size ∧ Keep h0 h' [ao] ∧ Exa Z h' ao "com/example/consigliere/consigliere/engine/Rng" ∧ Fld Z h' ao "com/example/consigliere/consigliere/engine/Rng" "state" "J" (.long (own_it (j + 1) w)) ∧
        ∀ t, Steps p.tables e below (T'.setTop (mkF m 45 #[.val (.ref ao), .val (.int pb), .val (.long lim), .second, .val (.long (own_dr (own_it j w))), .second] [])) t → Steps p.tables e below (T0.setTop (mkF m 29 #[.val (.ref ao), .val (.int pb), .val (.long lim), .second, .unset, .unset] [])) t := by
  cases j with
  | zero =>
    rw [own_it_zero] at hacc
    rw [own_it_succ, own_it_zero, own_it_zero]
    obtain ⟨T1, L1, h1, X1, e1, N1, Z1, K1, E1, F1, st1⟩ := tnA_out ao pb lim w 0 X0 hx hZ hw hby hml hown e0 N0 Z0 g_ao hE hF hacc
    exact ⟨T1, L1, h1, X1, e1, N1, Z1, K1, E1, F1, st1⟩
  | succ j =>
    have hr0 := hrej 0 (Nat.succ_pos j)
    rw [own_it_zero] at hr0
    rw [own_it_succ] at hacc
    rw [own_it_succ (j + 1) w, own_it_succ j w]
    obtain ⟨T1, L1, h1, X1, e1, N1, Z1, K1, E1, F1, st1⟩ := tnA_go ao pb lim w 0 X0 hx hZ hw hby hml hown e0 N0 Z0 g_ao hE hF hr0
    obtain ⟨T2, L2, h2, X2, e2, N2, Z2, K2, E2, F2, st2⟩ := loopB hx hZ hw hby hml hown ao pb lim g_ao j (v5_9 w) (own_dr w) (fun i hi => by have q := hrej (i + 1) (Nat.succ_lt_succ hi); rw [own_it_succ] at q; exact q) hacc X1 e1 N1 Z1 E1 F1
    exact ⟨T2, L2, h2, X2, e2, N2, Z2, K1.trans K2 (fun x q => Or.inl q), E2, F2, fun t k => st1 t (st2 t k)⟩

theorem d4_0 : decode prog_3_method_3_code 0 = .ok (.iload_n 1, 1) := by decide +kernel
theorem d4_1 : decode prog_3_method_3_code 1 = .ok (.ifCond .gt 17, 3) := by decide +kernel
theorem d4_18 : decode prog_3_method_3_code 18 = .ok (.ldc2_w 28, 3) := by decide +kernel
theorem d4_21 : decode prog_3_method_3_code 21 = .ok (.ldc2_w 28, 3) := by decide +kernel
theorem d4_24 : decode prog_3_method_3_code 24 = .ok (.iload_n 1, 1) := by decide +kernel
theorem d4_25 : decode prog_3_method_3_code 25 = .ok (.i2l, 1) := by decide +kernel
theorem d4_26 : decode prog_3_method_3_code 26 = .ok (.lrem, 1) := by decide +kernel
theorem d4_27 : decode prog_3_method_3_code 27 = .ok (.lsub, 1) := by decide +kernel
theorem d4_28 : decode prog_3_method_3_code 28 = .ok (.lstore_n 2, 1) := by decide +kernel
theorem d4_45 : decode prog_3_method_3_code 45 = .ok (.lload 4, 2) := by decide +kernel
theorem d4_47 : decode prog_3_method_3_code 47 = .ok (.iload_n 1, 1) := by decide +kernel
theorem d4_48 : decode prog_3_method_3_code 48 = .ok (.i2l, 1) := by decide +kernel
theorem d4_49 : decode prog_3_method_3_code 49 = .ok (.lrem, 1) := by decide +kernel
theorem d4_50 : decode prog_3_method_3_code 50 = .ok (.l2i, 1) := by decide +kernel
theorem d4_51 : decode prog_3_method_3_code 51 = .ok (.ireturn, 1) := by decide +kernel
theorem ef_4 (m : MethodId) (x0 : Addr) (x1 : Int32) : entryFrame m #[(.ref x0), (.int x1)] 6 = mkF m 0 #[.val (.ref x0), .val (.int x1), .unset, .unset, .unset, .unset] [] := by first | (simp [entryFrame, mkF, argsToLocals, Value.category]; done) | rfl
def r4 (pb : Int32) (jj : Nat) (w4_state : Int64) : Int32 := (((own_remL (own_dr (own_it jj w4_state)) ((pb).toInt64))).toInt32)
def Q4 (Z : State) (ao : Addr) (pb : Int32) (jj : Nat) (w4_state : Int64) (h0 : Heap) (n0 : Nat) (v : Option Value) (h : Heap) (L : List Loc) : Prop := v = some (.int (r4 pb jj w4_state)) ∧ Fr n0 L ∧ Keep h0 h [ao] ∧ Fld Z h ao "com/example/consigliere/consigliere/engine/Rng" "state" "J" (.long (own_it (jj + 1) w4_state))
set_option maxRecDepth 65536 in
set_option maxHeartbeats 40000000 in
theorem rm4 (l : Launch) (Z : State) (a0 : Array Value) (hw : ∀ d ∈ tables_1, d.before a0 Z = true) (ws : List Jvm.Cond) (ao : Addr) (pb : Int32) (jj : Nat) (w4_state : Int64) (h0 : Heap) (n0 : Nat) (Z0 : n0 ≤ h0.size) (hbp : (0 : Int32) < pb) (hrej : ∀ i, i < jj → ¬ (own_dr (own_it i w4_state)) < (own_lim pb)) (hacc : (own_dr (own_it jj w4_state)) < (own_lim pb)) (E_ao : Exa Z h0 ao "com/example/consigliere/consigliere/engine/Rng") (F_state_ao : Fld Z h0 ao "com/example/consigliere/consigliere/engine/Rng" "state" "J" (.long w4_state)) (g_ao : n0 ≤ ao) :
    MetFree l (⟨"com/example/consigliere/consigliere/engine/Rng", "nextInt", "(I)I"⟩ : MethodName) (head1 (Jvm.Cond.code (⟨"com/example/consigliere/consigliere/engine/Rng", "nextInt", "(I)I"⟩ : MethodName) prog_3_method_3_code 6 (some .int) :: ws) R4) (fun a U => a = #[(.ref ao), (.int pb)] ∧ Z.Warmed39 U.vm ∧ U.heap = h0) (fun _ _ _ _ _ => True) (fun _ U o U' => ∃ v L, o = .returned v ∧ Q4 Z ao pb jj w4_state h0 n0 v U'.heap L ∧ FrameEnd U o U' L R4.cells R4.slots) := by
  refine MetFree.of_bodySF (plainFor_of_name pn_0) hisR ?_
  intro p e s m args below meth c s₁ Bd hml0 hP hK
  obtain ⟨rfl, hZ, hh⟩ := hP
  have hx := Bd.exec
  have hby := Bd.bytes
  have hml : c.maxLocals = 6 := hml0
  have hown : s.vm.findClass "com/example/consigliere/consigliere/engine/Rng" = some m.cls := findClass_of_methodNamed Bd.named
  have hnm := (name_of_methodNamed Bd.named Bd.method).1
  have X0 : Stand p l e R4 s m #[(.ref ao), (.int pb)] below meth c s₁ [] 0 0 := Stand.of_body Bd
  have e0 : s₁.heap = h0 := by rw [← hh, Bd.state]; rfl
  have N0 := Fr.nil n0
  have pre0 : ∀ t, Steps p.tables e below (s₁.setTop (mkF m 0 #[.val (.ref ao), .val (.int pb), .unset, .unset, .unset, .unset] [])) t → Steps p.tables e below (s₁.setTop (entryFrame m #[(.ref ao), (.int pb)] 6)) t := fun t k => castTop (ef_4 m ao pb) k
  have pre2 : ∀ t, Steps p.tables e below (s₁.setTop (mkF m 29 #[.val (.ref ao), .val (.int pb), .val (.long (own_lim pb)), .second, .unset, .unset] [])) t → Steps p.tables e below (s₁.setTop (entryFrame m #[(.ref ao), (.int pb)] 6)) t := fun t k => pre0 t (by
    refine XS.iloadN X0.here hx rfl (hb hby d4_0) rfl ?_
    show Steps p.tables e below (s₁.setTop (mkF m 1 #[.val (.ref ao), .val (.int pb), .unset, .unset, .unset, .unset] [(.int pb)])) _
    refine XS.ifYes X0.here hx rfl (pc0 := 1) (pc' := 18) rfl (hb hby d4_1) rfl ((if0 _ _).trans (tlt (show (0 : Int32) < pb from hbp)).2.2.1) (by decide) (by decide) ?_
    show Steps p.tables e below (s₁.setTop (mkF m 18 #[.val (.ref ao), .val (.int pb), .unset, .unset, .unset, .unset] [])) _
    refine X0.ldc2Long hx hown (mvT hZ (hw _ (List.mem_of_getElem? (i := 23) rfl))) (g := (mkF m 18 #[.val (.ref ao), .val (.int pb), .unset, .unset, .unset, .unset] [])) rfl (hb hby d4_18) _ ?_
    show Steps p.tables e below (s₁.setTop (mkF m 21 #[.val (.ref ao), .val (.int pb), .unset, .unset, .unset, .unset] [(.long (4294967296 : Int64))])) _
    refine X0.ldc2Long hx hown (mvT hZ (hw _ (List.mem_of_getElem? (i := 23) rfl))) (g := (mkF m 21 #[.val (.ref ao), .val (.int pb), .unset, .unset, .unset, .unset] [(.long (4294967296 : Int64))])) rfl (hb hby d4_21) _ ?_
    show Steps p.tables e below (s₁.setTop (mkF m 24 #[.val (.ref ao), .val (.int pb), .unset, .unset, .unset, .unset] [(.long (4294967296 : Int64)), (.long (4294967296 : Int64))])) _
    refine XS.iloadN X0.here hx rfl (hb hby d4_24) rfl ?_
    show Steps p.tables e below (s₁.setTop (mkF m 25 #[.val (.ref ao), .val (.int pb), .unset, .unset, .unset, .unset] [(.int pb), (.long (4294967296 : Int64)), (.long (4294967296 : Int64))])) _
    refine XS.i2l X0.here hx rfl (hb hby d4_25) rfl ?_
    show Steps p.tables e below (s₁.setTop (mkF m 26 #[.val (.ref ao), .val (.int pb), .unset, .unset, .unset, .unset] [(.long ((pb).toInt64)), (.long (4294967296 : Int64)), (.long (4294967296 : Int64))])) _
    refine XS.lrem X0.here hx rfl (hb hby d4_26) rfl (own_nzb hbp) ?_
    show Steps p.tables e below (s₁.setTop (mkF m 27 #[.val (.ref ao), .val (.int pb), .unset, .unset, .unset, .unset] [(.long (own_remL (4294967296 : Int64) ((pb).toInt64))), (.long (4294967296 : Int64))])) _
    refine XS.lsub X0.here hx rfl (hb hby d4_27) rfl ?_
    show Steps p.tables e below (s₁.setTop (mkF m 28 #[.val (.ref ao), .val (.int pb), .unset, .unset, .unset, .unset] [(.long ((4294967296 : Int64) - (own_remL (4294967296 : Int64) ((pb).toInt64))))])) _
    show Steps p.tables e below (s₁.setTop (mkF m 28 #[.val (.ref ao), .val (.int pb), .unset, .unset, .unset, .unset] [(.long (own_lim pb))])) _
    refine XS.lstoreN X0.here hx rfl (hb hby d4_28) rfl (l' := #[.val (.ref ao), .val (.int pb), .val (.long (own_lim pb)), .second, .unset, .unset]) rfl ?_
    show Steps p.tables e below (s₁.setTop (mkF m 29 #[.val (.ref ao), .val (.int pb), .val (.long (own_lim pb)), .second, .unset, .unset] [])) _
    exact k)
  obtain ⟨T3, L3, h3, X3, e3, N3, Z3, K3, Ex3, F3, st3⟩ := loop_next (T0 := s₁) hx hZ hw hby hml hown ao pb (own_lim pb) jj w4_state hrej hacc X0 e0 N0 Z0 g_ao E_ao F_state_ao
  have pre3 : ∀ t, Steps p.tables e below (T3.setTop (mkF m 45 #[.val (.ref ao), .val (.int pb), .val (.long (own_lim pb)), .second, .val (.long (own_dr (own_it jj w4_state))), .second] [])) t → Steps p.tables e below (s₁.setTop (entryFrame m #[(.ref ao), (.int pb)] 6)) t := fun t k => pre2 t (st3 t k)
  have pre4 : ∀ t, Steps p.tables e below (T3.setTop (mkF m 51 #[.val (.ref ao), .val (.int pb), .val (.long (own_lim pb)), .second, .val (.long (own_dr (own_it jj w4_state))), .second] [(.int (((own_remL (own_dr (own_it jj w4_state)) ((pb).toInt64))).toInt32))])) t → Steps p.tables e below (s₁.setTop (entryFrame m #[(.ref ao), (.int pb)] 6)) t := fun t k => pre3 t (by
    refine XS.lload X3.here hx rfl (hb hby d4_45) rfl ?_
    show Steps p.tables e below (T3.setTop (mkF m 47 #[.val (.ref ao), .val (.int pb), .val (.long (own_lim pb)), .second, .val (.long (own_dr (own_it jj w4_state))), .second] [(.long (own_dr (own_it jj w4_state)))])) _
    refine XS.iloadN X3.here hx rfl (hb hby d4_47) rfl ?_
    show Steps p.tables e below (T3.setTop (mkF m 48 #[.val (.ref ao), .val (.int pb), .val (.long (own_lim pb)), .second, .val (.long (own_dr (own_it jj w4_state))), .second] [(.int pb), (.long (own_dr (own_it jj w4_state)))])) _
    refine XS.i2l X3.here hx rfl (hb hby d4_48) rfl ?_
    show Steps p.tables e below (T3.setTop (mkF m 49 #[.val (.ref ao), .val (.int pb), .val (.long (own_lim pb)), .second, .val (.long (own_dr (own_it jj w4_state))), .second] [(.long ((pb).toInt64)), (.long (own_dr (own_it jj w4_state)))])) _
    refine XS.lrem X3.here hx rfl (hb hby d4_49) rfl (own_nzb hbp) ?_
    show Steps p.tables e below (T3.setTop (mkF m 50 #[.val (.ref ao), .val (.int pb), .val (.long (own_lim pb)), .second, .val (.long (own_dr (own_it jj w4_state))), .second] [(.long (own_remL (own_dr (own_it jj w4_state)) ((pb).toInt64)))])) _
    refine XS.l2i X3.here hx rfl (hb hby d4_50) rfl ?_
    show Steps p.tables e below (T3.setTop (mkF m 51 #[.val (.ref ao), .val (.int pb), .val (.long (own_lim pb)), .second, .val (.long (own_dr (own_it jj w4_state))), .second] [(.int (((own_remL (own_dr (own_it jj w4_state)) ((pb).toInt64))).toInt32))])) _
    exact k)
  obtain ⟨fs, hr, hrun, hended, hW, hsame⟩ := X3.leave (v := some (.int (((own_remL (own_dr (own_it jj w4_state)) ((pb).toInt64))).toInt32))) (fun h => by rw [Bd.returns] at h; cases h) Bd.notSynchronized
  refine ⟨_, _, pre4 _ ?_, hrun, hended, _, _, rfl, ?_, ⟨_, rfl⟩, hW, hsame.mono (by decide) (by decide)⟩
  · show Steps p.tables e below (T3.setTop (mkF m 51 #[.val (.ref ao), .val (.int pb), .val (.long (own_lim pb)), .second, .val (.long (own_dr (own_it jj w4_state))), .second] [(.int (((own_remL (own_dr (own_it jj w4_state)) ((pb).toInt64))).toInt32))])) _
    exact retI X3 hx Bd.returns (hb hby d4_51) hr
  · show Q4 Z ao pb jj w4_state h0 n0 _ T3.heap _
    rw [e3]
    exact ⟨rfl, N3, K3, F3⟩
def own_good (JJ : Int64 → Int32 → Nat) : Prop := ∀ (w : Int64) (b : Int32), (0 : Int32) < b → (∀ i, i < JJ w b → ¬ (own_dr (own_it i w)) < (own_lim b)) ∧ (own_dr (own_it (JJ w b) w)) < (own_lim b)
theorem own_pos {b : Int32} (hb : (0 : Int32) < b) : 0 < b.toInt := by rw [Int32.lt_iff_toInt_lt] at hb; exact hb
theorem own_limI {b : Int32} (hb : (0 : Int32) < b) : (own_lim b).toInt = 4294967296 - 4294967296 % b.toInt := by
  have h := own_pos hb
  have h' := b.toInt_lt
  have q : (4294967296 : Int64).toInt = 4294967296 := rfl
  have r : (own_remL (4294967296 : Int64) b.toInt64).toInt = 4294967296 % b.toInt := by
    unfold own_remL; rw [Jvm.Kit.i64_rem_nonneg (by rw [q]; omega), q, Jvm.Kit.i64_of_i32]
  have r1 := Int.emod_nonneg 4294967296 (show b.toInt ≠ 0 by omega)
  have r2 := Int.emod_lt_of_pos 4294967296 h
  unfold own_lim
  rw [Jvm.Kit.i64_sub (by rw [q, r]; omega) (by rw [q, r]; omega), q, r]
theorem own_drI (w : Int64) : 0 ≤ (own_dr w).toInt ∧ (own_dr w).toInt < 4294967296 := by
  have h : (own_dr w).toBitVec = (r5 w).toBitVec >>> 32 := rfl
  have hn : (own_dr w).toBitVec.toNat = (r5 w).toBitVec.toNat / 4294967296 := by rw [h, BitVec.toNat_ushiftRight, Nat.shiftRight_eq_div_pow]
  have b := (r5 w).toBitVec.isLt
  have e : (own_dr w).toInt = (own_dr w).toBitVec.toInt := rfl
  rw [e, BitVec.toInt_eq_toNat_cond, hn]
  split <;> omega
theorem own_itA (j : Nat) : ∀ w : Int64, own_it j w = w + Int64.ofNat j * (-7046029254386353131 : Int64) := by
  induction j with
  | zero => intro w; rw [show Int64.ofNat 0 = 0 from rfl, Int64.zero_mul, Int64.add_zero, own_it_zero]
  | succ j ih =>
    intro w
    rw [own_it_succ, ih]
    unfold v5_9
    rw [show Int64.ofNat (j + 1) = Int64.ofNat j + 1 from Int64.ofNat_add j 1, Int64.add_mul, Int64.one_mul, Int64.add_assoc, Int64.add_comm (-7046029254386353131 : Int64)]
theorem own_hit (w : Int64) : ∃ j, own_it j w = (7046029254386353131 : Int64) := by
  refine ⟨(((7046029254386353131 : Int64) - w) * (-1018231460777725123 : Int64)).toBitVec.toNat, ?_⟩
  have q : Int64.ofNat (((7046029254386353131 : Int64) - w) * (-1018231460777725123 : Int64)).toBitVec.toNat = ((7046029254386353131 : Int64) - w) * (-1018231460777725123 : Int64) := by
    apply Int64.toBitVec_inj.mp
    show BitVec.ofNat 64 _ = _
    rw [BitVec.ofNat_toNat]; simp
  rw [own_itA, q, Int64.mul_assoc, show (-1018231460777725123 : Int64) * (-7046029254386353131 : Int64) = 1 from by decide +kernel, Int64.mul_one, Int64.add_comm, Int64.sub_add_cancel]
theorem own_dr0 : own_dr (7046029254386353131 : Int64) = 0 := by decide +kernel
theorem own_least {P : Nat → Prop} (n : Nat) (hn : P n) : ∃ j, (∀ i, i < j → ¬ P i) ∧ P j := by
  induction n using Nat.strongRecOn with
  | ind n ih =>
    by_cases h : ∃ i, i < n ∧ P i
    · obtain ⟨i, hi, hp⟩ := h; exact ih i hi hp
    · exact ⟨n, fun i hi hp => h ⟨i, hi, hp⟩, hn⟩
theorem own_ex (w : Int64) (b : Int32) (hb : (0 : Int32) < b) : ∃ j, (∀ i, i < j → ¬ (own_dr (own_it i w)) < (own_lim b)) ∧ (own_dr (own_it j w)) < (own_lim b) := by
  obtain ⟨n, hn⟩ := own_hit w
  refine own_least (P := fun j => (own_dr (own_it j w)) < (own_lim b)) n ?_
  show (own_dr (own_it n w)) < (own_lim b)
  have h := own_pos hb
  have h' := b.toInt_lt
  have r2 := Int.emod_lt_of_pos 4294967296 h
  rw [hn, own_dr0, Int64.lt_iff_toInt_lt, own_limI hb, show (0 : Int64).toInt = 0 from rfl]
  omega
theorem own_exJ : ∃ JJ, own_good JJ := by
  refine ⟨fun w b => if h : (0 : Int32) < b then Classical.choose (own_ex w b h) else 0, fun w b hb => ?_⟩
  have q := Classical.choose_spec (own_ex w b hb)
  simp only [dif_pos hb]
  exact q
theorem own_rI (w : Int64) {b : Int32} (hb : (0 : Int32) < b) (j : Nat) : (r4 b j w).toInt = (own_dr (own_it j w)).toInt % b.toInt := by
  have h := own_pos hb
  have h' := b.toInt_lt
  have d := own_drI (own_it j w)
  have r : (own_remL (own_dr (own_it j w)) b.toInt64).toInt = (own_dr (own_it j w)).toInt % b.toInt := by
    unfold own_remL; rw [Jvm.Kit.i64_rem_nonneg d.1, Jvm.Kit.i64_of_i32]
  have r1 := Int.emod_nonneg (own_dr (own_it j w)).toInt (show b.toInt ≠ 0 by omega)
  have r2 := Int.emod_lt_of_pos (own_dr (own_it j w)).toInt h
  unfold r4
  rw [Jvm.Kit.i32_of_i64 (by rw [r]; omega) (by rw [r]; omega), r]
theorem own_rlt (w : Int64) {b : Int32} (hb : (0 : Int32) < b) (j : Nat) : ¬ (r4 b j w) < 0 ∧ (r4 b j w) < b := by
  have h := own_pos hb
  have r1 := Int.emod_nonneg (own_dr (own_it j w)).toInt (show b.toInt ≠ 0 by omega)
  have r2 := Int.emod_lt_of_pos (own_dr (own_it j w)).toInt h
  rw [Int32.lt_iff_toInt_lt, Int32.lt_iff_toInt_lt, own_rI w hb, show (0 : Int32).toInt = 0 from rfl]
  omega
theorem own_rb (JJ : Int64 → Int32 → Nat) (hJ : own_good JJ) (w : Int64) (b : Int32) (hb : (0 : Int32) < b) : ¬ (r4 b (JJ w b) w) < 0 ∧ (r4 b (JJ w b) w).toNatClampNeg < b.toNatClampNeg := by
  have q := own_rlt w hb (JJ w b)
  refine ⟨q.1, ?_⟩
  rw [Int32.lt_iff_toInt_lt, Int32.lt_iff_toInt_lt, show (0 : Int32).toInt = 0 from rfl] at q
  show (r4 b (JJ w b) w).toInt.toNat < b.toInt.toNat
  omega

def own_swap (f : Nat → Int32) (i k : Nat) : Nat → Int32 := own_upd (own_upd f i (f k)) k (f i)
theorem pn_1 : plainName "com/example/consigliere/consigliere/engine/RngShufflePinLaw" = true := by first | (simp [plainName, overriddenIn]; done) | decide +kernel
theorem d6_0 : decode method_2_code 0 = .ok (.aload_n 0, 1) := by decide +kernel
theorem d6_1 : decode method_2_code 1 = .ok (.iload_n 1, 1) := by decide +kernel
theorem d6_2 : decode method_2_code 2 = .ok (.iaload, 1) := by decide +kernel
theorem d6_3 : decode method_2_code 3 = .ok (.istore_n 3, 1) := by decide +kernel
theorem d6_4 : decode method_2_code 4 = .ok (.aload_n 0, 1) := by decide +kernel
theorem d6_5 : decode method_2_code 5 = .ok (.iload_n 1, 1) := by decide +kernel
theorem d6_6 : decode method_2_code 6 = .ok (.aload_n 0, 1) := by decide +kernel
theorem d6_7 : decode method_2_code 7 = .ok (.iload_n 2, 1) := by decide +kernel
theorem d6_8 : decode method_2_code 8 = .ok (.iaload, 1) := by decide +kernel
theorem d6_9 : decode method_2_code 9 = .ok (.iastore, 1) := by decide +kernel
theorem d6_10 : decode method_2_code 10 = .ok (.aload_n 0, 1) := by decide +kernel
theorem d6_11 : decode method_2_code 11 = .ok (.iload_n 2, 1) := by decide +kernel
theorem d6_12 : decode method_2_code 12 = .ok (.iload_n 3, 1) := by decide +kernel
theorem d6_13 : decode method_2_code 13 = .ok (.iastore, 1) := by decide +kernel
theorem d6_14 : decode method_2_code 14 = .ok (.return_, 1) := by decide +kernel
theorem ef_6 (m : MethodId) (x0 : Addr) (x1 : Int32) (x2 : Int32) : entryFrame m #[(.ref x0), (.int x1), (.int x2)] 4 = mkF m 0 #[.val (.ref x0), .val (.int x1), .val (.int x2), .unset] [] := by first | (simp [entryFrame, mkF, argsToLocals, Value.category]; done) | rfl
abbrev R6 : Room := { frames := 0, cells := 0, slots := 0, locals := 0 }
def Q6 (Z : State) (ar : Addr) (pi : Int32) (pj : Int32) (ii : Nat) (kk : Nat) (nn : Nat) (ff : Nat → Int32) (h0 : Heap) (n0 : Nat) (v : Option Value) (h : Heap) (L : List Loc) : Prop := v = none ∧ Fr n0 L ∧ Keep h0 h [ar] ∧ ArI Z h ar .int nn (own_swap ff ii kk)
set_option maxRecDepth 65536 in
set_option maxHeartbeats 40000000 in
theorem rm6 (l : Launch) (Z : State) (a0 : Array Value) (hw : ∀ d ∈ tables_1, d.before a0 Z = true) (ws : List Jvm.Cond) (ar : Addr) (pi : Int32) (pj : Int32) (ii : Nat) (kk : Nat) (nn : Nat) (ff : Nat → Int32) (h0 : Heap) (n0 : Nat) (Z0 : n0 ≤ h0.size) (hi : ¬ pi < 0 ∧ pi.toNatClampNeg = ii) (hil : ii < nn) (hj : ¬ pj < 0 ∧ pj.toNatClampNeg = kk) (hjl : kk < nn) (g_ar : n0 ≤ ar) (hA : ArI Z h0 ar .int nn ff) :
    MetFree l (⟨"com/example/consigliere/consigliere/engine/RngShufflePinLaw", "swap", "([III)V"⟩ : MethodName) (head1 (Jvm.Cond.code (⟨"com/example/consigliere/consigliere/engine/RngShufflePinLaw", "swap", "([III)V"⟩ : MethodName) method_2_code 4 none :: ws) R6) (fun a U => a = #[(.ref ar), (.int pi), (.int pj)] ∧ Z.Warmed39 U.vm ∧ U.heap = h0) (fun _ _ _ _ _ => True) (fun _ U o U' => ∃ v L, o = .returned v ∧ Q6 Z ar pi pj ii kk nn ff h0 n0 v U'.heap L ∧ FrameEnd U o U' L R6.cells R6.slots) := by
  refine MetFree.of_bodySF (plainFor_of_name pn_1) hisR ?_
  intro p e s m args below meth c s₁ Bd hml0 hP hK
  obtain ⟨rfl, hZ, hh⟩ := hP
  have hx := Bd.exec
  have hby := Bd.bytes
  have hml : c.maxLocals = 4 := hml0
  have hown : s.vm.findClass "com/example/consigliere/consigliere/engine/RngShufflePinLaw" = some m.cls := findClass_of_methodNamed Bd.named
  have hnm := (name_of_methodNamed Bd.named Bd.method).1
  have X0 : Stand p l e R6 s m #[(.ref ar), (.int pi), (.int pj)] below meth c s₁ [] 0 0 := Stand.of_body Bd
  have e0 : s₁.heap = h0 := by rw [← hh, Bd.state]; rfl
  have N0 := Fr.nil n0
  have pre0 : ∀ t, Steps p.tables e below (s₁.setTop (mkF m 0 #[.val (.ref ar), .val (.int pi), .val (.int pj), .unset] [])) t → Steps p.tables e below (s₁.setTop (entryFrame m #[(.ref ar), (.int pi), (.int pj)] 4)) t := fun t k => castTop (ef_6 m ar pi pj) k
  have pre1 : ∀ t, Steps p.tables e below (s₁.setTop (mkF m 9 #[.val (.ref ar), .val (.int pi), .val (.int pj), .val (.int (ff ii))] [(.int (ff kk)), (.int pi), (.ref ar)])) t → Steps p.tables e below (s₁.setTop (entryFrame m #[(.ref ar), (.int pi), (.int pj)] 4)) t := fun t k => pre0 t (by
    refine XS.aloadN X0.here hx rfl (hb hby d6_0) rfl rfl ?_
    show Steps p.tables e below (s₁.setTop (mkF m 1 #[.val (.ref ar), .val (.int pi), .val (.int pj), .unset] [(.ref ar)])) _
    refine XS.iloadN X0.here hx rfl (hb hby d6_1) rfl ?_
    show Steps p.tables e below (s₁.setTop (mkF m 2 #[.val (.ref ar), .val (.int pi), .val (.int pj), .unset] [(.int pi), (.ref ar)])) _
    refine own_ldI X0 hx hZ e0 hA (j := pi) (i := ii) hi (by exact hil) (g := (mkF m 2 #[.val (.ref ar), .val (.int pi), .val (.int pj), .unset] [(.int pi), (.ref ar)])) rfl rfl (hb hby d6_2) _ ?_
    show Steps p.tables e below (s₁.setTop (mkF m 3 #[.val (.ref ar), .val (.int pi), .val (.int pj), .unset] [(.int (ff ii))])) _
    refine XS.istoreN X0.here hx rfl (hb hby d6_3) rfl (l' := #[.val (.ref ar), .val (.int pi), .val (.int pj), .val (.int (ff ii))]) rfl ?_
    show Steps p.tables e below (s₁.setTop (mkF m 4 #[.val (.ref ar), .val (.int pi), .val (.int pj), .val (.int (ff ii))] [])) _
    refine XS.aloadN X0.here hx rfl (hb hby d6_4) rfl rfl ?_
    show Steps p.tables e below (s₁.setTop (mkF m 5 #[.val (.ref ar), .val (.int pi), .val (.int pj), .val (.int (ff ii))] [(.ref ar)])) _
    refine XS.iloadN X0.here hx rfl (hb hby d6_5) rfl ?_
    show Steps p.tables e below (s₁.setTop (mkF m 6 #[.val (.ref ar), .val (.int pi), .val (.int pj), .val (.int (ff ii))] [(.int pi), (.ref ar)])) _
    refine XS.aloadN X0.here hx rfl (hb hby d6_6) rfl rfl ?_
    show Steps p.tables e below (s₁.setTop (mkF m 7 #[.val (.ref ar), .val (.int pi), .val (.int pj), .val (.int (ff ii))] [(.ref ar), (.int pi), (.ref ar)])) _
    refine XS.iloadN X0.here hx rfl (hb hby d6_7) rfl ?_
    show Steps p.tables e below (s₁.setTop (mkF m 8 #[.val (.ref ar), .val (.int pi), .val (.int pj), .val (.int (ff ii))] [(.int pj), (.ref ar), (.int pi), (.ref ar)])) _
    refine own_ldI X0 hx hZ e0 hA (j := pj) (i := kk) hj (by exact hjl) (g := (mkF m 8 #[.val (.ref ar), .val (.int pi), .val (.int pj), .val (.int (ff ii))] [(.int pj), (.ref ar), (.int pi), (.ref ar)])) rfl rfl (hb hby d6_8) _ ?_
    show Steps p.tables e below (s₁.setTop (mkF m 9 #[.val (.ref ar), .val (.int pi), .val (.int pj), .val (.int (ff ii))] [(.int (ff kk)), (.int pi), (.ref ar)])) _
    exact k)
  obtain ⟨T2, h2, X2, e2, W2, B2, st2⟩ := own_stI X0 hx hZ e0 hA (j := pi) (i := ii) hi (by exact hil) (g := (mkF m 9 #[.val (.ref ar), .val (.int pi), .val (.int pj), .val (.int (ff ii))] [(.int (ff kk)), (.int pi), (.ref ar)])) rfl rfl (hb hby d6_9)
  have N2 := Fr.snoc X2 N0 g_ar
  have Z2 : n0 ≤ h2.size := Nat.le_trans Z0 (Keep.of_wr W2).1
  have K2 : Keep h0 h2 [ar] := (Keep.refl h0 [ar]).wr W2 (Or.inl (by simp))
  have pre2 : ∀ t, Steps p.tables e below (T2.setTop (mkF m 10 #[.val (.ref ar), .val (.int pi), .val (.int pj), .val (.int (ff ii))] [])) t → Steps p.tables e below (s₁.setTop (entryFrame m #[(.ref ar), (.int pi), (.int pj)] 4)) t := fun t k => pre1 t (st2 t k)
  have pre3 : ∀ t, Steps p.tables e below (T2.setTop (mkF m 13 #[.val (.ref ar), .val (.int pi), .val (.int pj), .val (.int (ff ii))] [(.int (ff ii)), (.int pj), (.ref ar)])) t → Steps p.tables e below (s₁.setTop (entryFrame m #[(.ref ar), (.int pi), (.int pj)] 4)) t := fun t k => pre2 t (by
    refine XS.aloadN X2.here hx rfl (hb hby d6_10) rfl rfl ?_
    show Steps p.tables e below (T2.setTop (mkF m 11 #[.val (.ref ar), .val (.int pi), .val (.int pj), .val (.int (ff ii))] [(.ref ar)])) _
    refine XS.iloadN X2.here hx rfl (hb hby d6_11) rfl ?_
    show Steps p.tables e below (T2.setTop (mkF m 12 #[.val (.ref ar), .val (.int pi), .val (.int pj), .val (.int (ff ii))] [(.int pj), (.ref ar)])) _
    refine XS.iloadN X2.here hx rfl (hb hby d6_12) rfl ?_
    show Steps p.tables e below (T2.setTop (mkF m 13 #[.val (.ref ar), .val (.int pi), .val (.int pj), .val (.int (ff ii))] [(.int (ff ii)), (.int pj), (.ref ar)])) _
    exact k)
  obtain ⟨T4, h4, X4, e4, W4, B4, st4⟩ := own_stI X2 hx hZ e2 B2 (j := pj) (i := kk) hj (by exact hjl) (g := (mkF m 13 #[.val (.ref ar), .val (.int pi), .val (.int pj), .val (.int (ff ii))] [(.int (ff ii)), (.int pj), (.ref ar)])) rfl rfl (hb hby d6_13)
  have N4 := Fr.snoc X4 N2 g_ar
  have Z4 : n0 ≤ h4.size := Nat.le_trans Z2 (Keep.of_wr W4).1
  have K4 : Keep h0 h4 [ar] := (K2).wr W4 (Or.inl (by simp))
  have C4 : ArI Z h4 ar .int nn (own_swap ff ii kk) := B4
  have pre4 : ∀ t, Steps p.tables e below (T4.setTop (mkF m 14 #[.val (.ref ar), .val (.int pi), .val (.int pj), .val (.int (ff ii))] [])) t → Steps p.tables e below (s₁.setTop (entryFrame m #[(.ref ar), (.int pi), (.int pj)] 4)) t := fun t k => pre3 t (st4 t k)
  obtain ⟨fs, hr, hrun, hended, hW, hsame⟩ := X4.leave (v := none) (fun _ => rfl) Bd.notSynchronized
  refine ⟨_, _, pre4 _ ?_, hrun, hended, _, _, rfl, ?_, ⟨_, rfl⟩, hW, hsame.mono (by decide) (by decide)⟩
  · show Steps p.tables e below (T4.setTop (mkF m 14 #[.val (.ref ar), .val (.int pi), .val (.int pj), .val (.int (ff ii))] [])) _
    exact X4.returnOut hx Bd.returns (hb hby d6_14) hr
  · show Q6 Z ar pi pj ii kk nn ff h0 n0 _ T4.heap _
    rw [e4]
    exact ⟨rfl, N4, K4, C4⟩
abbrev R3 : Room := { frames := 2, cells := 0, slots := 0, locals := 31 }
theorem pd_1 : parseMethodDescriptor "(I)I" = some ⟨[.int], some .int⟩ := by decide +kernel
theorem d3_4 : decode prog_3_method_4_code 4 = .ok (.iload_n 3, 1) := by decide +kernel
theorem d3_5 : decode prog_3_method_4_code 5 = .ok (.ifCond .le 36, 3) := by decide +kernel
theorem d3_8 : decode prog_3_method_4_code 8 = .ok (.aload_n 0, 1) := by decide +kernel
theorem d3_9 : decode prog_3_method_4_code 9 = .ok (.iload_n 3, 1) := by decide +kernel
theorem d3_10 : decode prog_3_method_4_code 10 = .ok (.iconst 1, 1) := by decide +kernel
theorem d3_11 : decode prog_3_method_4_code 11 = .ok (.iadd, 1) := by decide +kernel
theorem d3_12 : decode prog_3_method_4_code 12 = .ok (.invokevirtual 34, 3) := by decide +kernel
theorem d3_15 : decode prog_3_method_4_code 15 = .ok (.istore 4, 2) := by decide +kernel
theorem d3_17 : decode prog_3_method_4_code 17 = .ok (.aload_n 1, 1) := by decide +kernel
theorem d3_18 : decode prog_3_method_4_code 18 = .ok (.iload_n 3, 1) := by decide +kernel
theorem d3_19 : decode prog_3_method_4_code 19 = .ok (.iaload, 1) := by decide +kernel
theorem d3_20 : decode prog_3_method_4_code 20 = .ok (.istore 5, 2) := by decide +kernel
theorem d3_22 : decode prog_3_method_4_code 22 = .ok (.aload_n 1, 1) := by decide +kernel
theorem d3_23 : decode prog_3_method_4_code 23 = .ok (.iload_n 3, 1) := by decide +kernel
theorem d3_24 : decode prog_3_method_4_code 24 = .ok (.aload_n 1, 1) := by decide +kernel
theorem d3_25 : decode prog_3_method_4_code 25 = .ok (.iload 4, 2) := by decide +kernel
theorem d3_27 : decode prog_3_method_4_code 27 = .ok (.iaload, 1) := by decide +kernel
theorem d3_28 : decode prog_3_method_4_code 28 = .ok (.iastore, 1) := by decide +kernel
theorem d3_29 : decode prog_3_method_4_code 29 = .ok (.aload_n 1, 1) := by decide +kernel
theorem d3_30 : decode prog_3_method_4_code 30 = .ok (.iload 4, 2) := by decide +kernel
theorem d3_32 : decode prog_3_method_4_code 32 = .ok (.iload 5, 2) := by decide +kernel
theorem d3_34 : decode prog_3_method_4_code 34 = .ok (.iastore, 1) := by decide +kernel
theorem d3_35 : decode prog_3_method_4_code 35 = .ok (.iinc 3 (-1), 3) := by decide +kernel
theorem d3_38 : decode prog_3_method_4_code 38 = .ok (.goto (-34), 3) := by decide +kernel
def csh_12 (w : Int64) (JJ : Int64 → Int32 → Nat) (ki : Nat) : Int32 := (r4 ((Int32.ofNat ki) + (1 : Int32)) (JJ w ((Int32.ofNat ki) + (1 : Int32))) w)
set_option maxRecDepth 65536 in
set_option maxHeartbeats 40000000 in
theorem tn_turn {p : Program} {l : Launch} {e : Env} {s : State} {m : MethodId} {args : Array Value} {below : List Frame} {meth : Method} {c : Code} {T0 : State} {locs : List Loc} {Z : State} {a0 : Array Value} {h0 : Heap} {n0 : Nat} (ao : Addr) (ar : Addr) (pn : Int32) (w : Int64) (JJ : Int64 → Int32 → Nat) (ki : Nat) (kx : Nat) (nn : Nat) (ff : Nat → Int32) (s4 : Slot) (s5 : Slot)
    (X0 : Stand p l e R3 s m args below meth c T0 locs 0 0) (hx : p.tables.exec = Jvm.exec) (hZ : Z.Warmed39 s.vm) (hw : ∀ d ∈ tables_1, d.before a0 Z = true) (hby : c.code = prog_3_method_4_code) (hml : c.maxLocals = 6) (hown : s.vm.findClass "com/example/consigliere/consigliere/engine/Rng" = some m.cls) (e0 : T0.heap = h0) (N0 : Fr n0 locs) (Z0 : n0 ≤ h0.size) (hs4 : One s4) (hs5 : One s5) (hne : ao ≠ ar) (g_ao : n0 ≤ ao) (g_ar : n0 ≤ ar) (hE : Exa Z h0 ao "com/example/consigliere/consigliere/engine/Rng") (hF : Fld Z h0 ao "com/example/consigliere/consigliere/engine/Rng" "state" "J" (.long w)) (hA : ArI Z h0 ar .int nn ff) (hJ : own_good JJ) (hpos : (0 : Int32) < (Int32.ofNat ki)) (hbp : (0 : Int32) < ((Int32.ofNat ki) + (1 : Int32))) (hix : ¬ (Int32.ofNat ki) < 0 ∧ (Int32.ofNat ki).toNatClampNeg = ki) (hil : ki < nn) (hjx : ¬ (r4 ((Int32.ofNat ki) + (1 : Int32)) (JJ w ((Int32.ofNat ki) + (1 : Int32))) w) < 0 ∧ (r4 ((Int32.ofNat ki) + (1 : Int32)) (JJ w ((Int32.ofNat ki) + (1 : Int32))) w).toNatClampNeg = kx) (hjl : kx < nn) :
    ∃ (T' : State) (L' : List Loc) (h' : Heap), Stand p l e R3 s m args below meth c T' L' 0 0 ∧ T'.heap = h' ∧ Fr n0 L' ∧ n0 ≤ h'.size ∧ Keep h0 h' [ao, ar] ∧ Exa Z h' ao "com/example/consigliere/consigliere/engine/Rng" ∧ Fld Z h' ao "com/example/consigliere/consigliere/engine/Rng" "state" "J" (.long (own_it ((JJ w ((Int32.ofNat ki) + (1 : Int32))) + 1) w)) ∧ ArI Z h' ar .int nn (own_swap ff ki kx) ∧ ∀ t, Steps p.tables e below (T'.setTop (mkF m 4 #[.val (.ref ao), .val (.ref ar), .val (.int pn), .val (.int ((Int32.ofNat ki) + (-1 : Int32))), .val (.int (csh_12 w JJ ki)), .val (.int (ff ki))] [])) t → Steps p.tables e below (T0.setTop (mkF m 4 #[.val (.ref ao), .val (.ref ar), .val (.int pn), .val (.int (Int32.ofNat ki)), s4, s5] [])) t := by
  have pre0 : ∀ t, Steps p.tables e below (T0.setTop (mkF m 4 #[.val (.ref ao), .val (.ref ar), .val (.int pn), .val (.int (Int32.ofNat ki)), s4, s5] [])) t → Steps p.tables e below (T0.setTop (mkF m 4 #[.val (.ref ao), .val (.ref ar), .val (.int pn), .val (.int (Int32.ofNat ki)), s4, s5] [])) t := fun t k => k
  have pre2 : ∀ t, Steps p.tables e below (T0.setTop (mkF m 12 #[.val (.ref ao), .val (.ref ar), .val (.int pn), .val (.int (Int32.ofNat ki)), s4, s5] [(.int ((Int32.ofNat ki) + (1 : Int32))), (.ref ao)])) t → Steps p.tables e below (T0.setTop (mkF m 4 #[.val (.ref ao), .val (.ref ar), .val (.int pn), .val (.int (Int32.ofNat ki)), s4, s5] [])) t := fun t k => pre0 t (by
    refine XS.iloadN X0.here hx rfl (hb hby d3_4) rfl ?_
    show Steps p.tables e below (T0.setTop (mkF m 5 #[.val (.ref ao), .val (.ref ar), .val (.int pn), .val (.int (Int32.ofNat ki)), s4, s5] [(.int (Int32.ofNat ki))])) _
    refine XS.ifNo X0.here hx rfl (hb hby d3_5) rfl ((if0 _ _).trans (tlt (show (0 : Int32) < (Int32.ofNat ki) from hpos)).2.2.2) ?_
    show Steps p.tables e below (T0.setTop (mkF m 8 #[.val (.ref ao), .val (.ref ar), .val (.int pn), .val (.int (Int32.ofNat ki)), s4, s5] [])) _
    refine XS.aloadN X0.here hx rfl (hb hby d3_8) rfl rfl ?_
    show Steps p.tables e below (T0.setTop (mkF m 9 #[.val (.ref ao), .val (.ref ar), .val (.int pn), .val (.int (Int32.ofNat ki)), s4, s5] [(.ref ao)])) _
    refine XS.iloadN X0.here hx rfl (hb hby d3_9) rfl ?_
    show Steps p.tables e below (T0.setTop (mkF m 10 #[.val (.ref ao), .val (.ref ar), .val (.int pn), .val (.int (Int32.ofNat ki)), s4, s5] [(.int (Int32.ofNat ki)), (.ref ao)])) _
    refine XS.iconst X0.here hx rfl (hb hby d3_10) ?_
    show Steps p.tables e below (T0.setTop (mkF m 11 #[.val (.ref ao), .val (.ref ar), .val (.int pn), .val (.int (Int32.ofNat ki)), s4, s5] [(.int (1 : Int32)), (.int (Int32.ofNat ki)), (.ref ao)])) _
    refine XS.iadd X0.here hx rfl (hb hby d3_11) rfl ?_
    show Steps p.tables e below (T0.setTop (mkF m 12 #[.val (.ref ao), .val (.ref ar), .val (.int pn), .val (.int (Int32.ofNat ki)), s4, s5] [(.int ((Int32.ofNat ki) + (1 : Int32))), (.ref ao)])) _
    exact k)
  obtain ⟨cq3, kq3, qa3, qb3, qc3⟩ := isOf hZ e0 hE
  obtain ⟨_, _, ⟨T3, L3, k3, n3⟩, -, X3, ⟨Lc3, hQ3, l3, y3, z3⟩, st3⟩ := X0.virtualBack hx (y := (⟨"com/example/consigliere/consigliere/engine/Rng", "nextInt", "(I)I"⟩ : MethodName)) (z := (⟨"com/example/consigliere/consigliere/engine/Rng", "nextInt", "(I)I"⟩ : MethodName)) hown (mvT hZ (hw _ (List.mem_of_getElem? (i := 18) rfl))) (mvT hZ (hw _ (List.mem_of_getElem? (i := 19) rfl))) (notFace_of_selects (args := #[]) (mvT hZ (hw _ (List.mem_of_getElem? (i := 21) rfl)))) (mvT hZ (hw _ (List.mem_of_getElem? (i := 21) rfl))) (mvT hZ (hw _ (List.mem_of_getElem? (i := 20) rfl))) (by decide) (backOf (W := 0) (rm4 l Z a0 hw [] ao ((Int32.ofNat ki) + (1 : Int32)) (JJ w ((Int32.ofNat ki) + (1 : Int32))) w h0 n0 Z0 hbp (hJ w _ hbp).1 (hJ w _ hbp).2 hE hF g_ao) hZ (hw _ (List.mem_of_getElem? (i := 22) rfl)) (hw _ (List.mem_of_getElem? (i := 4) rfl)) (by decide) (by decide)) qa3 qc3 (g := (mkF m 12 #[.val (.ref ao), .val (.ref ar), .val (.int pn), .val (.int (Int32.ofNat ki)), s4, s5] [(.int ((Int32.ofNat ki) + (1 : Int32))), (.ref ao)])) rfl (by rw [hml]; rfl) (Steps.refl _) (argsL := [(.int ((Int32.ofNat ki) + (1 : Int32)))]) (rest := []) (lenOf pd_1 rfl) rfl (by show 2 * 0 + _ ≤ _; exact Nat.le_of_eq rfl) (hb hby d3_12) (fun _ _ => ⟨rfl, e0, (by decide : 0 + 0 ≤ _), (by decide : 0 + 0 ≤ _)⟩)
  dsimp only [Pt.U, Pt.locs, Pt.cells, Pt.slots] at X3 l3 y3 z3 st3 hQ3
  rw [l3, y3, z3] at X3
  obtain ⟨rfl, M3, K3c, P3_0⟩ := hQ3
  have N3 := Fr.app N0 M3
  have K3 : Keep h0 T3.heap [ao] := K3c
  have Z3 : n0 ≤ T3.heap.size := Nat.le_trans Z0 K3.1
  have Ar4 : ArI Z T3.heap ar .int nn ff := hA.keep K3 (ninS (Ne.symm hne) nin0)
  have Ex5 : Exa Z T3.heap ao "com/example/consigliere/consigliere/engine/Rng" := hE.keep K3
  have F6 : Fld Z T3.heap ao "com/example/consigliere/consigliere/engine/Rng" "state" "J" (.long (own_it ((JJ w ((Int32.ofNat ki) + (1 : Int32))) + 1) w)) := P3_0
  have KK3 : Keep h0 T3.heap [ao, ar] := (Keep.refl h0 [ao, ar]).trans K3 (allS (Or.inl (by simp)) all0)
  replace X3 : Stand p l e R3 s m args below meth c T3 _ 0 0 := X3
  have pre3 : ∀ t, Steps p.tables e below (T3.setTop (mkF m 15 #[.val (.ref ao), .val (.ref ar), .val (.int pn), .val (.int (Int32.ofNat ki)), s4, s5] [(.int (csh_12 w JJ ki))])) t → Steps p.tables e below (T0.setTop (mkF m 4 #[.val (.ref ao), .val (.ref ar), .val (.int pn), .val (.int (Int32.ofNat ki)), s4, s5] [])) t := fun t k => pre2 t (st3.trans k)
  have pre7 : ∀ t, Steps p.tables e below (T3.setTop (mkF m 28 #[.val (.ref ao), .val (.ref ar), .val (.int pn), .val (.int (Int32.ofNat ki)), .val (.int (csh_12 w JJ ki)), .val (.int (ff ki))] [(.int (ff kx)), (.int (Int32.ofNat ki)), (.ref ar)])) t → Steps p.tables e below (T0.setTop (mkF m 4 #[.val (.ref ao), .val (.ref ar), .val (.int pn), .val (.int (Int32.ofNat ki)), s4, s5] [])) t := fun t k => pre3 t (by
    refine XS.istoreS X3.here hx rfl (hb hby d3_15) rfl rfl hs4 ?_
    show Steps p.tables e below (T3.setTop (mkF m 17 #[.val (.ref ao), .val (.ref ar), .val (.int pn), .val (.int (Int32.ofNat ki)), .val (.int (csh_12 w JJ ki)), s5] [])) _
    refine XS.aloadN X3.here hx rfl (hb hby d3_17) rfl rfl ?_
    show Steps p.tables e below (T3.setTop (mkF m 18 #[.val (.ref ao), .val (.ref ar), .val (.int pn), .val (.int (Int32.ofNat ki)), .val (.int (csh_12 w JJ ki)), s5] [(.ref ar)])) _
    refine XS.iloadN X3.here hx rfl (hb hby d3_18) rfl ?_
    show Steps p.tables e below (T3.setTop (mkF m 19 #[.val (.ref ao), .val (.ref ar), .val (.int pn), .val (.int (Int32.ofNat ki)), .val (.int (csh_12 w JJ ki)), s5] [(.int (Int32.ofNat ki)), (.ref ar)])) _
    refine own_ldI X3 hx hZ rfl Ar4 (j := (Int32.ofNat ki)) (i := ki) hix (by exact hil) (g := (mkF m 19 #[.val (.ref ao), .val (.ref ar), .val (.int pn), .val (.int (Int32.ofNat ki)), .val (.int (csh_12 w JJ ki)), s5] [(.int (Int32.ofNat ki)), (.ref ar)])) rfl rfl (hb hby d3_19) _ ?_
    show Steps p.tables e below (T3.setTop (mkF m 20 #[.val (.ref ao), .val (.ref ar), .val (.int pn), .val (.int (Int32.ofNat ki)), .val (.int (csh_12 w JJ ki)), s5] [(.int (ff ki))])) _
    refine XS.istoreS X3.here hx rfl (hb hby d3_20) rfl rfl hs5 ?_
    show Steps p.tables e below (T3.setTop (mkF m 22 #[.val (.ref ao), .val (.ref ar), .val (.int pn), .val (.int (Int32.ofNat ki)), .val (.int (csh_12 w JJ ki)), .val (.int (ff ki))] [])) _
    refine XS.aloadN X3.here hx rfl (hb hby d3_22) rfl rfl ?_
    show Steps p.tables e below (T3.setTop (mkF m 23 #[.val (.ref ao), .val (.ref ar), .val (.int pn), .val (.int (Int32.ofNat ki)), .val (.int (csh_12 w JJ ki)), .val (.int (ff ki))] [(.ref ar)])) _
    refine XS.iloadN X3.here hx rfl (hb hby d3_23) rfl ?_
    show Steps p.tables e below (T3.setTop (mkF m 24 #[.val (.ref ao), .val (.ref ar), .val (.int pn), .val (.int (Int32.ofNat ki)), .val (.int (csh_12 w JJ ki)), .val (.int (ff ki))] [(.int (Int32.ofNat ki)), (.ref ar)])) _
    refine XS.aloadN X3.here hx rfl (hb hby d3_24) rfl rfl ?_
    show Steps p.tables e below (T3.setTop (mkF m 25 #[.val (.ref ao), .val (.ref ar), .val (.int pn), .val (.int (Int32.ofNat ki)), .val (.int (csh_12 w JJ ki)), .val (.int (ff ki))] [(.ref ar), (.int (Int32.ofNat ki)), (.ref ar)])) _
    refine XS.iload X3.here hx rfl (hb hby d3_25) rfl ?_
    show Steps p.tables e below (T3.setTop (mkF m 27 #[.val (.ref ao), .val (.ref ar), .val (.int pn), .val (.int (Int32.ofNat ki)), .val (.int (csh_12 w JJ ki)), .val (.int (ff ki))] [(.int (csh_12 w JJ ki)), (.ref ar), (.int (Int32.ofNat ki)), (.ref ar)])) _
    refine own_ldI X3 hx hZ rfl Ar4 (j := (csh_12 w JJ ki)) (i := kx) hjx (by exact hjl) (g := (mkF m 27 #[.val (.ref ao), .val (.ref ar), .val (.int pn), .val (.int (Int32.ofNat ki)), .val (.int (csh_12 w JJ ki)), .val (.int (ff ki))] [(.int (csh_12 w JJ ki)), (.ref ar), (.int (Int32.ofNat ki)), (.ref ar)])) rfl rfl (hb hby d3_27) _ ?_
    show Steps p.tables e below (T3.setTop (mkF m 28 #[.val (.ref ao), .val (.ref ar), .val (.int pn), .val (.int (Int32.ofNat ki)), .val (.int (csh_12 w JJ ki)), .val (.int (ff ki))] [(.int (ff kx)), (.int (Int32.ofNat ki)), (.ref ar)])) _
    exact k)
  obtain ⟨T8, h8, X8, e8, W8, B8, st8⟩ := own_stI X3 hx hZ rfl Ar4 (j := (Int32.ofNat ki)) (i := ki) hix (by exact hil) (g := (mkF m 28 #[.val (.ref ao), .val (.ref ar), .val (.int pn), .val (.int (Int32.ofNat ki)), .val (.int (csh_12 w JJ ki)), .val (.int (ff ki))] [(.int (ff kx)), (.int (Int32.ofNat ki)), (.ref ar)])) rfl rfl (hb hby d3_28)
  have Ex9 : Exa Z h8 ao "com/example/consigliere/consigliere/engine/Rng" := Ex5.wr W8
  have F10 : Fld Z h8 ao "com/example/consigliere/consigliere/engine/Rng" "state" "J" (.long (own_it ((JJ w ((Int32.ofNat ki) + (1 : Int32))) + 1) w)) := F6.other W8 (Or.inl hne)
  have N8 := Fr.snoc X8 N3 g_ar
  have Z8 : n0 ≤ h8.size := Nat.le_trans Z3 (Keep.of_wr W8).1
  have K8 : Keep h0 h8 [ao, ar] := (KK3).wr W8 (Or.inl (by simp))
  have pre8 : ∀ t, Steps p.tables e below (T8.setTop (mkF m 29 #[.val (.ref ao), .val (.ref ar), .val (.int pn), .val (.int (Int32.ofNat ki)), .val (.int (csh_12 w JJ ki)), .val (.int (ff ki))] [])) t → Steps p.tables e below (T0.setTop (mkF m 4 #[.val (.ref ao), .val (.ref ar), .val (.int pn), .val (.int (Int32.ofNat ki)), s4, s5] [])) t := fun t k => pre7 t (st8 t k)
  have pre11 : ∀ t, Steps p.tables e below (T8.setTop (mkF m 34 #[.val (.ref ao), .val (.ref ar), .val (.int pn), .val (.int (Int32.ofNat ki)), .val (.int (csh_12 w JJ ki)), .val (.int (ff ki))] [(.int (ff ki)), (.int (csh_12 w JJ ki)), (.ref ar)])) t → Steps p.tables e below (T0.setTop (mkF m 4 #[.val (.ref ao), .val (.ref ar), .val (.int pn), .val (.int (Int32.ofNat ki)), s4, s5] [])) t := fun t k => pre8 t (by
    refine XS.aloadN X8.here hx rfl (hb hby d3_29) rfl rfl ?_
    show Steps p.tables e below (T8.setTop (mkF m 30 #[.val (.ref ao), .val (.ref ar), .val (.int pn), .val (.int (Int32.ofNat ki)), .val (.int (csh_12 w JJ ki)), .val (.int (ff ki))] [(.ref ar)])) _
    refine XS.iload X8.here hx rfl (hb hby d3_30) rfl ?_
    show Steps p.tables e below (T8.setTop (mkF m 32 #[.val (.ref ao), .val (.ref ar), .val (.int pn), .val (.int (Int32.ofNat ki)), .val (.int (csh_12 w JJ ki)), .val (.int (ff ki))] [(.int (csh_12 w JJ ki)), (.ref ar)])) _
    refine XS.iload X8.here hx rfl (hb hby d3_32) rfl ?_
    show Steps p.tables e below (T8.setTop (mkF m 34 #[.val (.ref ao), .val (.ref ar), .val (.int pn), .val (.int (Int32.ofNat ki)), .val (.int (csh_12 w JJ ki)), .val (.int (ff ki))] [(.int (ff ki)), (.int (csh_12 w JJ ki)), (.ref ar)])) _
    exact k)
  obtain ⟨T12, h12, X12, e12, W12, B12, st12⟩ := own_stI X8 hx hZ e8 B8 (j := (csh_12 w JJ ki)) (i := kx) hjx (by exact hjl) (g := (mkF m 34 #[.val (.ref ao), .val (.ref ar), .val (.int pn), .val (.int (Int32.ofNat ki)), .val (.int (csh_12 w JJ ki)), .val (.int (ff ki))] [(.int (ff ki)), (.int (csh_12 w JJ ki)), (.ref ar)])) rfl rfl (hb hby d3_34)
  have Ex13 : Exa Z h12 ao "com/example/consigliere/consigliere/engine/Rng" := Ex9.wr W12
  have F14 : Fld Z h12 ao "com/example/consigliere/consigliere/engine/Rng" "state" "J" (.long (own_it ((JJ w ((Int32.ofNat ki) + (1 : Int32))) + 1) w)) := F10.other W12 (Or.inl hne)
  have N12 := Fr.snoc X12 N8 g_ar
  have Z12 : n0 ≤ h12.size := Nat.le_trans Z8 (Keep.of_wr W12).1
  have K12 : Keep h0 h12 [ao, ar] := (K8).wr W12 (Or.inl (by simp))
  have C12 : ArI Z h12 ar .int nn (own_swap ff ki kx) := B12
  have pre12 : ∀ t, Steps p.tables e below (T12.setTop (mkF m 35 #[.val (.ref ao), .val (.ref ar), .val (.int pn), .val (.int (Int32.ofNat ki)), .val (.int (csh_12 w JJ ki)), .val (.int (ff ki))] [])) t → Steps p.tables e below (T0.setTop (mkF m 4 #[.val (.ref ao), .val (.ref ar), .val (.int pn), .val (.int (Int32.ofNat ki)), s4, s5] [])) t := fun t k => pre11 t (st12 t k)
  have pre15 : ∀ t, Steps p.tables e below (T12.setTop (mkF m 4 #[.val (.ref ao), .val (.ref ar), .val (.int pn), .val (.int ((Int32.ofNat ki) + (-1 : Int32))), .val (.int (csh_12 w JJ ki)), .val (.int (ff ki))] [])) t → Steps p.tables e below (T0.setTop (mkF m 4 #[.val (.ref ao), .val (.ref ar), .val (.int pn), .val (.int (Int32.ofNat ki)), s4, s5] [])) t := fun t k => pre12 t (by
    refine XS.iinc X12.here hx rfl (hb hby d3_35) rfl (l' := #[.val (.ref ao), .val (.ref ar), .val (.int pn), .val (.int ((Int32.ofNat ki) + (-1 : Int32))), .val (.int (csh_12 w JJ ki)), .val (.int (ff ki))]) rfl ?_
    show Steps p.tables e below (T12.setTop (mkF m 38 #[.val (.ref ao), .val (.ref ar), .val (.int pn), .val (.int ((Int32.ofNat ki) + (-1 : Int32))), .val (.int (csh_12 w JJ ki)), .val (.int (ff ki))] [])) _
    refine XS.goto X12.here hx rfl (pc0 := 38) (pc' := 4) rfl (hb hby d3_38) (by decide) (by decide) ?_
    show Steps p.tables e below (T12.setTop (mkF m 4 #[.val (.ref ao), .val (.ref ar), .val (.int pn), .val (.int ((Int32.ofNat ki) + (-1 : Int32))), .val (.int (csh_12 w JJ ki)), .val (.int (ff ki))] [])) _
    exact k)
  exact ⟨T12, _, _, X12, e12, N12, Z12, K12, Ex13, F14, C12, pre15⟩
set_option maxRecDepth 65536 in
set_option maxHeartbeats 40000000 in
theorem tn_out {p : Program} {l : Launch} {e : Env} {s : State} {m : MethodId} {args : Array Value} {below : List Frame} {meth : Method} {c : Code} {T0 : State} {locs : List Loc} {Z : State} {a0 : Array Value} {h0 : Heap} {n0 : Nat} (ao : Addr) (ar : Addr) (pn : Int32) (pi : Int32) (s4 : Slot) (s5 : Slot)
    (X0 : Stand p l e R3 s m args below meth c T0 locs 0 0) (hx : p.tables.exec = Jvm.exec) (hZ : Z.Warmed39 s.vm) (hw : ∀ d ∈ tables_1, d.before a0 Z = true) (hby : c.code = prog_3_method_4_code) (hml : c.maxLocals = 6) (hown : s.vm.findClass "com/example/consigliere/consigliere/engine/Rng" = some m.cls) (e0 : T0.heap = h0) (N0 : Fr n0 locs) (Z0 : n0 ≤ h0.size) (hneg : ¬ (0 : Int32) < pi) :
    ∃ (T' : State) (L' : List Loc), Stand p l e R3 s m args below meth c T' L' 0 0 ∧ T'.heap = h0 ∧ Fr n0 L' ∧ ∀ t, Steps p.tables e below (T'.setTop (mkF m 41 #[.val (.ref ao), .val (.ref ar), .val (.int pn), .val (.int pi), s4, s5] [])) t → Steps p.tables e below (T0.setTop (mkF m 4 #[.val (.ref ao), .val (.ref ar), .val (.int pn), .val (.int pi), s4, s5] [])) t := by
  have pre0 : ∀ t, Steps p.tables e below (T0.setTop (mkF m 4 #[.val (.ref ao), .val (.ref ar), .val (.int pn), .val (.int pi), s4, s5] [])) t → Steps p.tables e below (T0.setTop (mkF m 4 #[.val (.ref ao), .val (.ref ar), .val (.int pn), .val (.int pi), s4, s5] [])) t := fun t k => k
  have pre2 : ∀ t, Steps p.tables e below (T0.setTop (mkF m 41 #[.val (.ref ao), .val (.ref ar), .val (.int pn), .val (.int pi), s4, s5] [])) t → Steps p.tables e below (T0.setTop (mkF m 4 #[.val (.ref ao), .val (.ref ar), .val (.int pn), .val (.int pi), s4, s5] [])) t := fun t k => pre0 t (by
    refine XS.iloadN X0.here hx rfl (hb hby d3_4) rfl ?_
    show Steps p.tables e below (T0.setTop (mkF m 5 #[.val (.ref ao), .val (.ref ar), .val (.int pn), .val (.int pi), s4, s5] [(.int pi)])) _
    refine XS.ifYes X0.here hx rfl (pc0 := 5) (pc' := 41) rfl (hb hby d3_5) rfl ((if0 _ _).trans (flt (show ¬ ((0 : Int32) < pi) from hneg)).2.2.2) (by decide) (by decide) ?_
    show Steps p.tables e below (T0.setTop (mkF m 41 #[.val (.ref ao), .val (.ref ar), .val (.int pn), .val (.int pi), s4, s5] [])) _
    exact k)
  exact ⟨T0, _, X0, e0, N0, pre2⟩
def own_jx (JJ : Int64 → Int32 → Nat) (w : Int64) (k : Nat) : Int32 := r4 ((Int32.ofNat k) + (1 : Int32)) (JJ w ((Int32.ofNat k) + (1 : Int32))) w
def own_shG (st : Nat → Int64 → Int64) (jx : Int64 → Nat → Nat) : Nat → Int64 → (Nat → Int32) → Int64 × (Nat → Int32)
  | 0, w, f => (w, f)
  | k + 1, w, f => own_shG st jx k (st (k + 1) w) (own_swap f (k + 1) (jx w (k + 1)))
theorem own_shG_s (st : Nat → Int64 → Int64) (jx : Int64 → Nat → Nat) (k : Nat) (w : Int64) (f : Nat → Int32) : own_shG st jx (k + 1) w f = own_shG st jx k (st (k + 1) w) (own_swap f (k + 1) (jx w (k + 1))) := rfl
def own_sh (JJ : Int64 → Int32 → Nat) (k : Nat) (w : Int64) (f : Nat → Int32) : Int64 × (Nat → Int32) := own_shG (fun k w => own_it ((JJ w ((Int32.ofNat k) + (1 : Int32))) + 1) w) (fun w k => (own_jx JJ w k).toNatClampNeg) k w f
theorem own_sh0 (JJ : Int64 → Int32 → Nat) (w : Int64) (f : Nat → Int32) : own_sh JJ 0 w f = (w, f) := rfl
theorem own_sh1 (JJ : Int64 → Int32 → Nat) (k : Nat) (w : Int64) (f : Nat → Int32) : own_sh JJ (k + 1) w f = own_sh JJ k (own_it ((JJ w ((Int32.ofNat (k + 1)) + (1 : Int32))) + 1) w) (own_swap f (k + 1) (own_jx JJ w (k + 1)).toNatClampNeg) := own_shG_s _ _ k w f
theorem own_pos32 {k : Nat} (h : 0 < k) (hk : k < 2147483648) : (0 : Int32) < Int32.ofNat k := by
  rw [Int32.lt_iff_toInt_lt, Int32.toInt_ofNat_of_lt (by omega), show (0 : Int32).toInt = 0 from rfl]; omega
theorem own_at32 {i : Nat} (h : i < 2147483648) : ¬ (Int32.ofNat i) < 0 ∧ (Int32.ofNat i).toNatClampNeg = i := by
  refine ⟨?_, ?_⟩
  · rw [Int32.lt_iff_toInt_lt, Int32.toInt_ofNat_of_lt (by omega), show (0 : Int32).toInt = 0 from rfl]; omega
  · rw [Int32.toNatClampNeg, Int32.toInt_ofNat_of_lt (by omega)]; rfl
theorem own_one (i : Nat) : Int32.ofNat i + (1 : Int32) = Int32.ofNat (i + 1) := (Int32.ofNat_add i 1).symm
theorem own_less (i : Nat) : Int32.ofNat (i + 1) + (-1 : Int32) = Int32.ofNat i := by
  rw [← own_one, Int32.add_assoc, show (1 : Int32) + (-1 : Int32) = 0 from by decide +kernel, Int32.add_zero]
set_option maxRecDepth 65536 in
set_option maxHeartbeats 4000000 in
theorem loop_sh {p : Program} {l : Launch} {e : Env} {s : State} {m : MethodId} {args : Array Value} {below : List Frame} {meth : Method} {c : Code} {Z : State} {a0 : Array Value} {n0 : Nat} (hx : p.tables.exec = Jvm.exec) (hZ : Z.Warmed39 s.vm) (hw : ∀ d ∈ tables_1, d.before a0 Z = true) (hby : c.code = prog_3_method_4_code) (hml : c.maxLocals = 6) (hown : s.vm.findClass "com/example/consigliere/consigliere/engine/Rng" = some m.cls)
    (ao ar : Addr) (pn : Int32) (JJ : Int64 → Int32 → Nat) (hJ : own_good JJ) (nn : Nat) (hnn : nn < 2147483647) (hne : ao ≠ ar) (g_ao : n0 ≤ ao) (g_ar : n0 ≤ ar) :
    ∀ (k : Nat) (w : Int64) (ff : Nat → Int32) (pi : Int32) (s4 s5 : Slot) {T0 : State} {locs : List Loc} {h0 : Heap}, ((k = 0 ∧ ¬ (0 : Int32) < pi) ∨ (0 < k ∧ pi = Int32.ofNat k)) → (k < nn ∨ k = 0) → Stand p l e R3 s m args below meth c T0 locs 0 0 → T0.heap = h0 → Fr n0 locs → n0 ≤ h0.size → One s4 → One s5 →
      Exa Z h0 ao "com/example/consigliere/consigliere/engine/Rng" → Fld Z h0 ao "com/example/consigliere/consigliere/engine/Rng" "state" "J" (.long w) → ArI Z h0 ar .int nn ff →
      ∃ (T' : State) (L' : List Loc) (h' : Heap) (s4' s5' : Slot) (pi' : Int32), Stand p l e R3 s m args below meth c T' L' 0 0 ∧ T'.heap = h' ∧ Fr n0 L' ∧ n0 ≤ h'.size ∧ Keep h0 h' [ao, ar] ∧ Exa Z h' ao "com/example/consigliere/consigliere/engine/Rng" ∧ Fld Z h' ao "com/example/consigliere/consigliere/engine/Rng" "state" "J" (.long (own_sh JJ k w ff).1) ∧ ArI Z h' ar .int nn (own_sh JJ k w ff).2 ∧
        ∀ t, Steps p.tables e below (T'.setTop (mkF m 41 #[.val (.ref ao), .val (.ref ar), .val (.int pn), .val (.int pi'), s4', s5'] [])) t → Steps p.tables e below (T0.setTop (mkF m 4 #[.val (.ref ao), .val (.ref ar), .val (.int pn), .val (.int pi), s4, s5] [])) t := by
  intro k
  induction k with
  | zero =>
    intro w ff pi s4 s5 T0 locs h0 hk hkn X0 e0 N0 Z0 h4 h5 hE hF hA
    have hneg : ¬ (0 : Int32) < pi := by
      rcases hk with ⟨-, q⟩ | ⟨q, -⟩
      · exact q
      · exact absurd q (Nat.lt_irrefl 0)
    obtain ⟨T1, L1, X1, e1, N1, st1⟩ := tn_out ao ar pn pi s4 s5 X0 hx hZ hw hby hml hown e0 N0 Z0 hneg
    rw [own_sh0]
    exact ⟨T1, L1, h0, s4, s5, pi, X1, e1, N1, Z0, Keep.refl _ _, hE, hF, hA, st1⟩
  | succ k ih =>
    intro w ff pi s4 s5 T0 locs h0 hk hkn X0 e0 N0 Z0 h4 h5 hE hF hA
    have hi : pi = Int32.ofNat (k + 1) := by
      rcases hk with ⟨q, -⟩ | ⟨-, q⟩
      · exact absurd q (Nat.succ_ne_zero k)
      · exact q
    have hkn' : k + 1 < nn := by omega
    have hb : (0 : Int32) < (Int32.ofNat (k + 1)) + (1 : Int32) := by rw [own_one]; exact own_pos32 (by omega) (by omega)
    have hr := own_rb JJ hJ w _ hb
    have hr2 : (own_jx JJ w (k + 1)).toNatClampNeg < nn := by
      have q := hr.2
      rw [own_one, (own_at32 (show k + 1 + 1 < 2147483648 by omega)).2] at q
      unfold own_jx; rw [own_one]; omega
    obtain ⟨T1, L1, h1, X1, e1, N1, Z1, K1, E1, F1, A1, st1⟩ := tn_turn ao ar pn w JJ (k + 1) (own_jx JJ w (k + 1)).toNatClampNeg nn ff s4 s5 X0 hx hZ hw hby hml hown e0 N0 Z0 h4 h5 hne g_ao g_ar hE hF hA hJ (own_pos32 (by omega) (by omega)) hb (own_at32 (by omega)) hkn' ⟨hr.1, rfl⟩ hr2
    rw [own_less] at st1
    obtain ⟨T2, L2, h2, s42, s52, pi2, X2, e2, N2, Z2, K2, E2, F2, A2, st2⟩ := ih (own_it ((JJ w ((Int32.ofNat (k + 1)) + (1 : Int32))) + 1) w) (own_swap ff (k + 1) (own_jx JJ w (k + 1)).toNatClampNeg) (Int32.ofNat k) (.val (.int (csh_12 w JJ (k + 1)))) (.val (.int (ff (k + 1)))) (by
      rcases Nat.eq_zero_or_pos k with q | q
      · subst q; exact Or.inl ⟨rfl, by decide⟩
      · exact Or.inr ⟨q, rfl⟩) (Or.inl (by omega)) X1 e1 N1 Z1 (One.val rfl) (One.val rfl) E1 F1 A1
    subst hi
    rw [own_sh1]
    exact ⟨T2, L2, h2, s42, s52, pi2, X2, e2, N2, Z2, K1.trans K2 (fun x q => Or.inl q), E2, F2, A2, fun t k => st1 t (st2 t k)⟩

theorem d3_0 : decode prog_3_method_4_code 0 = .ok (.iload_n 2, 1) := by decide +kernel
theorem d3_1 : decode prog_3_method_4_code 1 = .ok (.iconst 1, 1) := by decide +kernel
theorem d3_2 : decode prog_3_method_4_code 2 = .ok (.isub, 1) := by decide +kernel
theorem d3_3 : decode prog_3_method_4_code 3 = .ok (.istore_n 3, 1) := by decide +kernel
theorem d3_41 : decode prog_3_method_4_code 41 = .ok (.return_, 1) := by decide +kernel
theorem ef_3 (m : MethodId) (x0 : Addr) (x1 : Addr) (x2 : Int32) : entryFrame m #[(.ref x0), (.ref x1), (.int x2)] 6 = mkF m 0 #[.val (.ref x0), .val (.ref x1), .val (.int x2), .unset, .unset, .unset] [] := by first | (simp [entryFrame, mkF, argsToLocals, Value.category]; done) | rfl
def Q3 (Z : State) (ao : Addr) (ar : Addr) (pn : Int32) (JJ : Int64 → Int32 → Nat) (kk : Nat) (nn : Nat) (ff : Nat → Int32) (w3_state : Int64) (h0 : Heap) (n0 : Nat) (v : Option Value) (h : Heap) (L : List Loc) : Prop := v = none ∧ Fr n0 L ∧ Keep h0 h [ao, ar] ∧ Fld Z h ao "com/example/consigliere/consigliere/engine/Rng" "state" "J" (.long (own_sh JJ kk w3_state ff).1) ∧ ArI Z h ar .int nn (own_sh JJ kk w3_state ff).2
set_option maxRecDepth 65536 in
set_option maxHeartbeats 40000000 in
theorem rm3 (l : Launch) (Z : State) (a0 : Array Value) (hw : ∀ d ∈ tables_1, d.before a0 Z = true) (ws : List Jvm.Cond) (ao : Addr) (ar : Addr) (pn : Int32) (JJ : Int64 → Int32 → Nat) (kk : Nat) (nn : Nat) (ff : Nat → Int32) (w3_state : Int64) (h0 : Heap) (n0 : Nat) (Z0 : n0 ≤ h0.size) (hJ : own_good JJ) (hnn : nn < 2147483647) (hne : ao ≠ ar) (hA : ArI Z h0 ar .int nn ff) (hkk : (kk = 0 ∧ ¬ (0 : Int32) < (pn - (1 : Int32))) ∨ (0 < kk ∧ (pn - (1 : Int32)) = Int32.ofNat kk)) (hkn : kk < nn ∨ kk = 0) (E_ao : Exa Z h0 ao "com/example/consigliere/consigliere/engine/Rng") (F_state_ao : Fld Z h0 ao "com/example/consigliere/consigliere/engine/Rng" "state" "J" (.long w3_state)) (g_ao : n0 ≤ ao) (g_ar : n0 ≤ ar) :
    MetFree l (⟨"com/example/consigliere/consigliere/engine/Rng", "shuffle", "([II)V"⟩ : MethodName) (head1 (Jvm.Cond.code (⟨"com/example/consigliere/consigliere/engine/Rng", "shuffle", "([II)V"⟩ : MethodName) prog_3_method_4_code 6 none :: ws) R3) (fun a U => a = #[(.ref ao), (.ref ar), (.int pn)] ∧ Z.Warmed39 U.vm ∧ U.heap = h0) (fun _ _ _ _ _ => True) (fun _ U o U' => ∃ v L, o = .returned v ∧ Q3 Z ao ar pn JJ kk nn ff w3_state h0 n0 v U'.heap L ∧ FrameEnd U o U' L R3.cells R3.slots) := by
  refine MetFree.of_bodySF (plainFor_of_name pn_0) hisR ?_
  intro p e s m args below meth c s₁ Bd hml0 hP hK
  obtain ⟨rfl, hZ, hh⟩ := hP
  have hx := Bd.exec
  have hby := Bd.bytes
  have hml : c.maxLocals = 6 := hml0
  have hown : s.vm.findClass "com/example/consigliere/consigliere/engine/Rng" = some m.cls := findClass_of_methodNamed Bd.named
  have hnm := (name_of_methodNamed Bd.named Bd.method).1
  have X0 : Stand p l e R3 s m #[(.ref ao), (.ref ar), (.int pn)] below meth c s₁ [] 0 0 := Stand.of_body Bd
  have e0 : s₁.heap = h0 := by rw [← hh, Bd.state]; rfl
  have N0 := Fr.nil n0
  have pre0 : ∀ t, Steps p.tables e below (s₁.setTop (mkF m 0 #[.val (.ref ao), .val (.ref ar), .val (.int pn), .unset, .unset, .unset] [])) t → Steps p.tables e below (s₁.setTop (entryFrame m #[(.ref ao), (.ref ar), (.int pn)] 6)) t := fun t k => castTop (ef_3 m ao ar pn) k
  have pre1 : ∀ t, Steps p.tables e below (s₁.setTop (mkF m 4 #[.val (.ref ao), .val (.ref ar), .val (.int pn), .val (.int (pn - (1 : Int32))), .unset, .unset] [])) t → Steps p.tables e below (s₁.setTop (entryFrame m #[(.ref ao), (.ref ar), (.int pn)] 6)) t := fun t k => pre0 t (by
    refine XS.iloadN X0.here hx rfl (hb hby d3_0) rfl ?_
    show Steps p.tables e below (s₁.setTop (mkF m 1 #[.val (.ref ao), .val (.ref ar), .val (.int pn), .unset, .unset, .unset] [(.int pn)])) _
    refine XS.iconst X0.here hx rfl (hb hby d3_1) ?_
    show Steps p.tables e below (s₁.setTop (mkF m 2 #[.val (.ref ao), .val (.ref ar), .val (.int pn), .unset, .unset, .unset] [(.int (1 : Int32)), (.int pn)])) _
    refine XS.isub X0.here hx rfl (hb hby d3_2) rfl ?_
    show Steps p.tables e below (s₁.setTop (mkF m 3 #[.val (.ref ao), .val (.ref ar), .val (.int pn), .unset, .unset, .unset] [(.int (pn - (1 : Int32)))])) _
    show Steps p.tables e below (s₁.setTop (mkF m 3 #[.val (.ref ao), .val (.ref ar), .val (.int pn), .unset, .unset, .unset] [(.int (pn - (1 : Int32)))])) _
    refine XS.istoreN X0.here hx rfl (hb hby d3_3) rfl (l' := #[.val (.ref ao), .val (.ref ar), .val (.int pn), .val (.int (pn - (1 : Int32))), .unset, .unset]) rfl ?_
    show Steps p.tables e below (s₁.setTop (mkF m 4 #[.val (.ref ao), .val (.ref ar), .val (.int pn), .val (.int (pn - (1 : Int32))), .unset, .unset] [])) _
    exact k)
  obtain ⟨T2, L2, h2, s4, s5, pi, X2, e2, N2, Z2, K2, Ex2, F2, A2, st2⟩ := loop_sh (T0 := s₁) hx hZ hw hby hml hown ao ar pn JJ hJ nn hnn hne g_ao g_ar kk w3_state ff ((pn - (1 : Int32))) .unset .unset hkk hkn X0 e0 N0 Z0 One.u One.u E_ao F_state_ao hA
  have pre2 : ∀ t, Steps p.tables e below (T2.setTop (mkF m 41 #[.val (.ref ao), .val (.ref ar), .val (.int pn), .val (.int pi), s4, s5] [])) t → Steps p.tables e below (s₁.setTop (entryFrame m #[(.ref ao), (.ref ar), (.int pn)] 6)) t := fun t k => pre1 t (st2 t k)
  obtain ⟨fs, hr, hrun, hended, hW, hsame⟩ := X2.leave (v := none) (fun _ => rfl) Bd.notSynchronized
  refine ⟨_, _, pre2 _ ?_, hrun, hended, _, _, rfl, ?_, ⟨_, rfl⟩, hW, hsame.mono (by decide) (by decide)⟩
  · show Steps p.tables e below (T2.setTop (mkF m 41 #[.val (.ref ao), .val (.ref ar), .val (.int pn), .val (.int pi), s4, s5] [])) _
    exact X2.returnOut hx Bd.returns (hb hby d3_41) hr
  · show Q3 Z ao ar pn JJ kk nn ff w3_state h0 n0 _ T2.heap _
    rw [e2]
    exact ⟨rfl, N2, K2, F2, A2⟩
def own_k (len : Int32) : Nat := ((len &&& (2147483647 : Int32)) % (6 : Int32)).toNatClampNeg - 1
theorem pd_2 : parseMethodDescriptor "(J)V" = some ⟨[.long], none⟩ := by decide +kernel
theorem pd_3 : parseMethodDescriptor "([II)V" = some ⟨[(.array .int), .int], none⟩ := by decide +kernel
theorem pd_4 : parseMethodDescriptor "([III)V" = some ⟨[(.array .int), .int, .int], none⟩ := by decide +kernel
theorem ef_0 (m : MethodId) (x0 : Int64) (x1 : Int32) (x2 : Int32) (x3 : Int32) (x4 : Int32) (x5 : Int32) : entryFrame m #[(.long x0), (.int x1), (.int x2), (.int x3), (.int x4), (.int x5)] maxLocals = mkF m 0 #[.val (.long x0), .second, .val (.int x1), .val (.int x2), .val (.int x3), .val (.int x4), .val (.int x5), .unset, .unset, .unset, .unset, .unset, .unset, .unset, .unset] [] := by first | (simp [entryFrame, mkF, argsToLocals, Value.category, maxLocals]; done) | rfl
def v0_7 (p0_1 : Int32) : Int32 := ((p0_1 &&& (2147483647 : Int32)) % (6 : Int32))
def v0_13 (p0_5 : Int32) : Int32 := (p0_5 ^^^ (-1 : Int32))
def g0_31 (p0_2 : Int32) (p0_3 : Int32) (p0_4 : Int32) : Nat → Int32 := (own_upd (own_upd (own_upd (fun _ => (0 : Int32)) 0 p0_2) 1 p0_3) 2 p0_4)
def g0_41 (p0_2 : Int32) (p0_3 : Int32) (p0_4 : Int32) (p0_5 : Int32) : Nat → Int32 := (own_upd (own_upd (g0_31 p0_2 p0_3 p0_4) 3 p0_5) 4 (v0_13 p0_5))
def g0_60 (p0_2 : Int32) (p0_3 : Int32) (p0_4 : Int32) : Nat → Int32 := (own_upd (own_upd (own_upd (fun _ => (0 : Int32)) 0 p0_2) 1 p0_3) 2 p0_4)
def g0_70 (p0_2 : Int32) (p0_3 : Int32) (p0_4 : Int32) (p0_5 : Int32) : Nat → Int32 := (own_upd (own_upd (g0_60 p0_2 p0_3 p0_4) 3 p0_5) 4 (v0_13 p0_5))
def w0_238_state (p0_0 : Int64) (p0_1 : Int32) (p0_2 : Int32) (p0_3 : Int32) (p0_4 : Int32) (p0_5 : Int32) (JJ : Int64 → Int32 → Nat) : Int64 := (v5_9 (own_sh JJ (own_k p0_1) p0_0 (g0_41 p0_2 p0_3 p0_4 p0_5)).1)
def c0_238 (p0_0 : Int64) (p0_1 : Int32) (p0_2 : Int32) (p0_3 : Int32) (p0_4 : Int32) (p0_5 : Int32) (JJ : Int64 → Int32 → Nat) : Int64 := (r5 (own_sh JJ (own_k p0_1) p0_0 (g0_41 p0_2 p0_3 p0_4 p0_5)).1)
def g0_171 (p0_0 : Int64) (p0_2 : Int32) (p0_3 : Int32) (p0_4 : Int32) (p0_5 : Int32) (JJ : Int64 → Int32 → Nat) : Nat → Int32 := (own_swap (g0_70 p0_2 p0_3 p0_4 p0_5) 1 (((r4 (2 : Int32) (JJ p0_0 (2 : Int32)) p0_0)).toNatClampNeg))
def w0_238_state_1 (p0_0 : Int64) (p0_1 : Int32) (p0_2 : Int32) (p0_3 : Int32) (p0_4 : Int32) (p0_5 : Int32) (JJ : Int64 → Int32 → Nat) : Int64 := (v5_9 (own_sh JJ (own_k p0_1) p0_0 (g0_41 p0_2 p0_3 p0_4 p0_5)).1)
def c0_238_1 (p0_0 : Int64) (p0_1 : Int32) (p0_2 : Int32) (p0_3 : Int32) (p0_4 : Int32) (p0_5 : Int32) (JJ : Int64 → Int32 → Nat) : Int64 := (r5 (own_sh JJ (own_k p0_1) p0_0 (g0_41 p0_2 p0_3 p0_4 p0_5)).1)
def g0_153 (p0_0 : Int64) (p0_2 : Int32) (p0_3 : Int32) (p0_4 : Int32) (p0_5 : Int32) (JJ : Int64 → Int32 → Nat) : Nat → Int32 := (own_swap (g0_70 p0_2 p0_3 p0_4 p0_5) 2 (((r4 (3 : Int32) (JJ p0_0 (3 : Int32)) p0_0)).toNatClampNeg))
def w0_168_state (p0_0 : Int64) (JJ : Int64 → Int32 → Nat) : Int64 := (own_it ((JJ (own_it ((JJ p0_0 (3 : Int32)) + 1) p0_0) (2 : Int32)) + 1) (own_it ((JJ p0_0 (3 : Int32)) + 1) p0_0))
def c0_168 (p0_0 : Int64) (JJ : Int64 → Int32 → Nat) : Int32 := (r4 (2 : Int32) (JJ (own_it ((JJ p0_0 (3 : Int32)) + 1) p0_0) (2 : Int32)) (own_it ((JJ p0_0 (3 : Int32)) + 1) p0_0))
def g0_171_1 (p0_0 : Int64) (p0_2 : Int32) (p0_3 : Int32) (p0_4 : Int32) (p0_5 : Int32) (JJ : Int64 → Int32 → Nat) : Nat → Int32 := (own_swap (g0_153 p0_0 p0_2 p0_3 p0_4 p0_5 JJ) 1 (((c0_168 p0_0 JJ)).toNatClampNeg))
def w0_238_state_2 (p0_0 : Int64) (p0_1 : Int32) (p0_2 : Int32) (p0_3 : Int32) (p0_4 : Int32) (p0_5 : Int32) (JJ : Int64 → Int32 → Nat) : Int64 := (v5_9 (own_sh JJ (own_k p0_1) p0_0 (g0_41 p0_2 p0_3 p0_4 p0_5)).1)
def c0_238_2 (p0_0 : Int64) (p0_1 : Int32) (p0_2 : Int32) (p0_3 : Int32) (p0_4 : Int32) (p0_5 : Int32) (JJ : Int64 → Int32 → Nat) : Int64 := (r5 (own_sh JJ (own_k p0_1) p0_0 (g0_41 p0_2 p0_3 p0_4 p0_5)).1)
def g0_135 (p0_0 : Int64) (p0_2 : Int32) (p0_3 : Int32) (p0_4 : Int32) (p0_5 : Int32) (JJ : Int64 → Int32 → Nat) : Nat → Int32 := (own_swap (g0_70 p0_2 p0_3 p0_4 p0_5) 3 (((r4 (4 : Int32) (JJ p0_0 (4 : Int32)) p0_0)).toNatClampNeg))
def w0_150_state (p0_0 : Int64) (JJ : Int64 → Int32 → Nat) : Int64 := (own_it ((JJ (own_it ((JJ p0_0 (4 : Int32)) + 1) p0_0) (3 : Int32)) + 1) (own_it ((JJ p0_0 (4 : Int32)) + 1) p0_0))
def c0_150 (p0_0 : Int64) (JJ : Int64 → Int32 → Nat) : Int32 := (r4 (3 : Int32) (JJ (own_it ((JJ p0_0 (4 : Int32)) + 1) p0_0) (3 : Int32)) (own_it ((JJ p0_0 (4 : Int32)) + 1) p0_0))
def g0_153_1 (p0_0 : Int64) (p0_2 : Int32) (p0_3 : Int32) (p0_4 : Int32) (p0_5 : Int32) (JJ : Int64 → Int32 → Nat) : Nat → Int32 := (own_swap (g0_135 p0_0 p0_2 p0_3 p0_4 p0_5 JJ) 2 (((c0_150 p0_0 JJ)).toNatClampNeg))
def w0_168_state_1 (p0_0 : Int64) (JJ : Int64 → Int32 → Nat) : Int64 := (own_it ((JJ (w0_150_state p0_0 JJ) (2 : Int32)) + 1) (w0_150_state p0_0 JJ))
def c0_168_1 (p0_0 : Int64) (JJ : Int64 → Int32 → Nat) : Int32 := (r4 (2 : Int32) (JJ (w0_150_state p0_0 JJ) (2 : Int32)) (w0_150_state p0_0 JJ))
def g0_171_2 (p0_0 : Int64) (p0_2 : Int32) (p0_3 : Int32) (p0_4 : Int32) (p0_5 : Int32) (JJ : Int64 → Int32 → Nat) : Nat → Int32 := (own_swap (g0_153_1 p0_0 p0_2 p0_3 p0_4 p0_5 JJ) 1 (((c0_168_1 p0_0 JJ)).toNatClampNeg))
def w0_238_state_3 (p0_0 : Int64) (p0_1 : Int32) (p0_2 : Int32) (p0_3 : Int32) (p0_4 : Int32) (p0_5 : Int32) (JJ : Int64 → Int32 → Nat) : Int64 := (v5_9 (own_sh JJ (own_k p0_1) p0_0 (g0_41 p0_2 p0_3 p0_4 p0_5)).1)
def c0_238_3 (p0_0 : Int64) (p0_1 : Int32) (p0_2 : Int32) (p0_3 : Int32) (p0_4 : Int32) (p0_5 : Int32) (JJ : Int64 → Int32 → Nat) : Int64 := (r5 (own_sh JJ (own_k p0_1) p0_0 (g0_41 p0_2 p0_3 p0_4 p0_5)).1)
def g0_117 (p0_0 : Int64) (p0_2 : Int32) (p0_3 : Int32) (p0_4 : Int32) (p0_5 : Int32) (JJ : Int64 → Int32 → Nat) : Nat → Int32 := (own_swap (g0_70 p0_2 p0_3 p0_4 p0_5) 4 (((r4 (5 : Int32) (JJ p0_0 (5 : Int32)) p0_0)).toNatClampNeg))
def w0_132_state (p0_0 : Int64) (JJ : Int64 → Int32 → Nat) : Int64 := (own_it ((JJ (own_it ((JJ p0_0 (5 : Int32)) + 1) p0_0) (4 : Int32)) + 1) (own_it ((JJ p0_0 (5 : Int32)) + 1) p0_0))
def c0_132 (p0_0 : Int64) (JJ : Int64 → Int32 → Nat) : Int32 := (r4 (4 : Int32) (JJ (own_it ((JJ p0_0 (5 : Int32)) + 1) p0_0) (4 : Int32)) (own_it ((JJ p0_0 (5 : Int32)) + 1) p0_0))
def g0_135_1 (p0_0 : Int64) (p0_2 : Int32) (p0_3 : Int32) (p0_4 : Int32) (p0_5 : Int32) (JJ : Int64 → Int32 → Nat) : Nat → Int32 := (own_swap (g0_117 p0_0 p0_2 p0_3 p0_4 p0_5 JJ) 3 (((c0_132 p0_0 JJ)).toNatClampNeg))
def w0_150_state_1 (p0_0 : Int64) (JJ : Int64 → Int32 → Nat) : Int64 := (own_it ((JJ (w0_132_state p0_0 JJ) (3 : Int32)) + 1) (w0_132_state p0_0 JJ))
def c0_150_1 (p0_0 : Int64) (JJ : Int64 → Int32 → Nat) : Int32 := (r4 (3 : Int32) (JJ (w0_132_state p0_0 JJ) (3 : Int32)) (w0_132_state p0_0 JJ))
def g0_153_2 (p0_0 : Int64) (p0_2 : Int32) (p0_3 : Int32) (p0_4 : Int32) (p0_5 : Int32) (JJ : Int64 → Int32 → Nat) : Nat → Int32 := (own_swap (g0_135_1 p0_0 p0_2 p0_3 p0_4 p0_5 JJ) 2 (((c0_150_1 p0_0 JJ)).toNatClampNeg))
def w0_168_state_2 (p0_0 : Int64) (JJ : Int64 → Int32 → Nat) : Int64 := (own_it ((JJ (w0_150_state_1 p0_0 JJ) (2 : Int32)) + 1) (w0_150_state_1 p0_0 JJ))
def c0_168_2 (p0_0 : Int64) (JJ : Int64 → Int32 → Nat) : Int32 := (r4 (2 : Int32) (JJ (w0_150_state_1 p0_0 JJ) (2 : Int32)) (w0_150_state_1 p0_0 JJ))
def g0_171_3 (p0_0 : Int64) (p0_2 : Int32) (p0_3 : Int32) (p0_4 : Int32) (p0_5 : Int32) (JJ : Int64 → Int32 → Nat) : Nat → Int32 := (own_swap (g0_153_2 p0_0 p0_2 p0_3 p0_4 p0_5 JJ) 1 (((c0_168_2 p0_0 JJ)).toNatClampNeg))
def w0_238_state_4 (p0_0 : Int64) (p0_1 : Int32) (p0_2 : Int32) (p0_3 : Int32) (p0_4 : Int32) (p0_5 : Int32) (JJ : Int64 → Int32 → Nat) : Int64 := (v5_9 (own_sh JJ (own_k p0_1) p0_0 (g0_41 p0_2 p0_3 p0_4 p0_5)).1)
def c0_238_4 (p0_0 : Int64) (p0_1 : Int32) (p0_2 : Int32) (p0_3 : Int32) (p0_4 : Int32) (p0_5 : Int32) (JJ : Int64 → Int32 → Nat) : Int64 := (r5 (own_sh JJ (own_k p0_1) p0_0 (g0_41 p0_2 p0_3 p0_4 p0_5)).1)
theorem own_n (len : Int32) : 0 ≤ (v0_7 len).toInt ∧ (v0_7 len).toInt < 6 ∧ own_k len = (v0_7 len).toInt.toNat - 1 := by
  have a1 : (len &&& (2147483647 : Int32)).toInt = len.toInt % 2 ^ 31 := Jvm.Kit.i32_mask len _ (k := 31) (by decide) (by decide)
  have e : (v0_7 len).toInt = (len.toInt % 2 ^ 31) % 6 := by unfold v0_7; rw [Jvm.Kit.i32_rem_nonneg (by omega), a1]; rfl
  refine ⟨by omega, by omega, rfl⟩
theorem own_kl (len : Int32) : own_k len < 5 := by have := own_n len; omega
theorem own_kk (len : Int32) : (own_k len = 0 ∧ ¬ (0 : Int32) < ((v0_7 len) - (1 : Int32))) ∨ (0 < own_k len ∧ ((v0_7 len) - (1 : Int32)) = Int32.ofNat (own_k len)) := by
  have h := own_n len
  have o : (1 : Int32).toInt = 1 := rfl
  have e : ((v0_7 len) - (1 : Int32)).toInt = (v0_7 len).toInt - 1 := by rw [Jvm.Kit.i32_sub (by rw [o]; omega) (by rw [o]; omega), o]
  by_cases q : own_k len = 0
  · refine Or.inl ⟨q, ?_⟩
    rw [Int32.lt_iff_toInt_lt, e, show (0 : Int32).toInt = 0 from rfl]; omega
  · refine Or.inr ⟨by omega, Int32.toInt_inj.mp ?_⟩
    rw [e, Int32.toInt_ofNat_of_lt (by omega)]; omega
theorem own_up (len : Int32) {b c : Int32} (h : ¬ v0_7 len < c) (hbc : b ≤ c) : ¬ v0_7 len < b := by
  rw [Int32.lt_iff_toInt_lt] at *
  rw [Int32.le_iff_toInt_le] at hbc
  omega
theorem own_ks (len : Int32) (b : Int32) (j : Nat) (hb : b.toInt = (j : Int) + 2) (h1 : v0_7 len < b) (h2 : ¬ v0_7 len < (Int32.ofNat (j + 1))) (hj : j < 5) : own_k len = j := by
  have h := own_n len
  rw [Int32.lt_iff_toInt_lt] at *
  rw [Int32.toInt_ofNat_of_lt (by omega)] at h2
  omega
theorem own_w2 : (Int32.ofNat (0 + 1)) + (1 : Int32) = 2 := by decide +kernel
theorem own_w3 : (Int32.ofNat (1 + 1)) + (1 : Int32) = 3 := by decide +kernel
theorem own_w4 : (Int32.ofNat (2 + 1)) + (1 : Int32) = 4 := by decide +kernel
theorem own_w5 : (Int32.ofNat (3 + 1)) + (1 : Int32) = 5 := by decide +kernel
theorem own_k0 (len : Int32) (h2 : v0_7 len < (2 : Int32)) : own_k len = 0 := by
  have h := own_n len
  rw [Int32.lt_iff_toInt_lt, show (2 : Int32).toInt = 2 from rfl] at h2
  omega
theorem own_k1 (len : Int32) (h3 : v0_7 len < (3 : Int32)) (h2 : ¬ v0_7 len < (2 : Int32)) : own_k len = 0 + 1 := by
  have h := own_n len
  rw [Int32.lt_iff_toInt_lt, show (2 : Int32).toInt = 2 from rfl] at h2
  rw [Int32.lt_iff_toInt_lt, show (3 : Int32).toInt = 3 from rfl] at h3
  omega
theorem own_k2 (len : Int32) (h3 : v0_7 len < (4 : Int32)) (h2 : ¬ v0_7 len < (3 : Int32)) : own_k len = 0 + 1 + 1 := by
  have h := own_n len
  rw [Int32.lt_iff_toInt_lt, show (3 : Int32).toInt = 3 from rfl] at h2
  rw [Int32.lt_iff_toInt_lt, show (4 : Int32).toInt = 4 from rfl] at h3
  omega
theorem own_k3 (len : Int32) (h3 : v0_7 len < (5 : Int32)) (h2 : ¬ v0_7 len < (4 : Int32)) : own_k len = 0 + 1 + 1 + 1 := by
  have h := own_n len
  rw [Int32.lt_iff_toInt_lt, show (4 : Int32).toInt = 4 from rfl] at h2
  rw [Int32.lt_iff_toInt_lt, show (5 : Int32).toInt = 5 from rfl] at h3
  omega
theorem own_k4 (len : Int32) (h2 : ¬ v0_7 len < (5 : Int32)) : own_k len = 0 + 1 + 1 + 1 + 1 := by
  have h := own_n len
  rw [Int32.lt_iff_toInt_lt, show (5 : Int32).toInt = 5 from rfl] at h2
  omega
theorem own_all1 (s : Int64) (len a b c d : Int32) (JJ : Int64 → Int32 → Nat) (h : own_k len = 0 + 1) : own_sh JJ (own_k len) s (g0_41 a b c d) = (own_it ((JJ s (2 : Int32)) + 1) s, g0_171 s a b c d JJ) := by
  rw [h]; simp only [own_sh1, own_sh0, own_jx, own_w2, g0_171, g0_41, g0_31, g0_70, g0_60]
theorem own_all2 (s : Int64) (len a b c d : Int32) (JJ : Int64 → Int32 → Nat) (h : own_k len = 0 + 1 + 1) : own_sh JJ (own_k len) s (g0_41 a b c d) = (w0_168_state s JJ, g0_171_1 s a b c d JJ) := by
  rw [h]; simp only [own_sh1, own_sh0, own_jx, own_w2, own_w3, w0_168_state, g0_171_1, c0_168, g0_153, g0_41, g0_31, g0_70, g0_60]
theorem own_all3 (s : Int64) (len a b c d : Int32) (JJ : Int64 → Int32 → Nat) (h : own_k len = 0 + 1 + 1 + 1) : own_sh JJ (own_k len) s (g0_41 a b c d) = (w0_168_state_1 s JJ, g0_171_2 s a b c d JJ) := by
  rw [h]; simp only [own_sh1, own_sh0, own_jx, own_w2, own_w3, own_w4, w0_168_state_1, w0_150_state, g0_171_2, c0_168_1, g0_153_1, c0_150, g0_135, g0_41, g0_31, g0_70, g0_60]
theorem own_all4 (s : Int64) (len a b c d : Int32) (JJ : Int64 → Int32 → Nat) (h : own_k len = 0 + 1 + 1 + 1 + 1) : own_sh JJ (own_k len) s (g0_41 a b c d) = (w0_168_state_2 s JJ, g0_171_3 s a b c d JJ) := by
  rw [h]; simp only [own_sh1, own_sh0, own_jx, own_w2, own_w3, own_w4, own_w5, w0_168_state_2, w0_150_state_1, w0_132_state, g0_171_3, c0_168_2, g0_153_2, c0_150_1, g0_135_1, c0_132, g0_117, g0_41, g0_31, g0_70, g0_60]
theorem own_eq0 (s : Int64) (len a b c d : Int32) (JJ : Int64 → Int32 → Nat) (h5 : v0_7 len < (5 : Int32)) (h4 : v0_7 len < (4 : Int32)) (h3 : v0_7 len < (3 : Int32)) (h2 : v0_7 len < (2 : Int32)) : (own_sh JJ (own_k len) s (g0_41 a b c d)).2 = g0_70 a b c d := by rw [own_k0 len h2]; rfl
theorem own_s0 (s : Int64) (len a b c d : Int32) (JJ : Int64 → Int32 → Nat) (h5 : v0_7 len < (5 : Int32)) (h4 : v0_7 len < (4 : Int32)) (h3 : v0_7 len < (3 : Int32)) (h2 : v0_7 len < (2 : Int32)) : (own_sh JJ (own_k len) s (g0_41 a b c d)).1 = s := by rw [own_k0 len h2]; rfl
theorem own_eq1 (s : Int64) (len a b c d : Int32) (JJ : Int64 → Int32 → Nat) (h5 : v0_7 len < (5 : Int32)) (h4 : v0_7 len < (4 : Int32)) (h3 : v0_7 len < (3 : Int32)) (h2 : ¬ v0_7 len < (2 : Int32)) : (own_sh JJ (own_k len) s (g0_41 a b c d)).2 = g0_171 s a b c d JJ := by rw [own_all1 s len a b c d JJ (own_k1 len h3 h2)]
theorem own_s1 (s : Int64) (len a b c d : Int32) (JJ : Int64 → Int32 → Nat) (h5 : v0_7 len < (5 : Int32)) (h4 : v0_7 len < (4 : Int32)) (h3 : v0_7 len < (3 : Int32)) (h2 : ¬ v0_7 len < (2 : Int32)) : (own_sh JJ (own_k len) s (g0_41 a b c d)).1 = own_it ((JJ s (2 : Int32)) + 1) s := by rw [own_all1 s len a b c d JJ (own_k1 len h3 h2)]
theorem own_eq2 (s : Int64) (len a b c d : Int32) (JJ : Int64 → Int32 → Nat) (h5 : v0_7 len < (5 : Int32)) (h4 : v0_7 len < (4 : Int32)) (h3 : ¬ v0_7 len < (3 : Int32)) : (own_sh JJ (own_k len) s (g0_41 a b c d)).2 = g0_171_1 s a b c d JJ := by rw [own_all2 s len a b c d JJ (own_k2 len h4 h3)]
theorem own_s2 (s : Int64) (len a b c d : Int32) (JJ : Int64 → Int32 → Nat) (h5 : v0_7 len < (5 : Int32)) (h4 : v0_7 len < (4 : Int32)) (h3 : ¬ v0_7 len < (3 : Int32)) : (own_sh JJ (own_k len) s (g0_41 a b c d)).1 = w0_168_state s JJ := by rw [own_all2 s len a b c d JJ (own_k2 len h4 h3)]
theorem own_eq3 (s : Int64) (len a b c d : Int32) (JJ : Int64 → Int32 → Nat) (h5 : v0_7 len < (5 : Int32)) (h4 : ¬ v0_7 len < (4 : Int32)) : (own_sh JJ (own_k len) s (g0_41 a b c d)).2 = g0_171_2 s a b c d JJ := by rw [own_all3 s len a b c d JJ (own_k3 len h5 h4)]
theorem own_s3 (s : Int64) (len a b c d : Int32) (JJ : Int64 → Int32 → Nat) (h5 : v0_7 len < (5 : Int32)) (h4 : ¬ v0_7 len < (4 : Int32)) : (own_sh JJ (own_k len) s (g0_41 a b c d)).1 = w0_168_state_1 s JJ := by rw [own_all3 s len a b c d JJ (own_k3 len h5 h4)]
theorem own_eq4 (s : Int64) (len a b c d : Int32) (JJ : Int64 → Int32 → Nat) (h5 : ¬ v0_7 len < (5 : Int32)) : (own_sh JJ (own_k len) s (g0_41 a b c d)).2 = g0_171_3 s a b c d JJ := by rw [own_all4 s len a b c d JJ (own_k4 len h5)]
theorem own_s4 (s : Int64) (len a b c d : Int32) (JJ : Int64 → Int32 → Nat) (h5 : ¬ v0_7 len < (5 : Int32)) : (own_sh JJ (own_k len) s (g0_41 a b c d)).1 = w0_168_state_2 s JJ := by rw [own_all4 s len a b c d JJ (own_k4 len h5)]
def Q0 (Z : State) (p0_0 : Int64) (p0_1 : Int32) (p0_2 : Int32) (p0_3 : Int32) (p0_4 : Int32) (p0_5 : Int32) (JJ : Int64 → Int32 → Nat) (h0 : Heap) (n0 : Nat) (v : Option Value) (h : Heap) (L : List Loc) : Prop := v = some (.int (1 : Int32)) ∧ Fr n0 L
set_option maxRecDepth 65536 in
set_option maxHeartbeats 40000000 in
theorem rm0 (l : Launch) (Z : State) (a0 : Array Value) (hw : ∀ d ∈ tables_1, d.before a0 Z = true) (ws : List Jvm.Cond) (p0_0 : Int64) (p0_1 : Int32) (p0_2 : Int32) (p0_3 : Int32) (p0_4 : Int32) (p0_5 : Int32) (JJ : Int64 → Int32 → Nat) (h0 : Heap) (n0 : Nat) (Z0 : n0 ≤ h0.size) (hJ : own_good JJ) :
    MetFree l x (head1 (Jvm.Cond.code x code maxLocals ret :: ws) room_1) (fun a U => a = #[(.long p0_0), (.int p0_1), (.int p0_2), (.int p0_3), (.int p0_4), (.int p0_5)] ∧ Z.Warmed39 U.vm ∧ U.heap = h0) (fun _ _ _ _ _ => True) (fun _ U o U' => ∃ v L, o = .returned v ∧ Q0 Z p0_0 p0_1 p0_2 p0_3 p0_4 p0_5 JJ h0 n0 v U'.heap L ∧ FrameEnd U o U' L room_1.cells room_1.slots) := by
  refine MetFree.of_bodySF (plainFor_of_name pn_1) hisR ?_
  intro p e s m args below meth c s₁ Bd hml0 hP hK
  obtain ⟨rfl, hZ, hh⟩ := hP
  have hx := Bd.exec
  have hby := Bd.bytes
  have hml : c.maxLocals = 15 := hml0
  have hown : s.vm.findClass "com/example/consigliere/consigliere/engine/RngShufflePinLaw" = some m.cls := findClass_of_methodNamed Bd.named
  have hnm := (name_of_methodNamed Bd.named Bd.method).1
  have X0 : Stand p l e room_1 s m #[(.long p0_0), (.int p0_1), (.int p0_2), (.int p0_3), (.int p0_4), (.int p0_5)] below meth c s₁ [] 0 0 := Stand.of_body Bd
  have e0 : s₁.heap = h0 := by rw [← hh, Bd.state]; rfl
  have N0 := Fr.nil n0
  have pre0 : ∀ t, Steps p.tables e below (s₁.setTop (mkF m 0 #[.val (.long p0_0), .second, .val (.int p0_1), .val (.int p0_2), .val (.int p0_3), .val (.int p0_4), .val (.int p0_5), .unset, .unset, .unset, .unset, .unset, .unset, .unset, .unset] [])) t → Steps p.tables e below (s₁.setTop (entryFrame m #[(.long p0_0), (.int p0_1), (.int p0_2), (.int p0_3), (.int p0_4), (.int p0_5)] maxLocals)) t := fun t k => castTop (ef_0 m p0_0 p0_1 p0_2 p0_3 p0_4 p0_5) k
  have pre1 : ∀ t, Steps p.tables e below (s₁.setTop (mkF m 16 #[.val (.long p0_0), .second, .val (.int p0_1), .val (.int p0_2), .val (.int p0_3), .val (.int p0_4), .val (.int p0_5), .val (.int (v0_7 p0_1)), .val (.int (v0_13 p0_5)), .unset, .unset, .unset, .unset, .unset, .unset] [(.int (5 : Int32))])) t → Steps p.tables e below (s₁.setTop (entryFrame m #[(.long p0_0), (.int p0_1), (.int p0_2), (.int p0_3), (.int p0_4), (.int p0_5)] maxLocals)) t := fun t k => pre0 t (by
    refine XS.iloadN X0.here hx rfl (hb hby at_0) rfl ?_
    show Steps p.tables e below (s₁.setTop (mkF m 1 #[.val (.long p0_0), .second, .val (.int p0_1), .val (.int p0_2), .val (.int p0_3), .val (.int p0_4), .val (.int p0_5), .unset, .unset, .unset, .unset, .unset, .unset, .unset, .unset] [(.int p0_1)])) _
    refine X0.ldcInt hx hown (mvT hZ (hw _ (List.mem_of_getElem? (i := 0) rfl))) (g := (mkF m 1 #[.val (.long p0_0), .second, .val (.int p0_1), .val (.int p0_2), .val (.int p0_3), .val (.int p0_4), .val (.int p0_5), .unset, .unset, .unset, .unset, .unset, .unset, .unset, .unset] [(.int p0_1)])) rfl (hb hby at_1) _ ?_
    show Steps p.tables e below (s₁.setTop (mkF m 3 #[.val (.long p0_0), .second, .val (.int p0_1), .val (.int p0_2), .val (.int p0_3), .val (.int p0_4), .val (.int p0_5), .unset, .unset, .unset, .unset, .unset, .unset, .unset, .unset] [(.int (2147483647 : Int32)), (.int p0_1)])) _
    refine XS.iand X0.here hx rfl (hb hby at_3) rfl ?_
    show Steps p.tables e below (s₁.setTop (mkF m 4 #[.val (.long p0_0), .second, .val (.int p0_1), .val (.int p0_2), .val (.int p0_3), .val (.int p0_4), .val (.int p0_5), .unset, .unset, .unset, .unset, .unset, .unset, .unset, .unset] [(.int (p0_1 &&& (2147483647 : Int32)))])) _
    refine XS.bipush X0.here hx rfl (hb hby at_4) ?_
    show Steps p.tables e below (s₁.setTop (mkF m 6 #[.val (.long p0_0), .second, .val (.int p0_1), .val (.int p0_2), .val (.int p0_3), .val (.int p0_4), .val (.int p0_5), .unset, .unset, .unset, .unset, .unset, .unset, .unset, .unset] [(.int (6 : Int32)), (.int (p0_1 &&& (2147483647 : Int32)))])) _
    refine iremM (g := (mkF m 6 #[.val (.long p0_0), .second, .val (.int p0_1), .val (.int p0_2), .val (.int p0_3), .val (.int p0_4), .val (.int p0_5), .unset, .unset, .unset, .unset, .unset, .unset, .unset, .unset] [(.int (6 : Int32)), (.int (p0_1 &&& (2147483647 : Int32)))])) X0 hx rfl (hb hby at_6) rfl (by decide) ?_
    show Steps p.tables e below (s₁.setTop (mkF m 7 #[.val (.long p0_0), .second, .val (.int p0_1), .val (.int p0_2), .val (.int p0_3), .val (.int p0_4), .val (.int p0_5), .unset, .unset, .unset, .unset, .unset, .unset, .unset, .unset] [(.int ((p0_1 &&& (2147483647 : Int32)) % (6 : Int32)))])) _
    show Steps p.tables e below (s₁.setTop (mkF m 7 #[.val (.long p0_0), .second, .val (.int p0_1), .val (.int p0_2), .val (.int p0_3), .val (.int p0_4), .val (.int p0_5), .unset, .unset, .unset, .unset, .unset, .unset, .unset, .unset] [(.int (v0_7 p0_1))])) _
    refine XS.istore X0.here hx rfl (hb hby at_7) rfl (l' := #[.val (.long p0_0), .second, .val (.int p0_1), .val (.int p0_2), .val (.int p0_3), .val (.int p0_4), .val (.int p0_5), .val (.int (v0_7 p0_1)), .unset, .unset, .unset, .unset, .unset, .unset, .unset]) rfl ?_
    show Steps p.tables e below (s₁.setTop (mkF m 9 #[.val (.long p0_0), .second, .val (.int p0_1), .val (.int p0_2), .val (.int p0_3), .val (.int p0_4), .val (.int p0_5), .val (.int (v0_7 p0_1)), .unset, .unset, .unset, .unset, .unset, .unset, .unset] [])) _
    refine XS.iload X0.here hx rfl (hb hby at_9) rfl ?_
    show Steps p.tables e below (s₁.setTop (mkF m 11 #[.val (.long p0_0), .second, .val (.int p0_1), .val (.int p0_2), .val (.int p0_3), .val (.int p0_4), .val (.int p0_5), .val (.int (v0_7 p0_1)), .unset, .unset, .unset, .unset, .unset, .unset, .unset] [(.int p0_5)])) _
    refine XS.iconst X0.here hx rfl (hb hby at_11) ?_
    show Steps p.tables e below (s₁.setTop (mkF m 12 #[.val (.long p0_0), .second, .val (.int p0_1), .val (.int p0_2), .val (.int p0_3), .val (.int p0_4), .val (.int p0_5), .val (.int (v0_7 p0_1)), .unset, .unset, .unset, .unset, .unset, .unset, .unset] [(.int (-1 : Int32)), (.int p0_5)])) _
    refine XS.ixor X0.here hx rfl (hb hby at_12) rfl ?_
    show Steps p.tables e below (s₁.setTop (mkF m 13 #[.val (.long p0_0), .second, .val (.int p0_1), .val (.int p0_2), .val (.int p0_3), .val (.int p0_4), .val (.int p0_5), .val (.int (v0_7 p0_1)), .unset, .unset, .unset, .unset, .unset, .unset, .unset] [(.int (p0_5 ^^^ (-1 : Int32)))])) _
    show Steps p.tables e below (s₁.setTop (mkF m 13 #[.val (.long p0_0), .second, .val (.int p0_1), .val (.int p0_2), .val (.int p0_3), .val (.int p0_4), .val (.int p0_5), .val (.int (v0_7 p0_1)), .unset, .unset, .unset, .unset, .unset, .unset, .unset] [(.int (v0_13 p0_5))])) _
    refine XS.istore X0.here hx rfl (hb hby at_13) rfl (l' := #[.val (.long p0_0), .second, .val (.int p0_1), .val (.int p0_2), .val (.int p0_3), .val (.int p0_4), .val (.int p0_5), .val (.int (v0_7 p0_1)), .val (.int (v0_13 p0_5)), .unset, .unset, .unset, .unset, .unset, .unset]) rfl ?_
    show Steps p.tables e below (s₁.setTop (mkF m 15 #[.val (.long p0_0), .second, .val (.int p0_1), .val (.int p0_2), .val (.int p0_3), .val (.int p0_4), .val (.int p0_5), .val (.int (v0_7 p0_1)), .val (.int (v0_13 p0_5)), .unset, .unset, .unset, .unset, .unset, .unset] [])) _
    refine XS.iconst X0.here hx rfl (hb hby at_15) ?_
    show Steps p.tables e below (s₁.setTop (mkF m 16 #[.val (.long p0_0), .second, .val (.int p0_1), .val (.int p0_2), .val (.int p0_3), .val (.int p0_4), .val (.int p0_5), .val (.int (v0_7 p0_1)), .val (.int (v0_13 p0_5)), .unset, .unset, .unset, .unset, .unset, .unset] [(.int (5 : Int32))])) _
    exact k)
  obtain ⟨T2, h2, k2, X2, e2, E2, A2, st2⟩ := newP X0 hx hZ (hw _ (List.mem_of_getElem? (i := 1) rfl)) e0 (g := (mkF m 16 #[.val (.long p0_0), .second, .val (.int p0_1), .val (.int p0_2), .val (.int p0_3), .val (.int p0_4), .val (.int p0_5), .val (.int (v0_7 p0_1)), .val (.int (v0_13 p0_5)), .unset, .unset, .unset, .unset, .unset, .unset] [(.int (5 : Int32))])) rfl (hb hby at_16) rfl (by decide) (cap := 5) (by decide) (by decide) (by decide) (by decide)
  obtain ⟨b2, q2⟩ : ∃ z, z = h0.size := ⟨_, rfl⟩
  rw [← q2] at A2 st2
  have g_b2 : n0 ≤ b2 := Nat.le_trans Z0 (Nat.le_of_eq q2.symm)
  have Z2 : n0 ≤ h2.size := Nat.le_trans Z0 E2.1
  have B2 : ArI Z h2 b2 .int 5 (fun _ => (0 : Int32)) := ArI.new rfl A2 (by decide)
  have pre2 : ∀ t, Steps p.tables e below (T2.setTop (mkF m 18 #[.val (.long p0_0), .second, .val (.int p0_1), .val (.int p0_2), .val (.int p0_3), .val (.int p0_4), .val (.int p0_5), .val (.int (v0_7 p0_1)), .val (.int (v0_13 p0_5)), .unset, .unset, .unset, .unset, .unset, .unset] [(.ref b2)])) t → Steps p.tables e below (s₁.setTop (entryFrame m #[(.long p0_0), (.int p0_1), (.int p0_2), (.int p0_3), (.int p0_4), (.int p0_5)] maxLocals)) t := fun t k => pre1 t (st2 t k)
  have pre3 : ∀ t, Steps p.tables e below (T2.setTop (mkF m 21 #[.val (.long p0_0), .second, .val (.int p0_1), .val (.int p0_2), .val (.int p0_3), .val (.int p0_4), .val (.int p0_5), .val (.int (v0_7 p0_1)), .val (.int (v0_13 p0_5)), .unset, .unset, .unset, .unset, .unset, .unset] [(.int p0_2), (.int (0 : Int32)), (.ref b2), (.ref b2)])) t → Steps p.tables e below (s₁.setTop (entryFrame m #[(.long p0_0), (.int p0_1), (.int p0_2), (.int p0_3), (.int p0_4), (.int p0_5)] maxLocals)) t := fun t k => pre2 t (by
    refine XS.dup X2.here hx rfl (hb hby at_18) rfl rfl ?_
    show Steps p.tables e below (T2.setTop (mkF m 19 #[.val (.long p0_0), .second, .val (.int p0_1), .val (.int p0_2), .val (.int p0_3), .val (.int p0_4), .val (.int p0_5), .val (.int (v0_7 p0_1)), .val (.int (v0_13 p0_5)), .unset, .unset, .unset, .unset, .unset, .unset] [(.ref b2), (.ref b2)])) _
    refine XS.iconst X2.here hx rfl (hb hby at_19) ?_
    show Steps p.tables e below (T2.setTop (mkF m 20 #[.val (.long p0_0), .second, .val (.int p0_1), .val (.int p0_2), .val (.int p0_3), .val (.int p0_4), .val (.int p0_5), .val (.int (v0_7 p0_1)), .val (.int (v0_13 p0_5)), .unset, .unset, .unset, .unset, .unset, .unset] [(.int (0 : Int32)), (.ref b2), (.ref b2)])) _
    refine XS.iloadN X2.here hx rfl (hb hby at_20) rfl ?_
    show Steps p.tables e below (T2.setTop (mkF m 21 #[.val (.long p0_0), .second, .val (.int p0_1), .val (.int p0_2), .val (.int p0_3), .val (.int p0_4), .val (.int p0_5), .val (.int (v0_7 p0_1)), .val (.int (v0_13 p0_5)), .unset, .unset, .unset, .unset, .unset, .unset] [(.int p0_2), (.int (0 : Int32)), (.ref b2), (.ref b2)])) _
    exact k)
  obtain ⟨T4, h4, X4, e4, W4, B4, st4⟩ := own_stI X2 hx hZ e2 B2 (j := (0 : Int32)) (i := 0) (by decide) (by decide) (g := (mkF m 21 #[.val (.long p0_0), .second, .val (.int p0_1), .val (.int p0_2), .val (.int p0_3), .val (.int p0_4), .val (.int p0_5), .val (.int (v0_7 p0_1)), .val (.int (v0_13 p0_5)), .unset, .unset, .unset, .unset, .unset, .unset] [(.int p0_2), (.int (0 : Int32)), (.ref b2), (.ref b2)])) rfl rfl (hb hby at_21)
  have N4 := Fr.snoc X4 N0 g_b2
  have Z4 : n0 ≤ h4.size := Nat.le_trans Z2 (Keep.of_wr W4).1
  have pre4 : ∀ t, Steps p.tables e below (T4.setTop (mkF m 22 #[.val (.long p0_0), .second, .val (.int p0_1), .val (.int p0_2), .val (.int p0_3), .val (.int p0_4), .val (.int p0_5), .val (.int (v0_7 p0_1)), .val (.int (v0_13 p0_5)), .unset, .unset, .unset, .unset, .unset, .unset] [(.ref b2)])) t → Steps p.tables e below (s₁.setTop (entryFrame m #[(.long p0_0), (.int p0_1), (.int p0_2), (.int p0_3), (.int p0_4), (.int p0_5)] maxLocals)) t := fun t k => pre3 t (st4 t k)
  have pre5 : ∀ t, Steps p.tables e below (T4.setTop (mkF m 26 #[.val (.long p0_0), .second, .val (.int p0_1), .val (.int p0_2), .val (.int p0_3), .val (.int p0_4), .val (.int p0_5), .val (.int (v0_7 p0_1)), .val (.int (v0_13 p0_5)), .unset, .unset, .unset, .unset, .unset, .unset] [(.int p0_3), (.int (1 : Int32)), (.ref b2), (.ref b2)])) t → Steps p.tables e below (s₁.setTop (entryFrame m #[(.long p0_0), (.int p0_1), (.int p0_2), (.int p0_3), (.int p0_4), (.int p0_5)] maxLocals)) t := fun t k => pre4 t (by
    refine XS.dup X4.here hx rfl (hb hby at_22) rfl rfl ?_
    show Steps p.tables e below (T4.setTop (mkF m 23 #[.val (.long p0_0), .second, .val (.int p0_1), .val (.int p0_2), .val (.int p0_3), .val (.int p0_4), .val (.int p0_5), .val (.int (v0_7 p0_1)), .val (.int (v0_13 p0_5)), .unset, .unset, .unset, .unset, .unset, .unset] [(.ref b2), (.ref b2)])) _
    refine XS.iconst X4.here hx rfl (hb hby at_23) ?_
    show Steps p.tables e below (T4.setTop (mkF m 24 #[.val (.long p0_0), .second, .val (.int p0_1), .val (.int p0_2), .val (.int p0_3), .val (.int p0_4), .val (.int p0_5), .val (.int (v0_7 p0_1)), .val (.int (v0_13 p0_5)), .unset, .unset, .unset, .unset, .unset, .unset] [(.int (1 : Int32)), (.ref b2), (.ref b2)])) _
    refine XS.iload X4.here hx rfl (hb hby at_24) rfl ?_
    show Steps p.tables e below (T4.setTop (mkF m 26 #[.val (.long p0_0), .second, .val (.int p0_1), .val (.int p0_2), .val (.int p0_3), .val (.int p0_4), .val (.int p0_5), .val (.int (v0_7 p0_1)), .val (.int (v0_13 p0_5)), .unset, .unset, .unset, .unset, .unset, .unset] [(.int p0_3), (.int (1 : Int32)), (.ref b2), (.ref b2)])) _
    exact k)
  obtain ⟨T6, h6, X6, e6, W6, B6, st6⟩ := own_stI X4 hx hZ e4 B4 (j := (1 : Int32)) (i := 1) (by decide) (by decide) (g := (mkF m 26 #[.val (.long p0_0), .second, .val (.int p0_1), .val (.int p0_2), .val (.int p0_3), .val (.int p0_4), .val (.int p0_5), .val (.int (v0_7 p0_1)), .val (.int (v0_13 p0_5)), .unset, .unset, .unset, .unset, .unset, .unset] [(.int p0_3), (.int (1 : Int32)), (.ref b2), (.ref b2)])) rfl rfl (hb hby at_26)
  have N6 := Fr.snoc X6 N4 g_b2
  have Z6 : n0 ≤ h6.size := Nat.le_trans Z4 (Keep.of_wr W6).1
  have pre6 : ∀ t, Steps p.tables e below (T6.setTop (mkF m 27 #[.val (.long p0_0), .second, .val (.int p0_1), .val (.int p0_2), .val (.int p0_3), .val (.int p0_4), .val (.int p0_5), .val (.int (v0_7 p0_1)), .val (.int (v0_13 p0_5)), .unset, .unset, .unset, .unset, .unset, .unset] [(.ref b2)])) t → Steps p.tables e below (s₁.setTop (entryFrame m #[(.long p0_0), (.int p0_1), (.int p0_2), (.int p0_3), (.int p0_4), (.int p0_5)] maxLocals)) t := fun t k => pre5 t (st6 t k)
  have pre7 : ∀ t, Steps p.tables e below (T6.setTop (mkF m 31 #[.val (.long p0_0), .second, .val (.int p0_1), .val (.int p0_2), .val (.int p0_3), .val (.int p0_4), .val (.int p0_5), .val (.int (v0_7 p0_1)), .val (.int (v0_13 p0_5)), .unset, .unset, .unset, .unset, .unset, .unset] [(.int p0_4), (.int (2 : Int32)), (.ref b2), (.ref b2)])) t → Steps p.tables e below (s₁.setTop (entryFrame m #[(.long p0_0), (.int p0_1), (.int p0_2), (.int p0_3), (.int p0_4), (.int p0_5)] maxLocals)) t := fun t k => pre6 t (by
    refine XS.dup X6.here hx rfl (hb hby at_27) rfl rfl ?_
    show Steps p.tables e below (T6.setTop (mkF m 28 #[.val (.long p0_0), .second, .val (.int p0_1), .val (.int p0_2), .val (.int p0_3), .val (.int p0_4), .val (.int p0_5), .val (.int (v0_7 p0_1)), .val (.int (v0_13 p0_5)), .unset, .unset, .unset, .unset, .unset, .unset] [(.ref b2), (.ref b2)])) _
    refine XS.iconst X6.here hx rfl (hb hby at_28) ?_
    show Steps p.tables e below (T6.setTop (mkF m 29 #[.val (.long p0_0), .second, .val (.int p0_1), .val (.int p0_2), .val (.int p0_3), .val (.int p0_4), .val (.int p0_5), .val (.int (v0_7 p0_1)), .val (.int (v0_13 p0_5)), .unset, .unset, .unset, .unset, .unset, .unset] [(.int (2 : Int32)), (.ref b2), (.ref b2)])) _
    refine XS.iload X6.here hx rfl (hb hby at_29) rfl ?_
    show Steps p.tables e below (T6.setTop (mkF m 31 #[.val (.long p0_0), .second, .val (.int p0_1), .val (.int p0_2), .val (.int p0_3), .val (.int p0_4), .val (.int p0_5), .val (.int (v0_7 p0_1)), .val (.int (v0_13 p0_5)), .unset, .unset, .unset, .unset, .unset, .unset] [(.int p0_4), (.int (2 : Int32)), (.ref b2), (.ref b2)])) _
    exact k)
  obtain ⟨T8, h8, X8, e8, W8, B8, st8⟩ := own_stI X6 hx hZ e6 B6 (j := (2 : Int32)) (i := 2) (by decide) (by decide) (g := (mkF m 31 #[.val (.long p0_0), .second, .val (.int p0_1), .val (.int p0_2), .val (.int p0_3), .val (.int p0_4), .val (.int p0_5), .val (.int (v0_7 p0_1)), .val (.int (v0_13 p0_5)), .unset, .unset, .unset, .unset, .unset, .unset] [(.int p0_4), (.int (2 : Int32)), (.ref b2), (.ref b2)])) rfl rfl (hb hby at_31)
  have N8 := Fr.snoc X8 N6 g_b2
  have Z8 : n0 ≤ h8.size := Nat.le_trans Z6 (Keep.of_wr W8).1
  have C8 : ArI Z h8 b2 .int 5 (g0_31 p0_2 p0_3 p0_4) := B8
  have pre8 : ∀ t, Steps p.tables e below (T8.setTop (mkF m 32 #[.val (.long p0_0), .second, .val (.int p0_1), .val (.int p0_2), .val (.int p0_3), .val (.int p0_4), .val (.int p0_5), .val (.int (v0_7 p0_1)), .val (.int (v0_13 p0_5)), .unset, .unset, .unset, .unset, .unset, .unset] [(.ref b2)])) t → Steps p.tables e below (s₁.setTop (entryFrame m #[(.long p0_0), (.int p0_1), (.int p0_2), (.int p0_3), (.int p0_4), (.int p0_5)] maxLocals)) t := fun t k => pre7 t (st8 t k)
  have pre9 : ∀ t, Steps p.tables e below (T8.setTop (mkF m 36 #[.val (.long p0_0), .second, .val (.int p0_1), .val (.int p0_2), .val (.int p0_3), .val (.int p0_4), .val (.int p0_5), .val (.int (v0_7 p0_1)), .val (.int (v0_13 p0_5)), .unset, .unset, .unset, .unset, .unset, .unset] [(.int p0_5), (.int (3 : Int32)), (.ref b2), (.ref b2)])) t → Steps p.tables e below (s₁.setTop (entryFrame m #[(.long p0_0), (.int p0_1), (.int p0_2), (.int p0_3), (.int p0_4), (.int p0_5)] maxLocals)) t := fun t k => pre8 t (by
    refine XS.dup X8.here hx rfl (hb hby at_32) rfl rfl ?_
    show Steps p.tables e below (T8.setTop (mkF m 33 #[.val (.long p0_0), .second, .val (.int p0_1), .val (.int p0_2), .val (.int p0_3), .val (.int p0_4), .val (.int p0_5), .val (.int (v0_7 p0_1)), .val (.int (v0_13 p0_5)), .unset, .unset, .unset, .unset, .unset, .unset] [(.ref b2), (.ref b2)])) _
    refine XS.iconst X8.here hx rfl (hb hby at_33) ?_
    show Steps p.tables e below (T8.setTop (mkF m 34 #[.val (.long p0_0), .second, .val (.int p0_1), .val (.int p0_2), .val (.int p0_3), .val (.int p0_4), .val (.int p0_5), .val (.int (v0_7 p0_1)), .val (.int (v0_13 p0_5)), .unset, .unset, .unset, .unset, .unset, .unset] [(.int (3 : Int32)), (.ref b2), (.ref b2)])) _
    refine XS.iload X8.here hx rfl (hb hby at_34) rfl ?_
    show Steps p.tables e below (T8.setTop (mkF m 36 #[.val (.long p0_0), .second, .val (.int p0_1), .val (.int p0_2), .val (.int p0_3), .val (.int p0_4), .val (.int p0_5), .val (.int (v0_7 p0_1)), .val (.int (v0_13 p0_5)), .unset, .unset, .unset, .unset, .unset, .unset] [(.int p0_5), (.int (3 : Int32)), (.ref b2), (.ref b2)])) _
    exact k)
  obtain ⟨T10, h10, X10, e10, W10, B10, st10⟩ := own_stI X8 hx hZ e8 C8 (j := (3 : Int32)) (i := 3) (by decide) (by decide) (g := (mkF m 36 #[.val (.long p0_0), .second, .val (.int p0_1), .val (.int p0_2), .val (.int p0_3), .val (.int p0_4), .val (.int p0_5), .val (.int (v0_7 p0_1)), .val (.int (v0_13 p0_5)), .unset, .unset, .unset, .unset, .unset, .unset] [(.int p0_5), (.int (3 : Int32)), (.ref b2), (.ref b2)])) rfl rfl (hb hby at_36)
  have N10 := Fr.snoc X10 N8 g_b2
  have Z10 : n0 ≤ h10.size := Nat.le_trans Z8 (Keep.of_wr W10).1
  have pre10 : ∀ t, Steps p.tables e below (T10.setTop (mkF m 37 #[.val (.long p0_0), .second, .val (.int p0_1), .val (.int p0_2), .val (.int p0_3), .val (.int p0_4), .val (.int p0_5), .val (.int (v0_7 p0_1)), .val (.int (v0_13 p0_5)), .unset, .unset, .unset, .unset, .unset, .unset] [(.ref b2)])) t → Steps p.tables e below (s₁.setTop (entryFrame m #[(.long p0_0), (.int p0_1), (.int p0_2), (.int p0_3), (.int p0_4), (.int p0_5)] maxLocals)) t := fun t k => pre9 t (st10 t k)
  have pre11 : ∀ t, Steps p.tables e below (T10.setTop (mkF m 41 #[.val (.long p0_0), .second, .val (.int p0_1), .val (.int p0_2), .val (.int p0_3), .val (.int p0_4), .val (.int p0_5), .val (.int (v0_7 p0_1)), .val (.int (v0_13 p0_5)), .unset, .unset, .unset, .unset, .unset, .unset] [(.int (v0_13 p0_5)), (.int (4 : Int32)), (.ref b2), (.ref b2)])) t → Steps p.tables e below (s₁.setTop (entryFrame m #[(.long p0_0), (.int p0_1), (.int p0_2), (.int p0_3), (.int p0_4), (.int p0_5)] maxLocals)) t := fun t k => pre10 t (by
    refine XS.dup X10.here hx rfl (hb hby at_37) rfl rfl ?_
    show Steps p.tables e below (T10.setTop (mkF m 38 #[.val (.long p0_0), .second, .val (.int p0_1), .val (.int p0_2), .val (.int p0_3), .val (.int p0_4), .val (.int p0_5), .val (.int (v0_7 p0_1)), .val (.int (v0_13 p0_5)), .unset, .unset, .unset, .unset, .unset, .unset] [(.ref b2), (.ref b2)])) _
    refine XS.iconst X10.here hx rfl (hb hby at_38) ?_
    show Steps p.tables e below (T10.setTop (mkF m 39 #[.val (.long p0_0), .second, .val (.int p0_1), .val (.int p0_2), .val (.int p0_3), .val (.int p0_4), .val (.int p0_5), .val (.int (v0_7 p0_1)), .val (.int (v0_13 p0_5)), .unset, .unset, .unset, .unset, .unset, .unset] [(.int (4 : Int32)), (.ref b2), (.ref b2)])) _
    refine XS.iload X10.here hx rfl (hb hby at_39) rfl ?_
    show Steps p.tables e below (T10.setTop (mkF m 41 #[.val (.long p0_0), .second, .val (.int p0_1), .val (.int p0_2), .val (.int p0_3), .val (.int p0_4), .val (.int p0_5), .val (.int (v0_7 p0_1)), .val (.int (v0_13 p0_5)), .unset, .unset, .unset, .unset, .unset, .unset] [(.int (v0_13 p0_5)), (.int (4 : Int32)), (.ref b2), (.ref b2)])) _
    exact k)
  obtain ⟨T12, h12, X12, e12, W12, B12, st12⟩ := own_stI X10 hx hZ e10 B10 (j := (4 : Int32)) (i := 4) (by decide) (by decide) (g := (mkF m 41 #[.val (.long p0_0), .second, .val (.int p0_1), .val (.int p0_2), .val (.int p0_3), .val (.int p0_4), .val (.int p0_5), .val (.int (v0_7 p0_1)), .val (.int (v0_13 p0_5)), .unset, .unset, .unset, .unset, .unset, .unset] [(.int (v0_13 p0_5)), (.int (4 : Int32)), (.ref b2), (.ref b2)])) rfl rfl (hb hby at_41)
  have N12 := Fr.snoc X12 N10 g_b2
  have Z12 : n0 ≤ h12.size := Nat.le_trans Z10 (Keep.of_wr W12).1
  have C12 : ArI Z h12 b2 .int 5 (g0_41 p0_2 p0_3 p0_4 p0_5) := B12
  have pre12 : ∀ t, Steps p.tables e below (T12.setTop (mkF m 42 #[.val (.long p0_0), .second, .val (.int p0_1), .val (.int p0_2), .val (.int p0_3), .val (.int p0_4), .val (.int p0_5), .val (.int (v0_7 p0_1)), .val (.int (v0_13 p0_5)), .unset, .unset, .unset, .unset, .unset, .unset] [(.ref b2)])) t → Steps p.tables e below (s₁.setTop (entryFrame m #[(.long p0_0), (.int p0_1), (.int p0_2), (.int p0_3), (.int p0_4), (.int p0_5)] maxLocals)) t := fun t k => pre11 t (st12 t k)
  have pre13 : ∀ t, Steps p.tables e below (T12.setTop (mkF m 45 #[.val (.long p0_0), .second, .val (.int p0_1), .val (.int p0_2), .val (.int p0_3), .val (.int p0_4), .val (.int p0_5), .val (.int (v0_7 p0_1)), .val (.int (v0_13 p0_5)), .val (.ref b2), .unset, .unset, .unset, .unset, .unset] [(.int (5 : Int32))])) t → Steps p.tables e below (s₁.setTop (entryFrame m #[(.long p0_0), (.int p0_1), (.int p0_2), (.int p0_3), (.int p0_4), (.int p0_5)] maxLocals)) t := fun t k => pre12 t (by
    refine XS.astore X12.here hx rfl (hb hby at_42) rfl rfl (l' := #[.val (.long p0_0), .second, .val (.int p0_1), .val (.int p0_2), .val (.int p0_3), .val (.int p0_4), .val (.int p0_5), .val (.int (v0_7 p0_1)), .val (.int (v0_13 p0_5)), .val (.ref b2), .unset, .unset, .unset, .unset, .unset]) rfl ?_
    show Steps p.tables e below (T12.setTop (mkF m 44 #[.val (.long p0_0), .second, .val (.int p0_1), .val (.int p0_2), .val (.int p0_3), .val (.int p0_4), .val (.int p0_5), .val (.int (v0_7 p0_1)), .val (.int (v0_13 p0_5)), .val (.ref b2), .unset, .unset, .unset, .unset, .unset] [])) _
    refine XS.iconst X12.here hx rfl (hb hby at_44) ?_
    show Steps p.tables e below (T12.setTop (mkF m 45 #[.val (.long p0_0), .second, .val (.int p0_1), .val (.int p0_2), .val (.int p0_3), .val (.int p0_4), .val (.int p0_5), .val (.int (v0_7 p0_1)), .val (.int (v0_13 p0_5)), .val (.ref b2), .unset, .unset, .unset, .unset, .unset] [(.int (5 : Int32))])) _
    exact k)
  obtain ⟨T14, h14, k14, X14, e14, E14, A14, st14⟩ := newP X12 hx hZ (hw _ (List.mem_of_getElem? (i := 1) rfl)) e12 (g := (mkF m 45 #[.val (.long p0_0), .second, .val (.int p0_1), .val (.int p0_2), .val (.int p0_3), .val (.int p0_4), .val (.int p0_5), .val (.int (v0_7 p0_1)), .val (.int (v0_13 p0_5)), .val (.ref b2), .unset, .unset, .unset, .unset, .unset] [(.int (5 : Int32))])) rfl (hb hby at_45) rfl (by decide) (cap := 5) (by decide) (by decide) (by decide) (by decide)
  obtain ⟨b14, q14⟩ : ∃ z, z = h12.size := ⟨_, rfl⟩
  rw [← q14] at A14 st14
  have ne_b2_b14 : b2 ≠ b14 := Nat.ne_of_lt (Nat.lt_of_lt_of_le C12.lt (Nat.le_of_eq q14.symm))
  have g_b14 : n0 ≤ b14 := Nat.le_trans Z12 (Nat.le_of_eq q14.symm)
  have Ar15 : ArI Z h14 b2 .int 5 (g0_41 p0_2 p0_3 p0_4 p0_5) := C12.ext E14
  have Z14 : n0 ≤ h14.size := Nat.le_trans Z12 E14.1
  have B14 : ArI Z h14 b14 .int 5 (fun _ => (0 : Int32)) := ArI.new rfl A14 (by decide)
  have pre14 : ∀ t, Steps p.tables e below (T14.setTop (mkF m 47 #[.val (.long p0_0), .second, .val (.int p0_1), .val (.int p0_2), .val (.int p0_3), .val (.int p0_4), .val (.int p0_5), .val (.int (v0_7 p0_1)), .val (.int (v0_13 p0_5)), .val (.ref b2), .unset, .unset, .unset, .unset, .unset] [(.ref b14)])) t → Steps p.tables e below (s₁.setTop (entryFrame m #[(.long p0_0), (.int p0_1), (.int p0_2), (.int p0_3), (.int p0_4), (.int p0_5)] maxLocals)) t := fun t k => pre13 t (st14 t k)
  have pre16 : ∀ t, Steps p.tables e below (T14.setTop (mkF m 50 #[.val (.long p0_0), .second, .val (.int p0_1), .val (.int p0_2), .val (.int p0_3), .val (.int p0_4), .val (.int p0_5), .val (.int (v0_7 p0_1)), .val (.int (v0_13 p0_5)), .val (.ref b2), .unset, .unset, .unset, .unset, .unset] [(.int p0_2), (.int (0 : Int32)), (.ref b14), (.ref b14)])) t → Steps p.tables e below (s₁.setTop (entryFrame m #[(.long p0_0), (.int p0_1), (.int p0_2), (.int p0_3), (.int p0_4), (.int p0_5)] maxLocals)) t := fun t k => pre14 t (by
    refine XS.dup X14.here hx rfl (hb hby at_47) rfl rfl ?_
    show Steps p.tables e below (T14.setTop (mkF m 48 #[.val (.long p0_0), .second, .val (.int p0_1), .val (.int p0_2), .val (.int p0_3), .val (.int p0_4), .val (.int p0_5), .val (.int (v0_7 p0_1)), .val (.int (v0_13 p0_5)), .val (.ref b2), .unset, .unset, .unset, .unset, .unset] [(.ref b14), (.ref b14)])) _
    refine XS.iconst X14.here hx rfl (hb hby at_48) ?_
    show Steps p.tables e below (T14.setTop (mkF m 49 #[.val (.long p0_0), .second, .val (.int p0_1), .val (.int p0_2), .val (.int p0_3), .val (.int p0_4), .val (.int p0_5), .val (.int (v0_7 p0_1)), .val (.int (v0_13 p0_5)), .val (.ref b2), .unset, .unset, .unset, .unset, .unset] [(.int (0 : Int32)), (.ref b14), (.ref b14)])) _
    refine XS.iloadN X14.here hx rfl (hb hby at_49) rfl ?_
    show Steps p.tables e below (T14.setTop (mkF m 50 #[.val (.long p0_0), .second, .val (.int p0_1), .val (.int p0_2), .val (.int p0_3), .val (.int p0_4), .val (.int p0_5), .val (.int (v0_7 p0_1)), .val (.int (v0_13 p0_5)), .val (.ref b2), .unset, .unset, .unset, .unset, .unset] [(.int p0_2), (.int (0 : Int32)), (.ref b14), (.ref b14)])) _
    exact k)
  obtain ⟨T17, h17, X17, e17, W17, B17, st17⟩ := own_stI X14 hx hZ e14 B14 (j := (0 : Int32)) (i := 0) (by decide) (by decide) (g := (mkF m 50 #[.val (.long p0_0), .second, .val (.int p0_1), .val (.int p0_2), .val (.int p0_3), .val (.int p0_4), .val (.int p0_5), .val (.int (v0_7 p0_1)), .val (.int (v0_13 p0_5)), .val (.ref b2), .unset, .unset, .unset, .unset, .unset] [(.int p0_2), (.int (0 : Int32)), (.ref b14), (.ref b14)])) rfl rfl (hb hby at_50)
  have Ar18 : ArI Z h17 b2 .int 5 (g0_41 p0_2 p0_3 p0_4 p0_5) := Ar15.other W17 ne_b2_b14
  have N17 := Fr.snoc X17 N12 g_b14
  have Z17 : n0 ≤ h17.size := Nat.le_trans Z14 (Keep.of_wr W17).1
  have pre17 : ∀ t, Steps p.tables e below (T17.setTop (mkF m 51 #[.val (.long p0_0), .second, .val (.int p0_1), .val (.int p0_2), .val (.int p0_3), .val (.int p0_4), .val (.int p0_5), .val (.int (v0_7 p0_1)), .val (.int (v0_13 p0_5)), .val (.ref b2), .unset, .unset, .unset, .unset, .unset] [(.ref b14)])) t → Steps p.tables e below (s₁.setTop (entryFrame m #[(.long p0_0), (.int p0_1), (.int p0_2), (.int p0_3), (.int p0_4), (.int p0_5)] maxLocals)) t := fun t k => pre16 t (st17 t k)
  have pre19 : ∀ t, Steps p.tables e below (T17.setTop (mkF m 55 #[.val (.long p0_0), .second, .val (.int p0_1), .val (.int p0_2), .val (.int p0_3), .val (.int p0_4), .val (.int p0_5), .val (.int (v0_7 p0_1)), .val (.int (v0_13 p0_5)), .val (.ref b2), .unset, .unset, .unset, .unset, .unset] [(.int p0_3), (.int (1 : Int32)), (.ref b14), (.ref b14)])) t → Steps p.tables e below (s₁.setTop (entryFrame m #[(.long p0_0), (.int p0_1), (.int p0_2), (.int p0_3), (.int p0_4), (.int p0_5)] maxLocals)) t := fun t k => pre17 t (by
    refine XS.dup X17.here hx rfl (hb hby at_51) rfl rfl ?_
    show Steps p.tables e below (T17.setTop (mkF m 52 #[.val (.long p0_0), .second, .val (.int p0_1), .val (.int p0_2), .val (.int p0_3), .val (.int p0_4), .val (.int p0_5), .val (.int (v0_7 p0_1)), .val (.int (v0_13 p0_5)), .val (.ref b2), .unset, .unset, .unset, .unset, .unset] [(.ref b14), (.ref b14)])) _
    refine XS.iconst X17.here hx rfl (hb hby at_52) ?_
    show Steps p.tables e below (T17.setTop (mkF m 53 #[.val (.long p0_0), .second, .val (.int p0_1), .val (.int p0_2), .val (.int p0_3), .val (.int p0_4), .val (.int p0_5), .val (.int (v0_7 p0_1)), .val (.int (v0_13 p0_5)), .val (.ref b2), .unset, .unset, .unset, .unset, .unset] [(.int (1 : Int32)), (.ref b14), (.ref b14)])) _
    refine XS.iload X17.here hx rfl (hb hby at_53) rfl ?_
    show Steps p.tables e below (T17.setTop (mkF m 55 #[.val (.long p0_0), .second, .val (.int p0_1), .val (.int p0_2), .val (.int p0_3), .val (.int p0_4), .val (.int p0_5), .val (.int (v0_7 p0_1)), .val (.int (v0_13 p0_5)), .val (.ref b2), .unset, .unset, .unset, .unset, .unset] [(.int p0_3), (.int (1 : Int32)), (.ref b14), (.ref b14)])) _
    exact k)
  obtain ⟨T20, h20, X20, e20, W20, B20, st20⟩ := own_stI X17 hx hZ e17 B17 (j := (1 : Int32)) (i := 1) (by decide) (by decide) (g := (mkF m 55 #[.val (.long p0_0), .second, .val (.int p0_1), .val (.int p0_2), .val (.int p0_3), .val (.int p0_4), .val (.int p0_5), .val (.int (v0_7 p0_1)), .val (.int (v0_13 p0_5)), .val (.ref b2), .unset, .unset, .unset, .unset, .unset] [(.int p0_3), (.int (1 : Int32)), (.ref b14), (.ref b14)])) rfl rfl (hb hby at_55)
  have Ar21 : ArI Z h20 b2 .int 5 (g0_41 p0_2 p0_3 p0_4 p0_5) := Ar18.other W20 ne_b2_b14
  have N20 := Fr.snoc X20 N17 g_b14
  have Z20 : n0 ≤ h20.size := Nat.le_trans Z17 (Keep.of_wr W20).1
  have pre20 : ∀ t, Steps p.tables e below (T20.setTop (mkF m 56 #[.val (.long p0_0), .second, .val (.int p0_1), .val (.int p0_2), .val (.int p0_3), .val (.int p0_4), .val (.int p0_5), .val (.int (v0_7 p0_1)), .val (.int (v0_13 p0_5)), .val (.ref b2), .unset, .unset, .unset, .unset, .unset] [(.ref b14)])) t → Steps p.tables e below (s₁.setTop (entryFrame m #[(.long p0_0), (.int p0_1), (.int p0_2), (.int p0_3), (.int p0_4), (.int p0_5)] maxLocals)) t := fun t k => pre19 t (st20 t k)
  have pre22 : ∀ t, Steps p.tables e below (T20.setTop (mkF m 60 #[.val (.long p0_0), .second, .val (.int p0_1), .val (.int p0_2), .val (.int p0_3), .val (.int p0_4), .val (.int p0_5), .val (.int (v0_7 p0_1)), .val (.int (v0_13 p0_5)), .val (.ref b2), .unset, .unset, .unset, .unset, .unset] [(.int p0_4), (.int (2 : Int32)), (.ref b14), (.ref b14)])) t → Steps p.tables e below (s₁.setTop (entryFrame m #[(.long p0_0), (.int p0_1), (.int p0_2), (.int p0_3), (.int p0_4), (.int p0_5)] maxLocals)) t := fun t k => pre20 t (by
    refine XS.dup X20.here hx rfl (hb hby at_56) rfl rfl ?_
    show Steps p.tables e below (T20.setTop (mkF m 57 #[.val (.long p0_0), .second, .val (.int p0_1), .val (.int p0_2), .val (.int p0_3), .val (.int p0_4), .val (.int p0_5), .val (.int (v0_7 p0_1)), .val (.int (v0_13 p0_5)), .val (.ref b2), .unset, .unset, .unset, .unset, .unset] [(.ref b14), (.ref b14)])) _
    refine XS.iconst X20.here hx rfl (hb hby at_57) ?_
    show Steps p.tables e below (T20.setTop (mkF m 58 #[.val (.long p0_0), .second, .val (.int p0_1), .val (.int p0_2), .val (.int p0_3), .val (.int p0_4), .val (.int p0_5), .val (.int (v0_7 p0_1)), .val (.int (v0_13 p0_5)), .val (.ref b2), .unset, .unset, .unset, .unset, .unset] [(.int (2 : Int32)), (.ref b14), (.ref b14)])) _
    refine XS.iload X20.here hx rfl (hb hby at_58) rfl ?_
    show Steps p.tables e below (T20.setTop (mkF m 60 #[.val (.long p0_0), .second, .val (.int p0_1), .val (.int p0_2), .val (.int p0_3), .val (.int p0_4), .val (.int p0_5), .val (.int (v0_7 p0_1)), .val (.int (v0_13 p0_5)), .val (.ref b2), .unset, .unset, .unset, .unset, .unset] [(.int p0_4), (.int (2 : Int32)), (.ref b14), (.ref b14)])) _
    exact k)
  obtain ⟨T23, h23, X23, e23, W23, B23, st23⟩ := own_stI X20 hx hZ e20 B20 (j := (2 : Int32)) (i := 2) (by decide) (by decide) (g := (mkF m 60 #[.val (.long p0_0), .second, .val (.int p0_1), .val (.int p0_2), .val (.int p0_3), .val (.int p0_4), .val (.int p0_5), .val (.int (v0_7 p0_1)), .val (.int (v0_13 p0_5)), .val (.ref b2), .unset, .unset, .unset, .unset, .unset] [(.int p0_4), (.int (2 : Int32)), (.ref b14), (.ref b14)])) rfl rfl (hb hby at_60)
  have Ar24 : ArI Z h23 b2 .int 5 (g0_41 p0_2 p0_3 p0_4 p0_5) := Ar21.other W23 ne_b2_b14
  have N23 := Fr.snoc X23 N20 g_b14
  have Z23 : n0 ≤ h23.size := Nat.le_trans Z20 (Keep.of_wr W23).1
  have C23 : ArI Z h23 b14 .int 5 (g0_60 p0_2 p0_3 p0_4) := B23
  have pre23 : ∀ t, Steps p.tables e below (T23.setTop (mkF m 61 #[.val (.long p0_0), .second, .val (.int p0_1), .val (.int p0_2), .val (.int p0_3), .val (.int p0_4), .val (.int p0_5), .val (.int (v0_7 p0_1)), .val (.int (v0_13 p0_5)), .val (.ref b2), .unset, .unset, .unset, .unset, .unset] [(.ref b14)])) t → Steps p.tables e below (s₁.setTop (entryFrame m #[(.long p0_0), (.int p0_1), (.int p0_2), (.int p0_3), (.int p0_4), (.int p0_5)] maxLocals)) t := fun t k => pre22 t (st23 t k)
  have pre25 : ∀ t, Steps p.tables e below (T23.setTop (mkF m 65 #[.val (.long p0_0), .second, .val (.int p0_1), .val (.int p0_2), .val (.int p0_3), .val (.int p0_4), .val (.int p0_5), .val (.int (v0_7 p0_1)), .val (.int (v0_13 p0_5)), .val (.ref b2), .unset, .unset, .unset, .unset, .unset] [(.int p0_5), (.int (3 : Int32)), (.ref b14), (.ref b14)])) t → Steps p.tables e below (s₁.setTop (entryFrame m #[(.long p0_0), (.int p0_1), (.int p0_2), (.int p0_3), (.int p0_4), (.int p0_5)] maxLocals)) t := fun t k => pre23 t (by
    refine XS.dup X23.here hx rfl (hb hby at_61) rfl rfl ?_
    show Steps p.tables e below (T23.setTop (mkF m 62 #[.val (.long p0_0), .second, .val (.int p0_1), .val (.int p0_2), .val (.int p0_3), .val (.int p0_4), .val (.int p0_5), .val (.int (v0_7 p0_1)), .val (.int (v0_13 p0_5)), .val (.ref b2), .unset, .unset, .unset, .unset, .unset] [(.ref b14), (.ref b14)])) _
    refine XS.iconst X23.here hx rfl (hb hby at_62) ?_
    show Steps p.tables e below (T23.setTop (mkF m 63 #[.val (.long p0_0), .second, .val (.int p0_1), .val (.int p0_2), .val (.int p0_3), .val (.int p0_4), .val (.int p0_5), .val (.int (v0_7 p0_1)), .val (.int (v0_13 p0_5)), .val (.ref b2), .unset, .unset, .unset, .unset, .unset] [(.int (3 : Int32)), (.ref b14), (.ref b14)])) _
    refine XS.iload X23.here hx rfl (hb hby at_63) rfl ?_
    show Steps p.tables e below (T23.setTop (mkF m 65 #[.val (.long p0_0), .second, .val (.int p0_1), .val (.int p0_2), .val (.int p0_3), .val (.int p0_4), .val (.int p0_5), .val (.int (v0_7 p0_1)), .val (.int (v0_13 p0_5)), .val (.ref b2), .unset, .unset, .unset, .unset, .unset] [(.int p0_5), (.int (3 : Int32)), (.ref b14), (.ref b14)])) _
    exact k)
  obtain ⟨T26, h26, X26, e26, W26, B26, st26⟩ := own_stI X23 hx hZ e23 C23 (j := (3 : Int32)) (i := 3) (by decide) (by decide) (g := (mkF m 65 #[.val (.long p0_0), .second, .val (.int p0_1), .val (.int p0_2), .val (.int p0_3), .val (.int p0_4), .val (.int p0_5), .val (.int (v0_7 p0_1)), .val (.int (v0_13 p0_5)), .val (.ref b2), .unset, .unset, .unset, .unset, .unset] [(.int p0_5), (.int (3 : Int32)), (.ref b14), (.ref b14)])) rfl rfl (hb hby at_65)
  have Ar27 : ArI Z h26 b2 .int 5 (g0_41 p0_2 p0_3 p0_4 p0_5) := Ar24.other W26 ne_b2_b14
  have N26 := Fr.snoc X26 N23 g_b14
  have Z26 : n0 ≤ h26.size := Nat.le_trans Z23 (Keep.of_wr W26).1
  have pre26 : ∀ t, Steps p.tables e below (T26.setTop (mkF m 66 #[.val (.long p0_0), .second, .val (.int p0_1), .val (.int p0_2), .val (.int p0_3), .val (.int p0_4), .val (.int p0_5), .val (.int (v0_7 p0_1)), .val (.int (v0_13 p0_5)), .val (.ref b2), .unset, .unset, .unset, .unset, .unset] [(.ref b14)])) t → Steps p.tables e below (s₁.setTop (entryFrame m #[(.long p0_0), (.int p0_1), (.int p0_2), (.int p0_3), (.int p0_4), (.int p0_5)] maxLocals)) t := fun t k => pre25 t (st26 t k)
  have pre28 : ∀ t, Steps p.tables e below (T26.setTop (mkF m 70 #[.val (.long p0_0), .second, .val (.int p0_1), .val (.int p0_2), .val (.int p0_3), .val (.int p0_4), .val (.int p0_5), .val (.int (v0_7 p0_1)), .val (.int (v0_13 p0_5)), .val (.ref b2), .unset, .unset, .unset, .unset, .unset] [(.int (v0_13 p0_5)), (.int (4 : Int32)), (.ref b14), (.ref b14)])) t → Steps p.tables e below (s₁.setTop (entryFrame m #[(.long p0_0), (.int p0_1), (.int p0_2), (.int p0_3), (.int p0_4), (.int p0_5)] maxLocals)) t := fun t k => pre26 t (by
    refine XS.dup X26.here hx rfl (hb hby at_66) rfl rfl ?_
    show Steps p.tables e below (T26.setTop (mkF m 67 #[.val (.long p0_0), .second, .val (.int p0_1), .val (.int p0_2), .val (.int p0_3), .val (.int p0_4), .val (.int p0_5), .val (.int (v0_7 p0_1)), .val (.int (v0_13 p0_5)), .val (.ref b2), .unset, .unset, .unset, .unset, .unset] [(.ref b14), (.ref b14)])) _
    refine XS.iconst X26.here hx rfl (hb hby at_67) ?_
    show Steps p.tables e below (T26.setTop (mkF m 68 #[.val (.long p0_0), .second, .val (.int p0_1), .val (.int p0_2), .val (.int p0_3), .val (.int p0_4), .val (.int p0_5), .val (.int (v0_7 p0_1)), .val (.int (v0_13 p0_5)), .val (.ref b2), .unset, .unset, .unset, .unset, .unset] [(.int (4 : Int32)), (.ref b14), (.ref b14)])) _
    refine XS.iload X26.here hx rfl (hb hby at_68) rfl ?_
    show Steps p.tables e below (T26.setTop (mkF m 70 #[.val (.long p0_0), .second, .val (.int p0_1), .val (.int p0_2), .val (.int p0_3), .val (.int p0_4), .val (.int p0_5), .val (.int (v0_7 p0_1)), .val (.int (v0_13 p0_5)), .val (.ref b2), .unset, .unset, .unset, .unset, .unset] [(.int (v0_13 p0_5)), (.int (4 : Int32)), (.ref b14), (.ref b14)])) _
    exact k)
  obtain ⟨T29, h29, X29, e29, W29, B29, st29⟩ := own_stI X26 hx hZ e26 B26 (j := (4 : Int32)) (i := 4) (by decide) (by decide) (g := (mkF m 70 #[.val (.long p0_0), .second, .val (.int p0_1), .val (.int p0_2), .val (.int p0_3), .val (.int p0_4), .val (.int p0_5), .val (.int (v0_7 p0_1)), .val (.int (v0_13 p0_5)), .val (.ref b2), .unset, .unset, .unset, .unset, .unset] [(.int (v0_13 p0_5)), (.int (4 : Int32)), (.ref b14), (.ref b14)])) rfl rfl (hb hby at_70)
  have Ar30 : ArI Z h29 b2 .int 5 (g0_41 p0_2 p0_3 p0_4 p0_5) := Ar27.other W29 ne_b2_b14
  have N29 := Fr.snoc X29 N26 g_b14
  have Z29 : n0 ≤ h29.size := Nat.le_trans Z26 (Keep.of_wr W29).1
  have C29 : ArI Z h29 b14 .int 5 (g0_70 p0_2 p0_3 p0_4 p0_5) := B29
  have pre29 : ∀ t, Steps p.tables e below (T29.setTop (mkF m 71 #[.val (.long p0_0), .second, .val (.int p0_1), .val (.int p0_2), .val (.int p0_3), .val (.int p0_4), .val (.int p0_5), .val (.int (v0_7 p0_1)), .val (.int (v0_13 p0_5)), .val (.ref b2), .unset, .unset, .unset, .unset, .unset] [(.ref b14)])) t → Steps p.tables e below (s₁.setTop (entryFrame m #[(.long p0_0), (.int p0_1), (.int p0_2), (.int p0_3), (.int p0_4), (.int p0_5)] maxLocals)) t := fun t k => pre28 t (st29 t k)
  have pre31 : ∀ t, Steps p.tables e below (T29.setTop (mkF m 73 #[.val (.long p0_0), .second, .val (.int p0_1), .val (.int p0_2), .val (.int p0_3), .val (.int p0_4), .val (.int p0_5), .val (.int (v0_7 p0_1)), .val (.int (v0_13 p0_5)), .val (.ref b2), .val (.ref b14), .unset, .unset, .unset, .unset] [])) t → Steps p.tables e below (s₁.setTop (entryFrame m #[(.long p0_0), (.int p0_1), (.int p0_2), (.int p0_3), (.int p0_4), (.int p0_5)] maxLocals)) t := fun t k => pre29 t (by
    refine XS.astore X29.here hx rfl (hb hby at_71) rfl rfl (l' := #[.val (.long p0_0), .second, .val (.int p0_1), .val (.int p0_2), .val (.int p0_3), .val (.int p0_4), .val (.int p0_5), .val (.int (v0_7 p0_1)), .val (.int (v0_13 p0_5)), .val (.ref b2), .val (.ref b14), .unset, .unset, .unset, .unset]) rfl ?_
    show Steps p.tables e below (T29.setTop (mkF m 73 #[.val (.long p0_0), .second, .val (.int p0_1), .val (.int p0_2), .val (.int p0_3), .val (.int p0_4), .val (.int p0_5), .val (.int (v0_7 p0_1)), .val (.int (v0_13 p0_5)), .val (.ref b2), .val (.ref b14), .unset, .unset, .unset, .unset] [])) _
    exact k)
  obtain ⟨T32, h32, X32, e32, E32, A32, D32, -, st32⟩ := newO X29 hx hZ hown (hw _ (List.mem_of_getElem? (i := 2) rfl)) (hw _ (List.mem_of_getElem? (i := 3) rfl)) (hw _ (List.mem_of_getElem? (i := 4) rfl)) e29 (g := (mkF m 73 #[.val (.long p0_0), .second, .val (.int p0_1), .val (.int p0_2), .val (.int p0_3), .val (.int p0_4), .val (.int p0_5), .val (.int (v0_7 p0_1)), .val (.int (v0_13 p0_5)), .val (.ref b2), .val (.ref b14), .unset, .unset, .unset, .unset] [])) rfl (hb hby at_73) (by decide) (by decide)
  obtain ⟨b32, q32⟩ : ∃ z, z = h29.size := ⟨_, rfl⟩
  rw [← q32] at A32 D32 st32
  have ne_b2_b32 : b2 ≠ b32 := Nat.ne_of_lt (Nat.lt_of_lt_of_le Ar30.lt (Nat.le_of_eq q32.symm))
  have ne_b14_b32 : b14 ≠ b32 := Nat.ne_of_lt (Nat.lt_of_lt_of_le C29.lt (Nat.le_of_eq q32.symm))
  have g_b32 : n0 ≤ b32 := Nat.le_trans Z29 (Nat.le_of_eq q32.symm)
  have Ar33 : ArI Z h32 b2 .int 5 (g0_41 p0_2 p0_3 p0_4 p0_5) := Ar30.ext E32
  have Ar34 : ArI Z h32 b14 .int 5 (g0_70 p0_2 p0_3 p0_4 p0_5) := C29.ext E32
  have Z32 : n0 ≤ h32.size := Nat.le_trans Z29 E32.1
  have F35 : Fld Z h32 b32 "com/example/consigliere/consigliere/engine/Rng" "state" "J" (.long (0 : Int64)) := D32 (Or.inl (hw _ (List.mem_of_getElem? (i := 12) rfl))) (ty := .long) (by decide)
  have pre32 : ∀ t, Steps p.tables e below (T32.setTop (mkF m 76 #[.val (.long p0_0), .second, .val (.int p0_1), .val (.int p0_2), .val (.int p0_3), .val (.int p0_4), .val (.int p0_5), .val (.int (v0_7 p0_1)), .val (.int (v0_13 p0_5)), .val (.ref b2), .val (.ref b14), .unset, .unset, .unset, .unset] [(.ref b32)])) t → Steps p.tables e below (s₁.setTop (entryFrame m #[(.long p0_0), (.int p0_1), (.int p0_2), (.int p0_3), (.int p0_4), (.int p0_5)] maxLocals)) t := fun t k => pre31 t (st32 t k)
  have pre36 : ∀ t, Steps p.tables e below (T32.setTop (mkF m 78 #[.val (.long p0_0), .second, .val (.int p0_1), .val (.int p0_2), .val (.int p0_3), .val (.int p0_4), .val (.int p0_5), .val (.int (v0_7 p0_1)), .val (.int (v0_13 p0_5)), .val (.ref b2), .val (.ref b14), .unset, .unset, .unset, .unset] [(.long p0_0), (.ref b32), (.ref b32)])) t → Steps p.tables e below (s₁.setTop (entryFrame m #[(.long p0_0), (.int p0_1), (.int p0_2), (.int p0_3), (.int p0_4), (.int p0_5)] maxLocals)) t := fun t k => pre32 t (by
    refine XS.dup X32.here hx rfl (hb hby at_76) rfl rfl ?_
    show Steps p.tables e below (T32.setTop (mkF m 77 #[.val (.long p0_0), .second, .val (.int p0_1), .val (.int p0_2), .val (.int p0_3), .val (.int p0_4), .val (.int p0_5), .val (.int (v0_7 p0_1)), .val (.int (v0_13 p0_5)), .val (.ref b2), .val (.ref b14), .unset, .unset, .unset, .unset] [(.ref b32), (.ref b32)])) _
    refine XS.lloadN X32.here hx rfl (hb hby at_77) rfl ?_
    show Steps p.tables e below (T32.setTop (mkF m 78 #[.val (.long p0_0), .second, .val (.int p0_1), .val (.int p0_2), .val (.int p0_3), .val (.int p0_4), .val (.int p0_5), .val (.int (v0_7 p0_1)), .val (.int (v0_13 p0_5)), .val (.ref b2), .val (.ref b14), .unset, .unset, .unset, .unset] [(.long p0_0), (.ref b32), (.ref b32)])) _
    exact k)
  obtain ⟨_, _, ⟨T37, L37, k37, n37⟩, -, X37, ⟨Lc37, hQ37, l37, y37, z37⟩, st37⟩ := X32.specialBack hx (y := (⟨"com/example/consigliere/consigliere/engine/Rng", "<init>", "(J)V"⟩ : MethodName)) rfl hown (mvT hZ (hw _ (List.mem_of_getElem? (i := 5) rfl))) (mvT hZ (hw _ (List.mem_of_getElem? (i := 6) rfl))) (mvT hZ (hw _ (List.mem_of_getElem? (i := 7) rfl))) (by decide) (backOf (W := 1) (rm1 l Z a0 hw [] b32 p0_0 (0 : Int64) h32 n0 Z32 A32 F35 g_b32) hZ (hw _ (List.mem_of_getElem? (i := 7) rfl)) (hw _ (List.mem_of_getElem? (i := 4) rfl)) (by decide) (by decide)) (g := (mkF m 78 #[.val (.long p0_0), .second, .val (.int p0_1), .val (.int p0_2), .val (.int p0_3), .val (.int p0_4), .val (.int p0_5), .val (.int (v0_7 p0_1)), .val (.int (v0_13 p0_5)), .val (.ref b2), .val (.ref b14), .unset, .unset, .unset, .unset] [(.long p0_0), (.ref b32), (.ref b32)])) rfl (by rw [hml]; rfl) (Steps.refl _) (a := b32) (argsL := [(.long p0_0)]) (rest := [(.ref b32)]) (lenOf pd_2 rfl) rfl (by show 2 * 0 + _ ≤ _; exact Nat.le_of_eq rfl) (hb hby at_78) (fun _ _ => ⟨rfl, e32, (by decide : 3 + 0 ≤ _), (by decide : 11 + 0 ≤ _)⟩)
  dsimp only [Pt.U, Pt.locs, Pt.cells, Pt.slots] at X37 l37 y37 z37 st37 hQ37
  rw [l37, y37, z37] at X37
  obtain ⟨rfl, M37, K37c, P37_0⟩ := hQ37
  have N37 := Fr.app N29 M37
  have K37 : Keep h32 T37.heap [b32] := K37c
  have Z37 : n0 ≤ T37.heap.size := Nat.le_trans Z32 K37.1
  have Ar38 : ArI Z T37.heap b2 .int 5 (g0_41 p0_2 p0_3 p0_4 p0_5) := Ar33.keep K37 (ninS ne_b2_b32 nin0)
  have Ar39 : ArI Z T37.heap b14 .int 5 (g0_70 p0_2 p0_3 p0_4 p0_5) := Ar34.keep K37 (ninS ne_b14_b32 nin0)
  have Ex40 : Exa Z T37.heap b32 "com/example/consigliere/consigliere/engine/Rng" := A32.keep K37
  have F41 : Fld Z T37.heap b32 "com/example/consigliere/consigliere/engine/Rng" "state" "J" (.long p0_0) := P37_0
  replace X37 : Stand p l e room_1 s m #[(.long p0_0), (.int p0_1), (.int p0_2), (.int p0_3), (.int p0_4), (.int p0_5)] below meth c T37 _ 3 11 := X37
  have pre37 : ∀ t, Steps p.tables e below (T37.setTop (mkF m 81 #[.val (.long p0_0), .second, .val (.int p0_1), .val (.int p0_2), .val (.int p0_3), .val (.int p0_4), .val (.int p0_5), .val (.int (v0_7 p0_1)), .val (.int (v0_13 p0_5)), .val (.ref b2), .val (.ref b14), .unset, .unset, .unset, .unset] [(.ref b32)])) t → Steps p.tables e below (s₁.setTop (entryFrame m #[(.long p0_0), (.int p0_1), (.int p0_2), (.int p0_3), (.int p0_4), (.int p0_5)] maxLocals)) t := fun t k => pre36 t (st37.trans k)
  have pre42 : ∀ t, Steps p.tables e below (T37.setTop (mkF m 83 #[.val (.long p0_0), .second, .val (.int p0_1), .val (.int p0_2), .val (.int p0_3), .val (.int p0_4), .val (.int p0_5), .val (.int (v0_7 p0_1)), .val (.int (v0_13 p0_5)), .val (.ref b2), .val (.ref b14), .val (.ref b32), .unset, .unset, .unset] [])) t → Steps p.tables e below (s₁.setTop (entryFrame m #[(.long p0_0), (.int p0_1), (.int p0_2), (.int p0_3), (.int p0_4), (.int p0_5)] maxLocals)) t := fun t k => pre37 t (by
    refine XS.astore X37.here hx rfl (hb hby at_81) rfl rfl (l' := #[.val (.long p0_0), .second, .val (.int p0_1), .val (.int p0_2), .val (.int p0_3), .val (.int p0_4), .val (.int p0_5), .val (.int (v0_7 p0_1)), .val (.int (v0_13 p0_5)), .val (.ref b2), .val (.ref b14), .val (.ref b32), .unset, .unset, .unset]) rfl ?_
    show Steps p.tables e below (T37.setTop (mkF m 83 #[.val (.long p0_0), .second, .val (.int p0_1), .val (.int p0_2), .val (.int p0_3), .val (.int p0_4), .val (.int p0_5), .val (.int (v0_7 p0_1)), .val (.int (v0_13 p0_5)), .val (.ref b2), .val (.ref b14), .val (.ref b32), .unset, .unset, .unset] [])) _
    exact k)
  obtain ⟨T43, h43, X43, e43, E43, A43, D43, -, st43⟩ := newO X37 hx hZ hown (hw _ (List.mem_of_getElem? (i := 2) rfl)) (hw _ (List.mem_of_getElem? (i := 3) rfl)) (hw _ (List.mem_of_getElem? (i := 4) rfl)) rfl (g := (mkF m 83 #[.val (.long p0_0), .second, .val (.int p0_1), .val (.int p0_2), .val (.int p0_3), .val (.int p0_4), .val (.int p0_5), .val (.int (v0_7 p0_1)), .val (.int (v0_13 p0_5)), .val (.ref b2), .val (.ref b14), .val (.ref b32), .unset, .unset, .unset] [])) rfl (hb hby at_83) (by decide) (by decide)
  obtain ⟨b43, q43⟩ : ∃ z, z = T37.heap.size := ⟨_, rfl⟩
  rw [← q43] at A43 D43 st43
  have ne_b2_b43 : b2 ≠ b43 := Nat.ne_of_lt (Nat.lt_of_lt_of_le Ar38.lt (Nat.le_of_eq q43.symm))
  have ne_b14_b43 : b14 ≠ b43 := Nat.ne_of_lt (Nat.lt_of_lt_of_le Ar39.lt (Nat.le_of_eq q43.symm))
  have ne_b32_b43 : b32 ≠ b43 := Nat.ne_of_lt (Nat.lt_of_lt_of_le Ex40.lt (Nat.le_of_eq q43.symm))
  have g_b43 : n0 ≤ b43 := Nat.le_trans Z37 (Nat.le_of_eq q43.symm)
  have Ar44 : ArI Z h43 b2 .int 5 (g0_41 p0_2 p0_3 p0_4 p0_5) := Ar38.ext E43
  have Ar45 : ArI Z h43 b14 .int 5 (g0_70 p0_2 p0_3 p0_4 p0_5) := Ar39.ext E43
  have Ex46 : Exa Z h43 b32 "com/example/consigliere/consigliere/engine/Rng" := Ex40.ext E43
  have F47 : Fld Z h43 b32 "com/example/consigliere/consigliere/engine/Rng" "state" "J" (.long p0_0) := F41.ext E43
  have Z43 : n0 ≤ h43.size := Nat.le_trans Z37 E43.1
  have F48 : Fld Z h43 b43 "com/example/consigliere/consigliere/engine/Rng" "state" "J" (.long (0 : Int64)) := D43 (Or.inl (hw _ (List.mem_of_getElem? (i := 12) rfl))) (ty := .long) (by decide)
  have pre43 : ∀ t, Steps p.tables e below (T43.setTop (mkF m 86 #[.val (.long p0_0), .second, .val (.int p0_1), .val (.int p0_2), .val (.int p0_3), .val (.int p0_4), .val (.int p0_5), .val (.int (v0_7 p0_1)), .val (.int (v0_13 p0_5)), .val (.ref b2), .val (.ref b14), .val (.ref b32), .unset, .unset, .unset] [(.ref b43)])) t → Steps p.tables e below (s₁.setTop (entryFrame m #[(.long p0_0), (.int p0_1), (.int p0_2), (.int p0_3), (.int p0_4), (.int p0_5)] maxLocals)) t := fun t k => pre42 t (st43 t k)
  have pre49 : ∀ t, Steps p.tables e below (T43.setTop (mkF m 88 #[.val (.long p0_0), .second, .val (.int p0_1), .val (.int p0_2), .val (.int p0_3), .val (.int p0_4), .val (.int p0_5), .val (.int (v0_7 p0_1)), .val (.int (v0_13 p0_5)), .val (.ref b2), .val (.ref b14), .val (.ref b32), .unset, .unset, .unset] [(.long p0_0), (.ref b43), (.ref b43)])) t → Steps p.tables e below (s₁.setTop (entryFrame m #[(.long p0_0), (.int p0_1), (.int p0_2), (.int p0_3), (.int p0_4), (.int p0_5)] maxLocals)) t := fun t k => pre43 t (by
    refine XS.dup X43.here hx rfl (hb hby at_86) rfl rfl ?_
    show Steps p.tables e below (T43.setTop (mkF m 87 #[.val (.long p0_0), .second, .val (.int p0_1), .val (.int p0_2), .val (.int p0_3), .val (.int p0_4), .val (.int p0_5), .val (.int (v0_7 p0_1)), .val (.int (v0_13 p0_5)), .val (.ref b2), .val (.ref b14), .val (.ref b32), .unset, .unset, .unset] [(.ref b43), (.ref b43)])) _
    refine XS.lloadN X43.here hx rfl (hb hby at_87) rfl ?_
    show Steps p.tables e below (T43.setTop (mkF m 88 #[.val (.long p0_0), .second, .val (.int p0_1), .val (.int p0_2), .val (.int p0_3), .val (.int p0_4), .val (.int p0_5), .val (.int (v0_7 p0_1)), .val (.int (v0_13 p0_5)), .val (.ref b2), .val (.ref b14), .val (.ref b32), .unset, .unset, .unset] [(.long p0_0), (.ref b43), (.ref b43)])) _
    exact k)
  obtain ⟨_, _, ⟨T50, L50, k50, n50⟩, -, X50, ⟨Lc50, hQ50, l50, y50, z50⟩, st50⟩ := X43.specialBack hx (y := (⟨"com/example/consigliere/consigliere/engine/Rng", "<init>", "(J)V"⟩ : MethodName)) rfl hown (mvT hZ (hw _ (List.mem_of_getElem? (i := 5) rfl))) (mvT hZ (hw _ (List.mem_of_getElem? (i := 6) rfl))) (mvT hZ (hw _ (List.mem_of_getElem? (i := 7) rfl))) (by decide) (backOf (W := 1) (rm1 l Z a0 hw [] b43 p0_0 (0 : Int64) h43 n0 Z43 A43 F48 g_b43) hZ (hw _ (List.mem_of_getElem? (i := 7) rfl)) (hw _ (List.mem_of_getElem? (i := 4) rfl)) (by decide) (by decide)) (g := (mkF m 88 #[.val (.long p0_0), .second, .val (.int p0_1), .val (.int p0_2), .val (.int p0_3), .val (.int p0_4), .val (.int p0_5), .val (.int (v0_7 p0_1)), .val (.int (v0_13 p0_5)), .val (.ref b2), .val (.ref b14), .val (.ref b32), .unset, .unset, .unset] [(.long p0_0), (.ref b43), (.ref b43)])) rfl (by rw [hml]; rfl) (Steps.refl _) (a := b43) (argsL := [(.long p0_0)]) (rest := [(.ref b43)]) (lenOf pd_2 rfl) rfl (by show 2 * 0 + _ ≤ _; exact Nat.le_of_eq rfl) (hb hby at_88) (fun _ _ => ⟨rfl, e43, (by decide : 4 + 0 ≤ _), (by decide : 12 + 0 ≤ _)⟩)
  dsimp only [Pt.U, Pt.locs, Pt.cells, Pt.slots] at X50 l50 y50 z50 st50 hQ50
  rw [l50, y50, z50] at X50
  obtain ⟨rfl, M50, K50c, P50_0⟩ := hQ50
  have N50 := Fr.app N37 M50
  have K50 : Keep h43 T50.heap [b43] := K50c
  have Z50 : n0 ≤ T50.heap.size := Nat.le_trans Z43 K50.1
  have Ar51 : ArI Z T50.heap b2 .int 5 (g0_41 p0_2 p0_3 p0_4 p0_5) := Ar44.keep K50 (ninS ne_b2_b43 nin0)
  have Ar52 : ArI Z T50.heap b14 .int 5 (g0_70 p0_2 p0_3 p0_4 p0_5) := Ar45.keep K50 (ninS ne_b14_b43 nin0)
  have Ex53 : Exa Z T50.heap b32 "com/example/consigliere/consigliere/engine/Rng" := Ex46.keep K50
  have F54 : Fld Z T50.heap b32 "com/example/consigliere/consigliere/engine/Rng" "state" "J" (.long p0_0) := F47.keep K50 (ninS ne_b32_b43 nin0)
  have Ex55 : Exa Z T50.heap b43 "com/example/consigliere/consigliere/engine/Rng" := A43.keep K50
  have F56 : Fld Z T50.heap b43 "com/example/consigliere/consigliere/engine/Rng" "state" "J" (.long p0_0) := P50_0
  replace X50 : Stand p l e room_1 s m #[(.long p0_0), (.int p0_1), (.int p0_2), (.int p0_3), (.int p0_4), (.int p0_5)] below meth c T50 _ 4 12 := X50
  have pre50 : ∀ t, Steps p.tables e below (T50.setTop (mkF m 91 #[.val (.long p0_0), .second, .val (.int p0_1), .val (.int p0_2), .val (.int p0_3), .val (.int p0_4), .val (.int p0_5), .val (.int (v0_7 p0_1)), .val (.int (v0_13 p0_5)), .val (.ref b2), .val (.ref b14), .val (.ref b32), .unset, .unset, .unset] [(.ref b43)])) t → Steps p.tables e below (s₁.setTop (entryFrame m #[(.long p0_0), (.int p0_1), (.int p0_2), (.int p0_3), (.int p0_4), (.int p0_5)] maxLocals)) t := fun t k => pre49 t (st50.trans k)
  have pre57 : ∀ t, Steps p.tables e below (T50.setTop (mkF m 99 #[.val (.long p0_0), .second, .val (.int p0_1), .val (.int p0_2), .val (.int p0_3), .val (.int p0_4), .val (.int p0_5), .val (.int (v0_7 p0_1)), .val (.int (v0_13 p0_5)), .val (.ref b2), .val (.ref b14), .val (.ref b32), .val (.ref b43), .unset, .unset] [(.int (v0_7 p0_1)), (.ref b2), (.ref b32)])) t → Steps p.tables e below (s₁.setTop (entryFrame m #[(.long p0_0), (.int p0_1), (.int p0_2), (.int p0_3), (.int p0_4), (.int p0_5)] maxLocals)) t := fun t k => pre50 t (by
    refine XS.astore X50.here hx rfl (hb hby at_91) rfl rfl (l' := #[.val (.long p0_0), .second, .val (.int p0_1), .val (.int p0_2), .val (.int p0_3), .val (.int p0_4), .val (.int p0_5), .val (.int (v0_7 p0_1)), .val (.int (v0_13 p0_5)), .val (.ref b2), .val (.ref b14), .val (.ref b32), .val (.ref b43), .unset, .unset]) rfl ?_
    show Steps p.tables e below (T50.setTop (mkF m 93 #[.val (.long p0_0), .second, .val (.int p0_1), .val (.int p0_2), .val (.int p0_3), .val (.int p0_4), .val (.int p0_5), .val (.int (v0_7 p0_1)), .val (.int (v0_13 p0_5)), .val (.ref b2), .val (.ref b14), .val (.ref b32), .val (.ref b43), .unset, .unset] [])) _
    refine XS.aload X50.here hx rfl (hb hby at_93) rfl rfl ?_
    show Steps p.tables e below (T50.setTop (mkF m 95 #[.val (.long p0_0), .second, .val (.int p0_1), .val (.int p0_2), .val (.int p0_3), .val (.int p0_4), .val (.int p0_5), .val (.int (v0_7 p0_1)), .val (.int (v0_13 p0_5)), .val (.ref b2), .val (.ref b14), .val (.ref b32), .val (.ref b43), .unset, .unset] [(.ref b32)])) _
    refine XS.aload X50.here hx rfl (hb hby at_95) rfl rfl ?_
    show Steps p.tables e below (T50.setTop (mkF m 97 #[.val (.long p0_0), .second, .val (.int p0_1), .val (.int p0_2), .val (.int p0_3), .val (.int p0_4), .val (.int p0_5), .val (.int (v0_7 p0_1)), .val (.int (v0_13 p0_5)), .val (.ref b2), .val (.ref b14), .val (.ref b32), .val (.ref b43), .unset, .unset] [(.ref b2), (.ref b32)])) _
    refine XS.iload X50.here hx rfl (hb hby at_97) rfl ?_
    show Steps p.tables e below (T50.setTop (mkF m 99 #[.val (.long p0_0), .second, .val (.int p0_1), .val (.int p0_2), .val (.int p0_3), .val (.int p0_4), .val (.int p0_5), .val (.int (v0_7 p0_1)), .val (.int (v0_13 p0_5)), .val (.ref b2), .val (.ref b14), .val (.ref b32), .val (.ref b43), .unset, .unset] [(.int (v0_7 p0_1)), (.ref b2), (.ref b32)])) _
    exact k)
  obtain ⟨cq58, kq58, qa58, qb58, qc58⟩ := isOf hZ rfl Ex53
  obtain ⟨_, _, ⟨T58, L58, k58, n58⟩, -, X58, ⟨Lc58, hQ58, l58, y58, z58⟩, st58⟩ := X50.virtualBack hx (y := (⟨"com/example/consigliere/consigliere/engine/Rng", "shuffle", "([II)V"⟩ : MethodName)) (z := (⟨"com/example/consigliere/consigliere/engine/Rng", "shuffle", "([II)V"⟩ : MethodName)) hown (mvT hZ (hw _ (List.mem_of_getElem? (i := 13) rfl))) (mvT hZ (hw _ (List.mem_of_getElem? (i := 14) rfl))) (notFace_of_selects (args := #[]) (mvT hZ (hw _ (List.mem_of_getElem? (i := 16) rfl)))) (mvT hZ (hw _ (List.mem_of_getElem? (i := 16) rfl))) (mvT hZ (hw _ (List.mem_of_getElem? (i := 15) rfl))) (by decide) (backOf (W := 0) (rm3 l Z a0 hw [] b32 b2 (v0_7 p0_1) JJ (own_k p0_1) 5 (g0_41 p0_2 p0_3 p0_4 p0_5) p0_0 T50.heap n0 Z50 hJ (by decide) (Ne.symm ne_b2_b32) Ar51 (own_kk p0_1) (Or.inl (own_kl p0_1)) Ex53 F54 g_b32 g_b2) hZ (hw _ (List.mem_of_getElem? (i := 17) rfl)) (hw _ (List.mem_of_getElem? (i := 4) rfl)) (by decide) (by decide)) qa58 qc58 (g := (mkF m 99 #[.val (.long p0_0), .second, .val (.int p0_1), .val (.int p0_2), .val (.int p0_3), .val (.int p0_4), .val (.int p0_5), .val (.int (v0_7 p0_1)), .val (.int (v0_13 p0_5)), .val (.ref b2), .val (.ref b14), .val (.ref b32), .val (.ref b43), .unset, .unset] [(.int (v0_7 p0_1)), (.ref b2), (.ref b32)])) rfl (by rw [hml]; rfl) (Steps.refl _) (argsL := [(.ref b2), (.int (v0_7 p0_1))]) (rest := []) (lenOf pd_3 rfl) rfl (by show 2 * 0 + _ ≤ _; exact Nat.le_of_eq rfl) (hb hby at_99) (fun _ _ => ⟨rfl, rfl, (by decide : 4 + 0 ≤ _), (by decide : 12 + 0 ≤ _)⟩)
  dsimp only [Pt.U, Pt.locs, Pt.cells, Pt.slots] at X58 l58 y58 z58 st58 hQ58
  rw [l58, y58, z58] at X58
  obtain ⟨rfl, M58, K58c, P58_0, P58_1⟩ := hQ58
  have N58 := Fr.app N50 M58
  have K58 : Keep T50.heap T58.heap [b32, b2] := K58c
  have Z58 : n0 ≤ T58.heap.size := Nat.le_trans Z50 K58.1
  have Ar59 : ArI Z T58.heap b14 .int 5 (g0_70 p0_2 p0_3 p0_4 p0_5) := Ar52.keep K58 (ninS ne_b14_b32 (ninS (Ne.symm ne_b2_b14) nin0))
  have Ex60 : Exa Z T58.heap b32 "com/example/consigliere/consigliere/engine/Rng" := Ex53.keep K58
  have Ex61 : Exa Z T58.heap b43 "com/example/consigliere/consigliere/engine/Rng" := Ex55.keep K58
  have F62 : Fld Z T58.heap b43 "com/example/consigliere/consigliere/engine/Rng" "state" "J" (.long p0_0) := F56.keep K58 (ninS (Ne.symm ne_b32_b43) (ninS (Ne.symm ne_b2_b43) nin0))
  have F63 : Fld Z T58.heap b32 "com/example/consigliere/consigliere/engine/Rng" "state" "J" (.long (own_sh JJ (own_k p0_1) p0_0 (g0_41 p0_2 p0_3 p0_4 p0_5)).1) := P58_0
  have C64 : ArI Z T58.heap b2 .int 5 (own_sh JJ (own_k p0_1) p0_0 (g0_41 p0_2 p0_3 p0_4 p0_5)).2 := P58_1
  replace X58 : Stand p l e room_1 s m #[(.long p0_0), (.int p0_1), (.int p0_2), (.int p0_3), (.int p0_4), (.int p0_5)] below meth c T58 _ 4 12 := X58
  have pre58 : ∀ t, Steps p.tables e below (T58.setTop (mkF m 102 #[.val (.long p0_0), .second, .val (.int p0_1), .val (.int p0_2), .val (.int p0_3), .val (.int p0_4), .val (.int p0_5), .val (.int (v0_7 p0_1)), .val (.int (v0_13 p0_5)), .val (.ref b2), .val (.ref b14), .val (.ref b32), .val (.ref b43), .unset, .unset] [])) t → Steps p.tables e below (s₁.setTop (entryFrame m #[(.long p0_0), (.int p0_1), (.int p0_2), (.int p0_3), (.int p0_4), (.int p0_5)] maxLocals)) t := fun t k => pre57 t (st58.trans k)
  have pre65 : ∀ t, Steps p.tables e below (T58.setTop (mkF m 105 #[.val (.long p0_0), .second, .val (.int p0_1), .val (.int p0_2), .val (.int p0_3), .val (.int p0_4), .val (.int p0_5), .val (.int (v0_7 p0_1)), .val (.int (v0_13 p0_5)), .val (.ref b2), .val (.ref b14), .val (.ref b32), .val (.ref b43), .unset, .unset] [(.int (5 : Int32)), (.int (v0_7 p0_1))])) t → Steps p.tables e below (s₁.setTop (entryFrame m #[(.long p0_0), (.int p0_1), (.int p0_2), (.int p0_3), (.int p0_4), (.int p0_5)] maxLocals)) t := fun t k => pre58 t (by
    refine XS.iload X58.here hx rfl (hb hby at_102) rfl ?_
    show Steps p.tables e below (T58.setTop (mkF m 104 #[.val (.long p0_0), .second, .val (.int p0_1), .val (.int p0_2), .val (.int p0_3), .val (.int p0_4), .val (.int p0_5), .val (.int (v0_7 p0_1)), .val (.int (v0_13 p0_5)), .val (.ref b2), .val (.ref b14), .val (.ref b32), .val (.ref b43), .unset, .unset] [(.int (v0_7 p0_1))])) _
    refine XS.iconst X58.here hx rfl (hb hby at_104) ?_
    show Steps p.tables e below (T58.setTop (mkF m 105 #[.val (.long p0_0), .second, .val (.int p0_1), .val (.int p0_2), .val (.int p0_3), .val (.int p0_4), .val (.int p0_5), .val (.int (v0_7 p0_1)), .val (.int (v0_13 p0_5)), .val (.ref b2), .val (.ref b14), .val (.ref b32), .val (.ref b43), .unset, .unset] [(.int (5 : Int32)), (.int (v0_7 p0_1))])) _
    exact k)
  by_cases hc105_66 : (v0_7 p0_1) < (5 : Int32)
  · have pre67 : ∀ t, Steps p.tables e below (T58.setTop (mkF m 123 #[.val (.long p0_0), .second, .val (.int p0_1), .val (.int p0_2), .val (.int p0_3), .val (.int p0_4), .val (.int p0_5), .val (.int (v0_7 p0_1)), .val (.int (v0_13 p0_5)), .val (.ref b2), .val (.ref b14), .val (.ref b32), .val (.ref b43), .unset, .unset] [(.int (4 : Int32)), (.int (v0_7 p0_1))])) t → Steps p.tables e below (s₁.setTop (entryFrame m #[(.long p0_0), (.int p0_1), (.int p0_2), (.int p0_3), (.int p0_4), (.int p0_5)] maxLocals)) t := fun t k => pre65 t (by
      refine XS.icmpYes X58.here hx rfl (pc0 := 105) (pc' := 120) rfl (hb hby at_105) rfl (tlt hc105_66).1 (by decide) (by decide) ?_
      show Steps p.tables e below (T58.setTop (mkF m 120 #[.val (.long p0_0), .second, .val (.int p0_1), .val (.int p0_2), .val (.int p0_3), .val (.int p0_4), .val (.int p0_5), .val (.int (v0_7 p0_1)), .val (.int (v0_13 p0_5)), .val (.ref b2), .val (.ref b14), .val (.ref b32), .val (.ref b43), .unset, .unset] [])) _
      refine XS.iload X58.here hx rfl (hb hby at_120) rfl ?_
      show Steps p.tables e below (T58.setTop (mkF m 122 #[.val (.long p0_0), .second, .val (.int p0_1), .val (.int p0_2), .val (.int p0_3), .val (.int p0_4), .val (.int p0_5), .val (.int (v0_7 p0_1)), .val (.int (v0_13 p0_5)), .val (.ref b2), .val (.ref b14), .val (.ref b32), .val (.ref b43), .unset, .unset] [(.int (v0_7 p0_1))])) _
      refine XS.iconst X58.here hx rfl (hb hby at_122) ?_
      show Steps p.tables e below (T58.setTop (mkF m 123 #[.val (.long p0_0), .second, .val (.int p0_1), .val (.int p0_2), .val (.int p0_3), .val (.int p0_4), .val (.int p0_5), .val (.int (v0_7 p0_1)), .val (.int (v0_13 p0_5)), .val (.ref b2), .val (.ref b14), .val (.ref b32), .val (.ref b43), .unset, .unset] [(.int (4 : Int32)), (.int (v0_7 p0_1))])) _
      exact k)
    by_cases hc123_68 : (v0_7 p0_1) < (4 : Int32)
    · have pre69 : ∀ t, Steps p.tables e below (T58.setTop (mkF m 141 #[.val (.long p0_0), .second, .val (.int p0_1), .val (.int p0_2), .val (.int p0_3), .val (.int p0_4), .val (.int p0_5), .val (.int (v0_7 p0_1)), .val (.int (v0_13 p0_5)), .val (.ref b2), .val (.ref b14), .val (.ref b32), .val (.ref b43), .unset, .unset] [(.int (3 : Int32)), (.int (v0_7 p0_1))])) t → Steps p.tables e below (s₁.setTop (entryFrame m #[(.long p0_0), (.int p0_1), (.int p0_2), (.int p0_3), (.int p0_4), (.int p0_5)] maxLocals)) t := fun t k => pre67 t (by
        refine XS.icmpYes X58.here hx rfl (pc0 := 123) (pc' := 138) rfl (hb hby at_123) rfl (tlt hc123_68).1 (by decide) (by decide) ?_
        show Steps p.tables e below (T58.setTop (mkF m 138 #[.val (.long p0_0), .second, .val (.int p0_1), .val (.int p0_2), .val (.int p0_3), .val (.int p0_4), .val (.int p0_5), .val (.int (v0_7 p0_1)), .val (.int (v0_13 p0_5)), .val (.ref b2), .val (.ref b14), .val (.ref b32), .val (.ref b43), .unset, .unset] [])) _
        refine XS.iload X58.here hx rfl (hb hby at_138) rfl ?_
        show Steps p.tables e below (T58.setTop (mkF m 140 #[.val (.long p0_0), .second, .val (.int p0_1), .val (.int p0_2), .val (.int p0_3), .val (.int p0_4), .val (.int p0_5), .val (.int (v0_7 p0_1)), .val (.int (v0_13 p0_5)), .val (.ref b2), .val (.ref b14), .val (.ref b32), .val (.ref b43), .unset, .unset] [(.int (v0_7 p0_1))])) _
        refine XS.iconst X58.here hx rfl (hb hby at_140) ?_
        show Steps p.tables e below (T58.setTop (mkF m 141 #[.val (.long p0_0), .second, .val (.int p0_1), .val (.int p0_2), .val (.int p0_3), .val (.int p0_4), .val (.int p0_5), .val (.int (v0_7 p0_1)), .val (.int (v0_13 p0_5)), .val (.ref b2), .val (.ref b14), .val (.ref b32), .val (.ref b43), .unset, .unset] [(.int (3 : Int32)), (.int (v0_7 p0_1))])) _
        exact k)
      by_cases hc141_70 : (v0_7 p0_1) < (3 : Int32)
      · have pre71 : ∀ t, Steps p.tables e below (T58.setTop (mkF m 159 #[.val (.long p0_0), .second, .val (.int p0_1), .val (.int p0_2), .val (.int p0_3), .val (.int p0_4), .val (.int p0_5), .val (.int (v0_7 p0_1)), .val (.int (v0_13 p0_5)), .val (.ref b2), .val (.ref b14), .val (.ref b32), .val (.ref b43), .unset, .unset] [(.int (2 : Int32)), (.int (v0_7 p0_1))])) t → Steps p.tables e below (s₁.setTop (entryFrame m #[(.long p0_0), (.int p0_1), (.int p0_2), (.int p0_3), (.int p0_4), (.int p0_5)] maxLocals)) t := fun t k => pre69 t (by
          refine XS.icmpYes X58.here hx rfl (pc0 := 141) (pc' := 156) rfl (hb hby at_141) rfl (tlt hc141_70).1 (by decide) (by decide) ?_
          show Steps p.tables e below (T58.setTop (mkF m 156 #[.val (.long p0_0), .second, .val (.int p0_1), .val (.int p0_2), .val (.int p0_3), .val (.int p0_4), .val (.int p0_5), .val (.int (v0_7 p0_1)), .val (.int (v0_13 p0_5)), .val (.ref b2), .val (.ref b14), .val (.ref b32), .val (.ref b43), .unset, .unset] [])) _
          refine XS.iload X58.here hx rfl (hb hby at_156) rfl ?_
          show Steps p.tables e below (T58.setTop (mkF m 158 #[.val (.long p0_0), .second, .val (.int p0_1), .val (.int p0_2), .val (.int p0_3), .val (.int p0_4), .val (.int p0_5), .val (.int (v0_7 p0_1)), .val (.int (v0_13 p0_5)), .val (.ref b2), .val (.ref b14), .val (.ref b32), .val (.ref b43), .unset, .unset] [(.int (v0_7 p0_1))])) _
          refine XS.iconst X58.here hx rfl (hb hby at_158) ?_
          show Steps p.tables e below (T58.setTop (mkF m 159 #[.val (.long p0_0), .second, .val (.int p0_1), .val (.int p0_2), .val (.int p0_3), .val (.int p0_4), .val (.int p0_5), .val (.int (v0_7 p0_1)), .val (.int (v0_13 p0_5)), .val (.ref b2), .val (.ref b14), .val (.ref b32), .val (.ref b43), .unset, .unset] [(.int (2 : Int32)), (.int (v0_7 p0_1))])) _
          exact k)
        by_cases hc159_72 : (v0_7 p0_1) < (2 : Int32)
        · have pre78 : ∀ t, Steps p.tables e below (T58.setTop (mkF m 238 #[.val (.long p0_0), .second, .val (.int p0_1), .val (.int p0_2), .val (.int p0_3), .val (.int p0_4), .val (.int p0_5), .val (.int (v0_7 p0_1)), .val (.int (v0_13 p0_5)), .val (.ref b2), .val (.ref b14), .val (.ref b32), .val (.ref b43), .val (.int (1 : Int32)), .unset] [(.ref b32)])) t → Steps p.tables e below (s₁.setTop (entryFrame m #[(.long p0_0), (.int p0_1), (.int p0_2), (.int p0_3), (.int p0_4), (.int p0_5)] maxLocals)) t := fun t k => pre71 t (by
            refine XS.icmpYes X58.here hx rfl (pc0 := 159) (pc' := 174) rfl (hb hby at_159) rfl (tlt hc159_72).1 (by decide) (by decide) ?_
            show Steps p.tables e below (T58.setTop (mkF m 174 #[.val (.long p0_0), .second, .val (.int p0_1), .val (.int p0_2), .val (.int p0_3), .val (.int p0_4), .val (.int p0_5), .val (.int (v0_7 p0_1)), .val (.int (v0_13 p0_5)), .val (.ref b2), .val (.ref b14), .val (.ref b32), .val (.ref b43), .unset, .unset] [])) _
            refine XS.aload X58.here hx rfl (hb hby at_174) rfl rfl ?_
            show Steps p.tables e below (T58.setTop (mkF m 176 #[.val (.long p0_0), .second, .val (.int p0_1), .val (.int p0_2), .val (.int p0_3), .val (.int p0_4), .val (.int p0_5), .val (.int (v0_7 p0_1)), .val (.int (v0_13 p0_5)), .val (.ref b2), .val (.ref b14), .val (.ref b32), .val (.ref b43), .unset, .unset] [(.ref b2)])) _
            refine XS.iconst X58.here hx rfl (hb hby at_176) ?_
            show Steps p.tables e below (T58.setTop (mkF m 177 #[.val (.long p0_0), .second, .val (.int p0_1), .val (.int p0_2), .val (.int p0_3), .val (.int p0_4), .val (.int p0_5), .val (.int (v0_7 p0_1)), .val (.int (v0_13 p0_5)), .val (.ref b2), .val (.ref b14), .val (.ref b32), .val (.ref b43), .unset, .unset] [(.int (0 : Int32)), (.ref b2)])) _
            refine own_ldI X58 hx hZ rfl C64 (j := (0 : Int32)) (i := 0) (by decide) (by decide) (g := (mkF m 177 #[.val (.long p0_0), .second, .val (.int p0_1), .val (.int p0_2), .val (.int p0_3), .val (.int p0_4), .val (.int p0_5), .val (.int (v0_7 p0_1)), .val (.int (v0_13 p0_5)), .val (.ref b2), .val (.ref b14), .val (.ref b32), .val (.ref b43), .unset, .unset] [(.int (0 : Int32)), (.ref b2)])) rfl rfl (hb hby at_177) _ ?_
            show Steps p.tables e below (T58.setTop (mkF m 178 #[.val (.long p0_0), .second, .val (.int p0_1), .val (.int p0_2), .val (.int p0_3), .val (.int p0_4), .val (.int p0_5), .val (.int (v0_7 p0_1)), .val (.int (v0_13 p0_5)), .val (.ref b2), .val (.ref b14), .val (.ref b32), .val (.ref b43), .unset, .unset] [(.int ((own_sh JJ (own_k p0_1) p0_0 (g0_41 p0_2 p0_3 p0_4 p0_5)).2 0))])) _
            refine XS.aload X58.here hx rfl (hb hby at_178) rfl rfl ?_
            show Steps p.tables e below (T58.setTop (mkF m 180 #[.val (.long p0_0), .second, .val (.int p0_1), .val (.int p0_2), .val (.int p0_3), .val (.int p0_4), .val (.int p0_5), .val (.int (v0_7 p0_1)), .val (.int (v0_13 p0_5)), .val (.ref b2), .val (.ref b14), .val (.ref b32), .val (.ref b43), .unset, .unset] [(.ref b14), (.int ((own_sh JJ (own_k p0_1) p0_0 (g0_41 p0_2 p0_3 p0_4 p0_5)).2 0))])) _
            refine XS.iconst X58.here hx rfl (hb hby at_180) ?_
            show Steps p.tables e below (T58.setTop (mkF m 181 #[.val (.long p0_0), .second, .val (.int p0_1), .val (.int p0_2), .val (.int p0_3), .val (.int p0_4), .val (.int p0_5), .val (.int (v0_7 p0_1)), .val (.int (v0_13 p0_5)), .val (.ref b2), .val (.ref b14), .val (.ref b32), .val (.ref b43), .unset, .unset] [(.int (0 : Int32)), (.ref b14), (.int ((own_sh JJ (own_k p0_1) p0_0 (g0_41 p0_2 p0_3 p0_4 p0_5)).2 0))])) _
            refine own_ldI X58 hx hZ rfl Ar59 (j := (0 : Int32)) (i := 0) (by decide) (by decide) (g := (mkF m 181 #[.val (.long p0_0), .second, .val (.int p0_1), .val (.int p0_2), .val (.int p0_3), .val (.int p0_4), .val (.int p0_5), .val (.int (v0_7 p0_1)), .val (.int (v0_13 p0_5)), .val (.ref b2), .val (.ref b14), .val (.ref b32), .val (.ref b43), .unset, .unset] [(.int (0 : Int32)), (.ref b14), (.int ((own_sh JJ (own_k p0_1) p0_0 (g0_41 p0_2 p0_3 p0_4 p0_5)).2 0))])) rfl rfl (hb hby at_181) _ ?_
            show Steps p.tables e below (T58.setTop (mkF m 182 #[.val (.long p0_0), .second, .val (.int p0_1), .val (.int p0_2), .val (.int p0_3), .val (.int p0_4), .val (.int p0_5), .val (.int (v0_7 p0_1)), .val (.int (v0_13 p0_5)), .val (.ref b2), .val (.ref b14), .val (.ref b32), .val (.ref b43), .unset, .unset] [(.int ((g0_70 p0_2 p0_3 p0_4 p0_5) 0)), (.int ((own_sh JJ (own_k p0_1) p0_0 (g0_41 p0_2 p0_3 p0_4 p0_5)).2 0))])) _
            refine XS.icmpNo X58.here hx rfl (hb hby at_182) rfl (teq (show ((own_sh JJ (own_k p0_1) p0_0 (g0_41 p0_2 p0_3 p0_4 p0_5)).2 0) = ((g0_70 p0_2 p0_3 p0_4 p0_5) 0) from (congrFun (own_eq0 p0_0 p0_1 p0_2 p0_3 p0_4 p0_5 JJ hc105_66 hc123_68 hc141_70 hc159_72) 0))).2 ?_
            show Steps p.tables e below (T58.setTop (mkF m 185 #[.val (.long p0_0), .second, .val (.int p0_1), .val (.int p0_2), .val (.int p0_3), .val (.int p0_4), .val (.int p0_5), .val (.int (v0_7 p0_1)), .val (.int (v0_13 p0_5)), .val (.ref b2), .val (.ref b14), .val (.ref b32), .val (.ref b43), .unset, .unset] [])) _
            refine XS.aload X58.here hx rfl (hb hby at_185) rfl rfl ?_
            show Steps p.tables e below (T58.setTop (mkF m 187 #[.val (.long p0_0), .second, .val (.int p0_1), .val (.int p0_2), .val (.int p0_3), .val (.int p0_4), .val (.int p0_5), .val (.int (v0_7 p0_1)), .val (.int (v0_13 p0_5)), .val (.ref b2), .val (.ref b14), .val (.ref b32), .val (.ref b43), .unset, .unset] [(.ref b2)])) _
            refine XS.iconst X58.here hx rfl (hb hby at_187) ?_
            show Steps p.tables e below (T58.setTop (mkF m 188 #[.val (.long p0_0), .second, .val (.int p0_1), .val (.int p0_2), .val (.int p0_3), .val (.int p0_4), .val (.int p0_5), .val (.int (v0_7 p0_1)), .val (.int (v0_13 p0_5)), .val (.ref b2), .val (.ref b14), .val (.ref b32), .val (.ref b43), .unset, .unset] [(.int (1 : Int32)), (.ref b2)])) _
            refine own_ldI X58 hx hZ rfl C64 (j := (1 : Int32)) (i := 1) (by decide) (by decide) (g := (mkF m 188 #[.val (.long p0_0), .second, .val (.int p0_1), .val (.int p0_2), .val (.int p0_3), .val (.int p0_4), .val (.int p0_5), .val (.int (v0_7 p0_1)), .val (.int (v0_13 p0_5)), .val (.ref b2), .val (.ref b14), .val (.ref b32), .val (.ref b43), .unset, .unset] [(.int (1 : Int32)), (.ref b2)])) rfl rfl (hb hby at_188) _ ?_
            show Steps p.tables e below (T58.setTop (mkF m 189 #[.val (.long p0_0), .second, .val (.int p0_1), .val (.int p0_2), .val (.int p0_3), .val (.int p0_4), .val (.int p0_5), .val (.int (v0_7 p0_1)), .val (.int (v0_13 p0_5)), .val (.ref b2), .val (.ref b14), .val (.ref b32), .val (.ref b43), .unset, .unset] [(.int ((own_sh JJ (own_k p0_1) p0_0 (g0_41 p0_2 p0_3 p0_4 p0_5)).2 1))])) _
            refine XS.aload X58.here hx rfl (hb hby at_189) rfl rfl ?_
            show Steps p.tables e below (T58.setTop (mkF m 191 #[.val (.long p0_0), .second, .val (.int p0_1), .val (.int p0_2), .val (.int p0_3), .val (.int p0_4), .val (.int p0_5), .val (.int (v0_7 p0_1)), .val (.int (v0_13 p0_5)), .val (.ref b2), .val (.ref b14), .val (.ref b32), .val (.ref b43), .unset, .unset] [(.ref b14), (.int ((own_sh JJ (own_k p0_1) p0_0 (g0_41 p0_2 p0_3 p0_4 p0_5)).2 1))])) _
            refine XS.iconst X58.here hx rfl (hb hby at_191) ?_
            show Steps p.tables e below (T58.setTop (mkF m 192 #[.val (.long p0_0), .second, .val (.int p0_1), .val (.int p0_2), .val (.int p0_3), .val (.int p0_4), .val (.int p0_5), .val (.int (v0_7 p0_1)), .val (.int (v0_13 p0_5)), .val (.ref b2), .val (.ref b14), .val (.ref b32), .val (.ref b43), .unset, .unset] [(.int (1 : Int32)), (.ref b14), (.int ((own_sh JJ (own_k p0_1) p0_0 (g0_41 p0_2 p0_3 p0_4 p0_5)).2 1))])) _
            refine own_ldI X58 hx hZ rfl Ar59 (j := (1 : Int32)) (i := 1) (by decide) (by decide) (g := (mkF m 192 #[.val (.long p0_0), .second, .val (.int p0_1), .val (.int p0_2), .val (.int p0_3), .val (.int p0_4), .val (.int p0_5), .val (.int (v0_7 p0_1)), .val (.int (v0_13 p0_5)), .val (.ref b2), .val (.ref b14), .val (.ref b32), .val (.ref b43), .unset, .unset] [(.int (1 : Int32)), (.ref b14), (.int ((own_sh JJ (own_k p0_1) p0_0 (g0_41 p0_2 p0_3 p0_4 p0_5)).2 1))])) rfl rfl (hb hby at_192) _ ?_
            show Steps p.tables e below (T58.setTop (mkF m 193 #[.val (.long p0_0), .second, .val (.int p0_1), .val (.int p0_2), .val (.int p0_3), .val (.int p0_4), .val (.int p0_5), .val (.int (v0_7 p0_1)), .val (.int (v0_13 p0_5)), .val (.ref b2), .val (.ref b14), .val (.ref b32), .val (.ref b43), .unset, .unset] [(.int ((g0_70 p0_2 p0_3 p0_4 p0_5) 1)), (.int ((own_sh JJ (own_k p0_1) p0_0 (g0_41 p0_2 p0_3 p0_4 p0_5)).2 1))])) _
            refine XS.icmpNo X58.here hx rfl (hb hby at_193) rfl (teq (show ((own_sh JJ (own_k p0_1) p0_0 (g0_41 p0_2 p0_3 p0_4 p0_5)).2 1) = ((g0_70 p0_2 p0_3 p0_4 p0_5) 1) from (congrFun (own_eq0 p0_0 p0_1 p0_2 p0_3 p0_4 p0_5 JJ hc105_66 hc123_68 hc141_70 hc159_72) 1))).2 ?_
            show Steps p.tables e below (T58.setTop (mkF m 196 #[.val (.long p0_0), .second, .val (.int p0_1), .val (.int p0_2), .val (.int p0_3), .val (.int p0_4), .val (.int p0_5), .val (.int (v0_7 p0_1)), .val (.int (v0_13 p0_5)), .val (.ref b2), .val (.ref b14), .val (.ref b32), .val (.ref b43), .unset, .unset] [])) _
            refine XS.aload X58.here hx rfl (hb hby at_196) rfl rfl ?_
            show Steps p.tables e below (T58.setTop (mkF m 198 #[.val (.long p0_0), .second, .val (.int p0_1), .val (.int p0_2), .val (.int p0_3), .val (.int p0_4), .val (.int p0_5), .val (.int (v0_7 p0_1)), .val (.int (v0_13 p0_5)), .val (.ref b2), .val (.ref b14), .val (.ref b32), .val (.ref b43), .unset, .unset] [(.ref b2)])) _
            refine XS.iconst X58.here hx rfl (hb hby at_198) ?_
            show Steps p.tables e below (T58.setTop (mkF m 199 #[.val (.long p0_0), .second, .val (.int p0_1), .val (.int p0_2), .val (.int p0_3), .val (.int p0_4), .val (.int p0_5), .val (.int (v0_7 p0_1)), .val (.int (v0_13 p0_5)), .val (.ref b2), .val (.ref b14), .val (.ref b32), .val (.ref b43), .unset, .unset] [(.int (2 : Int32)), (.ref b2)])) _
            refine own_ldI X58 hx hZ rfl C64 (j := (2 : Int32)) (i := 2) (by decide) (by decide) (g := (mkF m 199 #[.val (.long p0_0), .second, .val (.int p0_1), .val (.int p0_2), .val (.int p0_3), .val (.int p0_4), .val (.int p0_5), .val (.int (v0_7 p0_1)), .val (.int (v0_13 p0_5)), .val (.ref b2), .val (.ref b14), .val (.ref b32), .val (.ref b43), .unset, .unset] [(.int (2 : Int32)), (.ref b2)])) rfl rfl (hb hby at_199) _ ?_
            show Steps p.tables e below (T58.setTop (mkF m 200 #[.val (.long p0_0), .second, .val (.int p0_1), .val (.int p0_2), .val (.int p0_3), .val (.int p0_4), .val (.int p0_5), .val (.int (v0_7 p0_1)), .val (.int (v0_13 p0_5)), .val (.ref b2), .val (.ref b14), .val (.ref b32), .val (.ref b43), .unset, .unset] [(.int ((own_sh JJ (own_k p0_1) p0_0 (g0_41 p0_2 p0_3 p0_4 p0_5)).2 2))])) _
            refine XS.aload X58.here hx rfl (hb hby at_200) rfl rfl ?_
            show Steps p.tables e below (T58.setTop (mkF m 202 #[.val (.long p0_0), .second, .val (.int p0_1), .val (.int p0_2), .val (.int p0_3), .val (.int p0_4), .val (.int p0_5), .val (.int (v0_7 p0_1)), .val (.int (v0_13 p0_5)), .val (.ref b2), .val (.ref b14), .val (.ref b32), .val (.ref b43), .unset, .unset] [(.ref b14), (.int ((own_sh JJ (own_k p0_1) p0_0 (g0_41 p0_2 p0_3 p0_4 p0_5)).2 2))])) _
            refine XS.iconst X58.here hx rfl (hb hby at_202) ?_
            show Steps p.tables e below (T58.setTop (mkF m 203 #[.val (.long p0_0), .second, .val (.int p0_1), .val (.int p0_2), .val (.int p0_3), .val (.int p0_4), .val (.int p0_5), .val (.int (v0_7 p0_1)), .val (.int (v0_13 p0_5)), .val (.ref b2), .val (.ref b14), .val (.ref b32), .val (.ref b43), .unset, .unset] [(.int (2 : Int32)), (.ref b14), (.int ((own_sh JJ (own_k p0_1) p0_0 (g0_41 p0_2 p0_3 p0_4 p0_5)).2 2))])) _
            refine own_ldI X58 hx hZ rfl Ar59 (j := (2 : Int32)) (i := 2) (by decide) (by decide) (g := (mkF m 203 #[.val (.long p0_0), .second, .val (.int p0_1), .val (.int p0_2), .val (.int p0_3), .val (.int p0_4), .val (.int p0_5), .val (.int (v0_7 p0_1)), .val (.int (v0_13 p0_5)), .val (.ref b2), .val (.ref b14), .val (.ref b32), .val (.ref b43), .unset, .unset] [(.int (2 : Int32)), (.ref b14), (.int ((own_sh JJ (own_k p0_1) p0_0 (g0_41 p0_2 p0_3 p0_4 p0_5)).2 2))])) rfl rfl (hb hby at_203) _ ?_
            show Steps p.tables e below (T58.setTop (mkF m 204 #[.val (.long p0_0), .second, .val (.int p0_1), .val (.int p0_2), .val (.int p0_3), .val (.int p0_4), .val (.int p0_5), .val (.int (v0_7 p0_1)), .val (.int (v0_13 p0_5)), .val (.ref b2), .val (.ref b14), .val (.ref b32), .val (.ref b43), .unset, .unset] [(.int ((g0_70 p0_2 p0_3 p0_4 p0_5) 2)), (.int ((own_sh JJ (own_k p0_1) p0_0 (g0_41 p0_2 p0_3 p0_4 p0_5)).2 2))])) _
            refine XS.icmpNo X58.here hx rfl (hb hby at_204) rfl (teq (show ((own_sh JJ (own_k p0_1) p0_0 (g0_41 p0_2 p0_3 p0_4 p0_5)).2 2) = ((g0_70 p0_2 p0_3 p0_4 p0_5) 2) from (congrFun (own_eq0 p0_0 p0_1 p0_2 p0_3 p0_4 p0_5 JJ hc105_66 hc123_68 hc141_70 hc159_72) 2))).2 ?_
            show Steps p.tables e below (T58.setTop (mkF m 207 #[.val (.long p0_0), .second, .val (.int p0_1), .val (.int p0_2), .val (.int p0_3), .val (.int p0_4), .val (.int p0_5), .val (.int (v0_7 p0_1)), .val (.int (v0_13 p0_5)), .val (.ref b2), .val (.ref b14), .val (.ref b32), .val (.ref b43), .unset, .unset] [])) _
            refine XS.aload X58.here hx rfl (hb hby at_207) rfl rfl ?_
            show Steps p.tables e below (T58.setTop (mkF m 209 #[.val (.long p0_0), .second, .val (.int p0_1), .val (.int p0_2), .val (.int p0_3), .val (.int p0_4), .val (.int p0_5), .val (.int (v0_7 p0_1)), .val (.int (v0_13 p0_5)), .val (.ref b2), .val (.ref b14), .val (.ref b32), .val (.ref b43), .unset, .unset] [(.ref b2)])) _
            refine XS.iconst X58.here hx rfl (hb hby at_209) ?_
            show Steps p.tables e below (T58.setTop (mkF m 210 #[.val (.long p0_0), .second, .val (.int p0_1), .val (.int p0_2), .val (.int p0_3), .val (.int p0_4), .val (.int p0_5), .val (.int (v0_7 p0_1)), .val (.int (v0_13 p0_5)), .val (.ref b2), .val (.ref b14), .val (.ref b32), .val (.ref b43), .unset, .unset] [(.int (3 : Int32)), (.ref b2)])) _
            refine own_ldI X58 hx hZ rfl C64 (j := (3 : Int32)) (i := 3) (by decide) (by decide) (g := (mkF m 210 #[.val (.long p0_0), .second, .val (.int p0_1), .val (.int p0_2), .val (.int p0_3), .val (.int p0_4), .val (.int p0_5), .val (.int (v0_7 p0_1)), .val (.int (v0_13 p0_5)), .val (.ref b2), .val (.ref b14), .val (.ref b32), .val (.ref b43), .unset, .unset] [(.int (3 : Int32)), (.ref b2)])) rfl rfl (hb hby at_210) _ ?_
            show Steps p.tables e below (T58.setTop (mkF m 211 #[.val (.long p0_0), .second, .val (.int p0_1), .val (.int p0_2), .val (.int p0_3), .val (.int p0_4), .val (.int p0_5), .val (.int (v0_7 p0_1)), .val (.int (v0_13 p0_5)), .val (.ref b2), .val (.ref b14), .val (.ref b32), .val (.ref b43), .unset, .unset] [(.int ((own_sh JJ (own_k p0_1) p0_0 (g0_41 p0_2 p0_3 p0_4 p0_5)).2 3))])) _
            refine XS.aload X58.here hx rfl (hb hby at_211) rfl rfl ?_
            show Steps p.tables e below (T58.setTop (mkF m 213 #[.val (.long p0_0), .second, .val (.int p0_1), .val (.int p0_2), .val (.int p0_3), .val (.int p0_4), .val (.int p0_5), .val (.int (v0_7 p0_1)), .val (.int (v0_13 p0_5)), .val (.ref b2), .val (.ref b14), .val (.ref b32), .val (.ref b43), .unset, .unset] [(.ref b14), (.int ((own_sh JJ (own_k p0_1) p0_0 (g0_41 p0_2 p0_3 p0_4 p0_5)).2 3))])) _
            refine XS.iconst X58.here hx rfl (hb hby at_213) ?_
            show Steps p.tables e below (T58.setTop (mkF m 214 #[.val (.long p0_0), .second, .val (.int p0_1), .val (.int p0_2), .val (.int p0_3), .val (.int p0_4), .val (.int p0_5), .val (.int (v0_7 p0_1)), .val (.int (v0_13 p0_5)), .val (.ref b2), .val (.ref b14), .val (.ref b32), .val (.ref b43), .unset, .unset] [(.int (3 : Int32)), (.ref b14), (.int ((own_sh JJ (own_k p0_1) p0_0 (g0_41 p0_2 p0_3 p0_4 p0_5)).2 3))])) _
            refine own_ldI X58 hx hZ rfl Ar59 (j := (3 : Int32)) (i := 3) (by decide) (by decide) (g := (mkF m 214 #[.val (.long p0_0), .second, .val (.int p0_1), .val (.int p0_2), .val (.int p0_3), .val (.int p0_4), .val (.int p0_5), .val (.int (v0_7 p0_1)), .val (.int (v0_13 p0_5)), .val (.ref b2), .val (.ref b14), .val (.ref b32), .val (.ref b43), .unset, .unset] [(.int (3 : Int32)), (.ref b14), (.int ((own_sh JJ (own_k p0_1) p0_0 (g0_41 p0_2 p0_3 p0_4 p0_5)).2 3))])) rfl rfl (hb hby at_214) _ ?_
            show Steps p.tables e below (T58.setTop (mkF m 215 #[.val (.long p0_0), .second, .val (.int p0_1), .val (.int p0_2), .val (.int p0_3), .val (.int p0_4), .val (.int p0_5), .val (.int (v0_7 p0_1)), .val (.int (v0_13 p0_5)), .val (.ref b2), .val (.ref b14), .val (.ref b32), .val (.ref b43), .unset, .unset] [(.int ((g0_70 p0_2 p0_3 p0_4 p0_5) 3)), (.int ((own_sh JJ (own_k p0_1) p0_0 (g0_41 p0_2 p0_3 p0_4 p0_5)).2 3))])) _
            refine XS.icmpNo X58.here hx rfl (hb hby at_215) rfl (teq (show ((own_sh JJ (own_k p0_1) p0_0 (g0_41 p0_2 p0_3 p0_4 p0_5)).2 3) = ((g0_70 p0_2 p0_3 p0_4 p0_5) 3) from (congrFun (own_eq0 p0_0 p0_1 p0_2 p0_3 p0_4 p0_5 JJ hc105_66 hc123_68 hc141_70 hc159_72) 3))).2 ?_
            show Steps p.tables e below (T58.setTop (mkF m 218 #[.val (.long p0_0), .second, .val (.int p0_1), .val (.int p0_2), .val (.int p0_3), .val (.int p0_4), .val (.int p0_5), .val (.int (v0_7 p0_1)), .val (.int (v0_13 p0_5)), .val (.ref b2), .val (.ref b14), .val (.ref b32), .val (.ref b43), .unset, .unset] [])) _
            refine XS.aload X58.here hx rfl (hb hby at_218) rfl rfl ?_
            show Steps p.tables e below (T58.setTop (mkF m 220 #[.val (.long p0_0), .second, .val (.int p0_1), .val (.int p0_2), .val (.int p0_3), .val (.int p0_4), .val (.int p0_5), .val (.int (v0_7 p0_1)), .val (.int (v0_13 p0_5)), .val (.ref b2), .val (.ref b14), .val (.ref b32), .val (.ref b43), .unset, .unset] [(.ref b2)])) _
            refine XS.iconst X58.here hx rfl (hb hby at_220) ?_
            show Steps p.tables e below (T58.setTop (mkF m 221 #[.val (.long p0_0), .second, .val (.int p0_1), .val (.int p0_2), .val (.int p0_3), .val (.int p0_4), .val (.int p0_5), .val (.int (v0_7 p0_1)), .val (.int (v0_13 p0_5)), .val (.ref b2), .val (.ref b14), .val (.ref b32), .val (.ref b43), .unset, .unset] [(.int (4 : Int32)), (.ref b2)])) _
            refine own_ldI X58 hx hZ rfl C64 (j := (4 : Int32)) (i := 4) (by decide) (by decide) (g := (mkF m 221 #[.val (.long p0_0), .second, .val (.int p0_1), .val (.int p0_2), .val (.int p0_3), .val (.int p0_4), .val (.int p0_5), .val (.int (v0_7 p0_1)), .val (.int (v0_13 p0_5)), .val (.ref b2), .val (.ref b14), .val (.ref b32), .val (.ref b43), .unset, .unset] [(.int (4 : Int32)), (.ref b2)])) rfl rfl (hb hby at_221) _ ?_
            show Steps p.tables e below (T58.setTop (mkF m 222 #[.val (.long p0_0), .second, .val (.int p0_1), .val (.int p0_2), .val (.int p0_3), .val (.int p0_4), .val (.int p0_5), .val (.int (v0_7 p0_1)), .val (.int (v0_13 p0_5)), .val (.ref b2), .val (.ref b14), .val (.ref b32), .val (.ref b43), .unset, .unset] [(.int ((own_sh JJ (own_k p0_1) p0_0 (g0_41 p0_2 p0_3 p0_4 p0_5)).2 4))])) _
            refine XS.aload X58.here hx rfl (hb hby at_222) rfl rfl ?_
            show Steps p.tables e below (T58.setTop (mkF m 224 #[.val (.long p0_0), .second, .val (.int p0_1), .val (.int p0_2), .val (.int p0_3), .val (.int p0_4), .val (.int p0_5), .val (.int (v0_7 p0_1)), .val (.int (v0_13 p0_5)), .val (.ref b2), .val (.ref b14), .val (.ref b32), .val (.ref b43), .unset, .unset] [(.ref b14), (.int ((own_sh JJ (own_k p0_1) p0_0 (g0_41 p0_2 p0_3 p0_4 p0_5)).2 4))])) _
            refine XS.iconst X58.here hx rfl (hb hby at_224) ?_
            show Steps p.tables e below (T58.setTop (mkF m 225 #[.val (.long p0_0), .second, .val (.int p0_1), .val (.int p0_2), .val (.int p0_3), .val (.int p0_4), .val (.int p0_5), .val (.int (v0_7 p0_1)), .val (.int (v0_13 p0_5)), .val (.ref b2), .val (.ref b14), .val (.ref b32), .val (.ref b43), .unset, .unset] [(.int (4 : Int32)), (.ref b14), (.int ((own_sh JJ (own_k p0_1) p0_0 (g0_41 p0_2 p0_3 p0_4 p0_5)).2 4))])) _
            refine own_ldI X58 hx hZ rfl Ar59 (j := (4 : Int32)) (i := 4) (by decide) (by decide) (g := (mkF m 225 #[.val (.long p0_0), .second, .val (.int p0_1), .val (.int p0_2), .val (.int p0_3), .val (.int p0_4), .val (.int p0_5), .val (.int (v0_7 p0_1)), .val (.int (v0_13 p0_5)), .val (.ref b2), .val (.ref b14), .val (.ref b32), .val (.ref b43), .unset, .unset] [(.int (4 : Int32)), (.ref b14), (.int ((own_sh JJ (own_k p0_1) p0_0 (g0_41 p0_2 p0_3 p0_4 p0_5)).2 4))])) rfl rfl (hb hby at_225) _ ?_
            show Steps p.tables e below (T58.setTop (mkF m 226 #[.val (.long p0_0), .second, .val (.int p0_1), .val (.int p0_2), .val (.int p0_3), .val (.int p0_4), .val (.int p0_5), .val (.int (v0_7 p0_1)), .val (.int (v0_13 p0_5)), .val (.ref b2), .val (.ref b14), .val (.ref b32), .val (.ref b43), .unset, .unset] [(.int ((g0_70 p0_2 p0_3 p0_4 p0_5) 4)), (.int ((own_sh JJ (own_k p0_1) p0_0 (g0_41 p0_2 p0_3 p0_4 p0_5)).2 4))])) _
            refine XS.icmpNo X58.here hx rfl (hb hby at_226) rfl (teq (show ((own_sh JJ (own_k p0_1) p0_0 (g0_41 p0_2 p0_3 p0_4 p0_5)).2 4) = ((g0_70 p0_2 p0_3 p0_4 p0_5) 4) from (congrFun (own_eq0 p0_0 p0_1 p0_2 p0_3 p0_4 p0_5 JJ hc105_66 hc123_68 hc141_70 hc159_72) 4))).2 ?_
            show Steps p.tables e below (T58.setTop (mkF m 229 #[.val (.long p0_0), .second, .val (.int p0_1), .val (.int p0_2), .val (.int p0_3), .val (.int p0_4), .val (.int p0_5), .val (.int (v0_7 p0_1)), .val (.int (v0_13 p0_5)), .val (.ref b2), .val (.ref b14), .val (.ref b32), .val (.ref b43), .unset, .unset] [])) _
            refine XS.iconst X58.here hx rfl (hb hby at_229) ?_
            show Steps p.tables e below (T58.setTop (mkF m 230 #[.val (.long p0_0), .second, .val (.int p0_1), .val (.int p0_2), .val (.int p0_3), .val (.int p0_4), .val (.int p0_5), .val (.int (v0_7 p0_1)), .val (.int (v0_13 p0_5)), .val (.ref b2), .val (.ref b14), .val (.ref b32), .val (.ref b43), .unset, .unset] [(.int (1 : Int32))])) _
            refine XS.goto X58.here hx rfl (pc0 := 230) (pc' := 234) rfl (hb hby at_230) (by decide) (by decide) ?_
            show Steps p.tables e below (T58.setTop (mkF m 234 #[.val (.long p0_0), .second, .val (.int p0_1), .val (.int p0_2), .val (.int p0_3), .val (.int p0_4), .val (.int p0_5), .val (.int (v0_7 p0_1)), .val (.int (v0_13 p0_5)), .val (.ref b2), .val (.ref b14), .val (.ref b32), .val (.ref b43), .unset, .unset] [(.int (1 : Int32))])) _
            refine XS.istore X58.here hx rfl (hb hby at_234) rfl (l' := #[.val (.long p0_0), .second, .val (.int p0_1), .val (.int p0_2), .val (.int p0_3), .val (.int p0_4), .val (.int p0_5), .val (.int (v0_7 p0_1)), .val (.int (v0_13 p0_5)), .val (.ref b2), .val (.ref b14), .val (.ref b32), .val (.ref b43), .val (.int (1 : Int32)), .unset]) rfl ?_
            show Steps p.tables e below (T58.setTop (mkF m 236 #[.val (.long p0_0), .second, .val (.int p0_1), .val (.int p0_2), .val (.int p0_3), .val (.int p0_4), .val (.int p0_5), .val (.int (v0_7 p0_1)), .val (.int (v0_13 p0_5)), .val (.ref b2), .val (.ref b14), .val (.ref b32), .val (.ref b43), .val (.int (1 : Int32)), .unset] [])) _
            refine XS.aload X58.here hx rfl (hb hby at_236) rfl rfl ?_
            show Steps p.tables e below (T58.setTop (mkF m 238 #[.val (.long p0_0), .second, .val (.int p0_1), .val (.int p0_2), .val (.int p0_3), .val (.int p0_4), .val (.int p0_5), .val (.int (v0_7 p0_1)), .val (.int (v0_13 p0_5)), .val (.ref b2), .val (.ref b14), .val (.ref b32), .val (.ref b43), .val (.int (1 : Int32)), .unset] [(.ref b32)])) _
            exact k)
          obtain ⟨cq79, kq79, qa79, qb79, qc79⟩ := isOf hZ rfl Ex60
          obtain ⟨_, _, ⟨T79, L79, k79, n79⟩, -, X79, ⟨Lc79, hQ79, l79, y79, z79⟩, st79⟩ := X58.virtualBack hx (y := (⟨"com/example/consigliere/consigliere/engine/Rng", "nextLong", "()J"⟩ : MethodName)) (z := (⟨"com/example/consigliere/consigliere/engine/Rng", "nextLong", "()J"⟩ : MethodName)) hown (mvT hZ (hw _ (List.mem_of_getElem? (i := 37) rfl))) (mvT hZ (hw _ (List.mem_of_getElem? (i := 25) rfl))) (notFace_of_selects (args := #[]) (mvT hZ (hw _ (List.mem_of_getElem? (i := 27) rfl)))) (mvT hZ (hw _ (List.mem_of_getElem? (i := 27) rfl))) (mvT hZ (hw _ (List.mem_of_getElem? (i := 26) rfl))) (by decide) (backOf (W := 0) (rm5 l Z a0 hw [] b32 (own_sh JJ (own_k p0_1) p0_0 (g0_41 p0_2 p0_3 p0_4 p0_5)).1 T58.heap n0 Z58 Ex60 F63 g_b32) hZ (hw _ (List.mem_of_getElem? (i := 28) rfl)) (hw _ (List.mem_of_getElem? (i := 4) rfl)) (by decide) (by decide)) qa79 qc79 (g := (mkF m 238 #[.val (.long p0_0), .second, .val (.int p0_1), .val (.int p0_2), .val (.int p0_3), .val (.int p0_4), .val (.int p0_5), .val (.int (v0_7 p0_1)), .val (.int (v0_13 p0_5)), .val (.ref b2), .val (.ref b14), .val (.ref b32), .val (.ref b43), .val (.int (1 : Int32)), .unset] [(.ref b32)])) rfl (by rw [hml]; rfl) (Steps.refl _) (argsL := []) (rest := []) (lenOf pd_0 rfl) rfl (by show 2 * 0 + _ ≤ _; exact Nat.le_of_eq rfl) (hb hby at_238) (fun _ _ => ⟨rfl, rfl, (by decide : 4 + 0 ≤ _), (by decide : 12 + 0 ≤ _)⟩)
          dsimp only [Pt.U, Pt.locs, Pt.cells, Pt.slots] at X79 l79 y79 z79 st79 hQ79
          rw [l79, y79, z79] at X79
          obtain ⟨rfl, M79, K79c, P79_0⟩ := hQ79
          have N79 := Fr.app N58 M79
          have K79 : Keep T58.heap T79.heap [b32] := K79c
          have Z79 : n0 ≤ T79.heap.size := Nat.le_trans Z58 K79.1
          have Ar80 : ArI Z T79.heap b2 .int 5 (own_sh JJ (own_k p0_1) p0_0 (g0_41 p0_2 p0_3 p0_4 p0_5)).2 := C64.keep K79 (ninS ne_b2_b32 nin0)
          have Ar81 : ArI Z T79.heap b14 .int 5 (g0_70 p0_2 p0_3 p0_4 p0_5) := Ar59.keep K79 (ninS ne_b14_b32 nin0)
          have Ex82 : Exa Z T79.heap b32 "com/example/consigliere/consigliere/engine/Rng" := Ex60.keep K79
          have Ex83 : Exa Z T79.heap b43 "com/example/consigliere/consigliere/engine/Rng" := Ex61.keep K79
          have F84 : Fld Z T79.heap b43 "com/example/consigliere/consigliere/engine/Rng" "state" "J" (.long p0_0) := F62.keep K79 (ninS (Ne.symm ne_b32_b43) nin0)
          have F85 : Fld Z T79.heap b32 "com/example/consigliere/consigliere/engine/Rng" "state" "J" (.long (w0_238_state p0_0 p0_1 p0_2 p0_3 p0_4 p0_5 JJ)) := P79_0
          replace X79 : Stand p l e room_1 s m #[(.long p0_0), (.int p0_1), (.int p0_2), (.int p0_3), (.int p0_4), (.int p0_5)] below meth c T79 _ 4 12 := X79
          have pre79 : ∀ t, Steps p.tables e below (T79.setTop (mkF m 241 #[.val (.long p0_0), .second, .val (.int p0_1), .val (.int p0_2), .val (.int p0_3), .val (.int p0_4), .val (.int p0_5), .val (.int (v0_7 p0_1)), .val (.int (v0_13 p0_5)), .val (.ref b2), .val (.ref b14), .val (.ref b32), .val (.ref b43), .val (.int (1 : Int32)), .unset] [(.long (c0_238 p0_0 p0_1 p0_2 p0_3 p0_4 p0_5 JJ))])) t → Steps p.tables e below (s₁.setTop (entryFrame m #[(.long p0_0), (.int p0_1), (.int p0_2), (.int p0_3), (.int p0_4), (.int p0_5)] maxLocals)) t := fun t k => pre78 t (st79.trans k)
          have pre86 : ∀ t, Steps p.tables e below (T79.setTop (mkF m 243 #[.val (.long p0_0), .second, .val (.int p0_1), .val (.int p0_2), .val (.int p0_3), .val (.int p0_4), .val (.int p0_5), .val (.int (v0_7 p0_1)), .val (.int (v0_13 p0_5)), .val (.ref b2), .val (.ref b14), .val (.ref b32), .val (.ref b43), .val (.int (1 : Int32)), .unset] [(.ref b43), (.long (c0_238 p0_0 p0_1 p0_2 p0_3 p0_4 p0_5 JJ))])) t → Steps p.tables e below (s₁.setTop (entryFrame m #[(.long p0_0), (.int p0_1), (.int p0_2), (.int p0_3), (.int p0_4), (.int p0_5)] maxLocals)) t := fun t k => pre79 t (by
            refine XS.aload X79.here hx rfl (hb hby at_241) rfl rfl ?_
            show Steps p.tables e below (T79.setTop (mkF m 243 #[.val (.long p0_0), .second, .val (.int p0_1), .val (.int p0_2), .val (.int p0_3), .val (.int p0_4), .val (.int p0_5), .val (.int (v0_7 p0_1)), .val (.int (v0_13 p0_5)), .val (.ref b2), .val (.ref b14), .val (.ref b32), .val (.ref b43), .val (.int (1 : Int32)), .unset] [(.ref b43), (.long (c0_238 p0_0 p0_1 p0_2 p0_3 p0_4 p0_5 JJ))])) _
            exact k)
          obtain ⟨cq87, kq87, qa87, qb87, qc87⟩ := isOf hZ rfl Ex83
          obtain ⟨_, _, ⟨T87, L87, k87, n87⟩, -, X87, ⟨Lc87, hQ87, l87, y87, z87⟩, st87⟩ := X79.virtualBack hx (y := (⟨"com/example/consigliere/consigliere/engine/Rng", "nextLong", "()J"⟩ : MethodName)) (z := (⟨"com/example/consigliere/consigliere/engine/Rng", "nextLong", "()J"⟩ : MethodName)) hown (mvT hZ (hw _ (List.mem_of_getElem? (i := 37) rfl))) (mvT hZ (hw _ (List.mem_of_getElem? (i := 25) rfl))) (notFace_of_selects (args := #[]) (mvT hZ (hw _ (List.mem_of_getElem? (i := 27) rfl)))) (mvT hZ (hw _ (List.mem_of_getElem? (i := 27) rfl))) (mvT hZ (hw _ (List.mem_of_getElem? (i := 26) rfl))) (by decide) (backOf (W := 2) (rm5 l Z a0 hw [] b43 p0_0 T79.heap n0 Z79 Ex83 F84 g_b43) hZ (hw _ (List.mem_of_getElem? (i := 28) rfl)) (hw _ (List.mem_of_getElem? (i := 4) rfl)) (by decide) (by decide)) qa87 qc87 (g := (mkF m 243 #[.val (.long p0_0), .second, .val (.int p0_1), .val (.int p0_2), .val (.int p0_3), .val (.int p0_4), .val (.int p0_5), .val (.int (v0_7 p0_1)), .val (.int (v0_13 p0_5)), .val (.ref b2), .val (.ref b14), .val (.ref b32), .val (.ref b43), .val (.int (1 : Int32)), .unset] [(.ref b43), (.long (c0_238 p0_0 p0_1 p0_2 p0_3 p0_4 p0_5 JJ))])) rfl (by rw [hml]; rfl) (Steps.refl _) (argsL := []) (rest := [(.long (c0_238 p0_0 p0_1 p0_2 p0_3 p0_4 p0_5 JJ))]) (lenOf pd_0 rfl) rfl (by show 2 * 0 + _ ≤ _; exact Nat.le_of_eq rfl) (hb hby at_243) (fun _ _ => ⟨rfl, rfl, (by decide : 4 + 0 ≤ _), (by decide : 12 + 0 ≤ _)⟩)
          dsimp only [Pt.U, Pt.locs, Pt.cells, Pt.slots] at X87 l87 y87 z87 st87 hQ87
          rw [l87, y87, z87] at X87
          obtain ⟨rfl, M87, K87c, P87_0⟩ := hQ87
          have N87 := Fr.app N79 M87
          have K87 : Keep T79.heap T87.heap [b43] := K87c
          have Z87 : n0 ≤ T87.heap.size := Nat.le_trans Z79 K87.1
          have Ar88 : ArI Z T87.heap b2 .int 5 (own_sh JJ (own_k p0_1) p0_0 (g0_41 p0_2 p0_3 p0_4 p0_5)).2 := Ar80.keep K87 (ninS ne_b2_b43 nin0)
          have Ar89 : ArI Z T87.heap b14 .int 5 (g0_70 p0_2 p0_3 p0_4 p0_5) := Ar81.keep K87 (ninS ne_b14_b43 nin0)
          have Ex90 : Exa Z T87.heap b32 "com/example/consigliere/consigliere/engine/Rng" := Ex82.keep K87
          have F91 : Fld Z T87.heap b32 "com/example/consigliere/consigliere/engine/Rng" "state" "J" (.long (w0_238_state p0_0 p0_1 p0_2 p0_3 p0_4 p0_5 JJ)) := F85.keep K87 (ninS ne_b32_b43 nin0)
          have Ex92 : Exa Z T87.heap b43 "com/example/consigliere/consigliere/engine/Rng" := Ex83.keep K87
          have F93 : Fld Z T87.heap b43 "com/example/consigliere/consigliere/engine/Rng" "state" "J" (.long (v5_9 p0_0)) := P87_0
          replace X87 : Stand p l e room_1 s m #[(.long p0_0), (.int p0_1), (.int p0_2), (.int p0_3), (.int p0_4), (.int p0_5)] below meth c T87 _ 4 12 := X87
          have pre87 : ∀ t, Steps p.tables e below (T87.setTop (mkF m 246 #[.val (.long p0_0), .second, .val (.int p0_1), .val (.int p0_2), .val (.int p0_3), .val (.int p0_4), .val (.int p0_5), .val (.int (v0_7 p0_1)), .val (.int (v0_13 p0_5)), .val (.ref b2), .val (.ref b14), .val (.ref b32), .val (.ref b43), .val (.int (1 : Int32)), .unset] [(.long (r5 p0_0)), (.long (c0_238 p0_0 p0_1 p0_2 p0_3 p0_4 p0_5 JJ))])) t → Steps p.tables e below (s₁.setTop (entryFrame m #[(.long p0_0), (.int p0_1), (.int p0_2), (.int p0_3), (.int p0_4), (.int p0_5)] maxLocals)) t := fun t k => pre86 t (st87.trans k)
          have pre95 : ∀ t, Steps p.tables e below (T87.setTop (mkF m 272 #[.val (.long p0_0), .second, .val (.int p0_1), .val (.int p0_2), .val (.int p0_3), .val (.int p0_4), .val (.int p0_5), .val (.int (v0_7 p0_1)), .val (.int (v0_13 p0_5)), .val (.ref b2), .val (.ref b14), .val (.ref b32), .val (.ref b43), .val (.int (1 : Int32)), .val (.int (1 : Int32))] [(.int (1 : Int32))])) t → Steps p.tables e below (s₁.setTop (entryFrame m #[(.long p0_0), (.int p0_1), (.int p0_2), (.int p0_3), (.int p0_4), (.int p0_5)] maxLocals)) t := fun t k => pre87 t (by
            refine XS.lcmp X87.here hx rfl (hb hby at_246) rfl ?_
            show Steps p.tables e below (T87.setTop (mkF m 247 #[.val (.long p0_0), .second, .val (.int p0_1), .val (.int p0_2), .val (.int p0_3), .val (.int p0_4), .val (.int p0_5), .val (.int (v0_7 p0_1)), .val (.int (v0_13 p0_5)), .val (.ref b2), .val (.ref b14), .val (.ref b32), .val (.ref b43), .val (.int (1 : Int32)), .unset] [(.int (lcmpW (c0_238 p0_0 p0_1 p0_2 p0_3 p0_4 p0_5 JJ) (r5 p0_0)))])) _
            refine XS.ifNo X87.here hx rfl (hb hby at_247) rfl ((if0 _ _).trans (teq ((lw_eq (c0_238 p0_0 p0_1 p0_2 p0_3 p0_4 p0_5 JJ) (r5 p0_0)).mpr (show (c0_238 p0_0 p0_1 p0_2 p0_3 p0_4 p0_5 JJ) = (r5 p0_0) from (congrArg r5 (own_s0 p0_0 p0_1 p0_2 p0_3 p0_4 p0_5 JJ hc105_66 hc123_68 hc141_70 hc159_72))))).2) ?_
            show Steps p.tables e below (T87.setTop (mkF m 250 #[.val (.long p0_0), .second, .val (.int p0_1), .val (.int p0_2), .val (.int p0_3), .val (.int p0_4), .val (.int p0_5), .val (.int (v0_7 p0_1)), .val (.int (v0_13 p0_5)), .val (.ref b2), .val (.ref b14), .val (.ref b32), .val (.ref b43), .val (.int (1 : Int32)), .unset] [])) _
            refine XS.iconst X87.here hx rfl (hb hby at_250) ?_
            show Steps p.tables e below (T87.setTop (mkF m 251 #[.val (.long p0_0), .second, .val (.int p0_1), .val (.int p0_2), .val (.int p0_3), .val (.int p0_4), .val (.int p0_5), .val (.int (v0_7 p0_1)), .val (.int (v0_13 p0_5)), .val (.ref b2), .val (.ref b14), .val (.ref b32), .val (.ref b43), .val (.int (1 : Int32)), .unset] [(.int (1 : Int32))])) _
            refine XS.goto X87.here hx rfl (pc0 := 251) (pc' := 255) rfl (hb hby at_251) (by decide) (by decide) ?_
            show Steps p.tables e below (T87.setTop (mkF m 255 #[.val (.long p0_0), .second, .val (.int p0_1), .val (.int p0_2), .val (.int p0_3), .val (.int p0_4), .val (.int p0_5), .val (.int (v0_7 p0_1)), .val (.int (v0_13 p0_5)), .val (.ref b2), .val (.ref b14), .val (.ref b32), .val (.ref b43), .val (.int (1 : Int32)), .unset] [(.int (1 : Int32))])) _
            refine XS.istore X87.here hx rfl (hb hby at_255) rfl (l' := #[.val (.long p0_0), .second, .val (.int p0_1), .val (.int p0_2), .val (.int p0_3), .val (.int p0_4), .val (.int p0_5), .val (.int (v0_7 p0_1)), .val (.int (v0_13 p0_5)), .val (.ref b2), .val (.ref b14), .val (.ref b32), .val (.ref b43), .val (.int (1 : Int32)), .val (.int (1 : Int32))]) rfl ?_
            show Steps p.tables e below (T87.setTop (mkF m 257 #[.val (.long p0_0), .second, .val (.int p0_1), .val (.int p0_2), .val (.int p0_3), .val (.int p0_4), .val (.int p0_5), .val (.int (v0_7 p0_1)), .val (.int (v0_13 p0_5)), .val (.ref b2), .val (.ref b14), .val (.ref b32), .val (.ref b43), .val (.int (1 : Int32)), .val (.int (1 : Int32))] [])) _
            refine XS.iload X87.here hx rfl (hb hby at_257) rfl ?_
            show Steps p.tables e below (T87.setTop (mkF m 259 #[.val (.long p0_0), .second, .val (.int p0_1), .val (.int p0_2), .val (.int p0_3), .val (.int p0_4), .val (.int p0_5), .val (.int (v0_7 p0_1)), .val (.int (v0_13 p0_5)), .val (.ref b2), .val (.ref b14), .val (.ref b32), .val (.ref b43), .val (.int (1 : Int32)), .val (.int (1 : Int32))] [(.int (1 : Int32))])) _
            refine XS.ifNo X87.here hx rfl (hb hby at_259) rfl ((if0 _ _).trans (feq (by decide : ¬ ((1 : Int32) = (0 : Int32)))).1) ?_
            show Steps p.tables e below (T87.setTop (mkF m 262 #[.val (.long p0_0), .second, .val (.int p0_1), .val (.int p0_2), .val (.int p0_3), .val (.int p0_4), .val (.int p0_5), .val (.int (v0_7 p0_1)), .val (.int (v0_13 p0_5)), .val (.ref b2), .val (.ref b14), .val (.ref b32), .val (.ref b43), .val (.int (1 : Int32)), .val (.int (1 : Int32))] [])) _
            refine XS.iload X87.here hx rfl (hb hby at_262) rfl ?_
            show Steps p.tables e below (T87.setTop (mkF m 264 #[.val (.long p0_0), .second, .val (.int p0_1), .val (.int p0_2), .val (.int p0_3), .val (.int p0_4), .val (.int p0_5), .val (.int (v0_7 p0_1)), .val (.int (v0_13 p0_5)), .val (.ref b2), .val (.ref b14), .val (.ref b32), .val (.ref b43), .val (.int (1 : Int32)), .val (.int (1 : Int32))] [(.int (1 : Int32))])) _
            refine XS.ifNo X87.here hx rfl (hb hby at_264) rfl ((if0 _ _).trans (feq (by decide : ¬ ((1 : Int32) = (0 : Int32)))).1) ?_
            show Steps p.tables e below (T87.setTop (mkF m 267 #[.val (.long p0_0), .second, .val (.int p0_1), .val (.int p0_2), .val (.int p0_3), .val (.int p0_4), .val (.int p0_5), .val (.int (v0_7 p0_1)), .val (.int (v0_13 p0_5)), .val (.ref b2), .val (.ref b14), .val (.ref b32), .val (.ref b43), .val (.int (1 : Int32)), .val (.int (1 : Int32))] [])) _
            refine XS.iconst X87.here hx rfl (hb hby at_267) ?_
            show Steps p.tables e below (T87.setTop (mkF m 268 #[.val (.long p0_0), .second, .val (.int p0_1), .val (.int p0_2), .val (.int p0_3), .val (.int p0_4), .val (.int p0_5), .val (.int (v0_7 p0_1)), .val (.int (v0_13 p0_5)), .val (.ref b2), .val (.ref b14), .val (.ref b32), .val (.ref b43), .val (.int (1 : Int32)), .val (.int (1 : Int32))] [(.int (1 : Int32))])) _
            refine XS.goto X87.here hx rfl (pc0 := 268) (pc' := 272) rfl (hb hby at_268) (by decide) (by decide) ?_
            show Steps p.tables e below (T87.setTop (mkF m 272 #[.val (.long p0_0), .second, .val (.int p0_1), .val (.int p0_2), .val (.int p0_3), .val (.int p0_4), .val (.int p0_5), .val (.int (v0_7 p0_1)), .val (.int (v0_13 p0_5)), .val (.ref b2), .val (.ref b14), .val (.ref b32), .val (.ref b43), .val (.int (1 : Int32)), .val (.int (1 : Int32))] [(.int (1 : Int32))])) _
            exact k)
          obtain ⟨fs, hr, hrun, hended, hW, hsame⟩ := X87.leave (v := some (.int (1 : Int32))) (fun h => by rw [Bd.returns] at h; cases h) Bd.notSynchronized
          refine ⟨_, _, pre95 _ ?_, hrun, hended, _, _, rfl, ?_, ⟨_, rfl⟩, hW, hsame.mono (by decide) (by decide)⟩
          · show Steps p.tables e below (T87.setTop (mkF m 272 #[.val (.long p0_0), .second, .val (.int p0_1), .val (.int p0_2), .val (.int p0_3), .val (.int p0_4), .val (.int p0_5), .val (.int (v0_7 p0_1)), .val (.int (v0_13 p0_5)), .val (.ref b2), .val (.ref b14), .val (.ref b32), .val (.ref b43), .val (.int (1 : Int32)), .val (.int (1 : Int32))] [(.int (1 : Int32))])) _
            exact retN X87 hx (t := .boolean) Bd.returns (by simp) (hb hby at_272) hr
          · show Q0 Z p0_0 p0_1 p0_2 p0_3 p0_4 p0_5 JJ h0 n0 _ T87.heap _
            exact ⟨rfl, N87⟩
        · have pre96 : ∀ t, Steps p.tables e below (T58.setTop (mkF m 168 #[.val (.long p0_0), .second, .val (.int p0_1), .val (.int p0_2), .val (.int p0_3), .val (.int p0_4), .val (.int p0_5), .val (.int (v0_7 p0_1)), .val (.int (v0_13 p0_5)), .val (.ref b2), .val (.ref b14), .val (.ref b32), .val (.ref b43), .unset, .unset] [(.int (2 : Int32)), (.ref b43), (.int (1 : Int32)), (.ref b14)])) t → Steps p.tables e below (s₁.setTop (entryFrame m #[(.long p0_0), (.int p0_1), (.int p0_2), (.int p0_3), (.int p0_4), (.int p0_5)] maxLocals)) t := fun t k => pre71 t (by
            refine XS.icmpNo X58.here hx rfl (hb hby at_159) rfl (flt hc159_72).1 ?_
            show Steps p.tables e below (T58.setTop (mkF m 162 #[.val (.long p0_0), .second, .val (.int p0_1), .val (.int p0_2), .val (.int p0_3), .val (.int p0_4), .val (.int p0_5), .val (.int (v0_7 p0_1)), .val (.int (v0_13 p0_5)), .val (.ref b2), .val (.ref b14), .val (.ref b32), .val (.ref b43), .unset, .unset] [])) _
            refine XS.aload X58.here hx rfl (hb hby at_162) rfl rfl ?_
            show Steps p.tables e below (T58.setTop (mkF m 164 #[.val (.long p0_0), .second, .val (.int p0_1), .val (.int p0_2), .val (.int p0_3), .val (.int p0_4), .val (.int p0_5), .val (.int (v0_7 p0_1)), .val (.int (v0_13 p0_5)), .val (.ref b2), .val (.ref b14), .val (.ref b32), .val (.ref b43), .unset, .unset] [(.ref b14)])) _
            refine XS.iconst X58.here hx rfl (hb hby at_164) ?_
            show Steps p.tables e below (T58.setTop (mkF m 165 #[.val (.long p0_0), .second, .val (.int p0_1), .val (.int p0_2), .val (.int p0_3), .val (.int p0_4), .val (.int p0_5), .val (.int (v0_7 p0_1)), .val (.int (v0_13 p0_5)), .val (.ref b2), .val (.ref b14), .val (.ref b32), .val (.ref b43), .unset, .unset] [(.int (1 : Int32)), (.ref b14)])) _
            refine XS.aload X58.here hx rfl (hb hby at_165) rfl rfl ?_
            show Steps p.tables e below (T58.setTop (mkF m 167 #[.val (.long p0_0), .second, .val (.int p0_1), .val (.int p0_2), .val (.int p0_3), .val (.int p0_4), .val (.int p0_5), .val (.int (v0_7 p0_1)), .val (.int (v0_13 p0_5)), .val (.ref b2), .val (.ref b14), .val (.ref b32), .val (.ref b43), .unset, .unset] [(.ref b43), (.int (1 : Int32)), (.ref b14)])) _
            refine XS.iconst X58.here hx rfl (hb hby at_167) ?_
            show Steps p.tables e below (T58.setTop (mkF m 168 #[.val (.long p0_0), .second, .val (.int p0_1), .val (.int p0_2), .val (.int p0_3), .val (.int p0_4), .val (.int p0_5), .val (.int (v0_7 p0_1)), .val (.int (v0_13 p0_5)), .val (.ref b2), .val (.ref b14), .val (.ref b32), .val (.ref b43), .unset, .unset] [(.int (2 : Int32)), (.ref b43), (.int (1 : Int32)), (.ref b14)])) _
            exact k)
          obtain ⟨cq97, kq97, qa97, qb97, qc97⟩ := isOf hZ rfl Ex61
          obtain ⟨_, _, ⟨T97, L97, k97, n97⟩, -, X97, ⟨Lc97, hQ97, l97, y97, z97⟩, st97⟩ := X58.virtualBack hx (y := (⟨"com/example/consigliere/consigliere/engine/Rng", "nextInt", "(I)I"⟩ : MethodName)) (z := (⟨"com/example/consigliere/consigliere/engine/Rng", "nextInt", "(I)I"⟩ : MethodName)) hown (mvT hZ (hw _ (List.mem_of_getElem? (i := 32) rfl))) (mvT hZ (hw _ (List.mem_of_getElem? (i := 19) rfl))) (notFace_of_selects (args := #[]) (mvT hZ (hw _ (List.mem_of_getElem? (i := 21) rfl)))) (mvT hZ (hw _ (List.mem_of_getElem? (i := 21) rfl))) (mvT hZ (hw _ (List.mem_of_getElem? (i := 20) rfl))) (by decide) (backOf (W := 2) (rm4 l Z a0 hw [] b43 (2 : Int32) (JJ p0_0 (2 : Int32)) p0_0 T58.heap n0 Z58 (by decide) (hJ p0_0 _ (by decide)).1 (hJ p0_0 _ (by decide)).2 Ex61 F62 g_b43) hZ (hw _ (List.mem_of_getElem? (i := 22) rfl)) (hw _ (List.mem_of_getElem? (i := 4) rfl)) (by decide) (by decide)) qa97 qc97 (g := (mkF m 168 #[.val (.long p0_0), .second, .val (.int p0_1), .val (.int p0_2), .val (.int p0_3), .val (.int p0_4), .val (.int p0_5), .val (.int (v0_7 p0_1)), .val (.int (v0_13 p0_5)), .val (.ref b2), .val (.ref b14), .val (.ref b32), .val (.ref b43), .unset, .unset] [(.int (2 : Int32)), (.ref b43), (.int (1 : Int32)), (.ref b14)])) rfl (by rw [hml]; rfl) (Steps.refl _) (argsL := [(.int (2 : Int32))]) (rest := [(.int (1 : Int32)), (.ref b14)]) (lenOf pd_1 rfl) rfl (by show 2 * 0 + _ ≤ _; exact Nat.le_of_eq rfl) (hb hby at_168) (fun _ _ => ⟨rfl, rfl, (by decide : 4 + 0 ≤ _), (by decide : 12 + 0 ≤ _)⟩)
          dsimp only [Pt.U, Pt.locs, Pt.cells, Pt.slots] at X97 l97 y97 z97 st97 hQ97
          rw [l97, y97, z97] at X97
          obtain ⟨rfl, M97, K97c, P97_0⟩ := hQ97
          have N97 := Fr.app N58 M97
          have K97 : Keep T58.heap T97.heap [b43] := K97c
          have Z97 : n0 ≤ T97.heap.size := Nat.le_trans Z58 K97.1
          have Ar98 : ArI Z T97.heap b2 .int 5 (own_sh JJ (own_k p0_1) p0_0 (g0_41 p0_2 p0_3 p0_4 p0_5)).2 := C64.keep K97 (ninS ne_b2_b43 nin0)
          have Ar99 : ArI Z T97.heap b14 .int 5 (g0_70 p0_2 p0_3 p0_4 p0_5) := Ar59.keep K97 (ninS ne_b14_b43 nin0)
          have Ex100 : Exa Z T97.heap b32 "com/example/consigliere/consigliere/engine/Rng" := Ex60.keep K97
          have F101 : Fld Z T97.heap b32 "com/example/consigliere/consigliere/engine/Rng" "state" "J" (.long (own_sh JJ (own_k p0_1) p0_0 (g0_41 p0_2 p0_3 p0_4 p0_5)).1) := F63.keep K97 (ninS ne_b32_b43 nin0)
          have Ex102 : Exa Z T97.heap b43 "com/example/consigliere/consigliere/engine/Rng" := Ex61.keep K97
          have F103 : Fld Z T97.heap b43 "com/example/consigliere/consigliere/engine/Rng" "state" "J" (.long (own_it ((JJ p0_0 (2 : Int32)) + 1) p0_0)) := P97_0
          replace X97 : Stand p l e room_1 s m #[(.long p0_0), (.int p0_1), (.int p0_2), (.int p0_3), (.int p0_4), (.int p0_5)] below meth c T97 _ 4 12 := X97
          have pre97 : ∀ t, Steps p.tables e below (T97.setTop (mkF m 171 #[.val (.long p0_0), .second, .val (.int p0_1), .val (.int p0_2), .val (.int p0_3), .val (.int p0_4), .val (.int p0_5), .val (.int (v0_7 p0_1)), .val (.int (v0_13 p0_5)), .val (.ref b2), .val (.ref b14), .val (.ref b32), .val (.ref b43), .unset, .unset] [(.int (r4 (2 : Int32) (JJ p0_0 (2 : Int32)) p0_0)), (.int (1 : Int32)), (.ref b14)])) t → Steps p.tables e below (s₁.setTop (entryFrame m #[(.long p0_0), (.int p0_1), (.int p0_2), (.int p0_3), (.int p0_4), (.int p0_5)] maxLocals)) t := fun t k => pre96 t (st97.trans k)
          obtain ⟨_, _, ⟨T104, L104, k104, n104⟩, -, X104, ⟨Lc104, hQ104, l104, y104, z104⟩, st104⟩ := Jvm.LawKit.callS X97 hx (y := (⟨"com/example/consigliere/consigliere/engine/RngShufflePinLaw", "swap", "([III)V"⟩ : MethodName)) hown (mvT hZ (hw _ (List.mem_of_getElem? (i := 33) rfl))) (mvT hZ (hw _ (List.mem_of_getElem? (i := 34) rfl))) (mvT hZ (hw _ (List.mem_of_getElem? (i := 35) rfl))) (mvT hZ (hw _ (List.mem_of_getElem? (i := 36) rfl))) (by decide) (backOf (W := 0) (rm6 l Z a0 hw [] b14 (1 : Int32) (r4 (2 : Int32) (JJ p0_0 (2 : Int32)) p0_0) 1 (((r4 (2 : Int32) (JJ p0_0 (2 : Int32)) p0_0)).toNatClampNeg) 5 (g0_70 p0_2 p0_3 p0_4 p0_5) T97.heap n0 Z97 (by decide) (by decide) ⟨(own_rb JJ hJ _ (2 : Int32) (by decide)).1, rfl⟩ (Nat.lt_of_lt_of_le (own_rb JJ hJ _ (2 : Int32) (by decide)).2 (by decide)) g_b14 Ar99) hZ (hw _ (List.mem_of_getElem? (i := 36) rfl)) (hw _ (List.mem_of_getElem? (i := 35) rfl)) (by decide) (by decide)) (g := (mkF m 171 #[.val (.long p0_0), .second, .val (.int p0_1), .val (.int p0_2), .val (.int p0_3), .val (.int p0_4), .val (.int p0_5), .val (.int (v0_7 p0_1)), .val (.int (v0_13 p0_5)), .val (.ref b2), .val (.ref b14), .val (.ref b32), .val (.ref b43), .unset, .unset] [(.int (r4 (2 : Int32) (JJ p0_0 (2 : Int32)) p0_0)), (.int (1 : Int32)), (.ref b14)])) rfl (by rw [hml]; rfl) (argsL := [(.ref b14), (.int (1 : Int32)), (.int (r4 (2 : Int32) (JJ p0_0 (2 : Int32)) p0_0))]) (rest := []) (lenOf pd_4 rfl) rfl (by show 2 * 0 + _ ≤ _; exact Nat.le_of_eq rfl) (hb hby at_171) (fun _ _ => ⟨rfl, rfl, (by decide : 4 + 0 ≤ _), (by decide : 12 + 0 ≤ _)⟩)
          dsimp only [Pt.U, Pt.locs, Pt.cells, Pt.slots] at X104 l104 y104 z104 st104 hQ104
          rw [l104, y104, z104] at X104
          obtain ⟨rfl, M104, K104c, P104_0⟩ := hQ104
          have N104 := Fr.app N97 M104
          have K104 : Keep T97.heap T104.heap [b14] := K104c
          have Z104 : n0 ≤ T104.heap.size := Nat.le_trans Z97 K104.1
          have Ar105 : ArI Z T104.heap b2 .int 5 (own_sh JJ (own_k p0_1) p0_0 (g0_41 p0_2 p0_3 p0_4 p0_5)).2 := Ar98.keep K104 (ninS ne_b2_b14 nin0)
          have Ex106 : Exa Z T104.heap b32 "com/example/consigliere/consigliere/engine/Rng" := Ex100.keep K104
          have F107 : Fld Z T104.heap b32 "com/example/consigliere/consigliere/engine/Rng" "state" "J" (.long (own_sh JJ (own_k p0_1) p0_0 (g0_41 p0_2 p0_3 p0_4 p0_5)).1) := F101.keep K104 (ninS (Ne.symm ne_b14_b32) nin0)
          have Ex108 : Exa Z T104.heap b43 "com/example/consigliere/consigliere/engine/Rng" := Ex102.keep K104
          have F109 : Fld Z T104.heap b43 "com/example/consigliere/consigliere/engine/Rng" "state" "J" (.long (own_it ((JJ p0_0 (2 : Int32)) + 1) p0_0)) := F103.keep K104 (ninS (Ne.symm ne_b14_b43) nin0)
          have C110 : ArI Z T104.heap b14 .int 5 (g0_171 p0_0 p0_2 p0_3 p0_4 p0_5 JJ) := P104_0
          replace X104 : Stand p l e room_1 s m #[(.long p0_0), (.int p0_1), (.int p0_2), (.int p0_3), (.int p0_4), (.int p0_5)] below meth c T104 _ 4 12 := X104
          have pre104 : ∀ t, Steps p.tables e below (T104.setTop (mkF m 174 #[.val (.long p0_0), .second, .val (.int p0_1), .val (.int p0_2), .val (.int p0_3), .val (.int p0_4), .val (.int p0_5), .val (.int (v0_7 p0_1)), .val (.int (v0_13 p0_5)), .val (.ref b2), .val (.ref b14), .val (.ref b32), .val (.ref b43), .unset, .unset] [])) t → Steps p.tables e below (s₁.setTop (entryFrame m #[(.long p0_0), (.int p0_1), (.int p0_2), (.int p0_3), (.int p0_4), (.int p0_5)] maxLocals)) t := fun t k => pre97 t (st104 t k)
          have pre116 : ∀ t, Steps p.tables e below (T104.setTop (mkF m 238 #[.val (.long p0_0), .second, .val (.int p0_1), .val (.int p0_2), .val (.int p0_3), .val (.int p0_4), .val (.int p0_5), .val (.int (v0_7 p0_1)), .val (.int (v0_13 p0_5)), .val (.ref b2), .val (.ref b14), .val (.ref b32), .val (.ref b43), .val (.int (1 : Int32)), .unset] [(.ref b32)])) t → Steps p.tables e below (s₁.setTop (entryFrame m #[(.long p0_0), (.int p0_1), (.int p0_2), (.int p0_3), (.int p0_4), (.int p0_5)] maxLocals)) t := fun t k => pre104 t (by
            refine XS.aload X104.here hx rfl (hb hby at_174) rfl rfl ?_
            show Steps p.tables e below (T104.setTop (mkF m 176 #[.val (.long p0_0), .second, .val (.int p0_1), .val (.int p0_2), .val (.int p0_3), .val (.int p0_4), .val (.int p0_5), .val (.int (v0_7 p0_1)), .val (.int (v0_13 p0_5)), .val (.ref b2), .val (.ref b14), .val (.ref b32), .val (.ref b43), .unset, .unset] [(.ref b2)])) _
            refine XS.iconst X104.here hx rfl (hb hby at_176) ?_
            show Steps p.tables e below (T104.setTop (mkF m 177 #[.val (.long p0_0), .second, .val (.int p0_1), .val (.int p0_2), .val (.int p0_3), .val (.int p0_4), .val (.int p0_5), .val (.int (v0_7 p0_1)), .val (.int (v0_13 p0_5)), .val (.ref b2), .val (.ref b14), .val (.ref b32), .val (.ref b43), .unset, .unset] [(.int (0 : Int32)), (.ref b2)])) _
            refine own_ldI X104 hx hZ rfl Ar105 (j := (0 : Int32)) (i := 0) (by decide) (by decide) (g := (mkF m 177 #[.val (.long p0_0), .second, .val (.int p0_1), .val (.int p0_2), .val (.int p0_3), .val (.int p0_4), .val (.int p0_5), .val (.int (v0_7 p0_1)), .val (.int (v0_13 p0_5)), .val (.ref b2), .val (.ref b14), .val (.ref b32), .val (.ref b43), .unset, .unset] [(.int (0 : Int32)), (.ref b2)])) rfl rfl (hb hby at_177) _ ?_
            show Steps p.tables e below (T104.setTop (mkF m 178 #[.val (.long p0_0), .second, .val (.int p0_1), .val (.int p0_2), .val (.int p0_3), .val (.int p0_4), .val (.int p0_5), .val (.int (v0_7 p0_1)), .val (.int (v0_13 p0_5)), .val (.ref b2), .val (.ref b14), .val (.ref b32), .val (.ref b43), .unset, .unset] [(.int ((own_sh JJ (own_k p0_1) p0_0 (g0_41 p0_2 p0_3 p0_4 p0_5)).2 0))])) _
            refine XS.aload X104.here hx rfl (hb hby at_178) rfl rfl ?_
            show Steps p.tables e below (T104.setTop (mkF m 180 #[.val (.long p0_0), .second, .val (.int p0_1), .val (.int p0_2), .val (.int p0_3), .val (.int p0_4), .val (.int p0_5), .val (.int (v0_7 p0_1)), .val (.int (v0_13 p0_5)), .val (.ref b2), .val (.ref b14), .val (.ref b32), .val (.ref b43), .unset, .unset] [(.ref b14), (.int ((own_sh JJ (own_k p0_1) p0_0 (g0_41 p0_2 p0_3 p0_4 p0_5)).2 0))])) _
            refine XS.iconst X104.here hx rfl (hb hby at_180) ?_
            show Steps p.tables e below (T104.setTop (mkF m 181 #[.val (.long p0_0), .second, .val (.int p0_1), .val (.int p0_2), .val (.int p0_3), .val (.int p0_4), .val (.int p0_5), .val (.int (v0_7 p0_1)), .val (.int (v0_13 p0_5)), .val (.ref b2), .val (.ref b14), .val (.ref b32), .val (.ref b43), .unset, .unset] [(.int (0 : Int32)), (.ref b14), (.int ((own_sh JJ (own_k p0_1) p0_0 (g0_41 p0_2 p0_3 p0_4 p0_5)).2 0))])) _
            refine own_ldI X104 hx hZ rfl C110 (j := (0 : Int32)) (i := 0) (by decide) (by decide) (g := (mkF m 181 #[.val (.long p0_0), .second, .val (.int p0_1), .val (.int p0_2), .val (.int p0_3), .val (.int p0_4), .val (.int p0_5), .val (.int (v0_7 p0_1)), .val (.int (v0_13 p0_5)), .val (.ref b2), .val (.ref b14), .val (.ref b32), .val (.ref b43), .unset, .unset] [(.int (0 : Int32)), (.ref b14), (.int ((own_sh JJ (own_k p0_1) p0_0 (g0_41 p0_2 p0_3 p0_4 p0_5)).2 0))])) rfl rfl (hb hby at_181) _ ?_
            show Steps p.tables e below (T104.setTop (mkF m 182 #[.val (.long p0_0), .second, .val (.int p0_1), .val (.int p0_2), .val (.int p0_3), .val (.int p0_4), .val (.int p0_5), .val (.int (v0_7 p0_1)), .val (.int (v0_13 p0_5)), .val (.ref b2), .val (.ref b14), .val (.ref b32), .val (.ref b43), .unset, .unset] [(.int ((g0_171 p0_0 p0_2 p0_3 p0_4 p0_5 JJ) 0)), (.int ((own_sh JJ (own_k p0_1) p0_0 (g0_41 p0_2 p0_3 p0_4 p0_5)).2 0))])) _
            refine XS.icmpNo X104.here hx rfl (hb hby at_182) rfl (teq (show ((own_sh JJ (own_k p0_1) p0_0 (g0_41 p0_2 p0_3 p0_4 p0_5)).2 0) = ((g0_171 p0_0 p0_2 p0_3 p0_4 p0_5 JJ) 0) from (congrFun (own_eq1 p0_0 p0_1 p0_2 p0_3 p0_4 p0_5 JJ hc105_66 hc123_68 hc141_70 hc159_72) 0))).2 ?_
            show Steps p.tables e below (T104.setTop (mkF m 185 #[.val (.long p0_0), .second, .val (.int p0_1), .val (.int p0_2), .val (.int p0_3), .val (.int p0_4), .val (.int p0_5), .val (.int (v0_7 p0_1)), .val (.int (v0_13 p0_5)), .val (.ref b2), .val (.ref b14), .val (.ref b32), .val (.ref b43), .unset, .unset] [])) _
            refine XS.aload X104.here hx rfl (hb hby at_185) rfl rfl ?_
            show Steps p.tables e below (T104.setTop (mkF m 187 #[.val (.long p0_0), .second, .val (.int p0_1), .val (.int p0_2), .val (.int p0_3), .val (.int p0_4), .val (.int p0_5), .val (.int (v0_7 p0_1)), .val (.int (v0_13 p0_5)), .val (.ref b2), .val (.ref b14), .val (.ref b32), .val (.ref b43), .unset, .unset] [(.ref b2)])) _
            refine XS.iconst X104.here hx rfl (hb hby at_187) ?_
            show Steps p.tables e below (T104.setTop (mkF m 188 #[.val (.long p0_0), .second, .val (.int p0_1), .val (.int p0_2), .val (.int p0_3), .val (.int p0_4), .val (.int p0_5), .val (.int (v0_7 p0_1)), .val (.int (v0_13 p0_5)), .val (.ref b2), .val (.ref b14), .val (.ref b32), .val (.ref b43), .unset, .unset] [(.int (1 : Int32)), (.ref b2)])) _
            refine own_ldI X104 hx hZ rfl Ar105 (j := (1 : Int32)) (i := 1) (by decide) (by decide) (g := (mkF m 188 #[.val (.long p0_0), .second, .val (.int p0_1), .val (.int p0_2), .val (.int p0_3), .val (.int p0_4), .val (.int p0_5), .val (.int (v0_7 p0_1)), .val (.int (v0_13 p0_5)), .val (.ref b2), .val (.ref b14), .val (.ref b32), .val (.ref b43), .unset, .unset] [(.int (1 : Int32)), (.ref b2)])) rfl rfl (hb hby at_188) _ ?_
            show Steps p.tables e below (T104.setTop (mkF m 189 #[.val (.long p0_0), .second, .val (.int p0_1), .val (.int p0_2), .val (.int p0_3), .val (.int p0_4), .val (.int p0_5), .val (.int (v0_7 p0_1)), .val (.int (v0_13 p0_5)), .val (.ref b2), .val (.ref b14), .val (.ref b32), .val (.ref b43), .unset, .unset] [(.int ((own_sh JJ (own_k p0_1) p0_0 (g0_41 p0_2 p0_3 p0_4 p0_5)).2 1))])) _
            refine XS.aload X104.here hx rfl (hb hby at_189) rfl rfl ?_
            show Steps p.tables e below (T104.setTop (mkF m 191 #[.val (.long p0_0), .second, .val (.int p0_1), .val (.int p0_2), .val (.int p0_3), .val (.int p0_4), .val (.int p0_5), .val (.int (v0_7 p0_1)), .val (.int (v0_13 p0_5)), .val (.ref b2), .val (.ref b14), .val (.ref b32), .val (.ref b43), .unset, .unset] [(.ref b14), (.int ((own_sh JJ (own_k p0_1) p0_0 (g0_41 p0_2 p0_3 p0_4 p0_5)).2 1))])) _
            refine XS.iconst X104.here hx rfl (hb hby at_191) ?_
            show Steps p.tables e below (T104.setTop (mkF m 192 #[.val (.long p0_0), .second, .val (.int p0_1), .val (.int p0_2), .val (.int p0_3), .val (.int p0_4), .val (.int p0_5), .val (.int (v0_7 p0_1)), .val (.int (v0_13 p0_5)), .val (.ref b2), .val (.ref b14), .val (.ref b32), .val (.ref b43), .unset, .unset] [(.int (1 : Int32)), (.ref b14), (.int ((own_sh JJ (own_k p0_1) p0_0 (g0_41 p0_2 p0_3 p0_4 p0_5)).2 1))])) _
            refine own_ldI X104 hx hZ rfl C110 (j := (1 : Int32)) (i := 1) (by decide) (by decide) (g := (mkF m 192 #[.val (.long p0_0), .second, .val (.int p0_1), .val (.int p0_2), .val (.int p0_3), .val (.int p0_4), .val (.int p0_5), .val (.int (v0_7 p0_1)), .val (.int (v0_13 p0_5)), .val (.ref b2), .val (.ref b14), .val (.ref b32), .val (.ref b43), .unset, .unset] [(.int (1 : Int32)), (.ref b14), (.int ((own_sh JJ (own_k p0_1) p0_0 (g0_41 p0_2 p0_3 p0_4 p0_5)).2 1))])) rfl rfl (hb hby at_192) _ ?_
            show Steps p.tables e below (T104.setTop (mkF m 193 #[.val (.long p0_0), .second, .val (.int p0_1), .val (.int p0_2), .val (.int p0_3), .val (.int p0_4), .val (.int p0_5), .val (.int (v0_7 p0_1)), .val (.int (v0_13 p0_5)), .val (.ref b2), .val (.ref b14), .val (.ref b32), .val (.ref b43), .unset, .unset] [(.int ((g0_171 p0_0 p0_2 p0_3 p0_4 p0_5 JJ) 1)), (.int ((own_sh JJ (own_k p0_1) p0_0 (g0_41 p0_2 p0_3 p0_4 p0_5)).2 1))])) _
            refine XS.icmpNo X104.here hx rfl (hb hby at_193) rfl (teq (show ((own_sh JJ (own_k p0_1) p0_0 (g0_41 p0_2 p0_3 p0_4 p0_5)).2 1) = ((g0_171 p0_0 p0_2 p0_3 p0_4 p0_5 JJ) 1) from (congrFun (own_eq1 p0_0 p0_1 p0_2 p0_3 p0_4 p0_5 JJ hc105_66 hc123_68 hc141_70 hc159_72) 1))).2 ?_
            show Steps p.tables e below (T104.setTop (mkF m 196 #[.val (.long p0_0), .second, .val (.int p0_1), .val (.int p0_2), .val (.int p0_3), .val (.int p0_4), .val (.int p0_5), .val (.int (v0_7 p0_1)), .val (.int (v0_13 p0_5)), .val (.ref b2), .val (.ref b14), .val (.ref b32), .val (.ref b43), .unset, .unset] [])) _
            refine XS.aload X104.here hx rfl (hb hby at_196) rfl rfl ?_
            show Steps p.tables e below (T104.setTop (mkF m 198 #[.val (.long p0_0), .second, .val (.int p0_1), .val (.int p0_2), .val (.int p0_3), .val (.int p0_4), .val (.int p0_5), .val (.int (v0_7 p0_1)), .val (.int (v0_13 p0_5)), .val (.ref b2), .val (.ref b14), .val (.ref b32), .val (.ref b43), .unset, .unset] [(.ref b2)])) _
            refine XS.iconst X104.here hx rfl (hb hby at_198) ?_
            show Steps p.tables e below (T104.setTop (mkF m 199 #[.val (.long p0_0), .second, .val (.int p0_1), .val (.int p0_2), .val (.int p0_3), .val (.int p0_4), .val (.int p0_5), .val (.int (v0_7 p0_1)), .val (.int (v0_13 p0_5)), .val (.ref b2), .val (.ref b14), .val (.ref b32), .val (.ref b43), .unset, .unset] [(.int (2 : Int32)), (.ref b2)])) _
            refine own_ldI X104 hx hZ rfl Ar105 (j := (2 : Int32)) (i := 2) (by decide) (by decide) (g := (mkF m 199 #[.val (.long p0_0), .second, .val (.int p0_1), .val (.int p0_2), .val (.int p0_3), .val (.int p0_4), .val (.int p0_5), .val (.int (v0_7 p0_1)), .val (.int (v0_13 p0_5)), .val (.ref b2), .val (.ref b14), .val (.ref b32), .val (.ref b43), .unset, .unset] [(.int (2 : Int32)), (.ref b2)])) rfl rfl (hb hby at_199) _ ?_
            show Steps p.tables e below (T104.setTop (mkF m 200 #[.val (.long p0_0), .second, .val (.int p0_1), .val (.int p0_2), .val (.int p0_3), .val (.int p0_4), .val (.int p0_5), .val (.int (v0_7 p0_1)), .val (.int (v0_13 p0_5)), .val (.ref b2), .val (.ref b14), .val (.ref b32), .val (.ref b43), .unset, .unset] [(.int ((own_sh JJ (own_k p0_1) p0_0 (g0_41 p0_2 p0_3 p0_4 p0_5)).2 2))])) _
            refine XS.aload X104.here hx rfl (hb hby at_200) rfl rfl ?_
            show Steps p.tables e below (T104.setTop (mkF m 202 #[.val (.long p0_0), .second, .val (.int p0_1), .val (.int p0_2), .val (.int p0_3), .val (.int p0_4), .val (.int p0_5), .val (.int (v0_7 p0_1)), .val (.int (v0_13 p0_5)), .val (.ref b2), .val (.ref b14), .val (.ref b32), .val (.ref b43), .unset, .unset] [(.ref b14), (.int ((own_sh JJ (own_k p0_1) p0_0 (g0_41 p0_2 p0_3 p0_4 p0_5)).2 2))])) _
            refine XS.iconst X104.here hx rfl (hb hby at_202) ?_
            show Steps p.tables e below (T104.setTop (mkF m 203 #[.val (.long p0_0), .second, .val (.int p0_1), .val (.int p0_2), .val (.int p0_3), .val (.int p0_4), .val (.int p0_5), .val (.int (v0_7 p0_1)), .val (.int (v0_13 p0_5)), .val (.ref b2), .val (.ref b14), .val (.ref b32), .val (.ref b43), .unset, .unset] [(.int (2 : Int32)), (.ref b14), (.int ((own_sh JJ (own_k p0_1) p0_0 (g0_41 p0_2 p0_3 p0_4 p0_5)).2 2))])) _
            refine own_ldI X104 hx hZ rfl C110 (j := (2 : Int32)) (i := 2) (by decide) (by decide) (g := (mkF m 203 #[.val (.long p0_0), .second, .val (.int p0_1), .val (.int p0_2), .val (.int p0_3), .val (.int p0_4), .val (.int p0_5), .val (.int (v0_7 p0_1)), .val (.int (v0_13 p0_5)), .val (.ref b2), .val (.ref b14), .val (.ref b32), .val (.ref b43), .unset, .unset] [(.int (2 : Int32)), (.ref b14), (.int ((own_sh JJ (own_k p0_1) p0_0 (g0_41 p0_2 p0_3 p0_4 p0_5)).2 2))])) rfl rfl (hb hby at_203) _ ?_
            show Steps p.tables e below (T104.setTop (mkF m 204 #[.val (.long p0_0), .second, .val (.int p0_1), .val (.int p0_2), .val (.int p0_3), .val (.int p0_4), .val (.int p0_5), .val (.int (v0_7 p0_1)), .val (.int (v0_13 p0_5)), .val (.ref b2), .val (.ref b14), .val (.ref b32), .val (.ref b43), .unset, .unset] [(.int ((g0_171 p0_0 p0_2 p0_3 p0_4 p0_5 JJ) 2)), (.int ((own_sh JJ (own_k p0_1) p0_0 (g0_41 p0_2 p0_3 p0_4 p0_5)).2 2))])) _
            refine XS.icmpNo X104.here hx rfl (hb hby at_204) rfl (teq (show ((own_sh JJ (own_k p0_1) p0_0 (g0_41 p0_2 p0_3 p0_4 p0_5)).2 2) = ((g0_171 p0_0 p0_2 p0_3 p0_4 p0_5 JJ) 2) from (congrFun (own_eq1 p0_0 p0_1 p0_2 p0_3 p0_4 p0_5 JJ hc105_66 hc123_68 hc141_70 hc159_72) 2))).2 ?_
            show Steps p.tables e below (T104.setTop (mkF m 207 #[.val (.long p0_0), .second, .val (.int p0_1), .val (.int p0_2), .val (.int p0_3), .val (.int p0_4), .val (.int p0_5), .val (.int (v0_7 p0_1)), .val (.int (v0_13 p0_5)), .val (.ref b2), .val (.ref b14), .val (.ref b32), .val (.ref b43), .unset, .unset] [])) _
            refine XS.aload X104.here hx rfl (hb hby at_207) rfl rfl ?_
            show Steps p.tables e below (T104.setTop (mkF m 209 #[.val (.long p0_0), .second, .val (.int p0_1), .val (.int p0_2), .val (.int p0_3), .val (.int p0_4), .val (.int p0_5), .val (.int (v0_7 p0_1)), .val (.int (v0_13 p0_5)), .val (.ref b2), .val (.ref b14), .val (.ref b32), .val (.ref b43), .unset, .unset] [(.ref b2)])) _
            refine XS.iconst X104.here hx rfl (hb hby at_209) ?_
            show Steps p.tables e below (T104.setTop (mkF m 210 #[.val (.long p0_0), .second, .val (.int p0_1), .val (.int p0_2), .val (.int p0_3), .val (.int p0_4), .val (.int p0_5), .val (.int (v0_7 p0_1)), .val (.int (v0_13 p0_5)), .val (.ref b2), .val (.ref b14), .val (.ref b32), .val (.ref b43), .unset, .unset] [(.int (3 : Int32)), (.ref b2)])) _
            refine own_ldI X104 hx hZ rfl Ar105 (j := (3 : Int32)) (i := 3) (by decide) (by decide) (g := (mkF m 210 #[.val (.long p0_0), .second, .val (.int p0_1), .val (.int p0_2), .val (.int p0_3), .val (.int p0_4), .val (.int p0_5), .val (.int (v0_7 p0_1)), .val (.int (v0_13 p0_5)), .val (.ref b2), .val (.ref b14), .val (.ref b32), .val (.ref b43), .unset, .unset] [(.int (3 : Int32)), (.ref b2)])) rfl rfl (hb hby at_210) _ ?_
            show Steps p.tables e below (T104.setTop (mkF m 211 #[.val (.long p0_0), .second, .val (.int p0_1), .val (.int p0_2), .val (.int p0_3), .val (.int p0_4), .val (.int p0_5), .val (.int (v0_7 p0_1)), .val (.int (v0_13 p0_5)), .val (.ref b2), .val (.ref b14), .val (.ref b32), .val (.ref b43), .unset, .unset] [(.int ((own_sh JJ (own_k p0_1) p0_0 (g0_41 p0_2 p0_3 p0_4 p0_5)).2 3))])) _
            refine XS.aload X104.here hx rfl (hb hby at_211) rfl rfl ?_
            show Steps p.tables e below (T104.setTop (mkF m 213 #[.val (.long p0_0), .second, .val (.int p0_1), .val (.int p0_2), .val (.int p0_3), .val (.int p0_4), .val (.int p0_5), .val (.int (v0_7 p0_1)), .val (.int (v0_13 p0_5)), .val (.ref b2), .val (.ref b14), .val (.ref b32), .val (.ref b43), .unset, .unset] [(.ref b14), (.int ((own_sh JJ (own_k p0_1) p0_0 (g0_41 p0_2 p0_3 p0_4 p0_5)).2 3))])) _
            refine XS.iconst X104.here hx rfl (hb hby at_213) ?_
            show Steps p.tables e below (T104.setTop (mkF m 214 #[.val (.long p0_0), .second, .val (.int p0_1), .val (.int p0_2), .val (.int p0_3), .val (.int p0_4), .val (.int p0_5), .val (.int (v0_7 p0_1)), .val (.int (v0_13 p0_5)), .val (.ref b2), .val (.ref b14), .val (.ref b32), .val (.ref b43), .unset, .unset] [(.int (3 : Int32)), (.ref b14), (.int ((own_sh JJ (own_k p0_1) p0_0 (g0_41 p0_2 p0_3 p0_4 p0_5)).2 3))])) _
            refine own_ldI X104 hx hZ rfl C110 (j := (3 : Int32)) (i := 3) (by decide) (by decide) (g := (mkF m 214 #[.val (.long p0_0), .second, .val (.int p0_1), .val (.int p0_2), .val (.int p0_3), .val (.int p0_4), .val (.int p0_5), .val (.int (v0_7 p0_1)), .val (.int (v0_13 p0_5)), .val (.ref b2), .val (.ref b14), .val (.ref b32), .val (.ref b43), .unset, .unset] [(.int (3 : Int32)), (.ref b14), (.int ((own_sh JJ (own_k p0_1) p0_0 (g0_41 p0_2 p0_3 p0_4 p0_5)).2 3))])) rfl rfl (hb hby at_214) _ ?_
            show Steps p.tables e below (T104.setTop (mkF m 215 #[.val (.long p0_0), .second, .val (.int p0_1), .val (.int p0_2), .val (.int p0_3), .val (.int p0_4), .val (.int p0_5), .val (.int (v0_7 p0_1)), .val (.int (v0_13 p0_5)), .val (.ref b2), .val (.ref b14), .val (.ref b32), .val (.ref b43), .unset, .unset] [(.int ((g0_171 p0_0 p0_2 p0_3 p0_4 p0_5 JJ) 3)), (.int ((own_sh JJ (own_k p0_1) p0_0 (g0_41 p0_2 p0_3 p0_4 p0_5)).2 3))])) _
            refine XS.icmpNo X104.here hx rfl (hb hby at_215) rfl (teq (show ((own_sh JJ (own_k p0_1) p0_0 (g0_41 p0_2 p0_3 p0_4 p0_5)).2 3) = ((g0_171 p0_0 p0_2 p0_3 p0_4 p0_5 JJ) 3) from (congrFun (own_eq1 p0_0 p0_1 p0_2 p0_3 p0_4 p0_5 JJ hc105_66 hc123_68 hc141_70 hc159_72) 3))).2 ?_
            show Steps p.tables e below (T104.setTop (mkF m 218 #[.val (.long p0_0), .second, .val (.int p0_1), .val (.int p0_2), .val (.int p0_3), .val (.int p0_4), .val (.int p0_5), .val (.int (v0_7 p0_1)), .val (.int (v0_13 p0_5)), .val (.ref b2), .val (.ref b14), .val (.ref b32), .val (.ref b43), .unset, .unset] [])) _
            refine XS.aload X104.here hx rfl (hb hby at_218) rfl rfl ?_
            show Steps p.tables e below (T104.setTop (mkF m 220 #[.val (.long p0_0), .second, .val (.int p0_1), .val (.int p0_2), .val (.int p0_3), .val (.int p0_4), .val (.int p0_5), .val (.int (v0_7 p0_1)), .val (.int (v0_13 p0_5)), .val (.ref b2), .val (.ref b14), .val (.ref b32), .val (.ref b43), .unset, .unset] [(.ref b2)])) _
            refine XS.iconst X104.here hx rfl (hb hby at_220) ?_
            show Steps p.tables e below (T104.setTop (mkF m 221 #[.val (.long p0_0), .second, .val (.int p0_1), .val (.int p0_2), .val (.int p0_3), .val (.int p0_4), .val (.int p0_5), .val (.int (v0_7 p0_1)), .val (.int (v0_13 p0_5)), .val (.ref b2), .val (.ref b14), .val (.ref b32), .val (.ref b43), .unset, .unset] [(.int (4 : Int32)), (.ref b2)])) _
            refine own_ldI X104 hx hZ rfl Ar105 (j := (4 : Int32)) (i := 4) (by decide) (by decide) (g := (mkF m 221 #[.val (.long p0_0), .second, .val (.int p0_1), .val (.int p0_2), .val (.int p0_3), .val (.int p0_4), .val (.int p0_5), .val (.int (v0_7 p0_1)), .val (.int (v0_13 p0_5)), .val (.ref b2), .val (.ref b14), .val (.ref b32), .val (.ref b43), .unset, .unset] [(.int (4 : Int32)), (.ref b2)])) rfl rfl (hb hby at_221) _ ?_
            show Steps p.tables e below (T104.setTop (mkF m 222 #[.val (.long p0_0), .second, .val (.int p0_1), .val (.int p0_2), .val (.int p0_3), .val (.int p0_4), .val (.int p0_5), .val (.int (v0_7 p0_1)), .val (.int (v0_13 p0_5)), .val (.ref b2), .val (.ref b14), .val (.ref b32), .val (.ref b43), .unset, .unset] [(.int ((own_sh JJ (own_k p0_1) p0_0 (g0_41 p0_2 p0_3 p0_4 p0_5)).2 4))])) _
            refine XS.aload X104.here hx rfl (hb hby at_222) rfl rfl ?_
            show Steps p.tables e below (T104.setTop (mkF m 224 #[.val (.long p0_0), .second, .val (.int p0_1), .val (.int p0_2), .val (.int p0_3), .val (.int p0_4), .val (.int p0_5), .val (.int (v0_7 p0_1)), .val (.int (v0_13 p0_5)), .val (.ref b2), .val (.ref b14), .val (.ref b32), .val (.ref b43), .unset, .unset] [(.ref b14), (.int ((own_sh JJ (own_k p0_1) p0_0 (g0_41 p0_2 p0_3 p0_4 p0_5)).2 4))])) _
            refine XS.iconst X104.here hx rfl (hb hby at_224) ?_
            show Steps p.tables e below (T104.setTop (mkF m 225 #[.val (.long p0_0), .second, .val (.int p0_1), .val (.int p0_2), .val (.int p0_3), .val (.int p0_4), .val (.int p0_5), .val (.int (v0_7 p0_1)), .val (.int (v0_13 p0_5)), .val (.ref b2), .val (.ref b14), .val (.ref b32), .val (.ref b43), .unset, .unset] [(.int (4 : Int32)), (.ref b14), (.int ((own_sh JJ (own_k p0_1) p0_0 (g0_41 p0_2 p0_3 p0_4 p0_5)).2 4))])) _
            refine own_ldI X104 hx hZ rfl C110 (j := (4 : Int32)) (i := 4) (by decide) (by decide) (g := (mkF m 225 #[.val (.long p0_0), .second, .val (.int p0_1), .val (.int p0_2), .val (.int p0_3), .val (.int p0_4), .val (.int p0_5), .val (.int (v0_7 p0_1)), .val (.int (v0_13 p0_5)), .val (.ref b2), .val (.ref b14), .val (.ref b32), .val (.ref b43), .unset, .unset] [(.int (4 : Int32)), (.ref b14), (.int ((own_sh JJ (own_k p0_1) p0_0 (g0_41 p0_2 p0_3 p0_4 p0_5)).2 4))])) rfl rfl (hb hby at_225) _ ?_
            show Steps p.tables e below (T104.setTop (mkF m 226 #[.val (.long p0_0), .second, .val (.int p0_1), .val (.int p0_2), .val (.int p0_3), .val (.int p0_4), .val (.int p0_5), .val (.int (v0_7 p0_1)), .val (.int (v0_13 p0_5)), .val (.ref b2), .val (.ref b14), .val (.ref b32), .val (.ref b43), .unset, .unset] [(.int ((g0_171 p0_0 p0_2 p0_3 p0_4 p0_5 JJ) 4)), (.int ((own_sh JJ (own_k p0_1) p0_0 (g0_41 p0_2 p0_3 p0_4 p0_5)).2 4))])) _
            refine XS.icmpNo X104.here hx rfl (hb hby at_226) rfl (teq (show ((own_sh JJ (own_k p0_1) p0_0 (g0_41 p0_2 p0_3 p0_4 p0_5)).2 4) = ((g0_171 p0_0 p0_2 p0_3 p0_4 p0_5 JJ) 4) from (congrFun (own_eq1 p0_0 p0_1 p0_2 p0_3 p0_4 p0_5 JJ hc105_66 hc123_68 hc141_70 hc159_72) 4))).2 ?_
            show Steps p.tables e below (T104.setTop (mkF m 229 #[.val (.long p0_0), .second, .val (.int p0_1), .val (.int p0_2), .val (.int p0_3), .val (.int p0_4), .val (.int p0_5), .val (.int (v0_7 p0_1)), .val (.int (v0_13 p0_5)), .val (.ref b2), .val (.ref b14), .val (.ref b32), .val (.ref b43), .unset, .unset] [])) _
            refine XS.iconst X104.here hx rfl (hb hby at_229) ?_
            show Steps p.tables e below (T104.setTop (mkF m 230 #[.val (.long p0_0), .second, .val (.int p0_1), .val (.int p0_2), .val (.int p0_3), .val (.int p0_4), .val (.int p0_5), .val (.int (v0_7 p0_1)), .val (.int (v0_13 p0_5)), .val (.ref b2), .val (.ref b14), .val (.ref b32), .val (.ref b43), .unset, .unset] [(.int (1 : Int32))])) _
            refine XS.goto X104.here hx rfl (pc0 := 230) (pc' := 234) rfl (hb hby at_230) (by decide) (by decide) ?_
            show Steps p.tables e below (T104.setTop (mkF m 234 #[.val (.long p0_0), .second, .val (.int p0_1), .val (.int p0_2), .val (.int p0_3), .val (.int p0_4), .val (.int p0_5), .val (.int (v0_7 p0_1)), .val (.int (v0_13 p0_5)), .val (.ref b2), .val (.ref b14), .val (.ref b32), .val (.ref b43), .unset, .unset] [(.int (1 : Int32))])) _
            refine XS.istore X104.here hx rfl (hb hby at_234) rfl (l' := #[.val (.long p0_0), .second, .val (.int p0_1), .val (.int p0_2), .val (.int p0_3), .val (.int p0_4), .val (.int p0_5), .val (.int (v0_7 p0_1)), .val (.int (v0_13 p0_5)), .val (.ref b2), .val (.ref b14), .val (.ref b32), .val (.ref b43), .val (.int (1 : Int32)), .unset]) rfl ?_
            show Steps p.tables e below (T104.setTop (mkF m 236 #[.val (.long p0_0), .second, .val (.int p0_1), .val (.int p0_2), .val (.int p0_3), .val (.int p0_4), .val (.int p0_5), .val (.int (v0_7 p0_1)), .val (.int (v0_13 p0_5)), .val (.ref b2), .val (.ref b14), .val (.ref b32), .val (.ref b43), .val (.int (1 : Int32)), .unset] [])) _
            refine XS.aload X104.here hx rfl (hb hby at_236) rfl rfl ?_
            show Steps p.tables e below (T104.setTop (mkF m 238 #[.val (.long p0_0), .second, .val (.int p0_1), .val (.int p0_2), .val (.int p0_3), .val (.int p0_4), .val (.int p0_5), .val (.int (v0_7 p0_1)), .val (.int (v0_13 p0_5)), .val (.ref b2), .val (.ref b14), .val (.ref b32), .val (.ref b43), .val (.int (1 : Int32)), .unset] [(.ref b32)])) _
            exact k)
          obtain ⟨cq117, kq117, qa117, qb117, qc117⟩ := isOf hZ rfl Ex106
          obtain ⟨_, _, ⟨T117, L117, k117, n117⟩, -, X117, ⟨Lc117, hQ117, l117, y117, z117⟩, st117⟩ := X104.virtualBack hx (y := (⟨"com/example/consigliere/consigliere/engine/Rng", "nextLong", "()J"⟩ : MethodName)) (z := (⟨"com/example/consigliere/consigliere/engine/Rng", "nextLong", "()J"⟩ : MethodName)) hown (mvT hZ (hw _ (List.mem_of_getElem? (i := 37) rfl))) (mvT hZ (hw _ (List.mem_of_getElem? (i := 25) rfl))) (notFace_of_selects (args := #[]) (mvT hZ (hw _ (List.mem_of_getElem? (i := 27) rfl)))) (mvT hZ (hw _ (List.mem_of_getElem? (i := 27) rfl))) (mvT hZ (hw _ (List.mem_of_getElem? (i := 26) rfl))) (by decide) (backOf (W := 0) (rm5 l Z a0 hw [] b32 (own_sh JJ (own_k p0_1) p0_0 (g0_41 p0_2 p0_3 p0_4 p0_5)).1 T104.heap n0 Z104 Ex106 F107 g_b32) hZ (hw _ (List.mem_of_getElem? (i := 28) rfl)) (hw _ (List.mem_of_getElem? (i := 4) rfl)) (by decide) (by decide)) qa117 qc117 (g := (mkF m 238 #[.val (.long p0_0), .second, .val (.int p0_1), .val (.int p0_2), .val (.int p0_3), .val (.int p0_4), .val (.int p0_5), .val (.int (v0_7 p0_1)), .val (.int (v0_13 p0_5)), .val (.ref b2), .val (.ref b14), .val (.ref b32), .val (.ref b43), .val (.int (1 : Int32)), .unset] [(.ref b32)])) rfl (by rw [hml]; rfl) (Steps.refl _) (argsL := []) (rest := []) (lenOf pd_0 rfl) rfl (by show 2 * 0 + _ ≤ _; exact Nat.le_of_eq rfl) (hb hby at_238) (fun _ _ => ⟨rfl, rfl, (by decide : 4 + 0 ≤ _), (by decide : 12 + 0 ≤ _)⟩)
          dsimp only [Pt.U, Pt.locs, Pt.cells, Pt.slots] at X117 l117 y117 z117 st117 hQ117
          rw [l117, y117, z117] at X117
          obtain ⟨rfl, M117, K117c, P117_0⟩ := hQ117
          have N117 := Fr.app N104 M117
          have K117 : Keep T104.heap T117.heap [b32] := K117c
          have Z117 : n0 ≤ T117.heap.size := Nat.le_trans Z104 K117.1
          have Ar118 : ArI Z T117.heap b2 .int 5 (own_sh JJ (own_k p0_1) p0_0 (g0_41 p0_2 p0_3 p0_4 p0_5)).2 := Ar105.keep K117 (ninS ne_b2_b32 nin0)
          have Ar119 : ArI Z T117.heap b14 .int 5 (g0_171 p0_0 p0_2 p0_3 p0_4 p0_5 JJ) := C110.keep K117 (ninS ne_b14_b32 nin0)
          have Ex120 : Exa Z T117.heap b32 "com/example/consigliere/consigliere/engine/Rng" := Ex106.keep K117
          have Ex121 : Exa Z T117.heap b43 "com/example/consigliere/consigliere/engine/Rng" := Ex108.keep K117
          have F122 : Fld Z T117.heap b43 "com/example/consigliere/consigliere/engine/Rng" "state" "J" (.long (own_it ((JJ p0_0 (2 : Int32)) + 1) p0_0)) := F109.keep K117 (ninS (Ne.symm ne_b32_b43) nin0)
          have F123 : Fld Z T117.heap b32 "com/example/consigliere/consigliere/engine/Rng" "state" "J" (.long (w0_238_state_1 p0_0 p0_1 p0_2 p0_3 p0_4 p0_5 JJ)) := P117_0
          replace X117 : Stand p l e room_1 s m #[(.long p0_0), (.int p0_1), (.int p0_2), (.int p0_3), (.int p0_4), (.int p0_5)] below meth c T117 _ 4 12 := X117
          have pre117 : ∀ t, Steps p.tables e below (T117.setTop (mkF m 241 #[.val (.long p0_0), .second, .val (.int p0_1), .val (.int p0_2), .val (.int p0_3), .val (.int p0_4), .val (.int p0_5), .val (.int (v0_7 p0_1)), .val (.int (v0_13 p0_5)), .val (.ref b2), .val (.ref b14), .val (.ref b32), .val (.ref b43), .val (.int (1 : Int32)), .unset] [(.long (c0_238_1 p0_0 p0_1 p0_2 p0_3 p0_4 p0_5 JJ))])) t → Steps p.tables e below (s₁.setTop (entryFrame m #[(.long p0_0), (.int p0_1), (.int p0_2), (.int p0_3), (.int p0_4), (.int p0_5)] maxLocals)) t := fun t k => pre116 t (st117.trans k)
          have pre124 : ∀ t, Steps p.tables e below (T117.setTop (mkF m 243 #[.val (.long p0_0), .second, .val (.int p0_1), .val (.int p0_2), .val (.int p0_3), .val (.int p0_4), .val (.int p0_5), .val (.int (v0_7 p0_1)), .val (.int (v0_13 p0_5)), .val (.ref b2), .val (.ref b14), .val (.ref b32), .val (.ref b43), .val (.int (1 : Int32)), .unset] [(.ref b43), (.long (c0_238_1 p0_0 p0_1 p0_2 p0_3 p0_4 p0_5 JJ))])) t → Steps p.tables e below (s₁.setTop (entryFrame m #[(.long p0_0), (.int p0_1), (.int p0_2), (.int p0_3), (.int p0_4), (.int p0_5)] maxLocals)) t := fun t k => pre117 t (by
            refine XS.aload X117.here hx rfl (hb hby at_241) rfl rfl ?_
            show Steps p.tables e below (T117.setTop (mkF m 243 #[.val (.long p0_0), .second, .val (.int p0_1), .val (.int p0_2), .val (.int p0_3), .val (.int p0_4), .val (.int p0_5), .val (.int (v0_7 p0_1)), .val (.int (v0_13 p0_5)), .val (.ref b2), .val (.ref b14), .val (.ref b32), .val (.ref b43), .val (.int (1 : Int32)), .unset] [(.ref b43), (.long (c0_238_1 p0_0 p0_1 p0_2 p0_3 p0_4 p0_5 JJ))])) _
            exact k)
          obtain ⟨cq125, kq125, qa125, qb125, qc125⟩ := isOf hZ rfl Ex121
          obtain ⟨_, _, ⟨T125, L125, k125, n125⟩, -, X125, ⟨Lc125, hQ125, l125, y125, z125⟩, st125⟩ := X117.virtualBack hx (y := (⟨"com/example/consigliere/consigliere/engine/Rng", "nextLong", "()J"⟩ : MethodName)) (z := (⟨"com/example/consigliere/consigliere/engine/Rng", "nextLong", "()J"⟩ : MethodName)) hown (mvT hZ (hw _ (List.mem_of_getElem? (i := 37) rfl))) (mvT hZ (hw _ (List.mem_of_getElem? (i := 25) rfl))) (notFace_of_selects (args := #[]) (mvT hZ (hw _ (List.mem_of_getElem? (i := 27) rfl)))) (mvT hZ (hw _ (List.mem_of_getElem? (i := 27) rfl))) (mvT hZ (hw _ (List.mem_of_getElem? (i := 26) rfl))) (by decide) (backOf (W := 2) (rm5 l Z a0 hw [] b43 (own_it ((JJ p0_0 (2 : Int32)) + 1) p0_0) T117.heap n0 Z117 Ex121 F122 g_b43) hZ (hw _ (List.mem_of_getElem? (i := 28) rfl)) (hw _ (List.mem_of_getElem? (i := 4) rfl)) (by decide) (by decide)) qa125 qc125 (g := (mkF m 243 #[.val (.long p0_0), .second, .val (.int p0_1), .val (.int p0_2), .val (.int p0_3), .val (.int p0_4), .val (.int p0_5), .val (.int (v0_7 p0_1)), .val (.int (v0_13 p0_5)), .val (.ref b2), .val (.ref b14), .val (.ref b32), .val (.ref b43), .val (.int (1 : Int32)), .unset] [(.ref b43), (.long (c0_238_1 p0_0 p0_1 p0_2 p0_3 p0_4 p0_5 JJ))])) rfl (by rw [hml]; rfl) (Steps.refl _) (argsL := []) (rest := [(.long (c0_238_1 p0_0 p0_1 p0_2 p0_3 p0_4 p0_5 JJ))]) (lenOf pd_0 rfl) rfl (by show 2 * 0 + _ ≤ _; exact Nat.le_of_eq rfl) (hb hby at_243) (fun _ _ => ⟨rfl, rfl, (by decide : 4 + 0 ≤ _), (by decide : 12 + 0 ≤ _)⟩)
          dsimp only [Pt.U, Pt.locs, Pt.cells, Pt.slots] at X125 l125 y125 z125 st125 hQ125
          rw [l125, y125, z125] at X125
          obtain ⟨rfl, M125, K125c, P125_0⟩ := hQ125
          have N125 := Fr.app N117 M125
          have K125 : Keep T117.heap T125.heap [b43] := K125c
          have Z125 : n0 ≤ T125.heap.size := Nat.le_trans Z117 K125.1
          have Ar126 : ArI Z T125.heap b2 .int 5 (own_sh JJ (own_k p0_1) p0_0 (g0_41 p0_2 p0_3 p0_4 p0_5)).2 := Ar118.keep K125 (ninS ne_b2_b43 nin0)
          have Ar127 : ArI Z T125.heap b14 .int 5 (g0_171 p0_0 p0_2 p0_3 p0_4 p0_5 JJ) := Ar119.keep K125 (ninS ne_b14_b43 nin0)
          have Ex128 : Exa Z T125.heap b32 "com/example/consigliere/consigliere/engine/Rng" := Ex120.keep K125
          have F129 : Fld Z T125.heap b32 "com/example/consigliere/consigliere/engine/Rng" "state" "J" (.long (w0_238_state_1 p0_0 p0_1 p0_2 p0_3 p0_4 p0_5 JJ)) := F123.keep K125 (ninS ne_b32_b43 nin0)
          have Ex130 : Exa Z T125.heap b43 "com/example/consigliere/consigliere/engine/Rng" := Ex121.keep K125
          have F131 : Fld Z T125.heap b43 "com/example/consigliere/consigliere/engine/Rng" "state" "J" (.long (v5_9 (own_it ((JJ p0_0 (2 : Int32)) + 1) p0_0))) := P125_0
          replace X125 : Stand p l e room_1 s m #[(.long p0_0), (.int p0_1), (.int p0_2), (.int p0_3), (.int p0_4), (.int p0_5)] below meth c T125 _ 4 12 := X125
          have pre125 : ∀ t, Steps p.tables e below (T125.setTop (mkF m 246 #[.val (.long p0_0), .second, .val (.int p0_1), .val (.int p0_2), .val (.int p0_3), .val (.int p0_4), .val (.int p0_5), .val (.int (v0_7 p0_1)), .val (.int (v0_13 p0_5)), .val (.ref b2), .val (.ref b14), .val (.ref b32), .val (.ref b43), .val (.int (1 : Int32)), .unset] [(.long (r5 (own_it ((JJ p0_0 (2 : Int32)) + 1) p0_0))), (.long (c0_238_1 p0_0 p0_1 p0_2 p0_3 p0_4 p0_5 JJ))])) t → Steps p.tables e below (s₁.setTop (entryFrame m #[(.long p0_0), (.int p0_1), (.int p0_2), (.int p0_3), (.int p0_4), (.int p0_5)] maxLocals)) t := fun t k => pre124 t (st125.trans k)
          have pre133 : ∀ t, Steps p.tables e below (T125.setTop (mkF m 272 #[.val (.long p0_0), .second, .val (.int p0_1), .val (.int p0_2), .val (.int p0_3), .val (.int p0_4), .val (.int p0_5), .val (.int (v0_7 p0_1)), .val (.int (v0_13 p0_5)), .val (.ref b2), .val (.ref b14), .val (.ref b32), .val (.ref b43), .val (.int (1 : Int32)), .val (.int (1 : Int32))] [(.int (1 : Int32))])) t → Steps p.tables e below (s₁.setTop (entryFrame m #[(.long p0_0), (.int p0_1), (.int p0_2), (.int p0_3), (.int p0_4), (.int p0_5)] maxLocals)) t := fun t k => pre125 t (by
            refine XS.lcmp X125.here hx rfl (hb hby at_246) rfl ?_
            show Steps p.tables e below (T125.setTop (mkF m 247 #[.val (.long p0_0), .second, .val (.int p0_1), .val (.int p0_2), .val (.int p0_3), .val (.int p0_4), .val (.int p0_5), .val (.int (v0_7 p0_1)), .val (.int (v0_13 p0_5)), .val (.ref b2), .val (.ref b14), .val (.ref b32), .val (.ref b43), .val (.int (1 : Int32)), .unset] [(.int (lcmpW (c0_238_1 p0_0 p0_1 p0_2 p0_3 p0_4 p0_5 JJ) (r5 (own_it ((JJ p0_0 (2 : Int32)) + 1) p0_0))))])) _
            refine XS.ifNo X125.here hx rfl (hb hby at_247) rfl ((if0 _ _).trans (teq ((lw_eq (c0_238_1 p0_0 p0_1 p0_2 p0_3 p0_4 p0_5 JJ) (r5 (own_it ((JJ p0_0 (2 : Int32)) + 1) p0_0))).mpr (show (c0_238_1 p0_0 p0_1 p0_2 p0_3 p0_4 p0_5 JJ) = (r5 (own_it ((JJ p0_0 (2 : Int32)) + 1) p0_0)) from (congrArg r5 (own_s1 p0_0 p0_1 p0_2 p0_3 p0_4 p0_5 JJ hc105_66 hc123_68 hc141_70 hc159_72))))).2) ?_
            show Steps p.tables e below (T125.setTop (mkF m 250 #[.val (.long p0_0), .second, .val (.int p0_1), .val (.int p0_2), .val (.int p0_3), .val (.int p0_4), .val (.int p0_5), .val (.int (v0_7 p0_1)), .val (.int (v0_13 p0_5)), .val (.ref b2), .val (.ref b14), .val (.ref b32), .val (.ref b43), .val (.int (1 : Int32)), .unset] [])) _
            refine XS.iconst X125.here hx rfl (hb hby at_250) ?_
            show Steps p.tables e below (T125.setTop (mkF m 251 #[.val (.long p0_0), .second, .val (.int p0_1), .val (.int p0_2), .val (.int p0_3), .val (.int p0_4), .val (.int p0_5), .val (.int (v0_7 p0_1)), .val (.int (v0_13 p0_5)), .val (.ref b2), .val (.ref b14), .val (.ref b32), .val (.ref b43), .val (.int (1 : Int32)), .unset] [(.int (1 : Int32))])) _
            refine XS.goto X125.here hx rfl (pc0 := 251) (pc' := 255) rfl (hb hby at_251) (by decide) (by decide) ?_
            show Steps p.tables e below (T125.setTop (mkF m 255 #[.val (.long p0_0), .second, .val (.int p0_1), .val (.int p0_2), .val (.int p0_3), .val (.int p0_4), .val (.int p0_5), .val (.int (v0_7 p0_1)), .val (.int (v0_13 p0_5)), .val (.ref b2), .val (.ref b14), .val (.ref b32), .val (.ref b43), .val (.int (1 : Int32)), .unset] [(.int (1 : Int32))])) _
            refine XS.istore X125.here hx rfl (hb hby at_255) rfl (l' := #[.val (.long p0_0), .second, .val (.int p0_1), .val (.int p0_2), .val (.int p0_3), .val (.int p0_4), .val (.int p0_5), .val (.int (v0_7 p0_1)), .val (.int (v0_13 p0_5)), .val (.ref b2), .val (.ref b14), .val (.ref b32), .val (.ref b43), .val (.int (1 : Int32)), .val (.int (1 : Int32))]) rfl ?_
            show Steps p.tables e below (T125.setTop (mkF m 257 #[.val (.long p0_0), .second, .val (.int p0_1), .val (.int p0_2), .val (.int p0_3), .val (.int p0_4), .val (.int p0_5), .val (.int (v0_7 p0_1)), .val (.int (v0_13 p0_5)), .val (.ref b2), .val (.ref b14), .val (.ref b32), .val (.ref b43), .val (.int (1 : Int32)), .val (.int (1 : Int32))] [])) _
            refine XS.iload X125.here hx rfl (hb hby at_257) rfl ?_
            show Steps p.tables e below (T125.setTop (mkF m 259 #[.val (.long p0_0), .second, .val (.int p0_1), .val (.int p0_2), .val (.int p0_3), .val (.int p0_4), .val (.int p0_5), .val (.int (v0_7 p0_1)), .val (.int (v0_13 p0_5)), .val (.ref b2), .val (.ref b14), .val (.ref b32), .val (.ref b43), .val (.int (1 : Int32)), .val (.int (1 : Int32))] [(.int (1 : Int32))])) _
            refine XS.ifNo X125.here hx rfl (hb hby at_259) rfl ((if0 _ _).trans (feq (by decide : ¬ ((1 : Int32) = (0 : Int32)))).1) ?_
            show Steps p.tables e below (T125.setTop (mkF m 262 #[.val (.long p0_0), .second, .val (.int p0_1), .val (.int p0_2), .val (.int p0_3), .val (.int p0_4), .val (.int p0_5), .val (.int (v0_7 p0_1)), .val (.int (v0_13 p0_5)), .val (.ref b2), .val (.ref b14), .val (.ref b32), .val (.ref b43), .val (.int (1 : Int32)), .val (.int (1 : Int32))] [])) _
            refine XS.iload X125.here hx rfl (hb hby at_262) rfl ?_
            show Steps p.tables e below (T125.setTop (mkF m 264 #[.val (.long p0_0), .second, .val (.int p0_1), .val (.int p0_2), .val (.int p0_3), .val (.int p0_4), .val (.int p0_5), .val (.int (v0_7 p0_1)), .val (.int (v0_13 p0_5)), .val (.ref b2), .val (.ref b14), .val (.ref b32), .val (.ref b43), .val (.int (1 : Int32)), .val (.int (1 : Int32))] [(.int (1 : Int32))])) _
            refine XS.ifNo X125.here hx rfl (hb hby at_264) rfl ((if0 _ _).trans (feq (by decide : ¬ ((1 : Int32) = (0 : Int32)))).1) ?_
            show Steps p.tables e below (T125.setTop (mkF m 267 #[.val (.long p0_0), .second, .val (.int p0_1), .val (.int p0_2), .val (.int p0_3), .val (.int p0_4), .val (.int p0_5), .val (.int (v0_7 p0_1)), .val (.int (v0_13 p0_5)), .val (.ref b2), .val (.ref b14), .val (.ref b32), .val (.ref b43), .val (.int (1 : Int32)), .val (.int (1 : Int32))] [])) _
            refine XS.iconst X125.here hx rfl (hb hby at_267) ?_
            show Steps p.tables e below (T125.setTop (mkF m 268 #[.val (.long p0_0), .second, .val (.int p0_1), .val (.int p0_2), .val (.int p0_3), .val (.int p0_4), .val (.int p0_5), .val (.int (v0_7 p0_1)), .val (.int (v0_13 p0_5)), .val (.ref b2), .val (.ref b14), .val (.ref b32), .val (.ref b43), .val (.int (1 : Int32)), .val (.int (1 : Int32))] [(.int (1 : Int32))])) _
            refine XS.goto X125.here hx rfl (pc0 := 268) (pc' := 272) rfl (hb hby at_268) (by decide) (by decide) ?_
            show Steps p.tables e below (T125.setTop (mkF m 272 #[.val (.long p0_0), .second, .val (.int p0_1), .val (.int p0_2), .val (.int p0_3), .val (.int p0_4), .val (.int p0_5), .val (.int (v0_7 p0_1)), .val (.int (v0_13 p0_5)), .val (.ref b2), .val (.ref b14), .val (.ref b32), .val (.ref b43), .val (.int (1 : Int32)), .val (.int (1 : Int32))] [(.int (1 : Int32))])) _
            exact k)
          obtain ⟨fs, hr, hrun, hended, hW, hsame⟩ := X125.leave (v := some (.int (1 : Int32))) (fun h => by rw [Bd.returns] at h; cases h) Bd.notSynchronized
          refine ⟨_, _, pre133 _ ?_, hrun, hended, _, _, rfl, ?_, ⟨_, rfl⟩, hW, hsame.mono (by decide) (by decide)⟩
          · show Steps p.tables e below (T125.setTop (mkF m 272 #[.val (.long p0_0), .second, .val (.int p0_1), .val (.int p0_2), .val (.int p0_3), .val (.int p0_4), .val (.int p0_5), .val (.int (v0_7 p0_1)), .val (.int (v0_13 p0_5)), .val (.ref b2), .val (.ref b14), .val (.ref b32), .val (.ref b43), .val (.int (1 : Int32)), .val (.int (1 : Int32))] [(.int (1 : Int32))])) _
            exact retN X125 hx (t := .boolean) Bd.returns (by simp) (hb hby at_272) hr
          · show Q0 Z p0_0 p0_1 p0_2 p0_3 p0_4 p0_5 JJ h0 n0 _ T125.heap _
            exact ⟨rfl, N125⟩
      · have pre134 : ∀ t, Steps p.tables e below (T58.setTop (mkF m 150 #[.val (.long p0_0), .second, .val (.int p0_1), .val (.int p0_2), .val (.int p0_3), .val (.int p0_4), .val (.int p0_5), .val (.int (v0_7 p0_1)), .val (.int (v0_13 p0_5)), .val (.ref b2), .val (.ref b14), .val (.ref b32), .val (.ref b43), .unset, .unset] [(.int (3 : Int32)), (.ref b43), (.int (2 : Int32)), (.ref b14)])) t → Steps p.tables e below (s₁.setTop (entryFrame m #[(.long p0_0), (.int p0_1), (.int p0_2), (.int p0_3), (.int p0_4), (.int p0_5)] maxLocals)) t := fun t k => pre69 t (by
          refine XS.icmpNo X58.here hx rfl (hb hby at_141) rfl (flt hc141_70).1 ?_
          show Steps p.tables e below (T58.setTop (mkF m 144 #[.val (.long p0_0), .second, .val (.int p0_1), .val (.int p0_2), .val (.int p0_3), .val (.int p0_4), .val (.int p0_5), .val (.int (v0_7 p0_1)), .val (.int (v0_13 p0_5)), .val (.ref b2), .val (.ref b14), .val (.ref b32), .val (.ref b43), .unset, .unset] [])) _
          refine XS.aload X58.here hx rfl (hb hby at_144) rfl rfl ?_
          show Steps p.tables e below (T58.setTop (mkF m 146 #[.val (.long p0_0), .second, .val (.int p0_1), .val (.int p0_2), .val (.int p0_3), .val (.int p0_4), .val (.int p0_5), .val (.int (v0_7 p0_1)), .val (.int (v0_13 p0_5)), .val (.ref b2), .val (.ref b14), .val (.ref b32), .val (.ref b43), .unset, .unset] [(.ref b14)])) _
          refine XS.iconst X58.here hx rfl (hb hby at_146) ?_
          show Steps p.tables e below (T58.setTop (mkF m 147 #[.val (.long p0_0), .second, .val (.int p0_1), .val (.int p0_2), .val (.int p0_3), .val (.int p0_4), .val (.int p0_5), .val (.int (v0_7 p0_1)), .val (.int (v0_13 p0_5)), .val (.ref b2), .val (.ref b14), .val (.ref b32), .val (.ref b43), .unset, .unset] [(.int (2 : Int32)), (.ref b14)])) _
          refine XS.aload X58.here hx rfl (hb hby at_147) rfl rfl ?_
          show Steps p.tables e below (T58.setTop (mkF m 149 #[.val (.long p0_0), .second, .val (.int p0_1), .val (.int p0_2), .val (.int p0_3), .val (.int p0_4), .val (.int p0_5), .val (.int (v0_7 p0_1)), .val (.int (v0_13 p0_5)), .val (.ref b2), .val (.ref b14), .val (.ref b32), .val (.ref b43), .unset, .unset] [(.ref b43), (.int (2 : Int32)), (.ref b14)])) _
          refine XS.iconst X58.here hx rfl (hb hby at_149) ?_
          show Steps p.tables e below (T58.setTop (mkF m 150 #[.val (.long p0_0), .second, .val (.int p0_1), .val (.int p0_2), .val (.int p0_3), .val (.int p0_4), .val (.int p0_5), .val (.int (v0_7 p0_1)), .val (.int (v0_13 p0_5)), .val (.ref b2), .val (.ref b14), .val (.ref b32), .val (.ref b43), .unset, .unset] [(.int (3 : Int32)), (.ref b43), (.int (2 : Int32)), (.ref b14)])) _
          exact k)
        obtain ⟨cq135, kq135, qa135, qb135, qc135⟩ := isOf hZ rfl Ex61
        obtain ⟨_, _, ⟨T135, L135, k135, n135⟩, -, X135, ⟨Lc135, hQ135, l135, y135, z135⟩, st135⟩ := X58.virtualBack hx (y := (⟨"com/example/consigliere/consigliere/engine/Rng", "nextInt", "(I)I"⟩ : MethodName)) (z := (⟨"com/example/consigliere/consigliere/engine/Rng", "nextInt", "(I)I"⟩ : MethodName)) hown (mvT hZ (hw _ (List.mem_of_getElem? (i := 32) rfl))) (mvT hZ (hw _ (List.mem_of_getElem? (i := 19) rfl))) (notFace_of_selects (args := #[]) (mvT hZ (hw _ (List.mem_of_getElem? (i := 21) rfl)))) (mvT hZ (hw _ (List.mem_of_getElem? (i := 21) rfl))) (mvT hZ (hw _ (List.mem_of_getElem? (i := 20) rfl))) (by decide) (backOf (W := 2) (rm4 l Z a0 hw [] b43 (3 : Int32) (JJ p0_0 (3 : Int32)) p0_0 T58.heap n0 Z58 (by decide) (hJ p0_0 _ (by decide)).1 (hJ p0_0 _ (by decide)).2 Ex61 F62 g_b43) hZ (hw _ (List.mem_of_getElem? (i := 22) rfl)) (hw _ (List.mem_of_getElem? (i := 4) rfl)) (by decide) (by decide)) qa135 qc135 (g := (mkF m 150 #[.val (.long p0_0), .second, .val (.int p0_1), .val (.int p0_2), .val (.int p0_3), .val (.int p0_4), .val (.int p0_5), .val (.int (v0_7 p0_1)), .val (.int (v0_13 p0_5)), .val (.ref b2), .val (.ref b14), .val (.ref b32), .val (.ref b43), .unset, .unset] [(.int (3 : Int32)), (.ref b43), (.int (2 : Int32)), (.ref b14)])) rfl (by rw [hml]; rfl) (Steps.refl _) (argsL := [(.int (3 : Int32))]) (rest := [(.int (2 : Int32)), (.ref b14)]) (lenOf pd_1 rfl) rfl (by show 2 * 0 + _ ≤ _; exact Nat.le_of_eq rfl) (hb hby at_150) (fun _ _ => ⟨rfl, rfl, (by decide : 4 + 0 ≤ _), (by decide : 12 + 0 ≤ _)⟩)
        dsimp only [Pt.U, Pt.locs, Pt.cells, Pt.slots] at X135 l135 y135 z135 st135 hQ135
        rw [l135, y135, z135] at X135
        obtain ⟨rfl, M135, K135c, P135_0⟩ := hQ135
        have N135 := Fr.app N58 M135
        have K135 : Keep T58.heap T135.heap [b43] := K135c
        have Z135 : n0 ≤ T135.heap.size := Nat.le_trans Z58 K135.1
        have Ar136 : ArI Z T135.heap b2 .int 5 (own_sh JJ (own_k p0_1) p0_0 (g0_41 p0_2 p0_3 p0_4 p0_5)).2 := C64.keep K135 (ninS ne_b2_b43 nin0)
        have Ar137 : ArI Z T135.heap b14 .int 5 (g0_70 p0_2 p0_3 p0_4 p0_5) := Ar59.keep K135 (ninS ne_b14_b43 nin0)
        have Ex138 : Exa Z T135.heap b32 "com/example/consigliere/consigliere/engine/Rng" := Ex60.keep K135
        have F139 : Fld Z T135.heap b32 "com/example/consigliere/consigliere/engine/Rng" "state" "J" (.long (own_sh JJ (own_k p0_1) p0_0 (g0_41 p0_2 p0_3 p0_4 p0_5)).1) := F63.keep K135 (ninS ne_b32_b43 nin0)
        have Ex140 : Exa Z T135.heap b43 "com/example/consigliere/consigliere/engine/Rng" := Ex61.keep K135
        have F141 : Fld Z T135.heap b43 "com/example/consigliere/consigliere/engine/Rng" "state" "J" (.long (own_it ((JJ p0_0 (3 : Int32)) + 1) p0_0)) := P135_0
        replace X135 : Stand p l e room_1 s m #[(.long p0_0), (.int p0_1), (.int p0_2), (.int p0_3), (.int p0_4), (.int p0_5)] below meth c T135 _ 4 12 := X135
        have pre135 : ∀ t, Steps p.tables e below (T135.setTop (mkF m 153 #[.val (.long p0_0), .second, .val (.int p0_1), .val (.int p0_2), .val (.int p0_3), .val (.int p0_4), .val (.int p0_5), .val (.int (v0_7 p0_1)), .val (.int (v0_13 p0_5)), .val (.ref b2), .val (.ref b14), .val (.ref b32), .val (.ref b43), .unset, .unset] [(.int (r4 (3 : Int32) (JJ p0_0 (3 : Int32)) p0_0)), (.int (2 : Int32)), (.ref b14)])) t → Steps p.tables e below (s₁.setTop (entryFrame m #[(.long p0_0), (.int p0_1), (.int p0_2), (.int p0_3), (.int p0_4), (.int p0_5)] maxLocals)) t := fun t k => pre134 t (st135.trans k)
        obtain ⟨_, _, ⟨T142, L142, k142, n142⟩, -, X142, ⟨Lc142, hQ142, l142, y142, z142⟩, st142⟩ := Jvm.LawKit.callS X135 hx (y := (⟨"com/example/consigliere/consigliere/engine/RngShufflePinLaw", "swap", "([III)V"⟩ : MethodName)) hown (mvT hZ (hw _ (List.mem_of_getElem? (i := 33) rfl))) (mvT hZ (hw _ (List.mem_of_getElem? (i := 34) rfl))) (mvT hZ (hw _ (List.mem_of_getElem? (i := 35) rfl))) (mvT hZ (hw _ (List.mem_of_getElem? (i := 36) rfl))) (by decide) (backOf (W := 0) (rm6 l Z a0 hw [] b14 (2 : Int32) (r4 (3 : Int32) (JJ p0_0 (3 : Int32)) p0_0) 2 (((r4 (3 : Int32) (JJ p0_0 (3 : Int32)) p0_0)).toNatClampNeg) 5 (g0_70 p0_2 p0_3 p0_4 p0_5) T135.heap n0 Z135 (by decide) (by decide) ⟨(own_rb JJ hJ _ (3 : Int32) (by decide)).1, rfl⟩ (Nat.lt_of_lt_of_le (own_rb JJ hJ _ (3 : Int32) (by decide)).2 (by decide)) g_b14 Ar137) hZ (hw _ (List.mem_of_getElem? (i := 36) rfl)) (hw _ (List.mem_of_getElem? (i := 35) rfl)) (by decide) (by decide)) (g := (mkF m 153 #[.val (.long p0_0), .second, .val (.int p0_1), .val (.int p0_2), .val (.int p0_3), .val (.int p0_4), .val (.int p0_5), .val (.int (v0_7 p0_1)), .val (.int (v0_13 p0_5)), .val (.ref b2), .val (.ref b14), .val (.ref b32), .val (.ref b43), .unset, .unset] [(.int (r4 (3 : Int32) (JJ p0_0 (3 : Int32)) p0_0)), (.int (2 : Int32)), (.ref b14)])) rfl (by rw [hml]; rfl) (argsL := [(.ref b14), (.int (2 : Int32)), (.int (r4 (3 : Int32) (JJ p0_0 (3 : Int32)) p0_0))]) (rest := []) (lenOf pd_4 rfl) rfl (by show 2 * 0 + _ ≤ _; exact Nat.le_of_eq rfl) (hb hby at_153) (fun _ _ => ⟨rfl, rfl, (by decide : 4 + 0 ≤ _), (by decide : 12 + 0 ≤ _)⟩)
        dsimp only [Pt.U, Pt.locs, Pt.cells, Pt.slots] at X142 l142 y142 z142 st142 hQ142
        rw [l142, y142, z142] at X142
        obtain ⟨rfl, M142, K142c, P142_0⟩ := hQ142
        have N142 := Fr.app N135 M142
        have K142 : Keep T135.heap T142.heap [b14] := K142c
        have Z142 : n0 ≤ T142.heap.size := Nat.le_trans Z135 K142.1
        have Ar143 : ArI Z T142.heap b2 .int 5 (own_sh JJ (own_k p0_1) p0_0 (g0_41 p0_2 p0_3 p0_4 p0_5)).2 := Ar136.keep K142 (ninS ne_b2_b14 nin0)
        have Ex144 : Exa Z T142.heap b32 "com/example/consigliere/consigliere/engine/Rng" := Ex138.keep K142
        have F145 : Fld Z T142.heap b32 "com/example/consigliere/consigliere/engine/Rng" "state" "J" (.long (own_sh JJ (own_k p0_1) p0_0 (g0_41 p0_2 p0_3 p0_4 p0_5)).1) := F139.keep K142 (ninS (Ne.symm ne_b14_b32) nin0)
        have Ex146 : Exa Z T142.heap b43 "com/example/consigliere/consigliere/engine/Rng" := Ex140.keep K142
        have F147 : Fld Z T142.heap b43 "com/example/consigliere/consigliere/engine/Rng" "state" "J" (.long (own_it ((JJ p0_0 (3 : Int32)) + 1) p0_0)) := F141.keep K142 (ninS (Ne.symm ne_b14_b43) nin0)
        have C148 : ArI Z T142.heap b14 .int 5 (g0_153 p0_0 p0_2 p0_3 p0_4 p0_5 JJ) := P142_0
        replace X142 : Stand p l e room_1 s m #[(.long p0_0), (.int p0_1), (.int p0_2), (.int p0_3), (.int p0_4), (.int p0_5)] below meth c T142 _ 4 12 := X142
        have pre142 : ∀ t, Steps p.tables e below (T142.setTop (mkF m 156 #[.val (.long p0_0), .second, .val (.int p0_1), .val (.int p0_2), .val (.int p0_3), .val (.int p0_4), .val (.int p0_5), .val (.int (v0_7 p0_1)), .val (.int (v0_13 p0_5)), .val (.ref b2), .val (.ref b14), .val (.ref b32), .val (.ref b43), .unset, .unset] [])) t → Steps p.tables e below (s₁.setTop (entryFrame m #[(.long p0_0), (.int p0_1), (.int p0_2), (.int p0_3), (.int p0_4), (.int p0_5)] maxLocals)) t := fun t k => pre135 t (st142 t k)
        have pre150 : ∀ t, Steps p.tables e below (T142.setTop (mkF m 168 #[.val (.long p0_0), .second, .val (.int p0_1), .val (.int p0_2), .val (.int p0_3), .val (.int p0_4), .val (.int p0_5), .val (.int (v0_7 p0_1)), .val (.int (v0_13 p0_5)), .val (.ref b2), .val (.ref b14), .val (.ref b32), .val (.ref b43), .unset, .unset] [(.int (2 : Int32)), (.ref b43), (.int (1 : Int32)), (.ref b14)])) t → Steps p.tables e below (s₁.setTop (entryFrame m #[(.long p0_0), (.int p0_1), (.int p0_2), (.int p0_3), (.int p0_4), (.int p0_5)] maxLocals)) t := fun t k => pre142 t (by
          refine XS.iload X142.here hx rfl (hb hby at_156) rfl ?_
          show Steps p.tables e below (T142.setTop (mkF m 158 #[.val (.long p0_0), .second, .val (.int p0_1), .val (.int p0_2), .val (.int p0_3), .val (.int p0_4), .val (.int p0_5), .val (.int (v0_7 p0_1)), .val (.int (v0_13 p0_5)), .val (.ref b2), .val (.ref b14), .val (.ref b32), .val (.ref b43), .unset, .unset] [(.int (v0_7 p0_1))])) _
          refine XS.iconst X142.here hx rfl (hb hby at_158) ?_
          show Steps p.tables e below (T142.setTop (mkF m 159 #[.val (.long p0_0), .second, .val (.int p0_1), .val (.int p0_2), .val (.int p0_3), .val (.int p0_4), .val (.int p0_5), .val (.int (v0_7 p0_1)), .val (.int (v0_13 p0_5)), .val (.ref b2), .val (.ref b14), .val (.ref b32), .val (.ref b43), .unset, .unset] [(.int (2 : Int32)), (.int (v0_7 p0_1))])) _
          refine XS.icmpNo X142.here hx rfl (hb hby at_159) rfl (flt (show ¬ ((v0_7 p0_1) < (2 : Int32)) from (own_up p0_1 hc141_70 (by decide)))).1 ?_
          show Steps p.tables e below (T142.setTop (mkF m 162 #[.val (.long p0_0), .second, .val (.int p0_1), .val (.int p0_2), .val (.int p0_3), .val (.int p0_4), .val (.int p0_5), .val (.int (v0_7 p0_1)), .val (.int (v0_13 p0_5)), .val (.ref b2), .val (.ref b14), .val (.ref b32), .val (.ref b43), .unset, .unset] [])) _
          refine XS.aload X142.here hx rfl (hb hby at_162) rfl rfl ?_
          show Steps p.tables e below (T142.setTop (mkF m 164 #[.val (.long p0_0), .second, .val (.int p0_1), .val (.int p0_2), .val (.int p0_3), .val (.int p0_4), .val (.int p0_5), .val (.int (v0_7 p0_1)), .val (.int (v0_13 p0_5)), .val (.ref b2), .val (.ref b14), .val (.ref b32), .val (.ref b43), .unset, .unset] [(.ref b14)])) _
          refine XS.iconst X142.here hx rfl (hb hby at_164) ?_
          show Steps p.tables e below (T142.setTop (mkF m 165 #[.val (.long p0_0), .second, .val (.int p0_1), .val (.int p0_2), .val (.int p0_3), .val (.int p0_4), .val (.int p0_5), .val (.int (v0_7 p0_1)), .val (.int (v0_13 p0_5)), .val (.ref b2), .val (.ref b14), .val (.ref b32), .val (.ref b43), .unset, .unset] [(.int (1 : Int32)), (.ref b14)])) _
          refine XS.aload X142.here hx rfl (hb hby at_165) rfl rfl ?_
          show Steps p.tables e below (T142.setTop (mkF m 167 #[.val (.long p0_0), .second, .val (.int p0_1), .val (.int p0_2), .val (.int p0_3), .val (.int p0_4), .val (.int p0_5), .val (.int (v0_7 p0_1)), .val (.int (v0_13 p0_5)), .val (.ref b2), .val (.ref b14), .val (.ref b32), .val (.ref b43), .unset, .unset] [(.ref b43), (.int (1 : Int32)), (.ref b14)])) _
          refine XS.iconst X142.here hx rfl (hb hby at_167) ?_
          show Steps p.tables e below (T142.setTop (mkF m 168 #[.val (.long p0_0), .second, .val (.int p0_1), .val (.int p0_2), .val (.int p0_3), .val (.int p0_4), .val (.int p0_5), .val (.int (v0_7 p0_1)), .val (.int (v0_13 p0_5)), .val (.ref b2), .val (.ref b14), .val (.ref b32), .val (.ref b43), .unset, .unset] [(.int (2 : Int32)), (.ref b43), (.int (1 : Int32)), (.ref b14)])) _
          exact k)
        obtain ⟨cq151, kq151, qa151, qb151, qc151⟩ := isOf hZ rfl Ex146
        obtain ⟨_, _, ⟨T151, L151, k151, n151⟩, -, X151, ⟨Lc151, hQ151, l151, y151, z151⟩, st151⟩ := X142.virtualBack hx (y := (⟨"com/example/consigliere/consigliere/engine/Rng", "nextInt", "(I)I"⟩ : MethodName)) (z := (⟨"com/example/consigliere/consigliere/engine/Rng", "nextInt", "(I)I"⟩ : MethodName)) hown (mvT hZ (hw _ (List.mem_of_getElem? (i := 32) rfl))) (mvT hZ (hw _ (List.mem_of_getElem? (i := 19) rfl))) (notFace_of_selects (args := #[]) (mvT hZ (hw _ (List.mem_of_getElem? (i := 21) rfl)))) (mvT hZ (hw _ (List.mem_of_getElem? (i := 21) rfl))) (mvT hZ (hw _ (List.mem_of_getElem? (i := 20) rfl))) (by decide) (backOf (W := 2) (rm4 l Z a0 hw [] b43 (2 : Int32) (JJ (own_it ((JJ p0_0 (3 : Int32)) + 1) p0_0) (2 : Int32)) (own_it ((JJ p0_0 (3 : Int32)) + 1) p0_0) T142.heap n0 Z142 (by decide) (hJ (own_it ((JJ p0_0 (3 : Int32)) + 1) p0_0) _ (by decide)).1 (hJ (own_it ((JJ p0_0 (3 : Int32)) + 1) p0_0) _ (by decide)).2 Ex146 F147 g_b43) hZ (hw _ (List.mem_of_getElem? (i := 22) rfl)) (hw _ (List.mem_of_getElem? (i := 4) rfl)) (by decide) (by decide)) qa151 qc151 (g := (mkF m 168 #[.val (.long p0_0), .second, .val (.int p0_1), .val (.int p0_2), .val (.int p0_3), .val (.int p0_4), .val (.int p0_5), .val (.int (v0_7 p0_1)), .val (.int (v0_13 p0_5)), .val (.ref b2), .val (.ref b14), .val (.ref b32), .val (.ref b43), .unset, .unset] [(.int (2 : Int32)), (.ref b43), (.int (1 : Int32)), (.ref b14)])) rfl (by rw [hml]; rfl) (Steps.refl _) (argsL := [(.int (2 : Int32))]) (rest := [(.int (1 : Int32)), (.ref b14)]) (lenOf pd_1 rfl) rfl (by show 2 * 0 + _ ≤ _; exact Nat.le_of_eq rfl) (hb hby at_168) (fun _ _ => ⟨rfl, rfl, (by decide : 4 + 0 ≤ _), (by decide : 12 + 0 ≤ _)⟩)
        dsimp only [Pt.U, Pt.locs, Pt.cells, Pt.slots] at X151 l151 y151 z151 st151 hQ151
        rw [l151, y151, z151] at X151
        obtain ⟨rfl, M151, K151c, P151_0⟩ := hQ151
        have N151 := Fr.app N142 M151
        have K151 : Keep T142.heap T151.heap [b43] := K151c
        have Z151 : n0 ≤ T151.heap.size := Nat.le_trans Z142 K151.1
        have Ar152 : ArI Z T151.heap b2 .int 5 (own_sh JJ (own_k p0_1) p0_0 (g0_41 p0_2 p0_3 p0_4 p0_5)).2 := Ar143.keep K151 (ninS ne_b2_b43 nin0)
        have Ar153 : ArI Z T151.heap b14 .int 5 (g0_153 p0_0 p0_2 p0_3 p0_4 p0_5 JJ) := C148.keep K151 (ninS ne_b14_b43 nin0)
        have Ex154 : Exa Z T151.heap b32 "com/example/consigliere/consigliere/engine/Rng" := Ex144.keep K151
        have F155 : Fld Z T151.heap b32 "com/example/consigliere/consigliere/engine/Rng" "state" "J" (.long (own_sh JJ (own_k p0_1) p0_0 (g0_41 p0_2 p0_3 p0_4 p0_5)).1) := F145.keep K151 (ninS ne_b32_b43 nin0)
        have Ex156 : Exa Z T151.heap b43 "com/example/consigliere/consigliere/engine/Rng" := Ex146.keep K151
        have F157 : Fld Z T151.heap b43 "com/example/consigliere/consigliere/engine/Rng" "state" "J" (.long (w0_168_state p0_0 JJ)) := P151_0
        replace X151 : Stand p l e room_1 s m #[(.long p0_0), (.int p0_1), (.int p0_2), (.int p0_3), (.int p0_4), (.int p0_5)] below meth c T151 _ 4 12 := X151
        have pre151 : ∀ t, Steps p.tables e below (T151.setTop (mkF m 171 #[.val (.long p0_0), .second, .val (.int p0_1), .val (.int p0_2), .val (.int p0_3), .val (.int p0_4), .val (.int p0_5), .val (.int (v0_7 p0_1)), .val (.int (v0_13 p0_5)), .val (.ref b2), .val (.ref b14), .val (.ref b32), .val (.ref b43), .unset, .unset] [(.int (c0_168 p0_0 JJ)), (.int (1 : Int32)), (.ref b14)])) t → Steps p.tables e below (s₁.setTop (entryFrame m #[(.long p0_0), (.int p0_1), (.int p0_2), (.int p0_3), (.int p0_4), (.int p0_5)] maxLocals)) t := fun t k => pre150 t (st151.trans k)
        obtain ⟨_, _, ⟨T158, L158, k158, n158⟩, -, X158, ⟨Lc158, hQ158, l158, y158, z158⟩, st158⟩ := Jvm.LawKit.callS X151 hx (y := (⟨"com/example/consigliere/consigliere/engine/RngShufflePinLaw", "swap", "([III)V"⟩ : MethodName)) hown (mvT hZ (hw _ (List.mem_of_getElem? (i := 33) rfl))) (mvT hZ (hw _ (List.mem_of_getElem? (i := 34) rfl))) (mvT hZ (hw _ (List.mem_of_getElem? (i := 35) rfl))) (mvT hZ (hw _ (List.mem_of_getElem? (i := 36) rfl))) (by decide) (backOf (W := 0) (rm6 l Z a0 hw [] b14 (1 : Int32) (c0_168 p0_0 JJ) 1 (((c0_168 p0_0 JJ)).toNatClampNeg) 5 (g0_153 p0_0 p0_2 p0_3 p0_4 p0_5 JJ) T151.heap n0 Z151 (by decide) (by decide) ⟨(own_rb JJ hJ _ (2 : Int32) (by decide)).1, rfl⟩ (Nat.lt_of_lt_of_le (own_rb JJ hJ _ (2 : Int32) (by decide)).2 (by decide)) g_b14 Ar153) hZ (hw _ (List.mem_of_getElem? (i := 36) rfl)) (hw _ (List.mem_of_getElem? (i := 35) rfl)) (by decide) (by decide)) (g := (mkF m 171 #[.val (.long p0_0), .second, .val (.int p0_1), .val (.int p0_2), .val (.int p0_3), .val (.int p0_4), .val (.int p0_5), .val (.int (v0_7 p0_1)), .val (.int (v0_13 p0_5)), .val (.ref b2), .val (.ref b14), .val (.ref b32), .val (.ref b43), .unset, .unset] [(.int (c0_168 p0_0 JJ)), (.int (1 : Int32)), (.ref b14)])) rfl (by rw [hml]; rfl) (argsL := [(.ref b14), (.int (1 : Int32)), (.int (c0_168 p0_0 JJ))]) (rest := []) (lenOf pd_4 rfl) rfl (by show 2 * 0 + _ ≤ _; exact Nat.le_of_eq rfl) (hb hby at_171) (fun _ _ => ⟨rfl, rfl, (by decide : 4 + 0 ≤ _), (by decide : 12 + 0 ≤ _)⟩)
        dsimp only [Pt.U, Pt.locs, Pt.cells, Pt.slots] at X158 l158 y158 z158 st158 hQ158
        rw [l158, y158, z158] at X158
        obtain ⟨rfl, M158, K158c, P158_0⟩ := hQ158
        have N158 := Fr.app N151 M158
        have K158 : Keep T151.heap T158.heap [b14] := K158c
        have Z158 : n0 ≤ T158.heap.size := Nat.le_trans Z151 K158.1
        have Ar159 : ArI Z T158.heap b2 .int 5 (own_sh JJ (own_k p0_1) p0_0 (g0_41 p0_2 p0_3 p0_4 p0_5)).2 := Ar152.keep K158 (ninS ne_b2_b14 nin0)
        have Ex160 : Exa Z T158.heap b32 "com/example/consigliere/consigliere/engine/Rng" := Ex154.keep K158
        have F161 : Fld Z T158.heap b32 "com/example/consigliere/consigliere/engine/Rng" "state" "J" (.long (own_sh JJ (own_k p0_1) p0_0 (g0_41 p0_2 p0_3 p0_4 p0_5)).1) := F155.keep K158 (ninS (Ne.symm ne_b14_b32) nin0)
        have Ex162 : Exa Z T158.heap b43 "com/example/consigliere/consigliere/engine/Rng" := Ex156.keep K158
        have F163 : Fld Z T158.heap b43 "com/example/consigliere/consigliere/engine/Rng" "state" "J" (.long (w0_168_state p0_0 JJ)) := F157.keep K158 (ninS (Ne.symm ne_b14_b43) nin0)
        have C164 : ArI Z T158.heap b14 .int 5 (g0_171_1 p0_0 p0_2 p0_3 p0_4 p0_5 JJ) := P158_0
        replace X158 : Stand p l e room_1 s m #[(.long p0_0), (.int p0_1), (.int p0_2), (.int p0_3), (.int p0_4), (.int p0_5)] below meth c T158 _ 4 12 := X158
        have pre158 : ∀ t, Steps p.tables e below (T158.setTop (mkF m 174 #[.val (.long p0_0), .second, .val (.int p0_1), .val (.int p0_2), .val (.int p0_3), .val (.int p0_4), .val (.int p0_5), .val (.int (v0_7 p0_1)), .val (.int (v0_13 p0_5)), .val (.ref b2), .val (.ref b14), .val (.ref b32), .val (.ref b43), .unset, .unset] [])) t → Steps p.tables e below (s₁.setTop (entryFrame m #[(.long p0_0), (.int p0_1), (.int p0_2), (.int p0_3), (.int p0_4), (.int p0_5)] maxLocals)) t := fun t k => pre151 t (st158 t k)
        have pre170 : ∀ t, Steps p.tables e below (T158.setTop (mkF m 238 #[.val (.long p0_0), .second, .val (.int p0_1), .val (.int p0_2), .val (.int p0_3), .val (.int p0_4), .val (.int p0_5), .val (.int (v0_7 p0_1)), .val (.int (v0_13 p0_5)), .val (.ref b2), .val (.ref b14), .val (.ref b32), .val (.ref b43), .val (.int (1 : Int32)), .unset] [(.ref b32)])) t → Steps p.tables e below (s₁.setTop (entryFrame m #[(.long p0_0), (.int p0_1), (.int p0_2), (.int p0_3), (.int p0_4), (.int p0_5)] maxLocals)) t := fun t k => pre158 t (by
          refine XS.aload X158.here hx rfl (hb hby at_174) rfl rfl ?_
          show Steps p.tables e below (T158.setTop (mkF m 176 #[.val (.long p0_0), .second, .val (.int p0_1), .val (.int p0_2), .val (.int p0_3), .val (.int p0_4), .val (.int p0_5), .val (.int (v0_7 p0_1)), .val (.int (v0_13 p0_5)), .val (.ref b2), .val (.ref b14), .val (.ref b32), .val (.ref b43), .unset, .unset] [(.ref b2)])) _
          refine XS.iconst X158.here hx rfl (hb hby at_176) ?_
          show Steps p.tables e below (T158.setTop (mkF m 177 #[.val (.long p0_0), .second, .val (.int p0_1), .val (.int p0_2), .val (.int p0_3), .val (.int p0_4), .val (.int p0_5), .val (.int (v0_7 p0_1)), .val (.int (v0_13 p0_5)), .val (.ref b2), .val (.ref b14), .val (.ref b32), .val (.ref b43), .unset, .unset] [(.int (0 : Int32)), (.ref b2)])) _
          refine own_ldI X158 hx hZ rfl Ar159 (j := (0 : Int32)) (i := 0) (by decide) (by decide) (g := (mkF m 177 #[.val (.long p0_0), .second, .val (.int p0_1), .val (.int p0_2), .val (.int p0_3), .val (.int p0_4), .val (.int p0_5), .val (.int (v0_7 p0_1)), .val (.int (v0_13 p0_5)), .val (.ref b2), .val (.ref b14), .val (.ref b32), .val (.ref b43), .unset, .unset] [(.int (0 : Int32)), (.ref b2)])) rfl rfl (hb hby at_177) _ ?_
          show Steps p.tables e below (T158.setTop (mkF m 178 #[.val (.long p0_0), .second, .val (.int p0_1), .val (.int p0_2), .val (.int p0_3), .val (.int p0_4), .val (.int p0_5), .val (.int (v0_7 p0_1)), .val (.int (v0_13 p0_5)), .val (.ref b2), .val (.ref b14), .val (.ref b32), .val (.ref b43), .unset, .unset] [(.int ((own_sh JJ (own_k p0_1) p0_0 (g0_41 p0_2 p0_3 p0_4 p0_5)).2 0))])) _
          refine XS.aload X158.here hx rfl (hb hby at_178) rfl rfl ?_
          show Steps p.tables e below (T158.setTop (mkF m 180 #[.val (.long p0_0), .second, .val (.int p0_1), .val (.int p0_2), .val (.int p0_3), .val (.int p0_4), .val (.int p0_5), .val (.int (v0_7 p0_1)), .val (.int (v0_13 p0_5)), .val (.ref b2), .val (.ref b14), .val (.ref b32), .val (.ref b43), .unset, .unset] [(.ref b14), (.int ((own_sh JJ (own_k p0_1) p0_0 (g0_41 p0_2 p0_3 p0_4 p0_5)).2 0))])) _
          refine XS.iconst X158.here hx rfl (hb hby at_180) ?_
          show Steps p.tables e below (T158.setTop (mkF m 181 #[.val (.long p0_0), .second, .val (.int p0_1), .val (.int p0_2), .val (.int p0_3), .val (.int p0_4), .val (.int p0_5), .val (.int (v0_7 p0_1)), .val (.int (v0_13 p0_5)), .val (.ref b2), .val (.ref b14), .val (.ref b32), .val (.ref b43), .unset, .unset] [(.int (0 : Int32)), (.ref b14), (.int ((own_sh JJ (own_k p0_1) p0_0 (g0_41 p0_2 p0_3 p0_4 p0_5)).2 0))])) _
          refine own_ldI X158 hx hZ rfl C164 (j := (0 : Int32)) (i := 0) (by decide) (by decide) (g := (mkF m 181 #[.val (.long p0_0), .second, .val (.int p0_1), .val (.int p0_2), .val (.int p0_3), .val (.int p0_4), .val (.int p0_5), .val (.int (v0_7 p0_1)), .val (.int (v0_13 p0_5)), .val (.ref b2), .val (.ref b14), .val (.ref b32), .val (.ref b43), .unset, .unset] [(.int (0 : Int32)), (.ref b14), (.int ((own_sh JJ (own_k p0_1) p0_0 (g0_41 p0_2 p0_3 p0_4 p0_5)).2 0))])) rfl rfl (hb hby at_181) _ ?_
          show Steps p.tables e below (T158.setTop (mkF m 182 #[.val (.long p0_0), .second, .val (.int p0_1), .val (.int p0_2), .val (.int p0_3), .val (.int p0_4), .val (.int p0_5), .val (.int (v0_7 p0_1)), .val (.int (v0_13 p0_5)), .val (.ref b2), .val (.ref b14), .val (.ref b32), .val (.ref b43), .unset, .unset] [(.int ((g0_171_1 p0_0 p0_2 p0_3 p0_4 p0_5 JJ) 0)), (.int ((own_sh JJ (own_k p0_1) p0_0 (g0_41 p0_2 p0_3 p0_4 p0_5)).2 0))])) _
          refine XS.icmpNo X158.here hx rfl (hb hby at_182) rfl (teq (show ((own_sh JJ (own_k p0_1) p0_0 (g0_41 p0_2 p0_3 p0_4 p0_5)).2 0) = ((g0_171_1 p0_0 p0_2 p0_3 p0_4 p0_5 JJ) 0) from (congrFun (own_eq2 p0_0 p0_1 p0_2 p0_3 p0_4 p0_5 JJ hc105_66 hc123_68 hc141_70) 0))).2 ?_
          show Steps p.tables e below (T158.setTop (mkF m 185 #[.val (.long p0_0), .second, .val (.int p0_1), .val (.int p0_2), .val (.int p0_3), .val (.int p0_4), .val (.int p0_5), .val (.int (v0_7 p0_1)), .val (.int (v0_13 p0_5)), .val (.ref b2), .val (.ref b14), .val (.ref b32), .val (.ref b43), .unset, .unset] [])) _
          refine XS.aload X158.here hx rfl (hb hby at_185) rfl rfl ?_
          show Steps p.tables e below (T158.setTop (mkF m 187 #[.val (.long p0_0), .second, .val (.int p0_1), .val (.int p0_2), .val (.int p0_3), .val (.int p0_4), .val (.int p0_5), .val (.int (v0_7 p0_1)), .val (.int (v0_13 p0_5)), .val (.ref b2), .val (.ref b14), .val (.ref b32), .val (.ref b43), .unset, .unset] [(.ref b2)])) _
          refine XS.iconst X158.here hx rfl (hb hby at_187) ?_
          show Steps p.tables e below (T158.setTop (mkF m 188 #[.val (.long p0_0), .second, .val (.int p0_1), .val (.int p0_2), .val (.int p0_3), .val (.int p0_4), .val (.int p0_5), .val (.int (v0_7 p0_1)), .val (.int (v0_13 p0_5)), .val (.ref b2), .val (.ref b14), .val (.ref b32), .val (.ref b43), .unset, .unset] [(.int (1 : Int32)), (.ref b2)])) _
          refine own_ldI X158 hx hZ rfl Ar159 (j := (1 : Int32)) (i := 1) (by decide) (by decide) (g := (mkF m 188 #[.val (.long p0_0), .second, .val (.int p0_1), .val (.int p0_2), .val (.int p0_3), .val (.int p0_4), .val (.int p0_5), .val (.int (v0_7 p0_1)), .val (.int (v0_13 p0_5)), .val (.ref b2), .val (.ref b14), .val (.ref b32), .val (.ref b43), .unset, .unset] [(.int (1 : Int32)), (.ref b2)])) rfl rfl (hb hby at_188) _ ?_
          show Steps p.tables e below (T158.setTop (mkF m 189 #[.val (.long p0_0), .second, .val (.int p0_1), .val (.int p0_2), .val (.int p0_3), .val (.int p0_4), .val (.int p0_5), .val (.int (v0_7 p0_1)), .val (.int (v0_13 p0_5)), .val (.ref b2), .val (.ref b14), .val (.ref b32), .val (.ref b43), .unset, .unset] [(.int ((own_sh JJ (own_k p0_1) p0_0 (g0_41 p0_2 p0_3 p0_4 p0_5)).2 1))])) _
          refine XS.aload X158.here hx rfl (hb hby at_189) rfl rfl ?_
          show Steps p.tables e below (T158.setTop (mkF m 191 #[.val (.long p0_0), .second, .val (.int p0_1), .val (.int p0_2), .val (.int p0_3), .val (.int p0_4), .val (.int p0_5), .val (.int (v0_7 p0_1)), .val (.int (v0_13 p0_5)), .val (.ref b2), .val (.ref b14), .val (.ref b32), .val (.ref b43), .unset, .unset] [(.ref b14), (.int ((own_sh JJ (own_k p0_1) p0_0 (g0_41 p0_2 p0_3 p0_4 p0_5)).2 1))])) _
          refine XS.iconst X158.here hx rfl (hb hby at_191) ?_
          show Steps p.tables e below (T158.setTop (mkF m 192 #[.val (.long p0_0), .second, .val (.int p0_1), .val (.int p0_2), .val (.int p0_3), .val (.int p0_4), .val (.int p0_5), .val (.int (v0_7 p0_1)), .val (.int (v0_13 p0_5)), .val (.ref b2), .val (.ref b14), .val (.ref b32), .val (.ref b43), .unset, .unset] [(.int (1 : Int32)), (.ref b14), (.int ((own_sh JJ (own_k p0_1) p0_0 (g0_41 p0_2 p0_3 p0_4 p0_5)).2 1))])) _
          refine own_ldI X158 hx hZ rfl C164 (j := (1 : Int32)) (i := 1) (by decide) (by decide) (g := (mkF m 192 #[.val (.long p0_0), .second, .val (.int p0_1), .val (.int p0_2), .val (.int p0_3), .val (.int p0_4), .val (.int p0_5), .val (.int (v0_7 p0_1)), .val (.int (v0_13 p0_5)), .val (.ref b2), .val (.ref b14), .val (.ref b32), .val (.ref b43), .unset, .unset] [(.int (1 : Int32)), (.ref b14), (.int ((own_sh JJ (own_k p0_1) p0_0 (g0_41 p0_2 p0_3 p0_4 p0_5)).2 1))])) rfl rfl (hb hby at_192) _ ?_
          show Steps p.tables e below (T158.setTop (mkF m 193 #[.val (.long p0_0), .second, .val (.int p0_1), .val (.int p0_2), .val (.int p0_3), .val (.int p0_4), .val (.int p0_5), .val (.int (v0_7 p0_1)), .val (.int (v0_13 p0_5)), .val (.ref b2), .val (.ref b14), .val (.ref b32), .val (.ref b43), .unset, .unset] [(.int ((g0_171_1 p0_0 p0_2 p0_3 p0_4 p0_5 JJ) 1)), (.int ((own_sh JJ (own_k p0_1) p0_0 (g0_41 p0_2 p0_3 p0_4 p0_5)).2 1))])) _
          refine XS.icmpNo X158.here hx rfl (hb hby at_193) rfl (teq (show ((own_sh JJ (own_k p0_1) p0_0 (g0_41 p0_2 p0_3 p0_4 p0_5)).2 1) = ((g0_171_1 p0_0 p0_2 p0_3 p0_4 p0_5 JJ) 1) from (congrFun (own_eq2 p0_0 p0_1 p0_2 p0_3 p0_4 p0_5 JJ hc105_66 hc123_68 hc141_70) 1))).2 ?_
          show Steps p.tables e below (T158.setTop (mkF m 196 #[.val (.long p0_0), .second, .val (.int p0_1), .val (.int p0_2), .val (.int p0_3), .val (.int p0_4), .val (.int p0_5), .val (.int (v0_7 p0_1)), .val (.int (v0_13 p0_5)), .val (.ref b2), .val (.ref b14), .val (.ref b32), .val (.ref b43), .unset, .unset] [])) _
          refine XS.aload X158.here hx rfl (hb hby at_196) rfl rfl ?_
          show Steps p.tables e below (T158.setTop (mkF m 198 #[.val (.long p0_0), .second, .val (.int p0_1), .val (.int p0_2), .val (.int p0_3), .val (.int p0_4), .val (.int p0_5), .val (.int (v0_7 p0_1)), .val (.int (v0_13 p0_5)), .val (.ref b2), .val (.ref b14), .val (.ref b32), .val (.ref b43), .unset, .unset] [(.ref b2)])) _
          refine XS.iconst X158.here hx rfl (hb hby at_198) ?_
          show Steps p.tables e below (T158.setTop (mkF m 199 #[.val (.long p0_0), .second, .val (.int p0_1), .val (.int p0_2), .val (.int p0_3), .val (.int p0_4), .val (.int p0_5), .val (.int (v0_7 p0_1)), .val (.int (v0_13 p0_5)), .val (.ref b2), .val (.ref b14), .val (.ref b32), .val (.ref b43), .unset, .unset] [(.int (2 : Int32)), (.ref b2)])) _
          refine own_ldI X158 hx hZ rfl Ar159 (j := (2 : Int32)) (i := 2) (by decide) (by decide) (g := (mkF m 199 #[.val (.long p0_0), .second, .val (.int p0_1), .val (.int p0_2), .val (.int p0_3), .val (.int p0_4), .val (.int p0_5), .val (.int (v0_7 p0_1)), .val (.int (v0_13 p0_5)), .val (.ref b2), .val (.ref b14), .val (.ref b32), .val (.ref b43), .unset, .unset] [(.int (2 : Int32)), (.ref b2)])) rfl rfl (hb hby at_199) _ ?_
          show Steps p.tables e below (T158.setTop (mkF m 200 #[.val (.long p0_0), .second, .val (.int p0_1), .val (.int p0_2), .val (.int p0_3), .val (.int p0_4), .val (.int p0_5), .val (.int (v0_7 p0_1)), .val (.int (v0_13 p0_5)), .val (.ref b2), .val (.ref b14), .val (.ref b32), .val (.ref b43), .unset, .unset] [(.int ((own_sh JJ (own_k p0_1) p0_0 (g0_41 p0_2 p0_3 p0_4 p0_5)).2 2))])) _
          refine XS.aload X158.here hx rfl (hb hby at_200) rfl rfl ?_
          show Steps p.tables e below (T158.setTop (mkF m 202 #[.val (.long p0_0), .second, .val (.int p0_1), .val (.int p0_2), .val (.int p0_3), .val (.int p0_4), .val (.int p0_5), .val (.int (v0_7 p0_1)), .val (.int (v0_13 p0_5)), .val (.ref b2), .val (.ref b14), .val (.ref b32), .val (.ref b43), .unset, .unset] [(.ref b14), (.int ((own_sh JJ (own_k p0_1) p0_0 (g0_41 p0_2 p0_3 p0_4 p0_5)).2 2))])) _
          refine XS.iconst X158.here hx rfl (hb hby at_202) ?_
          show Steps p.tables e below (T158.setTop (mkF m 203 #[.val (.long p0_0), .second, .val (.int p0_1), .val (.int p0_2), .val (.int p0_3), .val (.int p0_4), .val (.int p0_5), .val (.int (v0_7 p0_1)), .val (.int (v0_13 p0_5)), .val (.ref b2), .val (.ref b14), .val (.ref b32), .val (.ref b43), .unset, .unset] [(.int (2 : Int32)), (.ref b14), (.int ((own_sh JJ (own_k p0_1) p0_0 (g0_41 p0_2 p0_3 p0_4 p0_5)).2 2))])) _
          refine own_ldI X158 hx hZ rfl C164 (j := (2 : Int32)) (i := 2) (by decide) (by decide) (g := (mkF m 203 #[.val (.long p0_0), .second, .val (.int p0_1), .val (.int p0_2), .val (.int p0_3), .val (.int p0_4), .val (.int p0_5), .val (.int (v0_7 p0_1)), .val (.int (v0_13 p0_5)), .val (.ref b2), .val (.ref b14), .val (.ref b32), .val (.ref b43), .unset, .unset] [(.int (2 : Int32)), (.ref b14), (.int ((own_sh JJ (own_k p0_1) p0_0 (g0_41 p0_2 p0_3 p0_4 p0_5)).2 2))])) rfl rfl (hb hby at_203) _ ?_
          show Steps p.tables e below (T158.setTop (mkF m 204 #[.val (.long p0_0), .second, .val (.int p0_1), .val (.int p0_2), .val (.int p0_3), .val (.int p0_4), .val (.int p0_5), .val (.int (v0_7 p0_1)), .val (.int (v0_13 p0_5)), .val (.ref b2), .val (.ref b14), .val (.ref b32), .val (.ref b43), .unset, .unset] [(.int ((g0_171_1 p0_0 p0_2 p0_3 p0_4 p0_5 JJ) 2)), (.int ((own_sh JJ (own_k p0_1) p0_0 (g0_41 p0_2 p0_3 p0_4 p0_5)).2 2))])) _
          refine XS.icmpNo X158.here hx rfl (hb hby at_204) rfl (teq (show ((own_sh JJ (own_k p0_1) p0_0 (g0_41 p0_2 p0_3 p0_4 p0_5)).2 2) = ((g0_171_1 p0_0 p0_2 p0_3 p0_4 p0_5 JJ) 2) from (congrFun (own_eq2 p0_0 p0_1 p0_2 p0_3 p0_4 p0_5 JJ hc105_66 hc123_68 hc141_70) 2))).2 ?_
          show Steps p.tables e below (T158.setTop (mkF m 207 #[.val (.long p0_0), .second, .val (.int p0_1), .val (.int p0_2), .val (.int p0_3), .val (.int p0_4), .val (.int p0_5), .val (.int (v0_7 p0_1)), .val (.int (v0_13 p0_5)), .val (.ref b2), .val (.ref b14), .val (.ref b32), .val (.ref b43), .unset, .unset] [])) _
          refine XS.aload X158.here hx rfl (hb hby at_207) rfl rfl ?_
          show Steps p.tables e below (T158.setTop (mkF m 209 #[.val (.long p0_0), .second, .val (.int p0_1), .val (.int p0_2), .val (.int p0_3), .val (.int p0_4), .val (.int p0_5), .val (.int (v0_7 p0_1)), .val (.int (v0_13 p0_5)), .val (.ref b2), .val (.ref b14), .val (.ref b32), .val (.ref b43), .unset, .unset] [(.ref b2)])) _
          refine XS.iconst X158.here hx rfl (hb hby at_209) ?_
          show Steps p.tables e below (T158.setTop (mkF m 210 #[.val (.long p0_0), .second, .val (.int p0_1), .val (.int p0_2), .val (.int p0_3), .val (.int p0_4), .val (.int p0_5), .val (.int (v0_7 p0_1)), .val (.int (v0_13 p0_5)), .val (.ref b2), .val (.ref b14), .val (.ref b32), .val (.ref b43), .unset, .unset] [(.int (3 : Int32)), (.ref b2)])) _
          refine own_ldI X158 hx hZ rfl Ar159 (j := (3 : Int32)) (i := 3) (by decide) (by decide) (g := (mkF m 210 #[.val (.long p0_0), .second, .val (.int p0_1), .val (.int p0_2), .val (.int p0_3), .val (.int p0_4), .val (.int p0_5), .val (.int (v0_7 p0_1)), .val (.int (v0_13 p0_5)), .val (.ref b2), .val (.ref b14), .val (.ref b32), .val (.ref b43), .unset, .unset] [(.int (3 : Int32)), (.ref b2)])) rfl rfl (hb hby at_210) _ ?_
          show Steps p.tables e below (T158.setTop (mkF m 211 #[.val (.long p0_0), .second, .val (.int p0_1), .val (.int p0_2), .val (.int p0_3), .val (.int p0_4), .val (.int p0_5), .val (.int (v0_7 p0_1)), .val (.int (v0_13 p0_5)), .val (.ref b2), .val (.ref b14), .val (.ref b32), .val (.ref b43), .unset, .unset] [(.int ((own_sh JJ (own_k p0_1) p0_0 (g0_41 p0_2 p0_3 p0_4 p0_5)).2 3))])) _
          refine XS.aload X158.here hx rfl (hb hby at_211) rfl rfl ?_
          show Steps p.tables e below (T158.setTop (mkF m 213 #[.val (.long p0_0), .second, .val (.int p0_1), .val (.int p0_2), .val (.int p0_3), .val (.int p0_4), .val (.int p0_5), .val (.int (v0_7 p0_1)), .val (.int (v0_13 p0_5)), .val (.ref b2), .val (.ref b14), .val (.ref b32), .val (.ref b43), .unset, .unset] [(.ref b14), (.int ((own_sh JJ (own_k p0_1) p0_0 (g0_41 p0_2 p0_3 p0_4 p0_5)).2 3))])) _
          refine XS.iconst X158.here hx rfl (hb hby at_213) ?_
          show Steps p.tables e below (T158.setTop (mkF m 214 #[.val (.long p0_0), .second, .val (.int p0_1), .val (.int p0_2), .val (.int p0_3), .val (.int p0_4), .val (.int p0_5), .val (.int (v0_7 p0_1)), .val (.int (v0_13 p0_5)), .val (.ref b2), .val (.ref b14), .val (.ref b32), .val (.ref b43), .unset, .unset] [(.int (3 : Int32)), (.ref b14), (.int ((own_sh JJ (own_k p0_1) p0_0 (g0_41 p0_2 p0_3 p0_4 p0_5)).2 3))])) _
          refine own_ldI X158 hx hZ rfl C164 (j := (3 : Int32)) (i := 3) (by decide) (by decide) (g := (mkF m 214 #[.val (.long p0_0), .second, .val (.int p0_1), .val (.int p0_2), .val (.int p0_3), .val (.int p0_4), .val (.int p0_5), .val (.int (v0_7 p0_1)), .val (.int (v0_13 p0_5)), .val (.ref b2), .val (.ref b14), .val (.ref b32), .val (.ref b43), .unset, .unset] [(.int (3 : Int32)), (.ref b14), (.int ((own_sh JJ (own_k p0_1) p0_0 (g0_41 p0_2 p0_3 p0_4 p0_5)).2 3))])) rfl rfl (hb hby at_214) _ ?_
          show Steps p.tables e below (T158.setTop (mkF m 215 #[.val (.long p0_0), .second, .val (.int p0_1), .val (.int p0_2), .val (.int p0_3), .val (.int p0_4), .val (.int p0_5), .val (.int (v0_7 p0_1)), .val (.int (v0_13 p0_5)), .val (.ref b2), .val (.ref b14), .val (.ref b32), .val (.ref b43), .unset, .unset] [(.int ((g0_171_1 p0_0 p0_2 p0_3 p0_4 p0_5 JJ) 3)), (.int ((own_sh JJ (own_k p0_1) p0_0 (g0_41 p0_2 p0_3 p0_4 p0_5)).2 3))])) _
          refine XS.icmpNo X158.here hx rfl (hb hby at_215) rfl (teq (show ((own_sh JJ (own_k p0_1) p0_0 (g0_41 p0_2 p0_3 p0_4 p0_5)).2 3) = ((g0_171_1 p0_0 p0_2 p0_3 p0_4 p0_5 JJ) 3) from (congrFun (own_eq2 p0_0 p0_1 p0_2 p0_3 p0_4 p0_5 JJ hc105_66 hc123_68 hc141_70) 3))).2 ?_
          show Steps p.tables e below (T158.setTop (mkF m 218 #[.val (.long p0_0), .second, .val (.int p0_1), .val (.int p0_2), .val (.int p0_3), .val (.int p0_4), .val (.int p0_5), .val (.int (v0_7 p0_1)), .val (.int (v0_13 p0_5)), .val (.ref b2), .val (.ref b14), .val (.ref b32), .val (.ref b43), .unset, .unset] [])) _
          refine XS.aload X158.here hx rfl (hb hby at_218) rfl rfl ?_
          show Steps p.tables e below (T158.setTop (mkF m 220 #[.val (.long p0_0), .second, .val (.int p0_1), .val (.int p0_2), .val (.int p0_3), .val (.int p0_4), .val (.int p0_5), .val (.int (v0_7 p0_1)), .val (.int (v0_13 p0_5)), .val (.ref b2), .val (.ref b14), .val (.ref b32), .val (.ref b43), .unset, .unset] [(.ref b2)])) _
          refine XS.iconst X158.here hx rfl (hb hby at_220) ?_
          show Steps p.tables e below (T158.setTop (mkF m 221 #[.val (.long p0_0), .second, .val (.int p0_1), .val (.int p0_2), .val (.int p0_3), .val (.int p0_4), .val (.int p0_5), .val (.int (v0_7 p0_1)), .val (.int (v0_13 p0_5)), .val (.ref b2), .val (.ref b14), .val (.ref b32), .val (.ref b43), .unset, .unset] [(.int (4 : Int32)), (.ref b2)])) _
          refine own_ldI X158 hx hZ rfl Ar159 (j := (4 : Int32)) (i := 4) (by decide) (by decide) (g := (mkF m 221 #[.val (.long p0_0), .second, .val (.int p0_1), .val (.int p0_2), .val (.int p0_3), .val (.int p0_4), .val (.int p0_5), .val (.int (v0_7 p0_1)), .val (.int (v0_13 p0_5)), .val (.ref b2), .val (.ref b14), .val (.ref b32), .val (.ref b43), .unset, .unset] [(.int (4 : Int32)), (.ref b2)])) rfl rfl (hb hby at_221) _ ?_
          show Steps p.tables e below (T158.setTop (mkF m 222 #[.val (.long p0_0), .second, .val (.int p0_1), .val (.int p0_2), .val (.int p0_3), .val (.int p0_4), .val (.int p0_5), .val (.int (v0_7 p0_1)), .val (.int (v0_13 p0_5)), .val (.ref b2), .val (.ref b14), .val (.ref b32), .val (.ref b43), .unset, .unset] [(.int ((own_sh JJ (own_k p0_1) p0_0 (g0_41 p0_2 p0_3 p0_4 p0_5)).2 4))])) _
          refine XS.aload X158.here hx rfl (hb hby at_222) rfl rfl ?_
          show Steps p.tables e below (T158.setTop (mkF m 224 #[.val (.long p0_0), .second, .val (.int p0_1), .val (.int p0_2), .val (.int p0_3), .val (.int p0_4), .val (.int p0_5), .val (.int (v0_7 p0_1)), .val (.int (v0_13 p0_5)), .val (.ref b2), .val (.ref b14), .val (.ref b32), .val (.ref b43), .unset, .unset] [(.ref b14), (.int ((own_sh JJ (own_k p0_1) p0_0 (g0_41 p0_2 p0_3 p0_4 p0_5)).2 4))])) _
          refine XS.iconst X158.here hx rfl (hb hby at_224) ?_
          show Steps p.tables e below (T158.setTop (mkF m 225 #[.val (.long p0_0), .second, .val (.int p0_1), .val (.int p0_2), .val (.int p0_3), .val (.int p0_4), .val (.int p0_5), .val (.int (v0_7 p0_1)), .val (.int (v0_13 p0_5)), .val (.ref b2), .val (.ref b14), .val (.ref b32), .val (.ref b43), .unset, .unset] [(.int (4 : Int32)), (.ref b14), (.int ((own_sh JJ (own_k p0_1) p0_0 (g0_41 p0_2 p0_3 p0_4 p0_5)).2 4))])) _
          refine own_ldI X158 hx hZ rfl C164 (j := (4 : Int32)) (i := 4) (by decide) (by decide) (g := (mkF m 225 #[.val (.long p0_0), .second, .val (.int p0_1), .val (.int p0_2), .val (.int p0_3), .val (.int p0_4), .val (.int p0_5), .val (.int (v0_7 p0_1)), .val (.int (v0_13 p0_5)), .val (.ref b2), .val (.ref b14), .val (.ref b32), .val (.ref b43), .unset, .unset] [(.int (4 : Int32)), (.ref b14), (.int ((own_sh JJ (own_k p0_1) p0_0 (g0_41 p0_2 p0_3 p0_4 p0_5)).2 4))])) rfl rfl (hb hby at_225) _ ?_
          show Steps p.tables e below (T158.setTop (mkF m 226 #[.val (.long p0_0), .second, .val (.int p0_1), .val (.int p0_2), .val (.int p0_3), .val (.int p0_4), .val (.int p0_5), .val (.int (v0_7 p0_1)), .val (.int (v0_13 p0_5)), .val (.ref b2), .val (.ref b14), .val (.ref b32), .val (.ref b43), .unset, .unset] [(.int ((g0_171_1 p0_0 p0_2 p0_3 p0_4 p0_5 JJ) 4)), (.int ((own_sh JJ (own_k p0_1) p0_0 (g0_41 p0_2 p0_3 p0_4 p0_5)).2 4))])) _
          refine XS.icmpNo X158.here hx rfl (hb hby at_226) rfl (teq (show ((own_sh JJ (own_k p0_1) p0_0 (g0_41 p0_2 p0_3 p0_4 p0_5)).2 4) = ((g0_171_1 p0_0 p0_2 p0_3 p0_4 p0_5 JJ) 4) from (congrFun (own_eq2 p0_0 p0_1 p0_2 p0_3 p0_4 p0_5 JJ hc105_66 hc123_68 hc141_70) 4))).2 ?_
          show Steps p.tables e below (T158.setTop (mkF m 229 #[.val (.long p0_0), .second, .val (.int p0_1), .val (.int p0_2), .val (.int p0_3), .val (.int p0_4), .val (.int p0_5), .val (.int (v0_7 p0_1)), .val (.int (v0_13 p0_5)), .val (.ref b2), .val (.ref b14), .val (.ref b32), .val (.ref b43), .unset, .unset] [])) _
          refine XS.iconst X158.here hx rfl (hb hby at_229) ?_
          show Steps p.tables e below (T158.setTop (mkF m 230 #[.val (.long p0_0), .second, .val (.int p0_1), .val (.int p0_2), .val (.int p0_3), .val (.int p0_4), .val (.int p0_5), .val (.int (v0_7 p0_1)), .val (.int (v0_13 p0_5)), .val (.ref b2), .val (.ref b14), .val (.ref b32), .val (.ref b43), .unset, .unset] [(.int (1 : Int32))])) _
          refine XS.goto X158.here hx rfl (pc0 := 230) (pc' := 234) rfl (hb hby at_230) (by decide) (by decide) ?_
          show Steps p.tables e below (T158.setTop (mkF m 234 #[.val (.long p0_0), .second, .val (.int p0_1), .val (.int p0_2), .val (.int p0_3), .val (.int p0_4), .val (.int p0_5), .val (.int (v0_7 p0_1)), .val (.int (v0_13 p0_5)), .val (.ref b2), .val (.ref b14), .val (.ref b32), .val (.ref b43), .unset, .unset] [(.int (1 : Int32))])) _
          refine XS.istore X158.here hx rfl (hb hby at_234) rfl (l' := #[.val (.long p0_0), .second, .val (.int p0_1), .val (.int p0_2), .val (.int p0_3), .val (.int p0_4), .val (.int p0_5), .val (.int (v0_7 p0_1)), .val (.int (v0_13 p0_5)), .val (.ref b2), .val (.ref b14), .val (.ref b32), .val (.ref b43), .val (.int (1 : Int32)), .unset]) rfl ?_
          show Steps p.tables e below (T158.setTop (mkF m 236 #[.val (.long p0_0), .second, .val (.int p0_1), .val (.int p0_2), .val (.int p0_3), .val (.int p0_4), .val (.int p0_5), .val (.int (v0_7 p0_1)), .val (.int (v0_13 p0_5)), .val (.ref b2), .val (.ref b14), .val (.ref b32), .val (.ref b43), .val (.int (1 : Int32)), .unset] [])) _
          refine XS.aload X158.here hx rfl (hb hby at_236) rfl rfl ?_
          show Steps p.tables e below (T158.setTop (mkF m 238 #[.val (.long p0_0), .second, .val (.int p0_1), .val (.int p0_2), .val (.int p0_3), .val (.int p0_4), .val (.int p0_5), .val (.int (v0_7 p0_1)), .val (.int (v0_13 p0_5)), .val (.ref b2), .val (.ref b14), .val (.ref b32), .val (.ref b43), .val (.int (1 : Int32)), .unset] [(.ref b32)])) _
          exact k)
        obtain ⟨cq171, kq171, qa171, qb171, qc171⟩ := isOf hZ rfl Ex160
        obtain ⟨_, _, ⟨T171, L171, k171, n171⟩, -, X171, ⟨Lc171, hQ171, l171, y171, z171⟩, st171⟩ := X158.virtualBack hx (y := (⟨"com/example/consigliere/consigliere/engine/Rng", "nextLong", "()J"⟩ : MethodName)) (z := (⟨"com/example/consigliere/consigliere/engine/Rng", "nextLong", "()J"⟩ : MethodName)) hown (mvT hZ (hw _ (List.mem_of_getElem? (i := 37) rfl))) (mvT hZ (hw _ (List.mem_of_getElem? (i := 25) rfl))) (notFace_of_selects (args := #[]) (mvT hZ (hw _ (List.mem_of_getElem? (i := 27) rfl)))) (mvT hZ (hw _ (List.mem_of_getElem? (i := 27) rfl))) (mvT hZ (hw _ (List.mem_of_getElem? (i := 26) rfl))) (by decide) (backOf (W := 0) (rm5 l Z a0 hw [] b32 (own_sh JJ (own_k p0_1) p0_0 (g0_41 p0_2 p0_3 p0_4 p0_5)).1 T158.heap n0 Z158 Ex160 F161 g_b32) hZ (hw _ (List.mem_of_getElem? (i := 28) rfl)) (hw _ (List.mem_of_getElem? (i := 4) rfl)) (by decide) (by decide)) qa171 qc171 (g := (mkF m 238 #[.val (.long p0_0), .second, .val (.int p0_1), .val (.int p0_2), .val (.int p0_3), .val (.int p0_4), .val (.int p0_5), .val (.int (v0_7 p0_1)), .val (.int (v0_13 p0_5)), .val (.ref b2), .val (.ref b14), .val (.ref b32), .val (.ref b43), .val (.int (1 : Int32)), .unset] [(.ref b32)])) rfl (by rw [hml]; rfl) (Steps.refl _) (argsL := []) (rest := []) (lenOf pd_0 rfl) rfl (by show 2 * 0 + _ ≤ _; exact Nat.le_of_eq rfl) (hb hby at_238) (fun _ _ => ⟨rfl, rfl, (by decide : 4 + 0 ≤ _), (by decide : 12 + 0 ≤ _)⟩)
        dsimp only [Pt.U, Pt.locs, Pt.cells, Pt.slots] at X171 l171 y171 z171 st171 hQ171
        rw [l171, y171, z171] at X171
        obtain ⟨rfl, M171, K171c, P171_0⟩ := hQ171
        have N171 := Fr.app N158 M171
        have K171 : Keep T158.heap T171.heap [b32] := K171c
        have Z171 : n0 ≤ T171.heap.size := Nat.le_trans Z158 K171.1
        have Ar172 : ArI Z T171.heap b2 .int 5 (own_sh JJ (own_k p0_1) p0_0 (g0_41 p0_2 p0_3 p0_4 p0_5)).2 := Ar159.keep K171 (ninS ne_b2_b32 nin0)
        have Ar173 : ArI Z T171.heap b14 .int 5 (g0_171_1 p0_0 p0_2 p0_3 p0_4 p0_5 JJ) := C164.keep K171 (ninS ne_b14_b32 nin0)
        have Ex174 : Exa Z T171.heap b32 "com/example/consigliere/consigliere/engine/Rng" := Ex160.keep K171
        have Ex175 : Exa Z T171.heap b43 "com/example/consigliere/consigliere/engine/Rng" := Ex162.keep K171
        have F176 : Fld Z T171.heap b43 "com/example/consigliere/consigliere/engine/Rng" "state" "J" (.long (w0_168_state p0_0 JJ)) := F163.keep K171 (ninS (Ne.symm ne_b32_b43) nin0)
        have F177 : Fld Z T171.heap b32 "com/example/consigliere/consigliere/engine/Rng" "state" "J" (.long (w0_238_state_2 p0_0 p0_1 p0_2 p0_3 p0_4 p0_5 JJ)) := P171_0
        replace X171 : Stand p l e room_1 s m #[(.long p0_0), (.int p0_1), (.int p0_2), (.int p0_3), (.int p0_4), (.int p0_5)] below meth c T171 _ 4 12 := X171
        have pre171 : ∀ t, Steps p.tables e below (T171.setTop (mkF m 241 #[.val (.long p0_0), .second, .val (.int p0_1), .val (.int p0_2), .val (.int p0_3), .val (.int p0_4), .val (.int p0_5), .val (.int (v0_7 p0_1)), .val (.int (v0_13 p0_5)), .val (.ref b2), .val (.ref b14), .val (.ref b32), .val (.ref b43), .val (.int (1 : Int32)), .unset] [(.long (c0_238_2 p0_0 p0_1 p0_2 p0_3 p0_4 p0_5 JJ))])) t → Steps p.tables e below (s₁.setTop (entryFrame m #[(.long p0_0), (.int p0_1), (.int p0_2), (.int p0_3), (.int p0_4), (.int p0_5)] maxLocals)) t := fun t k => pre170 t (st171.trans k)
        have pre178 : ∀ t, Steps p.tables e below (T171.setTop (mkF m 243 #[.val (.long p0_0), .second, .val (.int p0_1), .val (.int p0_2), .val (.int p0_3), .val (.int p0_4), .val (.int p0_5), .val (.int (v0_7 p0_1)), .val (.int (v0_13 p0_5)), .val (.ref b2), .val (.ref b14), .val (.ref b32), .val (.ref b43), .val (.int (1 : Int32)), .unset] [(.ref b43), (.long (c0_238_2 p0_0 p0_1 p0_2 p0_3 p0_4 p0_5 JJ))])) t → Steps p.tables e below (s₁.setTop (entryFrame m #[(.long p0_0), (.int p0_1), (.int p0_2), (.int p0_3), (.int p0_4), (.int p0_5)] maxLocals)) t := fun t k => pre171 t (by
          refine XS.aload X171.here hx rfl (hb hby at_241) rfl rfl ?_
          show Steps p.tables e below (T171.setTop (mkF m 243 #[.val (.long p0_0), .second, .val (.int p0_1), .val (.int p0_2), .val (.int p0_3), .val (.int p0_4), .val (.int p0_5), .val (.int (v0_7 p0_1)), .val (.int (v0_13 p0_5)), .val (.ref b2), .val (.ref b14), .val (.ref b32), .val (.ref b43), .val (.int (1 : Int32)), .unset] [(.ref b43), (.long (c0_238_2 p0_0 p0_1 p0_2 p0_3 p0_4 p0_5 JJ))])) _
          exact k)
        obtain ⟨cq179, kq179, qa179, qb179, qc179⟩ := isOf hZ rfl Ex175
        obtain ⟨_, _, ⟨T179, L179, k179, n179⟩, -, X179, ⟨Lc179, hQ179, l179, y179, z179⟩, st179⟩ := X171.virtualBack hx (y := (⟨"com/example/consigliere/consigliere/engine/Rng", "nextLong", "()J"⟩ : MethodName)) (z := (⟨"com/example/consigliere/consigliere/engine/Rng", "nextLong", "()J"⟩ : MethodName)) hown (mvT hZ (hw _ (List.mem_of_getElem? (i := 37) rfl))) (mvT hZ (hw _ (List.mem_of_getElem? (i := 25) rfl))) (notFace_of_selects (args := #[]) (mvT hZ (hw _ (List.mem_of_getElem? (i := 27) rfl)))) (mvT hZ (hw _ (List.mem_of_getElem? (i := 27) rfl))) (mvT hZ (hw _ (List.mem_of_getElem? (i := 26) rfl))) (by decide) (backOf (W := 2) (rm5 l Z a0 hw [] b43 (w0_168_state p0_0 JJ) T171.heap n0 Z171 Ex175 F176 g_b43) hZ (hw _ (List.mem_of_getElem? (i := 28) rfl)) (hw _ (List.mem_of_getElem? (i := 4) rfl)) (by decide) (by decide)) qa179 qc179 (g := (mkF m 243 #[.val (.long p0_0), .second, .val (.int p0_1), .val (.int p0_2), .val (.int p0_3), .val (.int p0_4), .val (.int p0_5), .val (.int (v0_7 p0_1)), .val (.int (v0_13 p0_5)), .val (.ref b2), .val (.ref b14), .val (.ref b32), .val (.ref b43), .val (.int (1 : Int32)), .unset] [(.ref b43), (.long (c0_238_2 p0_0 p0_1 p0_2 p0_3 p0_4 p0_5 JJ))])) rfl (by rw [hml]; rfl) (Steps.refl _) (argsL := []) (rest := [(.long (c0_238_2 p0_0 p0_1 p0_2 p0_3 p0_4 p0_5 JJ))]) (lenOf pd_0 rfl) rfl (by show 2 * 0 + _ ≤ _; exact Nat.le_of_eq rfl) (hb hby at_243) (fun _ _ => ⟨rfl, rfl, (by decide : 4 + 0 ≤ _), (by decide : 12 + 0 ≤ _)⟩)
        dsimp only [Pt.U, Pt.locs, Pt.cells, Pt.slots] at X179 l179 y179 z179 st179 hQ179
        rw [l179, y179, z179] at X179
        obtain ⟨rfl, M179, K179c, P179_0⟩ := hQ179
        have N179 := Fr.app N171 M179
        have K179 : Keep T171.heap T179.heap [b43] := K179c
        have Z179 : n0 ≤ T179.heap.size := Nat.le_trans Z171 K179.1
        have Ar180 : ArI Z T179.heap b2 .int 5 (own_sh JJ (own_k p0_1) p0_0 (g0_41 p0_2 p0_3 p0_4 p0_5)).2 := Ar172.keep K179 (ninS ne_b2_b43 nin0)
        have Ar181 : ArI Z T179.heap b14 .int 5 (g0_171_1 p0_0 p0_2 p0_3 p0_4 p0_5 JJ) := Ar173.keep K179 (ninS ne_b14_b43 nin0)
        have Ex182 : Exa Z T179.heap b32 "com/example/consigliere/consigliere/engine/Rng" := Ex174.keep K179
        have F183 : Fld Z T179.heap b32 "com/example/consigliere/consigliere/engine/Rng" "state" "J" (.long (w0_238_state_2 p0_0 p0_1 p0_2 p0_3 p0_4 p0_5 JJ)) := F177.keep K179 (ninS ne_b32_b43 nin0)
        have Ex184 : Exa Z T179.heap b43 "com/example/consigliere/consigliere/engine/Rng" := Ex175.keep K179
        have F185 : Fld Z T179.heap b43 "com/example/consigliere/consigliere/engine/Rng" "state" "J" (.long (v5_9 (w0_168_state p0_0 JJ))) := P179_0
        replace X179 : Stand p l e room_1 s m #[(.long p0_0), (.int p0_1), (.int p0_2), (.int p0_3), (.int p0_4), (.int p0_5)] below meth c T179 _ 4 12 := X179
        have pre179 : ∀ t, Steps p.tables e below (T179.setTop (mkF m 246 #[.val (.long p0_0), .second, .val (.int p0_1), .val (.int p0_2), .val (.int p0_3), .val (.int p0_4), .val (.int p0_5), .val (.int (v0_7 p0_1)), .val (.int (v0_13 p0_5)), .val (.ref b2), .val (.ref b14), .val (.ref b32), .val (.ref b43), .val (.int (1 : Int32)), .unset] [(.long (r5 (w0_168_state p0_0 JJ))), (.long (c0_238_2 p0_0 p0_1 p0_2 p0_3 p0_4 p0_5 JJ))])) t → Steps p.tables e below (s₁.setTop (entryFrame m #[(.long p0_0), (.int p0_1), (.int p0_2), (.int p0_3), (.int p0_4), (.int p0_5)] maxLocals)) t := fun t k => pre178 t (st179.trans k)
        have pre187 : ∀ t, Steps p.tables e below (T179.setTop (mkF m 272 #[.val (.long p0_0), .second, .val (.int p0_1), .val (.int p0_2), .val (.int p0_3), .val (.int p0_4), .val (.int p0_5), .val (.int (v0_7 p0_1)), .val (.int (v0_13 p0_5)), .val (.ref b2), .val (.ref b14), .val (.ref b32), .val (.ref b43), .val (.int (1 : Int32)), .val (.int (1 : Int32))] [(.int (1 : Int32))])) t → Steps p.tables e below (s₁.setTop (entryFrame m #[(.long p0_0), (.int p0_1), (.int p0_2), (.int p0_3), (.int p0_4), (.int p0_5)] maxLocals)) t := fun t k => pre179 t (by
          refine XS.lcmp X179.here hx rfl (hb hby at_246) rfl ?_
          show Steps p.tables e below (T179.setTop (mkF m 247 #[.val (.long p0_0), .second, .val (.int p0_1), .val (.int p0_2), .val (.int p0_3), .val (.int p0_4), .val (.int p0_5), .val (.int (v0_7 p0_1)), .val (.int (v0_13 p0_5)), .val (.ref b2), .val (.ref b14), .val (.ref b32), .val (.ref b43), .val (.int (1 : Int32)), .unset] [(.int (lcmpW (c0_238_2 p0_0 p0_1 p0_2 p0_3 p0_4 p0_5 JJ) (r5 (w0_168_state p0_0 JJ))))])) _
          refine XS.ifNo X179.here hx rfl (hb hby at_247) rfl ((if0 _ _).trans (teq ((lw_eq (c0_238_2 p0_0 p0_1 p0_2 p0_3 p0_4 p0_5 JJ) (r5 (w0_168_state p0_0 JJ))).mpr (show (c0_238_2 p0_0 p0_1 p0_2 p0_3 p0_4 p0_5 JJ) = (r5 (w0_168_state p0_0 JJ)) from (congrArg r5 (own_s2 p0_0 p0_1 p0_2 p0_3 p0_4 p0_5 JJ hc105_66 hc123_68 hc141_70))))).2) ?_
          show Steps p.tables e below (T179.setTop (mkF m 250 #[.val (.long p0_0), .second, .val (.int p0_1), .val (.int p0_2), .val (.int p0_3), .val (.int p0_4), .val (.int p0_5), .val (.int (v0_7 p0_1)), .val (.int (v0_13 p0_5)), .val (.ref b2), .val (.ref b14), .val (.ref b32), .val (.ref b43), .val (.int (1 : Int32)), .unset] [])) _
          refine XS.iconst X179.here hx rfl (hb hby at_250) ?_
          show Steps p.tables e below (T179.setTop (mkF m 251 #[.val (.long p0_0), .second, .val (.int p0_1), .val (.int p0_2), .val (.int p0_3), .val (.int p0_4), .val (.int p0_5), .val (.int (v0_7 p0_1)), .val (.int (v0_13 p0_5)), .val (.ref b2), .val (.ref b14), .val (.ref b32), .val (.ref b43), .val (.int (1 : Int32)), .unset] [(.int (1 : Int32))])) _
          refine XS.goto X179.here hx rfl (pc0 := 251) (pc' := 255) rfl (hb hby at_251) (by decide) (by decide) ?_
          show Steps p.tables e below (T179.setTop (mkF m 255 #[.val (.long p0_0), .second, .val (.int p0_1), .val (.int p0_2), .val (.int p0_3), .val (.int p0_4), .val (.int p0_5), .val (.int (v0_7 p0_1)), .val (.int (v0_13 p0_5)), .val (.ref b2), .val (.ref b14), .val (.ref b32), .val (.ref b43), .val (.int (1 : Int32)), .unset] [(.int (1 : Int32))])) _
          refine XS.istore X179.here hx rfl (hb hby at_255) rfl (l' := #[.val (.long p0_0), .second, .val (.int p0_1), .val (.int p0_2), .val (.int p0_3), .val (.int p0_4), .val (.int p0_5), .val (.int (v0_7 p0_1)), .val (.int (v0_13 p0_5)), .val (.ref b2), .val (.ref b14), .val (.ref b32), .val (.ref b43), .val (.int (1 : Int32)), .val (.int (1 : Int32))]) rfl ?_
          show Steps p.tables e below (T179.setTop (mkF m 257 #[.val (.long p0_0), .second, .val (.int p0_1), .val (.int p0_2), .val (.int p0_3), .val (.int p0_4), .val (.int p0_5), .val (.int (v0_7 p0_1)), .val (.int (v0_13 p0_5)), .val (.ref b2), .val (.ref b14), .val (.ref b32), .val (.ref b43), .val (.int (1 : Int32)), .val (.int (1 : Int32))] [])) _
          refine XS.iload X179.here hx rfl (hb hby at_257) rfl ?_
          show Steps p.tables e below (T179.setTop (mkF m 259 #[.val (.long p0_0), .second, .val (.int p0_1), .val (.int p0_2), .val (.int p0_3), .val (.int p0_4), .val (.int p0_5), .val (.int (v0_7 p0_1)), .val (.int (v0_13 p0_5)), .val (.ref b2), .val (.ref b14), .val (.ref b32), .val (.ref b43), .val (.int (1 : Int32)), .val (.int (1 : Int32))] [(.int (1 : Int32))])) _
          refine XS.ifNo X179.here hx rfl (hb hby at_259) rfl ((if0 _ _).trans (feq (by decide : ¬ ((1 : Int32) = (0 : Int32)))).1) ?_
          show Steps p.tables e below (T179.setTop (mkF m 262 #[.val (.long p0_0), .second, .val (.int p0_1), .val (.int p0_2), .val (.int p0_3), .val (.int p0_4), .val (.int p0_5), .val (.int (v0_7 p0_1)), .val (.int (v0_13 p0_5)), .val (.ref b2), .val (.ref b14), .val (.ref b32), .val (.ref b43), .val (.int (1 : Int32)), .val (.int (1 : Int32))] [])) _
          refine XS.iload X179.here hx rfl (hb hby at_262) rfl ?_
          show Steps p.tables e below (T179.setTop (mkF m 264 #[.val (.long p0_0), .second, .val (.int p0_1), .val (.int p0_2), .val (.int p0_3), .val (.int p0_4), .val (.int p0_5), .val (.int (v0_7 p0_1)), .val (.int (v0_13 p0_5)), .val (.ref b2), .val (.ref b14), .val (.ref b32), .val (.ref b43), .val (.int (1 : Int32)), .val (.int (1 : Int32))] [(.int (1 : Int32))])) _
          refine XS.ifNo X179.here hx rfl (hb hby at_264) rfl ((if0 _ _).trans (feq (by decide : ¬ ((1 : Int32) = (0 : Int32)))).1) ?_
          show Steps p.tables e below (T179.setTop (mkF m 267 #[.val (.long p0_0), .second, .val (.int p0_1), .val (.int p0_2), .val (.int p0_3), .val (.int p0_4), .val (.int p0_5), .val (.int (v0_7 p0_1)), .val (.int (v0_13 p0_5)), .val (.ref b2), .val (.ref b14), .val (.ref b32), .val (.ref b43), .val (.int (1 : Int32)), .val (.int (1 : Int32))] [])) _
          refine XS.iconst X179.here hx rfl (hb hby at_267) ?_
          show Steps p.tables e below (T179.setTop (mkF m 268 #[.val (.long p0_0), .second, .val (.int p0_1), .val (.int p0_2), .val (.int p0_3), .val (.int p0_4), .val (.int p0_5), .val (.int (v0_7 p0_1)), .val (.int (v0_13 p0_5)), .val (.ref b2), .val (.ref b14), .val (.ref b32), .val (.ref b43), .val (.int (1 : Int32)), .val (.int (1 : Int32))] [(.int (1 : Int32))])) _
          refine XS.goto X179.here hx rfl (pc0 := 268) (pc' := 272) rfl (hb hby at_268) (by decide) (by decide) ?_
          show Steps p.tables e below (T179.setTop (mkF m 272 #[.val (.long p0_0), .second, .val (.int p0_1), .val (.int p0_2), .val (.int p0_3), .val (.int p0_4), .val (.int p0_5), .val (.int (v0_7 p0_1)), .val (.int (v0_13 p0_5)), .val (.ref b2), .val (.ref b14), .val (.ref b32), .val (.ref b43), .val (.int (1 : Int32)), .val (.int (1 : Int32))] [(.int (1 : Int32))])) _
          exact k)
        obtain ⟨fs, hr, hrun, hended, hW, hsame⟩ := X179.leave (v := some (.int (1 : Int32))) (fun h => by rw [Bd.returns] at h; cases h) Bd.notSynchronized
        refine ⟨_, _, pre187 _ ?_, hrun, hended, _, _, rfl, ?_, ⟨_, rfl⟩, hW, hsame.mono (by decide) (by decide)⟩
        · show Steps p.tables e below (T179.setTop (mkF m 272 #[.val (.long p0_0), .second, .val (.int p0_1), .val (.int p0_2), .val (.int p0_3), .val (.int p0_4), .val (.int p0_5), .val (.int (v0_7 p0_1)), .val (.int (v0_13 p0_5)), .val (.ref b2), .val (.ref b14), .val (.ref b32), .val (.ref b43), .val (.int (1 : Int32)), .val (.int (1 : Int32))] [(.int (1 : Int32))])) _
          exact retN X179 hx (t := .boolean) Bd.returns (by simp) (hb hby at_272) hr
        · show Q0 Z p0_0 p0_1 p0_2 p0_3 p0_4 p0_5 JJ h0 n0 _ T179.heap _
          exact ⟨rfl, N179⟩
    · have pre188 : ∀ t, Steps p.tables e below (T58.setTop (mkF m 132 #[.val (.long p0_0), .second, .val (.int p0_1), .val (.int p0_2), .val (.int p0_3), .val (.int p0_4), .val (.int p0_5), .val (.int (v0_7 p0_1)), .val (.int (v0_13 p0_5)), .val (.ref b2), .val (.ref b14), .val (.ref b32), .val (.ref b43), .unset, .unset] [(.int (4 : Int32)), (.ref b43), (.int (3 : Int32)), (.ref b14)])) t → Steps p.tables e below (s₁.setTop (entryFrame m #[(.long p0_0), (.int p0_1), (.int p0_2), (.int p0_3), (.int p0_4), (.int p0_5)] maxLocals)) t := fun t k => pre67 t (by
        refine XS.icmpNo X58.here hx rfl (hb hby at_123) rfl (flt hc123_68).1 ?_
        show Steps p.tables e below (T58.setTop (mkF m 126 #[.val (.long p0_0), .second, .val (.int p0_1), .val (.int p0_2), .val (.int p0_3), .val (.int p0_4), .val (.int p0_5), .val (.int (v0_7 p0_1)), .val (.int (v0_13 p0_5)), .val (.ref b2), .val (.ref b14), .val (.ref b32), .val (.ref b43), .unset, .unset] [])) _
        refine XS.aload X58.here hx rfl (hb hby at_126) rfl rfl ?_
        show Steps p.tables e below (T58.setTop (mkF m 128 #[.val (.long p0_0), .second, .val (.int p0_1), .val (.int p0_2), .val (.int p0_3), .val (.int p0_4), .val (.int p0_5), .val (.int (v0_7 p0_1)), .val (.int (v0_13 p0_5)), .val (.ref b2), .val (.ref b14), .val (.ref b32), .val (.ref b43), .unset, .unset] [(.ref b14)])) _
        refine XS.iconst X58.here hx rfl (hb hby at_128) ?_
        show Steps p.tables e below (T58.setTop (mkF m 129 #[.val (.long p0_0), .second, .val (.int p0_1), .val (.int p0_2), .val (.int p0_3), .val (.int p0_4), .val (.int p0_5), .val (.int (v0_7 p0_1)), .val (.int (v0_13 p0_5)), .val (.ref b2), .val (.ref b14), .val (.ref b32), .val (.ref b43), .unset, .unset] [(.int (3 : Int32)), (.ref b14)])) _
        refine XS.aload X58.here hx rfl (hb hby at_129) rfl rfl ?_
        show Steps p.tables e below (T58.setTop (mkF m 131 #[.val (.long p0_0), .second, .val (.int p0_1), .val (.int p0_2), .val (.int p0_3), .val (.int p0_4), .val (.int p0_5), .val (.int (v0_7 p0_1)), .val (.int (v0_13 p0_5)), .val (.ref b2), .val (.ref b14), .val (.ref b32), .val (.ref b43), .unset, .unset] [(.ref b43), (.int (3 : Int32)), (.ref b14)])) _
        refine XS.iconst X58.here hx rfl (hb hby at_131) ?_
        show Steps p.tables e below (T58.setTop (mkF m 132 #[.val (.long p0_0), .second, .val (.int p0_1), .val (.int p0_2), .val (.int p0_3), .val (.int p0_4), .val (.int p0_5), .val (.int (v0_7 p0_1)), .val (.int (v0_13 p0_5)), .val (.ref b2), .val (.ref b14), .val (.ref b32), .val (.ref b43), .unset, .unset] [(.int (4 : Int32)), (.ref b43), (.int (3 : Int32)), (.ref b14)])) _
        exact k)
      obtain ⟨cq189, kq189, qa189, qb189, qc189⟩ := isOf hZ rfl Ex61
      obtain ⟨_, _, ⟨T189, L189, k189, n189⟩, -, X189, ⟨Lc189, hQ189, l189, y189, z189⟩, st189⟩ := X58.virtualBack hx (y := (⟨"com/example/consigliere/consigliere/engine/Rng", "nextInt", "(I)I"⟩ : MethodName)) (z := (⟨"com/example/consigliere/consigliere/engine/Rng", "nextInt", "(I)I"⟩ : MethodName)) hown (mvT hZ (hw _ (List.mem_of_getElem? (i := 32) rfl))) (mvT hZ (hw _ (List.mem_of_getElem? (i := 19) rfl))) (notFace_of_selects (args := #[]) (mvT hZ (hw _ (List.mem_of_getElem? (i := 21) rfl)))) (mvT hZ (hw _ (List.mem_of_getElem? (i := 21) rfl))) (mvT hZ (hw _ (List.mem_of_getElem? (i := 20) rfl))) (by decide) (backOf (W := 2) (rm4 l Z a0 hw [] b43 (4 : Int32) (JJ p0_0 (4 : Int32)) p0_0 T58.heap n0 Z58 (by decide) (hJ p0_0 _ (by decide)).1 (hJ p0_0 _ (by decide)).2 Ex61 F62 g_b43) hZ (hw _ (List.mem_of_getElem? (i := 22) rfl)) (hw _ (List.mem_of_getElem? (i := 4) rfl)) (by decide) (by decide)) qa189 qc189 (g := (mkF m 132 #[.val (.long p0_0), .second, .val (.int p0_1), .val (.int p0_2), .val (.int p0_3), .val (.int p0_4), .val (.int p0_5), .val (.int (v0_7 p0_1)), .val (.int (v0_13 p0_5)), .val (.ref b2), .val (.ref b14), .val (.ref b32), .val (.ref b43), .unset, .unset] [(.int (4 : Int32)), (.ref b43), (.int (3 : Int32)), (.ref b14)])) rfl (by rw [hml]; rfl) (Steps.refl _) (argsL := [(.int (4 : Int32))]) (rest := [(.int (3 : Int32)), (.ref b14)]) (lenOf pd_1 rfl) rfl (by show 2 * 0 + _ ≤ _; exact Nat.le_of_eq rfl) (hb hby at_132) (fun _ _ => ⟨rfl, rfl, (by decide : 4 + 0 ≤ _), (by decide : 12 + 0 ≤ _)⟩)
      dsimp only [Pt.U, Pt.locs, Pt.cells, Pt.slots] at X189 l189 y189 z189 st189 hQ189
      rw [l189, y189, z189] at X189
      obtain ⟨rfl, M189, K189c, P189_0⟩ := hQ189
      have N189 := Fr.app N58 M189
      have K189 : Keep T58.heap T189.heap [b43] := K189c
      have Z189 : n0 ≤ T189.heap.size := Nat.le_trans Z58 K189.1
      have Ar190 : ArI Z T189.heap b2 .int 5 (own_sh JJ (own_k p0_1) p0_0 (g0_41 p0_2 p0_3 p0_4 p0_5)).2 := C64.keep K189 (ninS ne_b2_b43 nin0)
      have Ar191 : ArI Z T189.heap b14 .int 5 (g0_70 p0_2 p0_3 p0_4 p0_5) := Ar59.keep K189 (ninS ne_b14_b43 nin0)
      have Ex192 : Exa Z T189.heap b32 "com/example/consigliere/consigliere/engine/Rng" := Ex60.keep K189
      have F193 : Fld Z T189.heap b32 "com/example/consigliere/consigliere/engine/Rng" "state" "J" (.long (own_sh JJ (own_k p0_1) p0_0 (g0_41 p0_2 p0_3 p0_4 p0_5)).1) := F63.keep K189 (ninS ne_b32_b43 nin0)
      have Ex194 : Exa Z T189.heap b43 "com/example/consigliere/consigliere/engine/Rng" := Ex61.keep K189
      have F195 : Fld Z T189.heap b43 "com/example/consigliere/consigliere/engine/Rng" "state" "J" (.long (own_it ((JJ p0_0 (4 : Int32)) + 1) p0_0)) := P189_0
      replace X189 : Stand p l e room_1 s m #[(.long p0_0), (.int p0_1), (.int p0_2), (.int p0_3), (.int p0_4), (.int p0_5)] below meth c T189 _ 4 12 := X189
      have pre189 : ∀ t, Steps p.tables e below (T189.setTop (mkF m 135 #[.val (.long p0_0), .second, .val (.int p0_1), .val (.int p0_2), .val (.int p0_3), .val (.int p0_4), .val (.int p0_5), .val (.int (v0_7 p0_1)), .val (.int (v0_13 p0_5)), .val (.ref b2), .val (.ref b14), .val (.ref b32), .val (.ref b43), .unset, .unset] [(.int (r4 (4 : Int32) (JJ p0_0 (4 : Int32)) p0_0)), (.int (3 : Int32)), (.ref b14)])) t → Steps p.tables e below (s₁.setTop (entryFrame m #[(.long p0_0), (.int p0_1), (.int p0_2), (.int p0_3), (.int p0_4), (.int p0_5)] maxLocals)) t := fun t k => pre188 t (st189.trans k)
      obtain ⟨_, _, ⟨T196, L196, k196, n196⟩, -, X196, ⟨Lc196, hQ196, l196, y196, z196⟩, st196⟩ := Jvm.LawKit.callS X189 hx (y := (⟨"com/example/consigliere/consigliere/engine/RngShufflePinLaw", "swap", "([III)V"⟩ : MethodName)) hown (mvT hZ (hw _ (List.mem_of_getElem? (i := 33) rfl))) (mvT hZ (hw _ (List.mem_of_getElem? (i := 34) rfl))) (mvT hZ (hw _ (List.mem_of_getElem? (i := 35) rfl))) (mvT hZ (hw _ (List.mem_of_getElem? (i := 36) rfl))) (by decide) (backOf (W := 0) (rm6 l Z a0 hw [] b14 (3 : Int32) (r4 (4 : Int32) (JJ p0_0 (4 : Int32)) p0_0) 3 (((r4 (4 : Int32) (JJ p0_0 (4 : Int32)) p0_0)).toNatClampNeg) 5 (g0_70 p0_2 p0_3 p0_4 p0_5) T189.heap n0 Z189 (by decide) (by decide) ⟨(own_rb JJ hJ _ (4 : Int32) (by decide)).1, rfl⟩ (Nat.lt_of_lt_of_le (own_rb JJ hJ _ (4 : Int32) (by decide)).2 (by decide)) g_b14 Ar191) hZ (hw _ (List.mem_of_getElem? (i := 36) rfl)) (hw _ (List.mem_of_getElem? (i := 35) rfl)) (by decide) (by decide)) (g := (mkF m 135 #[.val (.long p0_0), .second, .val (.int p0_1), .val (.int p0_2), .val (.int p0_3), .val (.int p0_4), .val (.int p0_5), .val (.int (v0_7 p0_1)), .val (.int (v0_13 p0_5)), .val (.ref b2), .val (.ref b14), .val (.ref b32), .val (.ref b43), .unset, .unset] [(.int (r4 (4 : Int32) (JJ p0_0 (4 : Int32)) p0_0)), (.int (3 : Int32)), (.ref b14)])) rfl (by rw [hml]; rfl) (argsL := [(.ref b14), (.int (3 : Int32)), (.int (r4 (4 : Int32) (JJ p0_0 (4 : Int32)) p0_0))]) (rest := []) (lenOf pd_4 rfl) rfl (by show 2 * 0 + _ ≤ _; exact Nat.le_of_eq rfl) (hb hby at_135) (fun _ _ => ⟨rfl, rfl, (by decide : 4 + 0 ≤ _), (by decide : 12 + 0 ≤ _)⟩)
      dsimp only [Pt.U, Pt.locs, Pt.cells, Pt.slots] at X196 l196 y196 z196 st196 hQ196
      rw [l196, y196, z196] at X196
      obtain ⟨rfl, M196, K196c, P196_0⟩ := hQ196
      have N196 := Fr.app N189 M196
      have K196 : Keep T189.heap T196.heap [b14] := K196c
      have Z196 : n0 ≤ T196.heap.size := Nat.le_trans Z189 K196.1
      have Ar197 : ArI Z T196.heap b2 .int 5 (own_sh JJ (own_k p0_1) p0_0 (g0_41 p0_2 p0_3 p0_4 p0_5)).2 := Ar190.keep K196 (ninS ne_b2_b14 nin0)
      have Ex198 : Exa Z T196.heap b32 "com/example/consigliere/consigliere/engine/Rng" := Ex192.keep K196
      have F199 : Fld Z T196.heap b32 "com/example/consigliere/consigliere/engine/Rng" "state" "J" (.long (own_sh JJ (own_k p0_1) p0_0 (g0_41 p0_2 p0_3 p0_4 p0_5)).1) := F193.keep K196 (ninS (Ne.symm ne_b14_b32) nin0)
      have Ex200 : Exa Z T196.heap b43 "com/example/consigliere/consigliere/engine/Rng" := Ex194.keep K196
      have F201 : Fld Z T196.heap b43 "com/example/consigliere/consigliere/engine/Rng" "state" "J" (.long (own_it ((JJ p0_0 (4 : Int32)) + 1) p0_0)) := F195.keep K196 (ninS (Ne.symm ne_b14_b43) nin0)
      have C202 : ArI Z T196.heap b14 .int 5 (g0_135 p0_0 p0_2 p0_3 p0_4 p0_5 JJ) := P196_0
      replace X196 : Stand p l e room_1 s m #[(.long p0_0), (.int p0_1), (.int p0_2), (.int p0_3), (.int p0_4), (.int p0_5)] below meth c T196 _ 4 12 := X196
      have pre196 : ∀ t, Steps p.tables e below (T196.setTop (mkF m 138 #[.val (.long p0_0), .second, .val (.int p0_1), .val (.int p0_2), .val (.int p0_3), .val (.int p0_4), .val (.int p0_5), .val (.int (v0_7 p0_1)), .val (.int (v0_13 p0_5)), .val (.ref b2), .val (.ref b14), .val (.ref b32), .val (.ref b43), .unset, .unset] [])) t → Steps p.tables e below (s₁.setTop (entryFrame m #[(.long p0_0), (.int p0_1), (.int p0_2), (.int p0_3), (.int p0_4), (.int p0_5)] maxLocals)) t := fun t k => pre189 t (st196 t k)
      have pre204 : ∀ t, Steps p.tables e below (T196.setTop (mkF m 150 #[.val (.long p0_0), .second, .val (.int p0_1), .val (.int p0_2), .val (.int p0_3), .val (.int p0_4), .val (.int p0_5), .val (.int (v0_7 p0_1)), .val (.int (v0_13 p0_5)), .val (.ref b2), .val (.ref b14), .val (.ref b32), .val (.ref b43), .unset, .unset] [(.int (3 : Int32)), (.ref b43), (.int (2 : Int32)), (.ref b14)])) t → Steps p.tables e below (s₁.setTop (entryFrame m #[(.long p0_0), (.int p0_1), (.int p0_2), (.int p0_3), (.int p0_4), (.int p0_5)] maxLocals)) t := fun t k => pre196 t (by
        refine XS.iload X196.here hx rfl (hb hby at_138) rfl ?_
        show Steps p.tables e below (T196.setTop (mkF m 140 #[.val (.long p0_0), .second, .val (.int p0_1), .val (.int p0_2), .val (.int p0_3), .val (.int p0_4), .val (.int p0_5), .val (.int (v0_7 p0_1)), .val (.int (v0_13 p0_5)), .val (.ref b2), .val (.ref b14), .val (.ref b32), .val (.ref b43), .unset, .unset] [(.int (v0_7 p0_1))])) _
        refine XS.iconst X196.here hx rfl (hb hby at_140) ?_
        show Steps p.tables e below (T196.setTop (mkF m 141 #[.val (.long p0_0), .second, .val (.int p0_1), .val (.int p0_2), .val (.int p0_3), .val (.int p0_4), .val (.int p0_5), .val (.int (v0_7 p0_1)), .val (.int (v0_13 p0_5)), .val (.ref b2), .val (.ref b14), .val (.ref b32), .val (.ref b43), .unset, .unset] [(.int (3 : Int32)), (.int (v0_7 p0_1))])) _
        refine XS.icmpNo X196.here hx rfl (hb hby at_141) rfl (flt (show ¬ ((v0_7 p0_1) < (3 : Int32)) from (own_up p0_1 hc123_68 (by decide)))).1 ?_
        show Steps p.tables e below (T196.setTop (mkF m 144 #[.val (.long p0_0), .second, .val (.int p0_1), .val (.int p0_2), .val (.int p0_3), .val (.int p0_4), .val (.int p0_5), .val (.int (v0_7 p0_1)), .val (.int (v0_13 p0_5)), .val (.ref b2), .val (.ref b14), .val (.ref b32), .val (.ref b43), .unset, .unset] [])) _
        refine XS.aload X196.here hx rfl (hb hby at_144) rfl rfl ?_
        show Steps p.tables e below (T196.setTop (mkF m 146 #[.val (.long p0_0), .second, .val (.int p0_1), .val (.int p0_2), .val (.int p0_3), .val (.int p0_4), .val (.int p0_5), .val (.int (v0_7 p0_1)), .val (.int (v0_13 p0_5)), .val (.ref b2), .val (.ref b14), .val (.ref b32), .val (.ref b43), .unset, .unset] [(.ref b14)])) _
        refine XS.iconst X196.here hx rfl (hb hby at_146) ?_
        show Steps p.tables e below (T196.setTop (mkF m 147 #[.val (.long p0_0), .second, .val (.int p0_1), .val (.int p0_2), .val (.int p0_3), .val (.int p0_4), .val (.int p0_5), .val (.int (v0_7 p0_1)), .val (.int (v0_13 p0_5)), .val (.ref b2), .val (.ref b14), .val (.ref b32), .val (.ref b43), .unset, .unset] [(.int (2 : Int32)), (.ref b14)])) _
        refine XS.aload X196.here hx rfl (hb hby at_147) rfl rfl ?_
        show Steps p.tables e below (T196.setTop (mkF m 149 #[.val (.long p0_0), .second, .val (.int p0_1), .val (.int p0_2), .val (.int p0_3), .val (.int p0_4), .val (.int p0_5), .val (.int (v0_7 p0_1)), .val (.int (v0_13 p0_5)), .val (.ref b2), .val (.ref b14), .val (.ref b32), .val (.ref b43), .unset, .unset] [(.ref b43), (.int (2 : Int32)), (.ref b14)])) _
        refine XS.iconst X196.here hx rfl (hb hby at_149) ?_
        show Steps p.tables e below (T196.setTop (mkF m 150 #[.val (.long p0_0), .second, .val (.int p0_1), .val (.int p0_2), .val (.int p0_3), .val (.int p0_4), .val (.int p0_5), .val (.int (v0_7 p0_1)), .val (.int (v0_13 p0_5)), .val (.ref b2), .val (.ref b14), .val (.ref b32), .val (.ref b43), .unset, .unset] [(.int (3 : Int32)), (.ref b43), (.int (2 : Int32)), (.ref b14)])) _
        exact k)
      obtain ⟨cq205, kq205, qa205, qb205, qc205⟩ := isOf hZ rfl Ex200
      obtain ⟨_, _, ⟨T205, L205, k205, n205⟩, -, X205, ⟨Lc205, hQ205, l205, y205, z205⟩, st205⟩ := X196.virtualBack hx (y := (⟨"com/example/consigliere/consigliere/engine/Rng", "nextInt", "(I)I"⟩ : MethodName)) (z := (⟨"com/example/consigliere/consigliere/engine/Rng", "nextInt", "(I)I"⟩ : MethodName)) hown (mvT hZ (hw _ (List.mem_of_getElem? (i := 32) rfl))) (mvT hZ (hw _ (List.mem_of_getElem? (i := 19) rfl))) (notFace_of_selects (args := #[]) (mvT hZ (hw _ (List.mem_of_getElem? (i := 21) rfl)))) (mvT hZ (hw _ (List.mem_of_getElem? (i := 21) rfl))) (mvT hZ (hw _ (List.mem_of_getElem? (i := 20) rfl))) (by decide) (backOf (W := 2) (rm4 l Z a0 hw [] b43 (3 : Int32) (JJ (own_it ((JJ p0_0 (4 : Int32)) + 1) p0_0) (3 : Int32)) (own_it ((JJ p0_0 (4 : Int32)) + 1) p0_0) T196.heap n0 Z196 (by decide) (hJ (own_it ((JJ p0_0 (4 : Int32)) + 1) p0_0) _ (by decide)).1 (hJ (own_it ((JJ p0_0 (4 : Int32)) + 1) p0_0) _ (by decide)).2 Ex200 F201 g_b43) hZ (hw _ (List.mem_of_getElem? (i := 22) rfl)) (hw _ (List.mem_of_getElem? (i := 4) rfl)) (by decide) (by decide)) qa205 qc205 (g := (mkF m 150 #[.val (.long p0_0), .second, .val (.int p0_1), .val (.int p0_2), .val (.int p0_3), .val (.int p0_4), .val (.int p0_5), .val (.int (v0_7 p0_1)), .val (.int (v0_13 p0_5)), .val (.ref b2), .val (.ref b14), .val (.ref b32), .val (.ref b43), .unset, .unset] [(.int (3 : Int32)), (.ref b43), (.int (2 : Int32)), (.ref b14)])) rfl (by rw [hml]; rfl) (Steps.refl _) (argsL := [(.int (3 : Int32))]) (rest := [(.int (2 : Int32)), (.ref b14)]) (lenOf pd_1 rfl) rfl (by show 2 * 0 + _ ≤ _; exact Nat.le_of_eq rfl) (hb hby at_150) (fun _ _ => ⟨rfl, rfl, (by decide : 4 + 0 ≤ _), (by decide : 12 + 0 ≤ _)⟩)
      dsimp only [Pt.U, Pt.locs, Pt.cells, Pt.slots] at X205 l205 y205 z205 st205 hQ205
      rw [l205, y205, z205] at X205
      obtain ⟨rfl, M205, K205c, P205_0⟩ := hQ205
      have N205 := Fr.app N196 M205
      have K205 : Keep T196.heap T205.heap [b43] := K205c
      have Z205 : n0 ≤ T205.heap.size := Nat.le_trans Z196 K205.1
      have Ar206 : ArI Z T205.heap b2 .int 5 (own_sh JJ (own_k p0_1) p0_0 (g0_41 p0_2 p0_3 p0_4 p0_5)).2 := Ar197.keep K205 (ninS ne_b2_b43 nin0)
      have Ar207 : ArI Z T205.heap b14 .int 5 (g0_135 p0_0 p0_2 p0_3 p0_4 p0_5 JJ) := C202.keep K205 (ninS ne_b14_b43 nin0)
      have Ex208 : Exa Z T205.heap b32 "com/example/consigliere/consigliere/engine/Rng" := Ex198.keep K205
      have F209 : Fld Z T205.heap b32 "com/example/consigliere/consigliere/engine/Rng" "state" "J" (.long (own_sh JJ (own_k p0_1) p0_0 (g0_41 p0_2 p0_3 p0_4 p0_5)).1) := F199.keep K205 (ninS ne_b32_b43 nin0)
      have Ex210 : Exa Z T205.heap b43 "com/example/consigliere/consigliere/engine/Rng" := Ex200.keep K205
      have F211 : Fld Z T205.heap b43 "com/example/consigliere/consigliere/engine/Rng" "state" "J" (.long (w0_150_state p0_0 JJ)) := P205_0
      replace X205 : Stand p l e room_1 s m #[(.long p0_0), (.int p0_1), (.int p0_2), (.int p0_3), (.int p0_4), (.int p0_5)] below meth c T205 _ 4 12 := X205
      have pre205 : ∀ t, Steps p.tables e below (T205.setTop (mkF m 153 #[.val (.long p0_0), .second, .val (.int p0_1), .val (.int p0_2), .val (.int p0_3), .val (.int p0_4), .val (.int p0_5), .val (.int (v0_7 p0_1)), .val (.int (v0_13 p0_5)), .val (.ref b2), .val (.ref b14), .val (.ref b32), .val (.ref b43), .unset, .unset] [(.int (c0_150 p0_0 JJ)), (.int (2 : Int32)), (.ref b14)])) t → Steps p.tables e below (s₁.setTop (entryFrame m #[(.long p0_0), (.int p0_1), (.int p0_2), (.int p0_3), (.int p0_4), (.int p0_5)] maxLocals)) t := fun t k => pre204 t (st205.trans k)
      obtain ⟨_, _, ⟨T212, L212, k212, n212⟩, -, X212, ⟨Lc212, hQ212, l212, y212, z212⟩, st212⟩ := Jvm.LawKit.callS X205 hx (y := (⟨"com/example/consigliere/consigliere/engine/RngShufflePinLaw", "swap", "([III)V"⟩ : MethodName)) hown (mvT hZ (hw _ (List.mem_of_getElem? (i := 33) rfl))) (mvT hZ (hw _ (List.mem_of_getElem? (i := 34) rfl))) (mvT hZ (hw _ (List.mem_of_getElem? (i := 35) rfl))) (mvT hZ (hw _ (List.mem_of_getElem? (i := 36) rfl))) (by decide) (backOf (W := 0) (rm6 l Z a0 hw [] b14 (2 : Int32) (c0_150 p0_0 JJ) 2 (((c0_150 p0_0 JJ)).toNatClampNeg) 5 (g0_135 p0_0 p0_2 p0_3 p0_4 p0_5 JJ) T205.heap n0 Z205 (by decide) (by decide) ⟨(own_rb JJ hJ _ (3 : Int32) (by decide)).1, rfl⟩ (Nat.lt_of_lt_of_le (own_rb JJ hJ _ (3 : Int32) (by decide)).2 (by decide)) g_b14 Ar207) hZ (hw _ (List.mem_of_getElem? (i := 36) rfl)) (hw _ (List.mem_of_getElem? (i := 35) rfl)) (by decide) (by decide)) (g := (mkF m 153 #[.val (.long p0_0), .second, .val (.int p0_1), .val (.int p0_2), .val (.int p0_3), .val (.int p0_4), .val (.int p0_5), .val (.int (v0_7 p0_1)), .val (.int (v0_13 p0_5)), .val (.ref b2), .val (.ref b14), .val (.ref b32), .val (.ref b43), .unset, .unset] [(.int (c0_150 p0_0 JJ)), (.int (2 : Int32)), (.ref b14)])) rfl (by rw [hml]; rfl) (argsL := [(.ref b14), (.int (2 : Int32)), (.int (c0_150 p0_0 JJ))]) (rest := []) (lenOf pd_4 rfl) rfl (by show 2 * 0 + _ ≤ _; exact Nat.le_of_eq rfl) (hb hby at_153) (fun _ _ => ⟨rfl, rfl, (by decide : 4 + 0 ≤ _), (by decide : 12 + 0 ≤ _)⟩)
      dsimp only [Pt.U, Pt.locs, Pt.cells, Pt.slots] at X212 l212 y212 z212 st212 hQ212
      rw [l212, y212, z212] at X212
      obtain ⟨rfl, M212, K212c, P212_0⟩ := hQ212
      have N212 := Fr.app N205 M212
      have K212 : Keep T205.heap T212.heap [b14] := K212c
      have Z212 : n0 ≤ T212.heap.size := Nat.le_trans Z205 K212.1
      have Ar213 : ArI Z T212.heap b2 .int 5 (own_sh JJ (own_k p0_1) p0_0 (g0_41 p0_2 p0_3 p0_4 p0_5)).2 := Ar206.keep K212 (ninS ne_b2_b14 nin0)
      have Ex214 : Exa Z T212.heap b32 "com/example/consigliere/consigliere/engine/Rng" := Ex208.keep K212
      have F215 : Fld Z T212.heap b32 "com/example/consigliere/consigliere/engine/Rng" "state" "J" (.long (own_sh JJ (own_k p0_1) p0_0 (g0_41 p0_2 p0_3 p0_4 p0_5)).1) := F209.keep K212 (ninS (Ne.symm ne_b14_b32) nin0)
      have Ex216 : Exa Z T212.heap b43 "com/example/consigliere/consigliere/engine/Rng" := Ex210.keep K212
      have F217 : Fld Z T212.heap b43 "com/example/consigliere/consigliere/engine/Rng" "state" "J" (.long (w0_150_state p0_0 JJ)) := F211.keep K212 (ninS (Ne.symm ne_b14_b43) nin0)
      have C218 : ArI Z T212.heap b14 .int 5 (g0_153_1 p0_0 p0_2 p0_3 p0_4 p0_5 JJ) := P212_0
      replace X212 : Stand p l e room_1 s m #[(.long p0_0), (.int p0_1), (.int p0_2), (.int p0_3), (.int p0_4), (.int p0_5)] below meth c T212 _ 4 12 := X212
      have pre212 : ∀ t, Steps p.tables e below (T212.setTop (mkF m 156 #[.val (.long p0_0), .second, .val (.int p0_1), .val (.int p0_2), .val (.int p0_3), .val (.int p0_4), .val (.int p0_5), .val (.int (v0_7 p0_1)), .val (.int (v0_13 p0_5)), .val (.ref b2), .val (.ref b14), .val (.ref b32), .val (.ref b43), .unset, .unset] [])) t → Steps p.tables e below (s₁.setTop (entryFrame m #[(.long p0_0), (.int p0_1), (.int p0_2), (.int p0_3), (.int p0_4), (.int p0_5)] maxLocals)) t := fun t k => pre205 t (st212 t k)
      have pre220 : ∀ t, Steps p.tables e below (T212.setTop (mkF m 168 #[.val (.long p0_0), .second, .val (.int p0_1), .val (.int p0_2), .val (.int p0_3), .val (.int p0_4), .val (.int p0_5), .val (.int (v0_7 p0_1)), .val (.int (v0_13 p0_5)), .val (.ref b2), .val (.ref b14), .val (.ref b32), .val (.ref b43), .unset, .unset] [(.int (2 : Int32)), (.ref b43), (.int (1 : Int32)), (.ref b14)])) t → Steps p.tables e below (s₁.setTop (entryFrame m #[(.long p0_0), (.int p0_1), (.int p0_2), (.int p0_3), (.int p0_4), (.int p0_5)] maxLocals)) t := fun t k => pre212 t (by
        refine XS.iload X212.here hx rfl (hb hby at_156) rfl ?_
        show Steps p.tables e below (T212.setTop (mkF m 158 #[.val (.long p0_0), .second, .val (.int p0_1), .val (.int p0_2), .val (.int p0_3), .val (.int p0_4), .val (.int p0_5), .val (.int (v0_7 p0_1)), .val (.int (v0_13 p0_5)), .val (.ref b2), .val (.ref b14), .val (.ref b32), .val (.ref b43), .unset, .unset] [(.int (v0_7 p0_1))])) _
        refine XS.iconst X212.here hx rfl (hb hby at_158) ?_
        show Steps p.tables e below (T212.setTop (mkF m 159 #[.val (.long p0_0), .second, .val (.int p0_1), .val (.int p0_2), .val (.int p0_3), .val (.int p0_4), .val (.int p0_5), .val (.int (v0_7 p0_1)), .val (.int (v0_13 p0_5)), .val (.ref b2), .val (.ref b14), .val (.ref b32), .val (.ref b43), .unset, .unset] [(.int (2 : Int32)), (.int (v0_7 p0_1))])) _
        refine XS.icmpNo X212.here hx rfl (hb hby at_159) rfl (flt (show ¬ ((v0_7 p0_1) < (2 : Int32)) from (own_up p0_1 hc123_68 (by decide)))).1 ?_
        show Steps p.tables e below (T212.setTop (mkF m 162 #[.val (.long p0_0), .second, .val (.int p0_1), .val (.int p0_2), .val (.int p0_3), .val (.int p0_4), .val (.int p0_5), .val (.int (v0_7 p0_1)), .val (.int (v0_13 p0_5)), .val (.ref b2), .val (.ref b14), .val (.ref b32), .val (.ref b43), .unset, .unset] [])) _
        refine XS.aload X212.here hx rfl (hb hby at_162) rfl rfl ?_
        show Steps p.tables e below (T212.setTop (mkF m 164 #[.val (.long p0_0), .second, .val (.int p0_1), .val (.int p0_2), .val (.int p0_3), .val (.int p0_4), .val (.int p0_5), .val (.int (v0_7 p0_1)), .val (.int (v0_13 p0_5)), .val (.ref b2), .val (.ref b14), .val (.ref b32), .val (.ref b43), .unset, .unset] [(.ref b14)])) _
        refine XS.iconst X212.here hx rfl (hb hby at_164) ?_
        show Steps p.tables e below (T212.setTop (mkF m 165 #[.val (.long p0_0), .second, .val (.int p0_1), .val (.int p0_2), .val (.int p0_3), .val (.int p0_4), .val (.int p0_5), .val (.int (v0_7 p0_1)), .val (.int (v0_13 p0_5)), .val (.ref b2), .val (.ref b14), .val (.ref b32), .val (.ref b43), .unset, .unset] [(.int (1 : Int32)), (.ref b14)])) _
        refine XS.aload X212.here hx rfl (hb hby at_165) rfl rfl ?_
        show Steps p.tables e below (T212.setTop (mkF m 167 #[.val (.long p0_0), .second, .val (.int p0_1), .val (.int p0_2), .val (.int p0_3), .val (.int p0_4), .val (.int p0_5), .val (.int (v0_7 p0_1)), .val (.int (v0_13 p0_5)), .val (.ref b2), .val (.ref b14), .val (.ref b32), .val (.ref b43), .unset, .unset] [(.ref b43), (.int (1 : Int32)), (.ref b14)])) _
        refine XS.iconst X212.here hx rfl (hb hby at_167) ?_
        show Steps p.tables e below (T212.setTop (mkF m 168 #[.val (.long p0_0), .second, .val (.int p0_1), .val (.int p0_2), .val (.int p0_3), .val (.int p0_4), .val (.int p0_5), .val (.int (v0_7 p0_1)), .val (.int (v0_13 p0_5)), .val (.ref b2), .val (.ref b14), .val (.ref b32), .val (.ref b43), .unset, .unset] [(.int (2 : Int32)), (.ref b43), (.int (1 : Int32)), (.ref b14)])) _
        exact k)
      obtain ⟨cq221, kq221, qa221, qb221, qc221⟩ := isOf hZ rfl Ex216
      obtain ⟨_, _, ⟨T221, L221, k221, n221⟩, -, X221, ⟨Lc221, hQ221, l221, y221, z221⟩, st221⟩ := X212.virtualBack hx (y := (⟨"com/example/consigliere/consigliere/engine/Rng", "nextInt", "(I)I"⟩ : MethodName)) (z := (⟨"com/example/consigliere/consigliere/engine/Rng", "nextInt", "(I)I"⟩ : MethodName)) hown (mvT hZ (hw _ (List.mem_of_getElem? (i := 32) rfl))) (mvT hZ (hw _ (List.mem_of_getElem? (i := 19) rfl))) (notFace_of_selects (args := #[]) (mvT hZ (hw _ (List.mem_of_getElem? (i := 21) rfl)))) (mvT hZ (hw _ (List.mem_of_getElem? (i := 21) rfl))) (mvT hZ (hw _ (List.mem_of_getElem? (i := 20) rfl))) (by decide) (backOf (W := 2) (rm4 l Z a0 hw [] b43 (2 : Int32) (JJ (w0_150_state p0_0 JJ) (2 : Int32)) (w0_150_state p0_0 JJ) T212.heap n0 Z212 (by decide) (hJ (w0_150_state p0_0 JJ) _ (by decide)).1 (hJ (w0_150_state p0_0 JJ) _ (by decide)).2 Ex216 F217 g_b43) hZ (hw _ (List.mem_of_getElem? (i := 22) rfl)) (hw _ (List.mem_of_getElem? (i := 4) rfl)) (by decide) (by decide)) qa221 qc221 (g := (mkF m 168 #[.val (.long p0_0), .second, .val (.int p0_1), .val (.int p0_2), .val (.int p0_3), .val (.int p0_4), .val (.int p0_5), .val (.int (v0_7 p0_1)), .val (.int (v0_13 p0_5)), .val (.ref b2), .val (.ref b14), .val (.ref b32), .val (.ref b43), .unset, .unset] [(.int (2 : Int32)), (.ref b43), (.int (1 : Int32)), (.ref b14)])) rfl (by rw [hml]; rfl) (Steps.refl _) (argsL := [(.int (2 : Int32))]) (rest := [(.int (1 : Int32)), (.ref b14)]) (lenOf pd_1 rfl) rfl (by show 2 * 0 + _ ≤ _; exact Nat.le_of_eq rfl) (hb hby at_168) (fun _ _ => ⟨rfl, rfl, (by decide : 4 + 0 ≤ _), (by decide : 12 + 0 ≤ _)⟩)
      dsimp only [Pt.U, Pt.locs, Pt.cells, Pt.slots] at X221 l221 y221 z221 st221 hQ221
      rw [l221, y221, z221] at X221
      obtain ⟨rfl, M221, K221c, P221_0⟩ := hQ221
      have N221 := Fr.app N212 M221
      have K221 : Keep T212.heap T221.heap [b43] := K221c
      have Z221 : n0 ≤ T221.heap.size := Nat.le_trans Z212 K221.1
      have Ar222 : ArI Z T221.heap b2 .int 5 (own_sh JJ (own_k p0_1) p0_0 (g0_41 p0_2 p0_3 p0_4 p0_5)).2 := Ar213.keep K221 (ninS ne_b2_b43 nin0)
      have Ar223 : ArI Z T221.heap b14 .int 5 (g0_153_1 p0_0 p0_2 p0_3 p0_4 p0_5 JJ) := C218.keep K221 (ninS ne_b14_b43 nin0)
      have Ex224 : Exa Z T221.heap b32 "com/example/consigliere/consigliere/engine/Rng" := Ex214.keep K221
      have F225 : Fld Z T221.heap b32 "com/example/consigliere/consigliere/engine/Rng" "state" "J" (.long (own_sh JJ (own_k p0_1) p0_0 (g0_41 p0_2 p0_3 p0_4 p0_5)).1) := F215.keep K221 (ninS ne_b32_b43 nin0)
      have Ex226 : Exa Z T221.heap b43 "com/example/consigliere/consigliere/engine/Rng" := Ex216.keep K221
      have F227 : Fld Z T221.heap b43 "com/example/consigliere/consigliere/engine/Rng" "state" "J" (.long (w0_168_state_1 p0_0 JJ)) := P221_0
      replace X221 : Stand p l e room_1 s m #[(.long p0_0), (.int p0_1), (.int p0_2), (.int p0_3), (.int p0_4), (.int p0_5)] below meth c T221 _ 4 12 := X221
      have pre221 : ∀ t, Steps p.tables e below (T221.setTop (mkF m 171 #[.val (.long p0_0), .second, .val (.int p0_1), .val (.int p0_2), .val (.int p0_3), .val (.int p0_4), .val (.int p0_5), .val (.int (v0_7 p0_1)), .val (.int (v0_13 p0_5)), .val (.ref b2), .val (.ref b14), .val (.ref b32), .val (.ref b43), .unset, .unset] [(.int (c0_168_1 p0_0 JJ)), (.int (1 : Int32)), (.ref b14)])) t → Steps p.tables e below (s₁.setTop (entryFrame m #[(.long p0_0), (.int p0_1), (.int p0_2), (.int p0_3), (.int p0_4), (.int p0_5)] maxLocals)) t := fun t k => pre220 t (st221.trans k)
      obtain ⟨_, _, ⟨T228, L228, k228, n228⟩, -, X228, ⟨Lc228, hQ228, l228, y228, z228⟩, st228⟩ := Jvm.LawKit.callS X221 hx (y := (⟨"com/example/consigliere/consigliere/engine/RngShufflePinLaw", "swap", "([III)V"⟩ : MethodName)) hown (mvT hZ (hw _ (List.mem_of_getElem? (i := 33) rfl))) (mvT hZ (hw _ (List.mem_of_getElem? (i := 34) rfl))) (mvT hZ (hw _ (List.mem_of_getElem? (i := 35) rfl))) (mvT hZ (hw _ (List.mem_of_getElem? (i := 36) rfl))) (by decide) (backOf (W := 0) (rm6 l Z a0 hw [] b14 (1 : Int32) (c0_168_1 p0_0 JJ) 1 (((c0_168_1 p0_0 JJ)).toNatClampNeg) 5 (g0_153_1 p0_0 p0_2 p0_3 p0_4 p0_5 JJ) T221.heap n0 Z221 (by decide) (by decide) ⟨(own_rb JJ hJ _ (2 : Int32) (by decide)).1, rfl⟩ (Nat.lt_of_lt_of_le (own_rb JJ hJ _ (2 : Int32) (by decide)).2 (by decide)) g_b14 Ar223) hZ (hw _ (List.mem_of_getElem? (i := 36) rfl)) (hw _ (List.mem_of_getElem? (i := 35) rfl)) (by decide) (by decide)) (g := (mkF m 171 #[.val (.long p0_0), .second, .val (.int p0_1), .val (.int p0_2), .val (.int p0_3), .val (.int p0_4), .val (.int p0_5), .val (.int (v0_7 p0_1)), .val (.int (v0_13 p0_5)), .val (.ref b2), .val (.ref b14), .val (.ref b32), .val (.ref b43), .unset, .unset] [(.int (c0_168_1 p0_0 JJ)), (.int (1 : Int32)), (.ref b14)])) rfl (by rw [hml]; rfl) (argsL := [(.ref b14), (.int (1 : Int32)), (.int (c0_168_1 p0_0 JJ))]) (rest := []) (lenOf pd_4 rfl) rfl (by show 2 * 0 + _ ≤ _; exact Nat.le_of_eq rfl) (hb hby at_171) (fun _ _ => ⟨rfl, rfl, (by decide : 4 + 0 ≤ _), (by decide : 12 + 0 ≤ _)⟩)
      dsimp only [Pt.U, Pt.locs, Pt.cells, Pt.slots] at X228 l228 y228 z228 st228 hQ228
      rw [l228, y228, z228] at X228
      obtain ⟨rfl, M228, K228c, P228_0⟩ := hQ228
      have N228 := Fr.app N221 M228
      have K228 : Keep T221.heap T228.heap [b14] := K228c
      have Z228 : n0 ≤ T228.heap.size := Nat.le_trans Z221 K228.1
      have Ar229 : ArI Z T228.heap b2 .int 5 (own_sh JJ (own_k p0_1) p0_0 (g0_41 p0_2 p0_3 p0_4 p0_5)).2 := Ar222.keep K228 (ninS ne_b2_b14 nin0)
      have Ex230 : Exa Z T228.heap b32 "com/example/consigliere/consigliere/engine/Rng" := Ex224.keep K228
      have F231 : Fld Z T228.heap b32 "com/example/consigliere/consigliere/engine/Rng" "state" "J" (.long (own_sh JJ (own_k p0_1) p0_0 (g0_41 p0_2 p0_3 p0_4 p0_5)).1) := F225.keep K228 (ninS (Ne.symm ne_b14_b32) nin0)
      have Ex232 : Exa Z T228.heap b43 "com/example/consigliere/consigliere/engine/Rng" := Ex226.keep K228
      have F233 : Fld Z T228.heap b43 "com/example/consigliere/consigliere/engine/Rng" "state" "J" (.long (w0_168_state_1 p0_0 JJ)) := F227.keep K228 (ninS (Ne.symm ne_b14_b43) nin0)
      have C234 : ArI Z T228.heap b14 .int 5 (g0_171_2 p0_0 p0_2 p0_3 p0_4 p0_5 JJ) := P228_0
      replace X228 : Stand p l e room_1 s m #[(.long p0_0), (.int p0_1), (.int p0_2), (.int p0_3), (.int p0_4), (.int p0_5)] below meth c T228 _ 4 12 := X228
      have pre228 : ∀ t, Steps p.tables e below (T228.setTop (mkF m 174 #[.val (.long p0_0), .second, .val (.int p0_1), .val (.int p0_2), .val (.int p0_3), .val (.int p0_4), .val (.int p0_5), .val (.int (v0_7 p0_1)), .val (.int (v0_13 p0_5)), .val (.ref b2), .val (.ref b14), .val (.ref b32), .val (.ref b43), .unset, .unset] [])) t → Steps p.tables e below (s₁.setTop (entryFrame m #[(.long p0_0), (.int p0_1), (.int p0_2), (.int p0_3), (.int p0_4), (.int p0_5)] maxLocals)) t := fun t k => pre221 t (st228 t k)
      have pre240 : ∀ t, Steps p.tables e below (T228.setTop (mkF m 238 #[.val (.long p0_0), .second, .val (.int p0_1), .val (.int p0_2), .val (.int p0_3), .val (.int p0_4), .val (.int p0_5), .val (.int (v0_7 p0_1)), .val (.int (v0_13 p0_5)), .val (.ref b2), .val (.ref b14), .val (.ref b32), .val (.ref b43), .val (.int (1 : Int32)), .unset] [(.ref b32)])) t → Steps p.tables e below (s₁.setTop (entryFrame m #[(.long p0_0), (.int p0_1), (.int p0_2), (.int p0_3), (.int p0_4), (.int p0_5)] maxLocals)) t := fun t k => pre228 t (by
        refine XS.aload X228.here hx rfl (hb hby at_174) rfl rfl ?_
        show Steps p.tables e below (T228.setTop (mkF m 176 #[.val (.long p0_0), .second, .val (.int p0_1), .val (.int p0_2), .val (.int p0_3), .val (.int p0_4), .val (.int p0_5), .val (.int (v0_7 p0_1)), .val (.int (v0_13 p0_5)), .val (.ref b2), .val (.ref b14), .val (.ref b32), .val (.ref b43), .unset, .unset] [(.ref b2)])) _
        refine XS.iconst X228.here hx rfl (hb hby at_176) ?_
        show Steps p.tables e below (T228.setTop (mkF m 177 #[.val (.long p0_0), .second, .val (.int p0_1), .val (.int p0_2), .val (.int p0_3), .val (.int p0_4), .val (.int p0_5), .val (.int (v0_7 p0_1)), .val (.int (v0_13 p0_5)), .val (.ref b2), .val (.ref b14), .val (.ref b32), .val (.ref b43), .unset, .unset] [(.int (0 : Int32)), (.ref b2)])) _
        refine own_ldI X228 hx hZ rfl Ar229 (j := (0 : Int32)) (i := 0) (by decide) (by decide) (g := (mkF m 177 #[.val (.long p0_0), .second, .val (.int p0_1), .val (.int p0_2), .val (.int p0_3), .val (.int p0_4), .val (.int p0_5), .val (.int (v0_7 p0_1)), .val (.int (v0_13 p0_5)), .val (.ref b2), .val (.ref b14), .val (.ref b32), .val (.ref b43), .unset, .unset] [(.int (0 : Int32)), (.ref b2)])) rfl rfl (hb hby at_177) _ ?_
        show Steps p.tables e below (T228.setTop (mkF m 178 #[.val (.long p0_0), .second, .val (.int p0_1), .val (.int p0_2), .val (.int p0_3), .val (.int p0_4), .val (.int p0_5), .val (.int (v0_7 p0_1)), .val (.int (v0_13 p0_5)), .val (.ref b2), .val (.ref b14), .val (.ref b32), .val (.ref b43), .unset, .unset] [(.int ((own_sh JJ (own_k p0_1) p0_0 (g0_41 p0_2 p0_3 p0_4 p0_5)).2 0))])) _
        refine XS.aload X228.here hx rfl (hb hby at_178) rfl rfl ?_
        show Steps p.tables e below (T228.setTop (mkF m 180 #[.val (.long p0_0), .second, .val (.int p0_1), .val (.int p0_2), .val (.int p0_3), .val (.int p0_4), .val (.int p0_5), .val (.int (v0_7 p0_1)), .val (.int (v0_13 p0_5)), .val (.ref b2), .val (.ref b14), .val (.ref b32), .val (.ref b43), .unset, .unset] [(.ref b14), (.int ((own_sh JJ (own_k p0_1) p0_0 (g0_41 p0_2 p0_3 p0_4 p0_5)).2 0))])) _
        refine XS.iconst X228.here hx rfl (hb hby at_180) ?_
        show Steps p.tables e below (T228.setTop (mkF m 181 #[.val (.long p0_0), .second, .val (.int p0_1), .val (.int p0_2), .val (.int p0_3), .val (.int p0_4), .val (.int p0_5), .val (.int (v0_7 p0_1)), .val (.int (v0_13 p0_5)), .val (.ref b2), .val (.ref b14), .val (.ref b32), .val (.ref b43), .unset, .unset] [(.int (0 : Int32)), (.ref b14), (.int ((own_sh JJ (own_k p0_1) p0_0 (g0_41 p0_2 p0_3 p0_4 p0_5)).2 0))])) _
        refine own_ldI X228 hx hZ rfl C234 (j := (0 : Int32)) (i := 0) (by decide) (by decide) (g := (mkF m 181 #[.val (.long p0_0), .second, .val (.int p0_1), .val (.int p0_2), .val (.int p0_3), .val (.int p0_4), .val (.int p0_5), .val (.int (v0_7 p0_1)), .val (.int (v0_13 p0_5)), .val (.ref b2), .val (.ref b14), .val (.ref b32), .val (.ref b43), .unset, .unset] [(.int (0 : Int32)), (.ref b14), (.int ((own_sh JJ (own_k p0_1) p0_0 (g0_41 p0_2 p0_3 p0_4 p0_5)).2 0))])) rfl rfl (hb hby at_181) _ ?_
        show Steps p.tables e below (T228.setTop (mkF m 182 #[.val (.long p0_0), .second, .val (.int p0_1), .val (.int p0_2), .val (.int p0_3), .val (.int p0_4), .val (.int p0_5), .val (.int (v0_7 p0_1)), .val (.int (v0_13 p0_5)), .val (.ref b2), .val (.ref b14), .val (.ref b32), .val (.ref b43), .unset, .unset] [(.int ((g0_171_2 p0_0 p0_2 p0_3 p0_4 p0_5 JJ) 0)), (.int ((own_sh JJ (own_k p0_1) p0_0 (g0_41 p0_2 p0_3 p0_4 p0_5)).2 0))])) _
        refine XS.icmpNo X228.here hx rfl (hb hby at_182) rfl (teq (show ((own_sh JJ (own_k p0_1) p0_0 (g0_41 p0_2 p0_3 p0_4 p0_5)).2 0) = ((g0_171_2 p0_0 p0_2 p0_3 p0_4 p0_5 JJ) 0) from (congrFun (own_eq3 p0_0 p0_1 p0_2 p0_3 p0_4 p0_5 JJ hc105_66 hc123_68) 0))).2 ?_
        show Steps p.tables e below (T228.setTop (mkF m 185 #[.val (.long p0_0), .second, .val (.int p0_1), .val (.int p0_2), .val (.int p0_3), .val (.int p0_4), .val (.int p0_5), .val (.int (v0_7 p0_1)), .val (.int (v0_13 p0_5)), .val (.ref b2), .val (.ref b14), .val (.ref b32), .val (.ref b43), .unset, .unset] [])) _
        refine XS.aload X228.here hx rfl (hb hby at_185) rfl rfl ?_
        show Steps p.tables e below (T228.setTop (mkF m 187 #[.val (.long p0_0), .second, .val (.int p0_1), .val (.int p0_2), .val (.int p0_3), .val (.int p0_4), .val (.int p0_5), .val (.int (v0_7 p0_1)), .val (.int (v0_13 p0_5)), .val (.ref b2), .val (.ref b14), .val (.ref b32), .val (.ref b43), .unset, .unset] [(.ref b2)])) _
        refine XS.iconst X228.here hx rfl (hb hby at_187) ?_
        show Steps p.tables e below (T228.setTop (mkF m 188 #[.val (.long p0_0), .second, .val (.int p0_1), .val (.int p0_2), .val (.int p0_3), .val (.int p0_4), .val (.int p0_5), .val (.int (v0_7 p0_1)), .val (.int (v0_13 p0_5)), .val (.ref b2), .val (.ref b14), .val (.ref b32), .val (.ref b43), .unset, .unset] [(.int (1 : Int32)), (.ref b2)])) _
        refine own_ldI X228 hx hZ rfl Ar229 (j := (1 : Int32)) (i := 1) (by decide) (by decide) (g := (mkF m 188 #[.val (.long p0_0), .second, .val (.int p0_1), .val (.int p0_2), .val (.int p0_3), .val (.int p0_4), .val (.int p0_5), .val (.int (v0_7 p0_1)), .val (.int (v0_13 p0_5)), .val (.ref b2), .val (.ref b14), .val (.ref b32), .val (.ref b43), .unset, .unset] [(.int (1 : Int32)), (.ref b2)])) rfl rfl (hb hby at_188) _ ?_
        show Steps p.tables e below (T228.setTop (mkF m 189 #[.val (.long p0_0), .second, .val (.int p0_1), .val (.int p0_2), .val (.int p0_3), .val (.int p0_4), .val (.int p0_5), .val (.int (v0_7 p0_1)), .val (.int (v0_13 p0_5)), .val (.ref b2), .val (.ref b14), .val (.ref b32), .val (.ref b43), .unset, .unset] [(.int ((own_sh JJ (own_k p0_1) p0_0 (g0_41 p0_2 p0_3 p0_4 p0_5)).2 1))])) _
        refine XS.aload X228.here hx rfl (hb hby at_189) rfl rfl ?_
        show Steps p.tables e below (T228.setTop (mkF m 191 #[.val (.long p0_0), .second, .val (.int p0_1), .val (.int p0_2), .val (.int p0_3), .val (.int p0_4), .val (.int p0_5), .val (.int (v0_7 p0_1)), .val (.int (v0_13 p0_5)), .val (.ref b2), .val (.ref b14), .val (.ref b32), .val (.ref b43), .unset, .unset] [(.ref b14), (.int ((own_sh JJ (own_k p0_1) p0_0 (g0_41 p0_2 p0_3 p0_4 p0_5)).2 1))])) _
        refine XS.iconst X228.here hx rfl (hb hby at_191) ?_
        show Steps p.tables e below (T228.setTop (mkF m 192 #[.val (.long p0_0), .second, .val (.int p0_1), .val (.int p0_2), .val (.int p0_3), .val (.int p0_4), .val (.int p0_5), .val (.int (v0_7 p0_1)), .val (.int (v0_13 p0_5)), .val (.ref b2), .val (.ref b14), .val (.ref b32), .val (.ref b43), .unset, .unset] [(.int (1 : Int32)), (.ref b14), (.int ((own_sh JJ (own_k p0_1) p0_0 (g0_41 p0_2 p0_3 p0_4 p0_5)).2 1))])) _
        refine own_ldI X228 hx hZ rfl C234 (j := (1 : Int32)) (i := 1) (by decide) (by decide) (g := (mkF m 192 #[.val (.long p0_0), .second, .val (.int p0_1), .val (.int p0_2), .val (.int p0_3), .val (.int p0_4), .val (.int p0_5), .val (.int (v0_7 p0_1)), .val (.int (v0_13 p0_5)), .val (.ref b2), .val (.ref b14), .val (.ref b32), .val (.ref b43), .unset, .unset] [(.int (1 : Int32)), (.ref b14), (.int ((own_sh JJ (own_k p0_1) p0_0 (g0_41 p0_2 p0_3 p0_4 p0_5)).2 1))])) rfl rfl (hb hby at_192) _ ?_
        show Steps p.tables e below (T228.setTop (mkF m 193 #[.val (.long p0_0), .second, .val (.int p0_1), .val (.int p0_2), .val (.int p0_3), .val (.int p0_4), .val (.int p0_5), .val (.int (v0_7 p0_1)), .val (.int (v0_13 p0_5)), .val (.ref b2), .val (.ref b14), .val (.ref b32), .val (.ref b43), .unset, .unset] [(.int ((g0_171_2 p0_0 p0_2 p0_3 p0_4 p0_5 JJ) 1)), (.int ((own_sh JJ (own_k p0_1) p0_0 (g0_41 p0_2 p0_3 p0_4 p0_5)).2 1))])) _
        refine XS.icmpNo X228.here hx rfl (hb hby at_193) rfl (teq (show ((own_sh JJ (own_k p0_1) p0_0 (g0_41 p0_2 p0_3 p0_4 p0_5)).2 1) = ((g0_171_2 p0_0 p0_2 p0_3 p0_4 p0_5 JJ) 1) from (congrFun (own_eq3 p0_0 p0_1 p0_2 p0_3 p0_4 p0_5 JJ hc105_66 hc123_68) 1))).2 ?_
        show Steps p.tables e below (T228.setTop (mkF m 196 #[.val (.long p0_0), .second, .val (.int p0_1), .val (.int p0_2), .val (.int p0_3), .val (.int p0_4), .val (.int p0_5), .val (.int (v0_7 p0_1)), .val (.int (v0_13 p0_5)), .val (.ref b2), .val (.ref b14), .val (.ref b32), .val (.ref b43), .unset, .unset] [])) _
        refine XS.aload X228.here hx rfl (hb hby at_196) rfl rfl ?_
        show Steps p.tables e below (T228.setTop (mkF m 198 #[.val (.long p0_0), .second, .val (.int p0_1), .val (.int p0_2), .val (.int p0_3), .val (.int p0_4), .val (.int p0_5), .val (.int (v0_7 p0_1)), .val (.int (v0_13 p0_5)), .val (.ref b2), .val (.ref b14), .val (.ref b32), .val (.ref b43), .unset, .unset] [(.ref b2)])) _
        refine XS.iconst X228.here hx rfl (hb hby at_198) ?_
        show Steps p.tables e below (T228.setTop (mkF m 199 #[.val (.long p0_0), .second, .val (.int p0_1), .val (.int p0_2), .val (.int p0_3), .val (.int p0_4), .val (.int p0_5), .val (.int (v0_7 p0_1)), .val (.int (v0_13 p0_5)), .val (.ref b2), .val (.ref b14), .val (.ref b32), .val (.ref b43), .unset, .unset] [(.int (2 : Int32)), (.ref b2)])) _
        refine own_ldI X228 hx hZ rfl Ar229 (j := (2 : Int32)) (i := 2) (by decide) (by decide) (g := (mkF m 199 #[.val (.long p0_0), .second, .val (.int p0_1), .val (.int p0_2), .val (.int p0_3), .val (.int p0_4), .val (.int p0_5), .val (.int (v0_7 p0_1)), .val (.int (v0_13 p0_5)), .val (.ref b2), .val (.ref b14), .val (.ref b32), .val (.ref b43), .unset, .unset] [(.int (2 : Int32)), (.ref b2)])) rfl rfl (hb hby at_199) _ ?_
        show Steps p.tables e below (T228.setTop (mkF m 200 #[.val (.long p0_0), .second, .val (.int p0_1), .val (.int p0_2), .val (.int p0_3), .val (.int p0_4), .val (.int p0_5), .val (.int (v0_7 p0_1)), .val (.int (v0_13 p0_5)), .val (.ref b2), .val (.ref b14), .val (.ref b32), .val (.ref b43), .unset, .unset] [(.int ((own_sh JJ (own_k p0_1) p0_0 (g0_41 p0_2 p0_3 p0_4 p0_5)).2 2))])) _
        refine XS.aload X228.here hx rfl (hb hby at_200) rfl rfl ?_
        show Steps p.tables e below (T228.setTop (mkF m 202 #[.val (.long p0_0), .second, .val (.int p0_1), .val (.int p0_2), .val (.int p0_3), .val (.int p0_4), .val (.int p0_5), .val (.int (v0_7 p0_1)), .val (.int (v0_13 p0_5)), .val (.ref b2), .val (.ref b14), .val (.ref b32), .val (.ref b43), .unset, .unset] [(.ref b14), (.int ((own_sh JJ (own_k p0_1) p0_0 (g0_41 p0_2 p0_3 p0_4 p0_5)).2 2))])) _
        refine XS.iconst X228.here hx rfl (hb hby at_202) ?_
        show Steps p.tables e below (T228.setTop (mkF m 203 #[.val (.long p0_0), .second, .val (.int p0_1), .val (.int p0_2), .val (.int p0_3), .val (.int p0_4), .val (.int p0_5), .val (.int (v0_7 p0_1)), .val (.int (v0_13 p0_5)), .val (.ref b2), .val (.ref b14), .val (.ref b32), .val (.ref b43), .unset, .unset] [(.int (2 : Int32)), (.ref b14), (.int ((own_sh JJ (own_k p0_1) p0_0 (g0_41 p0_2 p0_3 p0_4 p0_5)).2 2))])) _
        refine own_ldI X228 hx hZ rfl C234 (j := (2 : Int32)) (i := 2) (by decide) (by decide) (g := (mkF m 203 #[.val (.long p0_0), .second, .val (.int p0_1), .val (.int p0_2), .val (.int p0_3), .val (.int p0_4), .val (.int p0_5), .val (.int (v0_7 p0_1)), .val (.int (v0_13 p0_5)), .val (.ref b2), .val (.ref b14), .val (.ref b32), .val (.ref b43), .unset, .unset] [(.int (2 : Int32)), (.ref b14), (.int ((own_sh JJ (own_k p0_1) p0_0 (g0_41 p0_2 p0_3 p0_4 p0_5)).2 2))])) rfl rfl (hb hby at_203) _ ?_
        show Steps p.tables e below (T228.setTop (mkF m 204 #[.val (.long p0_0), .second, .val (.int p0_1), .val (.int p0_2), .val (.int p0_3), .val (.int p0_4), .val (.int p0_5), .val (.int (v0_7 p0_1)), .val (.int (v0_13 p0_5)), .val (.ref b2), .val (.ref b14), .val (.ref b32), .val (.ref b43), .unset, .unset] [(.int ((g0_171_2 p0_0 p0_2 p0_3 p0_4 p0_5 JJ) 2)), (.int ((own_sh JJ (own_k p0_1) p0_0 (g0_41 p0_2 p0_3 p0_4 p0_5)).2 2))])) _
        refine XS.icmpNo X228.here hx rfl (hb hby at_204) rfl (teq (show ((own_sh JJ (own_k p0_1) p0_0 (g0_41 p0_2 p0_3 p0_4 p0_5)).2 2) = ((g0_171_2 p0_0 p0_2 p0_3 p0_4 p0_5 JJ) 2) from (congrFun (own_eq3 p0_0 p0_1 p0_2 p0_3 p0_4 p0_5 JJ hc105_66 hc123_68) 2))).2 ?_
        show Steps p.tables e below (T228.setTop (mkF m 207 #[.val (.long p0_0), .second, .val (.int p0_1), .val (.int p0_2), .val (.int p0_3), .val (.int p0_4), .val (.int p0_5), .val (.int (v0_7 p0_1)), .val (.int (v0_13 p0_5)), .val (.ref b2), .val (.ref b14), .val (.ref b32), .val (.ref b43), .unset, .unset] [])) _
        refine XS.aload X228.here hx rfl (hb hby at_207) rfl rfl ?_
        show Steps p.tables e below (T228.setTop (mkF m 209 #[.val (.long p0_0), .second, .val (.int p0_1), .val (.int p0_2), .val (.int p0_3), .val (.int p0_4), .val (.int p0_5), .val (.int (v0_7 p0_1)), .val (.int (v0_13 p0_5)), .val (.ref b2), .val (.ref b14), .val (.ref b32), .val (.ref b43), .unset, .unset] [(.ref b2)])) _
        refine XS.iconst X228.here hx rfl (hb hby at_209) ?_
        show Steps p.tables e below (T228.setTop (mkF m 210 #[.val (.long p0_0), .second, .val (.int p0_1), .val (.int p0_2), .val (.int p0_3), .val (.int p0_4), .val (.int p0_5), .val (.int (v0_7 p0_1)), .val (.int (v0_13 p0_5)), .val (.ref b2), .val (.ref b14), .val (.ref b32), .val (.ref b43), .unset, .unset] [(.int (3 : Int32)), (.ref b2)])) _
        refine own_ldI X228 hx hZ rfl Ar229 (j := (3 : Int32)) (i := 3) (by decide) (by decide) (g := (mkF m 210 #[.val (.long p0_0), .second, .val (.int p0_1), .val (.int p0_2), .val (.int p0_3), .val (.int p0_4), .val (.int p0_5), .val (.int (v0_7 p0_1)), .val (.int (v0_13 p0_5)), .val (.ref b2), .val (.ref b14), .val (.ref b32), .val (.ref b43), .unset, .unset] [(.int (3 : Int32)), (.ref b2)])) rfl rfl (hb hby at_210) _ ?_
        show Steps p.tables e below (T228.setTop (mkF m 211 #[.val (.long p0_0), .second, .val (.int p0_1), .val (.int p0_2), .val (.int p0_3), .val (.int p0_4), .val (.int p0_5), .val (.int (v0_7 p0_1)), .val (.int (v0_13 p0_5)), .val (.ref b2), .val (.ref b14), .val (.ref b32), .val (.ref b43), .unset, .unset] [(.int ((own_sh JJ (own_k p0_1) p0_0 (g0_41 p0_2 p0_3 p0_4 p0_5)).2 3))])) _
        refine XS.aload X228.here hx rfl (hb hby at_211) rfl rfl ?_
        show Steps p.tables e below (T228.setTop (mkF m 213 #[.val (.long p0_0), .second, .val (.int p0_1), .val (.int p0_2), .val (.int p0_3), .val (.int p0_4), .val (.int p0_5), .val (.int (v0_7 p0_1)), .val (.int (v0_13 p0_5)), .val (.ref b2), .val (.ref b14), .val (.ref b32), .val (.ref b43), .unset, .unset] [(.ref b14), (.int ((own_sh JJ (own_k p0_1) p0_0 (g0_41 p0_2 p0_3 p0_4 p0_5)).2 3))])) _
        refine XS.iconst X228.here hx rfl (hb hby at_213) ?_
        show Steps p.tables e below (T228.setTop (mkF m 214 #[.val (.long p0_0), .second, .val (.int p0_1), .val (.int p0_2), .val (.int p0_3), .val (.int p0_4), .val (.int p0_5), .val (.int (v0_7 p0_1)), .val (.int (v0_13 p0_5)), .val (.ref b2), .val (.ref b14), .val (.ref b32), .val (.ref b43), .unset, .unset] [(.int (3 : Int32)), (.ref b14), (.int ((own_sh JJ (own_k p0_1) p0_0 (g0_41 p0_2 p0_3 p0_4 p0_5)).2 3))])) _
        refine own_ldI X228 hx hZ rfl C234 (j := (3 : Int32)) (i := 3) (by decide) (by decide) (g := (mkF m 214 #[.val (.long p0_0), .second, .val (.int p0_1), .val (.int p0_2), .val (.int p0_3), .val (.int p0_4), .val (.int p0_5), .val (.int (v0_7 p0_1)), .val (.int (v0_13 p0_5)), .val (.ref b2), .val (.ref b14), .val (.ref b32), .val (.ref b43), .unset, .unset] [(.int (3 : Int32)), (.ref b14), (.int ((own_sh JJ (own_k p0_1) p0_0 (g0_41 p0_2 p0_3 p0_4 p0_5)).2 3))])) rfl rfl (hb hby at_214) _ ?_
        show Steps p.tables e below (T228.setTop (mkF m 215 #[.val (.long p0_0), .second, .val (.int p0_1), .val (.int p0_2), .val (.int p0_3), .val (.int p0_4), .val (.int p0_5), .val (.int (v0_7 p0_1)), .val (.int (v0_13 p0_5)), .val (.ref b2), .val (.ref b14), .val (.ref b32), .val (.ref b43), .unset, .unset] [(.int ((g0_171_2 p0_0 p0_2 p0_3 p0_4 p0_5 JJ) 3)), (.int ((own_sh JJ (own_k p0_1) p0_0 (g0_41 p0_2 p0_3 p0_4 p0_5)).2 3))])) _
        refine XS.icmpNo X228.here hx rfl (hb hby at_215) rfl (teq (show ((own_sh JJ (own_k p0_1) p0_0 (g0_41 p0_2 p0_3 p0_4 p0_5)).2 3) = ((g0_171_2 p0_0 p0_2 p0_3 p0_4 p0_5 JJ) 3) from (congrFun (own_eq3 p0_0 p0_1 p0_2 p0_3 p0_4 p0_5 JJ hc105_66 hc123_68) 3))).2 ?_
        show Steps p.tables e below (T228.setTop (mkF m 218 #[.val (.long p0_0), .second, .val (.int p0_1), .val (.int p0_2), .val (.int p0_3), .val (.int p0_4), .val (.int p0_5), .val (.int (v0_7 p0_1)), .val (.int (v0_13 p0_5)), .val (.ref b2), .val (.ref b14), .val (.ref b32), .val (.ref b43), .unset, .unset] [])) _
        refine XS.aload X228.here hx rfl (hb hby at_218) rfl rfl ?_
        show Steps p.tables e below (T228.setTop (mkF m 220 #[.val (.long p0_0), .second, .val (.int p0_1), .val (.int p0_2), .val (.int p0_3), .val (.int p0_4), .val (.int p0_5), .val (.int (v0_7 p0_1)), .val (.int (v0_13 p0_5)), .val (.ref b2), .val (.ref b14), .val (.ref b32), .val (.ref b43), .unset, .unset] [(.ref b2)])) _
        refine XS.iconst X228.here hx rfl (hb hby at_220) ?_
        show Steps p.tables e below (T228.setTop (mkF m 221 #[.val (.long p0_0), .second, .val (.int p0_1), .val (.int p0_2), .val (.int p0_3), .val (.int p0_4), .val (.int p0_5), .val (.int (v0_7 p0_1)), .val (.int (v0_13 p0_5)), .val (.ref b2), .val (.ref b14), .val (.ref b32), .val (.ref b43), .unset, .unset] [(.int (4 : Int32)), (.ref b2)])) _
        refine own_ldI X228 hx hZ rfl Ar229 (j := (4 : Int32)) (i := 4) (by decide) (by decide) (g := (mkF m 221 #[.val (.long p0_0), .second, .val (.int p0_1), .val (.int p0_2), .val (.int p0_3), .val (.int p0_4), .val (.int p0_5), .val (.int (v0_7 p0_1)), .val (.int (v0_13 p0_5)), .val (.ref b2), .val (.ref b14), .val (.ref b32), .val (.ref b43), .unset, .unset] [(.int (4 : Int32)), (.ref b2)])) rfl rfl (hb hby at_221) _ ?_
        show Steps p.tables e below (T228.setTop (mkF m 222 #[.val (.long p0_0), .second, .val (.int p0_1), .val (.int p0_2), .val (.int p0_3), .val (.int p0_4), .val (.int p0_5), .val (.int (v0_7 p0_1)), .val (.int (v0_13 p0_5)), .val (.ref b2), .val (.ref b14), .val (.ref b32), .val (.ref b43), .unset, .unset] [(.int ((own_sh JJ (own_k p0_1) p0_0 (g0_41 p0_2 p0_3 p0_4 p0_5)).2 4))])) _
        refine XS.aload X228.here hx rfl (hb hby at_222) rfl rfl ?_
        show Steps p.tables e below (T228.setTop (mkF m 224 #[.val (.long p0_0), .second, .val (.int p0_1), .val (.int p0_2), .val (.int p0_3), .val (.int p0_4), .val (.int p0_5), .val (.int (v0_7 p0_1)), .val (.int (v0_13 p0_5)), .val (.ref b2), .val (.ref b14), .val (.ref b32), .val (.ref b43), .unset, .unset] [(.ref b14), (.int ((own_sh JJ (own_k p0_1) p0_0 (g0_41 p0_2 p0_3 p0_4 p0_5)).2 4))])) _
        refine XS.iconst X228.here hx rfl (hb hby at_224) ?_
        show Steps p.tables e below (T228.setTop (mkF m 225 #[.val (.long p0_0), .second, .val (.int p0_1), .val (.int p0_2), .val (.int p0_3), .val (.int p0_4), .val (.int p0_5), .val (.int (v0_7 p0_1)), .val (.int (v0_13 p0_5)), .val (.ref b2), .val (.ref b14), .val (.ref b32), .val (.ref b43), .unset, .unset] [(.int (4 : Int32)), (.ref b14), (.int ((own_sh JJ (own_k p0_1) p0_0 (g0_41 p0_2 p0_3 p0_4 p0_5)).2 4))])) _
        refine own_ldI X228 hx hZ rfl C234 (j := (4 : Int32)) (i := 4) (by decide) (by decide) (g := (mkF m 225 #[.val (.long p0_0), .second, .val (.int p0_1), .val (.int p0_2), .val (.int p0_3), .val (.int p0_4), .val (.int p0_5), .val (.int (v0_7 p0_1)), .val (.int (v0_13 p0_5)), .val (.ref b2), .val (.ref b14), .val (.ref b32), .val (.ref b43), .unset, .unset] [(.int (4 : Int32)), (.ref b14), (.int ((own_sh JJ (own_k p0_1) p0_0 (g0_41 p0_2 p0_3 p0_4 p0_5)).2 4))])) rfl rfl (hb hby at_225) _ ?_
        show Steps p.tables e below (T228.setTop (mkF m 226 #[.val (.long p0_0), .second, .val (.int p0_1), .val (.int p0_2), .val (.int p0_3), .val (.int p0_4), .val (.int p0_5), .val (.int (v0_7 p0_1)), .val (.int (v0_13 p0_5)), .val (.ref b2), .val (.ref b14), .val (.ref b32), .val (.ref b43), .unset, .unset] [(.int ((g0_171_2 p0_0 p0_2 p0_3 p0_4 p0_5 JJ) 4)), (.int ((own_sh JJ (own_k p0_1) p0_0 (g0_41 p0_2 p0_3 p0_4 p0_5)).2 4))])) _
        refine XS.icmpNo X228.here hx rfl (hb hby at_226) rfl (teq (show ((own_sh JJ (own_k p0_1) p0_0 (g0_41 p0_2 p0_3 p0_4 p0_5)).2 4) = ((g0_171_2 p0_0 p0_2 p0_3 p0_4 p0_5 JJ) 4) from (congrFun (own_eq3 p0_0 p0_1 p0_2 p0_3 p0_4 p0_5 JJ hc105_66 hc123_68) 4))).2 ?_
        show Steps p.tables e below (T228.setTop (mkF m 229 #[.val (.long p0_0), .second, .val (.int p0_1), .val (.int p0_2), .val (.int p0_3), .val (.int p0_4), .val (.int p0_5), .val (.int (v0_7 p0_1)), .val (.int (v0_13 p0_5)), .val (.ref b2), .val (.ref b14), .val (.ref b32), .val (.ref b43), .unset, .unset] [])) _
        refine XS.iconst X228.here hx rfl (hb hby at_229) ?_
        show Steps p.tables e below (T228.setTop (mkF m 230 #[.val (.long p0_0), .second, .val (.int p0_1), .val (.int p0_2), .val (.int p0_3), .val (.int p0_4), .val (.int p0_5), .val (.int (v0_7 p0_1)), .val (.int (v0_13 p0_5)), .val (.ref b2), .val (.ref b14), .val (.ref b32), .val (.ref b43), .unset, .unset] [(.int (1 : Int32))])) _
        refine XS.goto X228.here hx rfl (pc0 := 230) (pc' := 234) rfl (hb hby at_230) (by decide) (by decide) ?_
        show Steps p.tables e below (T228.setTop (mkF m 234 #[.val (.long p0_0), .second, .val (.int p0_1), .val (.int p0_2), .val (.int p0_3), .val (.int p0_4), .val (.int p0_5), .val (.int (v0_7 p0_1)), .val (.int (v0_13 p0_5)), .val (.ref b2), .val (.ref b14), .val (.ref b32), .val (.ref b43), .unset, .unset] [(.int (1 : Int32))])) _
        refine XS.istore X228.here hx rfl (hb hby at_234) rfl (l' := #[.val (.long p0_0), .second, .val (.int p0_1), .val (.int p0_2), .val (.int p0_3), .val (.int p0_4), .val (.int p0_5), .val (.int (v0_7 p0_1)), .val (.int (v0_13 p0_5)), .val (.ref b2), .val (.ref b14), .val (.ref b32), .val (.ref b43), .val (.int (1 : Int32)), .unset]) rfl ?_
        show Steps p.tables e below (T228.setTop (mkF m 236 #[.val (.long p0_0), .second, .val (.int p0_1), .val (.int p0_2), .val (.int p0_3), .val (.int p0_4), .val (.int p0_5), .val (.int (v0_7 p0_1)), .val (.int (v0_13 p0_5)), .val (.ref b2), .val (.ref b14), .val (.ref b32), .val (.ref b43), .val (.int (1 : Int32)), .unset] [])) _
        refine XS.aload X228.here hx rfl (hb hby at_236) rfl rfl ?_
        show Steps p.tables e below (T228.setTop (mkF m 238 #[.val (.long p0_0), .second, .val (.int p0_1), .val (.int p0_2), .val (.int p0_3), .val (.int p0_4), .val (.int p0_5), .val (.int (v0_7 p0_1)), .val (.int (v0_13 p0_5)), .val (.ref b2), .val (.ref b14), .val (.ref b32), .val (.ref b43), .val (.int (1 : Int32)), .unset] [(.ref b32)])) _
        exact k)
      obtain ⟨cq241, kq241, qa241, qb241, qc241⟩ := isOf hZ rfl Ex230
      obtain ⟨_, _, ⟨T241, L241, k241, n241⟩, -, X241, ⟨Lc241, hQ241, l241, y241, z241⟩, st241⟩ := X228.virtualBack hx (y := (⟨"com/example/consigliere/consigliere/engine/Rng", "nextLong", "()J"⟩ : MethodName)) (z := (⟨"com/example/consigliere/consigliere/engine/Rng", "nextLong", "()J"⟩ : MethodName)) hown (mvT hZ (hw _ (List.mem_of_getElem? (i := 37) rfl))) (mvT hZ (hw _ (List.mem_of_getElem? (i := 25) rfl))) (notFace_of_selects (args := #[]) (mvT hZ (hw _ (List.mem_of_getElem? (i := 27) rfl)))) (mvT hZ (hw _ (List.mem_of_getElem? (i := 27) rfl))) (mvT hZ (hw _ (List.mem_of_getElem? (i := 26) rfl))) (by decide) (backOf (W := 0) (rm5 l Z a0 hw [] b32 (own_sh JJ (own_k p0_1) p0_0 (g0_41 p0_2 p0_3 p0_4 p0_5)).1 T228.heap n0 Z228 Ex230 F231 g_b32) hZ (hw _ (List.mem_of_getElem? (i := 28) rfl)) (hw _ (List.mem_of_getElem? (i := 4) rfl)) (by decide) (by decide)) qa241 qc241 (g := (mkF m 238 #[.val (.long p0_0), .second, .val (.int p0_1), .val (.int p0_2), .val (.int p0_3), .val (.int p0_4), .val (.int p0_5), .val (.int (v0_7 p0_1)), .val (.int (v0_13 p0_5)), .val (.ref b2), .val (.ref b14), .val (.ref b32), .val (.ref b43), .val (.int (1 : Int32)), .unset] [(.ref b32)])) rfl (by rw [hml]; rfl) (Steps.refl _) (argsL := []) (rest := []) (lenOf pd_0 rfl) rfl (by show 2 * 0 + _ ≤ _; exact Nat.le_of_eq rfl) (hb hby at_238) (fun _ _ => ⟨rfl, rfl, (by decide : 4 + 0 ≤ _), (by decide : 12 + 0 ≤ _)⟩)
      dsimp only [Pt.U, Pt.locs, Pt.cells, Pt.slots] at X241 l241 y241 z241 st241 hQ241
      rw [l241, y241, z241] at X241
      obtain ⟨rfl, M241, K241c, P241_0⟩ := hQ241
      have N241 := Fr.app N228 M241
      have K241 : Keep T228.heap T241.heap [b32] := K241c
      have Z241 : n0 ≤ T241.heap.size := Nat.le_trans Z228 K241.1
      have Ar242 : ArI Z T241.heap b2 .int 5 (own_sh JJ (own_k p0_1) p0_0 (g0_41 p0_2 p0_3 p0_4 p0_5)).2 := Ar229.keep K241 (ninS ne_b2_b32 nin0)
      have Ar243 : ArI Z T241.heap b14 .int 5 (g0_171_2 p0_0 p0_2 p0_3 p0_4 p0_5 JJ) := C234.keep K241 (ninS ne_b14_b32 nin0)
      have Ex244 : Exa Z T241.heap b32 "com/example/consigliere/consigliere/engine/Rng" := Ex230.keep K241
      have Ex245 : Exa Z T241.heap b43 "com/example/consigliere/consigliere/engine/Rng" := Ex232.keep K241
      have F246 : Fld Z T241.heap b43 "com/example/consigliere/consigliere/engine/Rng" "state" "J" (.long (w0_168_state_1 p0_0 JJ)) := F233.keep K241 (ninS (Ne.symm ne_b32_b43) nin0)
      have F247 : Fld Z T241.heap b32 "com/example/consigliere/consigliere/engine/Rng" "state" "J" (.long (w0_238_state_3 p0_0 p0_1 p0_2 p0_3 p0_4 p0_5 JJ)) := P241_0
      replace X241 : Stand p l e room_1 s m #[(.long p0_0), (.int p0_1), (.int p0_2), (.int p0_3), (.int p0_4), (.int p0_5)] below meth c T241 _ 4 12 := X241
      have pre241 : ∀ t, Steps p.tables e below (T241.setTop (mkF m 241 #[.val (.long p0_0), .second, .val (.int p0_1), .val (.int p0_2), .val (.int p0_3), .val (.int p0_4), .val (.int p0_5), .val (.int (v0_7 p0_1)), .val (.int (v0_13 p0_5)), .val (.ref b2), .val (.ref b14), .val (.ref b32), .val (.ref b43), .val (.int (1 : Int32)), .unset] [(.long (c0_238_3 p0_0 p0_1 p0_2 p0_3 p0_4 p0_5 JJ))])) t → Steps p.tables e below (s₁.setTop (entryFrame m #[(.long p0_0), (.int p0_1), (.int p0_2), (.int p0_3), (.int p0_4), (.int p0_5)] maxLocals)) t := fun t k => pre240 t (st241.trans k)
      have pre248 : ∀ t, Steps p.tables e below (T241.setTop (mkF m 243 #[.val (.long p0_0), .second, .val (.int p0_1), .val (.int p0_2), .val (.int p0_3), .val (.int p0_4), .val (.int p0_5), .val (.int (v0_7 p0_1)), .val (.int (v0_13 p0_5)), .val (.ref b2), .val (.ref b14), .val (.ref b32), .val (.ref b43), .val (.int (1 : Int32)), .unset] [(.ref b43), (.long (c0_238_3 p0_0 p0_1 p0_2 p0_3 p0_4 p0_5 JJ))])) t → Steps p.tables e below (s₁.setTop (entryFrame m #[(.long p0_0), (.int p0_1), (.int p0_2), (.int p0_3), (.int p0_4), (.int p0_5)] maxLocals)) t := fun t k => pre241 t (by
        refine XS.aload X241.here hx rfl (hb hby at_241) rfl rfl ?_
        show Steps p.tables e below (T241.setTop (mkF m 243 #[.val (.long p0_0), .second, .val (.int p0_1), .val (.int p0_2), .val (.int p0_3), .val (.int p0_4), .val (.int p0_5), .val (.int (v0_7 p0_1)), .val (.int (v0_13 p0_5)), .val (.ref b2), .val (.ref b14), .val (.ref b32), .val (.ref b43), .val (.int (1 : Int32)), .unset] [(.ref b43), (.long (c0_238_3 p0_0 p0_1 p0_2 p0_3 p0_4 p0_5 JJ))])) _
        exact k)
      obtain ⟨cq249, kq249, qa249, qb249, qc249⟩ := isOf hZ rfl Ex245
      obtain ⟨_, _, ⟨T249, L249, k249, n249⟩, -, X249, ⟨Lc249, hQ249, l249, y249, z249⟩, st249⟩ := X241.virtualBack hx (y := (⟨"com/example/consigliere/consigliere/engine/Rng", "nextLong", "()J"⟩ : MethodName)) (z := (⟨"com/example/consigliere/consigliere/engine/Rng", "nextLong", "()J"⟩ : MethodName)) hown (mvT hZ (hw _ (List.mem_of_getElem? (i := 37) rfl))) (mvT hZ (hw _ (List.mem_of_getElem? (i := 25) rfl))) (notFace_of_selects (args := #[]) (mvT hZ (hw _ (List.mem_of_getElem? (i := 27) rfl)))) (mvT hZ (hw _ (List.mem_of_getElem? (i := 27) rfl))) (mvT hZ (hw _ (List.mem_of_getElem? (i := 26) rfl))) (by decide) (backOf (W := 2) (rm5 l Z a0 hw [] b43 (w0_168_state_1 p0_0 JJ) T241.heap n0 Z241 Ex245 F246 g_b43) hZ (hw _ (List.mem_of_getElem? (i := 28) rfl)) (hw _ (List.mem_of_getElem? (i := 4) rfl)) (by decide) (by decide)) qa249 qc249 (g := (mkF m 243 #[.val (.long p0_0), .second, .val (.int p0_1), .val (.int p0_2), .val (.int p0_3), .val (.int p0_4), .val (.int p0_5), .val (.int (v0_7 p0_1)), .val (.int (v0_13 p0_5)), .val (.ref b2), .val (.ref b14), .val (.ref b32), .val (.ref b43), .val (.int (1 : Int32)), .unset] [(.ref b43), (.long (c0_238_3 p0_0 p0_1 p0_2 p0_3 p0_4 p0_5 JJ))])) rfl (by rw [hml]; rfl) (Steps.refl _) (argsL := []) (rest := [(.long (c0_238_3 p0_0 p0_1 p0_2 p0_3 p0_4 p0_5 JJ))]) (lenOf pd_0 rfl) rfl (by show 2 * 0 + _ ≤ _; exact Nat.le_of_eq rfl) (hb hby at_243) (fun _ _ => ⟨rfl, rfl, (by decide : 4 + 0 ≤ _), (by decide : 12 + 0 ≤ _)⟩)
      dsimp only [Pt.U, Pt.locs, Pt.cells, Pt.slots] at X249 l249 y249 z249 st249 hQ249
      rw [l249, y249, z249] at X249
      obtain ⟨rfl, M249, K249c, P249_0⟩ := hQ249
      have N249 := Fr.app N241 M249
      have K249 : Keep T241.heap T249.heap [b43] := K249c
      have Z249 : n0 ≤ T249.heap.size := Nat.le_trans Z241 K249.1
      have Ar250 : ArI Z T249.heap b2 .int 5 (own_sh JJ (own_k p0_1) p0_0 (g0_41 p0_2 p0_3 p0_4 p0_5)).2 := Ar242.keep K249 (ninS ne_b2_b43 nin0)
      have Ar251 : ArI Z T249.heap b14 .int 5 (g0_171_2 p0_0 p0_2 p0_3 p0_4 p0_5 JJ) := Ar243.keep K249 (ninS ne_b14_b43 nin0)
      have Ex252 : Exa Z T249.heap b32 "com/example/consigliere/consigliere/engine/Rng" := Ex244.keep K249
      have F253 : Fld Z T249.heap b32 "com/example/consigliere/consigliere/engine/Rng" "state" "J" (.long (w0_238_state_3 p0_0 p0_1 p0_2 p0_3 p0_4 p0_5 JJ)) := F247.keep K249 (ninS ne_b32_b43 nin0)
      have Ex254 : Exa Z T249.heap b43 "com/example/consigliere/consigliere/engine/Rng" := Ex245.keep K249
      have F255 : Fld Z T249.heap b43 "com/example/consigliere/consigliere/engine/Rng" "state" "J" (.long (v5_9 (w0_168_state_1 p0_0 JJ))) := P249_0
      replace X249 : Stand p l e room_1 s m #[(.long p0_0), (.int p0_1), (.int p0_2), (.int p0_3), (.int p0_4), (.int p0_5)] below meth c T249 _ 4 12 := X249
      have pre249 : ∀ t, Steps p.tables e below (T249.setTop (mkF m 246 #[.val (.long p0_0), .second, .val (.int p0_1), .val (.int p0_2), .val (.int p0_3), .val (.int p0_4), .val (.int p0_5), .val (.int (v0_7 p0_1)), .val (.int (v0_13 p0_5)), .val (.ref b2), .val (.ref b14), .val (.ref b32), .val (.ref b43), .val (.int (1 : Int32)), .unset] [(.long (r5 (w0_168_state_1 p0_0 JJ))), (.long (c0_238_3 p0_0 p0_1 p0_2 p0_3 p0_4 p0_5 JJ))])) t → Steps p.tables e below (s₁.setTop (entryFrame m #[(.long p0_0), (.int p0_1), (.int p0_2), (.int p0_3), (.int p0_4), (.int p0_5)] maxLocals)) t := fun t k => pre248 t (st249.trans k)
      have pre257 : ∀ t, Steps p.tables e below (T249.setTop (mkF m 272 #[.val (.long p0_0), .second, .val (.int p0_1), .val (.int p0_2), .val (.int p0_3), .val (.int p0_4), .val (.int p0_5), .val (.int (v0_7 p0_1)), .val (.int (v0_13 p0_5)), .val (.ref b2), .val (.ref b14), .val (.ref b32), .val (.ref b43), .val (.int (1 : Int32)), .val (.int (1 : Int32))] [(.int (1 : Int32))])) t → Steps p.tables e below (s₁.setTop (entryFrame m #[(.long p0_0), (.int p0_1), (.int p0_2), (.int p0_3), (.int p0_4), (.int p0_5)] maxLocals)) t := fun t k => pre249 t (by
        refine XS.lcmp X249.here hx rfl (hb hby at_246) rfl ?_
        show Steps p.tables e below (T249.setTop (mkF m 247 #[.val (.long p0_0), .second, .val (.int p0_1), .val (.int p0_2), .val (.int p0_3), .val (.int p0_4), .val (.int p0_5), .val (.int (v0_7 p0_1)), .val (.int (v0_13 p0_5)), .val (.ref b2), .val (.ref b14), .val (.ref b32), .val (.ref b43), .val (.int (1 : Int32)), .unset] [(.int (lcmpW (c0_238_3 p0_0 p0_1 p0_2 p0_3 p0_4 p0_5 JJ) (r5 (w0_168_state_1 p0_0 JJ))))])) _
        refine XS.ifNo X249.here hx rfl (hb hby at_247) rfl ((if0 _ _).trans (teq ((lw_eq (c0_238_3 p0_0 p0_1 p0_2 p0_3 p0_4 p0_5 JJ) (r5 (w0_168_state_1 p0_0 JJ))).mpr (show (c0_238_3 p0_0 p0_1 p0_2 p0_3 p0_4 p0_5 JJ) = (r5 (w0_168_state_1 p0_0 JJ)) from (congrArg r5 (own_s3 p0_0 p0_1 p0_2 p0_3 p0_4 p0_5 JJ hc105_66 hc123_68))))).2) ?_
        show Steps p.tables e below (T249.setTop (mkF m 250 #[.val (.long p0_0), .second, .val (.int p0_1), .val (.int p0_2), .val (.int p0_3), .val (.int p0_4), .val (.int p0_5), .val (.int (v0_7 p0_1)), .val (.int (v0_13 p0_5)), .val (.ref b2), .val (.ref b14), .val (.ref b32), .val (.ref b43), .val (.int (1 : Int32)), .unset] [])) _
        refine XS.iconst X249.here hx rfl (hb hby at_250) ?_
        show Steps p.tables e below (T249.setTop (mkF m 251 #[.val (.long p0_0), .second, .val (.int p0_1), .val (.int p0_2), .val (.int p0_3), .val (.int p0_4), .val (.int p0_5), .val (.int (v0_7 p0_1)), .val (.int (v0_13 p0_5)), .val (.ref b2), .val (.ref b14), .val (.ref b32), .val (.ref b43), .val (.int (1 : Int32)), .unset] [(.int (1 : Int32))])) _
        refine XS.goto X249.here hx rfl (pc0 := 251) (pc' := 255) rfl (hb hby at_251) (by decide) (by decide) ?_
        show Steps p.tables e below (T249.setTop (mkF m 255 #[.val (.long p0_0), .second, .val (.int p0_1), .val (.int p0_2), .val (.int p0_3), .val (.int p0_4), .val (.int p0_5), .val (.int (v0_7 p0_1)), .val (.int (v0_13 p0_5)), .val (.ref b2), .val (.ref b14), .val (.ref b32), .val (.ref b43), .val (.int (1 : Int32)), .unset] [(.int (1 : Int32))])) _
        refine XS.istore X249.here hx rfl (hb hby at_255) rfl (l' := #[.val (.long p0_0), .second, .val (.int p0_1), .val (.int p0_2), .val (.int p0_3), .val (.int p0_4), .val (.int p0_5), .val (.int (v0_7 p0_1)), .val (.int (v0_13 p0_5)), .val (.ref b2), .val (.ref b14), .val (.ref b32), .val (.ref b43), .val (.int (1 : Int32)), .val (.int (1 : Int32))]) rfl ?_
        show Steps p.tables e below (T249.setTop (mkF m 257 #[.val (.long p0_0), .second, .val (.int p0_1), .val (.int p0_2), .val (.int p0_3), .val (.int p0_4), .val (.int p0_5), .val (.int (v0_7 p0_1)), .val (.int (v0_13 p0_5)), .val (.ref b2), .val (.ref b14), .val (.ref b32), .val (.ref b43), .val (.int (1 : Int32)), .val (.int (1 : Int32))] [])) _
        refine XS.iload X249.here hx rfl (hb hby at_257) rfl ?_
        show Steps p.tables e below (T249.setTop (mkF m 259 #[.val (.long p0_0), .second, .val (.int p0_1), .val (.int p0_2), .val (.int p0_3), .val (.int p0_4), .val (.int p0_5), .val (.int (v0_7 p0_1)), .val (.int (v0_13 p0_5)), .val (.ref b2), .val (.ref b14), .val (.ref b32), .val (.ref b43), .val (.int (1 : Int32)), .val (.int (1 : Int32))] [(.int (1 : Int32))])) _
        refine XS.ifNo X249.here hx rfl (hb hby at_259) rfl ((if0 _ _).trans (feq (by decide : ¬ ((1 : Int32) = (0 : Int32)))).1) ?_
        show Steps p.tables e below (T249.setTop (mkF m 262 #[.val (.long p0_0), .second, .val (.int p0_1), .val (.int p0_2), .val (.int p0_3), .val (.int p0_4), .val (.int p0_5), .val (.int (v0_7 p0_1)), .val (.int (v0_13 p0_5)), .val (.ref b2), .val (.ref b14), .val (.ref b32), .val (.ref b43), .val (.int (1 : Int32)), .val (.int (1 : Int32))] [])) _
        refine XS.iload X249.here hx rfl (hb hby at_262) rfl ?_
        show Steps p.tables e below (T249.setTop (mkF m 264 #[.val (.long p0_0), .second, .val (.int p0_1), .val (.int p0_2), .val (.int p0_3), .val (.int p0_4), .val (.int p0_5), .val (.int (v0_7 p0_1)), .val (.int (v0_13 p0_5)), .val (.ref b2), .val (.ref b14), .val (.ref b32), .val (.ref b43), .val (.int (1 : Int32)), .val (.int (1 : Int32))] [(.int (1 : Int32))])) _
        refine XS.ifNo X249.here hx rfl (hb hby at_264) rfl ((if0 _ _).trans (feq (by decide : ¬ ((1 : Int32) = (0 : Int32)))).1) ?_
        show Steps p.tables e below (T249.setTop (mkF m 267 #[.val (.long p0_0), .second, .val (.int p0_1), .val (.int p0_2), .val (.int p0_3), .val (.int p0_4), .val (.int p0_5), .val (.int (v0_7 p0_1)), .val (.int (v0_13 p0_5)), .val (.ref b2), .val (.ref b14), .val (.ref b32), .val (.ref b43), .val (.int (1 : Int32)), .val (.int (1 : Int32))] [])) _
        refine XS.iconst X249.here hx rfl (hb hby at_267) ?_
        show Steps p.tables e below (T249.setTop (mkF m 268 #[.val (.long p0_0), .second, .val (.int p0_1), .val (.int p0_2), .val (.int p0_3), .val (.int p0_4), .val (.int p0_5), .val (.int (v0_7 p0_1)), .val (.int (v0_13 p0_5)), .val (.ref b2), .val (.ref b14), .val (.ref b32), .val (.ref b43), .val (.int (1 : Int32)), .val (.int (1 : Int32))] [(.int (1 : Int32))])) _
        refine XS.goto X249.here hx rfl (pc0 := 268) (pc' := 272) rfl (hb hby at_268) (by decide) (by decide) ?_
        show Steps p.tables e below (T249.setTop (mkF m 272 #[.val (.long p0_0), .second, .val (.int p0_1), .val (.int p0_2), .val (.int p0_3), .val (.int p0_4), .val (.int p0_5), .val (.int (v0_7 p0_1)), .val (.int (v0_13 p0_5)), .val (.ref b2), .val (.ref b14), .val (.ref b32), .val (.ref b43), .val (.int (1 : Int32)), .val (.int (1 : Int32))] [(.int (1 : Int32))])) _
        exact k)
      obtain ⟨fs, hr, hrun, hended, hW, hsame⟩ := X249.leave (v := some (.int (1 : Int32))) (fun h => by rw [Bd.returns] at h; cases h) Bd.notSynchronized
      refine ⟨_, _, pre257 _ ?_, hrun, hended, _, _, rfl, ?_, ⟨_, rfl⟩, hW, hsame.mono (by decide) (by decide)⟩
      · show Steps p.tables e below (T249.setTop (mkF m 272 #[.val (.long p0_0), .second, .val (.int p0_1), .val (.int p0_2), .val (.int p0_3), .val (.int p0_4), .val (.int p0_5), .val (.int (v0_7 p0_1)), .val (.int (v0_13 p0_5)), .val (.ref b2), .val (.ref b14), .val (.ref b32), .val (.ref b43), .val (.int (1 : Int32)), .val (.int (1 : Int32))] [(.int (1 : Int32))])) _
        exact retN X249 hx (t := .boolean) Bd.returns (by simp) (hb hby at_272) hr
      · show Q0 Z p0_0 p0_1 p0_2 p0_3 p0_4 p0_5 JJ h0 n0 _ T249.heap _
        exact ⟨rfl, N249⟩
  · have pre258 : ∀ t, Steps p.tables e below (T58.setTop (mkF m 114 #[.val (.long p0_0), .second, .val (.int p0_1), .val (.int p0_2), .val (.int p0_3), .val (.int p0_4), .val (.int p0_5), .val (.int (v0_7 p0_1)), .val (.int (v0_13 p0_5)), .val (.ref b2), .val (.ref b14), .val (.ref b32), .val (.ref b43), .unset, .unset] [(.int (5 : Int32)), (.ref b43), (.int (4 : Int32)), (.ref b14)])) t → Steps p.tables e below (s₁.setTop (entryFrame m #[(.long p0_0), (.int p0_1), (.int p0_2), (.int p0_3), (.int p0_4), (.int p0_5)] maxLocals)) t := fun t k => pre65 t (by
      refine XS.icmpNo X58.here hx rfl (hb hby at_105) rfl (flt hc105_66).1 ?_
      show Steps p.tables e below (T58.setTop (mkF m 108 #[.val (.long p0_0), .second, .val (.int p0_1), .val (.int p0_2), .val (.int p0_3), .val (.int p0_4), .val (.int p0_5), .val (.int (v0_7 p0_1)), .val (.int (v0_13 p0_5)), .val (.ref b2), .val (.ref b14), .val (.ref b32), .val (.ref b43), .unset, .unset] [])) _
      refine XS.aload X58.here hx rfl (hb hby at_108) rfl rfl ?_
      show Steps p.tables e below (T58.setTop (mkF m 110 #[.val (.long p0_0), .second, .val (.int p0_1), .val (.int p0_2), .val (.int p0_3), .val (.int p0_4), .val (.int p0_5), .val (.int (v0_7 p0_1)), .val (.int (v0_13 p0_5)), .val (.ref b2), .val (.ref b14), .val (.ref b32), .val (.ref b43), .unset, .unset] [(.ref b14)])) _
      refine XS.iconst X58.here hx rfl (hb hby at_110) ?_
      show Steps p.tables e below (T58.setTop (mkF m 111 #[.val (.long p0_0), .second, .val (.int p0_1), .val (.int p0_2), .val (.int p0_3), .val (.int p0_4), .val (.int p0_5), .val (.int (v0_7 p0_1)), .val (.int (v0_13 p0_5)), .val (.ref b2), .val (.ref b14), .val (.ref b32), .val (.ref b43), .unset, .unset] [(.int (4 : Int32)), (.ref b14)])) _
      refine XS.aload X58.here hx rfl (hb hby at_111) rfl rfl ?_
      show Steps p.tables e below (T58.setTop (mkF m 113 #[.val (.long p0_0), .second, .val (.int p0_1), .val (.int p0_2), .val (.int p0_3), .val (.int p0_4), .val (.int p0_5), .val (.int (v0_7 p0_1)), .val (.int (v0_13 p0_5)), .val (.ref b2), .val (.ref b14), .val (.ref b32), .val (.ref b43), .unset, .unset] [(.ref b43), (.int (4 : Int32)), (.ref b14)])) _
      refine XS.iconst X58.here hx rfl (hb hby at_113) ?_
      show Steps p.tables e below (T58.setTop (mkF m 114 #[.val (.long p0_0), .second, .val (.int p0_1), .val (.int p0_2), .val (.int p0_3), .val (.int p0_4), .val (.int p0_5), .val (.int (v0_7 p0_1)), .val (.int (v0_13 p0_5)), .val (.ref b2), .val (.ref b14), .val (.ref b32), .val (.ref b43), .unset, .unset] [(.int (5 : Int32)), (.ref b43), (.int (4 : Int32)), (.ref b14)])) _
      exact k)
    obtain ⟨cq259, kq259, qa259, qb259, qc259⟩ := isOf hZ rfl Ex61
    obtain ⟨_, _, ⟨T259, L259, k259, n259⟩, -, X259, ⟨Lc259, hQ259, l259, y259, z259⟩, st259⟩ := X58.virtualBack hx (y := (⟨"com/example/consigliere/consigliere/engine/Rng", "nextInt", "(I)I"⟩ : MethodName)) (z := (⟨"com/example/consigliere/consigliere/engine/Rng", "nextInt", "(I)I"⟩ : MethodName)) hown (mvT hZ (hw _ (List.mem_of_getElem? (i := 32) rfl))) (mvT hZ (hw _ (List.mem_of_getElem? (i := 19) rfl))) (notFace_of_selects (args := #[]) (mvT hZ (hw _ (List.mem_of_getElem? (i := 21) rfl)))) (mvT hZ (hw _ (List.mem_of_getElem? (i := 21) rfl))) (mvT hZ (hw _ (List.mem_of_getElem? (i := 20) rfl))) (by decide) (backOf (W := 2) (rm4 l Z a0 hw [] b43 (5 : Int32) (JJ p0_0 (5 : Int32)) p0_0 T58.heap n0 Z58 (by decide) (hJ p0_0 _ (by decide)).1 (hJ p0_0 _ (by decide)).2 Ex61 F62 g_b43) hZ (hw _ (List.mem_of_getElem? (i := 22) rfl)) (hw _ (List.mem_of_getElem? (i := 4) rfl)) (by decide) (by decide)) qa259 qc259 (g := (mkF m 114 #[.val (.long p0_0), .second, .val (.int p0_1), .val (.int p0_2), .val (.int p0_3), .val (.int p0_4), .val (.int p0_5), .val (.int (v0_7 p0_1)), .val (.int (v0_13 p0_5)), .val (.ref b2), .val (.ref b14), .val (.ref b32), .val (.ref b43), .unset, .unset] [(.int (5 : Int32)), (.ref b43), (.int (4 : Int32)), (.ref b14)])) rfl (by rw [hml]; rfl) (Steps.refl _) (argsL := [(.int (5 : Int32))]) (rest := [(.int (4 : Int32)), (.ref b14)]) (lenOf pd_1 rfl) rfl (by show 2 * 0 + _ ≤ _; exact Nat.le_of_eq rfl) (hb hby at_114) (fun _ _ => ⟨rfl, rfl, (by decide : 4 + 0 ≤ _), (by decide : 12 + 0 ≤ _)⟩)
    dsimp only [Pt.U, Pt.locs, Pt.cells, Pt.slots] at X259 l259 y259 z259 st259 hQ259
    rw [l259, y259, z259] at X259
    obtain ⟨rfl, M259, K259c, P259_0⟩ := hQ259
    have N259 := Fr.app N58 M259
    have K259 : Keep T58.heap T259.heap [b43] := K259c
    have Z259 : n0 ≤ T259.heap.size := Nat.le_trans Z58 K259.1
    have Ar260 : ArI Z T259.heap b2 .int 5 (own_sh JJ (own_k p0_1) p0_0 (g0_41 p0_2 p0_3 p0_4 p0_5)).2 := C64.keep K259 (ninS ne_b2_b43 nin0)
    have Ar261 : ArI Z T259.heap b14 .int 5 (g0_70 p0_2 p0_3 p0_4 p0_5) := Ar59.keep K259 (ninS ne_b14_b43 nin0)
    have Ex262 : Exa Z T259.heap b32 "com/example/consigliere/consigliere/engine/Rng" := Ex60.keep K259
    have F263 : Fld Z T259.heap b32 "com/example/consigliere/consigliere/engine/Rng" "state" "J" (.long (own_sh JJ (own_k p0_1) p0_0 (g0_41 p0_2 p0_3 p0_4 p0_5)).1) := F63.keep K259 (ninS ne_b32_b43 nin0)
    have Ex264 : Exa Z T259.heap b43 "com/example/consigliere/consigliere/engine/Rng" := Ex61.keep K259
    have F265 : Fld Z T259.heap b43 "com/example/consigliere/consigliere/engine/Rng" "state" "J" (.long (own_it ((JJ p0_0 (5 : Int32)) + 1) p0_0)) := P259_0
    replace X259 : Stand p l e room_1 s m #[(.long p0_0), (.int p0_1), (.int p0_2), (.int p0_3), (.int p0_4), (.int p0_5)] below meth c T259 _ 4 12 := X259
    have pre259 : ∀ t, Steps p.tables e below (T259.setTop (mkF m 117 #[.val (.long p0_0), .second, .val (.int p0_1), .val (.int p0_2), .val (.int p0_3), .val (.int p0_4), .val (.int p0_5), .val (.int (v0_7 p0_1)), .val (.int (v0_13 p0_5)), .val (.ref b2), .val (.ref b14), .val (.ref b32), .val (.ref b43), .unset, .unset] [(.int (r4 (5 : Int32) (JJ p0_0 (5 : Int32)) p0_0)), (.int (4 : Int32)), (.ref b14)])) t → Steps p.tables e below (s₁.setTop (entryFrame m #[(.long p0_0), (.int p0_1), (.int p0_2), (.int p0_3), (.int p0_4), (.int p0_5)] maxLocals)) t := fun t k => pre258 t (st259.trans k)
    obtain ⟨_, _, ⟨T266, L266, k266, n266⟩, -, X266, ⟨Lc266, hQ266, l266, y266, z266⟩, st266⟩ := Jvm.LawKit.callS X259 hx (y := (⟨"com/example/consigliere/consigliere/engine/RngShufflePinLaw", "swap", "([III)V"⟩ : MethodName)) hown (mvT hZ (hw _ (List.mem_of_getElem? (i := 33) rfl))) (mvT hZ (hw _ (List.mem_of_getElem? (i := 34) rfl))) (mvT hZ (hw _ (List.mem_of_getElem? (i := 35) rfl))) (mvT hZ (hw _ (List.mem_of_getElem? (i := 36) rfl))) (by decide) (backOf (W := 0) (rm6 l Z a0 hw [] b14 (4 : Int32) (r4 (5 : Int32) (JJ p0_0 (5 : Int32)) p0_0) 4 (((r4 (5 : Int32) (JJ p0_0 (5 : Int32)) p0_0)).toNatClampNeg) 5 (g0_70 p0_2 p0_3 p0_4 p0_5) T259.heap n0 Z259 (by decide) (by decide) ⟨(own_rb JJ hJ _ (5 : Int32) (by decide)).1, rfl⟩ (Nat.lt_of_lt_of_le (own_rb JJ hJ _ (5 : Int32) (by decide)).2 (by decide)) g_b14 Ar261) hZ (hw _ (List.mem_of_getElem? (i := 36) rfl)) (hw _ (List.mem_of_getElem? (i := 35) rfl)) (by decide) (by decide)) (g := (mkF m 117 #[.val (.long p0_0), .second, .val (.int p0_1), .val (.int p0_2), .val (.int p0_3), .val (.int p0_4), .val (.int p0_5), .val (.int (v0_7 p0_1)), .val (.int (v0_13 p0_5)), .val (.ref b2), .val (.ref b14), .val (.ref b32), .val (.ref b43), .unset, .unset] [(.int (r4 (5 : Int32) (JJ p0_0 (5 : Int32)) p0_0)), (.int (4 : Int32)), (.ref b14)])) rfl (by rw [hml]; rfl) (argsL := [(.ref b14), (.int (4 : Int32)), (.int (r4 (5 : Int32) (JJ p0_0 (5 : Int32)) p0_0))]) (rest := []) (lenOf pd_4 rfl) rfl (by show 2 * 0 + _ ≤ _; exact Nat.le_of_eq rfl) (hb hby at_117) (fun _ _ => ⟨rfl, rfl, (by decide : 4 + 0 ≤ _), (by decide : 12 + 0 ≤ _)⟩)
    dsimp only [Pt.U, Pt.locs, Pt.cells, Pt.slots] at X266 l266 y266 z266 st266 hQ266
    rw [l266, y266, z266] at X266
    obtain ⟨rfl, M266, K266c, P266_0⟩ := hQ266
    have N266 := Fr.app N259 M266
    have K266 : Keep T259.heap T266.heap [b14] := K266c
    have Z266 : n0 ≤ T266.heap.size := Nat.le_trans Z259 K266.1
    have Ar267 : ArI Z T266.heap b2 .int 5 (own_sh JJ (own_k p0_1) p0_0 (g0_41 p0_2 p0_3 p0_4 p0_5)).2 := Ar260.keep K266 (ninS ne_b2_b14 nin0)
    have Ex268 : Exa Z T266.heap b32 "com/example/consigliere/consigliere/engine/Rng" := Ex262.keep K266
    have F269 : Fld Z T266.heap b32 "com/example/consigliere/consigliere/engine/Rng" "state" "J" (.long (own_sh JJ (own_k p0_1) p0_0 (g0_41 p0_2 p0_3 p0_4 p0_5)).1) := F263.keep K266 (ninS (Ne.symm ne_b14_b32) nin0)
    have Ex270 : Exa Z T266.heap b43 "com/example/consigliere/consigliere/engine/Rng" := Ex264.keep K266
    have F271 : Fld Z T266.heap b43 "com/example/consigliere/consigliere/engine/Rng" "state" "J" (.long (own_it ((JJ p0_0 (5 : Int32)) + 1) p0_0)) := F265.keep K266 (ninS (Ne.symm ne_b14_b43) nin0)
    have C272 : ArI Z T266.heap b14 .int 5 (g0_117 p0_0 p0_2 p0_3 p0_4 p0_5 JJ) := P266_0
    replace X266 : Stand p l e room_1 s m #[(.long p0_0), (.int p0_1), (.int p0_2), (.int p0_3), (.int p0_4), (.int p0_5)] below meth c T266 _ 4 12 := X266
    have pre266 : ∀ t, Steps p.tables e below (T266.setTop (mkF m 120 #[.val (.long p0_0), .second, .val (.int p0_1), .val (.int p0_2), .val (.int p0_3), .val (.int p0_4), .val (.int p0_5), .val (.int (v0_7 p0_1)), .val (.int (v0_13 p0_5)), .val (.ref b2), .val (.ref b14), .val (.ref b32), .val (.ref b43), .unset, .unset] [])) t → Steps p.tables e below (s₁.setTop (entryFrame m #[(.long p0_0), (.int p0_1), (.int p0_2), (.int p0_3), (.int p0_4), (.int p0_5)] maxLocals)) t := fun t k => pre259 t (st266 t k)
    have pre274 : ∀ t, Steps p.tables e below (T266.setTop (mkF m 132 #[.val (.long p0_0), .second, .val (.int p0_1), .val (.int p0_2), .val (.int p0_3), .val (.int p0_4), .val (.int p0_5), .val (.int (v0_7 p0_1)), .val (.int (v0_13 p0_5)), .val (.ref b2), .val (.ref b14), .val (.ref b32), .val (.ref b43), .unset, .unset] [(.int (4 : Int32)), (.ref b43), (.int (3 : Int32)), (.ref b14)])) t → Steps p.tables e below (s₁.setTop (entryFrame m #[(.long p0_0), (.int p0_1), (.int p0_2), (.int p0_3), (.int p0_4), (.int p0_5)] maxLocals)) t := fun t k => pre266 t (by
      refine XS.iload X266.here hx rfl (hb hby at_120) rfl ?_
      show Steps p.tables e below (T266.setTop (mkF m 122 #[.val (.long p0_0), .second, .val (.int p0_1), .val (.int p0_2), .val (.int p0_3), .val (.int p0_4), .val (.int p0_5), .val (.int (v0_7 p0_1)), .val (.int (v0_13 p0_5)), .val (.ref b2), .val (.ref b14), .val (.ref b32), .val (.ref b43), .unset, .unset] [(.int (v0_7 p0_1))])) _
      refine XS.iconst X266.here hx rfl (hb hby at_122) ?_
      show Steps p.tables e below (T266.setTop (mkF m 123 #[.val (.long p0_0), .second, .val (.int p0_1), .val (.int p0_2), .val (.int p0_3), .val (.int p0_4), .val (.int p0_5), .val (.int (v0_7 p0_1)), .val (.int (v0_13 p0_5)), .val (.ref b2), .val (.ref b14), .val (.ref b32), .val (.ref b43), .unset, .unset] [(.int (4 : Int32)), (.int (v0_7 p0_1))])) _
      refine XS.icmpNo X266.here hx rfl (hb hby at_123) rfl (flt (show ¬ ((v0_7 p0_1) < (4 : Int32)) from (own_up p0_1 hc105_66 (by decide)))).1 ?_
      show Steps p.tables e below (T266.setTop (mkF m 126 #[.val (.long p0_0), .second, .val (.int p0_1), .val (.int p0_2), .val (.int p0_3), .val (.int p0_4), .val (.int p0_5), .val (.int (v0_7 p0_1)), .val (.int (v0_13 p0_5)), .val (.ref b2), .val (.ref b14), .val (.ref b32), .val (.ref b43), .unset, .unset] [])) _
      refine XS.aload X266.here hx rfl (hb hby at_126) rfl rfl ?_
      show Steps p.tables e below (T266.setTop (mkF m 128 #[.val (.long p0_0), .second, .val (.int p0_1), .val (.int p0_2), .val (.int p0_3), .val (.int p0_4), .val (.int p0_5), .val (.int (v0_7 p0_1)), .val (.int (v0_13 p0_5)), .val (.ref b2), .val (.ref b14), .val (.ref b32), .val (.ref b43), .unset, .unset] [(.ref b14)])) _
      refine XS.iconst X266.here hx rfl (hb hby at_128) ?_
      show Steps p.tables e below (T266.setTop (mkF m 129 #[.val (.long p0_0), .second, .val (.int p0_1), .val (.int p0_2), .val (.int p0_3), .val (.int p0_4), .val (.int p0_5), .val (.int (v0_7 p0_1)), .val (.int (v0_13 p0_5)), .val (.ref b2), .val (.ref b14), .val (.ref b32), .val (.ref b43), .unset, .unset] [(.int (3 : Int32)), (.ref b14)])) _
      refine XS.aload X266.here hx rfl (hb hby at_129) rfl rfl ?_
      show Steps p.tables e below (T266.setTop (mkF m 131 #[.val (.long p0_0), .second, .val (.int p0_1), .val (.int p0_2), .val (.int p0_3), .val (.int p0_4), .val (.int p0_5), .val (.int (v0_7 p0_1)), .val (.int (v0_13 p0_5)), .val (.ref b2), .val (.ref b14), .val (.ref b32), .val (.ref b43), .unset, .unset] [(.ref b43), (.int (3 : Int32)), (.ref b14)])) _
      refine XS.iconst X266.here hx rfl (hb hby at_131) ?_
      show Steps p.tables e below (T266.setTop (mkF m 132 #[.val (.long p0_0), .second, .val (.int p0_1), .val (.int p0_2), .val (.int p0_3), .val (.int p0_4), .val (.int p0_5), .val (.int (v0_7 p0_1)), .val (.int (v0_13 p0_5)), .val (.ref b2), .val (.ref b14), .val (.ref b32), .val (.ref b43), .unset, .unset] [(.int (4 : Int32)), (.ref b43), (.int (3 : Int32)), (.ref b14)])) _
      exact k)
    obtain ⟨cq275, kq275, qa275, qb275, qc275⟩ := isOf hZ rfl Ex270
    obtain ⟨_, _, ⟨T275, L275, k275, n275⟩, -, X275, ⟨Lc275, hQ275, l275, y275, z275⟩, st275⟩ := X266.virtualBack hx (y := (⟨"com/example/consigliere/consigliere/engine/Rng", "nextInt", "(I)I"⟩ : MethodName)) (z := (⟨"com/example/consigliere/consigliere/engine/Rng", "nextInt", "(I)I"⟩ : MethodName)) hown (mvT hZ (hw _ (List.mem_of_getElem? (i := 32) rfl))) (mvT hZ (hw _ (List.mem_of_getElem? (i := 19) rfl))) (notFace_of_selects (args := #[]) (mvT hZ (hw _ (List.mem_of_getElem? (i := 21) rfl)))) (mvT hZ (hw _ (List.mem_of_getElem? (i := 21) rfl))) (mvT hZ (hw _ (List.mem_of_getElem? (i := 20) rfl))) (by decide) (backOf (W := 2) (rm4 l Z a0 hw [] b43 (4 : Int32) (JJ (own_it ((JJ p0_0 (5 : Int32)) + 1) p0_0) (4 : Int32)) (own_it ((JJ p0_0 (5 : Int32)) + 1) p0_0) T266.heap n0 Z266 (by decide) (hJ (own_it ((JJ p0_0 (5 : Int32)) + 1) p0_0) _ (by decide)).1 (hJ (own_it ((JJ p0_0 (5 : Int32)) + 1) p0_0) _ (by decide)).2 Ex270 F271 g_b43) hZ (hw _ (List.mem_of_getElem? (i := 22) rfl)) (hw _ (List.mem_of_getElem? (i := 4) rfl)) (by decide) (by decide)) qa275 qc275 (g := (mkF m 132 #[.val (.long p0_0), .second, .val (.int p0_1), .val (.int p0_2), .val (.int p0_3), .val (.int p0_4), .val (.int p0_5), .val (.int (v0_7 p0_1)), .val (.int (v0_13 p0_5)), .val (.ref b2), .val (.ref b14), .val (.ref b32), .val (.ref b43), .unset, .unset] [(.int (4 : Int32)), (.ref b43), (.int (3 : Int32)), (.ref b14)])) rfl (by rw [hml]; rfl) (Steps.refl _) (argsL := [(.int (4 : Int32))]) (rest := [(.int (3 : Int32)), (.ref b14)]) (lenOf pd_1 rfl) rfl (by show 2 * 0 + _ ≤ _; exact Nat.le_of_eq rfl) (hb hby at_132) (fun _ _ => ⟨rfl, rfl, (by decide : 4 + 0 ≤ _), (by decide : 12 + 0 ≤ _)⟩)
    dsimp only [Pt.U, Pt.locs, Pt.cells, Pt.slots] at X275 l275 y275 z275 st275 hQ275
    rw [l275, y275, z275] at X275
    obtain ⟨rfl, M275, K275c, P275_0⟩ := hQ275
    have N275 := Fr.app N266 M275
    have K275 : Keep T266.heap T275.heap [b43] := K275c
    have Z275 : n0 ≤ T275.heap.size := Nat.le_trans Z266 K275.1
    have Ar276 : ArI Z T275.heap b2 .int 5 (own_sh JJ (own_k p0_1) p0_0 (g0_41 p0_2 p0_3 p0_4 p0_5)).2 := Ar267.keep K275 (ninS ne_b2_b43 nin0)
    have Ar277 : ArI Z T275.heap b14 .int 5 (g0_117 p0_0 p0_2 p0_3 p0_4 p0_5 JJ) := C272.keep K275 (ninS ne_b14_b43 nin0)
    have Ex278 : Exa Z T275.heap b32 "com/example/consigliere/consigliere/engine/Rng" := Ex268.keep K275
    have F279 : Fld Z T275.heap b32 "com/example/consigliere/consigliere/engine/Rng" "state" "J" (.long (own_sh JJ (own_k p0_1) p0_0 (g0_41 p0_2 p0_3 p0_4 p0_5)).1) := F269.keep K275 (ninS ne_b32_b43 nin0)
    have Ex280 : Exa Z T275.heap b43 "com/example/consigliere/consigliere/engine/Rng" := Ex270.keep K275
    have F281 : Fld Z T275.heap b43 "com/example/consigliere/consigliere/engine/Rng" "state" "J" (.long (w0_132_state p0_0 JJ)) := P275_0
    replace X275 : Stand p l e room_1 s m #[(.long p0_0), (.int p0_1), (.int p0_2), (.int p0_3), (.int p0_4), (.int p0_5)] below meth c T275 _ 4 12 := X275
    have pre275 : ∀ t, Steps p.tables e below (T275.setTop (mkF m 135 #[.val (.long p0_0), .second, .val (.int p0_1), .val (.int p0_2), .val (.int p0_3), .val (.int p0_4), .val (.int p0_5), .val (.int (v0_7 p0_1)), .val (.int (v0_13 p0_5)), .val (.ref b2), .val (.ref b14), .val (.ref b32), .val (.ref b43), .unset, .unset] [(.int (c0_132 p0_0 JJ)), (.int (3 : Int32)), (.ref b14)])) t → Steps p.tables e below (s₁.setTop (entryFrame m #[(.long p0_0), (.int p0_1), (.int p0_2), (.int p0_3), (.int p0_4), (.int p0_5)] maxLocals)) t := fun t k => pre274 t (st275.trans k)
    obtain ⟨_, _, ⟨T282, L282, k282, n282⟩, -, X282, ⟨Lc282, hQ282, l282, y282, z282⟩, st282⟩ := Jvm.LawKit.callS X275 hx (y := (⟨"com/example/consigliere/consigliere/engine/RngShufflePinLaw", "swap", "([III)V"⟩ : MethodName)) hown (mvT hZ (hw _ (List.mem_of_getElem? (i := 33) rfl))) (mvT hZ (hw _ (List.mem_of_getElem? (i := 34) rfl))) (mvT hZ (hw _ (List.mem_of_getElem? (i := 35) rfl))) (mvT hZ (hw _ (List.mem_of_getElem? (i := 36) rfl))) (by decide) (backOf (W := 0) (rm6 l Z a0 hw [] b14 (3 : Int32) (c0_132 p0_0 JJ) 3 (((c0_132 p0_0 JJ)).toNatClampNeg) 5 (g0_117 p0_0 p0_2 p0_3 p0_4 p0_5 JJ) T275.heap n0 Z275 (by decide) (by decide) ⟨(own_rb JJ hJ _ (4 : Int32) (by decide)).1, rfl⟩ (Nat.lt_of_lt_of_le (own_rb JJ hJ _ (4 : Int32) (by decide)).2 (by decide)) g_b14 Ar277) hZ (hw _ (List.mem_of_getElem? (i := 36) rfl)) (hw _ (List.mem_of_getElem? (i := 35) rfl)) (by decide) (by decide)) (g := (mkF m 135 #[.val (.long p0_0), .second, .val (.int p0_1), .val (.int p0_2), .val (.int p0_3), .val (.int p0_4), .val (.int p0_5), .val (.int (v0_7 p0_1)), .val (.int (v0_13 p0_5)), .val (.ref b2), .val (.ref b14), .val (.ref b32), .val (.ref b43), .unset, .unset] [(.int (c0_132 p0_0 JJ)), (.int (3 : Int32)), (.ref b14)])) rfl (by rw [hml]; rfl) (argsL := [(.ref b14), (.int (3 : Int32)), (.int (c0_132 p0_0 JJ))]) (rest := []) (lenOf pd_4 rfl) rfl (by show 2 * 0 + _ ≤ _; exact Nat.le_of_eq rfl) (hb hby at_135) (fun _ _ => ⟨rfl, rfl, (by decide : 4 + 0 ≤ _), (by decide : 12 + 0 ≤ _)⟩)
    dsimp only [Pt.U, Pt.locs, Pt.cells, Pt.slots] at X282 l282 y282 z282 st282 hQ282
    rw [l282, y282, z282] at X282
    obtain ⟨rfl, M282, K282c, P282_0⟩ := hQ282
    have N282 := Fr.app N275 M282
    have K282 : Keep T275.heap T282.heap [b14] := K282c
    have Z282 : n0 ≤ T282.heap.size := Nat.le_trans Z275 K282.1
    have Ar283 : ArI Z T282.heap b2 .int 5 (own_sh JJ (own_k p0_1) p0_0 (g0_41 p0_2 p0_3 p0_4 p0_5)).2 := Ar276.keep K282 (ninS ne_b2_b14 nin0)
    have Ex284 : Exa Z T282.heap b32 "com/example/consigliere/consigliere/engine/Rng" := Ex278.keep K282
    have F285 : Fld Z T282.heap b32 "com/example/consigliere/consigliere/engine/Rng" "state" "J" (.long (own_sh JJ (own_k p0_1) p0_0 (g0_41 p0_2 p0_3 p0_4 p0_5)).1) := F279.keep K282 (ninS (Ne.symm ne_b14_b32) nin0)
    have Ex286 : Exa Z T282.heap b43 "com/example/consigliere/consigliere/engine/Rng" := Ex280.keep K282
    have F287 : Fld Z T282.heap b43 "com/example/consigliere/consigliere/engine/Rng" "state" "J" (.long (w0_132_state p0_0 JJ)) := F281.keep K282 (ninS (Ne.symm ne_b14_b43) nin0)
    have C288 : ArI Z T282.heap b14 .int 5 (g0_135_1 p0_0 p0_2 p0_3 p0_4 p0_5 JJ) := P282_0
    replace X282 : Stand p l e room_1 s m #[(.long p0_0), (.int p0_1), (.int p0_2), (.int p0_3), (.int p0_4), (.int p0_5)] below meth c T282 _ 4 12 := X282
    have pre282 : ∀ t, Steps p.tables e below (T282.setTop (mkF m 138 #[.val (.long p0_0), .second, .val (.int p0_1), .val (.int p0_2), .val (.int p0_3), .val (.int p0_4), .val (.int p0_5), .val (.int (v0_7 p0_1)), .val (.int (v0_13 p0_5)), .val (.ref b2), .val (.ref b14), .val (.ref b32), .val (.ref b43), .unset, .unset] [])) t → Steps p.tables e below (s₁.setTop (entryFrame m #[(.long p0_0), (.int p0_1), (.int p0_2), (.int p0_3), (.int p0_4), (.int p0_5)] maxLocals)) t := fun t k => pre275 t (st282 t k)
    have pre290 : ∀ t, Steps p.tables e below (T282.setTop (mkF m 150 #[.val (.long p0_0), .second, .val (.int p0_1), .val (.int p0_2), .val (.int p0_3), .val (.int p0_4), .val (.int p0_5), .val (.int (v0_7 p0_1)), .val (.int (v0_13 p0_5)), .val (.ref b2), .val (.ref b14), .val (.ref b32), .val (.ref b43), .unset, .unset] [(.int (3 : Int32)), (.ref b43), (.int (2 : Int32)), (.ref b14)])) t → Steps p.tables e below (s₁.setTop (entryFrame m #[(.long p0_0), (.int p0_1), (.int p0_2), (.int p0_3), (.int p0_4), (.int p0_5)] maxLocals)) t := fun t k => pre282 t (by
      refine XS.iload X282.here hx rfl (hb hby at_138) rfl ?_
      show Steps p.tables e below (T282.setTop (mkF m 140 #[.val (.long p0_0), .second, .val (.int p0_1), .val (.int p0_2), .val (.int p0_3), .val (.int p0_4), .val (.int p0_5), .val (.int (v0_7 p0_1)), .val (.int (v0_13 p0_5)), .val (.ref b2), .val (.ref b14), .val (.ref b32), .val (.ref b43), .unset, .unset] [(.int (v0_7 p0_1))])) _
      refine XS.iconst X282.here hx rfl (hb hby at_140) ?_
      show Steps p.tables e below (T282.setTop (mkF m 141 #[.val (.long p0_0), .second, .val (.int p0_1), .val (.int p0_2), .val (.int p0_3), .val (.int p0_4), .val (.int p0_5), .val (.int (v0_7 p0_1)), .val (.int (v0_13 p0_5)), .val (.ref b2), .val (.ref b14), .val (.ref b32), .val (.ref b43), .unset, .unset] [(.int (3 : Int32)), (.int (v0_7 p0_1))])) _
      refine XS.icmpNo X282.here hx rfl (hb hby at_141) rfl (flt (show ¬ ((v0_7 p0_1) < (3 : Int32)) from (own_up p0_1 hc105_66 (by decide)))).1 ?_
      show Steps p.tables e below (T282.setTop (mkF m 144 #[.val (.long p0_0), .second, .val (.int p0_1), .val (.int p0_2), .val (.int p0_3), .val (.int p0_4), .val (.int p0_5), .val (.int (v0_7 p0_1)), .val (.int (v0_13 p0_5)), .val (.ref b2), .val (.ref b14), .val (.ref b32), .val (.ref b43), .unset, .unset] [])) _
      refine XS.aload X282.here hx rfl (hb hby at_144) rfl rfl ?_
      show Steps p.tables e below (T282.setTop (mkF m 146 #[.val (.long p0_0), .second, .val (.int p0_1), .val (.int p0_2), .val (.int p0_3), .val (.int p0_4), .val (.int p0_5), .val (.int (v0_7 p0_1)), .val (.int (v0_13 p0_5)), .val (.ref b2), .val (.ref b14), .val (.ref b32), .val (.ref b43), .unset, .unset] [(.ref b14)])) _
      refine XS.iconst X282.here hx rfl (hb hby at_146) ?_
      show Steps p.tables e below (T282.setTop (mkF m 147 #[.val (.long p0_0), .second, .val (.int p0_1), .val (.int p0_2), .val (.int p0_3), .val (.int p0_4), .val (.int p0_5), .val (.int (v0_7 p0_1)), .val (.int (v0_13 p0_5)), .val (.ref b2), .val (.ref b14), .val (.ref b32), .val (.ref b43), .unset, .unset] [(.int (2 : Int32)), (.ref b14)])) _
      refine XS.aload X282.here hx rfl (hb hby at_147) rfl rfl ?_
      show Steps p.tables e below (T282.setTop (mkF m 149 #[.val (.long p0_0), .second, .val (.int p0_1), .val (.int p0_2), .val (.int p0_3), .val (.int p0_4), .val (.int p0_5), .val (.int (v0_7 p0_1)), .val (.int (v0_13 p0_5)), .val (.ref b2), .val (.ref b14), .val (.ref b32), .val (.ref b43), .unset, .unset] [(.ref b43), (.int (2 : Int32)), (.ref b14)])) _
      refine XS.iconst X282.here hx rfl (hb hby at_149) ?_
      show Steps p.tables e below (T282.setTop (mkF m 150 #[.val (.long p0_0), .second, .val (.int p0_1), .val (.int p0_2), .val (.int p0_3), .val (.int p0_4), .val (.int p0_5), .val (.int (v0_7 p0_1)), .val (.int (v0_13 p0_5)), .val (.ref b2), .val (.ref b14), .val (.ref b32), .val (.ref b43), .unset, .unset] [(.int (3 : Int32)), (.ref b43), (.int (2 : Int32)), (.ref b14)])) _
      exact k)
    obtain ⟨cq291, kq291, qa291, qb291, qc291⟩ := isOf hZ rfl Ex286
    obtain ⟨_, _, ⟨T291, L291, k291, n291⟩, -, X291, ⟨Lc291, hQ291, l291, y291, z291⟩, st291⟩ := X282.virtualBack hx (y := (⟨"com/example/consigliere/consigliere/engine/Rng", "nextInt", "(I)I"⟩ : MethodName)) (z := (⟨"com/example/consigliere/consigliere/engine/Rng", "nextInt", "(I)I"⟩ : MethodName)) hown (mvT hZ (hw _ (List.mem_of_getElem? (i := 32) rfl))) (mvT hZ (hw _ (List.mem_of_getElem? (i := 19) rfl))) (notFace_of_selects (args := #[]) (mvT hZ (hw _ (List.mem_of_getElem? (i := 21) rfl)))) (mvT hZ (hw _ (List.mem_of_getElem? (i := 21) rfl))) (mvT hZ (hw _ (List.mem_of_getElem? (i := 20) rfl))) (by decide) (backOf (W := 2) (rm4 l Z a0 hw [] b43 (3 : Int32) (JJ (w0_132_state p0_0 JJ) (3 : Int32)) (w0_132_state p0_0 JJ) T282.heap n0 Z282 (by decide) (hJ (w0_132_state p0_0 JJ) _ (by decide)).1 (hJ (w0_132_state p0_0 JJ) _ (by decide)).2 Ex286 F287 g_b43) hZ (hw _ (List.mem_of_getElem? (i := 22) rfl)) (hw _ (List.mem_of_getElem? (i := 4) rfl)) (by decide) (by decide)) qa291 qc291 (g := (mkF m 150 #[.val (.long p0_0), .second, .val (.int p0_1), .val (.int p0_2), .val (.int p0_3), .val (.int p0_4), .val (.int p0_5), .val (.int (v0_7 p0_1)), .val (.int (v0_13 p0_5)), .val (.ref b2), .val (.ref b14), .val (.ref b32), .val (.ref b43), .unset, .unset] [(.int (3 : Int32)), (.ref b43), (.int (2 : Int32)), (.ref b14)])) rfl (by rw [hml]; rfl) (Steps.refl _) (argsL := [(.int (3 : Int32))]) (rest := [(.int (2 : Int32)), (.ref b14)]) (lenOf pd_1 rfl) rfl (by show 2 * 0 + _ ≤ _; exact Nat.le_of_eq rfl) (hb hby at_150) (fun _ _ => ⟨rfl, rfl, (by decide : 4 + 0 ≤ _), (by decide : 12 + 0 ≤ _)⟩)
    dsimp only [Pt.U, Pt.locs, Pt.cells, Pt.slots] at X291 l291 y291 z291 st291 hQ291
    rw [l291, y291, z291] at X291
    obtain ⟨rfl, M291, K291c, P291_0⟩ := hQ291
    have N291 := Fr.app N282 M291
    have K291 : Keep T282.heap T291.heap [b43] := K291c
    have Z291 : n0 ≤ T291.heap.size := Nat.le_trans Z282 K291.1
    have Ar292 : ArI Z T291.heap b2 .int 5 (own_sh JJ (own_k p0_1) p0_0 (g0_41 p0_2 p0_3 p0_4 p0_5)).2 := Ar283.keep K291 (ninS ne_b2_b43 nin0)
    have Ar293 : ArI Z T291.heap b14 .int 5 (g0_135_1 p0_0 p0_2 p0_3 p0_4 p0_5 JJ) := C288.keep K291 (ninS ne_b14_b43 nin0)
    have Ex294 : Exa Z T291.heap b32 "com/example/consigliere/consigliere/engine/Rng" := Ex284.keep K291
    have F295 : Fld Z T291.heap b32 "com/example/consigliere/consigliere/engine/Rng" "state" "J" (.long (own_sh JJ (own_k p0_1) p0_0 (g0_41 p0_2 p0_3 p0_4 p0_5)).1) := F285.keep K291 (ninS ne_b32_b43 nin0)
    have Ex296 : Exa Z T291.heap b43 "com/example/consigliere/consigliere/engine/Rng" := Ex286.keep K291
    have F297 : Fld Z T291.heap b43 "com/example/consigliere/consigliere/engine/Rng" "state" "J" (.long (w0_150_state_1 p0_0 JJ)) := P291_0
    replace X291 : Stand p l e room_1 s m #[(.long p0_0), (.int p0_1), (.int p0_2), (.int p0_3), (.int p0_4), (.int p0_5)] below meth c T291 _ 4 12 := X291
    have pre291 : ∀ t, Steps p.tables e below (T291.setTop (mkF m 153 #[.val (.long p0_0), .second, .val (.int p0_1), .val (.int p0_2), .val (.int p0_3), .val (.int p0_4), .val (.int p0_5), .val (.int (v0_7 p0_1)), .val (.int (v0_13 p0_5)), .val (.ref b2), .val (.ref b14), .val (.ref b32), .val (.ref b43), .unset, .unset] [(.int (c0_150_1 p0_0 JJ)), (.int (2 : Int32)), (.ref b14)])) t → Steps p.tables e below (s₁.setTop (entryFrame m #[(.long p0_0), (.int p0_1), (.int p0_2), (.int p0_3), (.int p0_4), (.int p0_5)] maxLocals)) t := fun t k => pre290 t (st291.trans k)
    obtain ⟨_, _, ⟨T298, L298, k298, n298⟩, -, X298, ⟨Lc298, hQ298, l298, y298, z298⟩, st298⟩ := Jvm.LawKit.callS X291 hx (y := (⟨"com/example/consigliere/consigliere/engine/RngShufflePinLaw", "swap", "([III)V"⟩ : MethodName)) hown (mvT hZ (hw _ (List.mem_of_getElem? (i := 33) rfl))) (mvT hZ (hw _ (List.mem_of_getElem? (i := 34) rfl))) (mvT hZ (hw _ (List.mem_of_getElem? (i := 35) rfl))) (mvT hZ (hw _ (List.mem_of_getElem? (i := 36) rfl))) (by decide) (backOf (W := 0) (rm6 l Z a0 hw [] b14 (2 : Int32) (c0_150_1 p0_0 JJ) 2 (((c0_150_1 p0_0 JJ)).toNatClampNeg) 5 (g0_135_1 p0_0 p0_2 p0_3 p0_4 p0_5 JJ) T291.heap n0 Z291 (by decide) (by decide) ⟨(own_rb JJ hJ _ (3 : Int32) (by decide)).1, rfl⟩ (Nat.lt_of_lt_of_le (own_rb JJ hJ _ (3 : Int32) (by decide)).2 (by decide)) g_b14 Ar293) hZ (hw _ (List.mem_of_getElem? (i := 36) rfl)) (hw _ (List.mem_of_getElem? (i := 35) rfl)) (by decide) (by decide)) (g := (mkF m 153 #[.val (.long p0_0), .second, .val (.int p0_1), .val (.int p0_2), .val (.int p0_3), .val (.int p0_4), .val (.int p0_5), .val (.int (v0_7 p0_1)), .val (.int (v0_13 p0_5)), .val (.ref b2), .val (.ref b14), .val (.ref b32), .val (.ref b43), .unset, .unset] [(.int (c0_150_1 p0_0 JJ)), (.int (2 : Int32)), (.ref b14)])) rfl (by rw [hml]; rfl) (argsL := [(.ref b14), (.int (2 : Int32)), (.int (c0_150_1 p0_0 JJ))]) (rest := []) (lenOf pd_4 rfl) rfl (by show 2 * 0 + _ ≤ _; exact Nat.le_of_eq rfl) (hb hby at_153) (fun _ _ => ⟨rfl, rfl, (by decide : 4 + 0 ≤ _), (by decide : 12 + 0 ≤ _)⟩)
    dsimp only [Pt.U, Pt.locs, Pt.cells, Pt.slots] at X298 l298 y298 z298 st298 hQ298
    rw [l298, y298, z298] at X298
    obtain ⟨rfl, M298, K298c, P298_0⟩ := hQ298
    have N298 := Fr.app N291 M298
    have K298 : Keep T291.heap T298.heap [b14] := K298c
    have Z298 : n0 ≤ T298.heap.size := Nat.le_trans Z291 K298.1
    have Ar299 : ArI Z T298.heap b2 .int 5 (own_sh JJ (own_k p0_1) p0_0 (g0_41 p0_2 p0_3 p0_4 p0_5)).2 := Ar292.keep K298 (ninS ne_b2_b14 nin0)
    have Ex300 : Exa Z T298.heap b32 "com/example/consigliere/consigliere/engine/Rng" := Ex294.keep K298
    have F301 : Fld Z T298.heap b32 "com/example/consigliere/consigliere/engine/Rng" "state" "J" (.long (own_sh JJ (own_k p0_1) p0_0 (g0_41 p0_2 p0_3 p0_4 p0_5)).1) := F295.keep K298 (ninS (Ne.symm ne_b14_b32) nin0)
    have Ex302 : Exa Z T298.heap b43 "com/example/consigliere/consigliere/engine/Rng" := Ex296.keep K298
    have F303 : Fld Z T298.heap b43 "com/example/consigliere/consigliere/engine/Rng" "state" "J" (.long (w0_150_state_1 p0_0 JJ)) := F297.keep K298 (ninS (Ne.symm ne_b14_b43) nin0)
    have C304 : ArI Z T298.heap b14 .int 5 (g0_153_2 p0_0 p0_2 p0_3 p0_4 p0_5 JJ) := P298_0
    replace X298 : Stand p l e room_1 s m #[(.long p0_0), (.int p0_1), (.int p0_2), (.int p0_3), (.int p0_4), (.int p0_5)] below meth c T298 _ 4 12 := X298
    have pre298 : ∀ t, Steps p.tables e below (T298.setTop (mkF m 156 #[.val (.long p0_0), .second, .val (.int p0_1), .val (.int p0_2), .val (.int p0_3), .val (.int p0_4), .val (.int p0_5), .val (.int (v0_7 p0_1)), .val (.int (v0_13 p0_5)), .val (.ref b2), .val (.ref b14), .val (.ref b32), .val (.ref b43), .unset, .unset] [])) t → Steps p.tables e below (s₁.setTop (entryFrame m #[(.long p0_0), (.int p0_1), (.int p0_2), (.int p0_3), (.int p0_4), (.int p0_5)] maxLocals)) t := fun t k => pre291 t (st298 t k)
    have pre306 : ∀ t, Steps p.tables e below (T298.setTop (mkF m 168 #[.val (.long p0_0), .second, .val (.int p0_1), .val (.int p0_2), .val (.int p0_3), .val (.int p0_4), .val (.int p0_5), .val (.int (v0_7 p0_1)), .val (.int (v0_13 p0_5)), .val (.ref b2), .val (.ref b14), .val (.ref b32), .val (.ref b43), .unset, .unset] [(.int (2 : Int32)), (.ref b43), (.int (1 : Int32)), (.ref b14)])) t → Steps p.tables e below (s₁.setTop (entryFrame m #[(.long p0_0), (.int p0_1), (.int p0_2), (.int p0_3), (.int p0_4), (.int p0_5)] maxLocals)) t := fun t k => pre298 t (by
      refine XS.iload X298.here hx rfl (hb hby at_156) rfl ?_
      show Steps p.tables e below (T298.setTop (mkF m 158 #[.val (.long p0_0), .second, .val (.int p0_1), .val (.int p0_2), .val (.int p0_3), .val (.int p0_4), .val (.int p0_5), .val (.int (v0_7 p0_1)), .val (.int (v0_13 p0_5)), .val (.ref b2), .val (.ref b14), .val (.ref b32), .val (.ref b43), .unset, .unset] [(.int (v0_7 p0_1))])) _
      refine XS.iconst X298.here hx rfl (hb hby at_158) ?_
      show Steps p.tables e below (T298.setTop (mkF m 159 #[.val (.long p0_0), .second, .val (.int p0_1), .val (.int p0_2), .val (.int p0_3), .val (.int p0_4), .val (.int p0_5), .val (.int (v0_7 p0_1)), .val (.int (v0_13 p0_5)), .val (.ref b2), .val (.ref b14), .val (.ref b32), .val (.ref b43), .unset, .unset] [(.int (2 : Int32)), (.int (v0_7 p0_1))])) _
      refine XS.icmpNo X298.here hx rfl (hb hby at_159) rfl (flt (show ¬ ((v0_7 p0_1) < (2 : Int32)) from (own_up p0_1 hc105_66 (by decide)))).1 ?_
      show Steps p.tables e below (T298.setTop (mkF m 162 #[.val (.long p0_0), .second, .val (.int p0_1), .val (.int p0_2), .val (.int p0_3), .val (.int p0_4), .val (.int p0_5), .val (.int (v0_7 p0_1)), .val (.int (v0_13 p0_5)), .val (.ref b2), .val (.ref b14), .val (.ref b32), .val (.ref b43), .unset, .unset] [])) _
      refine XS.aload X298.here hx rfl (hb hby at_162) rfl rfl ?_
      show Steps p.tables e below (T298.setTop (mkF m 164 #[.val (.long p0_0), .second, .val (.int p0_1), .val (.int p0_2), .val (.int p0_3), .val (.int p0_4), .val (.int p0_5), .val (.int (v0_7 p0_1)), .val (.int (v0_13 p0_5)), .val (.ref b2), .val (.ref b14), .val (.ref b32), .val (.ref b43), .unset, .unset] [(.ref b14)])) _
      refine XS.iconst X298.here hx rfl (hb hby at_164) ?_
      show Steps p.tables e below (T298.setTop (mkF m 165 #[.val (.long p0_0), .second, .val (.int p0_1), .val (.int p0_2), .val (.int p0_3), .val (.int p0_4), .val (.int p0_5), .val (.int (v0_7 p0_1)), .val (.int (v0_13 p0_5)), .val (.ref b2), .val (.ref b14), .val (.ref b32), .val (.ref b43), .unset, .unset] [(.int (1 : Int32)), (.ref b14)])) _
      refine XS.aload X298.here hx rfl (hb hby at_165) rfl rfl ?_
      show Steps p.tables e below (T298.setTop (mkF m 167 #[.val (.long p0_0), .second, .val (.int p0_1), .val (.int p0_2), .val (.int p0_3), .val (.int p0_4), .val (.int p0_5), .val (.int (v0_7 p0_1)), .val (.int (v0_13 p0_5)), .val (.ref b2), .val (.ref b14), .val (.ref b32), .val (.ref b43), .unset, .unset] [(.ref b43), (.int (1 : Int32)), (.ref b14)])) _
      refine XS.iconst X298.here hx rfl (hb hby at_167) ?_
      show Steps p.tables e below (T298.setTop (mkF m 168 #[.val (.long p0_0), .second, .val (.int p0_1), .val (.int p0_2), .val (.int p0_3), .val (.int p0_4), .val (.int p0_5), .val (.int (v0_7 p0_1)), .val (.int (v0_13 p0_5)), .val (.ref b2), .val (.ref b14), .val (.ref b32), .val (.ref b43), .unset, .unset] [(.int (2 : Int32)), (.ref b43), (.int (1 : Int32)), (.ref b14)])) _
      exact k)
    obtain ⟨cq307, kq307, qa307, qb307, qc307⟩ := isOf hZ rfl Ex302
    obtain ⟨_, _, ⟨T307, L307, k307, n307⟩, -, X307, ⟨Lc307, hQ307, l307, y307, z307⟩, st307⟩ := X298.virtualBack hx (y := (⟨"com/example/consigliere/consigliere/engine/Rng", "nextInt", "(I)I"⟩ : MethodName)) (z := (⟨"com/example/consigliere/consigliere/engine/Rng", "nextInt", "(I)I"⟩ : MethodName)) hown (mvT hZ (hw _ (List.mem_of_getElem? (i := 32) rfl))) (mvT hZ (hw _ (List.mem_of_getElem? (i := 19) rfl))) (notFace_of_selects (args := #[]) (mvT hZ (hw _ (List.mem_of_getElem? (i := 21) rfl)))) (mvT hZ (hw _ (List.mem_of_getElem? (i := 21) rfl))) (mvT hZ (hw _ (List.mem_of_getElem? (i := 20) rfl))) (by decide) (backOf (W := 2) (rm4 l Z a0 hw [] b43 (2 : Int32) (JJ (w0_150_state_1 p0_0 JJ) (2 : Int32)) (w0_150_state_1 p0_0 JJ) T298.heap n0 Z298 (by decide) (hJ (w0_150_state_1 p0_0 JJ) _ (by decide)).1 (hJ (w0_150_state_1 p0_0 JJ) _ (by decide)).2 Ex302 F303 g_b43) hZ (hw _ (List.mem_of_getElem? (i := 22) rfl)) (hw _ (List.mem_of_getElem? (i := 4) rfl)) (by decide) (by decide)) qa307 qc307 (g := (mkF m 168 #[.val (.long p0_0), .second, .val (.int p0_1), .val (.int p0_2), .val (.int p0_3), .val (.int p0_4), .val (.int p0_5), .val (.int (v0_7 p0_1)), .val (.int (v0_13 p0_5)), .val (.ref b2), .val (.ref b14), .val (.ref b32), .val (.ref b43), .unset, .unset] [(.int (2 : Int32)), (.ref b43), (.int (1 : Int32)), (.ref b14)])) rfl (by rw [hml]; rfl) (Steps.refl _) (argsL := [(.int (2 : Int32))]) (rest := [(.int (1 : Int32)), (.ref b14)]) (lenOf pd_1 rfl) rfl (by show 2 * 0 + _ ≤ _; exact Nat.le_of_eq rfl) (hb hby at_168) (fun _ _ => ⟨rfl, rfl, (by decide : 4 + 0 ≤ _), (by decide : 12 + 0 ≤ _)⟩)
    dsimp only [Pt.U, Pt.locs, Pt.cells, Pt.slots] at X307 l307 y307 z307 st307 hQ307
    rw [l307, y307, z307] at X307
    obtain ⟨rfl, M307, K307c, P307_0⟩ := hQ307
    have N307 := Fr.app N298 M307
    have K307 : Keep T298.heap T307.heap [b43] := K307c
    have Z307 : n0 ≤ T307.heap.size := Nat.le_trans Z298 K307.1
    have Ar308 : ArI Z T307.heap b2 .int 5 (own_sh JJ (own_k p0_1) p0_0 (g0_41 p0_2 p0_3 p0_4 p0_5)).2 := Ar299.keep K307 (ninS ne_b2_b43 nin0)
    have Ar309 : ArI Z T307.heap b14 .int 5 (g0_153_2 p0_0 p0_2 p0_3 p0_4 p0_5 JJ) := C304.keep K307 (ninS ne_b14_b43 nin0)
    have Ex310 : Exa Z T307.heap b32 "com/example/consigliere/consigliere/engine/Rng" := Ex300.keep K307
    have F311 : Fld Z T307.heap b32 "com/example/consigliere/consigliere/engine/Rng" "state" "J" (.long (own_sh JJ (own_k p0_1) p0_0 (g0_41 p0_2 p0_3 p0_4 p0_5)).1) := F301.keep K307 (ninS ne_b32_b43 nin0)
    have Ex312 : Exa Z T307.heap b43 "com/example/consigliere/consigliere/engine/Rng" := Ex302.keep K307
    have F313 : Fld Z T307.heap b43 "com/example/consigliere/consigliere/engine/Rng" "state" "J" (.long (w0_168_state_2 p0_0 JJ)) := P307_0
    replace X307 : Stand p l e room_1 s m #[(.long p0_0), (.int p0_1), (.int p0_2), (.int p0_3), (.int p0_4), (.int p0_5)] below meth c T307 _ 4 12 := X307
    have pre307 : ∀ t, Steps p.tables e below (T307.setTop (mkF m 171 #[.val (.long p0_0), .second, .val (.int p0_1), .val (.int p0_2), .val (.int p0_3), .val (.int p0_4), .val (.int p0_5), .val (.int (v0_7 p0_1)), .val (.int (v0_13 p0_5)), .val (.ref b2), .val (.ref b14), .val (.ref b32), .val (.ref b43), .unset, .unset] [(.int (c0_168_2 p0_0 JJ)), (.int (1 : Int32)), (.ref b14)])) t → Steps p.tables e below (s₁.setTop (entryFrame m #[(.long p0_0), (.int p0_1), (.int p0_2), (.int p0_3), (.int p0_4), (.int p0_5)] maxLocals)) t := fun t k => pre306 t (st307.trans k)
    obtain ⟨_, _, ⟨T314, L314, k314, n314⟩, -, X314, ⟨Lc314, hQ314, l314, y314, z314⟩, st314⟩ := Jvm.LawKit.callS X307 hx (y := (⟨"com/example/consigliere/consigliere/engine/RngShufflePinLaw", "swap", "([III)V"⟩ : MethodName)) hown (mvT hZ (hw _ (List.mem_of_getElem? (i := 33) rfl))) (mvT hZ (hw _ (List.mem_of_getElem? (i := 34) rfl))) (mvT hZ (hw _ (List.mem_of_getElem? (i := 35) rfl))) (mvT hZ (hw _ (List.mem_of_getElem? (i := 36) rfl))) (by decide) (backOf (W := 0) (rm6 l Z a0 hw [] b14 (1 : Int32) (c0_168_2 p0_0 JJ) 1 (((c0_168_2 p0_0 JJ)).toNatClampNeg) 5 (g0_153_2 p0_0 p0_2 p0_3 p0_4 p0_5 JJ) T307.heap n0 Z307 (by decide) (by decide) ⟨(own_rb JJ hJ _ (2 : Int32) (by decide)).1, rfl⟩ (Nat.lt_of_lt_of_le (own_rb JJ hJ _ (2 : Int32) (by decide)).2 (by decide)) g_b14 Ar309) hZ (hw _ (List.mem_of_getElem? (i := 36) rfl)) (hw _ (List.mem_of_getElem? (i := 35) rfl)) (by decide) (by decide)) (g := (mkF m 171 #[.val (.long p0_0), .second, .val (.int p0_1), .val (.int p0_2), .val (.int p0_3), .val (.int p0_4), .val (.int p0_5), .val (.int (v0_7 p0_1)), .val (.int (v0_13 p0_5)), .val (.ref b2), .val (.ref b14), .val (.ref b32), .val (.ref b43), .unset, .unset] [(.int (c0_168_2 p0_0 JJ)), (.int (1 : Int32)), (.ref b14)])) rfl (by rw [hml]; rfl) (argsL := [(.ref b14), (.int (1 : Int32)), (.int (c0_168_2 p0_0 JJ))]) (rest := []) (lenOf pd_4 rfl) rfl (by show 2 * 0 + _ ≤ _; exact Nat.le_of_eq rfl) (hb hby at_171) (fun _ _ => ⟨rfl, rfl, (by decide : 4 + 0 ≤ _), (by decide : 12 + 0 ≤ _)⟩)
    dsimp only [Pt.U, Pt.locs, Pt.cells, Pt.slots] at X314 l314 y314 z314 st314 hQ314
    rw [l314, y314, z314] at X314
    obtain ⟨rfl, M314, K314c, P314_0⟩ := hQ314
    have N314 := Fr.app N307 M314
    have K314 : Keep T307.heap T314.heap [b14] := K314c
    have Z314 : n0 ≤ T314.heap.size := Nat.le_trans Z307 K314.1
    have Ar315 : ArI Z T314.heap b2 .int 5 (own_sh JJ (own_k p0_1) p0_0 (g0_41 p0_2 p0_3 p0_4 p0_5)).2 := Ar308.keep K314 (ninS ne_b2_b14 nin0)
    have Ex316 : Exa Z T314.heap b32 "com/example/consigliere/consigliere/engine/Rng" := Ex310.keep K314
    have F317 : Fld Z T314.heap b32 "com/example/consigliere/consigliere/engine/Rng" "state" "J" (.long (own_sh JJ (own_k p0_1) p0_0 (g0_41 p0_2 p0_3 p0_4 p0_5)).1) := F311.keep K314 (ninS (Ne.symm ne_b14_b32) nin0)
    have Ex318 : Exa Z T314.heap b43 "com/example/consigliere/consigliere/engine/Rng" := Ex312.keep K314
    have F319 : Fld Z T314.heap b43 "com/example/consigliere/consigliere/engine/Rng" "state" "J" (.long (w0_168_state_2 p0_0 JJ)) := F313.keep K314 (ninS (Ne.symm ne_b14_b43) nin0)
    have C320 : ArI Z T314.heap b14 .int 5 (g0_171_3 p0_0 p0_2 p0_3 p0_4 p0_5 JJ) := P314_0
    replace X314 : Stand p l e room_1 s m #[(.long p0_0), (.int p0_1), (.int p0_2), (.int p0_3), (.int p0_4), (.int p0_5)] below meth c T314 _ 4 12 := X314
    have pre314 : ∀ t, Steps p.tables e below (T314.setTop (mkF m 174 #[.val (.long p0_0), .second, .val (.int p0_1), .val (.int p0_2), .val (.int p0_3), .val (.int p0_4), .val (.int p0_5), .val (.int (v0_7 p0_1)), .val (.int (v0_13 p0_5)), .val (.ref b2), .val (.ref b14), .val (.ref b32), .val (.ref b43), .unset, .unset] [])) t → Steps p.tables e below (s₁.setTop (entryFrame m #[(.long p0_0), (.int p0_1), (.int p0_2), (.int p0_3), (.int p0_4), (.int p0_5)] maxLocals)) t := fun t k => pre307 t (st314 t k)
    have pre326 : ∀ t, Steps p.tables e below (T314.setTop (mkF m 238 #[.val (.long p0_0), .second, .val (.int p0_1), .val (.int p0_2), .val (.int p0_3), .val (.int p0_4), .val (.int p0_5), .val (.int (v0_7 p0_1)), .val (.int (v0_13 p0_5)), .val (.ref b2), .val (.ref b14), .val (.ref b32), .val (.ref b43), .val (.int (1 : Int32)), .unset] [(.ref b32)])) t → Steps p.tables e below (s₁.setTop (entryFrame m #[(.long p0_0), (.int p0_1), (.int p0_2), (.int p0_3), (.int p0_4), (.int p0_5)] maxLocals)) t := fun t k => pre314 t (by
      refine XS.aload X314.here hx rfl (hb hby at_174) rfl rfl ?_
      show Steps p.tables e below (T314.setTop (mkF m 176 #[.val (.long p0_0), .second, .val (.int p0_1), .val (.int p0_2), .val (.int p0_3), .val (.int p0_4), .val (.int p0_5), .val (.int (v0_7 p0_1)), .val (.int (v0_13 p0_5)), .val (.ref b2), .val (.ref b14), .val (.ref b32), .val (.ref b43), .unset, .unset] [(.ref b2)])) _
      refine XS.iconst X314.here hx rfl (hb hby at_176) ?_
      show Steps p.tables e below (T314.setTop (mkF m 177 #[.val (.long p0_0), .second, .val (.int p0_1), .val (.int p0_2), .val (.int p0_3), .val (.int p0_4), .val (.int p0_5), .val (.int (v0_7 p0_1)), .val (.int (v0_13 p0_5)), .val (.ref b2), .val (.ref b14), .val (.ref b32), .val (.ref b43), .unset, .unset] [(.int (0 : Int32)), (.ref b2)])) _
      refine own_ldI X314 hx hZ rfl Ar315 (j := (0 : Int32)) (i := 0) (by decide) (by decide) (g := (mkF m 177 #[.val (.long p0_0), .second, .val (.int p0_1), .val (.int p0_2), .val (.int p0_3), .val (.int p0_4), .val (.int p0_5), .val (.int (v0_7 p0_1)), .val (.int (v0_13 p0_5)), .val (.ref b2), .val (.ref b14), .val (.ref b32), .val (.ref b43), .unset, .unset] [(.int (0 : Int32)), (.ref b2)])) rfl rfl (hb hby at_177) _ ?_
      show Steps p.tables e below (T314.setTop (mkF m 178 #[.val (.long p0_0), .second, .val (.int p0_1), .val (.int p0_2), .val (.int p0_3), .val (.int p0_4), .val (.int p0_5), .val (.int (v0_7 p0_1)), .val (.int (v0_13 p0_5)), .val (.ref b2), .val (.ref b14), .val (.ref b32), .val (.ref b43), .unset, .unset] [(.int ((own_sh JJ (own_k p0_1) p0_0 (g0_41 p0_2 p0_3 p0_4 p0_5)).2 0))])) _
      refine XS.aload X314.here hx rfl (hb hby at_178) rfl rfl ?_
      show Steps p.tables e below (T314.setTop (mkF m 180 #[.val (.long p0_0), .second, .val (.int p0_1), .val (.int p0_2), .val (.int p0_3), .val (.int p0_4), .val (.int p0_5), .val (.int (v0_7 p0_1)), .val (.int (v0_13 p0_5)), .val (.ref b2), .val (.ref b14), .val (.ref b32), .val (.ref b43), .unset, .unset] [(.ref b14), (.int ((own_sh JJ (own_k p0_1) p0_0 (g0_41 p0_2 p0_3 p0_4 p0_5)).2 0))])) _
      refine XS.iconst X314.here hx rfl (hb hby at_180) ?_
      show Steps p.tables e below (T314.setTop (mkF m 181 #[.val (.long p0_0), .second, .val (.int p0_1), .val (.int p0_2), .val (.int p0_3), .val (.int p0_4), .val (.int p0_5), .val (.int (v0_7 p0_1)), .val (.int (v0_13 p0_5)), .val (.ref b2), .val (.ref b14), .val (.ref b32), .val (.ref b43), .unset, .unset] [(.int (0 : Int32)), (.ref b14), (.int ((own_sh JJ (own_k p0_1) p0_0 (g0_41 p0_2 p0_3 p0_4 p0_5)).2 0))])) _
      refine own_ldI X314 hx hZ rfl C320 (j := (0 : Int32)) (i := 0) (by decide) (by decide) (g := (mkF m 181 #[.val (.long p0_0), .second, .val (.int p0_1), .val (.int p0_2), .val (.int p0_3), .val (.int p0_4), .val (.int p0_5), .val (.int (v0_7 p0_1)), .val (.int (v0_13 p0_5)), .val (.ref b2), .val (.ref b14), .val (.ref b32), .val (.ref b43), .unset, .unset] [(.int (0 : Int32)), (.ref b14), (.int ((own_sh JJ (own_k p0_1) p0_0 (g0_41 p0_2 p0_3 p0_4 p0_5)).2 0))])) rfl rfl (hb hby at_181) _ ?_
      show Steps p.tables e below (T314.setTop (mkF m 182 #[.val (.long p0_0), .second, .val (.int p0_1), .val (.int p0_2), .val (.int p0_3), .val (.int p0_4), .val (.int p0_5), .val (.int (v0_7 p0_1)), .val (.int (v0_13 p0_5)), .val (.ref b2), .val (.ref b14), .val (.ref b32), .val (.ref b43), .unset, .unset] [(.int ((g0_171_3 p0_0 p0_2 p0_3 p0_4 p0_5 JJ) 0)), (.int ((own_sh JJ (own_k p0_1) p0_0 (g0_41 p0_2 p0_3 p0_4 p0_5)).2 0))])) _
      refine XS.icmpNo X314.here hx rfl (hb hby at_182) rfl (teq (show ((own_sh JJ (own_k p0_1) p0_0 (g0_41 p0_2 p0_3 p0_4 p0_5)).2 0) = ((g0_171_3 p0_0 p0_2 p0_3 p0_4 p0_5 JJ) 0) from (congrFun (own_eq4 p0_0 p0_1 p0_2 p0_3 p0_4 p0_5 JJ hc105_66) 0))).2 ?_
      show Steps p.tables e below (T314.setTop (mkF m 185 #[.val (.long p0_0), .second, .val (.int p0_1), .val (.int p0_2), .val (.int p0_3), .val (.int p0_4), .val (.int p0_5), .val (.int (v0_7 p0_1)), .val (.int (v0_13 p0_5)), .val (.ref b2), .val (.ref b14), .val (.ref b32), .val (.ref b43), .unset, .unset] [])) _
      refine XS.aload X314.here hx rfl (hb hby at_185) rfl rfl ?_
      show Steps p.tables e below (T314.setTop (mkF m 187 #[.val (.long p0_0), .second, .val (.int p0_1), .val (.int p0_2), .val (.int p0_3), .val (.int p0_4), .val (.int p0_5), .val (.int (v0_7 p0_1)), .val (.int (v0_13 p0_5)), .val (.ref b2), .val (.ref b14), .val (.ref b32), .val (.ref b43), .unset, .unset] [(.ref b2)])) _
      refine XS.iconst X314.here hx rfl (hb hby at_187) ?_
      show Steps p.tables e below (T314.setTop (mkF m 188 #[.val (.long p0_0), .second, .val (.int p0_1), .val (.int p0_2), .val (.int p0_3), .val (.int p0_4), .val (.int p0_5), .val (.int (v0_7 p0_1)), .val (.int (v0_13 p0_5)), .val (.ref b2), .val (.ref b14), .val (.ref b32), .val (.ref b43), .unset, .unset] [(.int (1 : Int32)), (.ref b2)])) _
      refine own_ldI X314 hx hZ rfl Ar315 (j := (1 : Int32)) (i := 1) (by decide) (by decide) (g := (mkF m 188 #[.val (.long p0_0), .second, .val (.int p0_1), .val (.int p0_2), .val (.int p0_3), .val (.int p0_4), .val (.int p0_5), .val (.int (v0_7 p0_1)), .val (.int (v0_13 p0_5)), .val (.ref b2), .val (.ref b14), .val (.ref b32), .val (.ref b43), .unset, .unset] [(.int (1 : Int32)), (.ref b2)])) rfl rfl (hb hby at_188) _ ?_
      show Steps p.tables e below (T314.setTop (mkF m 189 #[.val (.long p0_0), .second, .val (.int p0_1), .val (.int p0_2), .val (.int p0_3), .val (.int p0_4), .val (.int p0_5), .val (.int (v0_7 p0_1)), .val (.int (v0_13 p0_5)), .val (.ref b2), .val (.ref b14), .val (.ref b32), .val (.ref b43), .unset, .unset] [(.int ((own_sh JJ (own_k p0_1) p0_0 (g0_41 p0_2 p0_3 p0_4 p0_5)).2 1))])) _
      refine XS.aload X314.here hx rfl (hb hby at_189) rfl rfl ?_
      show Steps p.tables e below (T314.setTop (mkF m 191 #[.val (.long p0_0), .second, .val (.int p0_1), .val (.int p0_2), .val (.int p0_3), .val (.int p0_4), .val (.int p0_5), .val (.int (v0_7 p0_1)), .val (.int (v0_13 p0_5)), .val (.ref b2), .val (.ref b14), .val (.ref b32), .val (.ref b43), .unset, .unset] [(.ref b14), (.int ((own_sh JJ (own_k p0_1) p0_0 (g0_41 p0_2 p0_3 p0_4 p0_5)).2 1))])) _
      refine XS.iconst X314.here hx rfl (hb hby at_191) ?_
      show Steps p.tables e below (T314.setTop (mkF m 192 #[.val (.long p0_0), .second, .val (.int p0_1), .val (.int p0_2), .val (.int p0_3), .val (.int p0_4), .val (.int p0_5), .val (.int (v0_7 p0_1)), .val (.int (v0_13 p0_5)), .val (.ref b2), .val (.ref b14), .val (.ref b32), .val (.ref b43), .unset, .unset] [(.int (1 : Int32)), (.ref b14), (.int ((own_sh JJ (own_k p0_1) p0_0 (g0_41 p0_2 p0_3 p0_4 p0_5)).2 1))])) _
      refine own_ldI X314 hx hZ rfl C320 (j := (1 : Int32)) (i := 1) (by decide) (by decide) (g := (mkF m 192 #[.val (.long p0_0), .second, .val (.int p0_1), .val (.int p0_2), .val (.int p0_3), .val (.int p0_4), .val (.int p0_5), .val (.int (v0_7 p0_1)), .val (.int (v0_13 p0_5)), .val (.ref b2), .val (.ref b14), .val (.ref b32), .val (.ref b43), .unset, .unset] [(.int (1 : Int32)), (.ref b14), (.int ((own_sh JJ (own_k p0_1) p0_0 (g0_41 p0_2 p0_3 p0_4 p0_5)).2 1))])) rfl rfl (hb hby at_192) _ ?_
      show Steps p.tables e below (T314.setTop (mkF m 193 #[.val (.long p0_0), .second, .val (.int p0_1), .val (.int p0_2), .val (.int p0_3), .val (.int p0_4), .val (.int p0_5), .val (.int (v0_7 p0_1)), .val (.int (v0_13 p0_5)), .val (.ref b2), .val (.ref b14), .val (.ref b32), .val (.ref b43), .unset, .unset] [(.int ((g0_171_3 p0_0 p0_2 p0_3 p0_4 p0_5 JJ) 1)), (.int ((own_sh JJ (own_k p0_1) p0_0 (g0_41 p0_2 p0_3 p0_4 p0_5)).2 1))])) _
      refine XS.icmpNo X314.here hx rfl (hb hby at_193) rfl (teq (show ((own_sh JJ (own_k p0_1) p0_0 (g0_41 p0_2 p0_3 p0_4 p0_5)).2 1) = ((g0_171_3 p0_0 p0_2 p0_3 p0_4 p0_5 JJ) 1) from (congrFun (own_eq4 p0_0 p0_1 p0_2 p0_3 p0_4 p0_5 JJ hc105_66) 1))).2 ?_
      show Steps p.tables e below (T314.setTop (mkF m 196 #[.val (.long p0_0), .second, .val (.int p0_1), .val (.int p0_2), .val (.int p0_3), .val (.int p0_4), .val (.int p0_5), .val (.int (v0_7 p0_1)), .val (.int (v0_13 p0_5)), .val (.ref b2), .val (.ref b14), .val (.ref b32), .val (.ref b43), .unset, .unset] [])) _
      refine XS.aload X314.here hx rfl (hb hby at_196) rfl rfl ?_
      show Steps p.tables e below (T314.setTop (mkF m 198 #[.val (.long p0_0), .second, .val (.int p0_1), .val (.int p0_2), .val (.int p0_3), .val (.int p0_4), .val (.int p0_5), .val (.int (v0_7 p0_1)), .val (.int (v0_13 p0_5)), .val (.ref b2), .val (.ref b14), .val (.ref b32), .val (.ref b43), .unset, .unset] [(.ref b2)])) _
      refine XS.iconst X314.here hx rfl (hb hby at_198) ?_
      show Steps p.tables e below (T314.setTop (mkF m 199 #[.val (.long p0_0), .second, .val (.int p0_1), .val (.int p0_2), .val (.int p0_3), .val (.int p0_4), .val (.int p0_5), .val (.int (v0_7 p0_1)), .val (.int (v0_13 p0_5)), .val (.ref b2), .val (.ref b14), .val (.ref b32), .val (.ref b43), .unset, .unset] [(.int (2 : Int32)), (.ref b2)])) _
      refine own_ldI X314 hx hZ rfl Ar315 (j := (2 : Int32)) (i := 2) (by decide) (by decide) (g := (mkF m 199 #[.val (.long p0_0), .second, .val (.int p0_1), .val (.int p0_2), .val (.int p0_3), .val (.int p0_4), .val (.int p0_5), .val (.int (v0_7 p0_1)), .val (.int (v0_13 p0_5)), .val (.ref b2), .val (.ref b14), .val (.ref b32), .val (.ref b43), .unset, .unset] [(.int (2 : Int32)), (.ref b2)])) rfl rfl (hb hby at_199) _ ?_
      show Steps p.tables e below (T314.setTop (mkF m 200 #[.val (.long p0_0), .second, .val (.int p0_1), .val (.int p0_2), .val (.int p0_3), .val (.int p0_4), .val (.int p0_5), .val (.int (v0_7 p0_1)), .val (.int (v0_13 p0_5)), .val (.ref b2), .val (.ref b14), .val (.ref b32), .val (.ref b43), .unset, .unset] [(.int ((own_sh JJ (own_k p0_1) p0_0 (g0_41 p0_2 p0_3 p0_4 p0_5)).2 2))])) _
      refine XS.aload X314.here hx rfl (hb hby at_200) rfl rfl ?_
      show Steps p.tables e below (T314.setTop (mkF m 202 #[.val (.long p0_0), .second, .val (.int p0_1), .val (.int p0_2), .val (.int p0_3), .val (.int p0_4), .val (.int p0_5), .val (.int (v0_7 p0_1)), .val (.int (v0_13 p0_5)), .val (.ref b2), .val (.ref b14), .val (.ref b32), .val (.ref b43), .unset, .unset] [(.ref b14), (.int ((own_sh JJ (own_k p0_1) p0_0 (g0_41 p0_2 p0_3 p0_4 p0_5)).2 2))])) _
      refine XS.iconst X314.here hx rfl (hb hby at_202) ?_
      show Steps p.tables e below (T314.setTop (mkF m 203 #[.val (.long p0_0), .second, .val (.int p0_1), .val (.int p0_2), .val (.int p0_3), .val (.int p0_4), .val (.int p0_5), .val (.int (v0_7 p0_1)), .val (.int (v0_13 p0_5)), .val (.ref b2), .val (.ref b14), .val (.ref b32), .val (.ref b43), .unset, .unset] [(.int (2 : Int32)), (.ref b14), (.int ((own_sh JJ (own_k p0_1) p0_0 (g0_41 p0_2 p0_3 p0_4 p0_5)).2 2))])) _
      refine own_ldI X314 hx hZ rfl C320 (j := (2 : Int32)) (i := 2) (by decide) (by decide) (g := (mkF m 203 #[.val (.long p0_0), .second, .val (.int p0_1), .val (.int p0_2), .val (.int p0_3), .val (.int p0_4), .val (.int p0_5), .val (.int (v0_7 p0_1)), .val (.int (v0_13 p0_5)), .val (.ref b2), .val (.ref b14), .val (.ref b32), .val (.ref b43), .unset, .unset] [(.int (2 : Int32)), (.ref b14), (.int ((own_sh JJ (own_k p0_1) p0_0 (g0_41 p0_2 p0_3 p0_4 p0_5)).2 2))])) rfl rfl (hb hby at_203) _ ?_
      show Steps p.tables e below (T314.setTop (mkF m 204 #[.val (.long p0_0), .second, .val (.int p0_1), .val (.int p0_2), .val (.int p0_3), .val (.int p0_4), .val (.int p0_5), .val (.int (v0_7 p0_1)), .val (.int (v0_13 p0_5)), .val (.ref b2), .val (.ref b14), .val (.ref b32), .val (.ref b43), .unset, .unset] [(.int ((g0_171_3 p0_0 p0_2 p0_3 p0_4 p0_5 JJ) 2)), (.int ((own_sh JJ (own_k p0_1) p0_0 (g0_41 p0_2 p0_3 p0_4 p0_5)).2 2))])) _
      refine XS.icmpNo X314.here hx rfl (hb hby at_204) rfl (teq (show ((own_sh JJ (own_k p0_1) p0_0 (g0_41 p0_2 p0_3 p0_4 p0_5)).2 2) = ((g0_171_3 p0_0 p0_2 p0_3 p0_4 p0_5 JJ) 2) from (congrFun (own_eq4 p0_0 p0_1 p0_2 p0_3 p0_4 p0_5 JJ hc105_66) 2))).2 ?_
      show Steps p.tables e below (T314.setTop (mkF m 207 #[.val (.long p0_0), .second, .val (.int p0_1), .val (.int p0_2), .val (.int p0_3), .val (.int p0_4), .val (.int p0_5), .val (.int (v0_7 p0_1)), .val (.int (v0_13 p0_5)), .val (.ref b2), .val (.ref b14), .val (.ref b32), .val (.ref b43), .unset, .unset] [])) _
      refine XS.aload X314.here hx rfl (hb hby at_207) rfl rfl ?_
      show Steps p.tables e below (T314.setTop (mkF m 209 #[.val (.long p0_0), .second, .val (.int p0_1), .val (.int p0_2), .val (.int p0_3), .val (.int p0_4), .val (.int p0_5), .val (.int (v0_7 p0_1)), .val (.int (v0_13 p0_5)), .val (.ref b2), .val (.ref b14), .val (.ref b32), .val (.ref b43), .unset, .unset] [(.ref b2)])) _
      refine XS.iconst X314.here hx rfl (hb hby at_209) ?_
      show Steps p.tables e below (T314.setTop (mkF m 210 #[.val (.long p0_0), .second, .val (.int p0_1), .val (.int p0_2), .val (.int p0_3), .val (.int p0_4), .val (.int p0_5), .val (.int (v0_7 p0_1)), .val (.int (v0_13 p0_5)), .val (.ref b2), .val (.ref b14), .val (.ref b32), .val (.ref b43), .unset, .unset] [(.int (3 : Int32)), (.ref b2)])) _
      refine own_ldI X314 hx hZ rfl Ar315 (j := (3 : Int32)) (i := 3) (by decide) (by decide) (g := (mkF m 210 #[.val (.long p0_0), .second, .val (.int p0_1), .val (.int p0_2), .val (.int p0_3), .val (.int p0_4), .val (.int p0_5), .val (.int (v0_7 p0_1)), .val (.int (v0_13 p0_5)), .val (.ref b2), .val (.ref b14), .val (.ref b32), .val (.ref b43), .unset, .unset] [(.int (3 : Int32)), (.ref b2)])) rfl rfl (hb hby at_210) _ ?_
      show Steps p.tables e below (T314.setTop (mkF m 211 #[.val (.long p0_0), .second, .val (.int p0_1), .val (.int p0_2), .val (.int p0_3), .val (.int p0_4), .val (.int p0_5), .val (.int (v0_7 p0_1)), .val (.int (v0_13 p0_5)), .val (.ref b2), .val (.ref b14), .val (.ref b32), .val (.ref b43), .unset, .unset] [(.int ((own_sh JJ (own_k p0_1) p0_0 (g0_41 p0_2 p0_3 p0_4 p0_5)).2 3))])) _
      refine XS.aload X314.here hx rfl (hb hby at_211) rfl rfl ?_
      show Steps p.tables e below (T314.setTop (mkF m 213 #[.val (.long p0_0), .second, .val (.int p0_1), .val (.int p0_2), .val (.int p0_3), .val (.int p0_4), .val (.int p0_5), .val (.int (v0_7 p0_1)), .val (.int (v0_13 p0_5)), .val (.ref b2), .val (.ref b14), .val (.ref b32), .val (.ref b43), .unset, .unset] [(.ref b14), (.int ((own_sh JJ (own_k p0_1) p0_0 (g0_41 p0_2 p0_3 p0_4 p0_5)).2 3))])) _
      refine XS.iconst X314.here hx rfl (hb hby at_213) ?_
      show Steps p.tables e below (T314.setTop (mkF m 214 #[.val (.long p0_0), .second, .val (.int p0_1), .val (.int p0_2), .val (.int p0_3), .val (.int p0_4), .val (.int p0_5), .val (.int (v0_7 p0_1)), .val (.int (v0_13 p0_5)), .val (.ref b2), .val (.ref b14), .val (.ref b32), .val (.ref b43), .unset, .unset] [(.int (3 : Int32)), (.ref b14), (.int ((own_sh JJ (own_k p0_1) p0_0 (g0_41 p0_2 p0_3 p0_4 p0_5)).2 3))])) _
      refine own_ldI X314 hx hZ rfl C320 (j := (3 : Int32)) (i := 3) (by decide) (by decide) (g := (mkF m 214 #[.val (.long p0_0), .second, .val (.int p0_1), .val (.int p0_2), .val (.int p0_3), .val (.int p0_4), .val (.int p0_5), .val (.int (v0_7 p0_1)), .val (.int (v0_13 p0_5)), .val (.ref b2), .val (.ref b14), .val (.ref b32), .val (.ref b43), .unset, .unset] [(.int (3 : Int32)), (.ref b14), (.int ((own_sh JJ (own_k p0_1) p0_0 (g0_41 p0_2 p0_3 p0_4 p0_5)).2 3))])) rfl rfl (hb hby at_214) _ ?_
      show Steps p.tables e below (T314.setTop (mkF m 215 #[.val (.long p0_0), .second, .val (.int p0_1), .val (.int p0_2), .val (.int p0_3), .val (.int p0_4), .val (.int p0_5), .val (.int (v0_7 p0_1)), .val (.int (v0_13 p0_5)), .val (.ref b2), .val (.ref b14), .val (.ref b32), .val (.ref b43), .unset, .unset] [(.int ((g0_171_3 p0_0 p0_2 p0_3 p0_4 p0_5 JJ) 3)), (.int ((own_sh JJ (own_k p0_1) p0_0 (g0_41 p0_2 p0_3 p0_4 p0_5)).2 3))])) _
      refine XS.icmpNo X314.here hx rfl (hb hby at_215) rfl (teq (show ((own_sh JJ (own_k p0_1) p0_0 (g0_41 p0_2 p0_3 p0_4 p0_5)).2 3) = ((g0_171_3 p0_0 p0_2 p0_3 p0_4 p0_5 JJ) 3) from (congrFun (own_eq4 p0_0 p0_1 p0_2 p0_3 p0_4 p0_5 JJ hc105_66) 3))).2 ?_
      show Steps p.tables e below (T314.setTop (mkF m 218 #[.val (.long p0_0), .second, .val (.int p0_1), .val (.int p0_2), .val (.int p0_3), .val (.int p0_4), .val (.int p0_5), .val (.int (v0_7 p0_1)), .val (.int (v0_13 p0_5)), .val (.ref b2), .val (.ref b14), .val (.ref b32), .val (.ref b43), .unset, .unset] [])) _
      refine XS.aload X314.here hx rfl (hb hby at_218) rfl rfl ?_
      show Steps p.tables e below (T314.setTop (mkF m 220 #[.val (.long p0_0), .second, .val (.int p0_1), .val (.int p0_2), .val (.int p0_3), .val (.int p0_4), .val (.int p0_5), .val (.int (v0_7 p0_1)), .val (.int (v0_13 p0_5)), .val (.ref b2), .val (.ref b14), .val (.ref b32), .val (.ref b43), .unset, .unset] [(.ref b2)])) _
      refine XS.iconst X314.here hx rfl (hb hby at_220) ?_
      show Steps p.tables e below (T314.setTop (mkF m 221 #[.val (.long p0_0), .second, .val (.int p0_1), .val (.int p0_2), .val (.int p0_3), .val (.int p0_4), .val (.int p0_5), .val (.int (v0_7 p0_1)), .val (.int (v0_13 p0_5)), .val (.ref b2), .val (.ref b14), .val (.ref b32), .val (.ref b43), .unset, .unset] [(.int (4 : Int32)), (.ref b2)])) _
      refine own_ldI X314 hx hZ rfl Ar315 (j := (4 : Int32)) (i := 4) (by decide) (by decide) (g := (mkF m 221 #[.val (.long p0_0), .second, .val (.int p0_1), .val (.int p0_2), .val (.int p0_3), .val (.int p0_4), .val (.int p0_5), .val (.int (v0_7 p0_1)), .val (.int (v0_13 p0_5)), .val (.ref b2), .val (.ref b14), .val (.ref b32), .val (.ref b43), .unset, .unset] [(.int (4 : Int32)), (.ref b2)])) rfl rfl (hb hby at_221) _ ?_
      show Steps p.tables e below (T314.setTop (mkF m 222 #[.val (.long p0_0), .second, .val (.int p0_1), .val (.int p0_2), .val (.int p0_3), .val (.int p0_4), .val (.int p0_5), .val (.int (v0_7 p0_1)), .val (.int (v0_13 p0_5)), .val (.ref b2), .val (.ref b14), .val (.ref b32), .val (.ref b43), .unset, .unset] [(.int ((own_sh JJ (own_k p0_1) p0_0 (g0_41 p0_2 p0_3 p0_4 p0_5)).2 4))])) _
      refine XS.aload X314.here hx rfl (hb hby at_222) rfl rfl ?_
      show Steps p.tables e below (T314.setTop (mkF m 224 #[.val (.long p0_0), .second, .val (.int p0_1), .val (.int p0_2), .val (.int p0_3), .val (.int p0_4), .val (.int p0_5), .val (.int (v0_7 p0_1)), .val (.int (v0_13 p0_5)), .val (.ref b2), .val (.ref b14), .val (.ref b32), .val (.ref b43), .unset, .unset] [(.ref b14), (.int ((own_sh JJ (own_k p0_1) p0_0 (g0_41 p0_2 p0_3 p0_4 p0_5)).2 4))])) _
      refine XS.iconst X314.here hx rfl (hb hby at_224) ?_
      show Steps p.tables e below (T314.setTop (mkF m 225 #[.val (.long p0_0), .second, .val (.int p0_1), .val (.int p0_2), .val (.int p0_3), .val (.int p0_4), .val (.int p0_5), .val (.int (v0_7 p0_1)), .val (.int (v0_13 p0_5)), .val (.ref b2), .val (.ref b14), .val (.ref b32), .val (.ref b43), .unset, .unset] [(.int (4 : Int32)), (.ref b14), (.int ((own_sh JJ (own_k p0_1) p0_0 (g0_41 p0_2 p0_3 p0_4 p0_5)).2 4))])) _
      refine own_ldI X314 hx hZ rfl C320 (j := (4 : Int32)) (i := 4) (by decide) (by decide) (g := (mkF m 225 #[.val (.long p0_0), .second, .val (.int p0_1), .val (.int p0_2), .val (.int p0_3), .val (.int p0_4), .val (.int p0_5), .val (.int (v0_7 p0_1)), .val (.int (v0_13 p0_5)), .val (.ref b2), .val (.ref b14), .val (.ref b32), .val (.ref b43), .unset, .unset] [(.int (4 : Int32)), (.ref b14), (.int ((own_sh JJ (own_k p0_1) p0_0 (g0_41 p0_2 p0_3 p0_4 p0_5)).2 4))])) rfl rfl (hb hby at_225) _ ?_
      show Steps p.tables e below (T314.setTop (mkF m 226 #[.val (.long p0_0), .second, .val (.int p0_1), .val (.int p0_2), .val (.int p0_3), .val (.int p0_4), .val (.int p0_5), .val (.int (v0_7 p0_1)), .val (.int (v0_13 p0_5)), .val (.ref b2), .val (.ref b14), .val (.ref b32), .val (.ref b43), .unset, .unset] [(.int ((g0_171_3 p0_0 p0_2 p0_3 p0_4 p0_5 JJ) 4)), (.int ((own_sh JJ (own_k p0_1) p0_0 (g0_41 p0_2 p0_3 p0_4 p0_5)).2 4))])) _
      refine XS.icmpNo X314.here hx rfl (hb hby at_226) rfl (teq (show ((own_sh JJ (own_k p0_1) p0_0 (g0_41 p0_2 p0_3 p0_4 p0_5)).2 4) = ((g0_171_3 p0_0 p0_2 p0_3 p0_4 p0_5 JJ) 4) from (congrFun (own_eq4 p0_0 p0_1 p0_2 p0_3 p0_4 p0_5 JJ hc105_66) 4))).2 ?_
      show Steps p.tables e below (T314.setTop (mkF m 229 #[.val (.long p0_0), .second, .val (.int p0_1), .val (.int p0_2), .val (.int p0_3), .val (.int p0_4), .val (.int p0_5), .val (.int (v0_7 p0_1)), .val (.int (v0_13 p0_5)), .val (.ref b2), .val (.ref b14), .val (.ref b32), .val (.ref b43), .unset, .unset] [])) _
      refine XS.iconst X314.here hx rfl (hb hby at_229) ?_
      show Steps p.tables e below (T314.setTop (mkF m 230 #[.val (.long p0_0), .second, .val (.int p0_1), .val (.int p0_2), .val (.int p0_3), .val (.int p0_4), .val (.int p0_5), .val (.int (v0_7 p0_1)), .val (.int (v0_13 p0_5)), .val (.ref b2), .val (.ref b14), .val (.ref b32), .val (.ref b43), .unset, .unset] [(.int (1 : Int32))])) _
      refine XS.goto X314.here hx rfl (pc0 := 230) (pc' := 234) rfl (hb hby at_230) (by decide) (by decide) ?_
      show Steps p.tables e below (T314.setTop (mkF m 234 #[.val (.long p0_0), .second, .val (.int p0_1), .val (.int p0_2), .val (.int p0_3), .val (.int p0_4), .val (.int p0_5), .val (.int (v0_7 p0_1)), .val (.int (v0_13 p0_5)), .val (.ref b2), .val (.ref b14), .val (.ref b32), .val (.ref b43), .unset, .unset] [(.int (1 : Int32))])) _
      refine XS.istore X314.here hx rfl (hb hby at_234) rfl (l' := #[.val (.long p0_0), .second, .val (.int p0_1), .val (.int p0_2), .val (.int p0_3), .val (.int p0_4), .val (.int p0_5), .val (.int (v0_7 p0_1)), .val (.int (v0_13 p0_5)), .val (.ref b2), .val (.ref b14), .val (.ref b32), .val (.ref b43), .val (.int (1 : Int32)), .unset]) rfl ?_
      show Steps p.tables e below (T314.setTop (mkF m 236 #[.val (.long p0_0), .second, .val (.int p0_1), .val (.int p0_2), .val (.int p0_3), .val (.int p0_4), .val (.int p0_5), .val (.int (v0_7 p0_1)), .val (.int (v0_13 p0_5)), .val (.ref b2), .val (.ref b14), .val (.ref b32), .val (.ref b43), .val (.int (1 : Int32)), .unset] [])) _
      refine XS.aload X314.here hx rfl (hb hby at_236) rfl rfl ?_
      show Steps p.tables e below (T314.setTop (mkF m 238 #[.val (.long p0_0), .second, .val (.int p0_1), .val (.int p0_2), .val (.int p0_3), .val (.int p0_4), .val (.int p0_5), .val (.int (v0_7 p0_1)), .val (.int (v0_13 p0_5)), .val (.ref b2), .val (.ref b14), .val (.ref b32), .val (.ref b43), .val (.int (1 : Int32)), .unset] [(.ref b32)])) _
      exact k)
    obtain ⟨cq327, kq327, qa327, qb327, qc327⟩ := isOf hZ rfl Ex316
    obtain ⟨_, _, ⟨T327, L327, k327, n327⟩, -, X327, ⟨Lc327, hQ327, l327, y327, z327⟩, st327⟩ := X314.virtualBack hx (y := (⟨"com/example/consigliere/consigliere/engine/Rng", "nextLong", "()J"⟩ : MethodName)) (z := (⟨"com/example/consigliere/consigliere/engine/Rng", "nextLong", "()J"⟩ : MethodName)) hown (mvT hZ (hw _ (List.mem_of_getElem? (i := 37) rfl))) (mvT hZ (hw _ (List.mem_of_getElem? (i := 25) rfl))) (notFace_of_selects (args := #[]) (mvT hZ (hw _ (List.mem_of_getElem? (i := 27) rfl)))) (mvT hZ (hw _ (List.mem_of_getElem? (i := 27) rfl))) (mvT hZ (hw _ (List.mem_of_getElem? (i := 26) rfl))) (by decide) (backOf (W := 0) (rm5 l Z a0 hw [] b32 (own_sh JJ (own_k p0_1) p0_0 (g0_41 p0_2 p0_3 p0_4 p0_5)).1 T314.heap n0 Z314 Ex316 F317 g_b32) hZ (hw _ (List.mem_of_getElem? (i := 28) rfl)) (hw _ (List.mem_of_getElem? (i := 4) rfl)) (by decide) (by decide)) qa327 qc327 (g := (mkF m 238 #[.val (.long p0_0), .second, .val (.int p0_1), .val (.int p0_2), .val (.int p0_3), .val (.int p0_4), .val (.int p0_5), .val (.int (v0_7 p0_1)), .val (.int (v0_13 p0_5)), .val (.ref b2), .val (.ref b14), .val (.ref b32), .val (.ref b43), .val (.int (1 : Int32)), .unset] [(.ref b32)])) rfl (by rw [hml]; rfl) (Steps.refl _) (argsL := []) (rest := []) (lenOf pd_0 rfl) rfl (by show 2 * 0 + _ ≤ _; exact Nat.le_of_eq rfl) (hb hby at_238) (fun _ _ => ⟨rfl, rfl, (by decide : 4 + 0 ≤ _), (by decide : 12 + 0 ≤ _)⟩)
    dsimp only [Pt.U, Pt.locs, Pt.cells, Pt.slots] at X327 l327 y327 z327 st327 hQ327
    rw [l327, y327, z327] at X327
    obtain ⟨rfl, M327, K327c, P327_0⟩ := hQ327
    have N327 := Fr.app N314 M327
    have K327 : Keep T314.heap T327.heap [b32] := K327c
    have Z327 : n0 ≤ T327.heap.size := Nat.le_trans Z314 K327.1
    have Ar328 : ArI Z T327.heap b2 .int 5 (own_sh JJ (own_k p0_1) p0_0 (g0_41 p0_2 p0_3 p0_4 p0_5)).2 := Ar315.keep K327 (ninS ne_b2_b32 nin0)
    have Ar329 : ArI Z T327.heap b14 .int 5 (g0_171_3 p0_0 p0_2 p0_3 p0_4 p0_5 JJ) := C320.keep K327 (ninS ne_b14_b32 nin0)
    have Ex330 : Exa Z T327.heap b32 "com/example/consigliere/consigliere/engine/Rng" := Ex316.keep K327
    have Ex331 : Exa Z T327.heap b43 "com/example/consigliere/consigliere/engine/Rng" := Ex318.keep K327
    have F332 : Fld Z T327.heap b43 "com/example/consigliere/consigliere/engine/Rng" "state" "J" (.long (w0_168_state_2 p0_0 JJ)) := F319.keep K327 (ninS (Ne.symm ne_b32_b43) nin0)
    have F333 : Fld Z T327.heap b32 "com/example/consigliere/consigliere/engine/Rng" "state" "J" (.long (w0_238_state_4 p0_0 p0_1 p0_2 p0_3 p0_4 p0_5 JJ)) := P327_0
    replace X327 : Stand p l e room_1 s m #[(.long p0_0), (.int p0_1), (.int p0_2), (.int p0_3), (.int p0_4), (.int p0_5)] below meth c T327 _ 4 12 := X327
    have pre327 : ∀ t, Steps p.tables e below (T327.setTop (mkF m 241 #[.val (.long p0_0), .second, .val (.int p0_1), .val (.int p0_2), .val (.int p0_3), .val (.int p0_4), .val (.int p0_5), .val (.int (v0_7 p0_1)), .val (.int (v0_13 p0_5)), .val (.ref b2), .val (.ref b14), .val (.ref b32), .val (.ref b43), .val (.int (1 : Int32)), .unset] [(.long (c0_238_4 p0_0 p0_1 p0_2 p0_3 p0_4 p0_5 JJ))])) t → Steps p.tables e below (s₁.setTop (entryFrame m #[(.long p0_0), (.int p0_1), (.int p0_2), (.int p0_3), (.int p0_4), (.int p0_5)] maxLocals)) t := fun t k => pre326 t (st327.trans k)
    have pre334 : ∀ t, Steps p.tables e below (T327.setTop (mkF m 243 #[.val (.long p0_0), .second, .val (.int p0_1), .val (.int p0_2), .val (.int p0_3), .val (.int p0_4), .val (.int p0_5), .val (.int (v0_7 p0_1)), .val (.int (v0_13 p0_5)), .val (.ref b2), .val (.ref b14), .val (.ref b32), .val (.ref b43), .val (.int (1 : Int32)), .unset] [(.ref b43), (.long (c0_238_4 p0_0 p0_1 p0_2 p0_3 p0_4 p0_5 JJ))])) t → Steps p.tables e below (s₁.setTop (entryFrame m #[(.long p0_0), (.int p0_1), (.int p0_2), (.int p0_3), (.int p0_4), (.int p0_5)] maxLocals)) t := fun t k => pre327 t (by
      refine XS.aload X327.here hx rfl (hb hby at_241) rfl rfl ?_
      show Steps p.tables e below (T327.setTop (mkF m 243 #[.val (.long p0_0), .second, .val (.int p0_1), .val (.int p0_2), .val (.int p0_3), .val (.int p0_4), .val (.int p0_5), .val (.int (v0_7 p0_1)), .val (.int (v0_13 p0_5)), .val (.ref b2), .val (.ref b14), .val (.ref b32), .val (.ref b43), .val (.int (1 : Int32)), .unset] [(.ref b43), (.long (c0_238_4 p0_0 p0_1 p0_2 p0_3 p0_4 p0_5 JJ))])) _
      exact k)
    obtain ⟨cq335, kq335, qa335, qb335, qc335⟩ := isOf hZ rfl Ex331
    obtain ⟨_, _, ⟨T335, L335, k335, n335⟩, -, X335, ⟨Lc335, hQ335, l335, y335, z335⟩, st335⟩ := X327.virtualBack hx (y := (⟨"com/example/consigliere/consigliere/engine/Rng", "nextLong", "()J"⟩ : MethodName)) (z := (⟨"com/example/consigliere/consigliere/engine/Rng", "nextLong", "()J"⟩ : MethodName)) hown (mvT hZ (hw _ (List.mem_of_getElem? (i := 37) rfl))) (mvT hZ (hw _ (List.mem_of_getElem? (i := 25) rfl))) (notFace_of_selects (args := #[]) (mvT hZ (hw _ (List.mem_of_getElem? (i := 27) rfl)))) (mvT hZ (hw _ (List.mem_of_getElem? (i := 27) rfl))) (mvT hZ (hw _ (List.mem_of_getElem? (i := 26) rfl))) (by decide) (backOf (W := 2) (rm5 l Z a0 hw [] b43 (w0_168_state_2 p0_0 JJ) T327.heap n0 Z327 Ex331 F332 g_b43) hZ (hw _ (List.mem_of_getElem? (i := 28) rfl)) (hw _ (List.mem_of_getElem? (i := 4) rfl)) (by decide) (by decide)) qa335 qc335 (g := (mkF m 243 #[.val (.long p0_0), .second, .val (.int p0_1), .val (.int p0_2), .val (.int p0_3), .val (.int p0_4), .val (.int p0_5), .val (.int (v0_7 p0_1)), .val (.int (v0_13 p0_5)), .val (.ref b2), .val (.ref b14), .val (.ref b32), .val (.ref b43), .val (.int (1 : Int32)), .unset] [(.ref b43), (.long (c0_238_4 p0_0 p0_1 p0_2 p0_3 p0_4 p0_5 JJ))])) rfl (by rw [hml]; rfl) (Steps.refl _) (argsL := []) (rest := [(.long (c0_238_4 p0_0 p0_1 p0_2 p0_3 p0_4 p0_5 JJ))]) (lenOf pd_0 rfl) rfl (by show 2 * 0 + _ ≤ _; exact Nat.le_of_eq rfl) (hb hby at_243) (fun _ _ => ⟨rfl, rfl, (by decide : 4 + 0 ≤ _), (by decide : 12 + 0 ≤ _)⟩)
    dsimp only [Pt.U, Pt.locs, Pt.cells, Pt.slots] at X335 l335 y335 z335 st335 hQ335
    rw [l335, y335, z335] at X335
    obtain ⟨rfl, M335, K335c, P335_0⟩ := hQ335
    have N335 := Fr.app N327 M335
    have K335 : Keep T327.heap T335.heap [b43] := K335c
    have Z335 : n0 ≤ T335.heap.size := Nat.le_trans Z327 K335.1
    have Ar336 : ArI Z T335.heap b2 .int 5 (own_sh JJ (own_k p0_1) p0_0 (g0_41 p0_2 p0_3 p0_4 p0_5)).2 := Ar328.keep K335 (ninS ne_b2_b43 nin0)
    have Ar337 : ArI Z T335.heap b14 .int 5 (g0_171_3 p0_0 p0_2 p0_3 p0_4 p0_5 JJ) := Ar329.keep K335 (ninS ne_b14_b43 nin0)
    have Ex338 : Exa Z T335.heap b32 "com/example/consigliere/consigliere/engine/Rng" := Ex330.keep K335
    have F339 : Fld Z T335.heap b32 "com/example/consigliere/consigliere/engine/Rng" "state" "J" (.long (w0_238_state_4 p0_0 p0_1 p0_2 p0_3 p0_4 p0_5 JJ)) := F333.keep K335 (ninS ne_b32_b43 nin0)
    have Ex340 : Exa Z T335.heap b43 "com/example/consigliere/consigliere/engine/Rng" := Ex331.keep K335
    have F341 : Fld Z T335.heap b43 "com/example/consigliere/consigliere/engine/Rng" "state" "J" (.long (v5_9 (w0_168_state_2 p0_0 JJ))) := P335_0
    replace X335 : Stand p l e room_1 s m #[(.long p0_0), (.int p0_1), (.int p0_2), (.int p0_3), (.int p0_4), (.int p0_5)] below meth c T335 _ 4 12 := X335
    have pre335 : ∀ t, Steps p.tables e below (T335.setTop (mkF m 246 #[.val (.long p0_0), .second, .val (.int p0_1), .val (.int p0_2), .val (.int p0_3), .val (.int p0_4), .val (.int p0_5), .val (.int (v0_7 p0_1)), .val (.int (v0_13 p0_5)), .val (.ref b2), .val (.ref b14), .val (.ref b32), .val (.ref b43), .val (.int (1 : Int32)), .unset] [(.long (r5 (w0_168_state_2 p0_0 JJ))), (.long (c0_238_4 p0_0 p0_1 p0_2 p0_3 p0_4 p0_5 JJ))])) t → Steps p.tables e below (s₁.setTop (entryFrame m #[(.long p0_0), (.int p0_1), (.int p0_2), (.int p0_3), (.int p0_4), (.int p0_5)] maxLocals)) t := fun t k => pre334 t (st335.trans k)
    have pre343 : ∀ t, Steps p.tables e below (T335.setTop (mkF m 272 #[.val (.long p0_0), .second, .val (.int p0_1), .val (.int p0_2), .val (.int p0_3), .val (.int p0_4), .val (.int p0_5), .val (.int (v0_7 p0_1)), .val (.int (v0_13 p0_5)), .val (.ref b2), .val (.ref b14), .val (.ref b32), .val (.ref b43), .val (.int (1 : Int32)), .val (.int (1 : Int32))] [(.int (1 : Int32))])) t → Steps p.tables e below (s₁.setTop (entryFrame m #[(.long p0_0), (.int p0_1), (.int p0_2), (.int p0_3), (.int p0_4), (.int p0_5)] maxLocals)) t := fun t k => pre335 t (by
      refine XS.lcmp X335.here hx rfl (hb hby at_246) rfl ?_
      show Steps p.tables e below (T335.setTop (mkF m 247 #[.val (.long p0_0), .second, .val (.int p0_1), .val (.int p0_2), .val (.int p0_3), .val (.int p0_4), .val (.int p0_5), .val (.int (v0_7 p0_1)), .val (.int (v0_13 p0_5)), .val (.ref b2), .val (.ref b14), .val (.ref b32), .val (.ref b43), .val (.int (1 : Int32)), .unset] [(.int (lcmpW (c0_238_4 p0_0 p0_1 p0_2 p0_3 p0_4 p0_5 JJ) (r5 (w0_168_state_2 p0_0 JJ))))])) _
      refine XS.ifNo X335.here hx rfl (hb hby at_247) rfl ((if0 _ _).trans (teq ((lw_eq (c0_238_4 p0_0 p0_1 p0_2 p0_3 p0_4 p0_5 JJ) (r5 (w0_168_state_2 p0_0 JJ))).mpr (show (c0_238_4 p0_0 p0_1 p0_2 p0_3 p0_4 p0_5 JJ) = (r5 (w0_168_state_2 p0_0 JJ)) from (congrArg r5 (own_s4 p0_0 p0_1 p0_2 p0_3 p0_4 p0_5 JJ hc105_66))))).2) ?_
      show Steps p.tables e below (T335.setTop (mkF m 250 #[.val (.long p0_0), .second, .val (.int p0_1), .val (.int p0_2), .val (.int p0_3), .val (.int p0_4), .val (.int p0_5), .val (.int (v0_7 p0_1)), .val (.int (v0_13 p0_5)), .val (.ref b2), .val (.ref b14), .val (.ref b32), .val (.ref b43), .val (.int (1 : Int32)), .unset] [])) _
      refine XS.iconst X335.here hx rfl (hb hby at_250) ?_
      show Steps p.tables e below (T335.setTop (mkF m 251 #[.val (.long p0_0), .second, .val (.int p0_1), .val (.int p0_2), .val (.int p0_3), .val (.int p0_4), .val (.int p0_5), .val (.int (v0_7 p0_1)), .val (.int (v0_13 p0_5)), .val (.ref b2), .val (.ref b14), .val (.ref b32), .val (.ref b43), .val (.int (1 : Int32)), .unset] [(.int (1 : Int32))])) _
      refine XS.goto X335.here hx rfl (pc0 := 251) (pc' := 255) rfl (hb hby at_251) (by decide) (by decide) ?_
      show Steps p.tables e below (T335.setTop (mkF m 255 #[.val (.long p0_0), .second, .val (.int p0_1), .val (.int p0_2), .val (.int p0_3), .val (.int p0_4), .val (.int p0_5), .val (.int (v0_7 p0_1)), .val (.int (v0_13 p0_5)), .val (.ref b2), .val (.ref b14), .val (.ref b32), .val (.ref b43), .val (.int (1 : Int32)), .unset] [(.int (1 : Int32))])) _
      refine XS.istore X335.here hx rfl (hb hby at_255) rfl (l' := #[.val (.long p0_0), .second, .val (.int p0_1), .val (.int p0_2), .val (.int p0_3), .val (.int p0_4), .val (.int p0_5), .val (.int (v0_7 p0_1)), .val (.int (v0_13 p0_5)), .val (.ref b2), .val (.ref b14), .val (.ref b32), .val (.ref b43), .val (.int (1 : Int32)), .val (.int (1 : Int32))]) rfl ?_
      show Steps p.tables e below (T335.setTop (mkF m 257 #[.val (.long p0_0), .second, .val (.int p0_1), .val (.int p0_2), .val (.int p0_3), .val (.int p0_4), .val (.int p0_5), .val (.int (v0_7 p0_1)), .val (.int (v0_13 p0_5)), .val (.ref b2), .val (.ref b14), .val (.ref b32), .val (.ref b43), .val (.int (1 : Int32)), .val (.int (1 : Int32))] [])) _
      refine XS.iload X335.here hx rfl (hb hby at_257) rfl ?_
      show Steps p.tables e below (T335.setTop (mkF m 259 #[.val (.long p0_0), .second, .val (.int p0_1), .val (.int p0_2), .val (.int p0_3), .val (.int p0_4), .val (.int p0_5), .val (.int (v0_7 p0_1)), .val (.int (v0_13 p0_5)), .val (.ref b2), .val (.ref b14), .val (.ref b32), .val (.ref b43), .val (.int (1 : Int32)), .val (.int (1 : Int32))] [(.int (1 : Int32))])) _
      refine XS.ifNo X335.here hx rfl (hb hby at_259) rfl ((if0 _ _).trans (feq (by decide : ¬ ((1 : Int32) = (0 : Int32)))).1) ?_
      show Steps p.tables e below (T335.setTop (mkF m 262 #[.val (.long p0_0), .second, .val (.int p0_1), .val (.int p0_2), .val (.int p0_3), .val (.int p0_4), .val (.int p0_5), .val (.int (v0_7 p0_1)), .val (.int (v0_13 p0_5)), .val (.ref b2), .val (.ref b14), .val (.ref b32), .val (.ref b43), .val (.int (1 : Int32)), .val (.int (1 : Int32))] [])) _
      refine XS.iload X335.here hx rfl (hb hby at_262) rfl ?_
      show Steps p.tables e below (T335.setTop (mkF m 264 #[.val (.long p0_0), .second, .val (.int p0_1), .val (.int p0_2), .val (.int p0_3), .val (.int p0_4), .val (.int p0_5), .val (.int (v0_7 p0_1)), .val (.int (v0_13 p0_5)), .val (.ref b2), .val (.ref b14), .val (.ref b32), .val (.ref b43), .val (.int (1 : Int32)), .val (.int (1 : Int32))] [(.int (1 : Int32))])) _
      refine XS.ifNo X335.here hx rfl (hb hby at_264) rfl ((if0 _ _).trans (feq (by decide : ¬ ((1 : Int32) = (0 : Int32)))).1) ?_
      show Steps p.tables e below (T335.setTop (mkF m 267 #[.val (.long p0_0), .second, .val (.int p0_1), .val (.int p0_2), .val (.int p0_3), .val (.int p0_4), .val (.int p0_5), .val (.int (v0_7 p0_1)), .val (.int (v0_13 p0_5)), .val (.ref b2), .val (.ref b14), .val (.ref b32), .val (.ref b43), .val (.int (1 : Int32)), .val (.int (1 : Int32))] [])) _
      refine XS.iconst X335.here hx rfl (hb hby at_267) ?_
      show Steps p.tables e below (T335.setTop (mkF m 268 #[.val (.long p0_0), .second, .val (.int p0_1), .val (.int p0_2), .val (.int p0_3), .val (.int p0_4), .val (.int p0_5), .val (.int (v0_7 p0_1)), .val (.int (v0_13 p0_5)), .val (.ref b2), .val (.ref b14), .val (.ref b32), .val (.ref b43), .val (.int (1 : Int32)), .val (.int (1 : Int32))] [(.int (1 : Int32))])) _
      refine XS.goto X335.here hx rfl (pc0 := 268) (pc' := 272) rfl (hb hby at_268) (by decide) (by decide) ?_
      show Steps p.tables e below (T335.setTop (mkF m 272 #[.val (.long p0_0), .second, .val (.int p0_1), .val (.int p0_2), .val (.int p0_3), .val (.int p0_4), .val (.int p0_5), .val (.int (v0_7 p0_1)), .val (.int (v0_13 p0_5)), .val (.ref b2), .val (.ref b14), .val (.ref b32), .val (.ref b43), .val (.int (1 : Int32)), .val (.int (1 : Int32))] [(.int (1 : Int32))])) _
      exact k)
    obtain ⟨fs, hr, hrun, hended, hW, hsame⟩ := X335.leave (v := some (.int (1 : Int32))) (fun h => by rw [Bd.returns] at h; cases h) Bd.notSynchronized
    refine ⟨_, _, pre343 _ ?_, hrun, hended, _, _, rfl, ?_, ⟨_, rfl⟩, hW, hsame.mono (by decide) (by decide)⟩
    · show Steps p.tables e below (T335.setTop (mkF m 272 #[.val (.long p0_0), .second, .val (.int p0_1), .val (.int p0_2), .val (.int p0_3), .val (.int p0_4), .val (.int p0_5), .val (.int (v0_7 p0_1)), .val (.int (v0_13 p0_5)), .val (.ref b2), .val (.ref b14), .val (.ref b32), .val (.ref b43), .val (.int (1 : Int32)), .val (.int (1 : Int32))] [(.int (1 : Int32))])) _
      exact retN X335 hx (t := .boolean) Bd.returns (by simp) (hb hby at_272) hr
    · show Q0 Z p0_0 p0_1 p0_2 p0_3 p0_4 p0_5 JJ h0 n0 _ T335.heap _
      exact ⟨rfl, N335⟩
set_option maxRecDepth 65536 in
set_option maxHeartbeats 40000000 in
theorem comes_1 {Post : Tables → Env → Array Value → State → Outcome → State → Prop} (hpost : ∀ tb e args s v u, (limb_1_1.after args s (.returned v) u = true ∧ limb_1_2.after args s (.returned v) u = true ∧ True) → FrameEnd s (.returned v) u (Jvm.fieldLocs frame_1_writes args s ++ Jvm.arrayLocs frame_1_arrays args s ++ Jvm.staticLocs frame_1_statics s) 16 128 → Post tb e args s (.returned v) u) :
    ArmFor flags0 classFile x code maxLocals ret World_1 tables_1 room_1 Calls_1 rest_1 Pre_1 Post := by
  intro l hfl _ _ p e ha hc hk s m args below hf hA hF happ hP
  obtain ⟨hcalls, hrest, hpre⟩ := hP
  obtain ⟨-, -, -, hnamed, -, -, -, hat⟩ := (Spec.applies_iff hf).mp happ
  obtain ⟨hg, hn⟩ := and_e (Cond.before_iff.mp (show (Jvm.Cond.and given_1 narrow_1).before args s = true from hpre))
  obtain ⟨gc, g0⟩ := and_e hg
  obtain ⟨ga0, g1⟩ := and_e g0
  obtain ⟨ga1, g2⟩ := and_e g1
  obtain ⟨ga2, g3⟩ := and_e g2
  obtain ⟨ga3, g4⟩ := and_e g3
  obtain ⟨ga4, g5⟩ := and_e g4
  obtain ⟨w0, w1, w2, w3, w4, w5, rfl⟩ : ∃ w0 w1 w2 w3 w4 w5 : Value, args = #[w0, w1, w2, w3, w4, w5] := by
    have hs : args.size = 6 := by simpa [Cond.value, given_1] using gc
    obtain ⟨L⟩ := args
    match L, hs with
    | [w0, w1, w2, w3, w4, w5], _ => exact ⟨w0, w1, w2, w3, w4, w5, rfl⟩
  have hw := fun d (hd : d ∈ tables_1) => atoms_spec (ws := Jvm.Cond.code x code maxLocals ret :: tables_1) hat d (List.mem_cons_of_mem _ hd)
  obtain ⟨i0, ei0⟩ := isL_v ga0
  obtain rfl : w0 = (.long i0) := Option.some.inj ei0
  obtain ⟨i1, ei1⟩ := is_v ga1
  obtain rfl : w1 = (.int i1) := Option.some.inj ei1
  obtain ⟨i2, ei2⟩ := is_v ga2
  obtain rfl : w2 = (.int i2) := Option.some.inj ei2
  obtain ⟨i3, ei3⟩ := is_v ga3
  obtain rfl : w3 = (.int i3) := Option.some.inj ei3
  obtain ⟨i4, ei4⟩ := is_v ga4
  obtain rfl : w4 = (.int i4) := Option.some.inj ei4
  obtain ⟨i5, ei5⟩ := is_v g5
  obtain rfl : w5 = (.int i5) := Option.some.inj ei5
  obtain ⟨JJ, hJ⟩ := own_exJ
  obtain ⟨n, o, h1, h2, h3, _, L, rfl, ⟨rfl, N⟩, hq⟩ := rm0 l s _ hw tables_1 i0 i1 i2 i3 i4 i5 JJ s.heap s.heap.size (Nat.le_refl _) hJ p e ha hc hk s m _ below hf ((Spec.applies_iff_loose hf).mp happ).1 ⟨rfl, State.Warmed39.refl s, rfl⟩ trivial
  refine ⟨n, _, h1, h2, h3, hpost _ _ _ _ _ _ ⟨Cond.after_iff.mpr rfl, Cond.after_iff.mpr (eq_i res_at (Term.int_eval (1)) rfl), trivial⟩ ⟨hq.1, hq.2.1, (hq.2.2.sift fun y hy => Or.inr (N y hy)).mono (by decide) (by decide)⟩⟩
theorem main_1_1 : Claimed_1_1 := comes_1 fun _ _ _ _ _ _ h hF => ⟨h.1, hF⟩
theorem main_1_2 : Claimed_1_2 := comes_1 fun _ _ _ _ _ _ h hF => ⟨h.2.1, hF⟩
end Jvm.Pilot.@@N@@
namespace Jvm.Pilot.@@N@@
open Jvm Jvm.ClassFile Sem Op Lib Jvm.Free Jvm.Stand Jvm.Pilot.@@N@@.Jvm.D
/-! MADE BY PROGRAM (witnessworld.py) out of the Statement's table words and the real class files: 9 classes; the members and pool entries that the words name. The judged class is class 1, her method 2. -/
namespace start1
open Jvm.ClassFile
def u (s : String) : CpInfo := .utf8 (stringToUtf16 s)
/-- a pool by its gaps: so many unusable entries, then the entry; so many at the end -/
def gap : Nat → List CpInfo → List CpInfo
  | 0, r => r
  | n + 1, r => .unusable :: gap n r
def poolList (es : List (Nat × CpInfo)) (last : Nat) : List CpInfo := es.foldr (fun e r => gap e.1 (e.2 :: r)) (gap last [])
def pool (es : List (Nat × CpInfo)) (last : Nat) : Array CpInfo := ⟨poolList es last⟩
def fileOf (pool : Array CpInfo) (this : Nat) (attrs : Array Attribute := #[]) (ms : Array MethodInfo := #[]) (fl : Nat := 33) (sup : Nat := 0) (ifs : Array Nat := #[]) (fds : Array FieldInfo := #[]) : ClassFile where
  minorVersion := 0
  majorVersion := 65
  constantPool := pool
  accessFlags := fl
  thisClass := this
  superClass := sup
  interfaces := ifs
  fields := fds
  methods := ms
  attributes := attrs
def plain (name : String) (sup : Option ClassId) : Class where
  name := name
  kind := .ordinary
  loader := none
  accessFlags := 33
  super := sup
  interfaces := #[]
  cf := none
  fields := #[]
  methods := #[]
  instanceTypes := #[]
  staticTypes := #[]
  resolved := #[]
  callSites := []
  init := .initialized
  statics := none
  mirror := none

def pool0 : Array CpInfo := pool [(5, u "<init>"), (0, u "()V"), (1, .class_ 10), (1, u "java/lang/Object")] 113

def k0c0 : Code := { maxStack := 0, maxLocals := 1, code := object_method_1_code, exceptionTable := #[], attributes := #[] }
def k0m0 : Method := { name := "<init>", desc := "()V", sig := { parameters := [], returnType := none }, accessFlags := 1, code := some k0c0 }
/-- java/lang/Object -/
def k0 : Class := { plain "java/lang/Object" none with
  accessFlags := 33
  interfaces := #[]
  cf := some (fileOf pool0 8 #[] #[{ accessFlags := 1, nameIndex := 5, descriptorIndex := 6, attributes := #[] }] 33 0 #[] #[])
  fields := #[]
  methods := #[k0m0]
  instanceTypes := #[]
  staticTypes := #[]
  resolved := Array.replicate 124 none
  statics := none }

def pool1 : Array CpInfo := pool [(2, .class_ 4), (1, u "java/lang/Object"), (0, u "<init>"), (0, u "()V"), (0, .integer 2147483647), (0, .class_ 9), (0, u "com/example/consigliere/consigliere/engine/Rng"), (0, .methodref 8 11), (0, .nameAndType 5 12), (0, u "(J)V"), (0, .methodref 8 14), (0, .nameAndType 15 16), (0, u "shuffle"), (0, u "([II)V"), (0, .methodref 8 18), (0, .nameAndType 19 20), (0, u "nextInt"), (0, u "(I)I"), (0, .methodref 22 23), (0, .class_ 24), (0, .nameAndType 25 26), (0, u "com/example/consigliere/consigliere/engine/RngShufflePinLaw"), (0, u "swap"), (0, u "([III)V"), (0, .methodref 8 28), (0, .nameAndType 29 30), (0, u "nextLong"), (0, u "()J"), (2, u "law"), (0, u "(JIIIII)Z")] 5

def k1m0 : Method := { name := "<init>", desc := "()V", sig := { parameters := [], returnType := none }, accessFlags := 1, code := none }
def k1c1 : Code := { maxStack := 4, maxLocals := 4, code := method_2_code, exceptionTable := #[], attributes := #[] }
def k1m1 : Method := { name := "swap", desc := "([III)V", sig := { parameters := [(.array .int), .int, .int], returnType := none }, accessFlags := 10, code := some k1c1 }
def k1c2 : Code := { maxStack := 4, maxLocals := 15, code := code, exceptionTable := #[], attributes := #[] }
def k1m2 : Method := { name := "law", desc := "(JIIIII)Z", sig := { parameters := [.long, .int, .int, .int, .int, .int], returnType := some .boolean }, accessFlags := 9, code := some k1c2 }
/-- com/example/consigliere/consigliere/engine/RngShufflePinLaw -/
def k1 : Class := { plain "com/example/consigliere/consigliere/engine/RngShufflePinLaw" (some 0) with
  accessFlags := 49
  interfaces := #[]
  cf := some (fileOf pool1 22 #[] #[{ accessFlags := 1, nameIndex := 5, descriptorIndex := 6, attributes := #[] }, { accessFlags := 10, nameIndex := 25, descriptorIndex := 26, attributes := #[] }, { accessFlags := 9, nameIndex := 33, descriptorIndex := 34, attributes := #[] }] 49 2 #[] #[])
  fields := #[]
  methods := #[k1m0, k1m1, k1m2]
  instanceTypes := #[]
  staticTypes := #[]
  resolved := Array.replicate 40 none
  statics := none }

def pool2 : Array CpInfo := pool [(1, .methodref 2 3), (0, .class_ 4), (0, .nameAndType 5 6), (0, u "java/lang/Object"), (0, u "<init>"), (0, u "()V"), (0, .fieldref 8 9), (0, .class_ 10), (0, .nameAndType 11 12), (0, u "com/example/consigliere/consigliere/engine/Rng"), (0, u "state"), (0, u "J"), (0, .long 11400714819323198485), (1, .long 13787848793156543929), (1, .long 10723151780598845931), (10, .long 4294967296), (1, .methodref 8 31), (0, .nameAndType 32 33), (0, u "nextLong"), (0, u "()J"), (0, .methodref 8 35), (0, .nameAndType 36 37), (0, u "nextInt"), (0, u "(I)I"), (0, u "GOLDEN_GAMMA"), (1, u "TWO_TO_THE_32"), (0, u "(J)V"), (3, u "shuffle"), (0, u "([II)V")] 17

def k2c0 : Code := { maxStack := 3, maxLocals := 3, code := prog_3_method_1_code, exceptionTable := #[], attributes := #[] }
def k2m0 : Method := { name := "<init>", desc := "(J)V", sig := { parameters := [.long], returnType := none }, accessFlags := 1, code := some k2c0 }
def k2c1 : Code := { maxStack := 5, maxLocals := 3, code := prog_3_method_2_code, exceptionTable := #[], attributes := #[] }
def k2m1 : Method := { name := "nextLong", desc := "()J", sig := { parameters := [], returnType := some .long }, accessFlags := 1, code := some k2c1 }
def k2c2 : Code := { maxStack := 6, maxLocals := 6, code := prog_3_method_3_code, exceptionTable := #[], attributes := #[] }
def k2m2 : Method := { name := "nextInt", desc := "(I)I", sig := { parameters := [.int], returnType := some .int }, accessFlags := 1, code := some k2c2 }
def k2c3 : Code := { maxStack := 4, maxLocals := 6, code := prog_3_method_4_code, exceptionTable := #[], attributes := #[] }
def k2m3 : Method := { name := "shuffle", desc := "([II)V", sig := { parameters := [(.array .int), .int], returnType := none }, accessFlags := 1, code := some k2c3 }
/-- com/example/consigliere/consigliere/engine/Rng -/
def k2 : Class := { plain "com/example/consigliere/consigliere/engine/Rng" (some 0) with
  accessFlags := 49
  interfaces := #[]
  cf := some (fileOf pool2 8 #[] #[{ accessFlags := 1, nameIndex := 5, descriptorIndex := 41, attributes := #[] }, { accessFlags := 1, nameIndex := 32, descriptorIndex := 33, attributes := #[] }, { accessFlags := 1, nameIndex := 36, descriptorIndex := 37, attributes := #[] }, { accessFlags := 1, nameIndex := 45, descriptorIndex := 46, attributes := #[] }] 49 2 #[] #[{ accessFlags := 26, nameIndex := 38, descriptorIndex := 12, attributes := #[] }, { accessFlags := 26, nameIndex := 40, descriptorIndex := 12, attributes := #[] }, { accessFlags := 2, nameIndex := 11, descriptorIndex := 12, attributes := #[] }])
  fields := #[{ name := "GOLDEN_GAMMA", type := .long, accessFlags := 26, slot := 0, constantValue := 0 }, { name := "TWO_TO_THE_32", type := .long, accessFlags := 26, slot := 1, constantValue := 0 }, { name := "state", type := .long, accessFlags := 2, slot := 0, constantValue := 0 }]
  methods := #[k2m0, k2m1, k2m2, k2m3]
  instanceTypes := #[.long]
  staticTypes := #[.long, .long]
  resolved := Array.replicate 64 none
  statics := none }

def pool3 : Array CpInfo := pool [(1, u "java/lang/Cloneable"), (0, .class_ 1), (0, u "java/lang/Object"), (0, .class_ 3)] 3

/-- java/lang/Cloneable -/
def k3 : Class := { plain "java/lang/Cloneable" (some 0) with
  accessFlags := 1537
  interfaces := #[]
  cf := some (fileOf pool3 2 #[] #[] 1537 4 #[] #[])
  fields := #[]
  methods := #[]
  instanceTypes := #[]
  staticTypes := #[]
  resolved := Array.replicate 8 none
  statics := none }

def pool4 : Array CpInfo := pool [(1, u "java/io/Serializable"), (0, .class_ 1), (0, u "java/lang/Object"), (0, .class_ 3)] 3

/-- java/io/Serializable -/
def k4 : Class := { plain "java/io/Serializable" (some 0) with
  accessFlags := 1537
  interfaces := #[]
  cf := some (fileOf pool4 2 #[] #[] 1537 4 #[] #[])
  fields := #[]
  methods := #[]
  instanceTypes := #[]
  staticTypes := #[]
  resolved := Array.replicate 8 none
  statics := none }

/-- the primitive byte -/
def k5 : Class := { plain "byte" none with kind := .primitive 'B', accessFlags := 0x411 }
/-- [B -/
def k6 : Class := { plain "[B" (some 0) with kind := .array 5 .byte, interfaces := #[3, 4], accessFlags := 1041 }

/-- the primitive int -/
def k7 : Class := { plain "int" none with kind := .primitive 'I', accessFlags := 0x411 }
/-- [I -/
def k8 : Class := { plain "[I" (some 0) with kind := .array 7 .int, interfaces := #[3, 4], accessFlags := 1041 }

def heap : Heap := #[]
def classes : Array Class := #[k0, k1, k2, k3, k4, k5, k6, k7, k8]
def interned : List (Array UInt16 × Addr) := []
def slotsUsed : Nat := 0
def theMethod : MethodId := ⟨1, 2⟩
def args0 : Array Value := #[.long 5, .int 6, .int 7, .int 8, .int 9, .int 10]
def aboutOver (below : List Frame) : State where
  vm := { classes := classes, interned := interned.toArray }
  heap := heap
  slotsUsed := slotsUsed
  threads := #[{ frames := .invoking theMethod args0 :: below }]
def below0 : List Frame := [.native { method := ⟨0, 0⟩, args := #[] }]
def about1 : State := aboutOver below0
def p0 : Program := .bare "" "" ""
def e0 : Env := launch0.env 0 0 0
theorem w_frames : about1.frames = Frame.invoking theMethod args0 :: below0 := rfl
set_option maxRecDepth 65536 in
theorem w_args : argsFit about1.vm theMethod args0 = true := by decide +kernel
set_option maxRecDepth 65536 in
theorem w_heap : heapFits about1 = true := by decide +kernel
set_option maxRecDepth 65536 in
theorem w_runnable : about1.curStatus? = some .runnable := by decide +kernel
set_option maxRecDepth 65536 in
theorem w_alone : about1.alone = true := by decide +kernel
set_option maxRecDepth 65536 in
theorem w_named : about1.methodNamed? x = some theMethod := by decide +kernel
set_option maxRecDepth 65536 in
theorem w_hears : about1.hears theMethod below0 = true := by decide +kernel
set_option maxRecDepth 65536 in
theorem w_ripe : about1.ripe theMethod args0 below0 = true := by decide +kernel
theorem w_running : about1.status = .running := rfl
set_option maxRecDepth 65536 in
theorem w_room : about1.hasRoom e0.platform room_1 = true :=
  launch0.hasRoom_least _ room_1 (by decide +kernel) (by decide +kernel) (by decide +kernel) (by decide +kernel) (by decide +kernel) (by decide +kernel)
theorem allAtoms_all (ts : List Jvm.Cond) (a : Array Jvm.Value) (st : Jvm.State) : (allAtoms ts).before a st = ts.all (fun c => c.before a st) := by
  induction ts with
  | nil => rfl
  | cons c t ih =>
    show (Jvm.Cond.and c (allAtoms t)).before a st = _
    rw [Jvm.Cond.before_and, ih, List.all_cons]
def words1 : List Jvm.Cond := Jvm.Cond.code x code maxLocals ret :: tables_1
/-- a 'code' word, met by the world's own term for the bytes: nothing is compared byte by byte -/
theorem code_word {y : MethodName} {bytes : ByteArray} {mx : Nat} {rt : Option FieldType} {a : Array Value} {s : State} {m : MethodId} {meth : Method} {c : Code} (h1 : s.methodNamed? y = some m) (h2 : s.vm.method? m = some meth) (h3 : meth.code = some c) (h4 : c.code = bytes)
    (h5 : (c.maxLocals == mx && c.exceptionTable.isEmpty && decide (c.maxStack ≤ mostOperands) && decide (meth.sig.returnType = rt) && !meth.locks && decide (parseMethodDescriptor y.desc = some meth.sig)) = true) : (Jvm.Cond.code y bytes mx rt).before a s = true := by
  simp only [Bool.and_eq_true, beq_iff_eq, Bool.not_eq_true', decide_eq_true_eq] at h5
  obtain ⟨⟨⟨⟨⟨g1, g2⟩, g3⟩, g4⟩, g5⟩, g6⟩ := h5
  simp [Cond.before, Cond.holds, Cond.value, h1, h2, h3, h4, g1, g2, g3, g4, g5, g6]
def isCode : Jvm.Cond → Bool
  | .code _ _ _ _ => true
  | _ => false
theorem all_split {L : List Jvm.Cond} {P : Jvm.Cond → Bool} (h1 : L.all (fun c => isCode c || P c) = true) (h2 : ∀ c ∈ L.filter isCode, P c = true) : L.all P = true := by
  refine List.all_eq_true.mpr fun c hc => ?_
  have h := List.all_eq_true.mp h1 c hc
  rcases Bool.eq_false_or_eq_true (isCode c) with hi | hi
  · exact h2 c (List.mem_filter.mpr ⟨hc, hi⟩)
  · simpa [hi] using h
set_option maxRecDepth 65536 in
theorem w_c0 : (Jvm.Cond.code x code maxLocals ret).before args0 about1 = true := code_word (m := ⟨1, 2⟩) (meth := k1m2) (c := k1c2) (by decide +kernel) rfl rfl rfl (by decide +kernel)
set_option maxRecDepth 65536 in
theorem w_c1 : (Jvm.Cond.code ({ cls := "com/example/consigliere/consigliere/engine/Rng", name := "<init>", desc := "(J)V" } : Jvm.MethodName) prog_3_method_1_code (3 : Nat) (Option.none : Option Jvm.ClassFile.FieldType)).before args0 about1 = true := code_word (m := ⟨2, 0⟩) (meth := k2m0) (c := k2c0) (by decide +kernel) rfl rfl rfl (by decide +kernel)
set_option maxRecDepth 65536 in
theorem w_c2 : (Jvm.Cond.code ({ cls := "java/lang/Object", name := "<init>", desc := "()V" } : Jvm.MethodName) object_method_1_code (1 : Nat) (Option.none : Option Jvm.ClassFile.FieldType)).before args0 about1 = true := code_word (m := ⟨0, 0⟩) (meth := k0m0) (c := k0c0) (by decide +kernel) rfl rfl rfl (by decide +kernel)
set_option maxRecDepth 65536 in
theorem w_c3 : (Jvm.Cond.code ({ cls := "com/example/consigliere/consigliere/engine/Rng", name := "shuffle", desc := "([II)V" } : Jvm.MethodName) prog_3_method_4_code (6 : Nat) (Option.none : Option Jvm.ClassFile.FieldType)).before args0 about1 = true := code_word (m := ⟨2, 3⟩) (meth := k2m3) (c := k2c3) (by decide +kernel) rfl rfl rfl (by decide +kernel)
set_option maxRecDepth 65536 in
theorem w_c4 : (Jvm.Cond.code ({ cls := "com/example/consigliere/consigliere/engine/Rng", name := "nextInt", desc := "(I)I" } : Jvm.MethodName) prog_3_method_3_code (6 : Nat) (Option.some Jvm.ClassFile.FieldType.int)).before args0 about1 = true := code_word (m := ⟨2, 2⟩) (meth := k2m2) (c := k2c2) (by decide +kernel) rfl rfl rfl (by decide +kernel)
set_option maxRecDepth 65536 in
theorem w_c5 : (Jvm.Cond.code ({ cls := "com/example/consigliere/consigliere/engine/Rng", name := "nextLong", desc := "()J" } : Jvm.MethodName) prog_3_method_2_code (3 : Nat) (Option.some Jvm.ClassFile.FieldType.long)).before args0 about1 = true := code_word (m := ⟨2, 1⟩) (meth := k2m1) (c := k2c1) (by decide +kernel) rfl rfl rfl (by decide +kernel)
set_option maxRecDepth 65536 in
theorem w_c6 : (Jvm.Cond.code ({ cls := "com/example/consigliere/consigliere/engine/RngShufflePinLaw", name := "swap", desc := "([III)V" } : Jvm.MethodName) method_2_code (4 : Nat) (Option.none : Option Jvm.ClassFile.FieldType)).before args0 about1 = true := code_word (m := ⟨1, 1⟩) (meth := k1m1) (c := k1c1) (by decide +kernel) rfl rfl rfl (by decide +kernel)
def codes1 : List Jvm.Cond := [Jvm.Cond.code x code maxLocals ret, Jvm.Cond.code ({ cls := "com/example/consigliere/consigliere/engine/Rng", name := "<init>", desc := "(J)V" } : Jvm.MethodName) prog_3_method_1_code (3 : Nat) (Option.none : Option Jvm.ClassFile.FieldType), Jvm.Cond.code ({ cls := "java/lang/Object", name := "<init>", desc := "()V" } : Jvm.MethodName) object_method_1_code (1 : Nat) (Option.none : Option Jvm.ClassFile.FieldType), Jvm.Cond.code ({ cls := "com/example/consigliere/consigliere/engine/Rng", name := "shuffle", desc := "([II)V" } : Jvm.MethodName) prog_3_method_4_code (6 : Nat) (Option.none : Option Jvm.ClassFile.FieldType), Jvm.Cond.code ({ cls := "com/example/consigliere/consigliere/engine/Rng", name := "nextInt", desc := "(I)I" } : Jvm.MethodName) prog_3_method_3_code (6 : Nat) (Option.some Jvm.ClassFile.FieldType.int), Jvm.Cond.code ({ cls := "com/example/consigliere/consigliere/engine/Rng", name := "nextLong", desc := "()J" } : Jvm.MethodName) prog_3_method_2_code (3 : Nat) (Option.some Jvm.ClassFile.FieldType.long), Jvm.Cond.code ({ cls := "com/example/consigliere/consigliere/engine/RngShufflePinLaw", name := "swap", desc := "([III)V" } : Jvm.MethodName) method_2_code (4 : Nat) (Option.none : Option Jvm.ClassFile.FieldType)]
set_option maxRecDepth 65536 in
theorem codes_eq : words1.filter isCode = codes1 := rfl
theorem w_codes : ∀ c ∈ words1.filter isCode, c.before args0 about1 = true := by
  rw [codes_eq]
  intro c hc
  simp only [codes1, List.mem_cons, List.not_mem_nil, or_false] at hc
  rcases hc with rfl | rfl | rfl | rfl | rfl | rfl | rfl
  · exact w_c0
  · exact w_c1
  · exact w_c2
  · exact w_c3
  · exact w_c4
  · exact w_c5
  · exact w_c6
set_option maxRecDepth 65536 in
theorem w_t1 : (words1.take 24).all (fun c => isCode c || c.before args0 about1) = true := by decide +kernel
set_option maxRecDepth 65536 in
theorem w_t2 : (words1.drop 24).all (fun c => isCode c || c.before args0 about1) = true := by decide +kernel
theorem w_tables : (allAtoms (Jvm.Cond.code x code maxLocals ret :: tables_1)).before args0 about1 = true := by
  rw [allAtoms_all]
  show words1.all (fun c => c.before args0 about1) = true
  refine all_split ?_ w_codes
  rw [← List.take_append_drop 24 words1, List.all_append, w_t1, w_t2]
  rfl
set_option maxRecDepth 65536 in
theorem w_case : (Jvm.Cond.and given_1 narrow_1).before args0 about1 = true := by decide +kernel
theorem w_applies : (headSpec (Jvm.Cond.code x code maxLocals ret :: tables_1) room_1).applies x e0.platform about1 = true :=
  (Spec.applies_iff w_frames).mpr ⟨w_running, w_runnable, w_alone, w_named, w_hears, w_ripe, w_room, w_tables⟩
theorem atStart : AtStart classFile x code maxLocals ret World_1 tables_1 room_1 Calls_1 rest_1 Pre_1 launch0 p0 e0 about1 theMethod args0 below0 :=
  ⟨lists_1, trivial, launch0.admits_env _ _ _, launch0.least_env, fairChoices_fair.cas, fairChoices_fair.clock, w_frames, w_args, w_heap, w_applies, trivial, trivial, w_case⟩
end start1
theorem witness_1 : WitnessClaimed_1 := ⟨start1.p0, start1.e0, start1.about1, start1.theMethod, start1.args0, start1.below0, start1.atStart⟩
end Jvm.Pilot.@@N@@
