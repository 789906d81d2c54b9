import JvmDerived
import JvmDerived.Pilot.@@N@@Statement
import JvmDerived.Pilot.@@N@@Code
set_option linter.unusedVariables false
set_option linter.unusedSimpArgs false
@@BLOCK:NumsL.lean.txt@@
namespace Jvm.Pilot.@@N@@
open Jvm Jvm.ClassFile Sem Op Lib Jvm.Free Jvm.Stand Jvm.LawKit Jvm.RoadKit Bundle Jvm.Pilot.@@N@@.Jvm.D
def own_shl (x y : Int32) : Int32 := x <<< (y &&& 31)
def own_shr (x y : Int32) : Int32 := x >>> (y &&& 31)
def own_ushr (x y : Int32) : Int32 := (x.toUInt32 >>> (y &&& 31).toUInt32).toInt32
def own_shlL (x : Int64) (y : Int32) : Int64 := x <<< (y &&& 0x3f).toInt64
def own_shrL (x : Int64) (y : Int32) : Int64 := x >>> (y &&& 0x3f).toInt64
def own_ushrL (x : Int64) (y : Int32) : Int64 := (x.toUInt64 >>> (y &&& 0x3f).toInt64.toUInt64).toInt64
def own_remL (x y : Int64) : Int64 := x - (x / y) * y
section OwnKit
variable {p : Program} {l : Launch} {e : Env} {R : Room} {s : State} {m : MethodId} {args : Array Value} {below : List Frame} {meth : Method} {c : Code} {T : State} {locs : List Loc} {cells slots : Nat} {Z : State} {h h' : Heap} {a b : Addr}
theorem retI (X : Stand p l e R s m args below meth c T locs cells slots) (hx : p.tables.exec = Jvm.exec) {pc : Nat} {Ls : Array Slot} {z : Int32} {rest : List Value} (hret : meth.sig.returnType = some .int) (hd : decode c.code pc = .ok (.ireturn, 1)) {fs : List Frame}
    (hl : ∀ (f : JFrame) (acts : List Action), f.method = m → f.locked = none → f.entered = [] → (doReturn e (T.setTop f) acts (some (.int z))).1 = T.setFrames fs) : Steps p.tables e below (T.setTop (mkF m pc Ls (.int z :: rest))) (T.setFrames fs) :=
  retOut X hx hret rfl (Or.inl ⟨rfl, Or.inl rfl, _, rfl⟩) hd hl
theorem own_retJ (X : Stand p l e R s m args below meth c T locs cells slots) (hx : p.tables.exec = Jvm.exec) {pc : Nat} {Ls : Array Slot} {z : Int64} {rest : List Value} (hret : meth.sig.returnType = some .long) (hd : decode c.code pc = .ok (.lreturn, 1)) {fs : List Frame}
    (hl : ∀ (f : JFrame) (acts : List Action), f.method = m → f.locked = none → f.entered = [] → (doReturn e (T.setTop f) acts (some (.long z))).1 = T.setFrames fs) : Steps p.tables e below (T.setTop (mkF m pc Ls (.long z :: rest))) (T.setFrames fs) :=
  retOut X hx hret rfl (Or.inr (Or.inl ⟨rfl, rfl, _, rfl⟩)) hd hl
/-- an array of n places of one of the int kinds: place i holds f i -/
def ArI (Z : State) (h : Heap) (a : Addr) (ty : FieldType) (n : Nat) (f : Nat → Int32) : Prop := ∃ c : Cell, Arr Z h a c ty ∧ c.slots.size = n ∧ ∀ i, i < n → c.slots[i]? = some (.int (f i))
def own_upd (f : Nat → Int32) (i : Nat) (x : Int32) : Nat → Int32 := fun k => if k = i then x else f k
theorem ArI.lt {ty : FieldType} {n : Nat} {f : Nat → Int32} (A : ArI Z h a ty n f) : a < h.size := by obtain ⟨c, A, -⟩ := A; exact A.lt
theorem ArI.ext {ty : FieldType} {n : Nat} {f : Nat → Int32} (A : ArI Z h a ty n f) (E : Ext h h') : ArI Z h' a ty n f := by obtain ⟨c, A, r⟩ := A; exact ⟨c, A.ext E, r⟩
theorem ArI.other {ty : FieldType} {n : Nat} {f : Nat → Int32} {sl : Nat} {v : Value} (A : ArI Z h b ty n f) (W : Wr h h' a sl v) (q : b ≠ a) : ArI Z h' b ty n f := by obtain ⟨c, A, r⟩ := A; exact ⟨c, A.other W q, r⟩
theorem ArI.keep {ty : FieldType} {n : Nat} {f : Nat → Int32} {ws : List Addr} (A : ArI Z h a ty n f) (K : Keep h h' ws) (q : a ∉ ws) : ArI Z h' a ty n f := by obtain ⟨c, A, r⟩ := A; exact ⟨c, ⟨K.2.1 a c A.1 q, A.2⟩, r⟩
theorem ArI.new {ty : FieldType} {k : ClassId} {z : Int32} {n : Nat} (hd : defaultValue ty = .int 0) (A : Arr Z h a (newA k ty z) ty) (hn : z.toNatClampNeg = n) : ArI Z h a ty n (fun _ => 0) :=
  ⟨_, A, by rw [sz_new, hn], fun i hi => by rw [newA]; simp [hn, hi, hd]⟩
theorem ArI.set {ty : FieldType} {n i : Nat} {f : Nat → Int32} {cl : Cell} {x : Int32} (A : Arr Z h a cl ty) (S : cl.slots.size = n) (H : ∀ i, i < n → cl.slots[i]? = some (.int (f i))) (W : Wr h h' a i (.int x)) : ArI Z h' a ty n (own_upd f i x) :=
  ⟨cl.setSlot i (.int x), A.same W, by rw [sz_set]; exact S, fun k hk => by
    by_cases q : k = i
    · subst q; simp [Cell.setSlot, own_upd, Array.getElem?_setIfInBounds, S, hk]
    · simp only [Cell.setSlot, own_upd, Array.getElem?_setIfInBounds, if_neg (Ne.symm q), if_neg q]; exact H k hk⟩
theorem own_in {cl : Cell} {j : Int32} {i n : Nat} (S : cl.slots.size = n) (hj : ¬ j < 0 ∧ j.toNatClampNeg = i) (hi : i < n) : ¬ (j < 0 ∨ cl.slots.size ≤ j.toNatClampNeg) := by
  obtain ⟨j0, rfl⟩ := hj
  rw [S]; rintro (q | q)
  · exact j0 q
  · exact absurd hi (Nat.not_lt.mpr q)
theorem own_stI {n i : Nat} {f : Nat → Int32} (X : Stand p l e R s m args below meth c T locs cells slots) (hx : p.tables.exec = Jvm.exec) (hZ : Z.Warmed39 s.vm) (eT : T.heap = h) (A : ArI Z h a .int n f) {j x : Int32} (hj : ¬ j < 0 ∧ j.toNatClampNeg = i) (hi : i < n) {g : JFrame} (hg : g.method = m) {rest : List Value} (hs : g.stack = .int x :: .int j :: .ref a :: rest) (hd : decode c.code g.pc = .ok (.iastore, 1)) :
    ∃ T' h', Stand p l e R s m args below meth c T' (locs ++ [⟨a, i⟩]) cells slots ∧ T'.heap = h' ∧ Wr h h' a i (.int x) ∧ ArI Z h' a .int n (own_upd f i x) ∧ ∀ target, Steps p.tables e below (T'.setTop { g with pc := g.pc + 1, stack := rest }) target → Steps p.tables e below (T.setTop g) target := by
  obtain ⟨cl, Ar, S, H⟩ := A
  have hin := own_in S hj hi
  obtain ⟨T', h', X', e', W', st⟩ := stI X hx hZ eT Ar hin hg hs hd
  rw [hj.2] at X' W'
  exact ⟨T', h', X', e', W', ArI.set Ar S H W', st⟩
theorem own_stC {n i : Nat} {f : Nat → Int32} (X : Stand p l e R s m args below meth c T locs cells slots) (hx : p.tables.exec = Jvm.exec) (hZ : Z.Warmed39 s.vm) (eT : T.heap = h) (A : ArI Z h a .char n f) {j x : Int32} (hj : ¬ j < 0 ∧ j.toNatClampNeg = i) (hi : i < n) {g : JFrame} (hg : g.method = m) {rest : List Value} (hs : g.stack = .int x :: .int j :: .ref a :: rest) (hd : decode c.code g.pc = .ok (.castore, 1)) :
    ∃ T' h', Stand p l e R s m args below meth c T' (locs ++ [⟨a, i⟩]) cells slots ∧ T'.heap = h' ∧ Wr h h' a i (.int (nar .char x)) ∧ ArI Z h' a .char n (own_upd f i (nar .char x)) ∧ ∀ target, Steps p.tables e below (T'.setTop { g with pc := g.pc + 1, stack := rest }) target → Steps p.tables e below (T.setTop g) target := by
  obtain ⟨cl, Ar, S, H⟩ := A
  have hin := own_in S hj hi
  obtain ⟨T', h', X', e', W', st⟩ := stC X hx hZ eT Ar hin hg hs hd
  rw [hj.2] at X' W'
  exact ⟨T', h', X', e', W', ArI.set Ar S H W', st⟩
theorem own_stB {n i : Nat} {f : Nat → Int32} (X : Stand p l e R s m args below meth c T locs cells slots) (hx : p.tables.exec = Jvm.exec) (hZ : Z.Warmed39 s.vm) (eT : T.heap = h) (A : ArI Z h a .byte n f) {j x : Int32} (hj : ¬ j < 0 ∧ j.toNatClampNeg = i) (hi : i < n) {g : JFrame} (hg : g.method = m) {rest : List Value} (hs : g.stack = .int x :: .int j :: .ref a :: rest) (hd : decode c.code g.pc = .ok (.bastore, 1)) :
    ∃ T' h', Stand p l e R s m args below meth c T' (locs ++ [⟨a, i⟩]) cells slots ∧ T'.heap = h' ∧ Wr h h' a i (.int (nar .byte x)) ∧ ArI Z h' a .byte n (own_upd f i (nar .byte x)) ∧ ∀ target, Steps p.tables e below (T'.setTop { g with pc := g.pc + 1, stack := rest }) target → Steps p.tables e below (T.setTop g) target := by
  obtain ⟨cl, Ar, S, H⟩ := A
  have hin := own_in S hj hi
  obtain ⟨T', h', X', e', W', st⟩ := stB X hx hZ eT Ar hin hg hs hd
  rw [hj.2] at X' W'
  exact ⟨T', h', X', e', W', ArI.set Ar S H W', st⟩
theorem own_ldI {n i : Nat} {f : Nat → Int32} (X : Stand p l e R s m args below meth c T locs cells slots) (hx : p.tables.exec = Jvm.exec) (hZ : Z.Warmed39 s.vm) (eT : T.heap = h) (A : ArI Z h a .int n f) {j : Int32} (hj : ¬ j < 0 ∧ j.toNatClampNeg = i) (hi : i < n) {g : JFrame} (hg : g.method = m) {rest : List Value} (hs : g.stack = .int j :: .ref a :: rest) (hd : decode c.code g.pc = .ok (.iaload, 1)) (target : State)
    (k : Steps p.tables e below (T.setTop { g with pc := g.pc + 1, stack := .int (f i) :: rest }) target) : Steps p.tables e below (T.setTop g) target := by
  obtain ⟨cl, Ar, S, H⟩ := A
  exact X.iaload hx (by rw [eT]; exact Ar.1) (State.isArrayOf_alike hZ.alike Ar.2.1) Ar.2.2 (own_in S hj hi) (by rw [hj.2]; exact H i hi) hg hs hd _ k
theorem own_ldC {n i : Nat} {f : Nat → Int32} (X : Stand p l e R s m args below meth c T locs cells slots) (hx : p.tables.exec = Jvm.exec) (hZ : Z.Warmed39 s.vm) (eT : T.heap = h) (A : ArI Z h a .char n f) {j : Int32} (hj : ¬ j < 0 ∧ j.toNatClampNeg = i) (hi : i < n) {g : JFrame} (hg : g.method = m) {rest : List Value} (hs : g.stack = .int j :: .ref a :: rest) (hd : decode c.code g.pc = .ok (.caload, 1)) (target : State)
    (k : Steps p.tables e below (T.setTop { g with pc := g.pc + 1, stack := .int (f i) :: rest }) target) : Steps p.tables e below (T.setTop g) target := by
  obtain ⟨cl, Ar, S, H⟩ := A
  exact X.caload hx (by rw [eT]; exact Ar.1) (State.isArrayOf_alike hZ.alike Ar.2.1) Ar.2.2 (own_in S hj hi) (by rw [hj.2]; exact H i hi) hg hs hd _ k
theorem own_ldB {n i : Nat} {f : Nat → Int32} (X : Stand p l e R s m args below meth c T locs cells slots) (hx : p.tables.exec = Jvm.exec) (hZ : Z.Warmed39 s.vm) (eT : T.heap = h) (A : ArI Z h a .byte n f) {j : Int32} (hj : ¬ j < 0 ∧ j.toNatClampNeg = i) (hi : i < n) {g : JFrame} (hg : g.method = m) {rest : List Value} (hs : g.stack = .int j :: .ref a :: rest) (hd : decode c.code g.pc = .ok (.baload, 1)) (target : State)
    (k : Steps p.tables e below (T.setTop { g with pc := g.pc + 1, stack := .int (f i) :: rest }) target) : Steps p.tables e below (T.setTop g) target := by
  obtain ⟨cl, Ar, S, H⟩ := A
  exact X.baloadBytes hx (by rw [eT]; exact Ar.1) (State.isArrayOf_alike hZ.alike Ar.2.1) Ar.2.2 (own_in S hj hi) (by rw [hj.2]; exact H i hi) hg hs hd _ k
theorem own_len {n : Nat} {ty : FieldType} {f : Nat → Int32} (X : Stand p l e R s m args below meth c T locs cells slots) (hx : p.tables.exec = Jvm.exec) (hZ : Z.Warmed39 s.vm) (eT : T.heap = h) (A : ArI Z h a ty n f) {N : Int32} (hN : n.toInt32 = N) {g : JFrame} (hg : g.method = m) {rest : List Value} (hs : g.stack = .ref a :: rest) (hd : decode c.code g.pc = .ok (.arraylength, 1)) (target : State)
    (k : Steps p.tables e below (T.setTop { g with pc := g.pc + 1, stack := .int N :: rest }) target) : Steps p.tables e below (T.setTop g) target := by
  obtain ⟨cl, Ar, S, H⟩ := A
  exact X.arraylength hx (by rw [eT]; exact Ar.1) (State.isArrayOf_alike hZ.alike Ar.2.1) hg hs hd _ (by rw [S, hN]; exact k)
end OwnKit
theorem pn_0 : plainName "com/example/keys_to_proof/keystoproof/language/Scanner" = true := by first | (simp [plainName, overriddenIn]; done) | decide +kernel
theorem d2_0 : decode prog_100_method_12_code 0 = .ok (.iload_n 0, 1) := by decide +kernel
theorem d2_1 : decode prog_100_method_12_code 1 = .ok (.bipush 97, 2) := by decide +kernel
theorem d2_3 : decode prog_100_method_12_code 3 = .ok (.if_icmp .lt 9, 3) := by decide +kernel
theorem d2_6 : decode prog_100_method_12_code 6 = .ok (.iload_n 0, 1) := by decide +kernel
theorem d2_7 : decode prog_100_method_12_code 7 = .ok (.bipush 122, 2) := by decide +kernel
theorem d2_9 : decode prog_100_method_12_code 9 = .ok (.if_icmp .le 15, 3) := by decide +kernel
theorem d2_12 : decode prog_100_method_12_code 12 = .ok (.iload_n 0, 1) := by decide +kernel
theorem d2_13 : decode prog_100_method_12_code 13 = .ok (.bipush 65, 2) := by decide +kernel
theorem d2_15 : decode prog_100_method_12_code 15 = .ok (.if_icmp .lt 13, 3) := by decide +kernel
theorem d2_18 : decode prog_100_method_12_code 18 = .ok (.iload_n 0, 1) := by decide +kernel
theorem d2_19 : decode prog_100_method_12_code 19 = .ok (.bipush 90, 2) := by decide +kernel
theorem d2_21 : decode prog_100_method_12_code 21 = .ok (.if_icmp .gt 7, 3) := by decide +kernel
theorem d2_24 : decode prog_100_method_12_code 24 = .ok (.iconst 1, 1) := by decide +kernel
theorem d2_25 : decode prog_100_method_12_code 25 = .ok (.goto 4, 3) := by decide +kernel
theorem d2_28 : decode prog_100_method_12_code 28 = .ok (.iconst 0, 1) := by decide +kernel
theorem d2_29 : decode prog_100_method_12_code 29 = .ok (.ireturn, 1) := by decide +kernel
theorem ef_2 (m : MethodId) (x0 : Int32) : entryFrame m #[(.int x0)] 1 = mkF m 0 #[.val (.int x0)] [] := by first | (simp [entryFrame, mkF, argsToLocals, Value.category]; done) | rfl
abbrev R2 : Room := { frames := 0, cells := 0, slots := 0, locals := 0 }
def r2 (p2_0 : Int32) : Int32 := (if p2_0 < (97 : Int32) then (if p2_0 < (65 : Int32) then (0 : Int32) else (if (90 : Int32) < p2_0 then (0 : Int32) else (1 : Int32))) else (if (122 : Int32) < p2_0 then (if p2_0 < (65 : Int32) then (0 : Int32) else (if (90 : Int32) < p2_0 then (0 : Int32) else (1 : Int32))) else (1 : Int32)))
def Q2 (Z : State) (p2_0 : Int32) (h0 : Heap) (n0 : Nat) (v : Option Value) (h : Heap) (L : List Loc) : Prop := v = some (.int (r2 p2_0)) ∧ Fr n0 L ∧ h = h0
set_option maxRecDepth 65536 in
set_option maxHeartbeats 40000000 in
theorem rm2 (l : Launch) (Z : State) (a0 : Array Value) (hw : ∀ d ∈ tables_1, d.before a0 Z = true) (ws : List Jvm.Cond) (p2_0 : Int32) (h0 : Heap) (n0 : Nat) (Z0 : n0 ≤ h0.size) :
    MetFree l (⟨"com/example/keys_to_proof/keystoproof/language/Scanner", "isLetter", "(I)Z"⟩ : MethodName) (head1 (Jvm.Cond.code (⟨"com/example/keys_to_proof/keystoproof/language/Scanner", "isLetter", "(I)Z"⟩ : MethodName) prog_100_method_12_code 1 (some .boolean) :: ws) R2) (fun a U => a = #[(.int p2_0)] ∧ Z.Warmed39 U.vm ∧ U.heap = h0) (fun _ _ _ _ _ => True) (fun _ U o U' => ∃ v L, o = .returned v ∧ Q2 Z p2_0 h0 n0 v U'.heap L ∧ FrameEnd U o U' L R2.cells R2.slots) := by
  refine MetFree.of_bodySF (plainFor_of_name pn_0) hisR ?_
  intro p e s m args below meth c s₁ Bd hml0 hP hK
  obtain ⟨rfl, hZ, hh⟩ := hP
  have hx := Bd.exec
  have hby := Bd.bytes
  have hml : c.maxLocals = 1 := hml0
  have hown : s.vm.findClass "com/example/keys_to_proof/keystoproof/language/Scanner" = some m.cls := findClass_of_methodNamed Bd.named
  have hnm := (name_of_methodNamed Bd.named Bd.method).1
  have X0 : Stand p l e R2 s m #[(.int p2_0)] below meth c s₁ [] 0 0 := Stand.of_body Bd
  have e0 : s₁.heap = h0 := by rw [← hh, Bd.state]; rfl
  have N0 := Fr.nil n0
  have pre0 : ∀ t, Steps p.tables e below (s₁.setTop (mkF m 0 #[.val (.int p2_0)] [])) t → Steps p.tables e below (s₁.setTop (entryFrame m #[(.int p2_0)] 1)) t := fun t k => castTop (ef_2 m p2_0) k
  have pre1 : ∀ t, Steps p.tables e below (s₁.setTop (mkF m 3 #[.val (.int p2_0)] [(.int (97 : Int32)), (.int p2_0)])) t → Steps p.tables e below (s₁.setTop (entryFrame m #[(.int p2_0)] 1)) t := fun t k => pre0 t (by
    refine XS.iloadN X0.here hx rfl (hb hby d2_0) rfl ?_
    show Steps p.tables e below (s₁.setTop (mkF m 1 #[.val (.int p2_0)] [(.int p2_0)])) _
    refine XS.bipush X0.here hx rfl (hb hby d2_1) ?_
    show Steps p.tables e below (s₁.setTop (mkF m 3 #[.val (.int p2_0)] [(.int (97 : Int32)), (.int p2_0)])) _
    exact k)
  by_cases hc3_2 : p2_0 < (97 : Int32)
  · have pre3 : ∀ t, Steps p.tables e below (s₁.setTop (mkF m 15 #[.val (.int p2_0)] [(.int (65 : Int32)), (.int p2_0)])) t → Steps p.tables e below (s₁.setTop (entryFrame m #[(.int p2_0)] 1)) t := fun t k => pre1 t (by
      refine XS.icmpYes X0.here hx rfl (pc0 := 3) (pc' := 12) rfl (hb hby d2_3) rfl (tlt hc3_2).1 (by decide) (by decide) ?_
      show Steps p.tables e below (s₁.setTop (mkF m 12 #[.val (.int p2_0)] [])) _
      refine XS.iloadN X0.here hx rfl (hb hby d2_12) rfl ?_
      show Steps p.tables e below (s₁.setTop (mkF m 13 #[.val (.int p2_0)] [(.int p2_0)])) _
      refine XS.bipush X0.here hx rfl (hb hby d2_13) ?_
      show Steps p.tables e below (s₁.setTop (mkF m 15 #[.val (.int p2_0)] [(.int (65 : Int32)), (.int p2_0)])) _
      exact k)
    by_cases hc15_4 : p2_0 < (65 : Int32)
    · have pre5 : ∀ t, Steps p.tables e below (s₁.setTop (mkF m 29 #[.val (.int p2_0)] [(.int (0 : Int32))])) t → Steps p.tables e below (s₁.setTop (entryFrame m #[(.int p2_0)] 1)) t := fun t k => pre3 t (by
        refine XS.icmpYes X0.here hx rfl (pc0 := 15) (pc' := 28) rfl (hb hby d2_15) rfl (tlt hc15_4).1 (by decide) (by decide) ?_
        show Steps p.tables e below (s₁.setTop (mkF m 28 #[.val (.int p2_0)] [])) _
        refine XS.iconst X0.here hx rfl (hb hby d2_28) ?_
        show Steps p.tables e below (s₁.setTop (mkF m 29 #[.val (.int p2_0)] [(.int (0 : Int32))])) _
        exact k)
      have hret : (r2 p2_0) = (0 : Int32) := by unfold r2; rw [if_pos hc3_2, if_pos hc15_4]
      obtain ⟨fs, hr, hrun, hended, hW, hsame⟩ := X0.leave (v := some (.int (0 : Int32))) (fun h => by rw [Bd.returns] at h; cases h)
      refine ⟨_, _, pre5 _ ?_, hrun, hended, _, _, rfl, ?_, ⟨_, rfl⟩, hW, hsame.mono (by decide) (by decide)⟩
      · show Steps p.tables e below (s₁.setTop (mkF m 29 #[.val (.int p2_0)] [(.int (0 : Int32))])) _
        exact retN X0 hx (t := .boolean) Bd.returns (by simp) (hb hby d2_29) hr
      · show Q2 Z p2_0 h0 n0 _ s₁.heap _
        rw [e0]
        exact ⟨(by rw [hret]), N0, rfl⟩
    · have pre6 : ∀ t, Steps p.tables e below (s₁.setTop (mkF m 21 #[.val (.int p2_0)] [(.int (90 : Int32)), (.int p2_0)])) t → Steps p.tables e below (s₁.setTop (entryFrame m #[(.int p2_0)] 1)) t := fun t k => pre3 t (by
        refine XS.icmpNo X0.here hx rfl (hb hby d2_15) rfl (flt hc15_4).1 ?_
        show Steps p.tables e below (s₁.setTop (mkF m 18 #[.val (.int p2_0)] [])) _
        refine XS.iloadN X0.here hx rfl (hb hby d2_18) rfl ?_
        show Steps p.tables e below (s₁.setTop (mkF m 19 #[.val (.int p2_0)] [(.int p2_0)])) _
        refine XS.bipush X0.here hx rfl (hb hby d2_19) ?_
        show Steps p.tables e below (s₁.setTop (mkF m 21 #[.val (.int p2_0)] [(.int (90 : Int32)), (.int p2_0)])) _
        exact k)
      by_cases hc21_7 : (90 : Int32) < p2_0
      · have pre8 : ∀ t, Steps p.tables e below (s₁.setTop (mkF m 29 #[.val (.int p2_0)] [(.int (0 : Int32))])) t → Steps p.tables e below (s₁.setTop (entryFrame m #[(.int p2_0)] 1)) t := fun t k => pre6 t (by
          refine XS.icmpYes X0.here hx rfl (pc0 := 21) (pc' := 28) rfl (hb hby d2_21) rfl (tlt hc21_7).2.2.1 (by decide) (by decide) ?_
          show Steps p.tables e below (s₁.setTop (mkF m 28 #[.val (.int p2_0)] [])) _
          refine XS.iconst X0.here hx rfl (hb hby d2_28) ?_
          show Steps p.tables e below (s₁.setTop (mkF m 29 #[.val (.int p2_0)] [(.int (0 : Int32))])) _
          exact k)
        have hret : (r2 p2_0) = (0 : Int32) := by unfold r2; rw [if_pos hc3_2, if_neg hc15_4, if_pos hc21_7]
        obtain ⟨fs, hr, hrun, hended, hW, hsame⟩ := X0.leave (v := some (.int (0 : Int32))) (fun h => by rw [Bd.returns] at h; cases h)
        refine ⟨_, _, pre8 _ ?_, hrun, hended, _, _, rfl, ?_, ⟨_, rfl⟩, hW, hsame.mono (by decide) (by decide)⟩
        · show Steps p.tables e below (s₁.setTop (mkF m 29 #[.val (.int p2_0)] [(.int (0 : Int32))])) _
          exact retN X0 hx (t := .boolean) Bd.returns (by simp) (hb hby d2_29) hr
        · show Q2 Z p2_0 h0 n0 _ s₁.heap _
          rw [e0]
          exact ⟨(by rw [hret]), N0, rfl⟩
      · have pre9 : ∀ t, Steps p.tables e below (s₁.setTop (mkF m 29 #[.val (.int p2_0)] [(.int (1 : Int32))])) t → Steps p.tables e below (s₁.setTop (entryFrame m #[(.int p2_0)] 1)) t := fun t k => pre6 t (by
          refine XS.icmpNo X0.here hx rfl (hb hby d2_21) rfl (flt hc21_7).2.2.1 ?_
          show Steps p.tables e below (s₁.setTop (mkF m 24 #[.val (.int p2_0)] [])) _
          refine XS.iconst X0.here hx rfl (hb hby d2_24) ?_
          show Steps p.tables e below (s₁.setTop (mkF m 25 #[.val (.int p2_0)] [(.int (1 : Int32))])) _
          refine XS.goto X0.here hx rfl (pc0 := 25) (pc' := 29) rfl (hb hby d2_25) (by decide) (by decide) ?_
          show Steps p.tables e below (s₁.setTop (mkF m 29 #[.val (.int p2_0)] [(.int (1 : Int32))])) _
          exact k)
        have hret : (r2 p2_0) = (1 : Int32) := by unfold r2; rw [if_pos hc3_2, if_neg hc15_4, if_neg hc21_7]
        obtain ⟨fs, hr, hrun, hended, hW, hsame⟩ := X0.leave (v := some (.int (1 : Int32))) (fun h => by rw [Bd.returns] at h; cases h)
        refine ⟨_, _, pre9 _ ?_, hrun, hended, _, _, rfl, ?_, ⟨_, rfl⟩, hW, hsame.mono (by decide) (by decide)⟩
        · show Steps p.tables e below (s₁.setTop (mkF m 29 #[.val (.int p2_0)] [(.int (1 : Int32))])) _
          exact retN X0 hx (t := .boolean) Bd.returns (by simp) (hb hby d2_29) hr
        · show Q2 Z p2_0 h0 n0 _ s₁.heap _
          rw [e0]
          exact ⟨(by rw [hret]), N0, rfl⟩
  · have pre10 : ∀ t, Steps p.tables e below (s₁.setTop (mkF m 9 #[.val (.int p2_0)] [(.int (122 : Int32)), (.int p2_0)])) t → Steps p.tables e below (s₁.setTop (entryFrame m #[(.int p2_0)] 1)) t := fun t k => pre1 t (by
      refine XS.icmpNo X0.here hx rfl (hb hby d2_3) rfl (flt hc3_2).1 ?_
      show Steps p.tables e below (s₁.setTop (mkF m 6 #[.val (.int p2_0)] [])) _
      refine XS.iloadN X0.here hx rfl (hb hby d2_6) rfl ?_
      show Steps p.tables e below (s₁.setTop (mkF m 7 #[.val (.int p2_0)] [(.int p2_0)])) _
      refine XS.bipush X0.here hx rfl (hb hby d2_7) ?_
      show Steps p.tables e below (s₁.setTop (mkF m 9 #[.val (.int p2_0)] [(.int (122 : Int32)), (.int p2_0)])) _
      exact k)
    by_cases hc9_11 : (122 : Int32) < p2_0
    · have pre12 : ∀ t, Steps p.tables e below (s₁.setTop (mkF m 15 #[.val (.int p2_0)] [(.int (65 : Int32)), (.int p2_0)])) t → Steps p.tables e below (s₁.setTop (entryFrame m #[(.int p2_0)] 1)) t := fun t k => pre10 t (by
        refine XS.icmpNo X0.here hx rfl (hb hby d2_9) rfl (tlt hc9_11).2.2.2 ?_
        show Steps p.tables e below (s₁.setTop (mkF m 12 #[.val (.int p2_0)] [])) _
        refine XS.iloadN X0.here hx rfl (hb hby d2_12) rfl ?_
        show Steps p.tables e below (s₁.setTop (mkF m 13 #[.val (.int p2_0)] [(.int p2_0)])) _
        refine XS.bipush X0.here hx rfl (hb hby d2_13) ?_
        show Steps p.tables e below (s₁.setTop (mkF m 15 #[.val (.int p2_0)] [(.int (65 : Int32)), (.int p2_0)])) _
        exact k)
      by_cases hc15_13 : p2_0 < (65 : Int32)
      · have pre14 : ∀ t, Steps p.tables e below (s₁.setTop (mkF m 29 #[.val (.int p2_0)] [(.int (0 : Int32))])) t → Steps p.tables e below (s₁.setTop (entryFrame m #[(.int p2_0)] 1)) t := fun t k => pre12 t (by
          refine XS.icmpYes X0.here hx rfl (pc0 := 15) (pc' := 28) rfl (hb hby d2_15) rfl (tlt hc15_13).1 (by decide) (by decide) ?_
          show Steps p.tables e below (s₁.setTop (mkF m 28 #[.val (.int p2_0)] [])) _
          refine XS.iconst X0.here hx rfl (hb hby d2_28) ?_
          show Steps p.tables e below (s₁.setTop (mkF m 29 #[.val (.int p2_0)] [(.int (0 : Int32))])) _
          exact k)
        have hret : (r2 p2_0) = (0 : Int32) := by unfold r2; rw [if_neg hc3_2, if_pos hc9_11, if_pos hc15_13]
        obtain ⟨fs, hr, hrun, hended, hW, hsame⟩ := X0.leave (v := some (.int (0 : Int32))) (fun h => by rw [Bd.returns] at h; cases h)
        refine ⟨_, _, pre14 _ ?_, hrun, hended, _, _, rfl, ?_, ⟨_, rfl⟩, hW, hsame.mono (by decide) (by decide)⟩
        · show Steps p.tables e below (s₁.setTop (mkF m 29 #[.val (.int p2_0)] [(.int (0 : Int32))])) _
          exact retN X0 hx (t := .boolean) Bd.returns (by simp) (hb hby d2_29) hr
        · show Q2 Z p2_0 h0 n0 _ s₁.heap _
          rw [e0]
          exact ⟨(by rw [hret]), N0, rfl⟩
      · have pre15 : ∀ t, Steps p.tables e below (s₁.setTop (mkF m 21 #[.val (.int p2_0)] [(.int (90 : Int32)), (.int p2_0)])) t → Steps p.tables e below (s₁.setTop (entryFrame m #[(.int p2_0)] 1)) t := fun t k => pre12 t (by
          refine XS.icmpNo X0.here hx rfl (hb hby d2_15) rfl (flt hc15_13).1 ?_
          show Steps p.tables e below (s₁.setTop (mkF m 18 #[.val (.int p2_0)] [])) _
          refine XS.iloadN X0.here hx rfl (hb hby d2_18) rfl ?_
          show Steps p.tables e below (s₁.setTop (mkF m 19 #[.val (.int p2_0)] [(.int p2_0)])) _
          refine XS.bipush X0.here hx rfl (hb hby d2_19) ?_
          show Steps p.tables e below (s₁.setTop (mkF m 21 #[.val (.int p2_0)] [(.int (90 : Int32)), (.int p2_0)])) _
          exact k)
        by_cases hc21_16 : (90 : Int32) < p2_0
        · have pre17 : ∀ t, Steps p.tables e below (s₁.setTop (mkF m 29 #[.val (.int p2_0)] [(.int (0 : Int32))])) t → Steps p.tables e below (s₁.setTop (entryFrame m #[(.int p2_0)] 1)) t := fun t k => pre15 t (by
            refine XS.icmpYes X0.here hx rfl (pc0 := 21) (pc' := 28) rfl (hb hby d2_21) rfl (tlt hc21_16).2.2.1 (by decide) (by decide) ?_
            show Steps p.tables e below (s₁.setTop (mkF m 28 #[.val (.int p2_0)] [])) _
            refine XS.iconst X0.here hx rfl (hb hby d2_28) ?_
            show Steps p.tables e below (s₁.setTop (mkF m 29 #[.val (.int p2_0)] [(.int (0 : Int32))])) _
            exact k)
          have hret : (r2 p2_0) = (0 : Int32) := by unfold r2; rw [if_neg hc3_2, if_pos hc9_11, if_neg hc15_13, if_pos hc21_16]
          obtain ⟨fs, hr, hrun, hended, hW, hsame⟩ := X0.leave (v := some (.int (0 : Int32))) (fun h => by rw [Bd.returns] at h; cases h)
          refine ⟨_, _, pre17 _ ?_, hrun, hended, _, _, rfl, ?_, ⟨_, rfl⟩, hW, hsame.mono (by decide) (by decide)⟩
          · show Steps p.tables e below (s₁.setTop (mkF m 29 #[.val (.int p2_0)] [(.int (0 : Int32))])) _
            exact retN X0 hx (t := .boolean) Bd.returns (by simp) (hb hby d2_29) hr
          · show Q2 Z p2_0 h0 n0 _ s₁.heap _
            rw [e0]
            exact ⟨(by rw [hret]), N0, rfl⟩
        · have pre18 : ∀ t, Steps p.tables e below (s₁.setTop (mkF m 29 #[.val (.int p2_0)] [(.int (1 : Int32))])) t → Steps p.tables e below (s₁.setTop (entryFrame m #[(.int p2_0)] 1)) t := fun t k => pre15 t (by
            refine XS.icmpNo X0.here hx rfl (hb hby d2_21) rfl (flt hc21_16).2.2.1 ?_
            show Steps p.tables e below (s₁.setTop (mkF m 24 #[.val (.int p2_0)] [])) _
            refine XS.iconst X0.here hx rfl (hb hby d2_24) ?_
            show Steps p.tables e below (s₁.setTop (mkF m 25 #[.val (.int p2_0)] [(.int (1 : Int32))])) _
            refine XS.goto X0.here hx rfl (pc0 := 25) (pc' := 29) rfl (hb hby d2_25) (by decide) (by decide) ?_
            show Steps p.tables e below (s₁.setTop (mkF m 29 #[.val (.int p2_0)] [(.int (1 : Int32))])) _
            exact k)
          have hret : (r2 p2_0) = (1 : Int32) := by unfold r2; rw [if_neg hc3_2, if_pos hc9_11, if_neg hc15_13, if_neg hc21_16]
          obtain ⟨fs, hr, hrun, hended, hW, hsame⟩ := X0.leave (v := some (.int (1 : Int32))) (fun h => by rw [Bd.returns] at h; cases h)
          refine ⟨_, _, pre18 _ ?_, hrun, hended, _, _, rfl, ?_, ⟨_, rfl⟩, hW, hsame.mono (by decide) (by decide)⟩
          · show Steps p.tables e below (s₁.setTop (mkF m 29 #[.val (.int p2_0)] [(.int (1 : Int32))])) _
            exact retN X0 hx (t := .boolean) Bd.returns (by simp) (hb hby d2_29) hr
          · show Q2 Z p2_0 h0 n0 _ s₁.heap _
            rw [e0]
            exact ⟨(by rw [hret]), N0, rfl⟩
    · have pre19 : ∀ t, Steps p.tables e below (s₁.setTop (mkF m 29 #[.val (.int p2_0)] [(.int (1 : Int32))])) t → Steps p.tables e below (s₁.setTop (entryFrame m #[(.int p2_0)] 1)) t := fun t k => pre10 t (by
        refine XS.icmpYes X0.here hx rfl (pc0 := 9) (pc' := 24) rfl (hb hby d2_9) rfl (flt hc9_11).2.2.2 (by decide) (by decide) ?_
        show Steps p.tables e below (s₁.setTop (mkF m 24 #[.val (.int p2_0)] [])) _
        refine XS.iconst X0.here hx rfl (hb hby d2_24) ?_
        show Steps p.tables e below (s₁.setTop (mkF m 25 #[.val (.int p2_0)] [(.int (1 : Int32))])) _
        refine XS.goto X0.here hx rfl (pc0 := 25) (pc' := 29) rfl (hb hby d2_25) (by decide) (by decide) ?_
        show Steps p.tables e below (s₁.setTop (mkF m 29 #[.val (.int p2_0)] [(.int (1 : Int32))])) _
        exact k)
      have hret : (r2 p2_0) = (1 : Int32) := by unfold r2; rw [if_neg hc3_2, if_neg hc9_11]
      obtain ⟨fs, hr, hrun, hended, hW, hsame⟩ := X0.leave (v := some (.int (1 : Int32))) (fun h => by rw [Bd.returns] at h; cases h)
      refine ⟨_, _, pre19 _ ?_, hrun, hended, _, _, rfl, ?_, ⟨_, rfl⟩, hW, hsame.mono (by decide) (by decide)⟩
      · show Steps p.tables e below (s₁.setTop (mkF m 29 #[.val (.int p2_0)] [(.int (1 : Int32))])) _
        exact retN X0 hx (t := .boolean) Bd.returns (by simp) (hb hby d2_29) hr
      · show Q2 Z p2_0 h0 n0 _ s₁.heap _
        rw [e0]
        exact ⟨(by rw [hret]), N0, rfl⟩
theorem d3_0 : decode prog_100_method_13_code 0 = .ok (.iload_n 0, 1) := by decide +kernel
theorem d3_1 : decode prog_100_method_13_code 1 = .ok (.bipush 48, 2) := by decide +kernel
theorem d3_3 : decode prog_100_method_13_code 3 = .ok (.if_icmp .lt 13, 3) := by decide +kernel
theorem d3_6 : decode prog_100_method_13_code 6 = .ok (.iload_n 0, 1) := by decide +kernel
theorem d3_7 : decode prog_100_method_13_code 7 = .ok (.bipush 57, 2) := by decide +kernel
theorem d3_9 : decode prog_100_method_13_code 9 = .ok (.if_icmp .gt 7, 3) := by decide +kernel
theorem d3_12 : decode prog_100_method_13_code 12 = .ok (.iconst 1, 1) := by decide +kernel
theorem d3_13 : decode prog_100_method_13_code 13 = .ok (.goto 4, 3) := by decide +kernel
theorem d3_16 : decode prog_100_method_13_code 16 = .ok (.iconst 0, 1) := by decide +kernel
theorem d3_17 : decode prog_100_method_13_code 17 = .ok (.ireturn, 1) := by decide +kernel
theorem ef_3 (m : MethodId) (x0 : Int32) : entryFrame m #[(.int x0)] 1 = mkF m 0 #[.val (.int x0)] [] := by first | (simp [entryFrame, mkF, argsToLocals, Value.category]; done) | rfl
abbrev R3 : Room := { frames := 0, cells := 0, slots := 0, locals := 0 }
def r3 (p3_0 : Int32) : Int32 := (if p3_0 < (48 : Int32) then (0 : Int32) else (if (57 : Int32) < p3_0 then (0 : Int32) else (1 : Int32)))
def Q3 (Z : State) (p3_0 : Int32) (h0 : Heap) (n0 : Nat) (v : Option Value) (h : Heap) (L : List Loc) : Prop := v = some (.int (r3 p3_0)) ∧ Fr n0 L ∧ h = h0
set_option maxRecDepth 65536 in
set_option maxHeartbeats 40000000 in
theorem rm3 (l : Launch) (Z : State) (a0 : Array Value) (hw : ∀ d ∈ tables_1, d.before a0 Z = true) (ws : List Jvm.Cond) (p3_0 : Int32) (h0 : Heap) (n0 : Nat) (Z0 : n0 ≤ h0.size) :
    MetFree l (⟨"com/example/keys_to_proof/keystoproof/language/Scanner", "isDigit", "(I)Z"⟩ : MethodName) (head1 (Jvm.Cond.code (⟨"com/example/keys_to_proof/keystoproof/language/Scanner", "isDigit", "(I)Z"⟩ : MethodName) prog_100_method_13_code 1 (some .boolean) :: ws) R3) (fun a U => a = #[(.int p3_0)] ∧ Z.Warmed39 U.vm ∧ U.heap = h0) (fun _ _ _ _ _ => True) (fun _ U o U' => ∃ v L, o = .returned v ∧ Q3 Z p3_0 h0 n0 v U'.heap L ∧ FrameEnd U o U' L R3.cells R3.slots) := by
  refine MetFree.of_bodySF (plainFor_of_name pn_0) hisR ?_
  intro p e s m args below meth c s₁ Bd hml0 hP hK
  obtain ⟨rfl, hZ, hh⟩ := hP
  have hx := Bd.exec
  have hby := Bd.bytes
  have hml : c.maxLocals = 1 := hml0
  have hown : s.vm.findClass "com/example/keys_to_proof/keystoproof/language/Scanner" = some m.cls := findClass_of_methodNamed Bd.named
  have hnm := (name_of_methodNamed Bd.named Bd.method).1
  have X0 : Stand p l e R3 s m #[(.int p3_0)] below meth c s₁ [] 0 0 := Stand.of_body Bd
  have e0 : s₁.heap = h0 := by rw [← hh, Bd.state]; rfl
  have N0 := Fr.nil n0
  have pre0 : ∀ t, Steps p.tables e below (s₁.setTop (mkF m 0 #[.val (.int p3_0)] [])) t → Steps p.tables e below (s₁.setTop (entryFrame m #[(.int p3_0)] 1)) t := fun t k => castTop (ef_3 m p3_0) k
  have pre1 : ∀ t, Steps p.tables e below (s₁.setTop (mkF m 3 #[.val (.int p3_0)] [(.int (48 : Int32)), (.int p3_0)])) t → Steps p.tables e below (s₁.setTop (entryFrame m #[(.int p3_0)] 1)) t := fun t k => pre0 t (by
    refine XS.iloadN X0.here hx rfl (hb hby d3_0) rfl ?_
    show Steps p.tables e below (s₁.setTop (mkF m 1 #[.val (.int p3_0)] [(.int p3_0)])) _
    refine XS.bipush X0.here hx rfl (hb hby d3_1) ?_
    show Steps p.tables e below (s₁.setTop (mkF m 3 #[.val (.int p3_0)] [(.int (48 : Int32)), (.int p3_0)])) _
    exact k)
  by_cases hc3_2 : p3_0 < (48 : Int32)
  · have pre3 : ∀ t, Steps p.tables e below (s₁.setTop (mkF m 17 #[.val (.int p3_0)] [(.int (0 : Int32))])) t → Steps p.tables e below (s₁.setTop (entryFrame m #[(.int p3_0)] 1)) t := fun t k => pre1 t (by
      refine XS.icmpYes X0.here hx rfl (pc0 := 3) (pc' := 16) rfl (hb hby d3_3) rfl (tlt hc3_2).1 (by decide) (by decide) ?_
      show Steps p.tables e below (s₁.setTop (mkF m 16 #[.val (.int p3_0)] [])) _
      refine XS.iconst X0.here hx rfl (hb hby d3_16) ?_
      show Steps p.tables e below (s₁.setTop (mkF m 17 #[.val (.int p3_0)] [(.int (0 : Int32))])) _
      exact k)
    have hret : (r3 p3_0) = (0 : Int32) := by unfold r3; rw [if_pos hc3_2]
    obtain ⟨fs, hr, hrun, hended, hW, hsame⟩ := X0.leave (v := some (.int (0 : Int32))) (fun h => by rw [Bd.returns] at h; cases h)
    refine ⟨_, _, pre3 _ ?_, hrun, hended, _, _, rfl, ?_, ⟨_, rfl⟩, hW, hsame.mono (by decide) (by decide)⟩
    · show Steps p.tables e below (s₁.setTop (mkF m 17 #[.val (.int p3_0)] [(.int (0 : Int32))])) _
      exact retN X0 hx (t := .boolean) Bd.returns (by simp) (hb hby d3_17) hr
    · show Q3 Z p3_0 h0 n0 _ s₁.heap _
      rw [e0]
      exact ⟨(by rw [hret]), N0, rfl⟩
  · have pre4 : ∀ t, Steps p.tables e below (s₁.setTop (mkF m 9 #[.val (.int p3_0)] [(.int (57 : Int32)), (.int p3_0)])) t → Steps p.tables e below (s₁.setTop (entryFrame m #[(.int p3_0)] 1)) t := fun t k => pre1 t (by
      refine XS.icmpNo X0.here hx rfl (hb hby d3_3) rfl (flt hc3_2).1 ?_
      show Steps p.tables e below (s₁.setTop (mkF m 6 #[.val (.int p3_0)] [])) _
      refine XS.iloadN X0.here hx rfl (hb hby d3_6) rfl ?_
      show Steps p.tables e below (s₁.setTop (mkF m 7 #[.val (.int p3_0)] [(.int p3_0)])) _
      refine XS.bipush X0.here hx rfl (hb hby d3_7) ?_
      show Steps p.tables e below (s₁.setTop (mkF m 9 #[.val (.int p3_0)] [(.int (57 : Int32)), (.int p3_0)])) _
      exact k)
    by_cases hc9_5 : (57 : Int32) < p3_0
    · have pre6 : ∀ t, Steps p.tables e below (s₁.setTop (mkF m 17 #[.val (.int p3_0)] [(.int (0 : Int32))])) t → Steps p.tables e below (s₁.setTop (entryFrame m #[(.int p3_0)] 1)) t := fun t k => pre4 t (by
        refine XS.icmpYes X0.here hx rfl (pc0 := 9) (pc' := 16) rfl (hb hby d3_9) rfl (tlt hc9_5).2.2.1 (by decide) (by decide) ?_
        show Steps p.tables e below (s₁.setTop (mkF m 16 #[.val (.int p3_0)] [])) _
        refine XS.iconst X0.here hx rfl (hb hby d3_16) ?_
        show Steps p.tables e below (s₁.setTop (mkF m 17 #[.val (.int p3_0)] [(.int (0 : Int32))])) _
        exact k)
      have hret : (r3 p3_0) = (0 : Int32) := by unfold r3; rw [if_neg hc3_2, if_pos hc9_5]
      obtain ⟨fs, hr, hrun, hended, hW, hsame⟩ := X0.leave (v := some (.int (0 : Int32))) (fun h => by rw [Bd.returns] at h; cases h)
      refine ⟨_, _, pre6 _ ?_, hrun, hended, _, _, rfl, ?_, ⟨_, rfl⟩, hW, hsame.mono (by decide) (by decide)⟩
      · show Steps p.tables e below (s₁.setTop (mkF m 17 #[.val (.int p3_0)] [(.int (0 : Int32))])) _
        exact retN X0 hx (t := .boolean) Bd.returns (by simp) (hb hby d3_17) hr
      · show Q3 Z p3_0 h0 n0 _ s₁.heap _
        rw [e0]
        exact ⟨(by rw [hret]), N0, rfl⟩
    · have pre7 : ∀ t, Steps p.tables e below (s₁.setTop (mkF m 17 #[.val (.int p3_0)] [(.int (1 : Int32))])) t → Steps p.tables e below (s₁.setTop (entryFrame m #[(.int p3_0)] 1)) t := fun t k => pre4 t (by
        refine XS.icmpNo X0.here hx rfl (hb hby d3_9) rfl (flt hc9_5).2.2.1 ?_
        show Steps p.tables e below (s₁.setTop (mkF m 12 #[.val (.int p3_0)] [])) _
        refine XS.iconst X0.here hx rfl (hb hby d3_12) ?_
        show Steps p.tables e below (s₁.setTop (mkF m 13 #[.val (.int p3_0)] [(.int (1 : Int32))])) _
        refine XS.goto X0.here hx rfl (pc0 := 13) (pc' := 17) rfl (hb hby d3_13) (by decide) (by decide) ?_
        show Steps p.tables e below (s₁.setTop (mkF m 17 #[.val (.int p3_0)] [(.int (1 : Int32))])) _
        exact k)
      have hret : (r3 p3_0) = (1 : Int32) := by unfold r3; rw [if_neg hc3_2, if_neg hc9_5]
      obtain ⟨fs, hr, hrun, hended, hW, hsame⟩ := X0.leave (v := some (.int (1 : Int32))) (fun h => by rw [Bd.returns] at h; cases h)
      refine ⟨_, _, pre7 _ ?_, hrun, hended, _, _, rfl, ?_, ⟨_, rfl⟩, hW, hsame.mono (by decide) (by decide)⟩
      · show Steps p.tables e below (s₁.setTop (mkF m 17 #[.val (.int p3_0)] [(.int (1 : Int32))])) _
        exact retN X0 hx (t := .boolean) Bd.returns (by simp) (hb hby d3_17) hr
      · show Q3 Z p3_0 h0 n0 _ s₁.heap _
        rw [e0]
        exact ⟨(by rw [hret]), N0, rfl⟩
theorem pd_0 : parseMethodDescriptor "(I)Z" = some ⟨[.int], some .boolean⟩ := by decide +kernel
theorem d1_0 : decode prog_100_method_14_code 0 = .ok (.iload_n 0, 1) := by decide +kernel
theorem d1_1 : decode prog_100_method_14_code 1 = .ok (.invokestatic 80, 3) := by decide +kernel
theorem d1_4 : decode prog_100_method_14_code 4 = .ok (.ifCond .ne 16, 3) := by decide +kernel
theorem d1_7 : decode prog_100_method_14_code 7 = .ok (.iload_n 0, 1) := by decide +kernel
theorem d1_8 : decode prog_100_method_14_code 8 = .ok (.invokestatic 83, 3) := by decide +kernel
theorem d1_11 : decode prog_100_method_14_code 11 = .ok (.ifCond .ne 9, 3) := by decide +kernel
theorem d1_14 : decode prog_100_method_14_code 14 = .ok (.iload_n 0, 1) := by decide +kernel
theorem d1_15 : decode prog_100_method_14_code 15 = .ok (.bipush 95, 2) := by decide +kernel
theorem d1_17 : decode prog_100_method_14_code 17 = .ok (.if_icmp .ne 7, 3) := by decide +kernel
theorem d1_20 : decode prog_100_method_14_code 20 = .ok (.iconst 1, 1) := by decide +kernel
theorem d1_21 : decode prog_100_method_14_code 21 = .ok (.goto 4, 3) := by decide +kernel
theorem d1_24 : decode prog_100_method_14_code 24 = .ok (.iconst 0, 1) := by decide +kernel
theorem d1_25 : decode prog_100_method_14_code 25 = .ok (.ireturn, 1) := by decide +kernel
theorem ef_1 (m : MethodId) (x0 : Int32) : entryFrame m #[(.int x0)] 1 = mkF m 0 #[.val (.int x0)] [] := by first | (simp [entryFrame, mkF, argsToLocals, Value.category]; done) | rfl
abbrev R1 : Room := { frames := 1, cells := 0, slots := 0, locals := 12 }
def r1 (p1_0 : Int32) : Int32 := (if (r2 p1_0) = (0 : Int32) then (if (r3 p1_0) = (0 : Int32) then (if p1_0 = (95 : Int32) then (1 : Int32) else (0 : Int32)) else (1 : Int32)) else (1 : Int32))
def Q1 (Z : State) (p1_0 : Int32) (h0 : Heap) (n0 : Nat) (v : Option Value) (h : Heap) (L : List Loc) : Prop := v = some (.int (r1 p1_0)) ∧ Fr n0 L ∧ h = h0
set_option maxRecDepth 65536 in
set_option maxHeartbeats 40000000 in
theorem rm1 (l : Launch) (Z : State) (a0 : Array Value) (hw : ∀ d ∈ tables_1, d.before a0 Z = true) (ws : List Jvm.Cond) (p1_0 : Int32) (h0 : Heap) (n0 : Nat) (Z0 : n0 ≤ h0.size) :
    MetFree l (⟨"com/example/keys_to_proof/keystoproof/language/Scanner", "isNamePart", "(I)Z"⟩ : MethodName) (head1 (Jvm.Cond.code (⟨"com/example/keys_to_proof/keystoproof/language/Scanner", "isNamePart", "(I)Z"⟩ : MethodName) prog_100_method_14_code 1 (some .boolean) :: ws) R1) (fun a U => a = #[(.int p1_0)] ∧ Z.Warmed39 U.vm ∧ U.heap = h0) (fun _ _ _ _ _ => True) (fun _ U o U' => ∃ v L, o = .returned v ∧ Q1 Z p1_0 h0 n0 v U'.heap L ∧ FrameEnd U o U' L R1.cells R1.slots) := by
  refine MetFree.of_bodySF (plainFor_of_name pn_0) hisR ?_
  intro p e s m args below meth c s₁ Bd hml0 hP hK
  obtain ⟨rfl, hZ, hh⟩ := hP
  have hx := Bd.exec
  have hby := Bd.bytes
  have hml : c.maxLocals = 1 := hml0
  have hown : s.vm.findClass "com/example/keys_to_proof/keystoproof/language/Scanner" = some m.cls := findClass_of_methodNamed Bd.named
  have hnm := (name_of_methodNamed Bd.named Bd.method).1
  have X0 : Stand p l e R1 s m #[(.int p1_0)] below meth c s₁ [] 0 0 := Stand.of_body Bd
  have e0 : s₁.heap = h0 := by rw [← hh, Bd.state]; rfl
  have N0 := Fr.nil n0
  have pre0 : ∀ t, Steps p.tables e below (s₁.setTop (mkF m 0 #[.val (.int p1_0)] [])) t → Steps p.tables e below (s₁.setTop (entryFrame m #[(.int p1_0)] 1)) t := fun t k => castTop (ef_1 m p1_0) k
  have pre1 : ∀ t, Steps p.tables e below (s₁.setTop (mkF m 1 #[.val (.int p1_0)] [(.int p1_0)])) t → Steps p.tables e below (s₁.setTop (entryFrame m #[(.int p1_0)] 1)) t := fun t k => pre0 t (by
    refine XS.iloadN X0.here hx rfl (hb hby d1_0) rfl ?_
    show Steps p.tables e below (s₁.setTop (mkF m 1 #[.val (.int p1_0)] [(.int p1_0)])) _
    exact k)
  obtain ⟨_, _, ⟨T2, L2, k2, n2⟩, -, X2, ⟨Lc2, hQ2, l2, y2, z2⟩, st2⟩ := Jvm.LawKit.callS X0 hx (y := (⟨"com/example/keys_to_proof/keystoproof/language/Scanner", "isLetter", "(I)Z"⟩ : MethodName)) hown (mvT hZ (hw _ (List.mem_of_getElem? (i := 5) rfl))) (mvT hZ (hw _ (List.mem_of_getElem? (i := 6) rfl))) (mvT hZ (hw _ (List.mem_of_getElem? (i := 3) rfl))) (mvT hZ (hw _ (List.mem_of_getElem? (i := 7) rfl))) (by decide) (backOf (W := 0) (rm2 l Z a0 hw [] p1_0 h0 n0 Z0 ) hZ (hw _ (List.mem_of_getElem? (i := 7) rfl)) (hw _ (List.mem_of_getElem? (i := 3) rfl)) (by decide) (by decide)) (g := (mkF m 1 #[.val (.int p1_0)] [(.int p1_0)])) rfl (by rw [hml]; rfl) (argsL := [(.int p1_0)]) (rest := []) (lenOf pd_0 rfl) rfl (by show 2 * 0 + _ ≤ _; exact Nat.le_of_eq rfl) (hb hby d1_1) (fun _ _ => ⟨rfl, e0, (by decide : 0 + 0 ≤ _), (by decide : 0 + 0 ≤ _)⟩)
  dsimp only [Pt.U, Pt.locs, Pt.cells, Pt.slots] at X2 l2 y2 z2 st2 hQ2
  subst l2 y2 z2
  obtain ⟨rfl, M2, e2⟩ := hQ2
  have N2 := Fr.app N0 M2
  have pre2 : ∀ t, Steps p.tables e below (T2.setTop (mkF m 4 #[.val (.int p1_0)] [(.int (r2 p1_0))])) t → Steps p.tables e below (s₁.setTop (entryFrame m #[(.int p1_0)] 1)) t := fun t k => pre1 t (st2 t k)
  by_cases hc4_3 : (r2 p1_0) = (0 : Int32)
  · have pre4 : ∀ t, Steps p.tables e below (T2.setTop (mkF m 8 #[.val (.int p1_0)] [(.int p1_0)])) t → Steps p.tables e below (s₁.setTop (entryFrame m #[(.int p1_0)] 1)) t := fun t k => pre2 t (by
      refine XS.ifNo X2.here hx rfl (hb hby d1_4) rfl ((if0 _ _).trans (teq hc4_3).2) ?_
      show Steps p.tables e below (T2.setTop (mkF m 7 #[.val (.int p1_0)] [])) _
      refine XS.iloadN X2.here hx rfl (hb hby d1_7) rfl ?_
      show Steps p.tables e below (T2.setTop (mkF m 8 #[.val (.int p1_0)] [(.int p1_0)])) _
      exact k)
    obtain ⟨_, _, ⟨T5, L5, k5, n5⟩, -, X5, ⟨Lc5, hQ5, l5, y5, z5⟩, st5⟩ := Jvm.LawKit.callS X2 hx (y := (⟨"com/example/keys_to_proof/keystoproof/language/Scanner", "isDigit", "(I)Z"⟩ : MethodName)) hown (mvT hZ (hw _ (List.mem_of_getElem? (i := 8) rfl))) (mvT hZ (hw _ (List.mem_of_getElem? (i := 9) rfl))) (mvT hZ (hw _ (List.mem_of_getElem? (i := 3) rfl))) (mvT hZ (hw _ (List.mem_of_getElem? (i := 10) rfl))) (by decide) (backOf (W := 0) (rm3 l Z a0 hw [] p1_0 h0 n0 Z0 ) hZ (hw _ (List.mem_of_getElem? (i := 10) rfl)) (hw _ (List.mem_of_getElem? (i := 3) rfl)) (by decide) (by decide)) (g := (mkF m 8 #[.val (.int p1_0)] [(.int p1_0)])) rfl (by rw [hml]; rfl) (argsL := [(.int p1_0)]) (rest := []) (lenOf pd_0 rfl) rfl (by show 2 * 0 + _ ≤ _; exact Nat.le_of_eq rfl) (hb hby d1_8) (fun _ _ => ⟨rfl, e2, (by decide : 0 + 0 ≤ _), (by decide : 0 + 0 ≤ _)⟩)
    dsimp only [Pt.U, Pt.locs, Pt.cells, Pt.slots] at X5 l5 y5 z5 st5 hQ5
    subst l5 y5 z5
    obtain ⟨rfl, M5, e5⟩ := hQ5
    have N5 := Fr.app N2 M5
    have pre5 : ∀ t, Steps p.tables e below (T5.setTop (mkF m 11 #[.val (.int p1_0)] [(.int (r3 p1_0))])) t → Steps p.tables e below (s₁.setTop (entryFrame m #[(.int p1_0)] 1)) t := fun t k => pre4 t (st5 t k)
    by_cases hc11_6 : (r3 p1_0) = (0 : Int32)
    · have pre7 : ∀ t, Steps p.tables e below (T5.setTop (mkF m 17 #[.val (.int p1_0)] [(.int (95 : Int32)), (.int p1_0)])) t → Steps p.tables e below (s₁.setTop (entryFrame m #[(.int p1_0)] 1)) t := fun t k => pre5 t (by
        refine XS.ifNo X5.here hx rfl (hb hby d1_11) rfl ((if0 _ _).trans (teq hc11_6).2) ?_
        show Steps p.tables e below (T5.setTop (mkF m 14 #[.val (.int p1_0)] [])) _
        refine XS.iloadN X5.here hx rfl (hb hby d1_14) rfl ?_
        show Steps p.tables e below (T5.setTop (mkF m 15 #[.val (.int p1_0)] [(.int p1_0)])) _
        refine XS.bipush X5.here hx rfl (hb hby d1_15) ?_
        show Steps p.tables e below (T5.setTop (mkF m 17 #[.val (.int p1_0)] [(.int (95 : Int32)), (.int p1_0)])) _
        exact k)
      by_cases hc17_8 : p1_0 = (95 : Int32)
      · have pre9 : ∀ t, Steps p.tables e below (T5.setTop (mkF m 25 #[.val (.int p1_0)] [(.int (1 : Int32))])) t → Steps p.tables e below (s₁.setTop (entryFrame m #[(.int p1_0)] 1)) t := fun t k => pre7 t (by
          refine XS.icmpNo X5.here hx rfl (hb hby d1_17) rfl (teq hc17_8).2 ?_
          show Steps p.tables e below (T5.setTop (mkF m 20 #[.val (.int p1_0)] [])) _
          refine XS.iconst X5.here hx rfl (hb hby d1_20) ?_
          show Steps p.tables e below (T5.setTop (mkF m 21 #[.val (.int p1_0)] [(.int (1 : Int32))])) _
          refine XS.goto X5.here hx rfl (pc0 := 21) (pc' := 25) rfl (hb hby d1_21) (by decide) (by decide) ?_
          show Steps p.tables e below (T5.setTop (mkF m 25 #[.val (.int p1_0)] [(.int (1 : Int32))])) _
          exact k)
        have hret : (r1 p1_0) = (1 : Int32) := by unfold r1; rw [if_pos hc4_3, if_pos hc11_6, if_pos hc17_8]
        obtain ⟨fs, hr, hrun, hended, hW, hsame⟩ := X5.leave (v := some (.int (1 : Int32))) (fun h => by rw [Bd.returns] at h; cases h)
        refine ⟨_, _, pre9 _ ?_, hrun, hended, _, _, rfl, ?_, ⟨_, rfl⟩, hW, hsame.mono (by decide) (by decide)⟩
        · show Steps p.tables e below (T5.setTop (mkF m 25 #[.val (.int p1_0)] [(.int (1 : Int32))])) _
          exact retN X5 hx (t := .boolean) Bd.returns (by simp) (hb hby d1_25) hr
        · show Q1 Z p1_0 h0 n0 _ T5.heap _
          rw [e5]
          exact ⟨(by rw [hret]), N5, rfl⟩
      · have pre10 : ∀ t, Steps p.tables e below (T5.setTop (mkF m 25 #[.val (.int p1_0)] [(.int (0 : Int32))])) t → Steps p.tables e below (s₁.setTop (entryFrame m #[(.int p1_0)] 1)) t := fun t k => pre7 t (by
          refine XS.icmpYes X5.here hx rfl (pc0 := 17) (pc' := 24) rfl (hb hby d1_17) rfl (feq hc17_8).2 (by decide) (by decide) ?_
          show Steps p.tables e below (T5.setTop (mkF m 24 #[.val (.int p1_0)] [])) _
          refine XS.iconst X5.here hx rfl (hb hby d1_24) ?_
          show Steps p.tables e below (T5.setTop (mkF m 25 #[.val (.int p1_0)] [(.int (0 : Int32))])) _
          exact k)
        have hret : (r1 p1_0) = (0 : Int32) := by unfold r1; rw [if_pos hc4_3, if_pos hc11_6, if_neg hc17_8]
        obtain ⟨fs, hr, hrun, hended, hW, hsame⟩ := X5.leave (v := some (.int (0 : Int32))) (fun h => by rw [Bd.returns] at h; cases h)
        refine ⟨_, _, pre10 _ ?_, hrun, hended, _, _, rfl, ?_, ⟨_, rfl⟩, hW, hsame.mono (by decide) (by decide)⟩
        · show Steps p.tables e below (T5.setTop (mkF m 25 #[.val (.int p1_0)] [(.int (0 : Int32))])) _
          exact retN X5 hx (t := .boolean) Bd.returns (by simp) (hb hby d1_25) hr
        · show Q1 Z p1_0 h0 n0 _ T5.heap _
          rw [e5]
          exact ⟨(by rw [hret]), N5, rfl⟩
    · have pre11 : ∀ t, Steps p.tables e below (T5.setTop (mkF m 25 #[.val (.int p1_0)] [(.int (1 : Int32))])) t → Steps p.tables e below (s₁.setTop (entryFrame m #[(.int p1_0)] 1)) t := fun t k => pre5 t (by
        refine XS.ifYes X5.here hx rfl (pc0 := 11) (pc' := 20) rfl (hb hby d1_11) rfl ((if0 _ _).trans (feq hc11_6).2) (by decide) (by decide) ?_
        show Steps p.tables e below (T5.setTop (mkF m 20 #[.val (.int p1_0)] [])) _
        refine XS.iconst X5.here hx rfl (hb hby d1_20) ?_
        show Steps p.tables e below (T5.setTop (mkF m 21 #[.val (.int p1_0)] [(.int (1 : Int32))])) _
        refine XS.goto X5.here hx rfl (pc0 := 21) (pc' := 25) rfl (hb hby d1_21) (by decide) (by decide) ?_
        show Steps p.tables e below (T5.setTop (mkF m 25 #[.val (.int p1_0)] [(.int (1 : Int32))])) _
        exact k)
      have hret : (r1 p1_0) = (1 : Int32) := by unfold r1; rw [if_pos hc4_3, if_neg hc11_6]
      obtain ⟨fs, hr, hrun, hended, hW, hsame⟩ := X5.leave (v := some (.int (1 : Int32))) (fun h => by rw [Bd.returns] at h; cases h)
      refine ⟨_, _, pre11 _ ?_, hrun, hended, _, _, rfl, ?_, ⟨_, rfl⟩, hW, hsame.mono (by decide) (by decide)⟩
      · show Steps p.tables e below (T5.setTop (mkF m 25 #[.val (.int p1_0)] [(.int (1 : Int32))])) _
        exact retN X5 hx (t := .boolean) Bd.returns (by simp) (hb hby d1_25) hr
      · show Q1 Z p1_0 h0 n0 _ T5.heap _
        rw [e5]
        exact ⟨(by rw [hret]), N5, rfl⟩
  · have pre12 : ∀ t, Steps p.tables e below (T2.setTop (mkF m 25 #[.val (.int p1_0)] [(.int (1 : Int32))])) t → Steps p.tables e below (s₁.setTop (entryFrame m #[(.int p1_0)] 1)) t := fun t k => pre2 t (by
      refine XS.ifYes X2.here hx rfl (pc0 := 4) (pc' := 20) rfl (hb hby d1_4) rfl ((if0 _ _).trans (feq hc4_3).2) (by decide) (by decide) ?_
      show Steps p.tables e below (T2.setTop (mkF m 20 #[.val (.int p1_0)] [])) _
      refine XS.iconst X2.here hx rfl (hb hby d1_20) ?_
      show Steps p.tables e below (T2.setTop (mkF m 21 #[.val (.int p1_0)] [(.int (1 : Int32))])) _
      refine XS.goto X2.here hx rfl (pc0 := 21) (pc' := 25) rfl (hb hby d1_21) (by decide) (by decide) ?_
      show Steps p.tables e below (T2.setTop (mkF m 25 #[.val (.int p1_0)] [(.int (1 : Int32))])) _
      exact k)
    have hret : (r1 p1_0) = (1 : Int32) := by unfold r1; rw [if_neg hc4_3]
    obtain ⟨fs, hr, hrun, hended, hW, hsame⟩ := X2.leave (v := some (.int (1 : Int32))) (fun h => by rw [Bd.returns] at h; cases h)
    refine ⟨_, _, pre12 _ ?_, hrun, hended, _, _, rfl, ?_, ⟨_, rfl⟩, hW, hsame.mono (by decide) (by decide)⟩
    · show Steps p.tables e below (T2.setTop (mkF m 25 #[.val (.int p1_0)] [(.int (1 : Int32))])) _
      exact retN X2 hx (t := .boolean) Bd.returns (by simp) (hb hby d1_25) hr
    · show Q1 Z p1_0 h0 n0 _ T2.heap _
      rw [e2]
      exact ⟨(by rw [hret]), N2, rfl⟩
theorem pn_1 : plainName "com/example/keys_to_proof/keystoproof/language/ScannerIsNamePartPinLaw" = true := by first | (simp [plainName, overriddenIn]; done) | decide +kernel
theorem d4_0 : decode method_2_code 0 = .ok (.iload_n 0, 1) := by decide +kernel
theorem d4_1 : decode method_2_code 1 = .ok (.bipush 32, 2) := by decide +kernel
theorem d4_3 : decode method_2_code 3 = .ok (.ior, 1) := by decide +kernel
theorem d4_4 : decode method_2_code 4 = .ok (.istore_n 1, 1) := by decide +kernel
theorem d4_5 : decode method_2_code 5 = .ok (.iload_n 1, 1) := by decide +kernel
theorem d4_6 : decode method_2_code 6 = .ok (.bipush 97, 2) := by decide +kernel
theorem d4_8 : decode method_2_code 8 = .ok (.if_icmp .lt 13, 3) := by decide +kernel
theorem d4_11 : decode method_2_code 11 = .ok (.iload_n 1, 1) := by decide +kernel
theorem d4_12 : decode method_2_code 12 = .ok (.bipush 122, 2) := by decide +kernel
theorem d4_14 : decode method_2_code 14 = .ok (.if_icmp .gt 7, 3) := by decide +kernel
theorem d4_17 : decode method_2_code 17 = .ok (.iconst 1, 1) := by decide +kernel
theorem d4_18 : decode method_2_code 18 = .ok (.goto 4, 3) := by decide +kernel
theorem d4_21 : decode method_2_code 21 = .ok (.iconst 0, 1) := by decide +kernel
theorem d4_22 : decode method_2_code 22 = .ok (.istore_n 2, 1) := by decide +kernel
theorem d4_23 : decode method_2_code 23 = .ok (.iload_n 0, 1) := by decide +kernel
theorem d4_24 : decode method_2_code 24 = .ok (.i2l, 1) := by decide +kernel
theorem d4_25 : decode method_2_code 25 = .ok (.ldc2_w 7, 3) := by decide +kernel
theorem d4_28 : decode method_2_code 28 = .ok (.lsub, 1) := by decide +kernel
theorem d4_29 : decode method_2_code 29 = .ok (.lstore_n 3, 1) := by decide +kernel
theorem d4_30 : decode method_2_code 30 = .ok (.lload_n 3, 1) := by decide +kernel
theorem d4_31 : decode method_2_code 31 = .ok (.lconst 0, 1) := by decide +kernel
theorem d4_32 : decode method_2_code 32 = .ok (.lcmp, 1) := by decide +kernel
theorem d4_33 : decode method_2_code 33 = .ok (.ifCond .lt 15, 3) := by decide +kernel
theorem d4_36 : decode method_2_code 36 = .ok (.lload_n 3, 1) := by decide +kernel
theorem d4_37 : decode method_2_code 37 = .ok (.ldc2_w 9, 3) := by decide +kernel
theorem d4_40 : decode method_2_code 40 = .ok (.lcmp, 1) := by decide +kernel
theorem d4_41 : decode method_2_code 41 = .ok (.ifCond .ge 7, 3) := by decide +kernel
theorem d4_44 : decode method_2_code 44 = .ok (.iconst 1, 1) := by decide +kernel
theorem d4_45 : decode method_2_code 45 = .ok (.goto 4, 3) := by decide +kernel
theorem d4_48 : decode method_2_code 48 = .ok (.iconst 0, 1) := by decide +kernel
theorem d4_49 : decode method_2_code 49 = .ok (.istore 5, 2) := by decide +kernel
theorem d4_51 : decode method_2_code 51 = .ok (.iload_n 0, 1) := by decide +kernel
theorem d4_52 : decode method_2_code 52 = .ok (.bipush 95, 2) := by decide +kernel
theorem d4_54 : decode method_2_code 54 = .ok (.if_icmp .ne 7, 3) := by decide +kernel
theorem d4_57 : decode method_2_code 57 = .ok (.iconst 1, 1) := by decide +kernel
theorem d4_58 : decode method_2_code 58 = .ok (.goto 4, 3) := by decide +kernel
theorem d4_61 : decode method_2_code 61 = .ok (.iconst 0, 1) := by decide +kernel
theorem d4_62 : decode method_2_code 62 = .ok (.istore 6, 2) := by decide +kernel
theorem d4_64 : decode method_2_code 64 = .ok (.iload_n 2, 1) := by decide +kernel
theorem d4_65 : decode method_2_code 65 = .ok (.ifCond .ne 13, 3) := by decide +kernel
theorem d4_68 : decode method_2_code 68 = .ok (.iload 5, 2) := by decide +kernel
theorem d4_70 : decode method_2_code 70 = .ok (.ifCond .ne 8, 3) := by decide +kernel
theorem d4_73 : decode method_2_code 73 = .ok (.iload 6, 2) := by decide +kernel
theorem d4_75 : decode method_2_code 75 = .ok (.ifCond .eq 7, 3) := by decide +kernel
theorem d4_78 : decode method_2_code 78 = .ok (.iconst 1, 1) := by decide +kernel
theorem d4_79 : decode method_2_code 79 = .ok (.goto 4, 3) := by decide +kernel
theorem d4_82 : decode method_2_code 82 = .ok (.iconst 0, 1) := by decide +kernel
theorem d4_83 : decode method_2_code 83 = .ok (.ireturn, 1) := by decide +kernel
theorem ef_4 (m : MethodId) (x0 : Int32) : entryFrame m #[(.int x0)] 7 = mkF m 0 #[.val (.int x0), .unset, .unset, .unset, .unset, .unset, .unset] [] := by first | (simp [entryFrame, mkF, argsToLocals, Value.category]; done) | rfl
abbrev R4 : Room := { frames := 0, cells := 0, slots := 0, locals := 0 }
def v4_4 (p4_0 : Int32) : Int32 := (p4_0 ||| (32 : Int32))
def j4_22_s0 (p4_0 : Int32) : Int32 := (if (v4_4 p4_0) < (97 : Int32) then (0 : Int32) else (if (122 : Int32) < (v4_4 p4_0) then (0 : Int32) else (1 : Int32)))
def v4_29 (p4_0 : Int32) : Int64 := (((p4_0).toInt64) - (48 : Int64))
def j4_49_s0 (p4_0 : Int32) : Int32 := (if (v4_29 p4_0) < (0 : Int64) then (0 : Int32) else (if (v4_29 p4_0) < (10 : Int64) then (1 : Int32) else (0 : Int32)))
def j4_62_s0 (p4_0 : Int32) : Int32 := (if p4_0 = (95 : Int32) then (1 : Int32) else (0 : Int32))
def r4 (p4_0 : Int32) : Int32 := (if (j4_22_s0 p4_0) = (0 : Int32) then (if (j4_49_s0 p4_0) = (0 : Int32) then (if (j4_62_s0 p4_0) = (0 : Int32) then (0 : Int32) else (1 : Int32)) else (1 : Int32)) else (1 : Int32))
def Q4 (Z : State) (p4_0 : Int32) (h0 : Heap) (n0 : Nat) (v : Option Value) (h : Heap) (L : List Loc) : Prop := v = some (.int (r4 p4_0)) ∧ Fr n0 L ∧ h = h0
set_option maxRecDepth 65536 in
set_option maxHeartbeats 40000000 in
theorem rm4 (l : Launch) (Z : State) (a0 : Array Value) (hw : ∀ d ∈ tables_1, d.before a0 Z = true) (ws : List Jvm.Cond) (p4_0 : Int32) (h0 : Heap) (n0 : Nat) (Z0 : n0 ≤ h0.size) :
    MetFree l (⟨"com/example/keys_to_proof/keystoproof/language/ScannerIsNamePartPinLaw", "ref", "(I)Z"⟩ : MethodName) (head1 (Jvm.Cond.code (⟨"com/example/keys_to_proof/keystoproof/language/ScannerIsNamePartPinLaw", "ref", "(I)Z"⟩ : MethodName) method_2_code 7 (some .boolean) :: ws) R4) (fun a U => a = #[(.int p4_0)] ∧ Z.Warmed39 U.vm ∧ U.heap = h0) (fun _ _ _ _ _ => True) (fun _ U o U' => ∃ v L, o = .returned v ∧ Q4 Z p4_0 h0 n0 v U'.heap L ∧ FrameEnd U o U' L R4.cells R4.slots) := by
  refine MetFree.of_bodySF (plainFor_of_name pn_1) hisR ?_
  intro p e s m args below meth c s₁ Bd hml0 hP hK
  obtain ⟨rfl, hZ, hh⟩ := hP
  have hx := Bd.exec
  have hby := Bd.bytes
  have hml : c.maxLocals = 7 := hml0
  have hown : s.vm.findClass "com/example/keys_to_proof/keystoproof/language/ScannerIsNamePartPinLaw" = some m.cls := findClass_of_methodNamed Bd.named
  have hnm := (name_of_methodNamed Bd.named Bd.method).1
  have X0 : Stand p l e R4 s m #[(.int p4_0)] below meth c s₁ [] 0 0 := Stand.of_body Bd
  have e0 : s₁.heap = h0 := by rw [← hh, Bd.state]; rfl
  have N0 := Fr.nil n0
  have pre0 : ∀ t, Steps p.tables e below (s₁.setTop (mkF m 0 #[.val (.int p4_0), .unset, .unset, .unset, .unset, .unset, .unset] [])) t → Steps p.tables e below (s₁.setTop (entryFrame m #[(.int p4_0)] 7)) t := fun t k => castTop (ef_4 m p4_0) k
  have pre1 : ∀ t, Steps p.tables e below (s₁.setTop (mkF m 8 #[.val (.int p4_0), .val (.int (v4_4 p4_0)), .unset, .unset, .unset, .unset, .unset] [(.int (97 : Int32)), (.int (v4_4 p4_0))])) t → Steps p.tables e below (s₁.setTop (entryFrame m #[(.int p4_0)] 7)) t := fun t k => pre0 t (by
    refine XS.iloadN X0.here hx rfl (hb hby d4_0) rfl ?_
    show Steps p.tables e below (s₁.setTop (mkF m 1 #[.val (.int p4_0), .unset, .unset, .unset, .unset, .unset, .unset] [(.int p4_0)])) _
    refine XS.bipush X0.here hx rfl (hb hby d4_1) ?_
    show Steps p.tables e below (s₁.setTop (mkF m 3 #[.val (.int p4_0), .unset, .unset, .unset, .unset, .unset, .unset] [(.int (32 : Int32)), (.int p4_0)])) _
    refine XS.ior X0.here hx rfl (hb hby d4_3) rfl ?_
    show Steps p.tables e below (s₁.setTop (mkF m 4 #[.val (.int p4_0), .unset, .unset, .unset, .unset, .unset, .unset] [(.int (p4_0 ||| (32 : Int32)))])) _
    show Steps p.tables e below (s₁.setTop (mkF m 4 #[.val (.int p4_0), .unset, .unset, .unset, .unset, .unset, .unset] [(.int (v4_4 p4_0))])) _
    refine XS.istoreN X0.here hx rfl (hb hby d4_4) rfl (l' := #[.val (.int p4_0), .val (.int (v4_4 p4_0)), .unset, .unset, .unset, .unset, .unset]) rfl ?_
    show Steps p.tables e below (s₁.setTop (mkF m 5 #[.val (.int p4_0), .val (.int (v4_4 p4_0)), .unset, .unset, .unset, .unset, .unset] [])) _
    refine XS.iloadN X0.here hx rfl (hb hby d4_5) rfl ?_
    show Steps p.tables e below (s₁.setTop (mkF m 6 #[.val (.int p4_0), .val (.int (v4_4 p4_0)), .unset, .unset, .unset, .unset, .unset] [(.int (v4_4 p4_0))])) _
    refine XS.bipush X0.here hx rfl (hb hby d4_6) ?_
    show Steps p.tables e below (s₁.setTop (mkF m 8 #[.val (.int p4_0), .val (.int (v4_4 p4_0)), .unset, .unset, .unset, .unset, .unset] [(.int (97 : Int32)), (.int (v4_4 p4_0))])) _
    exact k)
  obtain ⟨T2, L2, X2, e2, N2, st2⟩ : ∃ (T' : State) (L' : List Loc), Stand p l e R4 s m #[(.int p4_0)] below meth c T' L' 0 0 ∧ T'.heap = h0 ∧ Fr n0 L' ∧ ∀ t, Steps p.tables e below (T'.setTop (mkF m 22 #[.val (.int p4_0), .val (.int (v4_4 p4_0)), .unset, .unset, .unset, .unset, .unset] [(.int (j4_22_s0 p4_0))])) t → Steps p.tables e below (s₁.setTop (mkF m 8 #[.val (.int p4_0), .val (.int (v4_4 p4_0)), .unset, .unset, .unset, .unset, .unset] [(.int (97 : Int32)), (.int (v4_4 p4_0))])) t := by
    have pre2 : ∀ t, Steps p.tables e below (s₁.setTop (mkF m 8 #[.val (.int p4_0), .val (.int (v4_4 p4_0)), .unset, .unset, .unset, .unset, .unset] [(.int (97 : Int32)), (.int (v4_4 p4_0))])) t → Steps p.tables e below (s₁.setTop (mkF m 8 #[.val (.int p4_0), .val (.int (v4_4 p4_0)), .unset, .unset, .unset, .unset, .unset] [(.int (97 : Int32)), (.int (v4_4 p4_0))])) t := fun t k => k
    by_cases hc8_3 : (v4_4 p4_0) < (97 : Int32)
    · have pre4 : ∀ t, Steps p.tables e below (s₁.setTop (mkF m 22 #[.val (.int p4_0), .val (.int (v4_4 p4_0)), .unset, .unset, .unset, .unset, .unset] [(.int (0 : Int32))])) t → Steps p.tables e below (s₁.setTop (mkF m 8 #[.val (.int p4_0), .val (.int (v4_4 p4_0)), .unset, .unset, .unset, .unset, .unset] [(.int (97 : Int32)), (.int (v4_4 p4_0))])) t := fun t k => pre2 t (by
        refine XS.icmpYes X0.here hx rfl (pc0 := 8) (pc' := 21) rfl (hb hby d4_8) rfl (tlt hc8_3).1 (by decide) (by decide) ?_
        show Steps p.tables e below (s₁.setTop (mkF m 21 #[.val (.int p4_0), .val (.int (v4_4 p4_0)), .unset, .unset, .unset, .unset, .unset] [])) _
        refine XS.iconst X0.here hx rfl (hb hby d4_21) ?_
        show Steps p.tables e below (s₁.setTop (mkF m 22 #[.val (.int p4_0), .val (.int (v4_4 p4_0)), .unset, .unset, .unset, .unset, .unset] [(.int (0 : Int32))])) _
        exact k)
      have hj9 : (j4_22_s0 p4_0) = (0 : Int32) := by unfold j4_22_s0; rw [if_pos hc8_3]
      exact ⟨s₁, _, X0, e0, N0, fun t k => pre4 t (by rw [hj9] at k; exact k)⟩
    · have pre5 : ∀ t, Steps p.tables e below (s₁.setTop (mkF m 14 #[.val (.int p4_0), .val (.int (v4_4 p4_0)), .unset, .unset, .unset, .unset, .unset] [(.int (122 : Int32)), (.int (v4_4 p4_0))])) t → Steps p.tables e below (s₁.setTop (mkF m 8 #[.val (.int p4_0), .val (.int (v4_4 p4_0)), .unset, .unset, .unset, .unset, .unset] [(.int (97 : Int32)), (.int (v4_4 p4_0))])) t := fun t k => pre2 t (by
        refine XS.icmpNo X0.here hx rfl (hb hby d4_8) rfl (flt hc8_3).1 ?_
        show Steps p.tables e below (s₁.setTop (mkF m 11 #[.val (.int p4_0), .val (.int (v4_4 p4_0)), .unset, .unset, .unset, .unset, .unset] [])) _
        refine XS.iloadN X0.here hx rfl (hb hby d4_11) rfl ?_
        show Steps p.tables e below (s₁.setTop (mkF m 12 #[.val (.int p4_0), .val (.int (v4_4 p4_0)), .unset, .unset, .unset, .unset, .unset] [(.int (v4_4 p4_0))])) _
        refine XS.bipush X0.here hx rfl (hb hby d4_12) ?_
        show Steps p.tables e below (s₁.setTop (mkF m 14 #[.val (.int p4_0), .val (.int (v4_4 p4_0)), .unset, .unset, .unset, .unset, .unset] [(.int (122 : Int32)), (.int (v4_4 p4_0))])) _
        exact k)
      by_cases hc14_6 : (122 : Int32) < (v4_4 p4_0)
      · have pre7 : ∀ t, Steps p.tables e below (s₁.setTop (mkF m 22 #[.val (.int p4_0), .val (.int (v4_4 p4_0)), .unset, .unset, .unset, .unset, .unset] [(.int (0 : Int32))])) t → Steps p.tables e below (s₁.setTop (mkF m 8 #[.val (.int p4_0), .val (.int (v4_4 p4_0)), .unset, .unset, .unset, .unset, .unset] [(.int (97 : Int32)), (.int (v4_4 p4_0))])) t := fun t k => pre5 t (by
          refine XS.icmpYes X0.here hx rfl (pc0 := 14) (pc' := 21) rfl (hb hby d4_14) rfl (tlt hc14_6).2.2.1 (by decide) (by decide) ?_
          show Steps p.tables e below (s₁.setTop (mkF m 21 #[.val (.int p4_0), .val (.int (v4_4 p4_0)), .unset, .unset, .unset, .unset, .unset] [])) _
          refine XS.iconst X0.here hx rfl (hb hby d4_21) ?_
          show Steps p.tables e below (s₁.setTop (mkF m 22 #[.val (.int p4_0), .val (.int (v4_4 p4_0)), .unset, .unset, .unset, .unset, .unset] [(.int (0 : Int32))])) _
          exact k)
        have hj10 : (j4_22_s0 p4_0) = (0 : Int32) := by unfold j4_22_s0; rw [if_neg hc8_3, if_pos hc14_6]
        exact ⟨s₁, _, X0, e0, N0, fun t k => pre7 t (by rw [hj10] at k; exact k)⟩
      · have pre8 : ∀ t, Steps p.tables e below (s₁.setTop (mkF m 22 #[.val (.int p4_0), .val (.int (v4_4 p4_0)), .unset, .unset, .unset, .unset, .unset] [(.int (1 : Int32))])) t → Steps p.tables e below (s₁.setTop (mkF m 8 #[.val (.int p4_0), .val (.int (v4_4 p4_0)), .unset, .unset, .unset, .unset, .unset] [(.int (97 : Int32)), (.int (v4_4 p4_0))])) t := fun t k => pre5 t (by
          refine XS.icmpNo X0.here hx rfl (hb hby d4_14) rfl (flt hc14_6).2.2.1 ?_
          show Steps p.tables e below (s₁.setTop (mkF m 17 #[.val (.int p4_0), .val (.int (v4_4 p4_0)), .unset, .unset, .unset, .unset, .unset] [])) _
          refine XS.iconst X0.here hx rfl (hb hby d4_17) ?_
          show Steps p.tables e below (s₁.setTop (mkF m 18 #[.val (.int p4_0), .val (.int (v4_4 p4_0)), .unset, .unset, .unset, .unset, .unset] [(.int (1 : Int32))])) _
          refine XS.goto X0.here hx rfl (pc0 := 18) (pc' := 22) rfl (hb hby d4_18) (by decide) (by decide) ?_
          show Steps p.tables e below (s₁.setTop (mkF m 22 #[.val (.int p4_0), .val (.int (v4_4 p4_0)), .unset, .unset, .unset, .unset, .unset] [(.int (1 : Int32))])) _
          exact k)
        have hj11 : (j4_22_s0 p4_0) = (1 : Int32) := by unfold j4_22_s0; rw [if_neg hc8_3, if_neg hc14_6]
        exact ⟨s₁, _, X0, e0, N0, fun t k => pre8 t (by rw [hj11] at k; exact k)⟩
  have pre2 : ∀ t, Steps p.tables e below (T2.setTop (mkF m 22 #[.val (.int p4_0), .val (.int (v4_4 p4_0)), .unset, .unset, .unset, .unset, .unset] [(.int (j4_22_s0 p4_0))])) t → Steps p.tables e below (s₁.setTop (entryFrame m #[(.int p4_0)] 7)) t := fun t k => pre1 t (st2 t k)
  have pre12 : ∀ t, Steps p.tables e below (T2.setTop (mkF m 33 #[.val (.int p4_0), .val (.int (v4_4 p4_0)), .val (.int (j4_22_s0 p4_0)), .val (.long (v4_29 p4_0)), .second, .unset, .unset] [(.int (lcmpW (v4_29 p4_0) (0 : Int64)))])) t → Steps p.tables e below (s₁.setTop (entryFrame m #[(.int p4_0)] 7)) t := fun t k => pre2 t (by
    refine XS.istoreN X2.here hx rfl (hb hby d4_22) rfl (l' := #[.val (.int p4_0), .val (.int (v4_4 p4_0)), .val (.int (j4_22_s0 p4_0)), .unset, .unset, .unset, .unset]) rfl ?_
    show Steps p.tables e below (T2.setTop (mkF m 23 #[.val (.int p4_0), .val (.int (v4_4 p4_0)), .val (.int (j4_22_s0 p4_0)), .unset, .unset, .unset, .unset] [])) _
    refine XS.iloadN X2.here hx rfl (hb hby d4_23) rfl ?_
    show Steps p.tables e below (T2.setTop (mkF m 24 #[.val (.int p4_0), .val (.int (v4_4 p4_0)), .val (.int (j4_22_s0 p4_0)), .unset, .unset, .unset, .unset] [(.int p4_0)])) _
    refine XS.i2l X2.here hx rfl (hb hby d4_24) rfl ?_
    show Steps p.tables e below (T2.setTop (mkF m 25 #[.val (.int p4_0), .val (.int (v4_4 p4_0)), .val (.int (j4_22_s0 p4_0)), .unset, .unset, .unset, .unset] [(.long ((p4_0).toInt64))])) _
    refine X2.ldc2Long hx hown (mvT hZ (hw _ (List.mem_of_getElem? (i := 15) rfl))) (g := (mkF m 25 #[.val (.int p4_0), .val (.int (v4_4 p4_0)), .val (.int (j4_22_s0 p4_0)), .unset, .unset, .unset, .unset] [(.long ((p4_0).toInt64))])) rfl (hb hby d4_25) _ ?_
    show Steps p.tables e below (T2.setTop (mkF m 28 #[.val (.int p4_0), .val (.int (v4_4 p4_0)), .val (.int (j4_22_s0 p4_0)), .unset, .unset, .unset, .unset] [(.long (48 : Int64)), (.long ((p4_0).toInt64))])) _
    refine XS.lsub X2.here hx rfl (hb hby d4_28) rfl ?_
    show Steps p.tables e below (T2.setTop (mkF m 29 #[.val (.int p4_0), .val (.int (v4_4 p4_0)), .val (.int (j4_22_s0 p4_0)), .unset, .unset, .unset, .unset] [(.long (((p4_0).toInt64) - (48 : Int64)))])) _
    show Steps p.tables e below (T2.setTop (mkF m 29 #[.val (.int p4_0), .val (.int (v4_4 p4_0)), .val (.int (j4_22_s0 p4_0)), .unset, .unset, .unset, .unset] [(.long (v4_29 p4_0))])) _
    refine XS.lstoreN X2.here hx rfl (hb hby d4_29) rfl (l' := #[.val (.int p4_0), .val (.int (v4_4 p4_0)), .val (.int (j4_22_s0 p4_0)), .val (.long (v4_29 p4_0)), .second, .unset, .unset]) rfl ?_
    show Steps p.tables e below (T2.setTop (mkF m 30 #[.val (.int p4_0), .val (.int (v4_4 p4_0)), .val (.int (j4_22_s0 p4_0)), .val (.long (v4_29 p4_0)), .second, .unset, .unset] [])) _
    refine XS.lloadN X2.here hx rfl (hb hby d4_30) rfl ?_
    show Steps p.tables e below (T2.setTop (mkF m 31 #[.val (.int p4_0), .val (.int (v4_4 p4_0)), .val (.int (j4_22_s0 p4_0)), .val (.long (v4_29 p4_0)), .second, .unset, .unset] [(.long (v4_29 p4_0))])) _
    refine XS.lconst X2.here hx rfl (hb hby d4_31) ?_
    show Steps p.tables e below (T2.setTop (mkF m 32 #[.val (.int p4_0), .val (.int (v4_4 p4_0)), .val (.int (j4_22_s0 p4_0)), .val (.long (v4_29 p4_0)), .second, .unset, .unset] [(.long (0 : Int64)), (.long (v4_29 p4_0))])) _
    refine XS.lcmp X2.here hx rfl (hb hby d4_32) rfl ?_
    show Steps p.tables e below (T2.setTop (mkF m 33 #[.val (.int p4_0), .val (.int (v4_4 p4_0)), .val (.int (j4_22_s0 p4_0)), .val (.long (v4_29 p4_0)), .second, .unset, .unset] [(.int (lcmpW (v4_29 p4_0) (0 : Int64)))])) _
    exact k)
  obtain ⟨T13, L13, X13, e13, N13, st13⟩ : ∃ (T' : State) (L' : List Loc), Stand p l e R4 s m #[(.int p4_0)] below meth c T' L' 0 0 ∧ T'.heap = h0 ∧ Fr n0 L' ∧ ∀ t, Steps p.tables e below (T'.setTop (mkF m 49 #[.val (.int p4_0), .val (.int (v4_4 p4_0)), .val (.int (j4_22_s0 p4_0)), .val (.long (v4_29 p4_0)), .second, .unset, .unset] [(.int (j4_49_s0 p4_0))])) t → Steps p.tables e below (T2.setTop (mkF m 33 #[.val (.int p4_0), .val (.int (v4_4 p4_0)), .val (.int (j4_22_s0 p4_0)), .val (.long (v4_29 p4_0)), .second, .unset, .unset] [(.int (lcmpW (v4_29 p4_0) (0 : Int64)))])) t := by
    have pre13 : ∀ t, Steps p.tables e below (T2.setTop (mkF m 33 #[.val (.int p4_0), .val (.int (v4_4 p4_0)), .val (.int (j4_22_s0 p4_0)), .val (.long (v4_29 p4_0)), .second, .unset, .unset] [(.int (lcmpW (v4_29 p4_0) (0 : Int64)))])) t → Steps p.tables e below (T2.setTop (mkF m 33 #[.val (.int p4_0), .val (.int (v4_4 p4_0)), .val (.int (j4_22_s0 p4_0)), .val (.long (v4_29 p4_0)), .second, .unset, .unset] [(.int (lcmpW (v4_29 p4_0) (0 : Int64)))])) t := fun t k => k
    by_cases hc33_14 : (v4_29 p4_0) < (0 : Int64)
    · have pre15 : ∀ t, Steps p.tables e below (T2.setTop (mkF m 49 #[.val (.int p4_0), .val (.int (v4_4 p4_0)), .val (.int (j4_22_s0 p4_0)), .val (.long (v4_29 p4_0)), .second, .unset, .unset] [(.int (0 : Int32))])) t → Steps p.tables e below (T2.setTop (mkF m 33 #[.val (.int p4_0), .val (.int (v4_4 p4_0)), .val (.int (j4_22_s0 p4_0)), .val (.long (v4_29 p4_0)), .second, .unset, .unset] [(.int (lcmpW (v4_29 p4_0) (0 : Int64)))])) t := fun t k => pre13 t (by
        refine XS.ifYes X2.here hx rfl (pc0 := 33) (pc' := 48) rfl (hb hby d4_33) rfl ((if0 _ _).trans (tlt ((lw_lt (v4_29 p4_0) (0 : Int64)).mpr hc33_14)).1) (by decide) (by decide) ?_
        show Steps p.tables e below (T2.setTop (mkF m 48 #[.val (.int p4_0), .val (.int (v4_4 p4_0)), .val (.int (j4_22_s0 p4_0)), .val (.long (v4_29 p4_0)), .second, .unset, .unset] [])) _
        refine XS.iconst X2.here hx rfl (hb hby d4_48) ?_
        show Steps p.tables e below (T2.setTop (mkF m 49 #[.val (.int p4_0), .val (.int (v4_4 p4_0)), .val (.int (j4_22_s0 p4_0)), .val (.long (v4_29 p4_0)), .second, .unset, .unset] [(.int (0 : Int32))])) _
        exact k)
      have hj20 : (j4_49_s0 p4_0) = (0 : Int32) := by unfold j4_49_s0; rw [if_pos hc33_14]
      exact ⟨T2, _, X2, e2, N2, fun t k => pre15 t (by rw [hj20] at k; exact k)⟩
    · have pre16 : ∀ t, Steps p.tables e below (T2.setTop (mkF m 41 #[.val (.int p4_0), .val (.int (v4_4 p4_0)), .val (.int (j4_22_s0 p4_0)), .val (.long (v4_29 p4_0)), .second, .unset, .unset] [(.int (lcmpW (v4_29 p4_0) (10 : Int64)))])) t → Steps p.tables e below (T2.setTop (mkF m 33 #[.val (.int p4_0), .val (.int (v4_4 p4_0)), .val (.int (j4_22_s0 p4_0)), .val (.long (v4_29 p4_0)), .second, .unset, .unset] [(.int (lcmpW (v4_29 p4_0) (0 : Int64)))])) t := fun t k => pre13 t (by
        refine XS.ifNo X2.here hx rfl (hb hby d4_33) rfl ((if0 _ _).trans (flt (fun q => hc33_14 ((lw_lt (v4_29 p4_0) (0 : Int64)).mp q))).1) ?_
        show Steps p.tables e below (T2.setTop (mkF m 36 #[.val (.int p4_0), .val (.int (v4_4 p4_0)), .val (.int (j4_22_s0 p4_0)), .val (.long (v4_29 p4_0)), .second, .unset, .unset] [])) _
        refine XS.lloadN X2.here hx rfl (hb hby d4_36) rfl ?_
        show Steps p.tables e below (T2.setTop (mkF m 37 #[.val (.int p4_0), .val (.int (v4_4 p4_0)), .val (.int (j4_22_s0 p4_0)), .val (.long (v4_29 p4_0)), .second, .unset, .unset] [(.long (v4_29 p4_0))])) _
        refine X2.ldc2Long hx hown (mvT hZ (hw _ (List.mem_of_getElem? (i := 16) rfl))) (g := (mkF m 37 #[.val (.int p4_0), .val (.int (v4_4 p4_0)), .val (.int (j4_22_s0 p4_0)), .val (.long (v4_29 p4_0)), .second, .unset, .unset] [(.long (v4_29 p4_0))])) rfl (hb hby d4_37) _ ?_
        show Steps p.tables e below (T2.setTop (mkF m 40 #[.val (.int p4_0), .val (.int (v4_4 p4_0)), .val (.int (j4_22_s0 p4_0)), .val (.long (v4_29 p4_0)), .second, .unset, .unset] [(.long (10 : Int64)), (.long (v4_29 p4_0))])) _
        refine XS.lcmp X2.here hx rfl (hb hby d4_40) rfl ?_
        show Steps p.tables e below (T2.setTop (mkF m 41 #[.val (.int p4_0), .val (.int (v4_4 p4_0)), .val (.int (j4_22_s0 p4_0)), .val (.long (v4_29 p4_0)), .second, .unset, .unset] [(.int (lcmpW (v4_29 p4_0) (10 : Int64)))])) _
        exact k)
      by_cases hc41_17 : (v4_29 p4_0) < (10 : Int64)
      · have pre18 : ∀ t, Steps p.tables e below (T2.setTop (mkF m 49 #[.val (.int p4_0), .val (.int (v4_4 p4_0)), .val (.int (j4_22_s0 p4_0)), .val (.long (v4_29 p4_0)), .second, .unset, .unset] [(.int (1 : Int32))])) t → Steps p.tables e below (T2.setTop (mkF m 33 #[.val (.int p4_0), .val (.int (v4_4 p4_0)), .val (.int (j4_22_s0 p4_0)), .val (.long (v4_29 p4_0)), .second, .unset, .unset] [(.int (lcmpW (v4_29 p4_0) (0 : Int64)))])) t := fun t k => pre16 t (by
          refine XS.ifNo X2.here hx rfl (hb hby d4_41) rfl ((if0 _ _).trans (tlt ((lw_lt (v4_29 p4_0) (10 : Int64)).mpr hc41_17)).2.1) ?_
          show Steps p.tables e below (T2.setTop (mkF m 44 #[.val (.int p4_0), .val (.int (v4_4 p4_0)), .val (.int (j4_22_s0 p4_0)), .val (.long (v4_29 p4_0)), .second, .unset, .unset] [])) _
          refine XS.iconst X2.here hx rfl (hb hby d4_44) ?_
          show Steps p.tables e below (T2.setTop (mkF m 45 #[.val (.int p4_0), .val (.int (v4_4 p4_0)), .val (.int (j4_22_s0 p4_0)), .val (.long (v4_29 p4_0)), .second, .unset, .unset] [(.int (1 : Int32))])) _
          refine XS.goto X2.here hx rfl (pc0 := 45) (pc' := 49) rfl (hb hby d4_45) (by decide) (by decide) ?_
          show Steps p.tables e below (T2.setTop (mkF m 49 #[.val (.int p4_0), .val (.int (v4_4 p4_0)), .val (.int (j4_22_s0 p4_0)), .val (.long (v4_29 p4_0)), .second, .unset, .unset] [(.int (1 : Int32))])) _
          exact k)
        have hj21 : (j4_49_s0 p4_0) = (1 : Int32) := by unfold j4_49_s0; rw [if_neg hc33_14, if_pos hc41_17]
        exact ⟨T2, _, X2, e2, N2, fun t k => pre18 t (by rw [hj21] at k; exact k)⟩
      · have pre19 : ∀ t, Steps p.tables e below (T2.setTop (mkF m 49 #[.val (.int p4_0), .val (.int (v4_4 p4_0)), .val (.int (j4_22_s0 p4_0)), .val (.long (v4_29 p4_0)), .second, .unset, .unset] [(.int (0 : Int32))])) t → Steps p.tables e below (T2.setTop (mkF m 33 #[.val (.int p4_0), .val (.int (v4_4 p4_0)), .val (.int (j4_22_s0 p4_0)), .val (.long (v4_29 p4_0)), .second, .unset, .unset] [(.int (lcmpW (v4_29 p4_0) (0 : Int64)))])) t := fun t k => pre16 t (by
          refine XS.ifYes X2.here hx rfl (pc0 := 41) (pc' := 48) rfl (hb hby d4_41) rfl ((if0 _ _).trans (flt (fun q => hc41_17 ((lw_lt (v4_29 p4_0) (10 : Int64)).mp q))).2.1) (by decide) (by decide) ?_
          show Steps p.tables e below (T2.setTop (mkF m 48 #[.val (.int p4_0), .val (.int (v4_4 p4_0)), .val (.int (j4_22_s0 p4_0)), .val (.long (v4_29 p4_0)), .second, .unset, .unset] [])) _
          refine XS.iconst X2.here hx rfl (hb hby d4_48) ?_
          show Steps p.tables e below (T2.setTop (mkF m 49 #[.val (.int p4_0), .val (.int (v4_4 p4_0)), .val (.int (j4_22_s0 p4_0)), .val (.long (v4_29 p4_0)), .second, .unset, .unset] [(.int (0 : Int32))])) _
          exact k)
        have hj22 : (j4_49_s0 p4_0) = (0 : Int32) := by unfold j4_49_s0; rw [if_neg hc33_14, if_neg hc41_17]
        exact ⟨T2, _, X2, e2, N2, fun t k => pre19 t (by rw [hj22] at k; exact k)⟩
  have pre13 : ∀ t, Steps p.tables e below (T13.setTop (mkF m 49 #[.val (.int p4_0), .val (.int (v4_4 p4_0)), .val (.int (j4_22_s0 p4_0)), .val (.long (v4_29 p4_0)), .second, .unset, .unset] [(.int (j4_49_s0 p4_0))])) t → Steps p.tables e below (s₁.setTop (entryFrame m #[(.int p4_0)] 7)) t := fun t k => pre12 t (st13 t k)
  have pre23 : ∀ t, Steps p.tables e below (T13.setTop (mkF m 54 #[.val (.int p4_0), .val (.int (v4_4 p4_0)), .val (.int (j4_22_s0 p4_0)), .val (.long (v4_29 p4_0)), .second, .val (.int (j4_49_s0 p4_0)), .unset] [(.int (95 : Int32)), (.int p4_0)])) t → Steps p.tables e below (s₁.setTop (entryFrame m #[(.int p4_0)] 7)) t := fun t k => pre13 t (by
    refine XS.istore X13.here hx rfl (hb hby d4_49) rfl (l' := #[.val (.int p4_0), .val (.int (v4_4 p4_0)), .val (.int (j4_22_s0 p4_0)), .val (.long (v4_29 p4_0)), .second, .val (.int (j4_49_s0 p4_0)), .unset]) rfl ?_
    show Steps p.tables e below (T13.setTop (mkF m 51 #[.val (.int p4_0), .val (.int (v4_4 p4_0)), .val (.int (j4_22_s0 p4_0)), .val (.long (v4_29 p4_0)), .second, .val (.int (j4_49_s0 p4_0)), .unset] [])) _
    refine XS.iloadN X13.here hx rfl (hb hby d4_51) rfl ?_
    show Steps p.tables e below (T13.setTop (mkF m 52 #[.val (.int p4_0), .val (.int (v4_4 p4_0)), .val (.int (j4_22_s0 p4_0)), .val (.long (v4_29 p4_0)), .second, .val (.int (j4_49_s0 p4_0)), .unset] [(.int p4_0)])) _
    refine XS.bipush X13.here hx rfl (hb hby d4_52) ?_
    show Steps p.tables e below (T13.setTop (mkF m 54 #[.val (.int p4_0), .val (.int (v4_4 p4_0)), .val (.int (j4_22_s0 p4_0)), .val (.long (v4_29 p4_0)), .second, .val (.int (j4_49_s0 p4_0)), .unset] [(.int (95 : Int32)), (.int p4_0)])) _
    exact k)
  obtain ⟨T24, L24, X24, e24, N24, st24⟩ : ∃ (T' : State) (L' : List Loc), Stand p l e R4 s m #[(.int p4_0)] below meth c T' L' 0 0 ∧ T'.heap = h0 ∧ Fr n0 L' ∧ ∀ t, Steps p.tables e below (T'.setTop (mkF m 62 #[.val (.int p4_0), .val (.int (v4_4 p4_0)), .val (.int (j4_22_s0 p4_0)), .val (.long (v4_29 p4_0)), .second, .val (.int (j4_49_s0 p4_0)), .unset] [(.int (j4_62_s0 p4_0))])) t → Steps p.tables e below (T13.setTop (mkF m 54 #[.val (.int p4_0), .val (.int (v4_4 p4_0)), .val (.int (j4_22_s0 p4_0)), .val (.long (v4_29 p4_0)), .second, .val (.int (j4_49_s0 p4_0)), .unset] [(.int (95 : Int32)), (.int p4_0)])) t := by
    have pre24 : ∀ t, Steps p.tables e below (T13.setTop (mkF m 54 #[.val (.int p4_0), .val (.int (v4_4 p4_0)), .val (.int (j4_22_s0 p4_0)), .val (.long (v4_29 p4_0)), .second, .val (.int (j4_49_s0 p4_0)), .unset] [(.int (95 : Int32)), (.int p4_0)])) t → Steps p.tables e below (T13.setTop (mkF m 54 #[.val (.int p4_0), .val (.int (v4_4 p4_0)), .val (.int (j4_22_s0 p4_0)), .val (.long (v4_29 p4_0)), .second, .val (.int (j4_49_s0 p4_0)), .unset] [(.int (95 : Int32)), (.int p4_0)])) t := fun t k => k
    by_cases hc54_25 : p4_0 = (95 : Int32)
    · have pre26 : ∀ t, Steps p.tables e below (T13.setTop (mkF m 62 #[.val (.int p4_0), .val (.int (v4_4 p4_0)), .val (.int (j4_22_s0 p4_0)), .val (.long (v4_29 p4_0)), .second, .val (.int (j4_49_s0 p4_0)), .unset] [(.int (1 : Int32))])) t → Steps p.tables e below (T13.setTop (mkF m 54 #[.val (.int p4_0), .val (.int (v4_4 p4_0)), .val (.int (j4_22_s0 p4_0)), .val (.long (v4_29 p4_0)), .second, .val (.int (j4_49_s0 p4_0)), .unset] [(.int (95 : Int32)), (.int p4_0)])) t := fun t k => pre24 t (by
        refine XS.icmpNo X13.here hx rfl (hb hby d4_54) rfl (teq hc54_25).2 ?_
        show Steps p.tables e below (T13.setTop (mkF m 57 #[.val (.int p4_0), .val (.int (v4_4 p4_0)), .val (.int (j4_22_s0 p4_0)), .val (.long (v4_29 p4_0)), .second, .val (.int (j4_49_s0 p4_0)), .unset] [])) _
        refine XS.iconst X13.here hx rfl (hb hby d4_57) ?_
        show Steps p.tables e below (T13.setTop (mkF m 58 #[.val (.int p4_0), .val (.int (v4_4 p4_0)), .val (.int (j4_22_s0 p4_0)), .val (.long (v4_29 p4_0)), .second, .val (.int (j4_49_s0 p4_0)), .unset] [(.int (1 : Int32))])) _
        refine XS.goto X13.here hx rfl (pc0 := 58) (pc' := 62) rfl (hb hby d4_58) (by decide) (by decide) ?_
        show Steps p.tables e below (T13.setTop (mkF m 62 #[.val (.int p4_0), .val (.int (v4_4 p4_0)), .val (.int (j4_22_s0 p4_0)), .val (.long (v4_29 p4_0)), .second, .val (.int (j4_49_s0 p4_0)), .unset] [(.int (1 : Int32))])) _
        exact k)
      have hj28 : (j4_62_s0 p4_0) = (1 : Int32) := by unfold j4_62_s0; rw [if_pos hc54_25]
      exact ⟨T13, _, X13, e13, N13, fun t k => pre26 t (by rw [hj28] at k; exact k)⟩
    · have pre27 : ∀ t, Steps p.tables e below (T13.setTop (mkF m 62 #[.val (.int p4_0), .val (.int (v4_4 p4_0)), .val (.int (j4_22_s0 p4_0)), .val (.long (v4_29 p4_0)), .second, .val (.int (j4_49_s0 p4_0)), .unset] [(.int (0 : Int32))])) t → Steps p.tables e below (T13.setTop (mkF m 54 #[.val (.int p4_0), .val (.int (v4_4 p4_0)), .val (.int (j4_22_s0 p4_0)), .val (.long (v4_29 p4_0)), .second, .val (.int (j4_49_s0 p4_0)), .unset] [(.int (95 : Int32)), (.int p4_0)])) t := fun t k => pre24 t (by
        refine XS.icmpYes X13.here hx rfl (pc0 := 54) (pc' := 61) rfl (hb hby d4_54) rfl (feq hc54_25).2 (by decide) (by decide) ?_
        show Steps p.tables e below (T13.setTop (mkF m 61 #[.val (.int p4_0), .val (.int (v4_4 p4_0)), .val (.int (j4_22_s0 p4_0)), .val (.long (v4_29 p4_0)), .second, .val (.int (j4_49_s0 p4_0)), .unset] [])) _
        refine XS.iconst X13.here hx rfl (hb hby d4_61) ?_
        show Steps p.tables e below (T13.setTop (mkF m 62 #[.val (.int p4_0), .val (.int (v4_4 p4_0)), .val (.int (j4_22_s0 p4_0)), .val (.long (v4_29 p4_0)), .second, .val (.int (j4_49_s0 p4_0)), .unset] [(.int (0 : Int32))])) _
        exact k)
      have hj29 : (j4_62_s0 p4_0) = (0 : Int32) := by unfold j4_62_s0; rw [if_neg hc54_25]
      exact ⟨T13, _, X13, e13, N13, fun t k => pre27 t (by rw [hj29] at k; exact k)⟩
  have pre24 : ∀ t, Steps p.tables e below (T24.setTop (mkF m 62 #[.val (.int p4_0), .val (.int (v4_4 p4_0)), .val (.int (j4_22_s0 p4_0)), .val (.long (v4_29 p4_0)), .second, .val (.int (j4_49_s0 p4_0)), .unset] [(.int (j4_62_s0 p4_0))])) t → Steps p.tables e below (s₁.setTop (entryFrame m #[(.int p4_0)] 7)) t := fun t k => pre23 t (st24 t k)
  have pre30 : ∀ t, Steps p.tables e below (T24.setTop (mkF m 65 #[.val (.int p4_0), .val (.int (v4_4 p4_0)), .val (.int (j4_22_s0 p4_0)), .val (.long (v4_29 p4_0)), .second, .val (.int (j4_49_s0 p4_0)), .val (.int (j4_62_s0 p4_0))] [(.int (j4_22_s0 p4_0))])) t → Steps p.tables e below (s₁.setTop (entryFrame m #[(.int p4_0)] 7)) t := fun t k => pre24 t (by
    refine XS.istore X24.here hx rfl (hb hby d4_62) rfl (l' := #[.val (.int p4_0), .val (.int (v4_4 p4_0)), .val (.int (j4_22_s0 p4_0)), .val (.long (v4_29 p4_0)), .second, .val (.int (j4_49_s0 p4_0)), .val (.int (j4_62_s0 p4_0))]) rfl ?_
    show Steps p.tables e below (T24.setTop (mkF m 64 #[.val (.int p4_0), .val (.int (v4_4 p4_0)), .val (.int (j4_22_s0 p4_0)), .val (.long (v4_29 p4_0)), .second, .val (.int (j4_49_s0 p4_0)), .val (.int (j4_62_s0 p4_0))] [])) _
    refine XS.iloadN X24.here hx rfl (hb hby d4_64) rfl ?_
    show Steps p.tables e below (T24.setTop (mkF m 65 #[.val (.int p4_0), .val (.int (v4_4 p4_0)), .val (.int (j4_22_s0 p4_0)), .val (.long (v4_29 p4_0)), .second, .val (.int (j4_49_s0 p4_0)), .val (.int (j4_62_s0 p4_0))] [(.int (j4_22_s0 p4_0))])) _
    exact k)
  by_cases hc65_31 : (j4_22_s0 p4_0) = (0 : Int32)
  · have pre32 : ∀ t, Steps p.tables e below (T24.setTop (mkF m 70 #[.val (.int p4_0), .val (.int (v4_4 p4_0)), .val (.int (j4_22_s0 p4_0)), .val (.long (v4_29 p4_0)), .second, .val (.int (j4_49_s0 p4_0)), .val (.int (j4_62_s0 p4_0))] [(.int (j4_49_s0 p4_0))])) t → Steps p.tables e below (s₁.setTop (entryFrame m #[(.int p4_0)] 7)) t := fun t k => pre30 t (by
      refine XS.ifNo X24.here hx rfl (hb hby d4_65) rfl ((if0 _ _).trans (teq hc65_31).2) ?_
      show Steps p.tables e below (T24.setTop (mkF m 68 #[.val (.int p4_0), .val (.int (v4_4 p4_0)), .val (.int (j4_22_s0 p4_0)), .val (.long (v4_29 p4_0)), .second, .val (.int (j4_49_s0 p4_0)), .val (.int (j4_62_s0 p4_0))] [])) _
      refine XS.iload X24.here hx rfl (hb hby d4_68) rfl ?_
      show Steps p.tables e below (T24.setTop (mkF m 70 #[.val (.int p4_0), .val (.int (v4_4 p4_0)), .val (.int (j4_22_s0 p4_0)), .val (.long (v4_29 p4_0)), .second, .val (.int (j4_49_s0 p4_0)), .val (.int (j4_62_s0 p4_0))] [(.int (j4_49_s0 p4_0))])) _
      exact k)
    by_cases hc70_33 : (j4_49_s0 p4_0) = (0 : Int32)
    · have pre34 : ∀ t, Steps p.tables e below (T24.setTop (mkF m 75 #[.val (.int p4_0), .val (.int (v4_4 p4_0)), .val (.int (j4_22_s0 p4_0)), .val (.long (v4_29 p4_0)), .second, .val (.int (j4_49_s0 p4_0)), .val (.int (j4_62_s0 p4_0))] [(.int (j4_62_s0 p4_0))])) t → Steps p.tables e below (s₁.setTop (entryFrame m #[(.int p4_0)] 7)) t := fun t k => pre32 t (by
        refine XS.ifNo X24.here hx rfl (hb hby d4_70) rfl ((if0 _ _).trans (teq hc70_33).2) ?_
        show Steps p.tables e below (T24.setTop (mkF m 73 #[.val (.int p4_0), .val (.int (v4_4 p4_0)), .val (.int (j4_22_s0 p4_0)), .val (.long (v4_29 p4_0)), .second, .val (.int (j4_49_s0 p4_0)), .val (.int (j4_62_s0 p4_0))] [])) _
        refine XS.iload X24.here hx rfl (hb hby d4_73) rfl ?_
        show Steps p.tables e below (T24.setTop (mkF m 75 #[.val (.int p4_0), .val (.int (v4_4 p4_0)), .val (.int (j4_22_s0 p4_0)), .val (.long (v4_29 p4_0)), .second, .val (.int (j4_49_s0 p4_0)), .val (.int (j4_62_s0 p4_0))] [(.int (j4_62_s0 p4_0))])) _
        exact k)
      by_cases hc75_35 : (j4_62_s0 p4_0) = (0 : Int32)
      · have pre36 : ∀ t, Steps p.tables e below (T24.setTop (mkF m 83 #[.val (.int p4_0), .val (.int (v4_4 p4_0)), .val (.int (j4_22_s0 p4_0)), .val (.long (v4_29 p4_0)), .second, .val (.int (j4_49_s0 p4_0)), .val (.int (j4_62_s0 p4_0))] [(.int (0 : Int32))])) t → Steps p.tables e below (s₁.setTop (entryFrame m #[(.int p4_0)] 7)) t := fun t k => pre34 t (by
          refine XS.ifYes X24.here hx rfl (pc0 := 75) (pc' := 82) rfl (hb hby d4_75) rfl ((if0 _ _).trans (teq hc75_35).1) (by decide) (by decide) ?_
          show Steps p.tables e below (T24.setTop (mkF m 82 #[.val (.int p4_0), .val (.int (v4_4 p4_0)), .val (.int (j4_22_s0 p4_0)), .val (.long (v4_29 p4_0)), .second, .val (.int (j4_49_s0 p4_0)), .val (.int (j4_62_s0 p4_0))] [])) _
          refine XS.iconst X24.here hx rfl (hb hby d4_82) ?_
          show Steps p.tables e below (T24.setTop (mkF m 83 #[.val (.int p4_0), .val (.int (v4_4 p4_0)), .val (.int (j4_22_s0 p4_0)), .val (.long (v4_29 p4_0)), .second, .val (.int (j4_49_s0 p4_0)), .val (.int (j4_62_s0 p4_0))] [(.int (0 : Int32))])) _
          exact k)
        have hret : (r4 p4_0) = (0 : Int32) := by unfold r4; rw [if_pos hc65_31, if_pos hc70_33, if_pos hc75_35]
        obtain ⟨fs, hr, hrun, hended, hW, hsame⟩ := X24.leave (v := some (.int (0 : Int32))) (fun h => by rw [Bd.returns] at h; cases h)
        refine ⟨_, _, pre36 _ ?_, hrun, hended, _, _, rfl, ?_, ⟨_, rfl⟩, hW, hsame.mono (by decide) (by decide)⟩
        · show Steps p.tables e below (T24.setTop (mkF m 83 #[.val (.int p4_0), .val (.int (v4_4 p4_0)), .val (.int (j4_22_s0 p4_0)), .val (.long (v4_29 p4_0)), .second, .val (.int (j4_49_s0 p4_0)), .val (.int (j4_62_s0 p4_0))] [(.int (0 : Int32))])) _
          exact retN X24 hx (t := .boolean) Bd.returns (by simp) (hb hby d4_83) hr
        · show Q4 Z p4_0 h0 n0 _ T24.heap _
          rw [e24]
          exact ⟨(by rw [hret]), N24, rfl⟩
      · have pre37 : ∀ t, Steps p.tables e below (T24.setTop (mkF m 83 #[.val (.int p4_0), .val (.int (v4_4 p4_0)), .val (.int (j4_22_s0 p4_0)), .val (.long (v4_29 p4_0)), .second, .val (.int (j4_49_s0 p4_0)), .val (.int (j4_62_s0 p4_0))] [(.int (1 : Int32))])) t → Steps p.tables e below (s₁.setTop (entryFrame m #[(.int p4_0)] 7)) t := fun t k => pre34 t (by
          refine XS.ifNo X24.here hx rfl (hb hby d4_75) rfl ((if0 _ _).trans (feq hc75_35).1) ?_
          show Steps p.tables e below (T24.setTop (mkF m 78 #[.val (.int p4_0), .val (.int (v4_4 p4_0)), .val (.int (j4_22_s0 p4_0)), .val (.long (v4_29 p4_0)), .second, .val (.int (j4_49_s0 p4_0)), .val (.int (j4_62_s0 p4_0))] [])) _
          refine XS.iconst X24.here hx rfl (hb hby d4_78) ?_
          show Steps p.tables e below (T24.setTop (mkF m 79 #[.val (.int p4_0), .val (.int (v4_4 p4_0)), .val (.int (j4_22_s0 p4_0)), .val (.long (v4_29 p4_0)), .second, .val (.int (j4_49_s0 p4_0)), .val (.int (j4_62_s0 p4_0))] [(.int (1 : Int32))])) _
          refine XS.goto X24.here hx rfl (pc0 := 79) (pc' := 83) rfl (hb hby d4_79) (by decide) (by decide) ?_
          show Steps p.tables e below (T24.setTop (mkF m 83 #[.val (.int p4_0), .val (.int (v4_4 p4_0)), .val (.int (j4_22_s0 p4_0)), .val (.long (v4_29 p4_0)), .second, .val (.int (j4_49_s0 p4_0)), .val (.int (j4_62_s0 p4_0))] [(.int (1 : Int32))])) _
          exact k)
        have hret : (r4 p4_0) = (1 : Int32) := by unfold r4; rw [if_pos hc65_31, if_pos hc70_33, if_neg hc75_35]
        obtain ⟨fs, hr, hrun, hended, hW, hsame⟩ := X24.leave (v := some (.int (1 : Int32))) (fun h => by rw [Bd.returns] at h; cases h)
        refine ⟨_, _, pre37 _ ?_, hrun, hended, _, _, rfl, ?_, ⟨_, rfl⟩, hW, hsame.mono (by decide) (by decide)⟩
        · show Steps p.tables e below (T24.setTop (mkF m 83 #[.val (.int p4_0), .val (.int (v4_4 p4_0)), .val (.int (j4_22_s0 p4_0)), .val (.long (v4_29 p4_0)), .second, .val (.int (j4_49_s0 p4_0)), .val (.int (j4_62_s0 p4_0))] [(.int (1 : Int32))])) _
          exact retN X24 hx (t := .boolean) Bd.returns (by simp) (hb hby d4_83) hr
        · show Q4 Z p4_0 h0 n0 _ T24.heap _
          rw [e24]
          exact ⟨(by rw [hret]), N24, rfl⟩
    · have pre38 : ∀ t, Steps p.tables e below (T24.setTop (mkF m 83 #[.val (.int p4_0), .val (.int (v4_4 p4_0)), .val (.int (j4_22_s0 p4_0)), .val (.long (v4_29 p4_0)), .second, .val (.int (j4_49_s0 p4_0)), .val (.int (j4_62_s0 p4_0))] [(.int (1 : Int32))])) t → Steps p.tables e below (s₁.setTop (entryFrame m #[(.int p4_0)] 7)) t := fun t k => pre32 t (by
        refine XS.ifYes X24.here hx rfl (pc0 := 70) (pc' := 78) rfl (hb hby d4_70) rfl ((if0 _ _).trans (feq hc70_33).2) (by decide) (by decide) ?_
        show Steps p.tables e below (T24.setTop (mkF m 78 #[.val (.int p4_0), .val (.int (v4_4 p4_0)), .val (.int (j4_22_s0 p4_0)), .val (.long (v4_29 p4_0)), .second, .val (.int (j4_49_s0 p4_0)), .val (.int (j4_62_s0 p4_0))] [])) _
        refine XS.iconst X24.here hx rfl (hb hby d4_78) ?_
        show Steps p.tables e below (T24.setTop (mkF m 79 #[.val (.int p4_0), .val (.int (v4_4 p4_0)), .val (.int (j4_22_s0 p4_0)), .val (.long (v4_29 p4_0)), .second, .val (.int (j4_49_s0 p4_0)), .val (.int (j4_62_s0 p4_0))] [(.int (1 : Int32))])) _
        refine XS.goto X24.here hx rfl (pc0 := 79) (pc' := 83) rfl (hb hby d4_79) (by decide) (by decide) ?_
        show Steps p.tables e below (T24.setTop (mkF m 83 #[.val (.int p4_0), .val (.int (v4_4 p4_0)), .val (.int (j4_22_s0 p4_0)), .val (.long (v4_29 p4_0)), .second, .val (.int (j4_49_s0 p4_0)), .val (.int (j4_62_s0 p4_0))] [(.int (1 : Int32))])) _
        exact k)
      have hret : (r4 p4_0) = (1 : Int32) := by unfold r4; rw [if_pos hc65_31, if_neg hc70_33]
      obtain ⟨fs, hr, hrun, hended, hW, hsame⟩ := X24.leave (v := some (.int (1 : Int32))) (fun h => by rw [Bd.returns] at h; cases h)
      refine ⟨_, _, pre38 _ ?_, hrun, hended, _, _, rfl, ?_, ⟨_, rfl⟩, hW, hsame.mono (by decide) (by decide)⟩
      · show Steps p.tables e below (T24.setTop (mkF m 83 #[.val (.int p4_0), .val (.int (v4_4 p4_0)), .val (.int (j4_22_s0 p4_0)), .val (.long (v4_29 p4_0)), .second, .val (.int (j4_49_s0 p4_0)), .val (.int (j4_62_s0 p4_0))] [(.int (1 : Int32))])) _
        exact retN X24 hx (t := .boolean) Bd.returns (by simp) (hb hby d4_83) hr
      · show Q4 Z p4_0 h0 n0 _ T24.heap _
        rw [e24]
        exact ⟨(by rw [hret]), N24, rfl⟩
  · have pre39 : ∀ t, Steps p.tables e below (T24.setTop (mkF m 83 #[.val (.int p4_0), .val (.int (v4_4 p4_0)), .val (.int (j4_22_s0 p4_0)), .val (.long (v4_29 p4_0)), .second, .val (.int (j4_49_s0 p4_0)), .val (.int (j4_62_s0 p4_0))] [(.int (1 : Int32))])) t → Steps p.tables e below (s₁.setTop (entryFrame m #[(.int p4_0)] 7)) t := fun t k => pre30 t (by
      refine XS.ifYes X24.here hx rfl (pc0 := 65) (pc' := 78) rfl (hb hby d4_65) rfl ((if0 _ _).trans (feq hc65_31).2) (by decide) (by decide) ?_
      show Steps p.tables e below (T24.setTop (mkF m 78 #[.val (.int p4_0), .val (.int (v4_4 p4_0)), .val (.int (j4_22_s0 p4_0)), .val (.long (v4_29 p4_0)), .second, .val (.int (j4_49_s0 p4_0)), .val (.int (j4_62_s0 p4_0))] [])) _
      refine XS.iconst X24.here hx rfl (hb hby d4_78) ?_
      show Steps p.tables e below (T24.setTop (mkF m 79 #[.val (.int p4_0), .val (.int (v4_4 p4_0)), .val (.int (j4_22_s0 p4_0)), .val (.long (v4_29 p4_0)), .second, .val (.int (j4_49_s0 p4_0)), .val (.int (j4_62_s0 p4_0))] [(.int (1 : Int32))])) _
      refine XS.goto X24.here hx rfl (pc0 := 79) (pc' := 83) rfl (hb hby d4_79) (by decide) (by decide) ?_
      show Steps p.tables e below (T24.setTop (mkF m 83 #[.val (.int p4_0), .val (.int (v4_4 p4_0)), .val (.int (j4_22_s0 p4_0)), .val (.long (v4_29 p4_0)), .second, .val (.int (j4_49_s0 p4_0)), .val (.int (j4_62_s0 p4_0))] [(.int (1 : Int32))])) _
      exact k)
    have hret : (r4 p4_0) = (1 : Int32) := by unfold r4; rw [if_neg hc65_31]
    obtain ⟨fs, hr, hrun, hended, hW, hsame⟩ := X24.leave (v := some (.int (1 : Int32))) (fun h => by rw [Bd.returns] at h; cases h)
    refine ⟨_, _, pre39 _ ?_, hrun, hended, _, _, rfl, ?_, ⟨_, rfl⟩, hW, hsame.mono (by decide) (by decide)⟩
    · show Steps p.tables e below (T24.setTop (mkF m 83 #[.val (.int p4_0), .val (.int (v4_4 p4_0)), .val (.int (j4_22_s0 p4_0)), .val (.long (v4_29 p4_0)), .second, .val (.int (j4_49_s0 p4_0)), .val (.int (j4_62_s0 p4_0))] [(.int (1 : Int32))])) _
      exact retN X24 hx (t := .boolean) Bd.returns (by simp) (hb hby d4_83) hr
    · show Q4 Z p4_0 h0 n0 _ T24.heap _
      rw [e24]
      exact ⟨(by rw [hret]), N24, rfl⟩
def own_i (p : Int32) : Nat := (p &&& (7 : Int32)).toNatClampNeg
theorem ef_0 (m : MethodId) (x0 : Int32) (x1 : Int32) : entryFrame m #[(.int x0), (.int x1)] maxLocals = mkF m 0 #[.val (.int x0), .val (.int x1), .unset, .unset, .unset, .unset, .unset, .unset, .unset, .unset, .unset] [] := by first | (simp [entryFrame, mkF, argsToLocals, Value.category, maxLocals]; done) | rfl
def v0_7 (p0_0 : Int32) : Int32 := (p0_0 &&& (511 : Int32))
def g0_21  : Nat → Int32 := (own_upd (own_upd (fun _ => (0 : Int32)) 0 (48 : Int32)) 1 (57 : Int32))
def g0_36  : Nat → Int32 := (own_upd (own_upd (own_upd g0_21 2 (65 : Int32)) 3 (90 : Int32)) 4 (97 : Int32))
def g0_52  : Nat → Int32 := (own_upd (own_upd (own_upd g0_36 5 (122 : Int32)) 6 (95 : Int32)) 7 (0 : Int32))
def v0_59 (p0_1 : Int32) : Int32 := (p0_1 &&& (7 : Int32))
def v0_68 (p0_1 : Int32) : Int32 := (((own_ushr p0_1 (3 : Int32)) % (3 : Int32)) - (1 : Int32))
def v0_78 (p0_1 : Int32) : Int32 := ((g0_52 (own_i p0_1)) + (v0_68 p0_1))
theorem own_or32 (n : Nat) : n ||| 32 = if n % 64 < 32 then n + 32 else n := by
  have h1 : (n ||| 32) / 2 ^ 6 = n / 2 ^ 6 := by rw [Nat.or_div_two_pow]; simp
  have h2 : (n ||| 32) % 2 ^ 6 = (n % 2 ^ 6) ||| 32 := by rw [Nat.or_mod_two_pow]
  have h3 : ∀ r, r < 64 → r ||| 32 = if r < 32 then r + 32 else r := by decide +kernel
  rw [h3 (n % 2 ^ 6) (by omega)] at h2
  split at h2 <;> split <;> omega
theorem own_or (x : Int32) : (x ||| (32 : Int32)).toInt = if x.toInt % 64 < 32 then x.toInt + 32 else x.toInt := by
  have h : (x ||| (32 : Int32)).toBitVec.toNat = x.toBitVec.toNat ||| 32 := by rw [Int32.toBitVec_or, BitVec.toNat_or]; rfl
  rw [own_or32] at h
  have q1 : (x ||| (32 : Int32)).toInt = (x ||| (32 : Int32)).toBitVec.toInt := rfl
  have q2 : x.toInt = x.toBitVec.toInt := rfl
  have b := x.toBitVec.isLt
  rw [q1, q2, BitVec.toInt_eq_toNat_cond, BitVec.toInt_eq_toNat_cond, h]
  generalize x.toBitVec.toNat = n at *
  repeat' split
  all_goals omega
theorem own_l (x : Int32) : (r2 x = 0) = ¬ ((65 ≤ x.toInt ∧ x.toInt ≤ 90) ∨ (97 ≤ x.toInt ∧ x.toInt ≤ 122)) := by
  unfold r2
  simp only [Int32.lt_iff_toInt_lt, show (97 : Int32).toInt = 97 from rfl, show (65 : Int32).toInt = 65 from rfl, show (90 : Int32).toInt = 90 from rfl, show (122 : Int32).toInt = 122 from rfl]
  generalize x.toInt = n
  apply propext
  repeat' split
  all_goals first | exact iff_of_true rfl (by omega) | exact iff_of_false (by decide) (by omega)
theorem own_d (x : Int32) : (r3 x = 0) = ¬ (48 ≤ x.toInt ∧ x.toInt ≤ 57) := by
  unfold r3
  simp only [Int32.lt_iff_toInt_lt, show (48 : Int32).toInt = 48 from rfl, show (57 : Int32).toInt = 57 from rfl]
  generalize x.toInt = n
  apply propext
  repeat' split
  all_goals first | exact iff_of_true rfl (by omega) | exact iff_of_false (by decide) (by omega)
theorem own_l' (x : Int32) : (j4_22_s0 x = 0) = ¬ ((65 ≤ x.toInt ∧ x.toInt ≤ 90) ∨ (97 ≤ x.toInt ∧ x.toInt ≤ 122)) := by
  unfold j4_22_s0 v4_4
  simp only [Int32.lt_iff_toInt_lt, own_or, show (97 : Int32).toInt = 97 from rfl, show (122 : Int32).toInt = 122 from rfl]
  generalize x.toInt = n
  apply propext
  repeat' split
  all_goals first | exact iff_of_true rfl (by omega) | exact iff_of_false (by decide) (by omega)
theorem own_d' (x : Int32) : (j4_49_s0 x = 0) = ¬ (48 ≤ x.toInt ∧ x.toInt ≤ 57) := by
  have b1 := x.toInt_lt
  have b2 := x.le_toInt
  have e : (v4_29 x).toInt = x.toInt - 48 := by
    unfold v4_29
    rw [Jvm.Kit.i64_sub (by rw [Jvm.Kit.i64_of_i32, show (48 : Int64).toInt = 48 from rfl]; omega) (by rw [Jvm.Kit.i64_of_i32, show (48 : Int64).toInt = 48 from rfl]; omega), Jvm.Kit.i64_of_i32]; rfl
  unfold j4_49_s0
  simp only [Int64.lt_iff_toInt_lt, e, show (0 : Int64).toInt = 0 from rfl, show (10 : Int64).toInt = 10 from rfl]
  generalize x.toInt = n
  apply propext
  repeat' split
  all_goals first | exact iff_of_true rfl (by omega) | exact iff_of_false (by decide) (by omega)
theorem own_main (x : Int32) : r1 x = r4 x := by
  unfold r1 r4 j4_62_s0
  simp only [own_l, own_d, own_l', own_d']
  repeat' split
  all_goals first | rfl | (exfalso; simp_all; done) | simp_all
theorem own_ix (p : Int32) : ¬ (v0_59 p) < 0 ∧ (v0_59 p).toNatClampNeg = own_i p := by
  have h : (p &&& (7 : Int32)).toInt = p.toInt % 2 ^ 3 := Jvm.Kit.i32_mask p _ (k := 3) (by decide) (by decide)
  refine ⟨?_, rfl⟩
  unfold v0_59
  rw [Int32.lt_iff_toInt_lt, h, show (0 : Int32).toInt = 0 from rfl]; omega
theorem own_ilt (p : Int32) : own_i p < 8 := by
  have h : (p &&& (7 : Int32)).toInt = p.toInt % 2 ^ 3 := Jvm.Kit.i32_mask p _ (k := 3) (by decide) (by decide)
  show (p &&& (7 : Int32)).toInt.toNat < 8
  omega
def Q0 (Z : State) (p0_0 : Int32) (p0_1 : Int32) (h0 : Heap) (n0 : Nat) (v : Option Value) (h : Heap) (L : List Loc) : Prop := v = some (.int (1 : Int32)) ∧ Fr n0 L
set_option maxRecDepth 65536 in
set_option maxHeartbeats 40000000 in
theorem rm0 (l : Launch) (Z : State) (a0 : Array Value) (hw : ∀ d ∈ tables_1, d.before a0 Z = true) (ws : List Jvm.Cond) (p0_0 : Int32) (p0_1 : Int32) (h0 : Heap) (n0 : Nat) (Z0 : n0 ≤ h0.size) :
    MetFree l x (head1 (Jvm.Cond.code x code maxLocals ret :: ws) room_1) (fun a U => a = #[(.int p0_0), (.int p0_1)] ∧ Z.Warmed39 U.vm ∧ U.heap = h0) (fun _ _ _ _ _ => True) (fun _ U o U' => ∃ v L, o = .returned v ∧ Q0 Z p0_0 p0_1 h0 n0 v U'.heap L ∧ FrameEnd U o U' L room_1.cells room_1.slots) := by
  refine MetFree.of_bodySF (plainFor_of_name pn_1) hisR ?_
  intro p e s m args below meth c s₁ Bd hml0 hP hK
  obtain ⟨rfl, hZ, hh⟩ := hP
  have hx := Bd.exec
  have hby := Bd.bytes
  have hml : c.maxLocals = 11 := hml0
  have hown : s.vm.findClass "com/example/keys_to_proof/keystoproof/language/ScannerIsNamePartPinLaw" = some m.cls := findClass_of_methodNamed Bd.named
  have hnm := (name_of_methodNamed Bd.named Bd.method).1
  have X0 : Stand p l e room_1 s m #[(.int p0_0), (.int p0_1)] below meth c s₁ [] 0 0 := Stand.of_body Bd
  have e0 : s₁.heap = h0 := by rw [← hh, Bd.state]; rfl
  have N0 := Fr.nil n0
  have pre0 : ∀ t, Steps p.tables e below (s₁.setTop (mkF m 0 #[.val (.int p0_0), .val (.int p0_1), .unset, .unset, .unset, .unset, .unset, .unset, .unset, .unset, .unset] [])) t → Steps p.tables e below (s₁.setTop (entryFrame m #[(.int p0_0), (.int p0_1)] maxLocals)) t := fun t k => castTop (ef_0 m p0_0 p0_1) k
  have pre1 : ∀ t, Steps p.tables e below (s₁.setTop (mkF m 10 #[.val (.int p0_0), .val (.int p0_1), .val (.int p0_0), .val (.int (v0_7 p0_0)), .unset, .unset, .unset, .unset, .unset, .unset, .unset] [(.int (8 : Int32))])) t → Steps p.tables e below (s₁.setTop (entryFrame m #[(.int p0_0), (.int p0_1)] maxLocals)) t := fun t k => pre0 t (by
    refine XS.iloadN X0.here hx rfl (hb hby at_0) rfl ?_
    show Steps p.tables e below (s₁.setTop (mkF m 1 #[.val (.int p0_0), .val (.int p0_1), .unset, .unset, .unset, .unset, .unset, .unset, .unset, .unset, .unset] [(.int p0_0)])) _
    refine XS.istoreN X0.here hx rfl (hb hby at_1) rfl (l' := #[.val (.int p0_0), .val (.int p0_1), .val (.int p0_0), .unset, .unset, .unset, .unset, .unset, .unset, .unset, .unset]) rfl ?_
    show Steps p.tables e below (s₁.setTop (mkF m 2 #[.val (.int p0_0), .val (.int p0_1), .val (.int p0_0), .unset, .unset, .unset, .unset, .unset, .unset, .unset, .unset] [])) _
    refine XS.iloadN X0.here hx rfl (hb hby at_2) rfl ?_
    show Steps p.tables e below (s₁.setTop (mkF m 3 #[.val (.int p0_0), .val (.int p0_1), .val (.int p0_0), .unset, .unset, .unset, .unset, .unset, .unset, .unset, .unset] [(.int p0_0)])) _
    refine XS.sipush X0.here hx rfl (hb hby at_3) ?_
    show Steps p.tables e below (s₁.setTop (mkF m 6 #[.val (.int p0_0), .val (.int p0_1), .val (.int p0_0), .unset, .unset, .unset, .unset, .unset, .unset, .unset, .unset] [(.int (511 : Int32)), (.int p0_0)])) _
    refine XS.iand X0.here hx rfl (hb hby at_6) rfl ?_
    show Steps p.tables e below (s₁.setTop (mkF m 7 #[.val (.int p0_0), .val (.int p0_1), .val (.int p0_0), .unset, .unset, .unset, .unset, .unset, .unset, .unset, .unset] [(.int (p0_0 &&& (511 : Int32)))])) _
    show Steps p.tables e below (s₁.setTop (mkF m 7 #[.val (.int p0_0), .val (.int p0_1), .val (.int p0_0), .unset, .unset, .unset, .unset, .unset, .unset, .unset, .unset] [(.int (v0_7 p0_0))])) _
    refine XS.istoreN X0.here hx rfl (hb hby at_7) rfl (l' := #[.val (.int p0_0), .val (.int p0_1), .val (.int p0_0), .val (.int (v0_7 p0_0)), .unset, .unset, .unset, .unset, .unset, .unset, .unset]) rfl ?_
    show Steps p.tables e below (s₁.setTop (mkF m 8 #[.val (.int p0_0), .val (.int p0_1), .val (.int p0_0), .val (.int (v0_7 p0_0)), .unset, .unset, .unset, .unset, .unset, .unset, .unset] [])) _
    refine XS.bipush X0.here hx rfl (hb hby at_8) ?_
    show Steps p.tables e below (s₁.setTop (mkF m 10 #[.val (.int p0_0), .val (.int p0_1), .val (.int p0_0), .val (.int (v0_7 p0_0)), .unset, .unset, .unset, .unset, .unset, .unset, .unset] [(.int (8 : Int32))])) _
    exact k)
  obtain ⟨T2, h2, k2, X2, e2, E2, A2, st2⟩ := newP X0 hx hZ (hw _ (List.mem_of_getElem? (i := 0) rfl)) e0 (g := (mkF m 10 #[.val (.int p0_0), .val (.int p0_1), .val (.int p0_0), .val (.int (v0_7 p0_0)), .unset, .unset, .unset, .unset, .unset, .unset, .unset] [(.int (8 : Int32))])) rfl (hb hby at_10) rfl (by decide) (cap := 8) (by decide) (by decide) (by decide) (by decide)
  obtain ⟨b2, q2⟩ : ∃ z, z = h0.size := ⟨_, rfl⟩
  rw [← q2] at A2 st2
  have g_b2 : n0 ≤ b2 := Nat.le_trans Z0 (Nat.le_of_eq q2.symm)
  have Z2 : n0 ≤ h2.size := Nat.le_trans Z0 E2.1
  have B2 : ArI Z h2 b2 .int 8 (fun _ => (0 : Int32)) := ArI.new rfl A2 (by decide)
  have pre2 : ∀ t, Steps p.tables e below (T2.setTop (mkF m 12 #[.val (.int p0_0), .val (.int p0_1), .val (.int p0_0), .val (.int (v0_7 p0_0)), .unset, .unset, .unset, .unset, .unset, .unset, .unset] [(.ref b2)])) t → Steps p.tables e below (s₁.setTop (entryFrame m #[(.int p0_0), (.int p0_1)] maxLocals)) t := fun t k => pre1 t (st2 t k)
  have pre3 : ∀ t, Steps p.tables e below (T2.setTop (mkF m 16 #[.val (.int p0_0), .val (.int p0_1), .val (.int p0_0), .val (.int (v0_7 p0_0)), .unset, .unset, .unset, .unset, .unset, .unset, .unset] [(.int (48 : Int32)), (.int (0 : Int32)), (.ref b2), (.ref b2)])) t → Steps p.tables e below (s₁.setTop (entryFrame m #[(.int p0_0), (.int p0_1)] maxLocals)) t := fun t k => pre2 t (by
    refine XS.dup X2.here hx rfl (hb hby at_12) rfl rfl ?_
    show Steps p.tables e below (T2.setTop (mkF m 13 #[.val (.int p0_0), .val (.int p0_1), .val (.int p0_0), .val (.int (v0_7 p0_0)), .unset, .unset, .unset, .unset, .unset, .unset, .unset] [(.ref b2), (.ref b2)])) _
    refine XS.iconst X2.here hx rfl (hb hby at_13) ?_
    show Steps p.tables e below (T2.setTop (mkF m 14 #[.val (.int p0_0), .val (.int p0_1), .val (.int p0_0), .val (.int (v0_7 p0_0)), .unset, .unset, .unset, .unset, .unset, .unset, .unset] [(.int (0 : Int32)), (.ref b2), (.ref b2)])) _
    refine XS.bipush X2.here hx rfl (hb hby at_14) ?_
    show Steps p.tables e below (T2.setTop (mkF m 16 #[.val (.int p0_0), .val (.int p0_1), .val (.int p0_0), .val (.int (v0_7 p0_0)), .unset, .unset, .unset, .unset, .unset, .unset, .unset] [(.int (48 : Int32)), (.int (0 : Int32)), (.ref b2), (.ref b2)])) _
    exact k)
  obtain ⟨T4, h4, X4, e4, W4, B4, st4⟩ := own_stI X2 hx hZ e2 B2 (j := (0 : Int32)) (i := 0) (by decide) (by decide) (g := (mkF m 16 #[.val (.int p0_0), .val (.int p0_1), .val (.int p0_0), .val (.int (v0_7 p0_0)), .unset, .unset, .unset, .unset, .unset, .unset, .unset] [(.int (48 : Int32)), (.int (0 : Int32)), (.ref b2), (.ref b2)])) rfl rfl (hb hby at_16)
  have N4 := Fr.snoc X4 N0 g_b2
  have Z4 : n0 ≤ h4.size := Nat.le_trans Z2 (Keep.of_wr W4).1
  have pre4 : ∀ t, Steps p.tables e below (T4.setTop (mkF m 17 #[.val (.int p0_0), .val (.int p0_1), .val (.int p0_0), .val (.int (v0_7 p0_0)), .unset, .unset, .unset, .unset, .unset, .unset, .unset] [(.ref b2)])) t → Steps p.tables e below (s₁.setTop (entryFrame m #[(.int p0_0), (.int p0_1)] maxLocals)) t := fun t k => pre3 t (st4 t k)
  have pre5 : ∀ t, Steps p.tables e below (T4.setTop (mkF m 21 #[.val (.int p0_0), .val (.int p0_1), .val (.int p0_0), .val (.int (v0_7 p0_0)), .unset, .unset, .unset, .unset, .unset, .unset, .unset] [(.int (57 : Int32)), (.int (1 : Int32)), (.ref b2), (.ref b2)])) t → Steps p.tables e below (s₁.setTop (entryFrame m #[(.int p0_0), (.int p0_1)] maxLocals)) t := fun t k => pre4 t (by
    refine XS.dup X4.here hx rfl (hb hby at_17) rfl rfl ?_
    show Steps p.tables e below (T4.setTop (mkF m 18 #[.val (.int p0_0), .val (.int p0_1), .val (.int p0_0), .val (.int (v0_7 p0_0)), .unset, .unset, .unset, .unset, .unset, .unset, .unset] [(.ref b2), (.ref b2)])) _
    refine XS.iconst X4.here hx rfl (hb hby at_18) ?_
    show Steps p.tables e below (T4.setTop (mkF m 19 #[.val (.int p0_0), .val (.int p0_1), .val (.int p0_0), .val (.int (v0_7 p0_0)), .unset, .unset, .unset, .unset, .unset, .unset, .unset] [(.int (1 : Int32)), (.ref b2), (.ref b2)])) _
    refine XS.bipush X4.here hx rfl (hb hby at_19) ?_
    show Steps p.tables e below (T4.setTop (mkF m 21 #[.val (.int p0_0), .val (.int p0_1), .val (.int p0_0), .val (.int (v0_7 p0_0)), .unset, .unset, .unset, .unset, .unset, .unset, .unset] [(.int (57 : Int32)), (.int (1 : Int32)), (.ref b2), (.ref b2)])) _
    exact k)
  obtain ⟨T6, h6, X6, e6, W6, B6, st6⟩ := own_stI X4 hx hZ e4 B4 (j := (1 : Int32)) (i := 1) (by decide) (by decide) (g := (mkF m 21 #[.val (.int p0_0), .val (.int p0_1), .val (.int p0_0), .val (.int (v0_7 p0_0)), .unset, .unset, .unset, .unset, .unset, .unset, .unset] [(.int (57 : Int32)), (.int (1 : Int32)), (.ref b2), (.ref b2)])) rfl rfl (hb hby at_21)
  have N6 := Fr.snoc X6 N4 g_b2
  have Z6 : n0 ≤ h6.size := Nat.le_trans Z4 (Keep.of_wr W6).1
  have C6 : ArI Z h6 b2 .int 8 g0_21 := B6
  have pre6 : ∀ t, Steps p.tables e below (T6.setTop (mkF m 22 #[.val (.int p0_0), .val (.int p0_1), .val (.int p0_0), .val (.int (v0_7 p0_0)), .unset, .unset, .unset, .unset, .unset, .unset, .unset] [(.ref b2)])) t → Steps p.tables e below (s₁.setTop (entryFrame m #[(.int p0_0), (.int p0_1)] maxLocals)) t := fun t k => pre5 t (st6 t k)
  have pre7 : ∀ t, Steps p.tables e below (T6.setTop (mkF m 26 #[.val (.int p0_0), .val (.int p0_1), .val (.int p0_0), .val (.int (v0_7 p0_0)), .unset, .unset, .unset, .unset, .unset, .unset, .unset] [(.int (65 : Int32)), (.int (2 : Int32)), (.ref b2), (.ref b2)])) t → Steps p.tables e below (s₁.setTop (entryFrame m #[(.int p0_0), (.int p0_1)] maxLocals)) t := fun t k => pre6 t (by
    refine XS.dup X6.here hx rfl (hb hby at_22) rfl rfl ?_
    show Steps p.tables e below (T6.setTop (mkF m 23 #[.val (.int p0_0), .val (.int p0_1), .val (.int p0_0), .val (.int (v0_7 p0_0)), .unset, .unset, .unset, .unset, .unset, .unset, .unset] [(.ref b2), (.ref b2)])) _
    refine XS.iconst X6.here hx rfl (hb hby at_23) ?_
    show Steps p.tables e below (T6.setTop (mkF m 24 #[.val (.int p0_0), .val (.int p0_1), .val (.int p0_0), .val (.int (v0_7 p0_0)), .unset, .unset, .unset, .unset, .unset, .unset, .unset] [(.int (2 : Int32)), (.ref b2), (.ref b2)])) _
    refine XS.bipush X6.here hx rfl (hb hby at_24) ?_
    show Steps p.tables e below (T6.setTop (mkF m 26 #[.val (.int p0_0), .val (.int p0_1), .val (.int p0_0), .val (.int (v0_7 p0_0)), .unset, .unset, .unset, .unset, .unset, .unset, .unset] [(.int (65 : Int32)), (.int (2 : Int32)), (.ref b2), (.ref b2)])) _
    exact k)
  obtain ⟨T8, h8, X8, e8, W8, B8, st8⟩ := own_stI X6 hx hZ e6 C6 (j := (2 : Int32)) (i := 2) (by decide) (by decide) (g := (mkF m 26 #[.val (.int p0_0), .val (.int p0_1), .val (.int p0_0), .val (.int (v0_7 p0_0)), .unset, .unset, .unset, .unset, .unset, .unset, .unset] [(.int (65 : Int32)), (.int (2 : Int32)), (.ref b2), (.ref b2)])) rfl rfl (hb hby at_26)
  have N8 := Fr.snoc X8 N6 g_b2
  have Z8 : n0 ≤ h8.size := Nat.le_trans Z6 (Keep.of_wr W8).1
  have pre8 : ∀ t, Steps p.tables e below (T8.setTop (mkF m 27 #[.val (.int p0_0), .val (.int p0_1), .val (.int p0_0), .val (.int (v0_7 p0_0)), .unset, .unset, .unset, .unset, .unset, .unset, .unset] [(.ref b2)])) t → Steps p.tables e below (s₁.setTop (entryFrame m #[(.int p0_0), (.int p0_1)] maxLocals)) t := fun t k => pre7 t (st8 t k)
  have pre9 : ∀ t, Steps p.tables e below (T8.setTop (mkF m 31 #[.val (.int p0_0), .val (.int p0_1), .val (.int p0_0), .val (.int (v0_7 p0_0)), .unset, .unset, .unset, .unset, .unset, .unset, .unset] [(.int (90 : Int32)), (.int (3 : Int32)), (.ref b2), (.ref b2)])) t → Steps p.tables e below (s₁.setTop (entryFrame m #[(.int p0_0), (.int p0_1)] maxLocals)) t := fun t k => pre8 t (by
    refine XS.dup X8.here hx rfl (hb hby at_27) rfl rfl ?_
    show Steps p.tables e below (T8.setTop (mkF m 28 #[.val (.int p0_0), .val (.int p0_1), .val (.int p0_0), .val (.int (v0_7 p0_0)), .unset, .unset, .unset, .unset, .unset, .unset, .unset] [(.ref b2), (.ref b2)])) _
    refine XS.iconst X8.here hx rfl (hb hby at_28) ?_
    show Steps p.tables e below (T8.setTop (mkF m 29 #[.val (.int p0_0), .val (.int p0_1), .val (.int p0_0), .val (.int (v0_7 p0_0)), .unset, .unset, .unset, .unset, .unset, .unset, .unset] [(.int (3 : Int32)), (.ref b2), (.ref b2)])) _
    refine XS.bipush X8.here hx rfl (hb hby at_29) ?_
    show Steps p.tables e below (T8.setTop (mkF m 31 #[.val (.int p0_0), .val (.int p0_1), .val (.int p0_0), .val (.int (v0_7 p0_0)), .unset, .unset, .unset, .unset, .unset, .unset, .unset] [(.int (90 : Int32)), (.int (3 : Int32)), (.ref b2), (.ref b2)])) _
    exact k)
  obtain ⟨T10, h10, X10, e10, W10, B10, st10⟩ := own_stI X8 hx hZ e8 B8 (j := (3 : Int32)) (i := 3) (by decide) (by decide) (g := (mkF m 31 #[.val (.int p0_0), .val (.int p0_1), .val (.int p0_0), .val (.int (v0_7 p0_0)), .unset, .unset, .unset, .unset, .unset, .unset, .unset] [(.int (90 : Int32)), (.int (3 : Int32)), (.ref b2), (.ref b2)])) rfl rfl (hb hby at_31)
  have N10 := Fr.snoc X10 N8 g_b2
  have Z10 : n0 ≤ h10.size := Nat.le_trans Z8 (Keep.of_wr W10).1
  have pre10 : ∀ t, Steps p.tables e below (T10.setTop (mkF m 32 #[.val (.int p0_0), .val (.int p0_1), .val (.int p0_0), .val (.int (v0_7 p0_0)), .unset, .unset, .unset, .unset, .unset, .unset, .unset] [(.ref b2)])) t → Steps p.tables e below (s₁.setTop (entryFrame m #[(.int p0_0), (.int p0_1)] maxLocals)) t := fun t k => pre9 t (st10 t k)
  have pre11 : ∀ t, Steps p.tables e below (T10.setTop (mkF m 36 #[.val (.int p0_0), .val (.int p0_1), .val (.int p0_0), .val (.int (v0_7 p0_0)), .unset, .unset, .unset, .unset, .unset, .unset, .unset] [(.int (97 : Int32)), (.int (4 : Int32)), (.ref b2), (.ref b2)])) t → Steps p.tables e below (s₁.setTop (entryFrame m #[(.int p0_0), (.int p0_1)] maxLocals)) t := fun t k => pre10 t (by
    refine XS.dup X10.here hx rfl (hb hby at_32) rfl rfl ?_
    show Steps p.tables e below (T10.setTop (mkF m 33 #[.val (.int p0_0), .val (.int p0_1), .val (.int p0_0), .val (.int (v0_7 p0_0)), .unset, .unset, .unset, .unset, .unset, .unset, .unset] [(.ref b2), (.ref b2)])) _
    refine XS.iconst X10.here hx rfl (hb hby at_33) ?_
    show Steps p.tables e below (T10.setTop (mkF m 34 #[.val (.int p0_0), .val (.int p0_1), .val (.int p0_0), .val (.int (v0_7 p0_0)), .unset, .unset, .unset, .unset, .unset, .unset, .unset] [(.int (4 : Int32)), (.ref b2), (.ref b2)])) _
    refine XS.bipush X10.here hx rfl (hb hby at_34) ?_
    show Steps p.tables e below (T10.setTop (mkF m 36 #[.val (.int p0_0), .val (.int p0_1), .val (.int p0_0), .val (.int (v0_7 p0_0)), .unset, .unset, .unset, .unset, .unset, .unset, .unset] [(.int (97 : Int32)), (.int (4 : Int32)), (.ref b2), (.ref b2)])) _
    exact k)
  obtain ⟨T12, h12, X12, e12, W12, B12, st12⟩ := own_stI X10 hx hZ e10 B10 (j := (4 : Int32)) (i := 4) (by decide) (by decide) (g := (mkF m 36 #[.val (.int p0_0), .val (.int p0_1), .val (.int p0_0), .val (.int (v0_7 p0_0)), .unset, .unset, .unset, .unset, .unset, .unset, .unset] [(.int (97 : Int32)), (.int (4 : Int32)), (.ref b2), (.ref b2)])) rfl rfl (hb hby at_36)
  have N12 := Fr.snoc X12 N10 g_b2
  have Z12 : n0 ≤ h12.size := Nat.le_trans Z10 (Keep.of_wr W12).1
  have C12 : ArI Z h12 b2 .int 8 g0_36 := B12
  have pre12 : ∀ t, Steps p.tables e below (T12.setTop (mkF m 37 #[.val (.int p0_0), .val (.int p0_1), .val (.int p0_0), .val (.int (v0_7 p0_0)), .unset, .unset, .unset, .unset, .unset, .unset, .unset] [(.ref b2)])) t → Steps p.tables e below (s₁.setTop (entryFrame m #[(.int p0_0), (.int p0_1)] maxLocals)) t := fun t k => pre11 t (st12 t k)
  have pre13 : ∀ t, Steps p.tables e below (T12.setTop (mkF m 41 #[.val (.int p0_0), .val (.int p0_1), .val (.int p0_0), .val (.int (v0_7 p0_0)), .unset, .unset, .unset, .unset, .unset, .unset, .unset] [(.int (122 : Int32)), (.int (5 : Int32)), (.ref b2), (.ref b2)])) t → Steps p.tables e below (s₁.setTop (entryFrame m #[(.int p0_0), (.int p0_1)] maxLocals)) t := fun t k => pre12 t (by
    refine XS.dup X12.here hx rfl (hb hby at_37) rfl rfl ?_
    show Steps p.tables e below (T12.setTop (mkF m 38 #[.val (.int p0_0), .val (.int p0_1), .val (.int p0_0), .val (.int (v0_7 p0_0)), .unset, .unset, .unset, .unset, .unset, .unset, .unset] [(.ref b2), (.ref b2)])) _
    refine XS.iconst X12.here hx rfl (hb hby at_38) ?_
    show Steps p.tables e below (T12.setTop (mkF m 39 #[.val (.int p0_0), .val (.int p0_1), .val (.int p0_0), .val (.int (v0_7 p0_0)), .unset, .unset, .unset, .unset, .unset, .unset, .unset] [(.int (5 : Int32)), (.ref b2), (.ref b2)])) _
    refine XS.bipush X12.here hx rfl (hb hby at_39) ?_
    show Steps p.tables e below (T12.setTop (mkF m 41 #[.val (.int p0_0), .val (.int p0_1), .val (.int p0_0), .val (.int (v0_7 p0_0)), .unset, .unset, .unset, .unset, .unset, .unset, .unset] [(.int (122 : Int32)), (.int (5 : Int32)), (.ref b2), (.ref b2)])) _
    exact k)
  obtain ⟨T14, h14, X14, e14, W14, B14, st14⟩ := own_stI X12 hx hZ e12 C12 (j := (5 : Int32)) (i := 5) (by decide) (by decide) (g := (mkF m 41 #[.val (.int p0_0), .val (.int p0_1), .val (.int p0_0), .val (.int (v0_7 p0_0)), .unset, .unset, .unset, .unset, .unset, .unset, .unset] [(.int (122 : Int32)), (.int (5 : Int32)), (.ref b2), (.ref b2)])) rfl rfl (hb hby at_41)
  have N14 := Fr.snoc X14 N12 g_b2
  have Z14 : n0 ≤ h14.size := Nat.le_trans Z12 (Keep.of_wr W14).1
  have pre14 : ∀ t, Steps p.tables e below (T14.setTop (mkF m 42 #[.val (.int p0_0), .val (.int p0_1), .val (.int p0_0), .val (.int (v0_7 p0_0)), .unset, .unset, .unset, .unset, .unset, .unset, .unset] [(.ref b2)])) t → Steps p.tables e below (s₁.setTop (entryFrame m #[(.int p0_0), (.int p0_1)] maxLocals)) t := fun t k => pre13 t (st14 t k)
  have pre15 : ∀ t, Steps p.tables e below (T14.setTop (mkF m 47 #[.val (.int p0_0), .val (.int p0_1), .val (.int p0_0), .val (.int (v0_7 p0_0)), .unset, .unset, .unset, .unset, .unset, .unset, .unset] [(.int (95 : Int32)), (.int (6 : Int32)), (.ref b2), (.ref b2)])) t → Steps p.tables e below (s₁.setTop (entryFrame m #[(.int p0_0), (.int p0_1)] maxLocals)) t := fun t k => pre14 t (by
    refine XS.dup X14.here hx rfl (hb hby at_42) rfl rfl ?_
    show Steps p.tables e below (T14.setTop (mkF m 43 #[.val (.int p0_0), .val (.int p0_1), .val (.int p0_0), .val (.int (v0_7 p0_0)), .unset, .unset, .unset, .unset, .unset, .unset, .unset] [(.ref b2), (.ref b2)])) _
    refine XS.bipush X14.here hx rfl (hb hby at_43) ?_
    show Steps p.tables e below (T14.setTop (mkF m 45 #[.val (.int p0_0), .val (.int p0_1), .val (.int p0_0), .val (.int (v0_7 p0_0)), .unset, .unset, .unset, .unset, .unset, .unset, .unset] [(.int (6 : Int32)), (.ref b2), (.ref b2)])) _
    refine XS.bipush X14.here hx rfl (hb hby at_45) ?_
    show Steps p.tables e below (T14.setTop (mkF m 47 #[.val (.int p0_0), .val (.int p0_1), .val (.int p0_0), .val (.int (v0_7 p0_0)), .unset, .unset, .unset, .unset, .unset, .unset, .unset] [(.int (95 : Int32)), (.int (6 : Int32)), (.ref b2), (.ref b2)])) _
    exact k)
  obtain ⟨T16, h16, X16, e16, W16, B16, st16⟩ := own_stI X14 hx hZ e14 B14 (j := (6 : Int32)) (i := 6) (by decide) (by decide) (g := (mkF m 47 #[.val (.int p0_0), .val (.int p0_1), .val (.int p0_0), .val (.int (v0_7 p0_0)), .unset, .unset, .unset, .unset, .unset, .unset, .unset] [(.int (95 : Int32)), (.int (6 : Int32)), (.ref b2), (.ref b2)])) rfl rfl (hb hby at_47)
  have N16 := Fr.snoc X16 N14 g_b2
  have Z16 : n0 ≤ h16.size := Nat.le_trans Z14 (Keep.of_wr W16).1
  have pre16 : ∀ t, Steps p.tables e below (T16.setTop (mkF m 48 #[.val (.int p0_0), .val (.int p0_1), .val (.int p0_0), .val (.int (v0_7 p0_0)), .unset, .unset, .unset, .unset, .unset, .unset, .unset] [(.ref b2)])) t → Steps p.tables e below (s₁.setTop (entryFrame m #[(.int p0_0), (.int p0_1)] maxLocals)) t := fun t k => pre15 t (st16 t k)
  have pre17 : ∀ t, Steps p.tables e below (T16.setTop (mkF m 52 #[.val (.int p0_0), .val (.int p0_1), .val (.int p0_0), .val (.int (v0_7 p0_0)), .unset, .unset, .unset, .unset, .unset, .unset, .unset] [(.int (0 : Int32)), (.int (7 : Int32)), (.ref b2), (.ref b2)])) t → Steps p.tables e below (s₁.setTop (entryFrame m #[(.int p0_0), (.int p0_1)] maxLocals)) t := fun t k => pre16 t (by
    refine XS.dup X16.here hx rfl (hb hby at_48) rfl rfl ?_
    show Steps p.tables e below (T16.setTop (mkF m 49 #[.val (.int p0_0), .val (.int p0_1), .val (.int p0_0), .val (.int (v0_7 p0_0)), .unset, .unset, .unset, .unset, .unset, .unset, .unset] [(.ref b2), (.ref b2)])) _
    refine XS.bipush X16.here hx rfl (hb hby at_49) ?_
    show Steps p.tables e below (T16.setTop (mkF m 51 #[.val (.int p0_0), .val (.int p0_1), .val (.int p0_0), .val (.int (v0_7 p0_0)), .unset, .unset, .unset, .unset, .unset, .unset, .unset] [(.int (7 : Int32)), (.ref b2), (.ref b2)])) _
    refine XS.iconst X16.here hx rfl (hb hby at_51) ?_
    show Steps p.tables e below (T16.setTop (mkF m 52 #[.val (.int p0_0), .val (.int p0_1), .val (.int p0_0), .val (.int (v0_7 p0_0)), .unset, .unset, .unset, .unset, .unset, .unset, .unset] [(.int (0 : Int32)), (.int (7 : Int32)), (.ref b2), (.ref b2)])) _
    exact k)
  obtain ⟨T18, h18, X18, e18, W18, B18, st18⟩ := own_stI X16 hx hZ e16 B16 (j := (7 : Int32)) (i := 7) (by decide) (by decide) (g := (mkF m 52 #[.val (.int p0_0), .val (.int p0_1), .val (.int p0_0), .val (.int (v0_7 p0_0)), .unset, .unset, .unset, .unset, .unset, .unset, .unset] [(.int (0 : Int32)), (.int (7 : Int32)), (.ref b2), (.ref b2)])) rfl rfl (hb hby at_52)
  have N18 := Fr.snoc X18 N16 g_b2
  have Z18 : n0 ≤ h18.size := Nat.le_trans Z16 (Keep.of_wr W18).1
  have C18 : ArI Z h18 b2 .int 8 g0_52 := B18
  have pre18 : ∀ t, Steps p.tables e below (T18.setTop (mkF m 53 #[.val (.int p0_0), .val (.int p0_1), .val (.int p0_0), .val (.int (v0_7 p0_0)), .unset, .unset, .unset, .unset, .unset, .unset, .unset] [(.ref b2)])) t → Steps p.tables e below (s₁.setTop (entryFrame m #[(.int p0_0), (.int p0_1)] maxLocals)) t := fun t k => pre17 t (st18 t k)
  have pre19 : ∀ t, Steps p.tables e below (T18.setTop (mkF m 81 #[.val (.int p0_0), .val (.int p0_1), .val (.int p0_0), .val (.int (v0_7 p0_0)), .val (.ref b2), .val (.int (v0_59 p0_1)), .val (.int (v0_68 p0_1)), .val (.int (v0_78 p0_1)), .unset, .unset, .unset] [(.int p0_0)])) t → Steps p.tables e below (s₁.setTop (entryFrame m #[(.int p0_0), (.int p0_1)] maxLocals)) t := fun t k => pre18 t (by
    refine XS.astore X18.here hx rfl (hb hby at_53) rfl rfl (l' := #[.val (.int p0_0), .val (.int p0_1), .val (.int p0_0), .val (.int (v0_7 p0_0)), .val (.ref b2), .unset, .unset, .unset, .unset, .unset, .unset]) rfl ?_
    show Steps p.tables e below (T18.setTop (mkF m 55 #[.val (.int p0_0), .val (.int p0_1), .val (.int p0_0), .val (.int (v0_7 p0_0)), .val (.ref b2), .unset, .unset, .unset, .unset, .unset, .unset] [])) _
    refine XS.iloadN X18.here hx rfl (hb hby at_55) rfl ?_
    show Steps p.tables e below (T18.setTop (mkF m 56 #[.val (.int p0_0), .val (.int p0_1), .val (.int p0_0), .val (.int (v0_7 p0_0)), .val (.ref b2), .unset, .unset, .unset, .unset, .unset, .unset] [(.int p0_1)])) _
    refine XS.bipush X18.here hx rfl (hb hby at_56) ?_
    show Steps p.tables e below (T18.setTop (mkF m 58 #[.val (.int p0_0), .val (.int p0_1), .val (.int p0_0), .val (.int (v0_7 p0_0)), .val (.ref b2), .unset, .unset, .unset, .unset, .unset, .unset] [(.int (7 : Int32)), (.int p0_1)])) _
    refine XS.iand X18.here hx rfl (hb hby at_58) rfl ?_
    show Steps p.tables e below (T18.setTop (mkF m 59 #[.val (.int p0_0), .val (.int p0_1), .val (.int p0_0), .val (.int (v0_7 p0_0)), .val (.ref b2), .unset, .unset, .unset, .unset, .unset, .unset] [(.int (p0_1 &&& (7 : Int32)))])) _
    show Steps p.tables e below (T18.setTop (mkF m 59 #[.val (.int p0_0), .val (.int p0_1), .val (.int p0_0), .val (.int (v0_7 p0_0)), .val (.ref b2), .unset, .unset, .unset, .unset, .unset, .unset] [(.int (v0_59 p0_1))])) _
    refine XS.istore X18.here hx rfl (hb hby at_59) rfl (l' := #[.val (.int p0_0), .val (.int p0_1), .val (.int p0_0), .val (.int (v0_7 p0_0)), .val (.ref b2), .val (.int (v0_59 p0_1)), .unset, .unset, .unset, .unset, .unset]) rfl ?_
    show Steps p.tables e below (T18.setTop (mkF m 61 #[.val (.int p0_0), .val (.int p0_1), .val (.int p0_0), .val (.int (v0_7 p0_0)), .val (.ref b2), .val (.int (v0_59 p0_1)), .unset, .unset, .unset, .unset, .unset] [])) _
    refine XS.iloadN X18.here hx rfl (hb hby at_61) rfl ?_
    show Steps p.tables e below (T18.setTop (mkF m 62 #[.val (.int p0_0), .val (.int p0_1), .val (.int p0_0), .val (.int (v0_7 p0_0)), .val (.ref b2), .val (.int (v0_59 p0_1)), .unset, .unset, .unset, .unset, .unset] [(.int p0_1)])) _
    refine XS.iconst X18.here hx rfl (hb hby at_62) ?_
    show Steps p.tables e below (T18.setTop (mkF m 63 #[.val (.int p0_0), .val (.int p0_1), .val (.int p0_0), .val (.int (v0_7 p0_0)), .val (.ref b2), .val (.int (v0_59 p0_1)), .unset, .unset, .unset, .unset, .unset] [(.int (3 : Int32)), (.int p0_1)])) _
    refine XS.iushr X18.here hx rfl (hb hby at_63) rfl ?_
    show Steps p.tables e below (T18.setTop (mkF m 64 #[.val (.int p0_0), .val (.int p0_1), .val (.int p0_0), .val (.int (v0_7 p0_0)), .val (.ref b2), .val (.int (v0_59 p0_1)), .unset, .unset, .unset, .unset, .unset] [(.int (own_ushr p0_1 (3 : Int32)))])) _
    refine XS.iconst X18.here hx rfl (hb hby at_64) ?_
    show Steps p.tables e below (T18.setTop (mkF m 65 #[.val (.int p0_0), .val (.int p0_1), .val (.int p0_0), .val (.int (v0_7 p0_0)), .val (.ref b2), .val (.int (v0_59 p0_1)), .unset, .unset, .unset, .unset, .unset] [(.int (3 : Int32)), (.int (own_ushr p0_1 (3 : Int32)))])) _
    refine iremM (g := (mkF m 65 #[.val (.int p0_0), .val (.int p0_1), .val (.int p0_0), .val (.int (v0_7 p0_0)), .val (.ref b2), .val (.int (v0_59 p0_1)), .unset, .unset, .unset, .unset, .unset] [(.int (3 : Int32)), (.int (own_ushr p0_1 (3 : Int32)))])) X18 hx rfl (hb hby at_65) rfl (by decide) ?_
    show Steps p.tables e below (T18.setTop (mkF m 66 #[.val (.int p0_0), .val (.int p0_1), .val (.int p0_0), .val (.int (v0_7 p0_0)), .val (.ref b2), .val (.int (v0_59 p0_1)), .unset, .unset, .unset, .unset, .unset] [(.int ((own_ushr p0_1 (3 : Int32)) % (3 : Int32)))])) _
    refine XS.iconst X18.here hx rfl (hb hby at_66) ?_
    show Steps p.tables e below (T18.setTop (mkF m 67 #[.val (.int p0_0), .val (.int p0_1), .val (.int p0_0), .val (.int (v0_7 p0_0)), .val (.ref b2), .val (.int (v0_59 p0_1)), .unset, .unset, .unset, .unset, .unset] [(.int (1 : Int32)), (.int ((own_ushr p0_1 (3 : Int32)) % (3 : Int32)))])) _
    refine XS.isub X18.here hx rfl (hb hby at_67) rfl ?_
    show Steps p.tables e below (T18.setTop (mkF m 68 #[.val (.int p0_0), .val (.int p0_1), .val (.int p0_0), .val (.int (v0_7 p0_0)), .val (.ref b2), .val (.int (v0_59 p0_1)), .unset, .unset, .unset, .unset, .unset] [(.int (((own_ushr p0_1 (3 : Int32)) % (3 : Int32)) - (1 : Int32)))])) _
    show Steps p.tables e below (T18.setTop (mkF m 68 #[.val (.int p0_0), .val (.int p0_1), .val (.int p0_0), .val (.int (v0_7 p0_0)), .val (.ref b2), .val (.int (v0_59 p0_1)), .unset, .unset, .unset, .unset, .unset] [(.int (v0_68 p0_1))])) _
    refine XS.istore X18.here hx rfl (hb hby at_68) rfl (l' := #[.val (.int p0_0), .val (.int p0_1), .val (.int p0_0), .val (.int (v0_7 p0_0)), .val (.ref b2), .val (.int (v0_59 p0_1)), .val (.int (v0_68 p0_1)), .unset, .unset, .unset, .unset]) rfl ?_
    show Steps p.tables e below (T18.setTop (mkF m 70 #[.val (.int p0_0), .val (.int p0_1), .val (.int p0_0), .val (.int (v0_7 p0_0)), .val (.ref b2), .val (.int (v0_59 p0_1)), .val (.int (v0_68 p0_1)), .unset, .unset, .unset, .unset] [])) _
    refine XS.aload X18.here hx rfl (hb hby at_70) rfl rfl ?_
    show Steps p.tables e below (T18.setTop (mkF m 72 #[.val (.int p0_0), .val (.int p0_1), .val (.int p0_0), .val (.int (v0_7 p0_0)), .val (.ref b2), .val (.int (v0_59 p0_1)), .val (.int (v0_68 p0_1)), .unset, .unset, .unset, .unset] [(.ref b2)])) _
    refine XS.iload X18.here hx rfl (hb hby at_72) rfl ?_
    show Steps p.tables e below (T18.setTop (mkF m 74 #[.val (.int p0_0), .val (.int p0_1), .val (.int p0_0), .val (.int (v0_7 p0_0)), .val (.ref b2), .val (.int (v0_59 p0_1)), .val (.int (v0_68 p0_1)), .unset, .unset, .unset, .unset] [(.int (v0_59 p0_1)), (.ref b2)])) _
    refine own_ldI X18 hx hZ e18 C18 (j := (v0_59 p0_1)) (i := (own_i p0_1)) (own_ix p0_1) (by exact own_ilt p0_1) (g := (mkF m 74 #[.val (.int p0_0), .val (.int p0_1), .val (.int p0_0), .val (.int (v0_7 p0_0)), .val (.ref b2), .val (.int (v0_59 p0_1)), .val (.int (v0_68 p0_1)), .unset, .unset, .unset, .unset] [(.int (v0_59 p0_1)), (.ref b2)])) rfl rfl (hb hby at_74) _ ?_
    show Steps p.tables e below (T18.setTop (mkF m 75 #[.val (.int p0_0), .val (.int p0_1), .val (.int p0_0), .val (.int (v0_7 p0_0)), .val (.ref b2), .val (.int (v0_59 p0_1)), .val (.int (v0_68 p0_1)), .unset, .unset, .unset, .unset] [(.int (g0_52 (own_i p0_1)))])) _
    refine XS.iload X18.here hx rfl (hb hby at_75) rfl ?_
    show Steps p.tables e below (T18.setTop (mkF m 77 #[.val (.int p0_0), .val (.int p0_1), .val (.int p0_0), .val (.int (v0_7 p0_0)), .val (.ref b2), .val (.int (v0_59 p0_1)), .val (.int (v0_68 p0_1)), .unset, .unset, .unset, .unset] [(.int (v0_68 p0_1)), (.int (g0_52 (own_i p0_1)))])) _
    refine XS.iadd X18.here hx rfl (hb hby at_77) rfl ?_
    show Steps p.tables e below (T18.setTop (mkF m 78 #[.val (.int p0_0), .val (.int p0_1), .val (.int p0_0), .val (.int (v0_7 p0_0)), .val (.ref b2), .val (.int (v0_59 p0_1)), .val (.int (v0_68 p0_1)), .unset, .unset, .unset, .unset] [(.int ((g0_52 (own_i p0_1)) + (v0_68 p0_1)))])) _
    show Steps p.tables e below (T18.setTop (mkF m 78 #[.val (.int p0_0), .val (.int p0_1), .val (.int p0_0), .val (.int (v0_7 p0_0)), .val (.ref b2), .val (.int (v0_59 p0_1)), .val (.int (v0_68 p0_1)), .unset, .unset, .unset, .unset] [(.int (v0_78 p0_1))])) _
    refine XS.istore X18.here hx rfl (hb hby at_78) rfl (l' := #[.val (.int p0_0), .val (.int p0_1), .val (.int p0_0), .val (.int (v0_7 p0_0)), .val (.ref b2), .val (.int (v0_59 p0_1)), .val (.int (v0_68 p0_1)), .val (.int (v0_78 p0_1)), .unset, .unset, .unset]) rfl ?_
    show Steps p.tables e below (T18.setTop (mkF m 80 #[.val (.int p0_0), .val (.int p0_1), .val (.int p0_0), .val (.int (v0_7 p0_0)), .val (.ref b2), .val (.int (v0_59 p0_1)), .val (.int (v0_68 p0_1)), .val (.int (v0_78 p0_1)), .unset, .unset, .unset] [])) _
    refine XS.iloadN X18.here hx rfl (hb hby at_80) rfl ?_
    show Steps p.tables e below (T18.setTop (mkF m 81 #[.val (.int p0_0), .val (.int p0_1), .val (.int p0_0), .val (.int (v0_7 p0_0)), .val (.ref b2), .val (.int (v0_59 p0_1)), .val (.int (v0_68 p0_1)), .val (.int (v0_78 p0_1)), .unset, .unset, .unset] [(.int p0_0)])) _
    exact k)
  obtain ⟨_, _, ⟨T20, L20, k20, n20⟩, -, X20, ⟨Lc20, hQ20, l20, y20, z20⟩, st20⟩ := Jvm.LawKit.callS X18 hx (y := (⟨"com/example/keys_to_proof/keystoproof/language/Scanner", "isNamePart", "(I)Z"⟩ : MethodName)) hown (mvT hZ (hw _ (List.mem_of_getElem? (i := 1) rfl))) (mvT hZ (hw _ (List.mem_of_getElem? (i := 2) rfl))) (mvT hZ (hw _ (List.mem_of_getElem? (i := 3) rfl))) (mvT hZ (hw _ (List.mem_of_getElem? (i := 4) rfl))) (by decide) (backOf (W := 0) (rm1 l Z a0 hw [] p0_0 h18 n0 Z18 ) hZ (hw _ (List.mem_of_getElem? (i := 4) rfl)) (hw _ (List.mem_of_getElem? (i := 3) rfl)) (by decide) (by decide)) (g := (mkF m 81 #[.val (.int p0_0), .val (.int p0_1), .val (.int p0_0), .val (.int (v0_7 p0_0)), .val (.ref b2), .val (.int (v0_59 p0_1)), .val (.int (v0_68 p0_1)), .val (.int (v0_78 p0_1)), .unset, .unset, .unset] [(.int p0_0)])) rfl (by rw [hml]; rfl) (argsL := [(.int p0_0)]) (rest := []) (lenOf pd_0 rfl) rfl (by show 2 * 0 + _ ≤ _; exact Nat.le_of_eq rfl) (hb hby at_81) (fun _ _ => ⟨rfl, e18, (by decide : 1 + 0 ≤ _), (by decide : 8 + 0 ≤ _)⟩)
  dsimp only [Pt.U, Pt.locs, Pt.cells, Pt.slots] at X20 l20 y20 z20 st20 hQ20
  subst l20 y20 z20
  obtain ⟨rfl, M20, e20⟩ := hQ20
  have N20 := Fr.app N18 M20
  have pre20 : ∀ t, Steps p.tables e below (T20.setTop (mkF m 84 #[.val (.int p0_0), .val (.int p0_1), .val (.int p0_0), .val (.int (v0_7 p0_0)), .val (.ref b2), .val (.int (v0_59 p0_1)), .val (.int (v0_68 p0_1)), .val (.int (v0_78 p0_1)), .unset, .unset, .unset] [(.int (r1 p0_0))])) t → Steps p.tables e below (s₁.setTop (entryFrame m #[(.int p0_0), (.int p0_1)] maxLocals)) t := fun t k => pre19 t (st20 t k)
  have pre21 : ∀ t, Steps p.tables e below (T20.setTop (mkF m 85 #[.val (.int p0_0), .val (.int p0_1), .val (.int p0_0), .val (.int (v0_7 p0_0)), .val (.ref b2), .val (.int (v0_59 p0_1)), .val (.int (v0_68 p0_1)), .val (.int (v0_78 p0_1)), .unset, .unset, .unset] [(.int p0_0), (.int (r1 p0_0))])) t → Steps p.tables e below (s₁.setTop (entryFrame m #[(.int p0_0), (.int p0_1)] maxLocals)) t := fun t k => pre20 t (by
    refine XS.iloadN X20.here hx rfl (hb hby at_84) rfl ?_
    show Steps p.tables e below (T20.setTop (mkF m 85 #[.val (.int p0_0), .val (.int p0_1), .val (.int p0_0), .val (.int (v0_7 p0_0)), .val (.ref b2), .val (.int (v0_59 p0_1)), .val (.int (v0_68 p0_1)), .val (.int (v0_78 p0_1)), .unset, .unset, .unset] [(.int p0_0), (.int (r1 p0_0))])) _
    exact k)
  obtain ⟨_, _, ⟨T22, L22, k22, n22⟩, -, X22, ⟨Lc22, hQ22, l22, y22, z22⟩, st22⟩ := Jvm.LawKit.callS X20 hx (y := (⟨"com/example/keys_to_proof/keystoproof/language/ScannerIsNamePartPinLaw", "ref", "(I)Z"⟩ : MethodName)) hown (mvT hZ (hw _ (List.mem_of_getElem? (i := 11) rfl))) (mvT hZ (hw _ (List.mem_of_getElem? (i := 12) rfl))) (mvT hZ (hw _ (List.mem_of_getElem? (i := 13) rfl))) (mvT hZ (hw _ (List.mem_of_getElem? (i := 14) rfl))) (by decide) (backOf (W := 1) (rm4 l Z a0 hw [] p0_0 h18 n0 Z18 ) hZ (hw _ (List.mem_of_getElem? (i := 14) rfl)) (hw _ (List.mem_of_getElem? (i := 13) rfl)) (by decide) (by decide)) (g := (mkF m 85 #[.val (.int p0_0), .val (.int p0_1), .val (.int p0_0), .val (.int (v0_7 p0_0)), .val (.ref b2), .val (.int (v0_59 p0_1)), .val (.int (v0_68 p0_1)), .val (.int (v0_78 p0_1)), .unset, .unset, .unset] [(.int p0_0), (.int (r1 p0_0))])) rfl (by rw [hml]; rfl) (argsL := [(.int p0_0)]) (rest := [(.int (r1 p0_0))]) (lenOf pd_0 rfl) rfl (by show 2 * 0 + _ ≤ _; exact Nat.le_of_eq rfl) (hb hby at_85) (fun _ _ => ⟨rfl, e20, (by decide : 1 + 0 ≤ _), (by decide : 8 + 0 ≤ _)⟩)
  dsimp only [Pt.U, Pt.locs, Pt.cells, Pt.slots] at X22 l22 y22 z22 st22 hQ22
  subst l22 y22 z22
  obtain ⟨rfl, M22, e22⟩ := hQ22
  have N22 := Fr.app N20 M22
  have pre22 : ∀ t, Steps p.tables e below (T22.setTop (mkF m 88 #[.val (.int p0_0), .val (.int p0_1), .val (.int p0_0), .val (.int (v0_7 p0_0)), .val (.ref b2), .val (.int (v0_59 p0_1)), .val (.int (v0_68 p0_1)), .val (.int (v0_78 p0_1)), .unset, .unset, .unset] [(.int (r4 p0_0)), (.int (r1 p0_0))])) t → Steps p.tables e below (s₁.setTop (entryFrame m #[(.int p0_0), (.int p0_1)] maxLocals)) t := fun t k => pre21 t (st22 t k)
  have pre24 : ∀ t, Steps p.tables e below (T22.setTop (mkF m 99 #[.val (.int p0_0), .val (.int p0_1), .val (.int p0_0), .val (.int (v0_7 p0_0)), .val (.ref b2), .val (.int (v0_59 p0_1)), .val (.int (v0_68 p0_1)), .val (.int (v0_78 p0_1)), .val (.int (1 : Int32)), .unset, .unset] [(.int (v0_7 p0_0))])) t → Steps p.tables e below (s₁.setTop (entryFrame m #[(.int p0_0), (.int p0_1)] maxLocals)) t := fun t k => pre22 t (by
    refine XS.icmpNo X22.here hx rfl (hb hby at_88) rfl (teq (show (r1 p0_0) = (r4 p0_0) from (own_main _))).2 ?_
    show Steps p.tables e below (T22.setTop (mkF m 91 #[.val (.int p0_0), .val (.int p0_1), .val (.int p0_0), .val (.int (v0_7 p0_0)), .val (.ref b2), .val (.int (v0_59 p0_1)), .val (.int (v0_68 p0_1)), .val (.int (v0_78 p0_1)), .unset, .unset, .unset] [])) _
    refine XS.iconst X22.here hx rfl (hb hby at_91) ?_
    show Steps p.tables e below (T22.setTop (mkF m 92 #[.val (.int p0_0), .val (.int p0_1), .val (.int p0_0), .val (.int (v0_7 p0_0)), .val (.ref b2), .val (.int (v0_59 p0_1)), .val (.int (v0_68 p0_1)), .val (.int (v0_78 p0_1)), .unset, .unset, .unset] [(.int (1 : Int32))])) _
    refine XS.goto X22.here hx rfl (pc0 := 92) (pc' := 96) rfl (hb hby at_92) (by decide) (by decide) ?_
    show Steps p.tables e below (T22.setTop (mkF m 96 #[.val (.int p0_0), .val (.int p0_1), .val (.int p0_0), .val (.int (v0_7 p0_0)), .val (.ref b2), .val (.int (v0_59 p0_1)), .val (.int (v0_68 p0_1)), .val (.int (v0_78 p0_1)), .unset, .unset, .unset] [(.int (1 : Int32))])) _
    refine XS.istore X22.here hx rfl (hb hby at_96) rfl (l' := #[.val (.int p0_0), .val (.int p0_1), .val (.int p0_0), .val (.int (v0_7 p0_0)), .val (.ref b2), .val (.int (v0_59 p0_1)), .val (.int (v0_68 p0_1)), .val (.int (v0_78 p0_1)), .val (.int (1 : Int32)), .unset, .unset]) rfl ?_
    show Steps p.tables e below (T22.setTop (mkF m 98 #[.val (.int p0_0), .val (.int p0_1), .val (.int p0_0), .val (.int (v0_7 p0_0)), .val (.ref b2), .val (.int (v0_59 p0_1)), .val (.int (v0_68 p0_1)), .val (.int (v0_78 p0_1)), .val (.int (1 : Int32)), .unset, .unset] [])) _
    refine XS.iloadN X22.here hx rfl (hb hby at_98) rfl ?_
    show Steps p.tables e below (T22.setTop (mkF m 99 #[.val (.int p0_0), .val (.int p0_1), .val (.int p0_0), .val (.int (v0_7 p0_0)), .val (.ref b2), .val (.int (v0_59 p0_1)), .val (.int (v0_68 p0_1)), .val (.int (v0_78 p0_1)), .val (.int (1 : Int32)), .unset, .unset] [(.int (v0_7 p0_0))])) _
    exact k)
  obtain ⟨_, _, ⟨T25, L25, k25, n25⟩, -, X25, ⟨Lc25, hQ25, l25, y25, z25⟩, st25⟩ := Jvm.LawKit.callS X22 hx (y := (⟨"com/example/keys_to_proof/keystoproof/language/Scanner", "isNamePart", "(I)Z"⟩ : MethodName)) hown (mvT hZ (hw _ (List.mem_of_getElem? (i := 1) rfl))) (mvT hZ (hw _ (List.mem_of_getElem? (i := 2) rfl))) (mvT hZ (hw _ (List.mem_of_getElem? (i := 3) rfl))) (mvT hZ (hw _ (List.mem_of_getElem? (i := 4) rfl))) (by decide) (backOf (W := 0) (rm1 l Z a0 hw [] (v0_7 p0_0) h18 n0 Z18 ) hZ (hw _ (List.mem_of_getElem? (i := 4) rfl)) (hw _ (List.mem_of_getElem? (i := 3) rfl)) (by decide) (by decide)) (g := (mkF m 99 #[.val (.int p0_0), .val (.int p0_1), .val (.int p0_0), .val (.int (v0_7 p0_0)), .val (.ref b2), .val (.int (v0_59 p0_1)), .val (.int (v0_68 p0_1)), .val (.int (v0_78 p0_1)), .val (.int (1 : Int32)), .unset, .unset] [(.int (v0_7 p0_0))])) rfl (by rw [hml]; rfl) (argsL := [(.int (v0_7 p0_0))]) (rest := []) (lenOf pd_0 rfl) rfl (by show 2 * 0 + _ ≤ _; exact Nat.le_of_eq rfl) (hb hby at_99) (fun _ _ => ⟨rfl, e22, (by decide : 1 + 0 ≤ _), (by decide : 8 + 0 ≤ _)⟩)
  dsimp only [Pt.U, Pt.locs, Pt.cells, Pt.slots] at X25 l25 y25 z25 st25 hQ25
  subst l25 y25 z25
  obtain ⟨rfl, M25, e25⟩ := hQ25
  have N25 := Fr.app N22 M25
  have pre25 : ∀ t, Steps p.tables e below (T25.setTop (mkF m 102 #[.val (.int p0_0), .val (.int p0_1), .val (.int p0_0), .val (.int (v0_7 p0_0)), .val (.ref b2), .val (.int (v0_59 p0_1)), .val (.int (v0_68 p0_1)), .val (.int (v0_78 p0_1)), .val (.int (1 : Int32)), .unset, .unset] [(.int (r1 (v0_7 p0_0)))])) t → Steps p.tables e below (s₁.setTop (entryFrame m #[(.int p0_0), (.int p0_1)] maxLocals)) t := fun t k => pre24 t (st25 t k)
  have pre26 : ∀ t, Steps p.tables e below (T25.setTop (mkF m 103 #[.val (.int p0_0), .val (.int p0_1), .val (.int p0_0), .val (.int (v0_7 p0_0)), .val (.ref b2), .val (.int (v0_59 p0_1)), .val (.int (v0_68 p0_1)), .val (.int (v0_78 p0_1)), .val (.int (1 : Int32)), .unset, .unset] [(.int (v0_7 p0_0)), (.int (r1 (v0_7 p0_0)))])) t → Steps p.tables e below (s₁.setTop (entryFrame m #[(.int p0_0), (.int p0_1)] maxLocals)) t := fun t k => pre25 t (by
    refine XS.iloadN X25.here hx rfl (hb hby at_102) rfl ?_
    show Steps p.tables e below (T25.setTop (mkF m 103 #[.val (.int p0_0), .val (.int p0_1), .val (.int p0_0), .val (.int (v0_7 p0_0)), .val (.ref b2), .val (.int (v0_59 p0_1)), .val (.int (v0_68 p0_1)), .val (.int (v0_78 p0_1)), .val (.int (1 : Int32)), .unset, .unset] [(.int (v0_7 p0_0)), (.int (r1 (v0_7 p0_0)))])) _
    exact k)
  obtain ⟨_, _, ⟨T27, L27, k27, n27⟩, -, X27, ⟨Lc27, hQ27, l27, y27, z27⟩, st27⟩ := Jvm.LawKit.callS X25 hx (y := (⟨"com/example/keys_to_proof/keystoproof/language/ScannerIsNamePartPinLaw", "ref", "(I)Z"⟩ : MethodName)) hown (mvT hZ (hw _ (List.mem_of_getElem? (i := 11) rfl))) (mvT hZ (hw _ (List.mem_of_getElem? (i := 12) rfl))) (mvT hZ (hw _ (List.mem_of_getElem? (i := 13) rfl))) (mvT hZ (hw _ (List.mem_of_getElem? (i := 14) rfl))) (by decide) (backOf (W := 1) (rm4 l Z a0 hw [] (v0_7 p0_0) h18 n0 Z18 ) hZ (hw _ (List.mem_of_getElem? (i := 14) rfl)) (hw _ (List.mem_of_getElem? (i := 13) rfl)) (by decide) (by decide)) (g := (mkF m 103 #[.val (.int p0_0), .val (.int p0_1), .val (.int p0_0), .val (.int (v0_7 p0_0)), .val (.ref b2), .val (.int (v0_59 p0_1)), .val (.int (v0_68 p0_1)), .val (.int (v0_78 p0_1)), .val (.int (1 : Int32)), .unset, .unset] [(.int (v0_7 p0_0)), (.int (r1 (v0_7 p0_0)))])) rfl (by rw [hml]; rfl) (argsL := [(.int (v0_7 p0_0))]) (rest := [(.int (r1 (v0_7 p0_0)))]) (lenOf pd_0 rfl) rfl (by show 2 * 0 + _ ≤ _; exact Nat.le_of_eq rfl) (hb hby at_103) (fun _ _ => ⟨rfl, e25, (by decide : 1 + 0 ≤ _), (by decide : 8 + 0 ≤ _)⟩)
  dsimp only [Pt.U, Pt.locs, Pt.cells, Pt.slots] at X27 l27 y27 z27 st27 hQ27
  subst l27 y27 z27
  obtain ⟨rfl, M27, e27⟩ := hQ27
  have N27 := Fr.app N25 M27
  have pre27 : ∀ t, Steps p.tables e below (T27.setTop (mkF m 106 #[.val (.int p0_0), .val (.int p0_1), .val (.int p0_0), .val (.int (v0_7 p0_0)), .val (.ref b2), .val (.int (v0_59 p0_1)), .val (.int (v0_68 p0_1)), .val (.int (v0_78 p0_1)), .val (.int (1 : Int32)), .unset, .unset] [(.int (r4 (v0_7 p0_0))), (.int (r1 (v0_7 p0_0)))])) t → Steps p.tables e below (s₁.setTop (entryFrame m #[(.int p0_0), (.int p0_1)] maxLocals)) t := fun t k => pre26 t (st27 t k)
  have pre29 : ∀ t, Steps p.tables e below (T27.setTop (mkF m 118 #[.val (.int p0_0), .val (.int p0_1), .val (.int p0_0), .val (.int (v0_7 p0_0)), .val (.ref b2), .val (.int (v0_59 p0_1)), .val (.int (v0_68 p0_1)), .val (.int (v0_78 p0_1)), .val (.int (1 : Int32)), .val (.int (1 : Int32)), .unset] [(.int (v0_78 p0_1))])) t → Steps p.tables e below (s₁.setTop (entryFrame m #[(.int p0_0), (.int p0_1)] maxLocals)) t := fun t k => pre27 t (by
    refine XS.icmpNo X27.here hx rfl (hb hby at_106) rfl (teq (show (r1 (v0_7 p0_0)) = (r4 (v0_7 p0_0)) from (own_main _))).2 ?_
    show Steps p.tables e below (T27.setTop (mkF m 109 #[.val (.int p0_0), .val (.int p0_1), .val (.int p0_0), .val (.int (v0_7 p0_0)), .val (.ref b2), .val (.int (v0_59 p0_1)), .val (.int (v0_68 p0_1)), .val (.int (v0_78 p0_1)), .val (.int (1 : Int32)), .unset, .unset] [])) _
    refine XS.iconst X27.here hx rfl (hb hby at_109) ?_
    show Steps p.tables e below (T27.setTop (mkF m 110 #[.val (.int p0_0), .val (.int p0_1), .val (.int p0_0), .val (.int (v0_7 p0_0)), .val (.ref b2), .val (.int (v0_59 p0_1)), .val (.int (v0_68 p0_1)), .val (.int (v0_78 p0_1)), .val (.int (1 : Int32)), .unset, .unset] [(.int (1 : Int32))])) _
    refine XS.goto X27.here hx rfl (pc0 := 110) (pc' := 114) rfl (hb hby at_110) (by decide) (by decide) ?_
    show Steps p.tables e below (T27.setTop (mkF m 114 #[.val (.int p0_0), .val (.int p0_1), .val (.int p0_0), .val (.int (v0_7 p0_0)), .val (.ref b2), .val (.int (v0_59 p0_1)), .val (.int (v0_68 p0_1)), .val (.int (v0_78 p0_1)), .val (.int (1 : Int32)), .unset, .unset] [(.int (1 : Int32))])) _
    refine XS.istore X27.here hx rfl (hb hby at_114) rfl (l' := #[.val (.int p0_0), .val (.int p0_1), .val (.int p0_0), .val (.int (v0_7 p0_0)), .val (.ref b2), .val (.int (v0_59 p0_1)), .val (.int (v0_68 p0_1)), .val (.int (v0_78 p0_1)), .val (.int (1 : Int32)), .val (.int (1 : Int32)), .unset]) rfl ?_
    show Steps p.tables e below (T27.setTop (mkF m 116 #[.val (.int p0_0), .val (.int p0_1), .val (.int p0_0), .val (.int (v0_7 p0_0)), .val (.ref b2), .val (.int (v0_59 p0_1)), .val (.int (v0_68 p0_1)), .val (.int (v0_78 p0_1)), .val (.int (1 : Int32)), .val (.int (1 : Int32)), .unset] [])) _
    refine XS.iload X27.here hx rfl (hb hby at_116) rfl ?_
    show Steps p.tables e below (T27.setTop (mkF m 118 #[.val (.int p0_0), .val (.int p0_1), .val (.int p0_0), .val (.int (v0_7 p0_0)), .val (.ref b2), .val (.int (v0_59 p0_1)), .val (.int (v0_68 p0_1)), .val (.int (v0_78 p0_1)), .val (.int (1 : Int32)), .val (.int (1 : Int32)), .unset] [(.int (v0_78 p0_1))])) _
    exact k)
  obtain ⟨_, _, ⟨T30, L30, k30, n30⟩, -, X30, ⟨Lc30, hQ30, l30, y30, z30⟩, st30⟩ := Jvm.LawKit.callS X27 hx (y := (⟨"com/example/keys_to_proof/keystoproof/language/Scanner", "isNamePart", "(I)Z"⟩ : MethodName)) hown (mvT hZ (hw _ (List.mem_of_getElem? (i := 1) rfl))) (mvT hZ (hw _ (List.mem_of_getElem? (i := 2) rfl))) (mvT hZ (hw _ (List.mem_of_getElem? (i := 3) rfl))) (mvT hZ (hw _ (List.mem_of_getElem? (i := 4) rfl))) (by decide) (backOf (W := 0) (rm1 l Z a0 hw [] (v0_78 p0_1) h18 n0 Z18 ) hZ (hw _ (List.mem_of_getElem? (i := 4) rfl)) (hw _ (List.mem_of_getElem? (i := 3) rfl)) (by decide) (by decide)) (g := (mkF m 118 #[.val (.int p0_0), .val (.int p0_1), .val (.int p0_0), .val (.int (v0_7 p0_0)), .val (.ref b2), .val (.int (v0_59 p0_1)), .val (.int (v0_68 p0_1)), .val (.int (v0_78 p0_1)), .val (.int (1 : Int32)), .val (.int (1 : Int32)), .unset] [(.int (v0_78 p0_1))])) rfl (by rw [hml]; rfl) (argsL := [(.int (v0_78 p0_1))]) (rest := []) (lenOf pd_0 rfl) rfl (by show 2 * 0 + _ ≤ _; exact Nat.le_of_eq rfl) (hb hby at_118) (fun _ _ => ⟨rfl, e27, (by decide : 1 + 0 ≤ _), (by decide : 8 + 0 ≤ _)⟩)
  dsimp only [Pt.U, Pt.locs, Pt.cells, Pt.slots] at X30 l30 y30 z30 st30 hQ30
  subst l30 y30 z30
  obtain ⟨rfl, M30, e30⟩ := hQ30
  have N30 := Fr.app N27 M30
  have pre30 : ∀ t, Steps p.tables e below (T30.setTop (mkF m 121 #[.val (.int p0_0), .val (.int p0_1), .val (.int p0_0), .val (.int (v0_7 p0_0)), .val (.ref b2), .val (.int (v0_59 p0_1)), .val (.int (v0_68 p0_1)), .val (.int (v0_78 p0_1)), .val (.int (1 : Int32)), .val (.int (1 : Int32)), .unset] [(.int (r1 (v0_78 p0_1)))])) t → Steps p.tables e below (s₁.setTop (entryFrame m #[(.int p0_0), (.int p0_1)] maxLocals)) t := fun t k => pre29 t (st30 t k)
  have pre31 : ∀ t, Steps p.tables e below (T30.setTop (mkF m 123 #[.val (.int p0_0), .val (.int p0_1), .val (.int p0_0), .val (.int (v0_7 p0_0)), .val (.ref b2), .val (.int (v0_59 p0_1)), .val (.int (v0_68 p0_1)), .val (.int (v0_78 p0_1)), .val (.int (1 : Int32)), .val (.int (1 : Int32)), .unset] [(.int (v0_78 p0_1)), (.int (r1 (v0_78 p0_1)))])) t → Steps p.tables e below (s₁.setTop (entryFrame m #[(.int p0_0), (.int p0_1)] maxLocals)) t := fun t k => pre30 t (by
    refine XS.iload X30.here hx rfl (hb hby at_121) rfl ?_
    show Steps p.tables e below (T30.setTop (mkF m 123 #[.val (.int p0_0), .val (.int p0_1), .val (.int p0_0), .val (.int (v0_7 p0_0)), .val (.ref b2), .val (.int (v0_59 p0_1)), .val (.int (v0_68 p0_1)), .val (.int (v0_78 p0_1)), .val (.int (1 : Int32)), .val (.int (1 : Int32)), .unset] [(.int (v0_78 p0_1)), (.int (r1 (v0_78 p0_1)))])) _
    exact k)
  obtain ⟨_, _, ⟨T32, L32, k32, n32⟩, -, X32, ⟨Lc32, hQ32, l32, y32, z32⟩, st32⟩ := Jvm.LawKit.callS X30 hx (y := (⟨"com/example/keys_to_proof/keystoproof/language/ScannerIsNamePartPinLaw", "ref", "(I)Z"⟩ : MethodName)) hown (mvT hZ (hw _ (List.mem_of_getElem? (i := 11) rfl))) (mvT hZ (hw _ (List.mem_of_getElem? (i := 12) rfl))) (mvT hZ (hw _ (List.mem_of_getElem? (i := 13) rfl))) (mvT hZ (hw _ (List.mem_of_getElem? (i := 14) rfl))) (by decide) (backOf (W := 1) (rm4 l Z a0 hw [] (v0_78 p0_1) h18 n0 Z18 ) hZ (hw _ (List.mem_of_getElem? (i := 14) rfl)) (hw _ (List.mem_of_getElem? (i := 13) rfl)) (by decide) (by decide)) (g := (mkF m 123 #[.val (.int p0_0), .val (.int p0_1), .val (.int p0_0), .val (.int (v0_7 p0_0)), .val (.ref b2), .val (.int (v0_59 p0_1)), .val (.int (v0_68 p0_1)), .val (.int (v0_78 p0_1)), .val (.int (1 : Int32)), .val (.int (1 : Int32)), .unset] [(.int (v0_78 p0_1)), (.int (r1 (v0_78 p0_1)))])) rfl (by rw [hml]; rfl) (argsL := [(.int (v0_78 p0_1))]) (rest := [(.int (r1 (v0_78 p0_1)))]) (lenOf pd_0 rfl) rfl (by show 2 * 0 + _ ≤ _; exact Nat.le_of_eq rfl) (hb hby at_123) (fun _ _ => ⟨rfl, e30, (by decide : 1 + 0 ≤ _), (by decide : 8 + 0 ≤ _)⟩)
  dsimp only [Pt.U, Pt.locs, Pt.cells, Pt.slots] at X32 l32 y32 z32 st32 hQ32
  subst l32 y32 z32
  obtain ⟨rfl, M32, e32⟩ := hQ32
  have N32 := Fr.app N30 M32
  have pre32 : ∀ t, Steps p.tables e below (T32.setTop (mkF m 126 #[.val (.int p0_0), .val (.int p0_1), .val (.int p0_0), .val (.int (v0_7 p0_0)), .val (.ref b2), .val (.int (v0_59 p0_1)), .val (.int (v0_68 p0_1)), .val (.int (v0_78 p0_1)), .val (.int (1 : Int32)), .val (.int (1 : Int32)), .unset] [(.int (r4 (v0_78 p0_1))), (.int (r1 (v0_78 p0_1)))])) t → Steps p.tables e below (s₁.setTop (entryFrame m #[(.int p0_0), (.int p0_1)] maxLocals)) t := fun t k => pre31 t (st32 t k)
  have pre34 : ∀ t, Steps p.tables e below (T32.setTop (mkF m 156 #[.val (.int p0_0), .val (.int p0_1), .val (.int p0_0), .val (.int (v0_7 p0_0)), .val (.ref b2), .val (.int (v0_59 p0_1)), .val (.int (v0_68 p0_1)), .val (.int (v0_78 p0_1)), .val (.int (1 : Int32)), .val (.int (1 : Int32)), .val (.int (1 : Int32))] [(.int (1 : Int32))])) t → Steps p.tables e below (s₁.setTop (entryFrame m #[(.int p0_0), (.int p0_1)] maxLocals)) t := fun t k => pre32 t (by
    refine XS.icmpNo X32.here hx rfl (hb hby at_126) rfl (teq (show (r1 (v0_78 p0_1)) = (r4 (v0_78 p0_1)) from (own_main _))).2 ?_
    show Steps p.tables e below (T32.setTop (mkF m 129 #[.val (.int p0_0), .val (.int p0_1), .val (.int p0_0), .val (.int (v0_7 p0_0)), .val (.ref b2), .val (.int (v0_59 p0_1)), .val (.int (v0_68 p0_1)), .val (.int (v0_78 p0_1)), .val (.int (1 : Int32)), .val (.int (1 : Int32)), .unset] [])) _
    refine XS.iconst X32.here hx rfl (hb hby at_129) ?_
    show Steps p.tables e below (T32.setTop (mkF m 130 #[.val (.int p0_0), .val (.int p0_1), .val (.int p0_0), .val (.int (v0_7 p0_0)), .val (.ref b2), .val (.int (v0_59 p0_1)), .val (.int (v0_68 p0_1)), .val (.int (v0_78 p0_1)), .val (.int (1 : Int32)), .val (.int (1 : Int32)), .unset] [(.int (1 : Int32))])) _
    refine XS.goto X32.here hx rfl (pc0 := 130) (pc' := 134) rfl (hb hby at_130) (by decide) (by decide) ?_
    show Steps p.tables e below (T32.setTop (mkF m 134 #[.val (.int p0_0), .val (.int p0_1), .val (.int p0_0), .val (.int (v0_7 p0_0)), .val (.ref b2), .val (.int (v0_59 p0_1)), .val (.int (v0_68 p0_1)), .val (.int (v0_78 p0_1)), .val (.int (1 : Int32)), .val (.int (1 : Int32)), .unset] [(.int (1 : Int32))])) _
    refine XS.istore X32.here hx rfl (hb hby at_134) rfl (l' := #[.val (.int p0_0), .val (.int p0_1), .val (.int p0_0), .val (.int (v0_7 p0_0)), .val (.ref b2), .val (.int (v0_59 p0_1)), .val (.int (v0_68 p0_1)), .val (.int (v0_78 p0_1)), .val (.int (1 : Int32)), .val (.int (1 : Int32)), .val (.int (1 : Int32))]) rfl ?_
    show Steps p.tables e below (T32.setTop (mkF m 136 #[.val (.int p0_0), .val (.int p0_1), .val (.int p0_0), .val (.int (v0_7 p0_0)), .val (.ref b2), .val (.int (v0_59 p0_1)), .val (.int (v0_68 p0_1)), .val (.int (v0_78 p0_1)), .val (.int (1 : Int32)), .val (.int (1 : Int32)), .val (.int (1 : Int32))] [])) _
    refine XS.iload X32.here hx rfl (hb hby at_136) rfl ?_
    show Steps p.tables e below (T32.setTop (mkF m 138 #[.val (.int p0_0), .val (.int p0_1), .val (.int p0_0), .val (.int (v0_7 p0_0)), .val (.ref b2), .val (.int (v0_59 p0_1)), .val (.int (v0_68 p0_1)), .val (.int (v0_78 p0_1)), .val (.int (1 : Int32)), .val (.int (1 : Int32)), .val (.int (1 : Int32))] [(.int (1 : Int32))])) _
    refine XS.ifNo X32.here hx rfl (hb hby at_138) rfl ((if0 _ _).trans (feq (by decide : ¬ ((1 : Int32) = (0 : Int32)))).1) ?_
    show Steps p.tables e below (T32.setTop (mkF m 141 #[.val (.int p0_0), .val (.int p0_1), .val (.int p0_0), .val (.int (v0_7 p0_0)), .val (.ref b2), .val (.int (v0_59 p0_1)), .val (.int (v0_68 p0_1)), .val (.int (v0_78 p0_1)), .val (.int (1 : Int32)), .val (.int (1 : Int32)), .val (.int (1 : Int32))] [])) _
    refine XS.iload X32.here hx rfl (hb hby at_141) rfl ?_
    show Steps p.tables e below (T32.setTop (mkF m 143 #[.val (.int p0_0), .val (.int p0_1), .val (.int p0_0), .val (.int (v0_7 p0_0)), .val (.ref b2), .val (.int (v0_59 p0_1)), .val (.int (v0_68 p0_1)), .val (.int (v0_78 p0_1)), .val (.int (1 : Int32)), .val (.int (1 : Int32)), .val (.int (1 : Int32))] [(.int (1 : Int32))])) _
    refine XS.ifNo X32.here hx rfl (hb hby at_143) rfl ((if0 _ _).trans (feq (by decide : ¬ ((1 : Int32) = (0 : Int32)))).1) ?_
    show Steps p.tables e below (T32.setTop (mkF m 146 #[.val (.int p0_0), .val (.int p0_1), .val (.int p0_0), .val (.int (v0_7 p0_0)), .val (.ref b2), .val (.int (v0_59 p0_1)), .val (.int (v0_68 p0_1)), .val (.int (v0_78 p0_1)), .val (.int (1 : Int32)), .val (.int (1 : Int32)), .val (.int (1 : Int32))] [])) _
    refine XS.iload X32.here hx rfl (hb hby at_146) rfl ?_
    show Steps p.tables e below (T32.setTop (mkF m 148 #[.val (.int p0_0), .val (.int p0_1), .val (.int p0_0), .val (.int (v0_7 p0_0)), .val (.ref b2), .val (.int (v0_59 p0_1)), .val (.int (v0_68 p0_1)), .val (.int (v0_78 p0_1)), .val (.int (1 : Int32)), .val (.int (1 : Int32)), .val (.int (1 : Int32))] [(.int (1 : Int32))])) _
    refine XS.ifNo X32.here hx rfl (hb hby at_148) rfl ((if0 _ _).trans (feq (by decide : ¬ ((1 : Int32) = (0 : Int32)))).1) ?_
    show Steps p.tables e below (T32.setTop (mkF m 151 #[.val (.int p0_0), .val (.int p0_1), .val (.int p0_0), .val (.int (v0_7 p0_0)), .val (.ref b2), .val (.int (v0_59 p0_1)), .val (.int (v0_68 p0_1)), .val (.int (v0_78 p0_1)), .val (.int (1 : Int32)), .val (.int (1 : Int32)), .val (.int (1 : Int32))] [])) _
    refine XS.iconst X32.here hx rfl (hb hby at_151) ?_
    show Steps p.tables e below (T32.setTop (mkF m 152 #[.val (.int p0_0), .val (.int p0_1), .val (.int p0_0), .val (.int (v0_7 p0_0)), .val (.ref b2), .val (.int (v0_59 p0_1)), .val (.int (v0_68 p0_1)), .val (.int (v0_78 p0_1)), .val (.int (1 : Int32)), .val (.int (1 : Int32)), .val (.int (1 : Int32))] [(.int (1 : Int32))])) _
    refine XS.goto X32.here hx rfl (pc0 := 152) (pc' := 156) rfl (hb hby at_152) (by decide) (by decide) ?_
    show Steps p.tables e below (T32.setTop (mkF m 156 #[.val (.int p0_0), .val (.int p0_1), .val (.int p0_0), .val (.int (v0_7 p0_0)), .val (.ref b2), .val (.int (v0_59 p0_1)), .val (.int (v0_68 p0_1)), .val (.int (v0_78 p0_1)), .val (.int (1 : Int32)), .val (.int (1 : Int32)), .val (.int (1 : Int32))] [(.int (1 : Int32))])) _
    exact k)
  obtain ⟨fs, hr, hrun, hended, hW, hsame⟩ := X32.leave (v := some (.int (1 : Int32))) (fun h => by rw [Bd.returns] at h; cases h)
  refine ⟨_, _, pre34 _ ?_, hrun, hended, _, _, rfl, ?_, ⟨_, rfl⟩, hW, hsame.mono (by decide) (by decide)⟩
  · show Steps p.tables e below (T32.setTop (mkF m 156 #[.val (.int p0_0), .val (.int p0_1), .val (.int p0_0), .val (.int (v0_7 p0_0)), .val (.ref b2), .val (.int (v0_59 p0_1)), .val (.int (v0_68 p0_1)), .val (.int (v0_78 p0_1)), .val (.int (1 : Int32)), .val (.int (1 : Int32)), .val (.int (1 : Int32))] [(.int (1 : Int32))])) _
    exact retN X32 hx (t := .boolean) Bd.returns (by simp) (hb hby at_156) hr
  · show Q0 Z p0_0 p0_1 h0 n0 _ T32.heap _
    rw [e32]
    exact ⟨rfl, N32⟩
set_option maxRecDepth 65536 in
set_option maxHeartbeats 40000000 in
theorem comes_1 {Post : Tables → Env → Array Value → State → Outcome → State → Prop} (hpost : ∀ tb e args s v u, (limb_1_1.after args s (.returned v) u = true ∧ limb_1_2.after args s (.returned v) u = true ∧ True) → FrameEnd s (.returned v) u (Jvm.fieldLocs frame_1_writes args s ++ Jvm.arrayLocs frame_1_arrays args s ++ Jvm.staticLocs frame_1_statics s) 16 128 → Post tb e args s (.returned v) u) :
    ArmFor flags0 classFile x code maxLocals ret World_1 tables_1 room_1 Calls_1 rest_1 Pre_1 Post := by
  intro l hfl _ _ p e ha hc hk s m args below hf hA hF happ hP
  obtain ⟨hcalls, hrest, hpre⟩ := hP
  obtain ⟨-, -, -, hnamed, -, -, -, hat⟩ := (Spec.applies_iff hf).mp happ
  obtain ⟨hg, hn⟩ := and_e (Cond.before_iff.mp (show (Jvm.Cond.and given_1 narrow_1).before args s = true from hpre))
  obtain ⟨gc, g0⟩ := and_e hg
  obtain ⟨ga0, g1⟩ := and_e g0
  obtain ⟨w0, w1, rfl⟩ : ∃ w0 w1 : Value, args = #[w0, w1] := by
    have hs : args.size = 2 := by simpa [Cond.value, given_1] using gc
    obtain ⟨L⟩ := args
    match L, hs with
    | [w0, w1], _ => exact ⟨w0, w1, rfl⟩
  have hw := fun d (hd : d ∈ tables_1) => atoms_spec (ws := Jvm.Cond.code x code maxLocals ret :: tables_1) hat d (List.mem_cons_of_mem _ hd)
  obtain ⟨i0, ei0⟩ := is_v ga0
  obtain rfl : w0 = (.int i0) := Option.some.inj ei0
  obtain ⟨i1, ei1⟩ := is_v g1
  obtain rfl : w1 = (.int i1) := Option.some.inj ei1
  obtain ⟨n, o, h1, h2, h3, _, L, rfl, ⟨rfl, N⟩, hq⟩ := rm0 l s _ hw tables_1 i0 i1  s.heap s.heap.size (Nat.le_refl _)  p e ha hc hk s m _ below hf ((Spec.applies_iff_loose hf).mp happ).1 ⟨rfl, State.Warmed39.refl s, rfl⟩ trivial
  refine ⟨n, _, h1, h2, h3, hpost _ _ _ _ _ _ ⟨Cond.after_iff.mpr rfl, Cond.after_iff.mpr (eq_i res_at (Term.int_eval (1)) rfl), trivial⟩ ⟨hq.1, hq.2.1, (hq.2.2.sift fun y hy => Or.inr (N y hy)).mono (by decide) (by decide)⟩⟩
theorem main_1_1 : Claimed_1_1 := comes_1 fun _ _ _ _ _ _ h hF => ⟨h.1, hF⟩
theorem main_1_2 : Claimed_1_2 := comes_1 fun _ _ _ _ _ _ h hF => ⟨h.2.1, hF⟩
end Jvm.Pilot.@@N@@
namespace Jvm.Pilot.@@N@@
open Jvm Jvm.ClassFile Sem Op Lib Jvm.Free Jvm.Stand Jvm.Pilot.@@N@@.Jvm.D
/-! MADE BY PROGRAM (witnessworld.py) out of the Statement's table words and the real class files: 9 classes; the members and pool entries that the words name. The judged class is class 1, her method 2. -/
namespace start1
open Jvm.ClassFile
def u (s : String) : CpInfo := .utf8 (stringToUtf16 s)
/-- a pool by its gaps: so many unusable entries, then the entry; so many at the end -/
def gap : Nat → List CpInfo → List CpInfo
  | 0, r => r
  | n + 1, r => .unusable :: gap n r
def poolList (es : List (Nat × CpInfo)) (last : Nat) : List CpInfo := es.foldr (fun e r => gap e.1 (e.2 :: r)) (gap last [])
def pool (es : List (Nat × CpInfo)) (last : Nat) : Array CpInfo := ⟨poolList es last⟩
def fileOf (pool : Array CpInfo) (this : Nat) (attrs : Array Attribute := #[]) (ms : Array MethodInfo := #[]) (fl : Nat := 33) (sup : Nat := 0) (ifs : Array Nat := #[]) (fds : Array FieldInfo := #[]) : ClassFile where
  minorVersion := 0
  majorVersion := 65
  constantPool := pool
  accessFlags := fl
  thisClass := this
  superClass := sup
  interfaces := ifs
  fields := fds
  methods := ms
  attributes := attrs
def plain (name : String) (sup : Option ClassId) : Class where
  name := name
  kind := .ordinary
  loader := none
  accessFlags := 33
  super := sup
  interfaces := #[]
  cf := none
  fields := #[]
  methods := #[]
  instanceTypes := #[]
  staticTypes := #[]
  resolved := #[]
  callSites := []
  init := .initialized
  statics := none
  mirror := none

def pool0 : Array CpInfo := pool [(5, u "<init>"), (0, u "()V"), (1, .class_ 10), (1, u "java/lang/Object")] 113

def k0m0 : Method := { name := "<init>", desc := "()V", sig := { parameters := [], returnType := none }, accessFlags := 1, code := none }
/-- java/lang/Object -/
def k0 : Class := { plain "java/lang/Object" none with
  accessFlags := 33
  interfaces := #[]
  cf := some (fileOf pool0 8 #[] #[{ accessFlags := 1, nameIndex := 5, descriptorIndex := 6, attributes := #[] }] 33 0 #[] #[])
  fields := #[]
  methods := #[k0m0]
  instanceTypes := #[]
  staticTypes := #[]
  resolved := Array.replicate 124 none
  statics := none }

def pool1 : Array CpInfo := pool [(2, .class_ 4), (1, u "java/lang/Object"), (0, u "<init>"), (0, u "()V"), (0, .long 48), (1, .long 10), (1, .methodref 12 13), (0, .class_ 14), (0, .nameAndType 15 16), (0, u "com/example/keys_to_proof/keystoproof/language/Scanner"), (0, u "isNamePart"), (0, u "(I)Z"), (0, .methodref 18 19), (0, .class_ 20), (0, .nameAndType 21 16), (0, u "com/example/keys_to_proof/keystoproof/language/ScannerIsNamePartPinLaw"), (0, u "ref"), (3, u "law"), (0, u "(II)Z")] 4

def k1m0 : Method := { name := "<init>", desc := "()V", sig := { parameters := [], returnType := none }, accessFlags := 1, code := none }
def k1c1 : Code := { maxStack := 4, maxLocals := 7, code := method_2_code, exceptionTable := #[], attributes := #[] }
def k1m1 : Method := { name := "ref", desc := "(I)Z", sig := { parameters := [.int], returnType := some .boolean }, accessFlags := 10, code := some k1c1 }
def k1c2 : Code := { maxStack := 4, maxLocals := 11, code := code, exceptionTable := #[], attributes := #[] }
def k1m2 : Method := { name := "law", desc := "(II)Z", sig := { parameters := [.int, .int], returnType := some .boolean }, accessFlags := 9, code := some k1c2 }
/-- com/example/keys_to_proof/keystoproof/language/ScannerIsNamePartPinLaw -/
def k1 : Class := { plain "com/example/keys_to_proof/keystoproof/language/ScannerIsNamePartPinLaw" (some 0) with
  accessFlags := 49
  interfaces := #[]
  cf := some (fileOf pool1 18 #[] #[{ accessFlags := 1, nameIndex := 5, descriptorIndex := 6, attributes := #[] }, { accessFlags := 10, nameIndex := 21, descriptorIndex := 16, attributes := #[] }, { accessFlags := 9, nameIndex := 25, descriptorIndex := 26, attributes := #[] }] 49 2 #[] #[])
  fields := #[]
  methods := #[k1m0, k1m1, k1m2]
  instanceTypes := #[]
  staticTypes := #[]
  resolved := Array.replicate 31 none
  statics := none }

def pool2 : Array CpInfo := pool [(2, .class_ 4), (1, u "java/lang/Object"), (3, .class_ 10), (1, u "com/example/keys_to_proof/keystoproof/language/Scanner"), (0, u "line"), (0, u "I"), (2, u "column"), (2, u "text"), (0, u "Ljava/lang/String;"), (2, u "offset"), (39, u "(I)Z"), (17, .methodref 8 81), (0, .nameAndType 82 62), (0, u "isLetter"), (0, .methodref 8 84), (0, .nameAndType 85 62), (0, u "isDigit"), (36, u "isNamePart")] 21

def k2c0 : Code := { maxStack := 2, maxLocals := 1, code := prog_100_method_12_code, exceptionTable := #[], attributes := #[] }
def k2m0 : Method := { name := "isLetter", desc := "(I)Z", sig := { parameters := [.int], returnType := some .boolean }, accessFlags := 9, code := some k2c0 }
def k2c1 : Code := { maxStack := 2, maxLocals := 1, code := prog_100_method_13_code, exceptionTable := #[], attributes := #[] }
def k2m1 : Method := { name := "isDigit", desc := "(I)Z", sig := { parameters := [.int], returnType := some .boolean }, accessFlags := 9, code := some k2c1 }
def k2c2 : Code := { maxStack := 2, maxLocals := 1, code := prog_100_method_14_code, exceptionTable := #[], attributes := #[] }
def k2m2 : Method := { name := "isNamePart", desc := "(I)Z", sig := { parameters := [.int], returnType := some .boolean }, accessFlags := 9, code := some k2c2 }
/-- com/example/keys_to_proof/keystoproof/language/Scanner -/
def k2 : Class := { plain "com/example/keys_to_proof/keystoproof/language/Scanner" (some 0) with
  accessFlags := 49
  interfaces := #[]
  cf := some (fileOf pool2 8 #[] #[{ accessFlags := 9, nameIndex := 82, descriptorIndex := 62, attributes := #[] }, { accessFlags := 9, nameIndex := 85, descriptorIndex := 62, attributes := #[] }, { accessFlags := 9, nameIndex := 122, descriptorIndex := 62, attributes := #[] }] 49 2 #[] #[{ accessFlags := 18, nameIndex := 18, descriptorIndex := 19, attributes := #[] }, { accessFlags := 2, nameIndex := 22, descriptorIndex := 12, attributes := #[] }, { accessFlags := 2, nameIndex := 11, descriptorIndex := 12, attributes := #[] }, { accessFlags := 2, nameIndex := 15, descriptorIndex := 12, attributes := #[] }])
  fields := #[{ name := "text", type := (.object "java/lang/String"), accessFlags := 18, slot := 0, constantValue := 0 }, { name := "offset", type := .int, accessFlags := 2, slot := 1, constantValue := 0 }, { name := "line", type := .int, accessFlags := 2, slot := 2, constantValue := 0 }, { name := "column", type := .int, accessFlags := 2, slot := 3, constantValue := 0 }]
  methods := #[k2m0, k2m1, k2m2]
  instanceTypes := #[(.object "java/lang/String"), .int, .int, .int]
  staticTypes := #[]
  resolved := Array.replicate 144 none
  statics := none }

def pool3 : Array CpInfo := pool [(1, u "java/lang/Cloneable"), (0, .class_ 1), (0, u "java/lang/Object"), (0, .class_ 3)] 3

/-- java/lang/Cloneable -/
def k3 : Class := { plain "java/lang/Cloneable" (some 0) with
  accessFlags := 1537
  interfaces := #[]
  cf := some (fileOf pool3 2 #[] #[] 1537 4 #[] #[])
  fields := #[]
  methods := #[]
  instanceTypes := #[]
  staticTypes := #[]
  resolved := Array.replicate 8 none
  statics := none }

def pool4 : Array CpInfo := pool [(1, u "java/io/Serializable"), (0, .class_ 1), (0, u "java/lang/Object"), (0, .class_ 3)] 3

/-- java/io/Serializable -/
def k4 : Class := { plain "java/io/Serializable" (some 0) with
  accessFlags := 1537
  interfaces := #[]
  cf := some (fileOf pool4 2 #[] #[] 1537 4 #[] #[])
  fields := #[]
  methods := #[]
  instanceTypes := #[]
  staticTypes := #[]
  resolved := Array.replicate 8 none
  statics := none }

/-- the primitive byte -/
def k5 : Class := { plain "byte" none with kind := .primitive 'B', accessFlags := 0x411 }
/-- [B -/
def k6 : Class := { plain "[B" (some 0) with kind := .array 5 .byte, interfaces := #[3, 4], accessFlags := 1041 }

/-- the primitive int -/
def k7 : Class := { plain "int" none with kind := .primitive 'I', accessFlags := 0x411 }
/-- [I -/
def k8 : Class := { plain "[I" (some 0) with kind := .array 7 .int, interfaces := #[3, 4], accessFlags := 1041 }

def heap : Heap := #[]
def classes : Array Class := #[k0, k1, k2, k3, k4, k5, k6, k7, k8]
def interned : List (Array UInt16 × Addr) := []
def slotsUsed : Nat := 0
def theMethod : MethodId := ⟨1, 2⟩
def args0 : Array Value := #[.int 5, .int 300]
def aboutOver (below : List Frame) : State where
  vm := { classes := classes, interned := interned.toArray }
  heap := heap
  slotsUsed := slotsUsed
  threads := #[{ frames := .invoking theMethod args0 :: below }]
def below0 : List Frame := [.native { method := ⟨0, 0⟩, args := #[] }]
def about1 : State := aboutOver below0
def p0 : Program := .bare "" "" ""
def e0 : Env := launch0.env 0 0 0
theorem w_frames : about1.frames = Frame.invoking theMethod args0 :: below0 := rfl
set_option maxRecDepth 65536 in
theorem w_args : argsFit about1.vm theMethod args0 = true := by decide +kernel
set_option maxRecDepth 65536 in
theorem w_heap : heapFits about1 = true := by decide +kernel
set_option maxRecDepth 65536 in
theorem w_runnable : about1.curStatus? = some .runnable := by decide +kernel
set_option maxRecDepth 65536 in
theorem w_alone : about1.alone = true := by decide +kernel
set_option maxRecDepth 65536 in
theorem w_named : about1.methodNamed? x = some theMethod := by decide +kernel
set_option maxRecDepth 65536 in
theorem w_hears : about1.hears theMethod below0 = true := by decide +kernel
set_option maxRecDepth 65536 in
theorem w_ripe : about1.ripe theMethod args0 below0 = true := by decide +kernel
theorem w_running : about1.status = .running := rfl
set_option maxRecDepth 65536 in
theorem w_room : about1.hasRoom e0.platform room_1 = true :=
  launch0.hasRoom_least _ room_1 (by decide +kernel) (by decide +kernel) (by decide +kernel) (by decide +kernel) (by decide +kernel) (by decide +kernel)
theorem allAtoms_all (ts : List Jvm.Cond) (a : Array Jvm.Value) (st : Jvm.State) : (allAtoms ts).before a st = ts.all (fun c => c.before a st) := by
  induction ts with
  | nil => rfl
  | cons c t ih =>
    show (Jvm.Cond.and c (allAtoms t)).before a st = _
    rw [Jvm.Cond.before_and, ih, List.all_cons]
def words1 : List Jvm.Cond := Jvm.Cond.code x code maxLocals ret :: tables_1
/-- a 'code' word, met by the world's own term for the bytes: nothing is compared byte by byte -/
theorem code_word {y : MethodName} {bytes : ByteArray} {mx : Nat} {rt : Option FieldType} {a : Array Value} {s : State} {m : MethodId} {meth : Method} {c : Code} (h1 : s.methodNamed? y = some m) (h2 : s.vm.method? m = some meth) (h3 : meth.code = some c) (h4 : c.code = bytes)
    (h5 : (c.maxLocals == mx && c.exceptionTable.isEmpty && decide (c.maxStack ≤ mostOperands) && decide (meth.sig.returnType = rt) && !meth.locks && decide (parseMethodDescriptor y.desc = some meth.sig)) = true) : (Jvm.Cond.code y bytes mx rt).before a s = true := by
  simp only [Bool.and_eq_true, beq_iff_eq, Bool.not_eq_true', decide_eq_true_eq] at h5
  obtain ⟨⟨⟨⟨⟨g1, g2⟩, g3⟩, g4⟩, g5⟩, g6⟩ := h5
  simp [Cond.before, Cond.holds, Cond.value, h1, h2, h3, h4, g1, g2, g3, g4, g5, g6]
def isCode : Jvm.Cond → Bool
  | .code _ _ _ _ => true
  | _ => false
theorem all_split {L : List Jvm.Cond} {P : Jvm.Cond → Bool} (h1 : L.all (fun c => isCode c || P c) = true) (h2 : ∀ c ∈ L.filter isCode, P c = true) : L.all P = true := by
  refine List.all_eq_true.mpr fun c hc => ?_
  have h := List.all_eq_true.mp h1 c hc
  rcases Bool.eq_false_or_eq_true (isCode c) with hi | hi
  · exact h2 c (List.mem_filter.mpr ⟨hc, hi⟩)
  · simpa [hi] using h
set_option maxRecDepth 65536 in
theorem w_c0 : (Jvm.Cond.code x code maxLocals ret).before args0 about1 = true := code_word (m := ⟨1, 2⟩) (meth := k1m2) (c := k1c2) (by decide +kernel) rfl rfl rfl (by decide +kernel)
set_option maxRecDepth 65536 in
theorem w_c1 : (Jvm.Cond.code ({ cls := "com/example/keys_to_proof/keystoproof/language/Scanner", name := "isNamePart", desc := "(I)Z" } : Jvm.MethodName) prog_100_method_14_code (1 : Nat) (Option.some Jvm.ClassFile.FieldType.boolean)).before args0 about1 = true := code_word (m := ⟨2, 2⟩) (meth := k2m2) (c := k2c2) (by decide +kernel) rfl rfl rfl (by decide +kernel)
set_option maxRecDepth 65536 in
theorem w_c2 : (Jvm.Cond.code ({ cls := "com/example/keys_to_proof/keystoproof/language/Scanner", name := "isLetter", desc := "(I)Z" } : Jvm.MethodName) prog_100_method_12_code (1 : Nat) (Option.some Jvm.ClassFile.FieldType.boolean)).before args0 about1 = true := code_word (m := ⟨2, 0⟩) (meth := k2m0) (c := k2c0) (by decide +kernel) rfl rfl rfl (by decide +kernel)
set_option maxRecDepth 65536 in
theorem w_c3 : (Jvm.Cond.code ({ cls := "com/example/keys_to_proof/keystoproof/language/Scanner", name := "isDigit", desc := "(I)Z" } : Jvm.MethodName) prog_100_method_13_code (1 : Nat) (Option.some Jvm.ClassFile.FieldType.boolean)).before args0 about1 = true := code_word (m := ⟨2, 1⟩) (meth := k2m1) (c := k2c1) (by decide +kernel) rfl rfl rfl (by decide +kernel)
set_option maxRecDepth 65536 in
theorem w_c4 : (Jvm.Cond.code ({ cls := "com/example/keys_to_proof/keystoproof/language/ScannerIsNamePartPinLaw", name := "ref", desc := "(I)Z" } : Jvm.MethodName) method_2_code (7 : Nat) (Option.some Jvm.ClassFile.FieldType.boolean)).before args0 about1 = true := code_word (m := ⟨1, 1⟩) (meth := k1m1) (c := k1c1) (by decide +kernel) rfl rfl rfl (by decide +kernel)
def codes1 : List Jvm.Cond := [Jvm.Cond.code x code maxLocals ret, Jvm.Cond.code ({ cls := "com/example/keys_to_proof/keystoproof/language/Scanner", name := "isNamePart", desc := "(I)Z" } : Jvm.MethodName) prog_100_method_14_code (1 : Nat) (Option.some Jvm.ClassFile.FieldType.boolean), Jvm.Cond.code ({ cls := "com/example/keys_to_proof/keystoproof/language/Scanner", name := "isLetter", desc := "(I)Z" } : Jvm.MethodName) prog_100_method_12_code (1 : Nat) (Option.some Jvm.ClassFile.FieldType.boolean), Jvm.Cond.code ({ cls := "com/example/keys_to_proof/keystoproof/language/Scanner", name := "isDigit", desc := "(I)Z" } : Jvm.MethodName) prog_100_method_13_code (1 : Nat) (Option.some Jvm.ClassFile.FieldType.boolean), Jvm.Cond.code ({ cls := "com/example/keys_to_proof/keystoproof/language/ScannerIsNamePartPinLaw", name := "ref", desc := "(I)Z" } : Jvm.MethodName) method_2_code (7 : Nat) (Option.some Jvm.ClassFile.FieldType.boolean)]
set_option maxRecDepth 65536 in
theorem codes_eq : words1.filter isCode = codes1 := rfl
theorem w_codes : ∀ c ∈ words1.filter isCode, c.before args0 about1 = true := by
  rw [codes_eq]
  intro c hc
  simp only [codes1, List.mem_cons, List.not_mem_nil, or_false] at hc
  rcases hc with rfl | rfl | rfl | rfl | rfl
  · exact w_c0
  · exact w_c1
  · exact w_c2
  · exact w_c3
  · exact w_c4
set_option maxRecDepth 65536 in
theorem w_t1 : words1.all (fun c => isCode c || c.before args0 about1) = true := by decide +kernel
theorem w_tables : (allAtoms (Jvm.Cond.code x code maxLocals ret :: tables_1)).before args0 about1 = true := by
  rw [allAtoms_all]
  show words1.all (fun c => c.before args0 about1) = true
  refine all_split ?_ w_codes
  rw [w_t1]
set_option maxRecDepth 65536 in
theorem w_case : (Jvm.Cond.and given_1 narrow_1).before args0 about1 = true := by decide +kernel
theorem w_applies : (headSpec (Jvm.Cond.code x code maxLocals ret :: tables_1) room_1).applies x e0.platform about1 = true :=
  (Spec.applies_iff w_frames).mpr ⟨w_running, w_runnable, w_alone, w_named, w_hears, w_ripe, w_room, w_tables⟩
theorem atStart : AtStart classFile x code maxLocals ret World_1 tables_1 room_1 Calls_1 rest_1 Pre_1 launch0 p0 e0 about1 theMethod args0 below0 :=
  ⟨lists_1, trivial, launch0.admits_env _ _ _, launch0.least_env, fairChoices_fair.cas, fairChoices_fair.clock, w_frames, w_args, w_heap, w_applies, trivial, trivial, w_case⟩
end start1
theorem witness_1 : WitnessClaimed_1 := ⟨start1.p0, start1.e0, start1.about1, start1.theMethod, start1.args0, start1.below0, start1.atStart⟩
end Jvm.Pilot.@@N@@
