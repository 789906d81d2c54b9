import JvmDerived
import JvmDerived.Pilot.@@N@@Statement
import JvmDerived.Pilot.@@N@@Code
set_option linter.unusedVariables false
set_option linter.unusedSimpArgs false
@@BLOCK:NumsL.lean.txt@@
namespace Jvm.Pilot.@@N@@
open Jvm Jvm.ClassFile Sem Op Lib Jvm.Free Jvm.Stand Jvm.LawKit Jvm.RoadKit Bundle Jvm.Pilot.@@N@@.Jvm.D
def own_shl (x y : Int32) : Int32 := x <<< (y &&& 31)
def own_shr (x y : Int32) : Int32 := x >>> (y &&& 31)
def own_ushr (x y : Int32) : Int32 := (x.toUInt32 >>> (y &&& 31).toUInt32).toInt32
def own_shlL (x : Int64) (y : Int32) : Int64 := x <<< (y &&& 0x3f).toInt64
def own_shrL (x : Int64) (y : Int32) : Int64 := x >>> (y &&& 0x3f).toInt64
def own_ushrL (x : Int64) (y : Int32) : Int64 := (x.toUInt64 >>> (y &&& 0x3f).toInt64.toUInt64).toInt64
def own_remL (x y : Int64) : Int64 := x - (x / y) * y
section OwnKit
variable {p : Program} {l : Launch} {e : Env} {R : Room} {s : State} {m : MethodId} {args : Array Value} {below : List Frame} {meth : Method} {c : Code} {T : State} {locs : List Loc} {cells slots : Nat} {Z : State} {h h' : Heap} {a b : Addr}
theorem retI (X : Stand p l e R s m args below meth c T locs cells slots) (hx : p.tables.exec = Jvm.exec) {pc : Nat} {Ls : Array Slot} {z : Int32} {rest : List Value} (hret : meth.sig.returnType = some .int) (hd : decode c.code pc = .ok (.ireturn, 1)) {fs : List Frame}
    (hl : ∀ (f : JFrame) (acts : List Action), f.method = m → f.locked = none → f.entered = [] → (doReturn e (T.setTop f) acts (some (.int z))).1 = T.setFrames fs) : Steps p.tables e below (T.setTop (mkF m pc Ls (.int z :: rest))) (T.setFrames fs) :=
  retOut X hx hret rfl (Or.inl ⟨rfl, Or.inl rfl, _, rfl⟩) hd hl
theorem own_retJ (X : Stand p l e R s m args below meth c T locs cells slots) (hx : p.tables.exec = Jvm.exec) {pc : Nat} {Ls : Array Slot} {z : Int64} {rest : List Value} (hret : meth.sig.returnType = some .long) (hd : decode c.code pc = .ok (.lreturn, 1)) {fs : List Frame}
    (hl : ∀ (f : JFrame) (acts : List Action), f.method = m → f.locked = none → f.entered = [] → (doReturn e (T.setTop f) acts (some (.long z))).1 = T.setFrames fs) : Steps p.tables e below (T.setTop (mkF m pc Ls (.long z :: rest))) (T.setFrames fs) :=
  retOut X hx hret rfl (Or.inr (Or.inl ⟨rfl, rfl, _, rfl⟩)) hd hl
end OwnKit
theorem pn_0 : plainName "com/example/consigliere/consigliere/engine/Rng" = true := by first | (simp [plainName, overriddenIn]; done) | decide +kernel
theorem d1_0 : decode prog_3_method_1_code 0 = .ok (.aload_n 0, 1) := by decide +kernel
theorem d1_1 : decode prog_3_method_1_code 1 = .ok (.invokespecial 1, 3) := by decide +kernel
theorem d1_4 : decode prog_3_method_1_code 4 = .ok (.aload_n 0, 1) := by decide +kernel
theorem d1_5 : decode prog_3_method_1_code 5 = .ok (.lload_n 1, 1) := by decide +kernel
theorem d1_6 : decode prog_3_method_1_code 6 = .ok (.putfield 7, 3) := by decide +kernel
theorem d1_9 : decode prog_3_method_1_code 9 = .ok (.return_, 1) := by decide +kernel
theorem ef_1 (m : MethodId) (x0 : Addr) (x1 : Int64) : entryFrame m #[(.ref x0), (.long x1)] 3 = mkF m 0 #[.val (.ref x0), .val (.long x1), .second] [] := by first | (simp [entryFrame, mkF, argsToLocals, Value.category]; done) | rfl
abbrev R1 : Room := { frames := 1, cells := 0, slots := 0, locals := 12 }
def Q1 (Z : State) (a1_0 : Addr) (p1_1 : Int64) (w1_state : Int64) (h0 : Heap) (n0 : Nat) (v : Option Value) (h : Heap) (L : List Loc) : Prop := v = none ∧ Fr n0 L ∧ Keep h0 h [a1_0] ∧ Fld Z h a1_0 "com/example/consigliere/consigliere/engine/Rng" "state" "J" (.long p1_1)
set_option maxRecDepth 65536 in
set_option maxHeartbeats 40000000 in
theorem rm1 (l : Launch) (Z : State) (a0 : Array Value) (hw : ∀ d ∈ tables_1, d.before a0 Z = true) (ws : List Jvm.Cond) (a1_0 : Addr) (p1_1 : Int64) (w1_state : Int64) (h0 : Heap) (n0 : Nat) (Z0 : n0 ≤ h0.size) (E_a1_0 : Exa Z h0 a1_0 "com/example/consigliere/consigliere/engine/Rng") (F_state_a1_0 : Fld Z h0 a1_0 "com/example/consigliere/consigliere/engine/Rng" "state" "J" (.long w1_state)) (g_a1_0 : n0 ≤ a1_0) :
    MetFree l (⟨"com/example/consigliere/consigliere/engine/Rng", "<init>", "(J)V"⟩ : MethodName) (head1 (Jvm.Cond.code (⟨"com/example/consigliere/consigliere/engine/Rng", "<init>", "(J)V"⟩ : MethodName) prog_3_method_1_code 3 none :: ws) R1) (fun a U => a = #[(.ref a1_0), (.long p1_1)] ∧ Z.Warmed39 U.vm ∧ U.heap = h0) (fun _ _ _ _ _ => True) (fun _ U o U' => ∃ v L, o = .returned v ∧ Q1 Z a1_0 p1_1 w1_state h0 n0 v U'.heap L ∧ FrameEnd U o U' L R1.cells R1.slots) := by
  refine MetFree.of_bodySF (plainFor_of_name pn_0) hisR ?_
  intro p e s m args below meth c s₁ Bd hml0 hP hK
  obtain ⟨rfl, hZ, hh⟩ := hP
  have hx := Bd.exec
  have hby := Bd.bytes
  have hml : c.maxLocals = 3 := hml0
  have hown : s.vm.findClass "com/example/consigliere/consigliere/engine/Rng" = some m.cls := findClass_of_methodNamed Bd.named
  have hnm := (name_of_methodNamed Bd.named Bd.method).1
  have X0 : Stand p l e R1 s m #[(.ref a1_0), (.long p1_1)] below meth c s₁ [] 0 0 := Stand.of_body Bd
  have e0 : s₁.heap = h0 := by rw [← hh, Bd.state]; rfl
  have N0 := Fr.nil n0
  have pre0 : ∀ t, Steps p.tables e below (s₁.setTop (mkF m 0 #[.val (.ref a1_0), .val (.long p1_1), .second] [])) t → Steps p.tables e below (s₁.setTop (entryFrame m #[(.ref a1_0), (.long p1_1)] 3)) t := fun t k => castTop (ef_1 m a1_0 p1_1) k
  have pre1 : ∀ t, Steps p.tables e below (s₁.setTop (mkF m 1 #[.val (.ref a1_0), .val (.long p1_1), .second] [(.ref a1_0)])) t → Steps p.tables e below (s₁.setTop (entryFrame m #[(.ref a1_0), (.long p1_1)] 3)) t := fun t k => pre0 t (by
    refine XS.aloadN X0.here hx rfl (hb hby d1_0) rfl rfl ?_
    show Steps p.tables e below (s₁.setTop (mkF m 1 #[.val (.ref a1_0), .val (.long p1_1), .second] [(.ref a1_0)])) _
    exact k)
  obtain ⟨T2, X2, e2, st2⟩ := initO X0 hx hZ hown (hw _ (List.mem_of_getElem? (i := 6) rfl)) (hw _ (List.mem_of_getElem? (i := 7) rfl)) (hw _ (List.mem_of_getElem? (i := 8) rfl)) e0 (g := (mkF m 1 #[.val (.ref a1_0), .val (.long p1_1), .second] [(.ref a1_0)])) rfl (by rw [hml]; rfl) rfl (hb hby d1_1) (by decide) (W := 0) (by show 2 * 0 + _ ≤ _; exact Nat.le_of_eq rfl) (by decide)
  have pre2 : ∀ t, Steps p.tables e below (T2.setTop (mkF m 4 #[.val (.ref a1_0), .val (.long p1_1), .second] [])) t → Steps p.tables e below (s₁.setTop (entryFrame m #[(.ref a1_0), (.long p1_1)] 3)) t := fun t k => pre1 t (st2 t k)
  have pre3 : ∀ t, Steps p.tables e below (T2.setTop (mkF m 6 #[.val (.ref a1_0), .val (.long p1_1), .second] [(.long p1_1), (.ref a1_0)])) t → Steps p.tables e below (s₁.setTop (entryFrame m #[(.ref a1_0), (.long p1_1)] 3)) t := fun t k => pre2 t (by
    refine XS.aloadN X2.here hx rfl (hb hby d1_4) rfl rfl ?_
    show Steps p.tables e below (T2.setTop (mkF m 5 #[.val (.ref a1_0), .val (.long p1_1), .second] [(.ref a1_0)])) _
    refine XS.lloadN X2.here hx rfl (hb hby d1_5) rfl ?_
    show Steps p.tables e below (T2.setTop (mkF m 6 #[.val (.ref a1_0), .val (.long p1_1), .second] [(.long p1_1), (.ref a1_0)])) _
    exact k)
  obtain ⟨T4, h4, X4, e4, W4, st4⟩ := putF X2 hx hZ hown (host := "") (Or.inl (hw _ (List.mem_of_getElem? (i := 9) rfl))) Via.refl e2 F_state_a1_0 E_a1_0 (Or.inl (hw _ (List.mem_of_getElem? (i := 10) rfl))) (hw _ (List.mem_of_getElem? (i := 1) rfl)) (ty := .long) (by decide) rfl rfl (g := (mkF m 6 #[.val (.ref a1_0), .val (.long p1_1), .second] [(.long p1_1), (.ref a1_0)])) rfl rfl (hb hby d1_6)
  have Ex5 : Exa Z h4 a1_0 "com/example/consigliere/consigliere/engine/Rng" := E_a1_0.wr W4
  have N4 := Fr.snoc X4 N0 g_a1_0
  have Z4 : n0 ≤ h4.size := Nat.le_trans Z0 (Keep.of_wr W4).1
  have K4 : Keep h0 h4 [a1_0] := (Keep.refl h0 [a1_0]).wr W4 (Or.inl (by simp))
  have F6 : Fld Z h4 a1_0 "com/example/consigliere/consigliere/engine/Rng" "state" "J" (.long p1_1) := F_state_a1_0.same W4
  have pre4 : ∀ t, Steps p.tables e below (T4.setTop (mkF m 9 #[.val (.ref a1_0), .val (.long p1_1), .second] [])) t → Steps p.tables e below (s₁.setTop (entryFrame m #[(.ref a1_0), (.long p1_1)] 3)) t := fun t k => pre3 t (st4 t k)
  obtain ⟨fs, hr, hrun, hended, hW, hsame⟩ := X4.leave (v := none) (fun _ => rfl) Bd.notSynchronized
  refine ⟨_, _, pre4 _ ?_, hrun, hended, _, _, rfl, ?_, ⟨_, rfl⟩, hW, hsame.mono (by decide) (by decide)⟩
  · show Steps p.tables e below (T4.setTop (mkF m 9 #[.val (.ref a1_0), .val (.long p1_1), .second] [])) _
    exact X4.returnOut hx Bd.returns (hb hby d1_9) hr
  · show Q1 Z a1_0 p1_1 w1_state h0 n0 _ T4.heap _
    rw [e4]
    exact ⟨rfl, N4, K4, F6⟩
theorem d4_0 : decode prog_3_method_2_code 0 = .ok (.aload_n 0, 1) := by decide +kernel
theorem d4_1 : decode prog_3_method_2_code 1 = .ok (.dup, 1) := by decide +kernel
theorem d4_2 : decode prog_3_method_2_code 2 = .ok (.getfield 7, 3) := by decide +kernel
theorem d4_5 : decode prog_3_method_2_code 5 = .ok (.ldc2_w 13, 3) := by decide +kernel
theorem d4_8 : decode prog_3_method_2_code 8 = .ok (.ladd, 1) := by decide +kernel
theorem d4_9 : decode prog_3_method_2_code 9 = .ok (.putfield 7, 3) := by decide +kernel
theorem d4_12 : decode prog_3_method_2_code 12 = .ok (.aload_n 0, 1) := by decide +kernel
theorem d4_13 : decode prog_3_method_2_code 13 = .ok (.getfield 7, 3) := by decide +kernel
theorem d4_16 : decode prog_3_method_2_code 16 = .ok (.lstore_n 1, 1) := by decide +kernel
theorem d4_17 : decode prog_3_method_2_code 17 = .ok (.lload_n 1, 1) := by decide +kernel
theorem d4_18 : decode prog_3_method_2_code 18 = .ok (.lload_n 1, 1) := by decide +kernel
theorem d4_19 : decode prog_3_method_2_code 19 = .ok (.bipush 30, 2) := by decide +kernel
theorem d4_21 : decode prog_3_method_2_code 21 = .ok (.lushr, 1) := by decide +kernel
theorem d4_22 : decode prog_3_method_2_code 22 = .ok (.lxor, 1) := by decide +kernel
theorem d4_23 : decode prog_3_method_2_code 23 = .ok (.ldc2_w 15, 3) := by decide +kernel
theorem d4_26 : decode prog_3_method_2_code 26 = .ok (.lmul, 1) := by decide +kernel
theorem d4_27 : decode prog_3_method_2_code 27 = .ok (.lstore_n 1, 1) := by decide +kernel
theorem d4_28 : decode prog_3_method_2_code 28 = .ok (.lload_n 1, 1) := by decide +kernel
theorem d4_29 : decode prog_3_method_2_code 29 = .ok (.lload_n 1, 1) := by decide +kernel
theorem d4_30 : decode prog_3_method_2_code 30 = .ok (.bipush 27, 2) := by decide +kernel
theorem d4_32 : decode prog_3_method_2_code 32 = .ok (.lushr, 1) := by decide +kernel
theorem d4_33 : decode prog_3_method_2_code 33 = .ok (.lxor, 1) := by decide +kernel
theorem d4_34 : decode prog_3_method_2_code 34 = .ok (.ldc2_w 17, 3) := by decide +kernel
theorem d4_37 : decode prog_3_method_2_code 37 = .ok (.lmul, 1) := by decide +kernel
theorem d4_38 : decode prog_3_method_2_code 38 = .ok (.lstore_n 1, 1) := by decide +kernel
theorem d4_39 : decode prog_3_method_2_code 39 = .ok (.lload_n 1, 1) := by decide +kernel
theorem d4_40 : decode prog_3_method_2_code 40 = .ok (.lload_n 1, 1) := by decide +kernel
theorem d4_41 : decode prog_3_method_2_code 41 = .ok (.bipush 31, 2) := by decide +kernel
theorem d4_43 : decode prog_3_method_2_code 43 = .ok (.lushr, 1) := by decide +kernel
theorem d4_44 : decode prog_3_method_2_code 44 = .ok (.lxor, 1) := by decide +kernel
theorem d4_45 : decode prog_3_method_2_code 45 = .ok (.lreturn, 1) := by decide +kernel
theorem ef_4 (m : MethodId) (x0 : Addr) : entryFrame m #[(.ref x0)] 3 = mkF m 0 #[.val (.ref x0), .unset, .unset] [] := by first | (simp [entryFrame, mkF, argsToLocals, Value.category]; done) | rfl
abbrev R4 : Room := { frames := 0, cells := 0, slots := 0, locals := 0 }
def v4_9 (w4_state : Int64) : Int64 := (w4_state + (-7046029254386353131 : Int64))
def v4_27 (w4_state : Int64) : Int64 := (((v4_9 w4_state) ^^^ (own_ushrL (v4_9 w4_state) (30 : Int32))) * (-4658895280553007687 : Int64))
def v4_38 (w4_state : Int64) : Int64 := (((v4_27 w4_state) ^^^ (own_ushrL (v4_27 w4_state) (27 : Int32))) * (-7723592293110705685 : Int64))
def r4 (w4_state : Int64) : Int64 := ((v4_38 w4_state) ^^^ (own_ushrL (v4_38 w4_state) (31 : Int32)))
def Q4 (Z : State) (a4_0 : Addr) (w4_state : Int64) (h0 : Heap) (n0 : Nat) (v : Option Value) (h : Heap) (L : List Loc) : Prop := v = some (.long (r4 w4_state)) ∧ Fr n0 L ∧ Keep h0 h [a4_0] ∧ Fld Z h a4_0 "com/example/consigliere/consigliere/engine/Rng" "state" "J" (.long (v4_9 w4_state))
set_option maxRecDepth 65536 in
set_option maxHeartbeats 40000000 in
theorem rm4 (l : Launch) (Z : State) (a0 : Array Value) (hw : ∀ d ∈ tables_1, d.before a0 Z = true) (ws : List Jvm.Cond) (a4_0 : Addr) (w4_state : Int64) (h0 : Heap) (n0 : Nat) (Z0 : n0 ≤ h0.size) (E_a4_0 : Exa Z h0 a4_0 "com/example/consigliere/consigliere/engine/Rng") (F_state_a4_0 : Fld Z h0 a4_0 "com/example/consigliere/consigliere/engine/Rng" "state" "J" (.long w4_state)) (g_a4_0 : n0 ≤ a4_0) :
    MetFree l (⟨"com/example/consigliere/consigliere/engine/Rng", "nextLong", "()J"⟩ : MethodName) (head1 (Jvm.Cond.code (⟨"com/example/consigliere/consigliere/engine/Rng", "nextLong", "()J"⟩ : MethodName) prog_3_method_2_code 3 (some .long) :: ws) R4) (fun a U => a = #[(.ref a4_0)] ∧ Z.Warmed39 U.vm ∧ U.heap = h0) (fun _ _ _ _ _ => True) (fun _ U o U' => ∃ v L, o = .returned v ∧ Q4 Z a4_0 w4_state h0 n0 v U'.heap L ∧ FrameEnd U o U' L R4.cells R4.slots) := by
  refine MetFree.of_bodySF (plainFor_of_name pn_0) hisR ?_
  intro p e s m args below meth c s₁ Bd hml0 hP hK
  obtain ⟨rfl, hZ, hh⟩ := hP
  have hx := Bd.exec
  have hby := Bd.bytes
  have hml : c.maxLocals = 3 := hml0
  have hown : s.vm.findClass "com/example/consigliere/consigliere/engine/Rng" = some m.cls := findClass_of_methodNamed Bd.named
  have hnm := (name_of_methodNamed Bd.named Bd.method).1
  have X0 : Stand p l e R4 s m #[(.ref a4_0)] below meth c s₁ [] 0 0 := Stand.of_body Bd
  have e0 : s₁.heap = h0 := by rw [← hh, Bd.state]; rfl
  have N0 := Fr.nil n0
  have pre0 : ∀ t, Steps p.tables e below (s₁.setTop (mkF m 0 #[.val (.ref a4_0), .unset, .unset] [])) t → Steps p.tables e below (s₁.setTop (entryFrame m #[(.ref a4_0)] 3)) t := fun t k => castTop (ef_4 m a4_0) k
  have pre1 : ∀ t, Steps p.tables e below (s₁.setTop (mkF m 2 #[.val (.ref a4_0), .unset, .unset] [(.ref a4_0), (.ref a4_0)])) t → Steps p.tables e below (s₁.setTop (entryFrame m #[(.ref a4_0)] 3)) t := fun t k => pre0 t (by
    refine XS.aloadN X0.here hx rfl (hb hby d4_0) rfl rfl ?_
    show Steps p.tables e below (s₁.setTop (mkF m 1 #[.val (.ref a4_0), .unset, .unset] [(.ref a4_0)])) _
    refine XS.dup X0.here hx rfl (hb hby d4_1) rfl rfl ?_
    show Steps p.tables e below (s₁.setTop (mkF m 2 #[.val (.ref a4_0), .unset, .unset] [(.ref a4_0), (.ref a4_0)])) _
    exact k)
  obtain ⟨T2, X2, e2, st2⟩ := getF X0 hx hZ hown (host := "") (Or.inl (hw _ (List.mem_of_getElem? (i := 9) rfl))) Via.refl e0 F_state_a4_0 (g := (mkF m 2 #[.val (.ref a4_0), .unset, .unset] [(.ref a4_0), (.ref a4_0)])) rfl rfl (hb hby d4_2)
  have pre2 : ∀ t, Steps p.tables e below (T2.setTop (mkF m 5 #[.val (.ref a4_0), .unset, .unset] [(.long w4_state), (.ref a4_0)])) t → Steps p.tables e below (s₁.setTop (entryFrame m #[(.ref a4_0)] 3)) t := fun t k => pre1 t (st2 t k)
  have pre3 : ∀ t, Steps p.tables e below (T2.setTop (mkF m 9 #[.val (.ref a4_0), .unset, .unset] [(.long (w4_state + (-7046029254386353131 : Int64))), (.ref a4_0)])) t → Steps p.tables e below (s₁.setTop (entryFrame m #[(.ref a4_0)] 3)) t := fun t k => pre2 t (by
    refine X2.ldc2Long hx hown (mvT hZ (hw _ (List.mem_of_getElem? (i := 22) rfl))) (g := (mkF m 5 #[.val (.ref a4_0), .unset, .unset] [(.long w4_state), (.ref a4_0)])) rfl (hb hby d4_5) _ ?_
    show Steps p.tables e below (T2.setTop (mkF m 8 #[.val (.ref a4_0), .unset, .unset] [(.long (-7046029254386353131 : Int64)), (.long w4_state), (.ref a4_0)])) _
    refine XS.ladd X2.here hx rfl (hb hby d4_8) rfl ?_
    show Steps p.tables e below (T2.setTop (mkF m 9 #[.val (.ref a4_0), .unset, .unset] [(.long (w4_state + (-7046029254386353131 : Int64))), (.ref a4_0)])) _
    exact k)
  obtain ⟨T4, h4, X4, e4, W4, st4⟩ := putF X2 hx hZ hown (host := "") (Or.inl (hw _ (List.mem_of_getElem? (i := 9) rfl))) Via.refl e2 F_state_a4_0 E_a4_0 (Or.inl (hw _ (List.mem_of_getElem? (i := 10) rfl))) (hw _ (List.mem_of_getElem? (i := 1) rfl)) (ty := .long) (by decide) rfl rfl (g := (mkF m 9 #[.val (.ref a4_0), .unset, .unset] [(.long (v4_9 w4_state)), (.ref a4_0)])) rfl rfl (hb hby d4_9)
  have Ex5 : Exa Z h4 a4_0 "com/example/consigliere/consigliere/engine/Rng" := E_a4_0.wr W4
  have N4 := Fr.snoc X4 N0 g_a4_0
  have Z4 : n0 ≤ h4.size := Nat.le_trans Z0 (Keep.of_wr W4).1
  have K4 : Keep h0 h4 [a4_0] := (Keep.refl h0 [a4_0]).wr W4 (Or.inl (by simp))
  have F6 : Fld Z h4 a4_0 "com/example/consigliere/consigliere/engine/Rng" "state" "J" (.long (v4_9 w4_state)) := F_state_a4_0.same W4
  have pre4 : ∀ t, Steps p.tables e below (T4.setTop (mkF m 12 #[.val (.ref a4_0), .unset, .unset] [])) t → Steps p.tables e below (s₁.setTop (entryFrame m #[(.ref a4_0)] 3)) t := fun t k => pre3 t (st4 t k)
  have pre7 : ∀ t, Steps p.tables e below (T4.setTop (mkF m 13 #[.val (.ref a4_0), .unset, .unset] [(.ref a4_0)])) t → Steps p.tables e below (s₁.setTop (entryFrame m #[(.ref a4_0)] 3)) t := fun t k => pre4 t (by
    refine XS.aloadN X4.here hx rfl (hb hby d4_12) rfl rfl ?_
    show Steps p.tables e below (T4.setTop (mkF m 13 #[.val (.ref a4_0), .unset, .unset] [(.ref a4_0)])) _
    exact k)
  obtain ⟨T8, X8, e8, st8⟩ := getF X4 hx hZ hown (host := "") (Or.inl (hw _ (List.mem_of_getElem? (i := 9) rfl))) Via.refl e4 F6 (g := (mkF m 13 #[.val (.ref a4_0), .unset, .unset] [(.ref a4_0)])) rfl rfl (hb hby d4_13)
  have pre8 : ∀ t, Steps p.tables e below (T8.setTop (mkF m 16 #[.val (.ref a4_0), .unset, .unset] [(.long (v4_9 w4_state))])) t → Steps p.tables e below (s₁.setTop (entryFrame m #[(.ref a4_0)] 3)) t := fun t k => pre7 t (st8 t k)
  have pre9 : ∀ t, Steps p.tables e below (T8.setTop (mkF m 45 #[.val (.ref a4_0), .val (.long (v4_38 w4_state)), .second] [(.long ((v4_38 w4_state) ^^^ (own_ushrL (v4_38 w4_state) (31 : Int32))))])) t → Steps p.tables e below (s₁.setTop (entryFrame m #[(.ref a4_0)] 3)) t := fun t k => pre8 t (by
    refine XS.lstoreN X8.here hx rfl (hb hby d4_16) rfl (l' := #[.val (.ref a4_0), .val (.long (v4_9 w4_state)), .second]) rfl ?_
    show Steps p.tables e below (T8.setTop (mkF m 17 #[.val (.ref a4_0), .val (.long (v4_9 w4_state)), .second] [])) _
    refine XS.lloadN X8.here hx rfl (hb hby d4_17) rfl ?_
    show Steps p.tables e below (T8.setTop (mkF m 18 #[.val (.ref a4_0), .val (.long (v4_9 w4_state)), .second] [(.long (v4_9 w4_state))])) _
    refine XS.lloadN X8.here hx rfl (hb hby d4_18) rfl ?_
    show Steps p.tables e below (T8.setTop (mkF m 19 #[.val (.ref a4_0), .val (.long (v4_9 w4_state)), .second] [(.long (v4_9 w4_state)), (.long (v4_9 w4_state))])) _
    refine XS.bipush X8.here hx rfl (hb hby d4_19) ?_
    show Steps p.tables e below (T8.setTop (mkF m 21 #[.val (.ref a4_0), .val (.long (v4_9 w4_state)), .second] [(.int (30 : Int32)), (.long (v4_9 w4_state)), (.long (v4_9 w4_state))])) _
    refine XS.lushr X8.here hx rfl (hb hby d4_21) rfl ?_
    show Steps p.tables e below (T8.setTop (mkF m 22 #[.val (.ref a4_0), .val (.long (v4_9 w4_state)), .second] [(.long (own_ushrL (v4_9 w4_state) (30 : Int32))), (.long (v4_9 w4_state))])) _
    refine XS.lxor X8.here hx rfl (hb hby d4_22) rfl ?_
    show Steps p.tables e below (T8.setTop (mkF m 23 #[.val (.ref a4_0), .val (.long (v4_9 w4_state)), .second] [(.long ((v4_9 w4_state) ^^^ (own_ushrL (v4_9 w4_state) (30 : Int32))))])) _
    refine X8.ldc2Long hx hown (mvT hZ (hw _ (List.mem_of_getElem? (i := 23) rfl))) (g := (mkF m 23 #[.val (.ref a4_0), .val (.long (v4_9 w4_state)), .second] [(.long ((v4_9 w4_state) ^^^ (own_ushrL (v4_9 w4_state) (30 : Int32))))])) rfl (hb hby d4_23) _ ?_
    show Steps p.tables e below (T8.setTop (mkF m 26 #[.val (.ref a4_0), .val (.long (v4_9 w4_state)), .second] [(.long (-4658895280553007687 : Int64)), (.long ((v4_9 w4_state) ^^^ (own_ushrL (v4_9 w4_state) (30 : Int32))))])) _
    refine XS.lmul X8.here hx rfl (hb hby d4_26) rfl ?_
    show Steps p.tables e below (T8.setTop (mkF m 27 #[.val (.ref a4_0), .val (.long (v4_9 w4_state)), .second] [(.long (((v4_9 w4_state) ^^^ (own_ushrL (v4_9 w4_state) (30 : Int32))) * (-4658895280553007687 : Int64)))])) _
    show Steps p.tables e below (T8.setTop (mkF m 27 #[.val (.ref a4_0), .val (.long (v4_9 w4_state)), .second] [(.long (v4_27 w4_state))])) _
    refine XS.lstoreN X8.here hx rfl (hb hby d4_27) rfl (l' := #[.val (.ref a4_0), .val (.long (v4_27 w4_state)), .second]) rfl ?_
    show Steps p.tables e below (T8.setTop (mkF m 28 #[.val (.ref a4_0), .val (.long (v4_27 w4_state)), .second] [])) _
    refine XS.lloadN X8.here hx rfl (hb hby d4_28) rfl ?_
    show Steps p.tables e below (T8.setTop (mkF m 29 #[.val (.ref a4_0), .val (.long (v4_27 w4_state)), .second] [(.long (v4_27 w4_state))])) _
    refine XS.lloadN X8.here hx rfl (hb hby d4_29) rfl ?_
    show Steps p.tables e below (T8.setTop (mkF m 30 #[.val (.ref a4_0), .val (.long (v4_27 w4_state)), .second] [(.long (v4_27 w4_state)), (.long (v4_27 w4_state))])) _
    refine XS.bipush X8.here hx rfl (hb hby d4_30) ?_
    show Steps p.tables e below (T8.setTop (mkF m 32 #[.val (.ref a4_0), .val (.long (v4_27 w4_state)), .second] [(.int (27 : Int32)), (.long (v4_27 w4_state)), (.long (v4_27 w4_state))])) _
    refine XS.lushr X8.here hx rfl (hb hby d4_32) rfl ?_
    show Steps p.tables e below (T8.setTop (mkF m 33 #[.val (.ref a4_0), .val (.long (v4_27 w4_state)), .second] [(.long (own_ushrL (v4_27 w4_state) (27 : Int32))), (.long (v4_27 w4_state))])) _
    refine XS.lxor X8.here hx rfl (hb hby d4_33) rfl ?_
    show Steps p.tables e below (T8.setTop (mkF m 34 #[.val (.ref a4_0), .val (.long (v4_27 w4_state)), .second] [(.long ((v4_27 w4_state) ^^^ (own_ushrL (v4_27 w4_state) (27 : Int32))))])) _
    refine X8.ldc2Long hx hown (mvT hZ (hw _ (List.mem_of_getElem? (i := 24) rfl))) (g := (mkF m 34 #[.val (.ref a4_0), .val (.long (v4_27 w4_state)), .second] [(.long ((v4_27 w4_state) ^^^ (own_ushrL (v4_27 w4_state) (27 : Int32))))])) rfl (hb hby d4_34) _ ?_
    show Steps p.tables e below (T8.setTop (mkF m 37 #[.val (.ref a4_0), .val (.long (v4_27 w4_state)), .second] [(.long (-7723592293110705685 : Int64)), (.long ((v4_27 w4_state) ^^^ (own_ushrL (v4_27 w4_state) (27 : Int32))))])) _
    refine XS.lmul X8.here hx rfl (hb hby d4_37) rfl ?_
    show Steps p.tables e below (T8.setTop (mkF m 38 #[.val (.ref a4_0), .val (.long (v4_27 w4_state)), .second] [(.long (((v4_27 w4_state) ^^^ (own_ushrL (v4_27 w4_state) (27 : Int32))) * (-7723592293110705685 : Int64)))])) _
    show Steps p.tables e below (T8.setTop (mkF m 38 #[.val (.ref a4_0), .val (.long (v4_27 w4_state)), .second] [(.long (v4_38 w4_state))])) _
    refine XS.lstoreN X8.here hx rfl (hb hby d4_38) rfl (l' := #[.val (.ref a4_0), .val (.long (v4_38 w4_state)), .second]) rfl ?_
    show Steps p.tables e below (T8.setTop (mkF m 39 #[.val (.ref a4_0), .val (.long (v4_38 w4_state)), .second] [])) _
    refine XS.lloadN X8.here hx rfl (hb hby d4_39) rfl ?_
    show Steps p.tables e below (T8.setTop (mkF m 40 #[.val (.ref a4_0), .val (.long (v4_38 w4_state)), .second] [(.long (v4_38 w4_state))])) _
    refine XS.lloadN X8.here hx rfl (hb hby d4_40) rfl ?_
    show Steps p.tables e below (T8.setTop (mkF m 41 #[.val (.ref a4_0), .val (.long (v4_38 w4_state)), .second] [(.long (v4_38 w4_state)), (.long (v4_38 w4_state))])) _
    refine XS.bipush X8.here hx rfl (hb hby d4_41) ?_
    show Steps p.tables e below (T8.setTop (mkF m 43 #[.val (.ref a4_0), .val (.long (v4_38 w4_state)), .second] [(.int (31 : Int32)), (.long (v4_38 w4_state)), (.long (v4_38 w4_state))])) _
    refine XS.lushr X8.here hx rfl (hb hby d4_43) rfl ?_
    show Steps p.tables e below (T8.setTop (mkF m 44 #[.val (.ref a4_0), .val (.long (v4_38 w4_state)), .second] [(.long (own_ushrL (v4_38 w4_state) (31 : Int32))), (.long (v4_38 w4_state))])) _
    refine XS.lxor X8.here hx rfl (hb hby d4_44) rfl ?_
    show Steps p.tables e below (T8.setTop (mkF m 45 #[.val (.ref a4_0), .val (.long (v4_38 w4_state)), .second] [(.long ((v4_38 w4_state) ^^^ (own_ushrL (v4_38 w4_state) (31 : Int32))))])) _
    exact k)
  obtain ⟨fs, hr, hrun, hended, hW, hsame⟩ := X8.leave (v := some (.long ((v4_38 w4_state) ^^^ (own_ushrL (v4_38 w4_state) (31 : Int32))))) (fun h => by rw [Bd.returns] at h; cases h) Bd.notSynchronized
  refine ⟨_, _, pre9 _ ?_, hrun, hended, _, _, rfl, ?_, ⟨_, rfl⟩, hW, hsame.mono (by decide) (by decide)⟩
  · show Steps p.tables e below (T8.setTop (mkF m 45 #[.val (.ref a4_0), .val (.long (v4_38 w4_state)), .second] [(.long ((v4_38 w4_state) ^^^ (own_ushrL (v4_38 w4_state) (31 : Int32))))])) _
    exact own_retJ X8 hx Bd.returns (hb hby d4_45) hr
  · show Q4 Z a4_0 w4_state h0 n0 _ T8.heap _
    rw [e8]
    exact ⟨rfl, N4, K4, F6⟩
abbrev R3 : Room := { frames := 1, cells := 0, slots := 0, locals := 14 }
def own_dr (w : Int64) : Int64 := (own_ushrL (r4 w) (32 : Int32))
theorem pd_0 : parseMethodDescriptor "()J" = some ⟨[], some .long⟩ := by decide +kernel
theorem d3_29 : decode prog_3_method_3_code 29 = .ok (.aload_n 0, 1) := by decide +kernel
theorem d3_30 : decode prog_3_method_3_code 30 = .ok (.invokevirtual 30, 3) := by decide +kernel
theorem d3_33 : decode prog_3_method_3_code 33 = .ok (.bipush 32, 2) := by decide +kernel
theorem d3_35 : decode prog_3_method_3_code 35 = .ok (.lushr, 1) := by decide +kernel
theorem d3_36 : decode prog_3_method_3_code 36 = .ok (.lstore 4, 2) := by decide +kernel
theorem d3_38 : decode prog_3_method_3_code 38 = .ok (.lload 4, 2) := by decide +kernel
theorem d3_40 : decode prog_3_method_3_code 40 = .ok (.lload_n 2, 1) := by decide +kernel
theorem d3_41 : decode prog_3_method_3_code 41 = .ok (.lcmp, 1) := by decide +kernel
theorem d3_42 : decode prog_3_method_3_code 42 = .ok (.ifCond .ge (-13), 3) := by decide +kernel
set_option maxRecDepth 65536 in
set_option maxHeartbeats 40000000 in
theorem tnA_go {p : Program} {l : Launch} {e : Env} {s : State} {m : MethodId} {args : Array Value} {below : List Frame} {meth : Method} {c : Code} {T0 : State} {locs : List Loc} {Z : State} {a0 : Array Value} {h0 : Heap} {n0 : Nat} (ao : Addr) (pb : Int32) (lim : Int64) (w : Int64) (dr : Int64)
    (X0 : Stand p l e R3 s m args below meth c T0 locs 0 0) (hx : p.tables.exec = Jvm.exec) (hZ : Z.Warmed39 s.vm) (hw : ∀ d ∈ tables_1, d.before a0 Z = true) (hby : c.code = prog_3_method_3_code) (hml : c.maxLocals = 6) (hown : s.vm.findClass "com/example/consigliere/consigliere/engine/Rng" = some m.cls) (e0 : T0.heap = h0) (N0 : Fr n0 locs) (Z0 : n0 ≤ h0.size) (g_ao : n0 ≤ ao) (hE : Exa Z h0 ao "com/example/consigliere/consigliere/engine/Rng") (hF : Fld Z h0 ao "com/example/consigliere/consigliere/engine/Rng" "state" "J" (.long w)) (hrej : ¬ (own_dr w) < lim) :
    ∃ (T' : State) (L' : List Loc) (h' : Heap), Stand p l e R3 s m args below meth c T' L' 0 0 ∧ T'.heap = h' ∧ Fr n0 L' ∧ n0 ≤ h'.size ∧ Keep h0 h' [ao] ∧ Exa Z h' ao "com/example/consigliere/consigliere/engine/Rng" ∧ Fld Z h' ao "com/example/consigliere/consigliere/engine/Rng" "state" "J" (.long (v4_9 w)) ∧ ∀ t, Steps p.tables e below (T'.setTop (mkF m 29 #[.val (.ref ao), .val (.int pb), .val (.long lim), .second, .val (.long (own_dr w)), .second] [])) t → Steps p.tables e below (T0.setTop (mkF m 29 #[.val (.ref ao), .val (.int pb), .val (.long lim), .second, .unset, .unset] [])) t := by
  have pre0 : ∀ t, Steps p.tables e below (T0.setTop (mkF m 29 #[.val (.ref ao), .val (.int pb), .val (.long lim), .second, .unset, .unset] [])) t → Steps p.tables e below (T0.setTop (mkF m 29 #[.val (.ref ao), .val (.int pb), .val (.long lim), .second, .unset, .unset] [])) t := fun t k => k
  have pre1 : ∀ t, Steps p.tables e below (T0.setTop (mkF m 30 #[.val (.ref ao), .val (.int pb), .val (.long lim), .second, .unset, .unset] [(.ref ao)])) t → Steps p.tables e below (T0.setTop (mkF m 29 #[.val (.ref ao), .val (.int pb), .val (.long lim), .second, .unset, .unset] [])) t := fun t k => pre0 t (by
    refine XS.aloadN X0.here hx rfl (hb hby d3_29) rfl rfl ?_
    show Steps p.tables e below (T0.setTop (mkF m 30 #[.val (.ref ao), .val (.int pb), .val (.long lim), .second, .unset, .unset] [(.ref ao)])) _
    exact k)
  obtain ⟨cq2, kq2, qa2, qb2, qc2⟩ := isOf hZ e0 hE
  obtain ⟨_, _, ⟨T2, L2, k2, n2⟩, -, X2, ⟨Lc2, hQ2, l2, y2, z2⟩, st2⟩ := X0.virtualBack hx (y := (⟨"com/example/consigliere/consigliere/engine/Rng", "nextLong", "()J"⟩ : MethodName)) (z := (⟨"com/example/consigliere/consigliere/engine/Rng", "nextLong", "()J"⟩ : MethodName)) hown (mvT hZ (hw _ (List.mem_of_getElem? (i := 17) rfl))) (mvT hZ (hw _ (List.mem_of_getElem? (i := 18) rfl))) (notFace_of_selects (args := #[]) (mvT hZ (hw _ (List.mem_of_getElem? (i := 20) rfl)))) (mvT hZ (hw _ (List.mem_of_getElem? (i := 20) rfl))) (mvT hZ (hw _ (List.mem_of_getElem? (i := 19) rfl))) (by decide) (backOf (W := 0) (rm4 l Z a0 hw [] ao w h0 n0 Z0 hE hF g_ao) hZ (hw _ (List.mem_of_getElem? (i := 21) rfl)) (hw _ (List.mem_of_getElem? (i := 2) rfl)) (by decide) (by decide)) qa2 qc2 (g := (mkF m 30 #[.val (.ref ao), .val (.int pb), .val (.long lim), .second, .unset, .unset] [(.ref ao)])) rfl (by rw [hml]; rfl) (Steps.refl _) (argsL := []) (rest := []) (lenOf pd_0 rfl) rfl (by show 2 * 0 + _ ≤ _; exact Nat.le_of_eq rfl) (hb hby d3_30) (fun _ _ => ⟨rfl, e0, (by decide : 0 + 0 ≤ _), (by decide : 0 + 0 ≤ _)⟩)
  dsimp only [Pt.U, Pt.locs, Pt.cells, Pt.slots] at X2 l2 y2 z2 st2 hQ2
  subst l2 y2 z2
  obtain ⟨rfl, M2, K2c, P2_0⟩ := hQ2
  have N2 := Fr.app N0 M2
  have K2 : Keep h0 T2.heap [ao] := K2c
  have Z2 : n0 ≤ T2.heap.size := Nat.le_trans Z0 K2.1
  have Ex3 : Exa Z T2.heap ao "com/example/consigliere/consigliere/engine/Rng" := hE.keep K2
  have F4 : Fld Z T2.heap ao "com/example/consigliere/consigliere/engine/Rng" "state" "J" (.long (v4_9 w)) := P2_0
  have KK2 : Keep h0 T2.heap [ao] := (Keep.refl h0 [ao]).trans K2 (allS (Or.inl (by simp)) all0)
  have pre2 : ∀ t, Steps p.tables e below (T2.setTop (mkF m 33 #[.val (.ref ao), .val (.int pb), .val (.long lim), .second, .unset, .unset] [(.long (r4 w))])) t → Steps p.tables e below (T0.setTop (mkF m 29 #[.val (.ref ao), .val (.int pb), .val (.long lim), .second, .unset, .unset] [])) t := fun t k => pre1 t (st2.trans k)
  have pre6 : ∀ t, Steps p.tables e below (T2.setTop (mkF m 29 #[.val (.ref ao), .val (.int pb), .val (.long lim), .second, .val (.long (own_dr w)), .second] [])) t → Steps p.tables e below (T0.setTop (mkF m 29 #[.val (.ref ao), .val (.int pb), .val (.long lim), .second, .unset, .unset] [])) t := fun t k => pre2 t (by
    refine XS.bipush X2.here hx rfl (hb hby d3_33) ?_
    show Steps p.tables e below (T2.setTop (mkF m 35 #[.val (.ref ao), .val (.int pb), .val (.long lim), .second, .unset, .unset] [(.int (32 : Int32)), (.long (r4 w))])) _
    refine XS.lushr X2.here hx rfl (hb hby d3_35) rfl ?_
    show Steps p.tables e below (T2.setTop (mkF m 36 #[.val (.ref ao), .val (.int pb), .val (.long lim), .second, .unset, .unset] [(.long (own_ushrL (r4 w) (32 : Int32)))])) _
    show Steps p.tables e below (T2.setTop (mkF m 36 #[.val (.ref ao), .val (.int pb), .val (.long lim), .second, .unset, .unset] [(.long (own_dr w))])) _
    refine XS.lstore X2.here hx rfl (hb hby d3_36) rfl (l' := #[.val (.ref ao), .val (.int pb), .val (.long lim), .second, .val (.long (own_dr w)), .second]) rfl ?_
    show Steps p.tables e below (T2.setTop (mkF m 38 #[.val (.ref ao), .val (.int pb), .val (.long lim), .second, .val (.long (own_dr w)), .second] [])) _
    refine XS.lload X2.here hx rfl (hb hby d3_38) rfl ?_
    show Steps p.tables e below (T2.setTop (mkF m 40 #[.val (.ref ao), .val (.int pb), .val (.long lim), .second, .val (.long (own_dr w)), .second] [(.long (own_dr w))])) _
    refine XS.lloadN X2.here hx rfl (hb hby d3_40) rfl ?_
    show Steps p.tables e below (T2.setTop (mkF m 41 #[.val (.ref ao), .val (.int pb), .val (.long lim), .second, .val (.long (own_dr w)), .second] [(.long lim), (.long (own_dr w))])) _
    refine XS.lcmp X2.here hx rfl (hb hby d3_41) rfl ?_
    show Steps p.tables e below (T2.setTop (mkF m 42 #[.val (.ref ao), .val (.int pb), .val (.long lim), .second, .val (.long (own_dr w)), .second] [(.int (lcmpW (own_dr w) lim))])) _
    refine XS.ifYes X2.here hx rfl (pc0 := 42) (pc' := 29) rfl (hb hby d3_42) rfl ((if0 _ _).trans (flt (fun q => (show ¬ ((own_dr w) < lim) from hrej) ((lw_lt (own_dr w) lim).mp q))).2.1) (by decide) (by decide) ?_
    show Steps p.tables e below (T2.setTop (mkF m 29 #[.val (.ref ao), .val (.int pb), .val (.long lim), .second, .val (.long (own_dr w)), .second] [])) _
    exact k)
  exact ⟨T2, _, _, X2, rfl, N2, Z2, KK2, Ex3, F4, pre6⟩
set_option maxRecDepth 65536 in
set_option maxHeartbeats 40000000 in
theorem tnA_out {p : Program} {l : Launch} {e : Env} {s : State} {m : MethodId} {args : Array Value} {below : List Frame} {meth : Method} {c : Code} {T0 : State} {locs : List Loc} {Z : State} {a0 : Array Value} {h0 : Heap} {n0 : Nat} (ao : Addr) (pb : Int32) (lim : Int64) (w : Int64) (dr : Int64)
    (X0 : Stand p l e R3 s m args below meth c T0 locs 0 0) (hx : p.tables.exec = Jvm.exec) (hZ : Z.Warmed39 s.vm) (hw : ∀ d ∈ tables_1, d.before a0 Z = true) (hby : c.code = prog_3_method_3_code) (hml : c.maxLocals = 6) (hown : s.vm.findClass "com/example/consigliere/consigliere/engine/Rng" = some m.cls) (e0 : T0.heap = h0) (N0 : Fr n0 locs) (Z0 : n0 ≤ h0.size) (g_ao : n0 ≤ ao) (hE : Exa Z h0 ao "com/example/consigliere/consigliere/engine/Rng") (hF : Fld Z h0 ao "com/example/consigliere/consigliere/engine/Rng" "state" "J" (.long w)) (hacc : (own_dr w) < lim) :
    ∃ (T' : State) (L' : List Loc) (h' : Heap), Stand p l e R3 s m args below meth c T' L' 0 0 ∧ T'.heap = h' ∧ Fr n0 L' ∧ n0 ≤ h'.size ∧ Keep h0 h' [ao] ∧ Exa Z h' ao "com/example/consigliere/consigliere/engine/Rng" ∧ Fld Z h' ao "com/example/consigliere/consigliere/engine/Rng" "state" "J" (.long (v4_9 w)) ∧ ∀ t, Steps p.tables e below (T'.setTop (mkF m 45 #[.val (.ref ao), .val (.int pb), .val (.long lim), .second, .val (.long (own_dr w)), .second] [])) t → Steps p.tables e below (T0.setTop (mkF m 29 #[.val (.ref ao), .val (.int pb), .val (.long lim), .second, .unset, .unset] [])) t := by
  have pre0 : ∀ t, Steps p.tables e below (T0.setTop (mkF m 29 #[.val (.ref ao), .val (.int pb), .val (.long lim), .second, .unset, .unset] [])) t → Steps p.tables e below (T0.setTop (mkF m 29 #[.val (.ref ao), .val (.int pb), .val (.long lim), .second, .unset, .unset] [])) t := fun t k => k
  have pre1 : ∀ t, Steps p.tables e below (T0.setTop (mkF m 30 #[.val (.ref ao), .val (.int pb), .val (.long lim), .second, .unset, .unset] [(.ref ao)])) t → Steps p.tables e below (T0.setTop (mkF m 29 #[.val (.ref ao), .val (.int pb), .val (.long lim), .second, .unset, .unset] [])) t := fun t k => pre0 t (by
    refine XS.aloadN X0.here hx rfl (hb hby d3_29) rfl rfl ?_
    show Steps p.tables e below (T0.setTop (mkF m 30 #[.val (.ref ao), .val (.int pb), .val (.long lim), .second, .unset, .unset] [(.ref ao)])) _
    exact k)
  obtain ⟨cq2, kq2, qa2, qb2, qc2⟩ := isOf hZ e0 hE
  obtain ⟨_, _, ⟨T2, L2, k2, n2⟩, -, X2, ⟨Lc2, hQ2, l2, y2, z2⟩, st2⟩ := X0.virtualBack hx (y := (⟨"com/example/consigliere/consigliere/engine/Rng", "nextLong", "()J"⟩ : MethodName)) (z := (⟨"com/example/consigliere/consigliere/engine/Rng", "nextLong", "()J"⟩ : MethodName)) hown (mvT hZ (hw _ (List.mem_of_getElem? (i := 17) rfl))) (mvT hZ (hw _ (List.mem_of_getElem? (i := 18) rfl))) (notFace_of_selects (args := #[]) (mvT hZ (hw _ (List.mem_of_getElem? (i := 20) rfl)))) (mvT hZ (hw _ (List.mem_of_getElem? (i := 20) rfl))) (mvT hZ (hw _ (List.mem_of_getElem? (i := 19) rfl))) (by decide) (backOf (W := 0) (rm4 l Z a0 hw [] ao w h0 n0 Z0 hE hF g_ao) hZ (hw _ (List.mem_of_getElem? (i := 21) rfl)) (hw _ (List.mem_of_getElem? (i := 2) rfl)) (by decide) (by decide)) qa2 qc2 (g := (mkF m 30 #[.val (.ref ao), .val (.int pb), .val (.long lim), .second, .unset, .unset] [(.ref ao)])) rfl (by rw [hml]; rfl) (Steps.refl _) (argsL := []) (rest := []) (lenOf pd_0 rfl) rfl (by show 2 * 0 + _ ≤ _; exact Nat.le_of_eq rfl) (hb hby d3_30) (fun _ _ => ⟨rfl, e0, (by decide : 0 + 0 ≤ _), (by decide : 0 + 0 ≤ _)⟩)
  dsimp only [Pt.U, Pt.locs, Pt.cells, Pt.slots] at X2 l2 y2 z2 st2 hQ2
  subst l2 y2 z2
  obtain ⟨rfl, M2, K2c, P2_0⟩ := hQ2
  have N2 := Fr.app N0 M2
  have K2 : Keep h0 T2.heap [ao] := K2c
  have Z2 : n0 ≤ T2.heap.size := Nat.le_trans Z0 K2.1
  have Ex3 : Exa Z T2.heap ao "com/example/consigliere/consigliere/engine/Rng" := hE.keep K2
  have F4 : Fld Z T2.heap ao "com/example/consigliere/consigliere/engine/Rng" "state" "J" (.long (v4_9 w)) := P2_0
  have KK2 : Keep h0 T2.heap [ao] := (Keep.refl h0 [ao]).trans K2 (allS (Or.inl (by simp)) all0)
  have pre2 : ∀ t, Steps p.tables e below (T2.setTop (mkF m 33 #[.val (.ref ao), .val (.int pb), .val (.long lim), .second, .unset, .unset] [(.long (r4 w))])) t → Steps p.tables e below (T0.setTop (mkF m 29 #[.val (.ref ao), .val (.int pb), .val (.long lim), .second, .unset, .unset] [])) t := fun t k => pre1 t (st2.trans k)
  have pre6 : ∀ t, Steps p.tables e below (T2.setTop (mkF m 45 #[.val (.ref ao), .val (.int pb), .val (.long lim), .second, .val (.long (own_dr w)), .second] [])) t → Steps p.tables e below (T0.setTop (mkF m 29 #[.val (.ref ao), .val (.int pb), .val (.long lim), .second, .unset, .unset] [])) t := fun t k => pre2 t (by
    refine XS.bipush X2.here hx rfl (hb hby d3_33) ?_
    show Steps p.tables e below (T2.setTop (mkF m 35 #[.val (.ref ao), .val (.int pb), .val (.long lim), .second, .unset, .unset] [(.int (32 : Int32)), (.long (r4 w))])) _
    refine XS.lushr X2.here hx rfl (hb hby d3_35) rfl ?_
    show Steps p.tables e below (T2.setTop (mkF m 36 #[.val (.ref ao), .val (.int pb), .val (.long lim), .second, .unset, .unset] [(.long (own_ushrL (r4 w) (32 : Int32)))])) _
    show Steps p.tables e below (T2.setTop (mkF m 36 #[.val (.ref ao), .val (.int pb), .val (.long lim), .second, .unset, .unset] [(.long (own_dr w))])) _
    refine XS.lstore X2.here hx rfl (hb hby d3_36) rfl (l' := #[.val (.ref ao), .val (.int pb), .val (.long lim), .second, .val (.long (own_dr w)), .second]) rfl ?_
    show Steps p.tables e below (T2.setTop (mkF m 38 #[.val (.ref ao), .val (.int pb), .val (.long lim), .second, .val (.long (own_dr w)), .second] [])) _
    refine XS.lload X2.here hx rfl (hb hby d3_38) rfl ?_
    show Steps p.tables e below (T2.setTop (mkF m 40 #[.val (.ref ao), .val (.int pb), .val (.long lim), .second, .val (.long (own_dr w)), .second] [(.long (own_dr w))])) _
    refine XS.lloadN X2.here hx rfl (hb hby d3_40) rfl ?_
    show Steps p.tables e below (T2.setTop (mkF m 41 #[.val (.ref ao), .val (.int pb), .val (.long lim), .second, .val (.long (own_dr w)), .second] [(.long lim), (.long (own_dr w))])) _
    refine XS.lcmp X2.here hx rfl (hb hby d3_41) rfl ?_
    show Steps p.tables e below (T2.setTop (mkF m 42 #[.val (.ref ao), .val (.int pb), .val (.long lim), .second, .val (.long (own_dr w)), .second] [(.int (lcmpW (own_dr w) lim))])) _
    refine XS.ifNo X2.here hx rfl (hb hby d3_42) rfl ((if0 _ _).trans (tlt ((lw_lt (own_dr w) lim).mpr (show (own_dr w) < lim from hacc))).2.1) ?_
    show Steps p.tables e below (T2.setTop (mkF m 45 #[.val (.ref ao), .val (.int pb), .val (.long lim), .second, .val (.long (own_dr w)), .second] [])) _
    exact k)
  exact ⟨T2, _, _, X2, rfl, N2, Z2, KK2, Ex3, F4, pre6⟩
set_option maxRecDepth 65536 in
set_option maxHeartbeats 40000000 in
theorem tnB_go {p : Program} {l : Launch} {e : Env} {s : State} {m : MethodId} {args : Array Value} {below : List Frame} {meth : Method} {c : Code} {T0 : State} {locs : List Loc} {Z : State} {a0 : Array Value} {h0 : Heap} {n0 : Nat} (ao : Addr) (pb : Int32) (lim : Int64) (w : Int64) (dr : Int64)
    (X0 : Stand p l e R3 s m args below meth c T0 locs 0 0) (hx : p.tables.exec = Jvm.exec) (hZ : Z.Warmed39 s.vm) (hw : ∀ d ∈ tables_1, d.before a0 Z = true) (hby : c.code = prog_3_method_3_code) (hml : c.maxLocals = 6) (hown : s.vm.findClass "com/example/consigliere/consigliere/engine/Rng" = some m.cls) (e0 : T0.heap = h0) (N0 : Fr n0 locs) (Z0 : n0 ≤ h0.size) (g_ao : n0 ≤ ao) (hE : Exa Z h0 ao "com/example/consigliere/consigliere/engine/Rng") (hF : Fld Z h0 ao "com/example/consigliere/consigliere/engine/Rng" "state" "J" (.long w)) (hrej : ¬ (own_dr w) < lim) :
    ∃ (T' : State) (L' : List Loc) (h' : Heap), Stand p l e R3 s m args below meth c T' L' 0 0 ∧ T'.heap = h' ∧ Fr n0 L' ∧ n0 ≤ h'.size ∧ Keep h0 h' [ao] ∧ Exa Z h' ao "com/example/consigliere/consigliere/engine/Rng" ∧ Fld Z h' ao "com/example/consigliere/consigliere/engine/Rng" "state" "J" (.long (v4_9 w)) ∧ ∀ t, Steps p.tables e below (T'.setTop (mkF m 29 #[.val (.ref ao), .val (.int pb), .val (.long lim), .second, .val (.long (own_dr w)), .second] [])) t → Steps p.tables e below (T0.setTop (mkF m 29 #[.val (.ref ao), .val (.int pb), .val (.long lim), .second, .val (.long dr), .second] [])) t := by
  have pre0 : ∀ t, Steps p.tables e below (T0.setTop (mkF m 29 #[.val (.ref ao), .val (.int pb), .val (.long lim), .second, .val (.long dr), .second] [])) t → Steps p.tables e below (T0.setTop (mkF m 29 #[.val (.ref ao), .val (.int pb), .val (.long lim), .second, .val (.long dr), .second] [])) t := fun t k => k
  have pre1 : ∀ t, Steps p.tables e below (T0.setTop (mkF m 30 #[.val (.ref ao), .val (.int pb), .val (.long lim), .second, .val (.long dr), .second] [(.ref ao)])) t → Steps p.tables e below (T0.setTop (mkF m 29 #[.val (.ref ao), .val (.int pb), .val (.long lim), .second, .val (.long dr), .second] [])) t := fun t k => pre0 t (by
    refine XS.aloadN X0.here hx rfl (hb hby d3_29) rfl rfl ?_
    show Steps p.tables e below (T0.setTop (mkF m 30 #[.val (.ref ao), .val (.int pb), .val (.long lim), .second, .val (.long dr), .second] [(.ref ao)])) _
    exact k)
  obtain ⟨cq2, kq2, qa2, qb2, qc2⟩ := isOf hZ e0 hE
  obtain ⟨_, _, ⟨T2, L2, k2, n2⟩, -, X2, ⟨Lc2, hQ2, l2, y2, z2⟩, st2⟩ := X0.virtualBack hx (y := (⟨"com/example/consigliere/consigliere/engine/Rng", "nextLong", "()J"⟩ : MethodName)) (z := (⟨"com/example/consigliere/consigliere/engine/Rng", "nextLong", "()J"⟩ : MethodName)) hown (mvT hZ (hw _ (List.mem_of_getElem? (i := 17) rfl))) (mvT hZ (hw _ (List.mem_of_getElem? (i := 18) rfl))) (notFace_of_selects (args := #[]) (mvT hZ (hw _ (List.mem_of_getElem? (i := 20) rfl)))) (mvT hZ (hw _ (List.mem_of_getElem? (i := 20) rfl))) (mvT hZ (hw _ (List.mem_of_getElem? (i := 19) rfl))) (by decide) (backOf (W := 0) (rm4 l Z a0 hw [] ao w h0 n0 Z0 hE hF g_ao) hZ (hw _ (List.mem_of_getElem? (i := 21) rfl)) (hw _ (List.mem_of_getElem? (i := 2) rfl)) (by decide) (by decide)) qa2 qc2 (g := (mkF m 30 #[.val (.ref ao), .val (.int pb), .val (.long lim), .second, .val (.long dr), .second] [(.ref ao)])) rfl (by rw [hml]; rfl) (Steps.refl _) (argsL := []) (rest := []) (lenOf pd_0 rfl) rfl (by show 2 * 0 + _ ≤ _; exact Nat.le_of_eq rfl) (hb hby d3_30) (fun _ _ => ⟨rfl, e0, (by decide : 0 + 0 ≤ _), (by decide : 0 + 0 ≤ _)⟩)
  dsimp only [Pt.U, Pt.locs, Pt.cells, Pt.slots] at X2 l2 y2 z2 st2 hQ2
  subst l2 y2 z2
  obtain ⟨rfl, M2, K2c, P2_0⟩ := hQ2
  have N2 := Fr.app N0 M2
  have K2 : Keep h0 T2.heap [ao] := K2c
  have Z2 : n0 ≤ T2.heap.size := Nat.le_trans Z0 K2.1
  have Ex3 : Exa Z T2.heap ao "com/example/consigliere/consigliere/engine/Rng" := hE.keep K2
  have F4 : Fld Z T2.heap ao "com/example/consigliere/consigliere/engine/Rng" "state" "J" (.long (v4_9 w)) := P2_0
  have KK2 : Keep h0 T2.heap [ao] := (Keep.refl h0 [ao]).trans K2 (allS (Or.inl (by simp)) all0)
  have pre2 : ∀ t, Steps p.tables e below (T2.setTop (mkF m 33 #[.val (.ref ao), .val (.int pb), .val (.long lim), .second, .val (.long dr), .second] [(.long (r4 w))])) t → Steps p.tables e below (T0.setTop (mkF m 29 #[.val (.ref ao), .val (.int pb), .val (.long lim), .second, .val (.long dr), .second] [])) t := fun t k => pre1 t (st2.trans k)
  have pre6 : ∀ t, Steps p.tables e below (T2.setTop (mkF m 29 #[.val (.ref ao), .val (.int pb), .val (.long lim), .second, .val (.long (own_dr w)), .second] [])) t → Steps p.tables e below (T0.setTop (mkF m 29 #[.val (.ref ao), .val (.int pb), .val (.long lim), .second, .val (.long dr), .second] [])) t := fun t k => pre2 t (by
    refine XS.bipush X2.here hx rfl (hb hby d3_33) ?_
    show Steps p.tables e below (T2.setTop (mkF m 35 #[.val (.ref ao), .val (.int pb), .val (.long lim), .second, .val (.long dr), .second] [(.int (32 : Int32)), (.long (r4 w))])) _
    refine XS.lushr X2.here hx rfl (hb hby d3_35) rfl ?_
    show Steps p.tables e below (T2.setTop (mkF m 36 #[.val (.ref ao), .val (.int pb), .val (.long lim), .second, .val (.long dr), .second] [(.long (own_ushrL (r4 w) (32 : Int32)))])) _
    show Steps p.tables e below (T2.setTop (mkF m 36 #[.val (.ref ao), .val (.int pb), .val (.long lim), .second, .val (.long dr), .second] [(.long (own_dr w))])) _
    refine XS.lstore X2.here hx rfl (hb hby d3_36) rfl (l' := #[.val (.ref ao), .val (.int pb), .val (.long lim), .second, .val (.long (own_dr w)), .second]) rfl ?_
    show Steps p.tables e below (T2.setTop (mkF m 38 #[.val (.ref ao), .val (.int pb), .val (.long lim), .second, .val (.long (own_dr w)), .second] [])) _
    refine XS.lload X2.here hx rfl (hb hby d3_38) rfl ?_
    show Steps p.tables e below (T2.setTop (mkF m 40 #[.val (.ref ao), .val (.int pb), .val (.long lim), .second, .val (.long (own_dr w)), .second] [(.long (own_dr w))])) _
    refine XS.lloadN X2.here hx rfl (hb hby d3_40) rfl ?_
    show Steps p.tables e below (T2.setTop (mkF m 41 #[.val (.ref ao), .val (.int pb), .val (.long lim), .second, .val (.long (own_dr w)), .second] [(.long lim), (.long (own_dr w))])) _
    refine XS.lcmp X2.here hx rfl (hb hby d3_41) rfl ?_
    show Steps p.tables e below (T2.setTop (mkF m 42 #[.val (.ref ao), .val (.int pb), .val (.long lim), .second, .val (.long (own_dr w)), .second] [(.int (lcmpW (own_dr w) lim))])) _
    refine XS.ifYes X2.here hx rfl (pc0 := 42) (pc' := 29) rfl (hb hby d3_42) rfl ((if0 _ _).trans (flt (fun q => (show ¬ ((own_dr w) < lim) from hrej) ((lw_lt (own_dr w) lim).mp q))).2.1) (by decide) (by decide) ?_
    show Steps p.tables e below (T2.setTop (mkF m 29 #[.val (.ref ao), .val (.int pb), .val (.long lim), .second, .val (.long (own_dr w)), .second] [])) _
    exact k)
  exact ⟨T2, _, _, X2, rfl, N2, Z2, KK2, Ex3, F4, pre6⟩
set_option maxRecDepth 65536 in
set_option maxHeartbeats 40000000 in
theorem tnB_out {p : Program} {l : Launch} {e : Env} {s : State} {m : MethodId} {args : Array Value} {below : List Frame} {meth : Method} {c : Code} {T0 : State} {locs : List Loc} {Z : State} {a0 : Array Value} {h0 : Heap} {n0 : Nat} (ao : Addr) (pb : Int32) (lim : Int64) (w : Int64) (dr : Int64)
    (X0 : Stand p l e R3 s m args below meth c T0 locs 0 0) (hx : p.tables.exec = Jvm.exec) (hZ : Z.Warmed39 s.vm) (hw : ∀ d ∈ tables_1, d.before a0 Z = true) (hby : c.code = prog_3_method_3_code) (hml : c.maxLocals = 6) (hown : s.vm.findClass "com/example/consigliere/consigliere/engine/Rng" = some m.cls) (e0 : T0.heap = h0) (N0 : Fr n0 locs) (Z0 : n0 ≤ h0.size) (g_ao : n0 ≤ ao) (hE : Exa Z h0 ao "com/example/consigliere/consigliere/engine/Rng") (hF : Fld Z h0 ao "com/example/consigliere/consigliere/engine/Rng" "state" "J" (.long w)) (hacc : (own_dr w) < lim) :
    ∃ (T' : State) (L' : List Loc) (h' : Heap), Stand p l e R3 s m args below meth c T' L' 0 0 ∧ T'.heap = h' ∧ Fr n0 L' ∧ n0 ≤ h'.size ∧ Keep h0 h' [ao] ∧ Exa Z h' ao "com/example/consigliere/consigliere/engine/Rng" ∧ Fld Z h' ao "com/example/consigliere/consigliere/engine/Rng" "state" "J" (.long (v4_9 w)) ∧ ∀ t, Steps p.tables e below (T'.setTop (mkF m 45 #[.val (.ref ao), .val (.int pb), .val (.long lim), .second, .val (.long (own_dr w)), .second] [])) t → Steps p.tables e below (T0.setTop (mkF m 29 #[.val (.ref ao), .val (.int pb), .val (.long lim), .second, .val (.long dr), .second] [])) t := by
  have pre0 : ∀ t, Steps p.tables e below (T0.setTop (mkF m 29 #[.val (.ref ao), .val (.int pb), .val (.long lim), .second, .val (.long dr), .second] [])) t → Steps p.tables e below (T0.setTop (mkF m 29 #[.val (.ref ao), .val (.int pb), .val (.long lim), .second, .val (.long dr), .second] [])) t := fun t k => k
  have pre1 : ∀ t, Steps p.tables e below (T0.setTop (mkF m 30 #[.val (.ref ao), .val (.int pb), .val (.long lim), .second, .val (.long dr), .second] [(.ref ao)])) t → Steps p.tables e below (T0.setTop (mkF m 29 #[.val (.ref ao), .val (.int pb), .val (.long lim), .second, .val (.long dr), .second] [])) t := fun t k => pre0 t (by
    refine XS.aloadN X0.here hx rfl (hb hby d3_29) rfl rfl ?_
    show Steps p.tables e below (T0.setTop (mkF m 30 #[.val (.ref ao), .val (.int pb), .val (.long lim), .second, .val (.long dr), .second] [(.ref ao)])) _
    exact k)
  obtain ⟨cq2, kq2, qa2, qb2, qc2⟩ := isOf hZ e0 hE
  obtain ⟨_, _, ⟨T2, L2, k2, n2⟩, -, X2, ⟨Lc2, hQ2, l2, y2, z2⟩, st2⟩ := X0.virtualBack hx (y := (⟨"com/example/consigliere/consigliere/engine/Rng", "nextLong", "()J"⟩ : MethodName)) (z := (⟨"com/example/consigliere/consigliere/engine/Rng", "nextLong", "()J"⟩ : MethodName)) hown (mvT hZ (hw _ (List.mem_of_getElem? (i := 17) rfl))) (mvT hZ (hw _ (List.mem_of_getElem? (i := 18) rfl))) (notFace_of_selects (args := #[]) (mvT hZ (hw _ (List.mem_of_getElem? (i := 20) rfl)))) (mvT hZ (hw _ (List.mem_of_getElem? (i := 20) rfl))) (mvT hZ (hw _ (List.mem_of_getElem? (i := 19) rfl))) (by decide) (backOf (W := 0) (rm4 l Z a0 hw [] ao w h0 n0 Z0 hE hF g_ao) hZ (hw _ (List.mem_of_getElem? (i := 21) rfl)) (hw _ (List.mem_of_getElem? (i := 2) rfl)) (by decide) (by decide)) qa2 qc2 (g := (mkF m 30 #[.val (.ref ao), .val (.int pb), .val (.long lim), .second, .val (.long dr), .second] [(.ref ao)])) rfl (by rw [hml]; rfl) (Steps.refl _) (argsL := []) (rest := []) (lenOf pd_0 rfl) rfl (by show 2 * 0 + _ ≤ _; exact Nat.le_of_eq rfl) (hb hby d3_30) (fun _ _ => ⟨rfl, e0, (by decide : 0 + 0 ≤ _), (by decide : 0 + 0 ≤ _)⟩)
  dsimp only [Pt.U, Pt.locs, Pt.cells, Pt.slots] at X2 l2 y2 z2 st2 hQ2
  subst l2 y2 z2
  obtain ⟨rfl, M2, K2c, P2_0⟩ := hQ2
  have N2 := Fr.app N0 M2
  have K2 : Keep h0 T2.heap [ao] := K2c
  have Z2 : n0 ≤ T2.heap.size := Nat.le_trans Z0 K2.1
  have Ex3 : Exa Z T2.heap ao "com/example/consigliere/consigliere/engine/Rng" := hE.keep K2
  have F4 : Fld Z T2.heap ao "com/example/consigliere/consigliere/engine/Rng" "state" "J" (.long (v4_9 w)) := P2_0
  have KK2 : Keep h0 T2.heap [ao] := (Keep.refl h0 [ao]).trans K2 (allS (Or.inl (by simp)) all0)
  have pre2 : ∀ t, Steps p.tables e below (T2.setTop (mkF m 33 #[.val (.ref ao), .val (.int pb), .val (.long lim), .second, .val (.long dr), .second] [(.long (r4 w))])) t → Steps p.tables e below (T0.setTop (mkF m 29 #[.val (.ref ao), .val (.int pb), .val (.long lim), .second, .val (.long dr), .second] [])) t := fun t k => pre1 t (st2.trans k)
  have pre6 : ∀ t, Steps p.tables e below (T2.setTop (mkF m 45 #[.val (.ref ao), .val (.int pb), .val (.long lim), .second, .val (.long (own_dr w)), .second] [])) t → Steps p.tables e below (T0.setTop (mkF m 29 #[.val (.ref ao), .val (.int pb), .val (.long lim), .second, .val (.long dr), .second] [])) t := fun t k => pre2 t (by
    refine XS.bipush X2.here hx rfl (hb hby d3_33) ?_
    show Steps p.tables e below (T2.setTop (mkF m 35 #[.val (.ref ao), .val (.int pb), .val (.long lim), .second, .val (.long dr), .second] [(.int (32 : Int32)), (.long (r4 w))])) _
    refine XS.lushr X2.here hx rfl (hb hby d3_35) rfl ?_
    show Steps p.tables e below (T2.setTop (mkF m 36 #[.val (.ref ao), .val (.int pb), .val (.long lim), .second, .val (.long dr), .second] [(.long (own_ushrL (r4 w) (32 : Int32)))])) _
    show Steps p.tables e below (T2.setTop (mkF m 36 #[.val (.ref ao), .val (.int pb), .val (.long lim), .second, .val (.long dr), .second] [(.long (own_dr w))])) _
    refine XS.lstore X2.here hx rfl (hb hby d3_36) rfl (l' := #[.val (.ref ao), .val (.int pb), .val (.long lim), .second, .val (.long (own_dr w)), .second]) rfl ?_
    show Steps p.tables e below (T2.setTop (mkF m 38 #[.val (.ref ao), .val (.int pb), .val (.long lim), .second, .val (.long (own_dr w)), .second] [])) _
    refine XS.lload X2.here hx rfl (hb hby d3_38) rfl ?_
    show Steps p.tables e below (T2.setTop (mkF m 40 #[.val (.ref ao), .val (.int pb), .val (.long lim), .second, .val (.long (own_dr w)), .second] [(.long (own_dr w))])) _
    refine XS.lloadN X2.here hx rfl (hb hby d3_40) rfl ?_
    show Steps p.tables e below (T2.setTop (mkF m 41 #[.val (.ref ao), .val (.int pb), .val (.long lim), .second, .val (.long (own_dr w)), .second] [(.long lim), (.long (own_dr w))])) _
    refine XS.lcmp X2.here hx rfl (hb hby d3_41) rfl ?_
    show Steps p.tables e below (T2.setTop (mkF m 42 #[.val (.ref ao), .val (.int pb), .val (.long lim), .second, .val (.long (own_dr w)), .second] [(.int (lcmpW (own_dr w) lim))])) _
    refine XS.ifNo X2.here hx rfl (hb hby d3_42) rfl ((if0 _ _).trans (tlt ((lw_lt (own_dr w) lim).mpr (show (own_dr w) < lim from hacc))).2.1) ?_
    show Steps p.tables e below (T2.setTop (mkF m 45 #[.val (.ref ao), .val (.int pb), .val (.long lim), .second, .val (.long (own_dr w)), .second] [])) _
    exact k)
  exact ⟨T2, _, _, X2, rfl, N2, Z2, KK2, Ex3, F4, pre6⟩
def own_itG (f : Int64 → Int64) : Nat → Int64 → Int64
  | 0, w => w
  | k + 1, w => own_itG f k (f w)
theorem own_itG_s (f : Int64 → Int64) (k : Nat) (w : Int64) : own_itG f (k + 1) w = own_itG f k (f w) := rfl
def own_it (k : Nat) (w : Int64) : Int64 := own_itG v4_9 k w
theorem own_it_zero (w : Int64) : own_it 0 w = w := rfl
theorem own_it_succ (k : Nat) (w : Int64) : own_it (k + 1) w = own_it k (v4_9 w) := own_itG_s v4_9 k w
def own_lim (b : Int32) : Int64 := (4294967296 : Int64) - (own_remL (4294967296 : Int64) (b.toInt64))
theorem own_nzb {b : Int32} (hb : (0 : Int32) < b) : b.toInt64 ≠ 0 := fun h => by
  have q : b.toInt64.toInt = 0 := by rw [h]; rfl
  rw [Jvm.Kit.i64_of_i32] at q
  rw [Int32.lt_iff_toInt_lt, show (0 : Int32).toInt = 0 from rfl] at hb
  omega
set_option maxRecDepth 65536 in
set_option maxHeartbeats 4000000 in
theorem loopB {p : Program} {l : Launch} {e : Env} {s : State} {m : MethodId} {args : Array Value} {below : List Frame} {meth : Method} {c : Code} {Z : State} {a0 : Array Value} {n0 : Nat} (hx : p.tables.exec = Jvm.exec) (hZ : Z.Warmed39 s.vm) (hw : ∀ d ∈ tables_1, d.before a0 Z = true) (hby : c.code = prog_3_method_3_code) (hml : c.maxLocals = 6) (hown : s.vm.findClass "com/example/consigliere/consigliere/engine/Rng" = some m.cls)
    (ao : Addr) (pb : Int32) (lim : Int64) (g_ao : n0 ≤ ao) :
    ∀ (j : Nat) (w dr : Int64) {T0 : State} {locs : List Loc} {h0 : Heap}, (∀ i, i < j → ¬ (own_dr (own_it i w)) < lim) → (own_dr (own_it j w)) < lim → Stand p l e R3 s m args below meth c T0 locs 0 0 → T0.heap = h0 → Fr n0 locs → n0 ≤ h0.size →
      Exa Z h0 ao "com/example/consigliere/consigliere/engine/Rng" → Fld Z h0 ao "com/example/consigliere/consigliere/engine/Rng" "state" "J" (.long w) →
      ∃ (T' : State) (L' : List Loc) (h' : Heap), Stand p l e R3 s m args below meth c T' L' 0 0 ∧ T'.heap = h' ∧ Fr n0 L' ∧ n0 ≤ h'.size ∧ Keep h0 h' [ao] ∧ Exa Z h' ao "com/example/consigliere/consigliere/engine/Rng" ∧ Fld Z h' ao "com/example/consigliere/consigliere/engine/Rng" "state" "J" (.long (own_it (j + 1) w)) ∧
        ∀ t, Steps p.tables e below (T'.setTop (mkF m 45 #[.val (.ref ao), .val (.int pb), .val (.long lim), .second, .val (.long (own_dr (own_it j w))), .second] [])) t → Steps p.tables e below (T0.setTop (mkF m 29 #[.val (.ref ao), .val (.int pb), .val (.long lim), .second, .val (.long dr), .second] [])) t := by
  intro j
  induction j with
  | zero =>
    intro w dr T0 locs h0 hrej hacc X0 e0 N0 Z0 hE hF
    rw [own_it_zero] at hacc
    rw [own_it_succ, own_it_zero, own_it_zero]
    obtain ⟨T1, L1, h1, X1, e1, N1, Z1, K1, E1, F1, st1⟩ := tnB_out ao pb lim w dr X0 hx hZ hw hby hml hown e0 N0 Z0 g_ao hE hF hacc
    exact ⟨T1, L1, h1, X1, e1, N1, Z1, K1, E1, F1, st1⟩
  | succ j ih =>
    intro w dr T0 locs h0 hrej hacc X0 e0 N0 Z0 hE hF
    have hr0 := hrej 0 (Nat.succ_pos j)
    rw [own_it_zero] at hr0
    rw [own_it_succ] at hacc
    rw [own_it_succ (j + 1) w, own_it_succ j w]
    obtain ⟨T1, L1, h1, X1, e1, N1, Z1, K1, E1, F1, st1⟩ := tnB_go ao pb lim w dr X0 hx hZ hw hby hml hown e0 N0 Z0 g_ao hE hF hr0
    obtain ⟨T2, L2, h2, X2, e2, N2, Z2, K2, E2, F2, st2⟩ := ih (v4_9 w) (own_dr w) (fun i hi => by have q := hrej (i + 1) (Nat.succ_lt_succ hi); rw [own_it_succ] at q; exact q) hacc X1 e1 N1 Z1 E1 F1
    exact ⟨T2, L2, h2, X2, e2, N2, Z2, K1.trans K2 (fun x q => Or.inl q), E2, F2, fun t k => st1 t (st2 t k)⟩
set_option maxRecDepth 65536 in
set_option maxHeartbeats 4000000 in
theorem loop_next {p : Program} {l : Launch} {e : Env} {s : State} {m : MethodId} {args : Array Value} {below : List Frame} {meth : Method} {c : Code} {Z : State} {a0 : Array Value} {n0 : Nat} {T0 : State} {locs : List Loc} {h0 : Heap} (hx : p.tables.exec = Jvm.exec) (hZ : Z.Warmed39 s.vm) (hw : ∀ d ∈ tables_1, d.before a0 Z = true) (hby : c.code = prog_3_method_3_code) (hml : c.maxLocals = 6) (hown : s.vm.findClass "com/example/consigliere/consigliere/engine/Rng" = some m.cls)
    (ao : Addr) (pb : Int32) (lim : Int64) (j : Nat) (w : Int64) (hrej : ∀ i, i < j → ¬ (own_dr (own_it i w)) < lim) (hacc : (own_dr (own_it j w)) < lim) (X0 : Stand p l e R3 s m args below meth c T0 locs 0 0) (e0 : T0.heap = h0) (N0 : Fr n0 locs) (Z0 : n0 ≤ h0.size) (g_ao : n0 ≤ ao)
    (hE : Exa Z h0 ao "com/example/consigliere/consigliere/engine/Rng") (hF : Fld Z h0 ao "com/example/consigliere/consigliere/engine/Rng" "state" "J" (.long w)) :
      ∃ (T' : State) (L' : List Loc) (h' : Heap), Stand p l e R3 s m args below meth c T' L' 0 0 ∧ T'.heap = h' ∧ Fr n0 L' ∧ n0 ≤ h'.size ∧ Keep h0 h' [ao] ∧ Exa Z h' ao "com/example/consigliere/consigliere/engine/Rng" ∧ Fld Z h' ao "com/example/consigliere/consigliere/engine/Rng" "state" "J" (.long (own_it (j + 1) w)) ∧
        ∀ t, Steps p.tables e below (T'.setTop (mkF m 45 #[.val (.ref ao), .val (.int pb), .val (.long lim), .second, .val (.long (own_dr (own_it j w))), .second] [])) t → Steps p.tables e below (T0.setTop (mkF m 29 #[.val (.ref ao), .val (.int pb), .val (.long lim), .second, .unset, .unset] [])) t := by
  cases j with
  | zero =>
    rw [own_it_zero] at hacc
    rw [own_it_succ, own_it_zero, own_it_zero]
    obtain ⟨T1, L1, h1, X1, e1, N1, Z1, K1, E1, F1, st1⟩ := tnA_out ao pb lim w 0 X0 hx hZ hw hby hml hown e0 N0 Z0 g_ao hE hF hacc
    exact ⟨T1, L1, h1, X1, e1, N1, Z1, K1, E1, F1, st1⟩
  | succ j =>
    have hr0 := hrej 0 (Nat.succ_pos j)
    rw [own_it_zero] at hr0
    rw [own_it_succ] at hacc
    rw [own_it_succ (j + 1) w, own_it_succ j w]
    obtain ⟨T1, L1, h1, X1, e1, N1, Z1, K1, E1, F1, st1⟩ := tnA_go ao pb lim w 0 X0 hx hZ hw hby hml hown e0 N0 Z0 g_ao hE hF hr0
    obtain ⟨T2, L2, h2, X2, e2, N2, Z2, K2, E2, F2, st2⟩ := loopB hx hZ hw hby hml hown ao pb lim g_ao j (v4_9 w) (own_dr w) (fun i hi => by have q := hrej (i + 1) (Nat.succ_lt_succ hi); rw [own_it_succ] at q; exact q) hacc X1 e1 N1 Z1 E1 F1
    exact ⟨T2, L2, h2, X2, e2, N2, Z2, K1.trans K2 (fun x q => Or.inl q), E2, F2, fun t k => st1 t (st2 t k)⟩

theorem d3_0 : decode prog_3_method_3_code 0 = .ok (.iload_n 1, 1) := by decide +kernel
theorem d3_1 : decode prog_3_method_3_code 1 = .ok (.ifCond .gt 17, 3) := by decide +kernel
theorem d3_18 : decode prog_3_method_3_code 18 = .ok (.ldc2_w 28, 3) := by decide +kernel
theorem d3_21 : decode prog_3_method_3_code 21 = .ok (.ldc2_w 28, 3) := by decide +kernel
theorem d3_24 : decode prog_3_method_3_code 24 = .ok (.iload_n 1, 1) := by decide +kernel
theorem d3_25 : decode prog_3_method_3_code 25 = .ok (.i2l, 1) := by decide +kernel
theorem d3_26 : decode prog_3_method_3_code 26 = .ok (.lrem, 1) := by decide +kernel
theorem d3_27 : decode prog_3_method_3_code 27 = .ok (.lsub, 1) := by decide +kernel
theorem d3_28 : decode prog_3_method_3_code 28 = .ok (.lstore_n 2, 1) := by decide +kernel
theorem d3_45 : decode prog_3_method_3_code 45 = .ok (.lload 4, 2) := by decide +kernel
theorem d3_47 : decode prog_3_method_3_code 47 = .ok (.iload_n 1, 1) := by decide +kernel
theorem d3_48 : decode prog_3_method_3_code 48 = .ok (.i2l, 1) := by decide +kernel
theorem d3_49 : decode prog_3_method_3_code 49 = .ok (.lrem, 1) := by decide +kernel
theorem d3_50 : decode prog_3_method_3_code 50 = .ok (.l2i, 1) := by decide +kernel
theorem d3_51 : decode prog_3_method_3_code 51 = .ok (.ireturn, 1) := by decide +kernel
theorem ef_3 (m : MethodId) (x0 : Addr) (x1 : Int32) : entryFrame m #[(.ref x0), (.int x1)] 6 = mkF m 0 #[.val (.ref x0), .val (.int x1), .unset, .unset, .unset, .unset] [] := by first | (simp [entryFrame, mkF, argsToLocals, Value.category]; done) | rfl
def r3 (pb : Int32) (jj : Nat) (w3_state : Int64) : Int32 := (((own_remL (own_dr (own_it jj w3_state)) ((pb).toInt64))).toInt32)
def Q3 (Z : State) (ao : Addr) (pb : Int32) (jj : Nat) (w3_state : Int64) (h0 : Heap) (n0 : Nat) (v : Option Value) (h : Heap) (L : List Loc) : Prop := v = some (.int (r3 pb jj w3_state)) ∧ Fr n0 L ∧ Keep h0 h [ao] ∧ Fld Z h ao "com/example/consigliere/consigliere/engine/Rng" "state" "J" (.long (own_it (jj + 1) w3_state))
set_option maxRecDepth 65536 in
set_option maxHeartbeats 40000000 in
theorem rm3 (l : Launch) (Z : State) (a0 : Array Value) (hw : ∀ d ∈ tables_1, d.before a0 Z = true) (ws : List Jvm.Cond) (ao : Addr) (pb : Int32) (jj : Nat) (w3_state : Int64) (h0 : Heap) (n0 : Nat) (Z0 : n0 ≤ h0.size) (hbp : (0 : Int32) < pb) (hrej : ∀ i, i < jj → ¬ (own_dr (own_it i w3_state)) < (own_lim pb)) (hacc : (own_dr (own_it jj w3_state)) < (own_lim pb)) (E_ao : Exa Z h0 ao "com/example/consigliere/consigliere/engine/Rng") (F_state_ao : Fld Z h0 ao "com/example/consigliere/consigliere/engine/Rng" "state" "J" (.long w3_state)) (g_ao : n0 ≤ ao) :
    MetFree l (⟨"com/example/consigliere/consigliere/engine/Rng", "nextInt", "(I)I"⟩ : MethodName) (head1 (Jvm.Cond.code (⟨"com/example/consigliere/consigliere/engine/Rng", "nextInt", "(I)I"⟩ : MethodName) prog_3_method_3_code 6 (some .int) :: ws) R3) (fun a U => a = #[(.ref ao), (.int pb)] ∧ Z.Warmed39 U.vm ∧ U.heap = h0) (fun _ _ _ _ _ => True) (fun _ U o U' => ∃ v L, o = .returned v ∧ Q3 Z ao pb jj w3_state h0 n0 v U'.heap L ∧ FrameEnd U o U' L R3.cells R3.slots) := by
  refine MetFree.of_bodySF (plainFor_of_name pn_0) hisR ?_
  intro p e s m args below meth c s₁ Bd hml0 hP hK
  obtain ⟨rfl, hZ, hh⟩ := hP
  have hx := Bd.exec
  have hby := Bd.bytes
  have hml : c.maxLocals = 6 := hml0
  have hown : s.vm.findClass "com/example/consigliere/consigliere/engine/Rng" = some m.cls := findClass_of_methodNamed Bd.named
  have hnm := (name_of_methodNamed Bd.named Bd.method).1
  have X0 : Stand p l e R3 s m #[(.ref ao), (.int pb)] below meth c s₁ [] 0 0 := Stand.of_body Bd
  have e0 : s₁.heap = h0 := by rw [← hh, Bd.state]; rfl
  have N0 := Fr.nil n0
  have pre0 : ∀ t, Steps p.tables e below (s₁.setTop (mkF m 0 #[.val (.ref ao), .val (.int pb), .unset, .unset, .unset, .unset] [])) t → Steps p.tables e below (s₁.setTop (entryFrame m #[(.ref ao), (.int pb)] 6)) t := fun t k => castTop (ef_3 m ao pb) k
  have pre2 : ∀ t, Steps p.tables e below (s₁.setTop (mkF m 29 #[.val (.ref ao), .val (.int pb), .val (.long (own_lim pb)), .second, .unset, .unset] [])) t → Steps p.tables e below (s₁.setTop (entryFrame m #[(.ref ao), (.int pb)] 6)) t := fun t k => pre0 t (by
    refine XS.iloadN X0.here hx rfl (hb hby d3_0) rfl ?_
    show Steps p.tables e below (s₁.setTop (mkF m 1 #[.val (.ref ao), .val (.int pb), .unset, .unset, .unset, .unset] [(.int pb)])) _
    refine XS.ifYes X0.here hx rfl (pc0 := 1) (pc' := 18) rfl (hb hby d3_1) rfl ((if0 _ _).trans (tlt (show (0 : Int32) < pb from hbp)).2.2.1) (by decide) (by decide) ?_
    show Steps p.tables e below (s₁.setTop (mkF m 18 #[.val (.ref ao), .val (.int pb), .unset, .unset, .unset, .unset] [])) _
    refine X0.ldc2Long hx hown (mvT hZ (hw _ (List.mem_of_getElem? (i := 16) rfl))) (g := (mkF m 18 #[.val (.ref ao), .val (.int pb), .unset, .unset, .unset, .unset] [])) rfl (hb hby d3_18) _ ?_
    show Steps p.tables e below (s₁.setTop (mkF m 21 #[.val (.ref ao), .val (.int pb), .unset, .unset, .unset, .unset] [(.long (4294967296 : Int64))])) _
    refine X0.ldc2Long hx hown (mvT hZ (hw _ (List.mem_of_getElem? (i := 16) rfl))) (g := (mkF m 21 #[.val (.ref ao), .val (.int pb), .unset, .unset, .unset, .unset] [(.long (4294967296 : Int64))])) rfl (hb hby d3_21) _ ?_
    show Steps p.tables e below (s₁.setTop (mkF m 24 #[.val (.ref ao), .val (.int pb), .unset, .unset, .unset, .unset] [(.long (4294967296 : Int64)), (.long (4294967296 : Int64))])) _
    refine XS.iloadN X0.here hx rfl (hb hby d3_24) rfl ?_
    show Steps p.tables e below (s₁.setTop (mkF m 25 #[.val (.ref ao), .val (.int pb), .unset, .unset, .unset, .unset] [(.int pb), (.long (4294967296 : Int64)), (.long (4294967296 : Int64))])) _
    refine XS.i2l X0.here hx rfl (hb hby d3_25) rfl ?_
    show Steps p.tables e below (s₁.setTop (mkF m 26 #[.val (.ref ao), .val (.int pb), .unset, .unset, .unset, .unset] [(.long ((pb).toInt64)), (.long (4294967296 : Int64)), (.long (4294967296 : Int64))])) _
    refine XS.lrem X0.here hx rfl (hb hby d3_26) rfl (own_nzb hbp) ?_
    show Steps p.tables e below (s₁.setTop (mkF m 27 #[.val (.ref ao), .val (.int pb), .unset, .unset, .unset, .unset] [(.long (own_remL (4294967296 : Int64) ((pb).toInt64))), (.long (4294967296 : Int64))])) _
    refine XS.lsub X0.here hx rfl (hb hby d3_27) rfl ?_
    show Steps p.tables e below (s₁.setTop (mkF m 28 #[.val (.ref ao), .val (.int pb), .unset, .unset, .unset, .unset] [(.long ((4294967296 : Int64) - (own_remL (4294967296 : Int64) ((pb).toInt64))))])) _
    show Steps p.tables e below (s₁.setTop (mkF m 28 #[.val (.ref ao), .val (.int pb), .unset, .unset, .unset, .unset] [(.long (own_lim pb))])) _
    refine XS.lstoreN X0.here hx rfl (hb hby d3_28) rfl (l' := #[.val (.ref ao), .val (.int pb), .val (.long (own_lim pb)), .second, .unset, .unset]) rfl ?_
    show Steps p.tables e below (s₁.setTop (mkF m 29 #[.val (.ref ao), .val (.int pb), .val (.long (own_lim pb)), .second, .unset, .unset] [])) _
    exact k)
  obtain ⟨T3, L3, h3, X3, e3, N3, Z3, K3, Ex3, F3, st3⟩ := loop_next (T0 := s₁) hx hZ hw hby hml hown ao pb (own_lim pb) jj w3_state hrej hacc X0 e0 N0 Z0 g_ao E_ao F_state_ao
  have pre3 : ∀ t, Steps p.tables e below (T3.setTop (mkF m 45 #[.val (.ref ao), .val (.int pb), .val (.long (own_lim pb)), .second, .val (.long (own_dr (own_it jj w3_state))), .second] [])) t → Steps p.tables e below (s₁.setTop (entryFrame m #[(.ref ao), (.int pb)] 6)) t := fun t k => pre2 t (st3 t k)
  have pre4 : ∀ t, Steps p.tables e below (T3.setTop (mkF m 51 #[.val (.ref ao), .val (.int pb), .val (.long (own_lim pb)), .second, .val (.long (own_dr (own_it jj w3_state))), .second] [(.int (((own_remL (own_dr (own_it jj w3_state)) ((pb).toInt64))).toInt32))])) t → Steps p.tables e below (s₁.setTop (entryFrame m #[(.ref ao), (.int pb)] 6)) t := fun t k => pre3 t (by
    refine XS.lload X3.here hx rfl (hb hby d3_45) rfl ?_
    show Steps p.tables e below (T3.setTop (mkF m 47 #[.val (.ref ao), .val (.int pb), .val (.long (own_lim pb)), .second, .val (.long (own_dr (own_it jj w3_state))), .second] [(.long (own_dr (own_it jj w3_state)))])) _
    refine XS.iloadN X3.here hx rfl (hb hby d3_47) rfl ?_
    show Steps p.tables e below (T3.setTop (mkF m 48 #[.val (.ref ao), .val (.int pb), .val (.long (own_lim pb)), .second, .val (.long (own_dr (own_it jj w3_state))), .second] [(.int pb), (.long (own_dr (own_it jj w3_state)))])) _
    refine XS.i2l X3.here hx rfl (hb hby d3_48) rfl ?_
    show Steps p.tables e below (T3.setTop (mkF m 49 #[.val (.ref ao), .val (.int pb), .val (.long (own_lim pb)), .second, .val (.long (own_dr (own_it jj w3_state))), .second] [(.long ((pb).toInt64)), (.long (own_dr (own_it jj w3_state)))])) _
    refine XS.lrem X3.here hx rfl (hb hby d3_49) rfl (own_nzb hbp) ?_
    show Steps p.tables e below (T3.setTop (mkF m 50 #[.val (.ref ao), .val (.int pb), .val (.long (own_lim pb)), .second, .val (.long (own_dr (own_it jj w3_state))), .second] [(.long (own_remL (own_dr (own_it jj w3_state)) ((pb).toInt64)))])) _
    refine XS.l2i X3.here hx rfl (hb hby d3_50) rfl ?_
    show Steps p.tables e below (T3.setTop (mkF m 51 #[.val (.ref ao), .val (.int pb), .val (.long (own_lim pb)), .second, .val (.long (own_dr (own_it jj w3_state))), .second] [(.int (((own_remL (own_dr (own_it jj w3_state)) ((pb).toInt64))).toInt32))])) _
    exact k)
  obtain ⟨fs, hr, hrun, hended, hW, hsame⟩ := X3.leave (v := some (.int (((own_remL (own_dr (own_it jj w3_state)) ((pb).toInt64))).toInt32))) (fun h => by rw [Bd.returns] at h; cases h) Bd.notSynchronized
  refine ⟨_, _, pre4 _ ?_, hrun, hended, _, _, rfl, ?_, ⟨_, rfl⟩, hW, hsame.mono (by decide) (by decide)⟩
  · show Steps p.tables e below (T3.setTop (mkF m 51 #[.val (.ref ao), .val (.int pb), .val (.long (own_lim pb)), .second, .val (.long (own_dr (own_it jj w3_state))), .second] [(.int (((own_remL (own_dr (own_it jj w3_state)) ((pb).toInt64))).toInt32))])) _
    exact retI X3 hx Bd.returns (hb hby d3_51) hr
  · show Q3 Z ao pb jj w3_state h0 n0 _ T3.heap _
    rw [e3]
    exact ⟨rfl, N3, K3, F3⟩
def own_good (JJ : Int64 → Int32 → Nat) : Prop := ∀ (w : Int64) (b : Int32), (0 : Int32) < b → (∀ i, i < JJ w b → ¬ (own_dr (own_it i w)) < (own_lim b)) ∧ (own_dr (own_it (JJ w b) w)) < (own_lim b)
theorem own_pos {b : Int32} (hb : (0 : Int32) < b) : 0 < b.toInt := by rw [Int32.lt_iff_toInt_lt] at hb; exact hb
theorem own_limI {b : Int32} (hb : (0 : Int32) < b) : (own_lim b).toInt = 4294967296 - 4294967296 % b.toInt := by
  have h := own_pos hb
  have h' := b.toInt_lt
  have q : (4294967296 : Int64).toInt = 4294967296 := rfl
  have r : (own_remL (4294967296 : Int64) b.toInt64).toInt = 4294967296 % b.toInt := by
    unfold own_remL; rw [Jvm.Kit.i64_rem_nonneg (by rw [q]; omega), q, Jvm.Kit.i64_of_i32]
  have r1 := Int.emod_nonneg 4294967296 (show b.toInt ≠ 0 by omega)
  have r2 := Int.emod_lt_of_pos 4294967296 h
  unfold own_lim
  rw [Jvm.Kit.i64_sub (by rw [q, r]; omega) (by rw [q, r]; omega), q, r]
theorem own_drI (w : Int64) : 0 ≤ (own_dr w).toInt ∧ (own_dr w).toInt < 4294967296 := by
  have h : (own_dr w).toBitVec = (r4 w).toBitVec >>> 32 := rfl
  have hn : (own_dr w).toBitVec.toNat = (r4 w).toBitVec.toNat / 4294967296 := by rw [h, BitVec.toNat_ushiftRight, Nat.shiftRight_eq_div_pow]
  have b := (r4 w).toBitVec.isLt
  have e : (own_dr w).toInt = (own_dr w).toBitVec.toInt := rfl
  rw [e, BitVec.toInt_eq_toNat_cond, hn]
  split <;> omega
theorem own_itA (j : Nat) : ∀ w : Int64, own_it j w = w + Int64.ofNat j * (-7046029254386353131 : Int64) := by
  induction j with
  | zero => intro w; rw [show Int64.ofNat 0 = 0 from rfl, Int64.zero_mul, Int64.add_zero, own_it_zero]
  | succ j ih =>
    intro w
    rw [own_it_succ, ih]
    unfold v4_9
    rw [show Int64.ofNat (j + 1) = Int64.ofNat j + 1 from Int64.ofNat_add j 1, Int64.add_mul, Int64.one_mul, Int64.add_assoc, Int64.add_comm (-7046029254386353131 : Int64)]
theorem own_hit (w : Int64) : ∃ j, own_it j w = (7046029254386353131 : Int64) := by
  refine ⟨(((7046029254386353131 : Int64) - w) * (-1018231460777725123 : Int64)).toBitVec.toNat, ?_⟩
  have q : Int64.ofNat (((7046029254386353131 : Int64) - w) * (-1018231460777725123 : Int64)).toBitVec.toNat = ((7046029254386353131 : Int64) - w) * (-1018231460777725123 : Int64) := by
    apply Int64.toBitVec_inj.mp
    show BitVec.ofNat 64 _ = _
    rw [BitVec.ofNat_toNat]; simp
  rw [own_itA, q, Int64.mul_assoc, show (-1018231460777725123 : Int64) * (-7046029254386353131 : Int64) = 1 from by decide +kernel, Int64.mul_one, Int64.add_comm, Int64.sub_add_cancel]
theorem own_dr0 : own_dr (7046029254386353131 : Int64) = 0 := by decide +kernel
theorem own_least {P : Nat → Prop} (n : Nat) (hn : P n) : ∃ j, (∀ i, i < j → ¬ P i) ∧ P j := by
  induction n using Nat.strongRecOn with
  | ind n ih =>
    by_cases h : ∃ i, i < n ∧ P i
    · obtain ⟨i, hi, hp⟩ := h; exact ih i hi hp
    · exact ⟨n, fun i hi hp => h ⟨i, hi, hp⟩, hn⟩
theorem own_ex (w : Int64) (b : Int32) (hb : (0 : Int32) < b) : ∃ j, (∀ i, i < j → ¬ (own_dr (own_it i w)) < (own_lim b)) ∧ (own_dr (own_it j w)) < (own_lim b) := by
  obtain ⟨n, hn⟩ := own_hit w
  refine own_least (P := fun j => (own_dr (own_it j w)) < (own_lim b)) n ?_
  show (own_dr (own_it n w)) < (own_lim b)
  have h := own_pos hb
  have h' := b.toInt_lt
  have r2 := Int.emod_lt_of_pos 4294967296 h
  rw [hn, own_dr0, Int64.lt_iff_toInt_lt, own_limI hb, show (0 : Int64).toInt = 0 from rfl]
  omega
theorem own_exJ : ∃ JJ, own_good JJ := by
  refine ⟨fun w b => if h : (0 : Int32) < b then Classical.choose (own_ex w b h) else 0, fun w b hb => ?_⟩
  have q := Classical.choose_spec (own_ex w b hb)
  simp only [dif_pos hb]
  exact q
theorem own_rI (w : Int64) {b : Int32} (hb : (0 : Int32) < b) (j : Nat) : (r3 b j w).toInt = (own_dr (own_it j w)).toInt % b.toInt := by
  have h := own_pos hb
  have h' := b.toInt_lt
  have d := own_drI (own_it j w)
  have r : (own_remL (own_dr (own_it j w)) b.toInt64).toInt = (own_dr (own_it j w)).toInt % b.toInt := by
    unfold own_remL; rw [Jvm.Kit.i64_rem_nonneg d.1, Jvm.Kit.i64_of_i32]
  have r1 := Int.emod_nonneg (own_dr (own_it j w)).toInt (show b.toInt ≠ 0 by omega)
  have r2 := Int.emod_lt_of_pos (own_dr (own_it j w)).toInt h
  unfold r3
  rw [Jvm.Kit.i32_of_i64 (by rw [r]; omega) (by rw [r]; omega), r]
theorem own_rlt (w : Int64) {b : Int32} (hb : (0 : Int32) < b) (j : Nat) : ¬ (r3 b j w) < 0 ∧ (r3 b j w) < b := by
  have h := own_pos hb
  have r1 := Int.emod_nonneg (own_dr (own_it j w)).toInt (show b.toInt ≠ 0 by omega)
  have r2 := Int.emod_lt_of_pos (own_dr (own_it j w)).toInt h
  rw [Int32.lt_iff_toInt_lt, Int32.lt_iff_toInt_lt, own_rI w hb, show (0 : Int32).toInt = 0 from rfl]
  omega
theorem own_rb (JJ : Int64 → Int32 → Nat) (hJ : own_good JJ) (w : Int64) (b : Int32) (hb : (0 : Int32) < b) : ¬ (r3 b (JJ w b) w) < 0 ∧ (r3 b (JJ w b) w).toNatClampNeg < b.toNatClampNeg := by
  have q := own_rlt w hb (JJ w b)
  refine ⟨q.1, ?_⟩
  rw [Int32.lt_iff_toInt_lt, Int32.lt_iff_toInt_lt, show (0 : Int32).toInt = 0 from rfl] at q
  show (r3 b (JJ w b) w).toInt.toNat < b.toInt.toNat
  omega

theorem pn_1 : plainName "com/example/consigliere/consigliere/engine/RngNextIntPinLaw" = true := by first | (simp [plainName, overriddenIn]; done) | decide +kernel
theorem d5_0 : decode method_3_code 0 = .ok (.lload_n 0, 1) := by decide +kernel
theorem d5_1 : decode method_3_code 1 = .ok (.lload_n 0, 1) := by decide +kernel
theorem d5_2 : decode method_3_code 2 = .ok (.iload_n 2, 1) := by decide +kernel
theorem d5_3 : decode method_3_code 3 = .ok (.i2l, 1) := by decide +kernel
theorem d5_4 : decode method_3_code 4 = .ok (.lrem, 1) := by decide +kernel
theorem d5_5 : decode method_3_code 5 = .ok (.lsub, 1) := by decide +kernel
theorem d5_6 : decode method_3_code 6 = .ok (.lstore_n 3, 1) := by decide +kernel
theorem d5_7 : decode method_3_code 7 = .ok (.lload_n 3, 1) := by decide +kernel
theorem d5_8 : decode method_3_code 8 = .ok (.iload_n 2, 1) := by decide +kernel
theorem d5_9 : decode method_3_code 9 = .ok (.i2l, 1) := by decide +kernel
theorem d5_10 : decode method_3_code 10 = .ok (.ladd, 1) := by decide +kernel
theorem d5_11 : decode method_3_code 11 = .ok (.ldc2_w 33, 3) := by decide +kernel
theorem d5_14 : decode method_3_code 14 = .ok (.lcmp, 1) := by decide +kernel
theorem d5_15 : decode method_3_code 15 = .ok (.ifCond .gt 7, 3) := by decide +kernel
theorem d5_18 : decode method_3_code 18 = .ok (.iconst 1, 1) := by decide +kernel
theorem d5_19 : decode method_3_code 19 = .ok (.goto 4, 3) := by decide +kernel
theorem d5_22 : decode method_3_code 22 = .ok (.iconst 0, 1) := by decide +kernel
theorem d5_23 : decode method_3_code 23 = .ok (.ireturn, 1) := by decide +kernel
theorem ef_5 (m : MethodId) (x0 : Int64) (x1 : Int32) : entryFrame m #[(.long x0), (.int x1)] 5 = mkF m 0 #[.val (.long x0), .second, .val (.int x1), .unset, .unset] [] := by first | (simp [entryFrame, mkF, argsToLocals, Value.category]; done) | rfl
abbrev R5 : Room := { frames := 0, cells := 0, slots := 0, locals := 0 }
def v5_6 (p5_0 : Int64) (p5_1 : Int32) : Int64 := (p5_0 - (own_remL p5_0 ((p5_1).toInt64)))
def r5 (p5_0 : Int64) (p5_1 : Int32) : Int32 := (if (4294967296 : Int64) < ((v5_6 p5_0 p5_1) + ((p5_1).toInt64)) then (0 : Int32) else (1 : Int32))
def Q5 (Z : State) (p5_0 : Int64) (p5_1 : Int32) (h0 : Heap) (n0 : Nat) (v : Option Value) (h : Heap) (L : List Loc) : Prop := v = some (.int (r5 p5_0 p5_1)) ∧ Fr n0 L ∧ h = h0
set_option maxRecDepth 65536 in
set_option maxHeartbeats 40000000 in
theorem rm5 (l : Launch) (Z : State) (a0 : Array Value) (hw : ∀ d ∈ tables_1, d.before a0 Z = true) (ws : List Jvm.Cond) (p5_0 : Int64) (p5_1 : Int32) (h0 : Heap) (n0 : Nat) (Z0 : n0 ≤ h0.size) (hnz : (p5_1).toInt64 ≠ 0) :
    MetFree l (⟨"com/example/consigliere/consigliere/engine/RngNextIntPinLaw", "accepted", "(JI)Z"⟩ : MethodName) (head1 (Jvm.Cond.code (⟨"com/example/consigliere/consigliere/engine/RngNextIntPinLaw", "accepted", "(JI)Z"⟩ : MethodName) method_3_code 5 (some .boolean) :: ws) R5) (fun a U => a = #[(.long p5_0), (.int p5_1)] ∧ Z.Warmed39 U.vm ∧ U.heap = h0) (fun _ _ _ _ _ => True) (fun _ U o U' => ∃ v L, o = .returned v ∧ Q5 Z p5_0 p5_1 h0 n0 v U'.heap L ∧ FrameEnd U o U' L R5.cells R5.slots) := by
  refine MetFree.of_bodySF (plainFor_of_name pn_1) hisR ?_
  intro p e s m args below meth c s₁ Bd hml0 hP hK
  obtain ⟨rfl, hZ, hh⟩ := hP
  have hx := Bd.exec
  have hby := Bd.bytes
  have hml : c.maxLocals = 5 := hml0
  have hown : s.vm.findClass "com/example/consigliere/consigliere/engine/RngNextIntPinLaw" = some m.cls := findClass_of_methodNamed Bd.named
  have hnm := (name_of_methodNamed Bd.named Bd.method).1
  have X0 : Stand p l e R5 s m #[(.long p5_0), (.int p5_1)] below meth c s₁ [] 0 0 := Stand.of_body Bd
  have e0 : s₁.heap = h0 := by rw [← hh, Bd.state]; rfl
  have N0 := Fr.nil n0
  have pre0 : ∀ t, Steps p.tables e below (s₁.setTop (mkF m 0 #[.val (.long p5_0), .second, .val (.int p5_1), .unset, .unset] [])) t → Steps p.tables e below (s₁.setTop (entryFrame m #[(.long p5_0), (.int p5_1)] 5)) t := fun t k => castTop (ef_5 m p5_0 p5_1) k
  have pre1 : ∀ t, Steps p.tables e below (s₁.setTop (mkF m 15 #[.val (.long p5_0), .second, .val (.int p5_1), .val (.long (v5_6 p5_0 p5_1)), .second] [(.int (lcmpW ((v5_6 p5_0 p5_1) + ((p5_1).toInt64)) (4294967296 : Int64)))])) t → Steps p.tables e below (s₁.setTop (entryFrame m #[(.long p5_0), (.int p5_1)] 5)) t := fun t k => pre0 t (by
    refine XS.lloadN X0.here hx rfl (hb hby d5_0) rfl ?_
    show Steps p.tables e below (s₁.setTop (mkF m 1 #[.val (.long p5_0), .second, .val (.int p5_1), .unset, .unset] [(.long p5_0)])) _
    refine XS.lloadN X0.here hx rfl (hb hby d5_1) rfl ?_
    show Steps p.tables e below (s₁.setTop (mkF m 2 #[.val (.long p5_0), .second, .val (.int p5_1), .unset, .unset] [(.long p5_0), (.long p5_0)])) _
    refine XS.iloadN X0.here hx rfl (hb hby d5_2) rfl ?_
    show Steps p.tables e below (s₁.setTop (mkF m 3 #[.val (.long p5_0), .second, .val (.int p5_1), .unset, .unset] [(.int p5_1), (.long p5_0), (.long p5_0)])) _
    refine XS.i2l X0.here hx rfl (hb hby d5_3) rfl ?_
    show Steps p.tables e below (s₁.setTop (mkF m 4 #[.val (.long p5_0), .second, .val (.int p5_1), .unset, .unset] [(.long ((p5_1).toInt64)), (.long p5_0), (.long p5_0)])) _
    refine XS.lrem X0.here hx rfl (hb hby d5_4) rfl hnz ?_
    show Steps p.tables e below (s₁.setTop (mkF m 5 #[.val (.long p5_0), .second, .val (.int p5_1), .unset, .unset] [(.long (own_remL p5_0 ((p5_1).toInt64))), (.long p5_0)])) _
    refine XS.lsub X0.here hx rfl (hb hby d5_5) rfl ?_
    show Steps p.tables e below (s₁.setTop (mkF m 6 #[.val (.long p5_0), .second, .val (.int p5_1), .unset, .unset] [(.long (p5_0 - (own_remL p5_0 ((p5_1).toInt64))))])) _
    show Steps p.tables e below (s₁.setTop (mkF m 6 #[.val (.long p5_0), .second, .val (.int p5_1), .unset, .unset] [(.long (v5_6 p5_0 p5_1))])) _
    refine XS.lstoreN X0.here hx rfl (hb hby d5_6) rfl (l' := #[.val (.long p5_0), .second, .val (.int p5_1), .val (.long (v5_6 p5_0 p5_1)), .second]) rfl ?_
    show Steps p.tables e below (s₁.setTop (mkF m 7 #[.val (.long p5_0), .second, .val (.int p5_1), .val (.long (v5_6 p5_0 p5_1)), .second] [])) _
    refine XS.lloadN X0.here hx rfl (hb hby d5_7) rfl ?_
    show Steps p.tables e below (s₁.setTop (mkF m 8 #[.val (.long p5_0), .second, .val (.int p5_1), .val (.long (v5_6 p5_0 p5_1)), .second] [(.long (v5_6 p5_0 p5_1))])) _
    refine XS.iloadN X0.here hx rfl (hb hby d5_8) rfl ?_
    show Steps p.tables e below (s₁.setTop (mkF m 9 #[.val (.long p5_0), .second, .val (.int p5_1), .val (.long (v5_6 p5_0 p5_1)), .second] [(.int p5_1), (.long (v5_6 p5_0 p5_1))])) _
    refine XS.i2l X0.here hx rfl (hb hby d5_9) rfl ?_
    show Steps p.tables e below (s₁.setTop (mkF m 10 #[.val (.long p5_0), .second, .val (.int p5_1), .val (.long (v5_6 p5_0 p5_1)), .second] [(.long ((p5_1).toInt64)), (.long (v5_6 p5_0 p5_1))])) _
    refine XS.ladd X0.here hx rfl (hb hby d5_10) rfl ?_
    show Steps p.tables e below (s₁.setTop (mkF m 11 #[.val (.long p5_0), .second, .val (.int p5_1), .val (.long (v5_6 p5_0 p5_1)), .second] [(.long ((v5_6 p5_0 p5_1) + ((p5_1).toInt64)))])) _
    refine X0.ldc2Long hx hown (mvT hZ (hw _ (List.mem_of_getElem? (i := 30) rfl))) (g := (mkF m 11 #[.val (.long p5_0), .second, .val (.int p5_1), .val (.long (v5_6 p5_0 p5_1)), .second] [(.long ((v5_6 p5_0 p5_1) + ((p5_1).toInt64)))])) rfl (hb hby d5_11) _ ?_
    show Steps p.tables e below (s₁.setTop (mkF m 14 #[.val (.long p5_0), .second, .val (.int p5_1), .val (.long (v5_6 p5_0 p5_1)), .second] [(.long (4294967296 : Int64)), (.long ((v5_6 p5_0 p5_1) + ((p5_1).toInt64)))])) _
    refine XS.lcmp X0.here hx rfl (hb hby d5_14) rfl ?_
    show Steps p.tables e below (s₁.setTop (mkF m 15 #[.val (.long p5_0), .second, .val (.int p5_1), .val (.long (v5_6 p5_0 p5_1)), .second] [(.int (lcmpW ((v5_6 p5_0 p5_1) + ((p5_1).toInt64)) (4294967296 : Int64)))])) _
    exact k)
  by_cases hc15_2 : (4294967296 : Int64) < ((v5_6 p5_0 p5_1) + ((p5_1).toInt64))
  · have pre3 : ∀ t, Steps p.tables e below (s₁.setTop (mkF m 23 #[.val (.long p5_0), .second, .val (.int p5_1), .val (.long (v5_6 p5_0 p5_1)), .second] [(.int (0 : Int32))])) t → Steps p.tables e below (s₁.setTop (entryFrame m #[(.long p5_0), (.int p5_1)] 5)) t := fun t k => pre1 t (by
      refine XS.ifYes X0.here hx rfl (pc0 := 15) (pc' := 22) rfl (hb hby d5_15) rfl ((if0 _ _).trans (tlt ((lw_gt ((v5_6 p5_0 p5_1) + ((p5_1).toInt64)) (4294967296 : Int64)).mpr hc15_2)).2.2.1) (by decide) (by decide) ?_
      show Steps p.tables e below (s₁.setTop (mkF m 22 #[.val (.long p5_0), .second, .val (.int p5_1), .val (.long (v5_6 p5_0 p5_1)), .second] [])) _
      refine XS.iconst X0.here hx rfl (hb hby d5_22) ?_
      show Steps p.tables e below (s₁.setTop (mkF m 23 #[.val (.long p5_0), .second, .val (.int p5_1), .val (.long (v5_6 p5_0 p5_1)), .second] [(.int (0 : Int32))])) _
      exact k)
    have hret : (r5 p5_0 p5_1) = (0 : Int32) := by unfold r5; rw [if_pos hc15_2]
    obtain ⟨fs, hr, hrun, hended, hW, hsame⟩ := X0.leave (v := some (.int (0 : Int32))) (fun h => by rw [Bd.returns] at h; cases h) Bd.notSynchronized
    refine ⟨_, _, pre3 _ ?_, hrun, hended, _, _, rfl, ?_, ⟨_, rfl⟩, hW, hsame.mono (by decide) (by decide)⟩
    · show Steps p.tables e below (s₁.setTop (mkF m 23 #[.val (.long p5_0), .second, .val (.int p5_1), .val (.long (v5_6 p5_0 p5_1)), .second] [(.int (0 : Int32))])) _
      exact retN X0 hx (t := .boolean) Bd.returns (by simp) (hb hby d5_23) hr
    · show Q5 Z p5_0 p5_1 h0 n0 _ s₁.heap _
      rw [e0]
      exact ⟨(by rw [hret]), N0, rfl⟩
  · have pre4 : ∀ t, Steps p.tables e below (s₁.setTop (mkF m 23 #[.val (.long p5_0), .second, .val (.int p5_1), .val (.long (v5_6 p5_0 p5_1)), .second] [(.int (1 : Int32))])) t → Steps p.tables e below (s₁.setTop (entryFrame m #[(.long p5_0), (.int p5_1)] 5)) t := fun t k => pre1 t (by
      refine XS.ifNo X0.here hx rfl (hb hby d5_15) rfl ((if0 _ _).trans (flt (fun q => hc15_2 ((lw_gt ((v5_6 p5_0 p5_1) + ((p5_1).toInt64)) (4294967296 : Int64)).mp q))).2.2.1) ?_
      show Steps p.tables e below (s₁.setTop (mkF m 18 #[.val (.long p5_0), .second, .val (.int p5_1), .val (.long (v5_6 p5_0 p5_1)), .second] [])) _
      refine XS.iconst X0.here hx rfl (hb hby d5_18) ?_
      show Steps p.tables e below (s₁.setTop (mkF m 19 #[.val (.long p5_0), .second, .val (.int p5_1), .val (.long (v5_6 p5_0 p5_1)), .second] [(.int (1 : Int32))])) _
      refine XS.goto X0.here hx rfl (pc0 := 19) (pc' := 23) rfl (hb hby d5_19) (by decide) (by decide) ?_
      show Steps p.tables e below (s₁.setTop (mkF m 23 #[.val (.long p5_0), .second, .val (.int p5_1), .val (.long (v5_6 p5_0 p5_1)), .second] [(.int (1 : Int32))])) _
      exact k)
    have hret : (r5 p5_0 p5_1) = (1 : Int32) := by unfold r5; rw [if_neg hc15_2]
    obtain ⟨fs, hr, hrun, hended, hW, hsame⟩ := X0.leave (v := some (.int (1 : Int32))) (fun h => by rw [Bd.returns] at h; cases h) Bd.notSynchronized
    refine ⟨_, _, pre4 _ ?_, hrun, hended, _, _, rfl, ?_, ⟨_, rfl⟩, hW, hsame.mono (by decide) (by decide)⟩
    · show Steps p.tables e below (s₁.setTop (mkF m 23 #[.val (.long p5_0), .second, .val (.int p5_1), .val (.long (v5_6 p5_0 p5_1)), .second] [(.int (1 : Int32))])) _
      exact retN X0 hx (t := .boolean) Bd.returns (by simp) (hb hby d5_23) hr
    · show Q5 Z p5_0 p5_1 h0 n0 _ s₁.heap _
      rw [e0]
      exact ⟨(by rw [hret]), N0, rfl⟩
theorem d6_0 : decode jdk_29_method_65_code 0 = .ok (.iload_n 0, 1) := by decide +kernel
theorem d6_1 : decode jdk_29_method_65_code 1 = .ok (.iload_n 1, 1) := by decide +kernel
theorem d6_2 : decode jdk_29_method_65_code 2 = .ok (.if_icmp .lt 7, 3) := by decide +kernel
theorem d6_5 : decode jdk_29_method_65_code 5 = .ok (.iload_n 0, 1) := by decide +kernel
theorem d6_6 : decode jdk_29_method_65_code 6 = .ok (.goto 4, 3) := by decide +kernel
theorem d6_9 : decode jdk_29_method_65_code 9 = .ok (.iload_n 1, 1) := by decide +kernel
theorem d6_10 : decode jdk_29_method_65_code 10 = .ok (.ireturn, 1) := by decide +kernel
theorem ef_6 (m : MethodId) (x0 : Int32) (x1 : Int32) : entryFrame m #[(.int x0), (.int x1)] 2 = mkF m 0 #[.val (.int x0), .val (.int x1)] [] := by first | (simp [entryFrame, mkF, argsToLocals, Value.category]; done) | rfl
abbrev R6 : Room := { frames := 0, cells := 0, slots := 0, locals := 0 }
def r6 (p6_0 : Int32) (p6_1 : Int32) : Int32 := (if p6_0 < p6_1 then p6_1 else p6_0)
def Q6 (Z : State) (p6_0 : Int32) (p6_1 : Int32) (h0 : Heap) (n0 : Nat) (v : Option Value) (h : Heap) (L : List Loc) : Prop := v = some (.int (r6 p6_0 p6_1)) ∧ Fr n0 L ∧ h = h0
set_option maxRecDepth 65536 in
set_option maxHeartbeats 40000000 in
theorem rm6 (l : Launch) (Z : State) (a0 : Array Value) (hw : ∀ d ∈ tables_1, d.before a0 Z = true) (ws : List Jvm.Cond) (p6_0 : Int32) (p6_1 : Int32) (h0 : Heap) (n0 : Nat) (Z0 : n0 ≤ h0.size) :
    MetFree l (⟨"java/lang/Math", "max", "(II)I"⟩ : MethodName) (head1 (Jvm.Cond.code (⟨"java/lang/Math", "max", "(II)I"⟩ : MethodName) jdk_29_method_65_code 2 (some .int) :: ws) R6) (fun a U => a = #[(.int p6_0), (.int p6_1)] ∧ Z.Warmed39 U.vm ∧ U.heap = h0) (fun _ _ _ _ _ => True) (fun _ U o U' => ∃ v L, o = .returned v ∧ Q6 Z p6_0 p6_1 h0 n0 v U'.heap L ∧ FrameEnd U o U' L R6.cells R6.slots) := by
  refine MetFree.of_bodySF (Jvm.Free.JP.mathPlain rfl (by decide +kernel)) hisR ?_
  intro p e s m args below meth c s₁ Bd hml0 hP hK
  obtain ⟨rfl, hZ, hh⟩ := hP
  have hx := Bd.exec
  have hby := Bd.bytes
  have hml : c.maxLocals = 2 := hml0
  have hown : s.vm.findClass "java/lang/Math" = some m.cls := findClass_of_methodNamed Bd.named
  have hnm := (name_of_methodNamed Bd.named Bd.method).1
  have X0 : Stand p l e R6 s m #[(.int p6_0), (.int p6_1)] below meth c s₁ [] 0 0 := Stand.of_body Bd
  have e0 : s₁.heap = h0 := by rw [← hh, Bd.state]; rfl
  have N0 := Fr.nil n0
  have pre0 : ∀ t, Steps p.tables e below (s₁.setTop (mkF m 0 #[.val (.int p6_0), .val (.int p6_1)] [])) t → Steps p.tables e below (s₁.setTop (entryFrame m #[(.int p6_0), (.int p6_1)] 2)) t := fun t k => castTop (ef_6 m p6_0 p6_1) k
  have pre1 : ∀ t, Steps p.tables e below (s₁.setTop (mkF m 2 #[.val (.int p6_0), .val (.int p6_1)] [(.int p6_1), (.int p6_0)])) t → Steps p.tables e below (s₁.setTop (entryFrame m #[(.int p6_0), (.int p6_1)] 2)) t := fun t k => pre0 t (by
    refine XS.iloadN X0.here hx rfl (hb hby d6_0) rfl ?_
    show Steps p.tables e below (s₁.setTop (mkF m 1 #[.val (.int p6_0), .val (.int p6_1)] [(.int p6_0)])) _
    refine XS.iloadN X0.here hx rfl (hb hby d6_1) rfl ?_
    show Steps p.tables e below (s₁.setTop (mkF m 2 #[.val (.int p6_0), .val (.int p6_1)] [(.int p6_1), (.int p6_0)])) _
    exact k)
  by_cases hc2_2 : p6_0 < p6_1
  · have pre3 : ∀ t, Steps p.tables e below (s₁.setTop (mkF m 10 #[.val (.int p6_0), .val (.int p6_1)] [(.int p6_1)])) t → Steps p.tables e below (s₁.setTop (entryFrame m #[(.int p6_0), (.int p6_1)] 2)) t := fun t k => pre1 t (by
      refine XS.icmpYes X0.here hx rfl (pc0 := 2) (pc' := 9) rfl (hb hby d6_2) rfl (tlt hc2_2).1 (by decide) (by decide) ?_
      show Steps p.tables e below (s₁.setTop (mkF m 9 #[.val (.int p6_0), .val (.int p6_1)] [])) _
      refine XS.iloadN X0.here hx rfl (hb hby d6_9) rfl ?_
      show Steps p.tables e below (s₁.setTop (mkF m 10 #[.val (.int p6_0), .val (.int p6_1)] [(.int p6_1)])) _
      exact k)
    have hret : (r6 p6_0 p6_1) = p6_1 := by unfold r6; rw [if_pos hc2_2]
    obtain ⟨fs, hr, hrun, hended, hW, hsame⟩ := X0.leave (v := some (.int p6_1)) (fun h => by rw [Bd.returns] at h; cases h) Bd.notSynchronized
    refine ⟨_, _, pre3 _ ?_, hrun, hended, _, _, rfl, ?_, ⟨_, rfl⟩, hW, hsame.mono (by decide) (by decide)⟩
    · show Steps p.tables e below (s₁.setTop (mkF m 10 #[.val (.int p6_0), .val (.int p6_1)] [(.int p6_1)])) _
      exact retI X0 hx Bd.returns (hb hby d6_10) hr
    · show Q6 Z p6_0 p6_1 h0 n0 _ s₁.heap _
      rw [e0]
      exact ⟨(by rw [hret]), N0, rfl⟩
  · have pre4 : ∀ t, Steps p.tables e below (s₁.setTop (mkF m 10 #[.val (.int p6_0), .val (.int p6_1)] [(.int p6_0)])) t → Steps p.tables e below (s₁.setTop (entryFrame m #[(.int p6_0), (.int p6_1)] 2)) t := fun t k => pre1 t (by
      refine XS.icmpNo X0.here hx rfl (hb hby d6_2) rfl (flt hc2_2).1 ?_
      show Steps p.tables e below (s₁.setTop (mkF m 5 #[.val (.int p6_0), .val (.int p6_1)] [])) _
      refine XS.iloadN X0.here hx rfl (hb hby d6_5) rfl ?_
      show Steps p.tables e below (s₁.setTop (mkF m 6 #[.val (.int p6_0), .val (.int p6_1)] [(.int p6_0)])) _
      refine XS.goto X0.here hx rfl (pc0 := 6) (pc' := 10) rfl (hb hby d6_6) (by decide) (by decide) ?_
      show Steps p.tables e below (s₁.setTop (mkF m 10 #[.val (.int p6_0), .val (.int p6_1)] [(.int p6_0)])) _
      exact k)
    have hret : (r6 p6_0 p6_1) = p6_0 := by unfold r6; rw [if_neg hc2_2]
    obtain ⟨fs, hr, hrun, hended, hW, hsame⟩ := X0.leave (v := some (.int p6_0)) (fun h => by rw [Bd.returns] at h; cases h) Bd.notSynchronized
    refine ⟨_, _, pre4 _ ?_, hrun, hended, _, _, rfl, ?_, ⟨_, rfl⟩, hW, hsame.mono (by decide) (by decide)⟩
    · show Steps p.tables e below (s₁.setTop (mkF m 10 #[.val (.int p6_0), .val (.int p6_1)] [(.int p6_0)])) _
      exact retI X0 hx Bd.returns (hb hby d6_10) hr
    · show Q6 Z p6_0 p6_1 h0 n0 _ s₁.heap _
      rw [e0]
      exact ⟨(by rw [hret]), N0, rfl⟩
theorem pd_1 : parseMethodDescriptor "(II)I" = some ⟨[.int, .int], some .int⟩ := by decide +kernel
theorem pd_2 : parseMethodDescriptor "(J)V" = some ⟨[.long], none⟩ := by decide +kernel
theorem pd_3 : parseMethodDescriptor "(I)I" = some ⟨[.int], some .int⟩ := by decide +kernel
theorem pd_4 : parseMethodDescriptor "(JI)Z" = some ⟨[.long, .int], some .boolean⟩ := by decide +kernel
theorem ef_0 (m : MethodId) (x0 : Int64) (x1 : Int32) (x2 : Int32) : entryFrame m #[(.long x0), (.int x1), (.int x2)] maxLocals = mkF m 0 #[.val (.long x0), .second, .val (.int x1), .val (.int x2), .unset, .unset, .unset, .unset, .unset, .unset, .unset, .unset] [] := by first | (simp [entryFrame, mkF, argsToLocals, Value.category, maxLocals]; done) | rfl
def j0_24_s0 (p0_1 : Int32) (p0_2 : Int32) : Int32 := (if (p0_2 &&& (1 : Int32)) = (0 : Int32) then (r6 (1 : Int32) (p0_1 &&& (2147483647 : Int32))) else ((p0_1 &&& (255 : Int32)) + (1 : Int32)))
def c0_50 (p0_0 : Int64) (p0_1 : Int32) (p0_2 : Int32) (JJ : Int64 → Int32 → Nat) : Int32 := (r3 (j0_24_s0 p0_1 p0_2) (JJ p0_0 (j0_24_s0 p0_1 p0_2)) p0_0)
def v0_63 (p0_0 : Int64) : Int64 := (own_ushrL (r4 p0_0) (32 : Int32))
def v0_115 (p0_0 : Int64) : Int64 := (own_ushrL (r4 (v4_9 p0_0)) (32 : Int32))
theorem own_b (b k : Int32) : (0 : Int32) < j0_24_s0 b k := by
  have a1 : (b &&& (2147483647 : Int32)).toInt = b.toInt % 2 ^ 31 := Jvm.Kit.i32_mask b _ (k := 31) (by decide) (by decide)
  have a2 : (b &&& (255 : Int32)).toInt = b.toInt % 2 ^ 8 := Jvm.Kit.i32_mask b _ (k := 8) (by decide) (by decide)
  have o : (1 : Int32).toInt = 1 := rfl
  rw [Int32.lt_iff_toInt_lt, show (0 : Int32).toInt = 0 from rfl]
  unfold j0_24_s0
  split
  · unfold r6
    simp only [Int32.lt_iff_toInt_lt]
    split
    · omega
    · rw [o]; omega
  · rw [Jvm.Kit.i32_add (by rw [o]; omega) (by rw [o]; omega), o]; omega
theorem own_div (D B Q : Int) (hB : 0 < B) : Q < D - D % B + B ↔ ¬ D < Q - Q % B := by
  have e1 : D - D % B = B * (D / B) := by have := Int.mul_ediv_add_emod D B; omega
  have e2 : Q - Q % B = B * (Q / B) := by have := Int.mul_ediv_add_emod Q B; omega
  have f1 := Int.emod_nonneg D (show B ≠ 0 by omega)
  have f2 := Int.emod_lt_of_pos D hB
  have f3 := Int.emod_nonneg Q (show B ≠ 0 by omega)
  have f4 := Int.emod_lt_of_pos Q hB
  rw [e1, e2]
  have g : B * (Q / B) ≤ B * (D / B) ↔ Q / B ≤ D / B := Int.mul_le_mul_left hB
  have g1 : B * (Q / B + 1) ≤ B * (D / B + 1) ↔ Q / B + 1 ≤ D / B + 1 := Int.mul_le_mul_left hB
  have g2 : B * (D / B + 1) ≤ B * (Q / B) ↔ D / B + 1 ≤ Q / B := Int.mul_le_mul_left hB
  rw [Int.mul_add, Int.mul_one] at g1 g2
  rw [Int.mul_add, Int.mul_one] at g1
  constructor
  · intro h
    have k : ¬ D / B + 1 ≤ Q / B := fun q => by have := g2.mpr q; omega
    have := g.mpr (by omega); omega
  · intro h
    have k : ¬ D / B + 1 ≤ Q / B := fun q => by have := g2.mpr q; omega
    have := g1.mpr (by omega); omega
theorem own_accd (d : Int64) (b : Int32) (hb : (0 : Int32) < b) (h1 : 0 ≤ d.toInt) (h2 : d.toInt < 4294967296) : r5 d b = 0 ↔ ¬ d < own_lim b := by
  have hB := own_pos hb
  have hB' := b.toInt_lt
  have r1 := Int.emod_nonneg d.toInt (show b.toInt ≠ 0 by omega)
  have r2 := Int.emod_lt_of_pos d.toInt hB
  have e1 : (own_remL d b.toInt64).toInt = d.toInt % b.toInt := by unfold own_remL; rw [Jvm.Kit.i64_rem_nonneg h1, Jvm.Kit.i64_of_i32]
  have e2 : (v5_6 d b).toInt = d.toInt - d.toInt % b.toInt := by unfold v5_6; rw [Jvm.Kit.i64_sub (by rw [e1]; omega) (by rw [e1]; omega), e1]
  have e3 : (v5_6 d b + b.toInt64).toInt = d.toInt - d.toInt % b.toInt + b.toInt := by
    rw [Jvm.Kit.i64_add (by rw [e2, Jvm.Kit.i64_of_i32]; omega) (by rw [e2, Jvm.Kit.i64_of_i32]; omega), e2, Jvm.Kit.i64_of_i32]
  rw [Int64.lt_iff_toInt_lt, own_limI hb, ← own_div d.toInt b.toInt 4294967296 hB]
  have e4 : ((4294967296 : Int64) < (v5_6 d b + b.toInt64)) ↔ 4294967296 < d.toInt - d.toInt % b.toInt + b.toInt := by
    rw [Int64.lt_iff_toInt_lt, e3, show (4294967296 : Int64).toInt = 4294967296 from rfl]
  unfold r5
  by_cases q : (4294967296 : Int64) < (v5_6 d b + b.toInt64)
  · rw [if_pos q]; exact iff_of_true rfl (e4.mp q)
  · rw [if_neg q]; exact iff_of_false (by decide) (fun z => q (e4.mpr z))
theorem own_J0 (s : Int64) (b : Int32) (hb : (0 : Int32) < b) (JJ : Int64 → Int32 → Nat) (hJ : own_good JJ) (h : ¬ r5 (own_dr s) b = 0) : JJ s b = 0 := by
  have q := (hJ s b hb).1
  have d := own_drI s
  rw [own_accd _ _ hb d.1 d.2] at h
  rcases Nat.eq_zero_or_pos (JJ s b) with z | z
  · exact z
  · have q0 := q 0 z
    rw [own_it_zero] at q0
    exact absurd q0 h
theorem own_J1 (s : Int64) (b : Int32) (hb : (0 : Int32) < b) (JJ : Int64 → Int32 → Nat) (hJ : own_good JJ) (h0 : r5 (own_dr s) b = 0) (h : ¬ r5 (own_dr (v4_9 s)) b = 0) : JJ s b = 1 := by
  have q := (hJ s b hb).1
  have q' := (hJ s b hb).2
  have d := own_drI s
  have d' := own_drI (v4_9 s)
  rw [own_accd _ _ hb d.1 d.2] at h0
  rw [own_accd _ _ hb d'.1 d'.2] at h
  rcases Nat.lt_trichotomy (JJ s b) 1 with z | z | z
  · rw [show JJ s b = 0 by omega, own_it_zero] at q'; exact absurd q' h0
  · exact z
  · have q1 := q 1 z
    rw [own_it_succ, own_it_zero] at q1
    exact absurd q1 h
theorem own_got0 (s : Int64) (b k : Int32) (JJ : Int64 → Int32 → Nat) (hJ : own_good JJ) (h : ¬ (r5 (v0_63 s) (j0_24_s0 b k)) = 0) : c0_50 s b k JJ = (own_remL (v0_63 s) ((j0_24_s0 b k).toInt64)).toInt32 := by
  unfold c0_50; rw [own_J0 s _ (own_b b k) JJ hJ h]; unfold r3; rw [own_it_zero]; rfl
theorem own_st0 (s : Int64) (b k : Int32) (JJ : Int64 → Int32 → Nat) (hJ : own_good JJ) (h : ¬ (r5 (v0_63 s) (j0_24_s0 b k)) = 0) : r4 (own_it ((JJ s (j0_24_s0 b k)) + 1) s) = r4 (v4_9 s) := by
  rw [own_J0 s _ (own_b b k) JJ hJ h, own_it_succ, own_it_zero]
theorem own_got1 (s : Int64) (b k : Int32) (JJ : Int64 → Int32 → Nat) (hJ : own_good JJ) (h0 : (r5 (v0_63 s) (j0_24_s0 b k)) = 0) (h : ¬ (r5 (v0_115 s) (j0_24_s0 b k)) = 0) : c0_50 s b k JJ = (own_remL (v0_115 s) ((j0_24_s0 b k).toInt64)).toInt32 := by
  unfold c0_50; rw [own_J1 s _ (own_b b k) JJ hJ h0 h]; unfold r3; rw [own_it_succ, own_it_zero]; rfl
theorem own_st1 (s : Int64) (b k : Int32) (JJ : Int64 → Int32 → Nat) (hJ : own_good JJ) (h0 : (r5 (v0_63 s) (j0_24_s0 b k)) = 0) (h : ¬ (r5 (v0_115 s) (j0_24_s0 b k)) = 0) : r4 (own_it ((JJ s (j0_24_s0 b k)) + 1) s) = r4 (v4_9 (v4_9 s)) := by
  rw [own_J1 s _ (own_b b k) JJ hJ h0 h, own_it_succ, own_it_succ, own_it_zero]
theorem own_lo (s : Int64) (b k : Int32) (JJ : Int64 → Int32 → Nat) (hJ : own_good JJ) : ¬ (c0_50 s b k JJ) < (0 : Int32) := (own_rlt s (own_b b k) _).1
theorem own_hi (s : Int64) (b k : Int32) (JJ : Int64 → Int32 → Nat) (hJ : own_good JJ) : (c0_50 s b k JJ) < (j0_24_s0 b k) := (own_rlt s (own_b b k) _).2
def Q0 (Z : State) (p0_0 : Int64) (p0_1 : Int32) (p0_2 : Int32) (JJ : Int64 → Int32 → Nat) (h0 : Heap) (n0 : Nat) (v : Option Value) (h : Heap) (L : List Loc) : Prop := v = some (.int (1 : Int32)) ∧ Fr n0 L
set_option maxRecDepth 65536 in
set_option maxHeartbeats 40000000 in
theorem rm0 (l : Launch) (Z : State) (a0 : Array Value) (hw : ∀ d ∈ tables_1, d.before a0 Z = true) (ws : List Jvm.Cond) (p0_0 : Int64) (p0_1 : Int32) (p0_2 : Int32) (JJ : Int64 → Int32 → Nat) (h0 : Heap) (n0 : Nat) (Z0 : n0 ≤ h0.size) (hJ : own_good JJ) :
    MetFree l x (head1 (Jvm.Cond.code x code maxLocals ret :: ws) room_1) (fun a U => a = #[(.long p0_0), (.int p0_1), (.int p0_2)] ∧ Z.Warmed39 U.vm ∧ U.heap = h0) (fun _ _ _ _ _ => True) (fun _ U o U' => ∃ v L, o = .returned v ∧ Q0 Z p0_0 p0_1 p0_2 JJ h0 n0 v U'.heap L ∧ FrameEnd U o U' L room_1.cells room_1.slots) := by
  refine MetFree.of_bodySF (plainFor_of_name pn_1) hisR ?_
  intro p e s m args below meth c s₁ Bd hml0 hP hK
  obtain ⟨rfl, hZ, hh⟩ := hP
  have hx := Bd.exec
  have hby := Bd.bytes
  have hml : c.maxLocals = 12 := hml0
  have hown : s.vm.findClass "com/example/consigliere/consigliere/engine/RngNextIntPinLaw" = some m.cls := findClass_of_methodNamed Bd.named
  have hnm := (name_of_methodNamed Bd.named Bd.method).1
  have X0 : Stand p l e room_1 s m #[(.long p0_0), (.int p0_1), (.int p0_2)] below meth c s₁ [] 0 0 := Stand.of_body Bd
  have e0 : s₁.heap = h0 := by rw [← hh, Bd.state]; rfl
  have N0 := Fr.nil n0
  have pre0 : ∀ t, Steps p.tables e below (s₁.setTop (mkF m 0 #[.val (.long p0_0), .second, .val (.int p0_1), .val (.int p0_2), .unset, .unset, .unset, .unset, .unset, .unset, .unset, .unset] [])) t → Steps p.tables e below (s₁.setTop (entryFrame m #[(.long p0_0), (.int p0_1), (.int p0_2)] maxLocals)) t := fun t k => castTop (ef_0 m p0_0 p0_1 p0_2) k
  have pre1 : ∀ t, Steps p.tables e below (s₁.setTop (mkF m 3 #[.val (.long p0_0), .second, .val (.int p0_1), .val (.int p0_2), .unset, .unset, .unset, .unset, .unset, .unset, .unset, .unset] [(.int (p0_2 &&& (1 : Int32)))])) t → Steps p.tables e below (s₁.setTop (entryFrame m #[(.long p0_0), (.int p0_1), (.int p0_2)] maxLocals)) t := fun t k => pre0 t (by
    refine XS.iloadN X0.here hx rfl (hb hby at_0) rfl ?_
    show Steps p.tables e below (s₁.setTop (mkF m 1 #[.val (.long p0_0), .second, .val (.int p0_1), .val (.int p0_2), .unset, .unset, .unset, .unset, .unset, .unset, .unset, .unset] [(.int p0_2)])) _
    refine XS.iconst X0.here hx rfl (hb hby at_1) ?_
    show Steps p.tables e below (s₁.setTop (mkF m 2 #[.val (.long p0_0), .second, .val (.int p0_1), .val (.int p0_2), .unset, .unset, .unset, .unset, .unset, .unset, .unset, .unset] [(.int (1 : Int32)), (.int p0_2)])) _
    refine XS.iand X0.here hx rfl (hb hby at_2) rfl ?_
    show Steps p.tables e below (s₁.setTop (mkF m 3 #[.val (.long p0_0), .second, .val (.int p0_1), .val (.int p0_2), .unset, .unset, .unset, .unset, .unset, .unset, .unset, .unset] [(.int (p0_2 &&& (1 : Int32)))])) _
    exact k)
  obtain ⟨T2, L2, X2, e2, N2, st2⟩ : ∃ (T' : State) (L' : List Loc), Stand p l e room_1 s m #[(.long p0_0), (.int p0_1), (.int p0_2)] below meth c T' L' 0 0 ∧ T'.heap = h0 ∧ Fr n0 L' ∧ ∀ t, Steps p.tables e below (T'.setTop (mkF m 24 #[.val (.long p0_0), .second, .val (.int p0_1), .val (.int p0_2), .unset, .unset, .unset, .unset, .unset, .unset, .unset, .unset] [(.int (j0_24_s0 p0_1 p0_2))])) t → Steps p.tables e below (s₁.setTop (mkF m 3 #[.val (.long p0_0), .second, .val (.int p0_1), .val (.int p0_2), .unset, .unset, .unset, .unset, .unset, .unset, .unset, .unset] [(.int (p0_2 &&& (1 : Int32)))])) t := by
    have pre2 : ∀ t, Steps p.tables e below (s₁.setTop (mkF m 3 #[.val (.long p0_0), .second, .val (.int p0_1), .val (.int p0_2), .unset, .unset, .unset, .unset, .unset, .unset, .unset, .unset] [(.int (p0_2 &&& (1 : Int32)))])) t → Steps p.tables e below (s₁.setTop (mkF m 3 #[.val (.long p0_0), .second, .val (.int p0_1), .val (.int p0_2), .unset, .unset, .unset, .unset, .unset, .unset, .unset, .unset] [(.int (p0_2 &&& (1 : Int32)))])) t := fun t k => k
    by_cases hc3_3 : (p0_2 &&& (1 : Int32)) = (0 : Int32)
    · have pre4 : ∀ t, Steps p.tables e below (s₁.setTop (mkF m 21 #[.val (.long p0_0), .second, .val (.int p0_1), .val (.int p0_2), .unset, .unset, .unset, .unset, .unset, .unset, .unset, .unset] [(.int (p0_1 &&& (2147483647 : Int32))), (.int (1 : Int32))])) t → Steps p.tables e below (s₁.setTop (mkF m 3 #[.val (.long p0_0), .second, .val (.int p0_1), .val (.int p0_2), .unset, .unset, .unset, .unset, .unset, .unset, .unset, .unset] [(.int (p0_2 &&& (1 : Int32)))])) t := fun t k => pre2 t (by
        refine XS.ifYes X0.here hx rfl (pc0 := 3) (pc' := 16) rfl (hb hby at_3) rfl ((if0 _ _).trans (teq hc3_3).1) (by decide) (by decide) ?_
        show Steps p.tables e below (s₁.setTop (mkF m 16 #[.val (.long p0_0), .second, .val (.int p0_1), .val (.int p0_2), .unset, .unset, .unset, .unset, .unset, .unset, .unset, .unset] [])) _
        refine XS.iconst X0.here hx rfl (hb hby at_16) ?_
        show Steps p.tables e below (s₁.setTop (mkF m 17 #[.val (.long p0_0), .second, .val (.int p0_1), .val (.int p0_2), .unset, .unset, .unset, .unset, .unset, .unset, .unset, .unset] [(.int (1 : Int32))])) _
        refine XS.iloadN X0.here hx rfl (hb hby at_17) rfl ?_
        show Steps p.tables e below (s₁.setTop (mkF m 18 #[.val (.long p0_0), .second, .val (.int p0_1), .val (.int p0_2), .unset, .unset, .unset, .unset, .unset, .unset, .unset, .unset] [(.int p0_1), (.int (1 : Int32))])) _
        refine X0.ldcInt hx hown (mvT hZ (hw _ (List.mem_of_getElem? (i := 31) rfl))) (g := (mkF m 18 #[.val (.long p0_0), .second, .val (.int p0_1), .val (.int p0_2), .unset, .unset, .unset, .unset, .unset, .unset, .unset, .unset] [(.int p0_1), (.int (1 : Int32))])) rfl (hb hby at_18) _ ?_
        show Steps p.tables e below (s₁.setTop (mkF m 20 #[.val (.long p0_0), .second, .val (.int p0_1), .val (.int p0_2), .unset, .unset, .unset, .unset, .unset, .unset, .unset, .unset] [(.int (2147483647 : Int32)), (.int p0_1), (.int (1 : Int32))])) _
        refine XS.iand X0.here hx rfl (hb hby at_20) rfl ?_
        show Steps p.tables e below (s₁.setTop (mkF m 21 #[.val (.long p0_0), .second, .val (.int p0_1), .val (.int p0_2), .unset, .unset, .unset, .unset, .unset, .unset, .unset, .unset] [(.int (p0_1 &&& (2147483647 : Int32))), (.int (1 : Int32))])) _
        exact k)
      obtain ⟨_, _, ⟨T5, L5, k5, n5⟩, -, X5, ⟨Lc5, hQ5, l5, y5, z5⟩, st5⟩ := Jvm.LawKit.callS X0 hx (y := (⟨"java/lang/Math", "max", "(II)I"⟩ : MethodName)) hown (mvT hZ (hw _ (List.mem_of_getElem? (i := 32) rfl))) (mvT hZ (hw _ (List.mem_of_getElem? (i := 33) rfl))) (mvT hZ (hw _ (List.mem_of_getElem? (i := 34) rfl))) (mvT hZ (hw _ (List.mem_of_getElem? (i := 35) rfl))) (by decide) (backOf (W := 0) (rm6 l Z a0 hw [] (1 : Int32) (p0_1 &&& (2147483647 : Int32)) h0 n0 Z0 ) hZ (hw _ (List.mem_of_getElem? (i := 35) rfl)) (hw _ (List.mem_of_getElem? (i := 34) rfl)) (by decide) (by decide)) (g := (mkF m 21 #[.val (.long p0_0), .second, .val (.int p0_1), .val (.int p0_2), .unset, .unset, .unset, .unset, .unset, .unset, .unset, .unset] [(.int (p0_1 &&& (2147483647 : Int32))), (.int (1 : Int32))])) rfl (by rw [hml]; rfl) (argsL := [(.int (1 : Int32)), (.int (p0_1 &&& (2147483647 : Int32)))]) (rest := []) (lenOf pd_1 rfl) rfl (by show 2 * 0 + _ ≤ _; exact Nat.le_of_eq rfl) (hb hby at_21) (fun _ _ => ⟨rfl, e0, (by decide : 0 + 0 ≤ _), (by decide : 0 + 0 ≤ _)⟩)
      dsimp only [Pt.U, Pt.locs, Pt.cells, Pt.slots] at X5 l5 y5 z5 st5 hQ5
      subst l5 y5 z5
      obtain ⟨rfl, M5, e5⟩ := hQ5
      have N5 := Fr.app N0 M5
      have pre5 : ∀ t, Steps p.tables e below (T5.setTop (mkF m 24 #[.val (.long p0_0), .second, .val (.int p0_1), .val (.int p0_2), .unset, .unset, .unset, .unset, .unset, .unset, .unset, .unset] [(.int (r6 (1 : Int32) (p0_1 &&& (2147483647 : Int32))))])) t → Steps p.tables e below (s₁.setTop (mkF m 3 #[.val (.long p0_0), .second, .val (.int p0_1), .val (.int p0_2), .unset, .unset, .unset, .unset, .unset, .unset, .unset, .unset] [(.int (p0_2 &&& (1 : Int32)))])) t := fun t k => pre4 t (st5 t k)
      have hj7 : (j0_24_s0 p0_1 p0_2) = (r6 (1 : Int32) (p0_1 &&& (2147483647 : Int32))) := by unfold j0_24_s0; rw [if_pos hc3_3]
      exact ⟨T5, _, X5, e5, N5, fun t k => pre5 t (by rw [hj7] at k; exact k)⟩
    · have pre6 : ∀ t, Steps p.tables e below (s₁.setTop (mkF m 24 #[.val (.long p0_0), .second, .val (.int p0_1), .val (.int p0_2), .unset, .unset, .unset, .unset, .unset, .unset, .unset, .unset] [(.int ((p0_1 &&& (255 : Int32)) + (1 : Int32)))])) t → Steps p.tables e below (s₁.setTop (mkF m 3 #[.val (.long p0_0), .second, .val (.int p0_1), .val (.int p0_2), .unset, .unset, .unset, .unset, .unset, .unset, .unset, .unset] [(.int (p0_2 &&& (1 : Int32)))])) t := fun t k => pre2 t (by
        refine XS.ifNo X0.here hx rfl (hb hby at_3) rfl ((if0 _ _).trans (feq hc3_3).1) ?_
        show Steps p.tables e below (s₁.setTop (mkF m 6 #[.val (.long p0_0), .second, .val (.int p0_1), .val (.int p0_2), .unset, .unset, .unset, .unset, .unset, .unset, .unset, .unset] [])) _
        refine XS.iloadN X0.here hx rfl (hb hby at_6) rfl ?_
        show Steps p.tables e below (s₁.setTop (mkF m 7 #[.val (.long p0_0), .second, .val (.int p0_1), .val (.int p0_2), .unset, .unset, .unset, .unset, .unset, .unset, .unset, .unset] [(.int p0_1)])) _
        refine XS.sipush X0.here hx rfl (hb hby at_7) ?_
        show Steps p.tables e below (s₁.setTop (mkF m 10 #[.val (.long p0_0), .second, .val (.int p0_1), .val (.int p0_2), .unset, .unset, .unset, .unset, .unset, .unset, .unset, .unset] [(.int (255 : Int32)), (.int p0_1)])) _
        refine XS.iand X0.here hx rfl (hb hby at_10) rfl ?_
        show Steps p.tables e below (s₁.setTop (mkF m 11 #[.val (.long p0_0), .second, .val (.int p0_1), .val (.int p0_2), .unset, .unset, .unset, .unset, .unset, .unset, .unset, .unset] [(.int (p0_1 &&& (255 : Int32)))])) _
        refine XS.iconst X0.here hx rfl (hb hby at_11) ?_
        show Steps p.tables e below (s₁.setTop (mkF m 12 #[.val (.long p0_0), .second, .val (.int p0_1), .val (.int p0_2), .unset, .unset, .unset, .unset, .unset, .unset, .unset, .unset] [(.int (1 : Int32)), (.int (p0_1 &&& (255 : Int32)))])) _
        refine XS.iadd X0.here hx rfl (hb hby at_12) rfl ?_
        show Steps p.tables e below (s₁.setTop (mkF m 13 #[.val (.long p0_0), .second, .val (.int p0_1), .val (.int p0_2), .unset, .unset, .unset, .unset, .unset, .unset, .unset, .unset] [(.int ((p0_1 &&& (255 : Int32)) + (1 : Int32)))])) _
        refine XS.goto X0.here hx rfl (pc0 := 13) (pc' := 24) rfl (hb hby at_13) (by decide) (by decide) ?_
        show Steps p.tables e below (s₁.setTop (mkF m 24 #[.val (.long p0_0), .second, .val (.int p0_1), .val (.int p0_2), .unset, .unset, .unset, .unset, .unset, .unset, .unset, .unset] [(.int ((p0_1 &&& (255 : Int32)) + (1 : Int32)))])) _
        exact k)
      have hj8 : (j0_24_s0 p0_1 p0_2) = ((p0_1 &&& (255 : Int32)) + (1 : Int32)) := by unfold j0_24_s0; rw [if_neg hc3_3]
      exact ⟨s₁, _, X0, e0, N0, fun t k => pre6 t (by rw [hj8] at k; exact k)⟩
  have pre2 : ∀ t, Steps p.tables e below (T2.setTop (mkF m 24 #[.val (.long p0_0), .second, .val (.int p0_1), .val (.int p0_2), .unset, .unset, .unset, .unset, .unset, .unset, .unset, .unset] [(.int (j0_24_s0 p0_1 p0_2))])) t → Steps p.tables e below (s₁.setTop (entryFrame m #[(.long p0_0), (.int p0_1), (.int p0_2)] maxLocals)) t := fun t k => pre1 t (st2 t k)
  have pre9 : ∀ t, Steps p.tables e below (T2.setTop (mkF m 26 #[.val (.long p0_0), .second, .val (.int p0_1), .val (.int p0_2), .val (.int (j0_24_s0 p0_1 p0_2)), .unset, .unset, .unset, .unset, .unset, .unset, .unset] [])) t → Steps p.tables e below (s₁.setTop (entryFrame m #[(.long p0_0), (.int p0_1), (.int p0_2)] maxLocals)) t := fun t k => pre2 t (by
    refine XS.istore X2.here hx rfl (hb hby at_24) rfl (l' := #[.val (.long p0_0), .second, .val (.int p0_1), .val (.int p0_2), .val (.int (j0_24_s0 p0_1 p0_2)), .unset, .unset, .unset, .unset, .unset, .unset, .unset]) rfl ?_
    show Steps p.tables e below (T2.setTop (mkF m 26 #[.val (.long p0_0), .second, .val (.int p0_1), .val (.int p0_2), .val (.int (j0_24_s0 p0_1 p0_2)), .unset, .unset, .unset, .unset, .unset, .unset, .unset] [])) _
    exact k)
  obtain ⟨T10, h10, X10, e10, E10, A10, D10, -, st10⟩ := newO X2 hx hZ hown (hw _ (List.mem_of_getElem? (i := 0) rfl)) (hw _ (List.mem_of_getElem? (i := 1) rfl)) (hw _ (List.mem_of_getElem? (i := 2) rfl)) e2 (g := (mkF m 26 #[.val (.long p0_0), .second, .val (.int p0_1), .val (.int p0_2), .val (.int (j0_24_s0 p0_1 p0_2)), .unset, .unset, .unset, .unset, .unset, .unset, .unset] [])) rfl (hb hby at_26) (by decide) (by decide)
  obtain ⟨b10, q10⟩ : ∃ z, z = h0.size := ⟨_, rfl⟩
  rw [← q10] at A10 D10 st10
  have g_b10 : n0 ≤ b10 := Nat.le_trans Z0 (Nat.le_of_eq q10.symm)
  have Z10 : n0 ≤ h10.size := Nat.le_trans Z0 E10.1
  have F11 : Fld Z h10 b10 "com/example/consigliere/consigliere/engine/Rng" "state" "J" (.long (0 : Int64)) := D10 (Or.inl (hw _ (List.mem_of_getElem? (i := 10) rfl))) (ty := .long) (by decide)
  have pre10 : ∀ t, Steps p.tables e below (T10.setTop (mkF m 29 #[.val (.long p0_0), .second, .val (.int p0_1), .val (.int p0_2), .val (.int (j0_24_s0 p0_1 p0_2)), .unset, .unset, .unset, .unset, .unset, .unset, .unset] [(.ref b10)])) t → Steps p.tables e below (s₁.setTop (entryFrame m #[(.long p0_0), (.int p0_1), (.int p0_2)] maxLocals)) t := fun t k => pre9 t (st10 t k)
  have pre12 : ∀ t, Steps p.tables e below (T10.setTop (mkF m 31 #[.val (.long p0_0), .second, .val (.int p0_1), .val (.int p0_2), .val (.int (j0_24_s0 p0_1 p0_2)), .unset, .unset, .unset, .unset, .unset, .unset, .unset] [(.long p0_0), (.ref b10), (.ref b10)])) t → Steps p.tables e below (s₁.setTop (entryFrame m #[(.long p0_0), (.int p0_1), (.int p0_2)] maxLocals)) t := fun t k => pre10 t (by
    refine XS.dup X10.here hx rfl (hb hby at_29) rfl rfl ?_
    show Steps p.tables e below (T10.setTop (mkF m 30 #[.val (.long p0_0), .second, .val (.int p0_1), .val (.int p0_2), .val (.int (j0_24_s0 p0_1 p0_2)), .unset, .unset, .unset, .unset, .unset, .unset, .unset] [(.ref b10), (.ref b10)])) _
    refine XS.lloadN X10.here hx rfl (hb hby at_30) rfl ?_
    show Steps p.tables e below (T10.setTop (mkF m 31 #[.val (.long p0_0), .second, .val (.int p0_1), .val (.int p0_2), .val (.int (j0_24_s0 p0_1 p0_2)), .unset, .unset, .unset, .unset, .unset, .unset, .unset] [(.long p0_0), (.ref b10), (.ref b10)])) _
    exact k)
  obtain ⟨_, _, ⟨T13, L13, k13, n13⟩, -, X13, ⟨Lc13, hQ13, l13, y13, z13⟩, st13⟩ := X10.specialBack hx (y := (⟨"com/example/consigliere/consigliere/engine/Rng", "<init>", "(J)V"⟩ : MethodName)) rfl hown (mvT hZ (hw _ (List.mem_of_getElem? (i := 3) rfl))) (mvT hZ (hw _ (List.mem_of_getElem? (i := 4) rfl))) (mvT hZ (hw _ (List.mem_of_getElem? (i := 5) rfl))) (by decide) (backOf (W := 1) (rm1 l Z a0 hw [] b10 p0_0 (0 : Int64) h10 n0 Z10 A10 F11 g_b10) hZ (hw _ (List.mem_of_getElem? (i := 5) rfl)) (hw _ (List.mem_of_getElem? (i := 2) rfl)) (by decide) (by decide)) (g := (mkF m 31 #[.val (.long p0_0), .second, .val (.int p0_1), .val (.int p0_2), .val (.int (j0_24_s0 p0_1 p0_2)), .unset, .unset, .unset, .unset, .unset, .unset, .unset] [(.long p0_0), (.ref b10), (.ref b10)])) rfl (by rw [hml]; rfl) (Steps.refl _) (a := b10) (argsL := [(.long p0_0)]) (rest := [(.ref b10)]) (lenOf pd_2 rfl) rfl (by show 2 * 0 + _ ≤ _; exact Nat.le_of_eq rfl) (hb hby at_31) (fun _ _ => ⟨rfl, e10, (by decide : 1 + 0 ≤ _), (by decide : 1 + 0 ≤ _)⟩)
  dsimp only [Pt.U, Pt.locs, Pt.cells, Pt.slots] at X13 l13 y13 z13 st13 hQ13
  subst l13 y13 z13
  obtain ⟨rfl, M13, K13c, P13_0⟩ := hQ13
  have N13 := Fr.app N2 M13
  have K13 : Keep h10 T13.heap [b10] := K13c
  have Z13 : n0 ≤ T13.heap.size := Nat.le_trans Z10 K13.1
  have Ex14 : Exa Z T13.heap b10 "com/example/consigliere/consigliere/engine/Rng" := A10.keep K13
  have F15 : Fld Z T13.heap b10 "com/example/consigliere/consigliere/engine/Rng" "state" "J" (.long p0_0) := P13_0
  have pre13 : ∀ t, Steps p.tables e below (T13.setTop (mkF m 34 #[.val (.long p0_0), .second, .val (.int p0_1), .val (.int p0_2), .val (.int (j0_24_s0 p0_1 p0_2)), .unset, .unset, .unset, .unset, .unset, .unset, .unset] [(.ref b10)])) t → Steps p.tables e below (s₁.setTop (entryFrame m #[(.long p0_0), (.int p0_1), (.int p0_2)] maxLocals)) t := fun t k => pre12 t (st13.trans k)
  have pre16 : ∀ t, Steps p.tables e below (T13.setTop (mkF m 36 #[.val (.long p0_0), .second, .val (.int p0_1), .val (.int p0_2), .val (.int (j0_24_s0 p0_1 p0_2)), .val (.ref b10), .unset, .unset, .unset, .unset, .unset, .unset] [])) t → Steps p.tables e below (s₁.setTop (entryFrame m #[(.long p0_0), (.int p0_1), (.int p0_2)] maxLocals)) t := fun t k => pre13 t (by
    refine XS.astore X13.here hx rfl (hb hby at_34) rfl rfl (l' := #[.val (.long p0_0), .second, .val (.int p0_1), .val (.int p0_2), .val (.int (j0_24_s0 p0_1 p0_2)), .val (.ref b10), .unset, .unset, .unset, .unset, .unset, .unset]) rfl ?_
    show Steps p.tables e below (T13.setTop (mkF m 36 #[.val (.long p0_0), .second, .val (.int p0_1), .val (.int p0_2), .val (.int (j0_24_s0 p0_1 p0_2)), .val (.ref b10), .unset, .unset, .unset, .unset, .unset, .unset] [])) _
    exact k)
  obtain ⟨T17, h17, X17, e17, E17, A17, D17, -, st17⟩ := newO X13 hx hZ hown (hw _ (List.mem_of_getElem? (i := 0) rfl)) (hw _ (List.mem_of_getElem? (i := 1) rfl)) (hw _ (List.mem_of_getElem? (i := 2) rfl)) rfl (g := (mkF m 36 #[.val (.long p0_0), .second, .val (.int p0_1), .val (.int p0_2), .val (.int (j0_24_s0 p0_1 p0_2)), .val (.ref b10), .unset, .unset, .unset, .unset, .unset, .unset] [])) rfl (hb hby at_36) (by decide) (by decide)
  obtain ⟨b17, q17⟩ : ∃ z, z = T13.heap.size := ⟨_, rfl⟩
  rw [← q17] at A17 D17 st17
  have ne_b10_b17 : b10 ≠ b17 := Nat.ne_of_lt (Nat.lt_of_lt_of_le Ex14.lt (Nat.le_of_eq q17.symm))
  have g_b17 : n0 ≤ b17 := Nat.le_trans Z13 (Nat.le_of_eq q17.symm)
  have Ex18 : Exa Z h17 b10 "com/example/consigliere/consigliere/engine/Rng" := Ex14.ext E17
  have F19 : Fld Z h17 b10 "com/example/consigliere/consigliere/engine/Rng" "state" "J" (.long p0_0) := F15.ext E17
  have Z17 : n0 ≤ h17.size := Nat.le_trans Z13 E17.1
  have F20 : Fld Z h17 b17 "com/example/consigliere/consigliere/engine/Rng" "state" "J" (.long (0 : Int64)) := D17 (Or.inl (hw _ (List.mem_of_getElem? (i := 10) rfl))) (ty := .long) (by decide)
  have pre17 : ∀ t, Steps p.tables e below (T17.setTop (mkF m 39 #[.val (.long p0_0), .second, .val (.int p0_1), .val (.int p0_2), .val (.int (j0_24_s0 p0_1 p0_2)), .val (.ref b10), .unset, .unset, .unset, .unset, .unset, .unset] [(.ref b17)])) t → Steps p.tables e below (s₁.setTop (entryFrame m #[(.long p0_0), (.int p0_1), (.int p0_2)] maxLocals)) t := fun t k => pre16 t (st17 t k)
  have pre21 : ∀ t, Steps p.tables e below (T17.setTop (mkF m 41 #[.val (.long p0_0), .second, .val (.int p0_1), .val (.int p0_2), .val (.int (j0_24_s0 p0_1 p0_2)), .val (.ref b10), .unset, .unset, .unset, .unset, .unset, .unset] [(.long p0_0), (.ref b17), (.ref b17)])) t → Steps p.tables e below (s₁.setTop (entryFrame m #[(.long p0_0), (.int p0_1), (.int p0_2)] maxLocals)) t := fun t k => pre17 t (by
    refine XS.dup X17.here hx rfl (hb hby at_39) rfl rfl ?_
    show Steps p.tables e below (T17.setTop (mkF m 40 #[.val (.long p0_0), .second, .val (.int p0_1), .val (.int p0_2), .val (.int (j0_24_s0 p0_1 p0_2)), .val (.ref b10), .unset, .unset, .unset, .unset, .unset, .unset] [(.ref b17), (.ref b17)])) _
    refine XS.lloadN X17.here hx rfl (hb hby at_40) rfl ?_
    show Steps p.tables e below (T17.setTop (mkF m 41 #[.val (.long p0_0), .second, .val (.int p0_1), .val (.int p0_2), .val (.int (j0_24_s0 p0_1 p0_2)), .val (.ref b10), .unset, .unset, .unset, .unset, .unset, .unset] [(.long p0_0), (.ref b17), (.ref b17)])) _
    exact k)
  obtain ⟨_, _, ⟨T22, L22, k22, n22⟩, -, X22, ⟨Lc22, hQ22, l22, y22, z22⟩, st22⟩ := X17.specialBack hx (y := (⟨"com/example/consigliere/consigliere/engine/Rng", "<init>", "(J)V"⟩ : MethodName)) rfl hown (mvT hZ (hw _ (List.mem_of_getElem? (i := 3) rfl))) (mvT hZ (hw _ (List.mem_of_getElem? (i := 4) rfl))) (mvT hZ (hw _ (List.mem_of_getElem? (i := 5) rfl))) (by decide) (backOf (W := 1) (rm1 l Z a0 hw [] b17 p0_0 (0 : Int64) h17 n0 Z17 A17 F20 g_b17) hZ (hw _ (List.mem_of_getElem? (i := 5) rfl)) (hw _ (List.mem_of_getElem? (i := 2) rfl)) (by decide) (by decide)) (g := (mkF m 41 #[.val (.long p0_0), .second, .val (.int p0_1), .val (.int p0_2), .val (.int (j0_24_s0 p0_1 p0_2)), .val (.ref b10), .unset, .unset, .unset, .unset, .unset, .unset] [(.long p0_0), (.ref b17), (.ref b17)])) rfl (by rw [hml]; rfl) (Steps.refl _) (a := b17) (argsL := [(.long p0_0)]) (rest := [(.ref b17)]) (lenOf pd_2 rfl) rfl (by show 2 * 0 + _ ≤ _; exact Nat.le_of_eq rfl) (hb hby at_41) (fun _ _ => ⟨rfl, e17, (by decide : 2 + 0 ≤ _), (by decide : 2 + 0 ≤ _)⟩)
  dsimp only [Pt.U, Pt.locs, Pt.cells, Pt.slots] at X22 l22 y22 z22 st22 hQ22
  subst l22 y22 z22
  obtain ⟨rfl, M22, K22c, P22_0⟩ := hQ22
  have N22 := Fr.app N13 M22
  have K22 : Keep h17 T22.heap [b17] := K22c
  have Z22 : n0 ≤ T22.heap.size := Nat.le_trans Z17 K22.1
  have Ex23 : Exa Z T22.heap b10 "com/example/consigliere/consigliere/engine/Rng" := Ex18.keep K22
  have F24 : Fld Z T22.heap b10 "com/example/consigliere/consigliere/engine/Rng" "state" "J" (.long p0_0) := F19.keep K22 (ninS ne_b10_b17 nin0)
  have Ex25 : Exa Z T22.heap b17 "com/example/consigliere/consigliere/engine/Rng" := A17.keep K22
  have F26 : Fld Z T22.heap b17 "com/example/consigliere/consigliere/engine/Rng" "state" "J" (.long p0_0) := P22_0
  have pre22 : ∀ t, Steps p.tables e below (T22.setTop (mkF m 44 #[.val (.long p0_0), .second, .val (.int p0_1), .val (.int p0_2), .val (.int (j0_24_s0 p0_1 p0_2)), .val (.ref b10), .unset, .unset, .unset, .unset, .unset, .unset] [(.ref b17)])) t → Steps p.tables e below (s₁.setTop (entryFrame m #[(.long p0_0), (.int p0_1), (.int p0_2)] maxLocals)) t := fun t k => pre21 t (st22.trans k)
  have pre27 : ∀ t, Steps p.tables e below (T22.setTop (mkF m 50 #[.val (.long p0_0), .second, .val (.int p0_1), .val (.int p0_2), .val (.int (j0_24_s0 p0_1 p0_2)), .val (.ref b10), .val (.ref b17), .unset, .unset, .unset, .unset, .unset] [(.int (j0_24_s0 p0_1 p0_2)), (.ref b10)])) t → Steps p.tables e below (s₁.setTop (entryFrame m #[(.long p0_0), (.int p0_1), (.int p0_2)] maxLocals)) t := fun t k => pre22 t (by
    refine XS.astore X22.here hx rfl (hb hby at_44) rfl rfl (l' := #[.val (.long p0_0), .second, .val (.int p0_1), .val (.int p0_2), .val (.int (j0_24_s0 p0_1 p0_2)), .val (.ref b10), .val (.ref b17), .unset, .unset, .unset, .unset, .unset]) rfl ?_
    show Steps p.tables e below (T22.setTop (mkF m 46 #[.val (.long p0_0), .second, .val (.int p0_1), .val (.int p0_2), .val (.int (j0_24_s0 p0_1 p0_2)), .val (.ref b10), .val (.ref b17), .unset, .unset, .unset, .unset, .unset] [])) _
    refine XS.aload X22.here hx rfl (hb hby at_46) rfl rfl ?_
    show Steps p.tables e below (T22.setTop (mkF m 48 #[.val (.long p0_0), .second, .val (.int p0_1), .val (.int p0_2), .val (.int (j0_24_s0 p0_1 p0_2)), .val (.ref b10), .val (.ref b17), .unset, .unset, .unset, .unset, .unset] [(.ref b10)])) _
    refine XS.iload X22.here hx rfl (hb hby at_48) rfl ?_
    show Steps p.tables e below (T22.setTop (mkF m 50 #[.val (.long p0_0), .second, .val (.int p0_1), .val (.int p0_2), .val (.int (j0_24_s0 p0_1 p0_2)), .val (.ref b10), .val (.ref b17), .unset, .unset, .unset, .unset, .unset] [(.int (j0_24_s0 p0_1 p0_2)), (.ref b10)])) _
    exact k)
  obtain ⟨cq28, kq28, qa28, qb28, qc28⟩ := isOf hZ rfl Ex23
  obtain ⟨_, _, ⟨T28, L28, k28, n28⟩, -, X28, ⟨Lc28, hQ28, l28, y28, z28⟩, st28⟩ := X22.virtualBack hx (y := (⟨"com/example/consigliere/consigliere/engine/Rng", "nextInt", "(I)I"⟩ : MethodName)) (z := (⟨"com/example/consigliere/consigliere/engine/Rng", "nextInt", "(I)I"⟩ : MethodName)) hown (mvT hZ (hw _ (List.mem_of_getElem? (i := 11) rfl))) (mvT hZ (hw _ (List.mem_of_getElem? (i := 12) rfl))) (notFace_of_selects (args := #[]) (mvT hZ (hw _ (List.mem_of_getElem? (i := 14) rfl)))) (mvT hZ (hw _ (List.mem_of_getElem? (i := 14) rfl))) (mvT hZ (hw _ (List.mem_of_getElem? (i := 13) rfl))) (by decide) (backOf (W := 0) (rm3 l Z a0 hw [] b10 (j0_24_s0 p0_1 p0_2) (JJ p0_0 (j0_24_s0 p0_1 p0_2)) p0_0 T22.heap n0 Z22 (own_b p0_1 p0_2) (hJ p0_0 _ (own_b p0_1 p0_2)).1 (hJ p0_0 _ (own_b p0_1 p0_2)).2 Ex23 F24 g_b10) hZ (hw _ (List.mem_of_getElem? (i := 15) rfl)) (hw _ (List.mem_of_getElem? (i := 2) rfl)) (by decide) (by decide)) qa28 qc28 (g := (mkF m 50 #[.val (.long p0_0), .second, .val (.int p0_1), .val (.int p0_2), .val (.int (j0_24_s0 p0_1 p0_2)), .val (.ref b10), .val (.ref b17), .unset, .unset, .unset, .unset, .unset] [(.int (j0_24_s0 p0_1 p0_2)), (.ref b10)])) rfl (by rw [hml]; rfl) (Steps.refl _) (argsL := [(.int (j0_24_s0 p0_1 p0_2))]) (rest := []) (lenOf pd_3 rfl) rfl (by show 2 * 0 + _ ≤ _; exact Nat.le_of_eq rfl) (hb hby at_50) (fun _ _ => ⟨rfl, rfl, (by decide : 2 + 0 ≤ _), (by decide : 2 + 0 ≤ _)⟩)
  dsimp only [Pt.U, Pt.locs, Pt.cells, Pt.slots] at X28 l28 y28 z28 st28 hQ28
  subst l28 y28 z28
  obtain ⟨rfl, M28, K28c, P28_0⟩ := hQ28
  have N28 := Fr.app N22 M28
  have K28 : Keep T22.heap T28.heap [b10] := K28c
  have Z28 : n0 ≤ T28.heap.size := Nat.le_trans Z22 K28.1
  have Ex29 : Exa Z T28.heap b10 "com/example/consigliere/consigliere/engine/Rng" := Ex23.keep K28
  have Ex30 : Exa Z T28.heap b17 "com/example/consigliere/consigliere/engine/Rng" := Ex25.keep K28
  have F31 : Fld Z T28.heap b17 "com/example/consigliere/consigliere/engine/Rng" "state" "J" (.long p0_0) := F26.keep K28 (ninS (Ne.symm ne_b10_b17) nin0)
  have F32 : Fld Z T28.heap b10 "com/example/consigliere/consigliere/engine/Rng" "state" "J" (.long (own_it ((JJ p0_0 (j0_24_s0 p0_1 p0_2)) + 1) p0_0)) := P28_0
  have pre28 : ∀ t, Steps p.tables e below (T28.setTop (mkF m 53 #[.val (.long p0_0), .second, .val (.int p0_1), .val (.int p0_2), .val (.int (j0_24_s0 p0_1 p0_2)), .val (.ref b10), .val (.ref b17), .unset, .unset, .unset, .unset, .unset] [(.int (c0_50 p0_0 p0_1 p0_2 JJ))])) t → Steps p.tables e below (s₁.setTop (entryFrame m #[(.long p0_0), (.int p0_1), (.int p0_2)] maxLocals)) t := fun t k => pre27 t (st28.trans k)
  have pre33 : ∀ t, Steps p.tables e below (T28.setTop (mkF m 57 #[.val (.long p0_0), .second, .val (.int p0_1), .val (.int p0_2), .val (.int (j0_24_s0 p0_1 p0_2)), .val (.ref b10), .val (.ref b17), .val (.int (c0_50 p0_0 p0_1 p0_2 JJ)), .unset, .unset, .unset, .unset] [(.ref b17)])) t → Steps p.tables e below (s₁.setTop (entryFrame m #[(.long p0_0), (.int p0_1), (.int p0_2)] maxLocals)) t := fun t k => pre28 t (by
    refine XS.istore X28.here hx rfl (hb hby at_53) rfl (l' := #[.val (.long p0_0), .second, .val (.int p0_1), .val (.int p0_2), .val (.int (j0_24_s0 p0_1 p0_2)), .val (.ref b10), .val (.ref b17), .val (.int (c0_50 p0_0 p0_1 p0_2 JJ)), .unset, .unset, .unset, .unset]) rfl ?_
    show Steps p.tables e below (T28.setTop (mkF m 55 #[.val (.long p0_0), .second, .val (.int p0_1), .val (.int p0_2), .val (.int (j0_24_s0 p0_1 p0_2)), .val (.ref b10), .val (.ref b17), .val (.int (c0_50 p0_0 p0_1 p0_2 JJ)), .unset, .unset, .unset, .unset] [])) _
    refine XS.aload X28.here hx rfl (hb hby at_55) rfl rfl ?_
    show Steps p.tables e below (T28.setTop (mkF m 57 #[.val (.long p0_0), .second, .val (.int p0_1), .val (.int p0_2), .val (.int (j0_24_s0 p0_1 p0_2)), .val (.ref b10), .val (.ref b17), .val (.int (c0_50 p0_0 p0_1 p0_2 JJ)), .unset, .unset, .unset, .unset] [(.ref b17)])) _
    exact k)
  obtain ⟨cq34, kq34, qa34, qb34, qc34⟩ := isOf hZ rfl Ex30
  obtain ⟨_, _, ⟨T34, L34, k34, n34⟩, -, X34, ⟨Lc34, hQ34, l34, y34, z34⟩, st34⟩ := X28.virtualBack hx (y := (⟨"com/example/consigliere/consigliere/engine/Rng", "nextLong", "()J"⟩ : MethodName)) (z := (⟨"com/example/consigliere/consigliere/engine/Rng", "nextLong", "()J"⟩ : MethodName)) hown (mvT hZ (hw _ (List.mem_of_getElem? (i := 25) rfl))) (mvT hZ (hw _ (List.mem_of_getElem? (i := 18) rfl))) (notFace_of_selects (args := #[]) (mvT hZ (hw _ (List.mem_of_getElem? (i := 20) rfl)))) (mvT hZ (hw _ (List.mem_of_getElem? (i := 20) rfl))) (mvT hZ (hw _ (List.mem_of_getElem? (i := 19) rfl))) (by decide) (backOf (W := 0) (rm4 l Z a0 hw [] b17 p0_0 T28.heap n0 Z28 Ex30 F31 g_b17) hZ (hw _ (List.mem_of_getElem? (i := 21) rfl)) (hw _ (List.mem_of_getElem? (i := 2) rfl)) (by decide) (by decide)) qa34 qc34 (g := (mkF m 57 #[.val (.long p0_0), .second, .val (.int p0_1), .val (.int p0_2), .val (.int (j0_24_s0 p0_1 p0_2)), .val (.ref b10), .val (.ref b17), .val (.int (c0_50 p0_0 p0_1 p0_2 JJ)), .unset, .unset, .unset, .unset] [(.ref b17)])) rfl (by rw [hml]; rfl) (Steps.refl _) (argsL := []) (rest := []) (lenOf pd_0 rfl) rfl (by show 2 * 0 + _ ≤ _; exact Nat.le_of_eq rfl) (hb hby at_57) (fun _ _ => ⟨rfl, rfl, (by decide : 2 + 0 ≤ _), (by decide : 2 + 0 ≤ _)⟩)
  dsimp only [Pt.U, Pt.locs, Pt.cells, Pt.slots] at X34 l34 y34 z34 st34 hQ34
  subst l34 y34 z34
  obtain ⟨rfl, M34, K34c, P34_0⟩ := hQ34
  have N34 := Fr.app N28 M34
  have K34 : Keep T28.heap T34.heap [b17] := K34c
  have Z34 : n0 ≤ T34.heap.size := Nat.le_trans Z28 K34.1
  have Ex35 : Exa Z T34.heap b10 "com/example/consigliere/consigliere/engine/Rng" := Ex29.keep K34
  have F36 : Fld Z T34.heap b10 "com/example/consigliere/consigliere/engine/Rng" "state" "J" (.long (own_it ((JJ p0_0 (j0_24_s0 p0_1 p0_2)) + 1) p0_0)) := F32.keep K34 (ninS ne_b10_b17 nin0)
  have Ex37 : Exa Z T34.heap b17 "com/example/consigliere/consigliere/engine/Rng" := Ex30.keep K34
  have F38 : Fld Z T34.heap b17 "com/example/consigliere/consigliere/engine/Rng" "state" "J" (.long (v4_9 p0_0)) := P34_0
  have pre34 : ∀ t, Steps p.tables e below (T34.setTop (mkF m 60 #[.val (.long p0_0), .second, .val (.int p0_1), .val (.int p0_2), .val (.int (j0_24_s0 p0_1 p0_2)), .val (.ref b10), .val (.ref b17), .val (.int (c0_50 p0_0 p0_1 p0_2 JJ)), .unset, .unset, .unset, .unset] [(.long (r4 p0_0))])) t → Steps p.tables e below (s₁.setTop (entryFrame m #[(.long p0_0), (.int p0_1), (.int p0_2)] maxLocals)) t := fun t k => pre33 t (st34.trans k)
  have pre39 : ∀ t, Steps p.tables e below (T34.setTop (mkF m 69 #[.val (.long p0_0), .second, .val (.int p0_1), .val (.int p0_2), .val (.int (j0_24_s0 p0_1 p0_2)), .val (.ref b10), .val (.ref b17), .val (.int (c0_50 p0_0 p0_1 p0_2 JJ)), .val (.long (v0_63 p0_0)), .second, .unset, .unset] [(.int (j0_24_s0 p0_1 p0_2)), (.long (v0_63 p0_0))])) t → Steps p.tables e below (s₁.setTop (entryFrame m #[(.long p0_0), (.int p0_1), (.int p0_2)] maxLocals)) t := fun t k => pre34 t (by
    refine XS.bipush X34.here hx rfl (hb hby at_60) ?_
    show Steps p.tables e below (T34.setTop (mkF m 62 #[.val (.long p0_0), .second, .val (.int p0_1), .val (.int p0_2), .val (.int (j0_24_s0 p0_1 p0_2)), .val (.ref b10), .val (.ref b17), .val (.int (c0_50 p0_0 p0_1 p0_2 JJ)), .unset, .unset, .unset, .unset] [(.int (32 : Int32)), (.long (r4 p0_0))])) _
    refine XS.lushr X34.here hx rfl (hb hby at_62) rfl ?_
    show Steps p.tables e below (T34.setTop (mkF m 63 #[.val (.long p0_0), .second, .val (.int p0_1), .val (.int p0_2), .val (.int (j0_24_s0 p0_1 p0_2)), .val (.ref b10), .val (.ref b17), .val (.int (c0_50 p0_0 p0_1 p0_2 JJ)), .unset, .unset, .unset, .unset] [(.long (own_ushrL (r4 p0_0) (32 : Int32)))])) _
    show Steps p.tables e below (T34.setTop (mkF m 63 #[.val (.long p0_0), .second, .val (.int p0_1), .val (.int p0_2), .val (.int (j0_24_s0 p0_1 p0_2)), .val (.ref b10), .val (.ref b17), .val (.int (c0_50 p0_0 p0_1 p0_2 JJ)), .unset, .unset, .unset, .unset] [(.long (v0_63 p0_0))])) _
    refine XS.lstore X34.here hx rfl (hb hby at_63) rfl (l' := #[.val (.long p0_0), .second, .val (.int p0_1), .val (.int p0_2), .val (.int (j0_24_s0 p0_1 p0_2)), .val (.ref b10), .val (.ref b17), .val (.int (c0_50 p0_0 p0_1 p0_2 JJ)), .val (.long (v0_63 p0_0)), .second, .unset, .unset]) rfl ?_
    show Steps p.tables e below (T34.setTop (mkF m 65 #[.val (.long p0_0), .second, .val (.int p0_1), .val (.int p0_2), .val (.int (j0_24_s0 p0_1 p0_2)), .val (.ref b10), .val (.ref b17), .val (.int (c0_50 p0_0 p0_1 p0_2 JJ)), .val (.long (v0_63 p0_0)), .second, .unset, .unset] [])) _
    refine XS.lload X34.here hx rfl (hb hby at_65) rfl ?_
    show Steps p.tables e below (T34.setTop (mkF m 67 #[.val (.long p0_0), .second, .val (.int p0_1), .val (.int p0_2), .val (.int (j0_24_s0 p0_1 p0_2)), .val (.ref b10), .val (.ref b17), .val (.int (c0_50 p0_0 p0_1 p0_2 JJ)), .val (.long (v0_63 p0_0)), .second, .unset, .unset] [(.long (v0_63 p0_0))])) _
    refine XS.iload X34.here hx rfl (hb hby at_67) rfl ?_
    show Steps p.tables e below (T34.setTop (mkF m 69 #[.val (.long p0_0), .second, .val (.int p0_1), .val (.int p0_2), .val (.int (j0_24_s0 p0_1 p0_2)), .val (.ref b10), .val (.ref b17), .val (.int (c0_50 p0_0 p0_1 p0_2 JJ)), .val (.long (v0_63 p0_0)), .second, .unset, .unset] [(.int (j0_24_s0 p0_1 p0_2)), (.long (v0_63 p0_0))])) _
    exact k)
  obtain ⟨_, _, ⟨T40, L40, k40, n40⟩, -, X40, ⟨Lc40, hQ40, l40, y40, z40⟩, st40⟩ := Jvm.LawKit.callS X34 hx (y := (⟨"com/example/consigliere/consigliere/engine/RngNextIntPinLaw", "accepted", "(JI)Z"⟩ : MethodName)) hown (mvT hZ (hw _ (List.mem_of_getElem? (i := 26) rfl))) (mvT hZ (hw _ (List.mem_of_getElem? (i := 27) rfl))) (mvT hZ (hw _ (List.mem_of_getElem? (i := 28) rfl))) (mvT hZ (hw _ (List.mem_of_getElem? (i := 29) rfl))) (by decide) (backOf (W := 0) (rm5 l Z a0 hw [] (v0_63 p0_0) (j0_24_s0 p0_1 p0_2) T34.heap n0 Z34 (own_nzb (own_b p0_1 p0_2))) hZ (hw _ (List.mem_of_getElem? (i := 29) rfl)) (hw _ (List.mem_of_getElem? (i := 28) rfl)) (by decide) (by decide)) (g := (mkF m 69 #[.val (.long p0_0), .second, .val (.int p0_1), .val (.int p0_2), .val (.int (j0_24_s0 p0_1 p0_2)), .val (.ref b10), .val (.ref b17), .val (.int (c0_50 p0_0 p0_1 p0_2 JJ)), .val (.long (v0_63 p0_0)), .second, .unset, .unset] [(.int (j0_24_s0 p0_1 p0_2)), (.long (v0_63 p0_0))])) rfl (by rw [hml]; rfl) (argsL := [(.long (v0_63 p0_0)), (.int (j0_24_s0 p0_1 p0_2))]) (rest := []) (lenOf pd_4 rfl) rfl (by show 2 * 0 + _ ≤ _; exact Nat.le_of_eq rfl) (hb hby at_69) (fun _ _ => ⟨rfl, rfl, (by decide : 2 + 0 ≤ _), (by decide : 2 + 0 ≤ _)⟩)
  dsimp only [Pt.U, Pt.locs, Pt.cells, Pt.slots] at X40 l40 y40 z40 st40 hQ40
  subst l40 y40 z40
  obtain ⟨rfl, M40, e40⟩ := hQ40
  have N40 := Fr.app N34 M40
  have pre40 : ∀ t, Steps p.tables e below (T40.setTop (mkF m 72 #[.val (.long p0_0), .second, .val (.int p0_1), .val (.int p0_2), .val (.int (j0_24_s0 p0_1 p0_2)), .val (.ref b10), .val (.ref b17), .val (.int (c0_50 p0_0 p0_1 p0_2 JJ)), .val (.long (v0_63 p0_0)), .second, .unset, .unset] [(.int (r5 (v0_63 p0_0) (j0_24_s0 p0_1 p0_2)))])) t → Steps p.tables e below (s₁.setTop (entryFrame m #[(.long p0_0), (.int p0_1), (.int p0_2)] maxLocals)) t := fun t k => pre39 t (st40 t k)
  by_cases hc72_41 : (r5 (v0_63 p0_0) (j0_24_s0 p0_1 p0_2)) = (0 : Int32)
  · have pre42 : ∀ t, Steps p.tables e below (T40.setTop (mkF m 109 #[.val (.long p0_0), .second, .val (.int p0_1), .val (.int p0_2), .val (.int (j0_24_s0 p0_1 p0_2)), .val (.ref b10), .val (.ref b17), .val (.int (c0_50 p0_0 p0_1 p0_2 JJ)), .val (.long (v0_63 p0_0)), .second, .unset, .unset] [(.ref b17)])) t → Steps p.tables e below (s₁.setTop (entryFrame m #[(.long p0_0), (.int p0_1), (.int p0_2)] maxLocals)) t := fun t k => pre40 t (by
      refine XS.ifYes X40.here hx rfl (pc0 := 72) (pc' := 107) rfl (hb hby at_72) rfl ((if0 _ _).trans (teq hc72_41).1) (by decide) (by decide) ?_
      show Steps p.tables e below (T40.setTop (mkF m 107 #[.val (.long p0_0), .second, .val (.int p0_1), .val (.int p0_2), .val (.int (j0_24_s0 p0_1 p0_2)), .val (.ref b10), .val (.ref b17), .val (.int (c0_50 p0_0 p0_1 p0_2 JJ)), .val (.long (v0_63 p0_0)), .second, .unset, .unset] [])) _
      refine XS.aload X40.here hx rfl (hb hby at_107) rfl rfl ?_
      show Steps p.tables e below (T40.setTop (mkF m 109 #[.val (.long p0_0), .second, .val (.int p0_1), .val (.int p0_2), .val (.int (j0_24_s0 p0_1 p0_2)), .val (.ref b10), .val (.ref b17), .val (.int (c0_50 p0_0 p0_1 p0_2 JJ)), .val (.long (v0_63 p0_0)), .second, .unset, .unset] [(.ref b17)])) _
      exact k)
    obtain ⟨cq43, kq43, qa43, qb43, qc43⟩ := isOf hZ e40 Ex37
    obtain ⟨_, _, ⟨T43, L43, k43, n43⟩, -, X43, ⟨Lc43, hQ43, l43, y43, z43⟩, st43⟩ := X40.virtualBack hx (y := (⟨"com/example/consigliere/consigliere/engine/Rng", "nextLong", "()J"⟩ : MethodName)) (z := (⟨"com/example/consigliere/consigliere/engine/Rng", "nextLong", "()J"⟩ : MethodName)) hown (mvT hZ (hw _ (List.mem_of_getElem? (i := 25) rfl))) (mvT hZ (hw _ (List.mem_of_getElem? (i := 18) rfl))) (notFace_of_selects (args := #[]) (mvT hZ (hw _ (List.mem_of_getElem? (i := 20) rfl)))) (mvT hZ (hw _ (List.mem_of_getElem? (i := 20) rfl))) (mvT hZ (hw _ (List.mem_of_getElem? (i := 19) rfl))) (by decide) (backOf (W := 0) (rm4 l Z a0 hw [] b17 (v4_9 p0_0) T34.heap n0 Z34 Ex37 F38 g_b17) hZ (hw _ (List.mem_of_getElem? (i := 21) rfl)) (hw _ (List.mem_of_getElem? (i := 2) rfl)) (by decide) (by decide)) qa43 qc43 (g := (mkF m 109 #[.val (.long p0_0), .second, .val (.int p0_1), .val (.int p0_2), .val (.int (j0_24_s0 p0_1 p0_2)), .val (.ref b10), .val (.ref b17), .val (.int (c0_50 p0_0 p0_1 p0_2 JJ)), .val (.long (v0_63 p0_0)), .second, .unset, .unset] [(.ref b17)])) rfl (by rw [hml]; rfl) (Steps.refl _) (argsL := []) (rest := []) (lenOf pd_0 rfl) rfl (by show 2 * 0 + _ ≤ _; exact Nat.le_of_eq rfl) (hb hby at_109) (fun _ _ => ⟨rfl, e40, (by decide : 2 + 0 ≤ _), (by decide : 2 + 0 ≤ _)⟩)
    dsimp only [Pt.U, Pt.locs, Pt.cells, Pt.slots] at X43 l43 y43 z43 st43 hQ43
    subst l43 y43 z43
    obtain ⟨rfl, M43, K43c, P43_0⟩ := hQ43
    have N43 := Fr.app N40 M43
    have K43 : Keep T34.heap T43.heap [b17] := K43c
    have Z43 : n0 ≤ T43.heap.size := Nat.le_trans Z34 K43.1
    have Ex44 : Exa Z T43.heap b10 "com/example/consigliere/consigliere/engine/Rng" := Ex35.keep K43
    have F45 : Fld Z T43.heap b10 "com/example/consigliere/consigliere/engine/Rng" "state" "J" (.long (own_it ((JJ p0_0 (j0_24_s0 p0_1 p0_2)) + 1) p0_0)) := F36.keep K43 (ninS ne_b10_b17 nin0)
    have Ex46 : Exa Z T43.heap b17 "com/example/consigliere/consigliere/engine/Rng" := Ex37.keep K43
    have F47 : Fld Z T43.heap b17 "com/example/consigliere/consigliere/engine/Rng" "state" "J" (.long (v4_9 (v4_9 p0_0))) := P43_0
    have pre43 : ∀ t, Steps p.tables e below (T43.setTop (mkF m 112 #[.val (.long p0_0), .second, .val (.int p0_1), .val (.int p0_2), .val (.int (j0_24_s0 p0_1 p0_2)), .val (.ref b10), .val (.ref b17), .val (.int (c0_50 p0_0 p0_1 p0_2 JJ)), .val (.long (v0_63 p0_0)), .second, .unset, .unset] [(.long (r4 (v4_9 p0_0)))])) t → Steps p.tables e below (s₁.setTop (entryFrame m #[(.long p0_0), (.int p0_1), (.int p0_2)] maxLocals)) t := fun t k => pre42 t (st43.trans k)
    have pre48 : ∀ t, Steps p.tables e below (T43.setTop (mkF m 121 #[.val (.long p0_0), .second, .val (.int p0_1), .val (.int p0_2), .val (.int (j0_24_s0 p0_1 p0_2)), .val (.ref b10), .val (.ref b17), .val (.int (c0_50 p0_0 p0_1 p0_2 JJ)), .val (.long (v0_63 p0_0)), .second, .val (.long (v0_115 p0_0)), .second] [(.int (j0_24_s0 p0_1 p0_2)), (.long (v0_115 p0_0))])) t → Steps p.tables e below (s₁.setTop (entryFrame m #[(.long p0_0), (.int p0_1), (.int p0_2)] maxLocals)) t := fun t k => pre43 t (by
      refine XS.bipush X43.here hx rfl (hb hby at_112) ?_
      show Steps p.tables e below (T43.setTop (mkF m 114 #[.val (.long p0_0), .second, .val (.int p0_1), .val (.int p0_2), .val (.int (j0_24_s0 p0_1 p0_2)), .val (.ref b10), .val (.ref b17), .val (.int (c0_50 p0_0 p0_1 p0_2 JJ)), .val (.long (v0_63 p0_0)), .second, .unset, .unset] [(.int (32 : Int32)), (.long (r4 (v4_9 p0_0)))])) _
      refine XS.lushr X43.here hx rfl (hb hby at_114) rfl ?_
      show Steps p.tables e below (T43.setTop (mkF m 115 #[.val (.long p0_0), .second, .val (.int p0_1), .val (.int p0_2), .val (.int (j0_24_s0 p0_1 p0_2)), .val (.ref b10), .val (.ref b17), .val (.int (c0_50 p0_0 p0_1 p0_2 JJ)), .val (.long (v0_63 p0_0)), .second, .unset, .unset] [(.long (own_ushrL (r4 (v4_9 p0_0)) (32 : Int32)))])) _
      show Steps p.tables e below (T43.setTop (mkF m 115 #[.val (.long p0_0), .second, .val (.int p0_1), .val (.int p0_2), .val (.int (j0_24_s0 p0_1 p0_2)), .val (.ref b10), .val (.ref b17), .val (.int (c0_50 p0_0 p0_1 p0_2 JJ)), .val (.long (v0_63 p0_0)), .second, .unset, .unset] [(.long (v0_115 p0_0))])) _
      refine XS.lstore X43.here hx rfl (hb hby at_115) rfl (l' := #[.val (.long p0_0), .second, .val (.int p0_1), .val (.int p0_2), .val (.int (j0_24_s0 p0_1 p0_2)), .val (.ref b10), .val (.ref b17), .val (.int (c0_50 p0_0 p0_1 p0_2 JJ)), .val (.long (v0_63 p0_0)), .second, .val (.long (v0_115 p0_0)), .second]) rfl ?_
      show Steps p.tables e below (T43.setTop (mkF m 117 #[.val (.long p0_0), .second, .val (.int p0_1), .val (.int p0_2), .val (.int (j0_24_s0 p0_1 p0_2)), .val (.ref b10), .val (.ref b17), .val (.int (c0_50 p0_0 p0_1 p0_2 JJ)), .val (.long (v0_63 p0_0)), .second, .val (.long (v0_115 p0_0)), .second] [])) _
      refine XS.lload X43.here hx rfl (hb hby at_117) rfl ?_
      show Steps p.tables e below (T43.setTop (mkF m 119 #[.val (.long p0_0), .second, .val (.int p0_1), .val (.int p0_2), .val (.int (j0_24_s0 p0_1 p0_2)), .val (.ref b10), .val (.ref b17), .val (.int (c0_50 p0_0 p0_1 p0_2 JJ)), .val (.long (v0_63 p0_0)), .second, .val (.long (v0_115 p0_0)), .second] [(.long (v0_115 p0_0))])) _
      refine XS.iload X43.here hx rfl (hb hby at_119) rfl ?_
      show Steps p.tables e below (T43.setTop (mkF m 121 #[.val (.long p0_0), .second, .val (.int p0_1), .val (.int p0_2), .val (.int (j0_24_s0 p0_1 p0_2)), .val (.ref b10), .val (.ref b17), .val (.int (c0_50 p0_0 p0_1 p0_2 JJ)), .val (.long (v0_63 p0_0)), .second, .val (.long (v0_115 p0_0)), .second] [(.int (j0_24_s0 p0_1 p0_2)), (.long (v0_115 p0_0))])) _
      exact k)
    obtain ⟨_, _, ⟨T49, L49, k49, n49⟩, -, X49, ⟨Lc49, hQ49, l49, y49, z49⟩, st49⟩ := Jvm.LawKit.callS X43 hx (y := (⟨"com/example/consigliere/consigliere/engine/RngNextIntPinLaw", "accepted", "(JI)Z"⟩ : MethodName)) hown (mvT hZ (hw _ (List.mem_of_getElem? (i := 26) rfl))) (mvT hZ (hw _ (List.mem_of_getElem? (i := 27) rfl))) (mvT hZ (hw _ (List.mem_of_getElem? (i := 28) rfl))) (mvT hZ (hw _ (List.mem_of_getElem? (i := 29) rfl))) (by decide) (backOf (W := 0) (rm5 l Z a0 hw [] (v0_115 p0_0) (j0_24_s0 p0_1 p0_2) T43.heap n0 Z43 (own_nzb (own_b p0_1 p0_2))) hZ (hw _ (List.mem_of_getElem? (i := 29) rfl)) (hw _ (List.mem_of_getElem? (i := 28) rfl)) (by decide) (by decide)) (g := (mkF m 121 #[.val (.long p0_0), .second, .val (.int p0_1), .val (.int p0_2), .val (.int (j0_24_s0 p0_1 p0_2)), .val (.ref b10), .val (.ref b17), .val (.int (c0_50 p0_0 p0_1 p0_2 JJ)), .val (.long (v0_63 p0_0)), .second, .val (.long (v0_115 p0_0)), .second] [(.int (j0_24_s0 p0_1 p0_2)), (.long (v0_115 p0_0))])) rfl (by rw [hml]; rfl) (argsL := [(.long (v0_115 p0_0)), (.int (j0_24_s0 p0_1 p0_2))]) (rest := []) (lenOf pd_4 rfl) rfl (by show 2 * 0 + _ ≤ _; exact Nat.le_of_eq rfl) (hb hby at_121) (fun _ _ => ⟨rfl, rfl, (by decide : 2 + 0 ≤ _), (by decide : 2 + 0 ≤ _)⟩)
    dsimp only [Pt.U, Pt.locs, Pt.cells, Pt.slots] at X49 l49 y49 z49 st49 hQ49
    subst l49 y49 z49
    obtain ⟨rfl, M49, e49⟩ := hQ49
    have N49 := Fr.app N43 M49
    have pre49 : ∀ t, Steps p.tables e below (T49.setTop (mkF m 124 #[.val (.long p0_0), .second, .val (.int p0_1), .val (.int p0_2), .val (.int (j0_24_s0 p0_1 p0_2)), .val (.ref b10), .val (.ref b17), .val (.int (c0_50 p0_0 p0_1 p0_2 JJ)), .val (.long (v0_63 p0_0)), .second, .val (.long (v0_115 p0_0)), .second] [(.int (r5 (v0_115 p0_0) (j0_24_s0 p0_1 p0_2)))])) t → Steps p.tables e below (s₁.setTop (entryFrame m #[(.long p0_0), (.int p0_1), (.int p0_2)] maxLocals)) t := fun t k => pre48 t (st49 t k)
    by_cases hc124_50 : (r5 (v0_115 p0_0) (j0_24_s0 p0_1 p0_2)) = (0 : Int32)
    · have pre53 : ∀ t, Steps p.tables e below (T49.setTop (mkF m 176 #[.val (.long p0_0), .second, .val (.int p0_1), .val (.int p0_2), .val (.int (j0_24_s0 p0_1 p0_2)), .val (.ref b10), .val (.ref b17), .val (.int (c0_50 p0_0 p0_1 p0_2 JJ)), .val (.long (v0_63 p0_0)), .second, .val (.long (v0_115 p0_0)), .second] [(.int (1 : Int32))])) t → Steps p.tables e below (s₁.setTop (entryFrame m #[(.long p0_0), (.int p0_1), (.int p0_2)] maxLocals)) t := fun t k => pre49 t (by
        refine XS.ifYes X49.here hx rfl (pc0 := 124) (pc' := 159) rfl (hb hby at_124) rfl ((if0 _ _).trans (teq hc124_50).1) (by decide) (by decide) ?_
        show Steps p.tables e below (T49.setTop (mkF m 159 #[.val (.long p0_0), .second, .val (.int p0_1), .val (.int p0_2), .val (.int (j0_24_s0 p0_1 p0_2)), .val (.ref b10), .val (.ref b17), .val (.int (c0_50 p0_0 p0_1 p0_2 JJ)), .val (.long (v0_63 p0_0)), .second, .val (.long (v0_115 p0_0)), .second] [])) _
        refine XS.iload X49.here hx rfl (hb hby at_159) rfl ?_
        show Steps p.tables e below (T49.setTop (mkF m 161 #[.val (.long p0_0), .second, .val (.int p0_1), .val (.int p0_2), .val (.int (j0_24_s0 p0_1 p0_2)), .val (.ref b10), .val (.ref b17), .val (.int (c0_50 p0_0 p0_1 p0_2 JJ)), .val (.long (v0_63 p0_0)), .second, .val (.long (v0_115 p0_0)), .second] [(.int (c0_50 p0_0 p0_1 p0_2 JJ))])) _
        refine XS.ifNo X49.here hx rfl (hb hby at_161) rfl ((if0 _ _).trans (flt (show ¬ ((c0_50 p0_0 p0_1 p0_2 JJ) < (0 : Int32)) from (own_lo p0_0 p0_1 p0_2 JJ hJ))).1) ?_
        show Steps p.tables e below (T49.setTop (mkF m 164 #[.val (.long p0_0), .second, .val (.int p0_1), .val (.int p0_2), .val (.int (j0_24_s0 p0_1 p0_2)), .val (.ref b10), .val (.ref b17), .val (.int (c0_50 p0_0 p0_1 p0_2 JJ)), .val (.long (v0_63 p0_0)), .second, .val (.long (v0_115 p0_0)), .second] [])) _
        refine XS.iload X49.here hx rfl (hb hby at_164) rfl ?_
        show Steps p.tables e below (T49.setTop (mkF m 166 #[.val (.long p0_0), .second, .val (.int p0_1), .val (.int p0_2), .val (.int (j0_24_s0 p0_1 p0_2)), .val (.ref b10), .val (.ref b17), .val (.int (c0_50 p0_0 p0_1 p0_2 JJ)), .val (.long (v0_63 p0_0)), .second, .val (.long (v0_115 p0_0)), .second] [(.int (c0_50 p0_0 p0_1 p0_2 JJ))])) _
        refine XS.iload X49.here hx rfl (hb hby at_166) rfl ?_
        show Steps p.tables e below (T49.setTop (mkF m 168 #[.val (.long p0_0), .second, .val (.int p0_1), .val (.int p0_2), .val (.int (j0_24_s0 p0_1 p0_2)), .val (.ref b10), .val (.ref b17), .val (.int (c0_50 p0_0 p0_1 p0_2 JJ)), .val (.long (v0_63 p0_0)), .second, .val (.long (v0_115 p0_0)), .second] [(.int (j0_24_s0 p0_1 p0_2)), (.int (c0_50 p0_0 p0_1 p0_2 JJ))])) _
        refine XS.icmpNo X49.here hx rfl (hb hby at_168) rfl (tlt (show (c0_50 p0_0 p0_1 p0_2 JJ) < (j0_24_s0 p0_1 p0_2) from (own_hi p0_0 p0_1 p0_2 JJ hJ))).2.1 ?_
        show Steps p.tables e below (T49.setTop (mkF m 171 #[.val (.long p0_0), .second, .val (.int p0_1), .val (.int p0_2), .val (.int (j0_24_s0 p0_1 p0_2)), .val (.ref b10), .val (.ref b17), .val (.int (c0_50 p0_0 p0_1 p0_2 JJ)), .val (.long (v0_63 p0_0)), .second, .val (.long (v0_115 p0_0)), .second] [])) _
        refine XS.iconst X49.here hx rfl (hb hby at_171) ?_
        show Steps p.tables e below (T49.setTop (mkF m 172 #[.val (.long p0_0), .second, .val (.int p0_1), .val (.int p0_2), .val (.int (j0_24_s0 p0_1 p0_2)), .val (.ref b10), .val (.ref b17), .val (.int (c0_50 p0_0 p0_1 p0_2 JJ)), .val (.long (v0_63 p0_0)), .second, .val (.long (v0_115 p0_0)), .second] [(.int (1 : Int32))])) _
        refine XS.goto X49.here hx rfl (pc0 := 172) (pc' := 176) rfl (hb hby at_172) (by decide) (by decide) ?_
        show Steps p.tables e below (T49.setTop (mkF m 176 #[.val (.long p0_0), .second, .val (.int p0_1), .val (.int p0_2), .val (.int (j0_24_s0 p0_1 p0_2)), .val (.ref b10), .val (.ref b17), .val (.int (c0_50 p0_0 p0_1 p0_2 JJ)), .val (.long (v0_63 p0_0)), .second, .val (.long (v0_115 p0_0)), .second] [(.int (1 : Int32))])) _
        exact k)
      obtain ⟨fs, hr, hrun, hended, hW, hsame⟩ := X49.leave (v := some (.int (1 : Int32))) (fun h => by rw [Bd.returns] at h; cases h) Bd.notSynchronized
      refine ⟨_, _, pre53 _ ?_, hrun, hended, _, _, rfl, ?_, ⟨_, rfl⟩, hW, hsame.mono (by decide) (by decide)⟩
      · show Steps p.tables e below (T49.setTop (mkF m 176 #[.val (.long p0_0), .second, .val (.int p0_1), .val (.int p0_2), .val (.int (j0_24_s0 p0_1 p0_2)), .val (.ref b10), .val (.ref b17), .val (.int (c0_50 p0_0 p0_1 p0_2 JJ)), .val (.long (v0_63 p0_0)), .second, .val (.long (v0_115 p0_0)), .second] [(.int (1 : Int32))])) _
        exact retN X49 hx (t := .boolean) Bd.returns (by simp) (hb hby at_176) hr
      · show Q0 Z p0_0 p0_1 p0_2 JJ h0 n0 _ T49.heap _
        rw [e49]
        exact ⟨rfl, N49⟩
    · have pre55 : ∀ t, Steps p.tables e below (T49.setTop (mkF m 141 #[.val (.long p0_0), .second, .val (.int p0_1), .val (.int p0_2), .val (.int (j0_24_s0 p0_1 p0_2)), .val (.ref b10), .val (.ref b17), .val (.int (c0_50 p0_0 p0_1 p0_2 JJ)), .val (.long (v0_63 p0_0)), .second, .val (.long (v0_115 p0_0)), .second] [(.ref b10)])) t → Steps p.tables e below (s₁.setTop (entryFrame m #[(.long p0_0), (.int p0_1), (.int p0_2)] maxLocals)) t := fun t k => pre49 t (by
        refine XS.ifNo X49.here hx rfl (hb hby at_124) rfl ((if0 _ _).trans (feq hc124_50).1) ?_
        show Steps p.tables e below (T49.setTop (mkF m 127 #[.val (.long p0_0), .second, .val (.int p0_1), .val (.int p0_2), .val (.int (j0_24_s0 p0_1 p0_2)), .val (.ref b10), .val (.ref b17), .val (.int (c0_50 p0_0 p0_1 p0_2 JJ)), .val (.long (v0_63 p0_0)), .second, .val (.long (v0_115 p0_0)), .second] [])) _
        refine XS.iload X49.here hx rfl (hb hby at_127) rfl ?_
        show Steps p.tables e below (T49.setTop (mkF m 129 #[.val (.long p0_0), .second, .val (.int p0_1), .val (.int p0_2), .val (.int (j0_24_s0 p0_1 p0_2)), .val (.ref b10), .val (.ref b17), .val (.int (c0_50 p0_0 p0_1 p0_2 JJ)), .val (.long (v0_63 p0_0)), .second, .val (.long (v0_115 p0_0)), .second] [(.int (c0_50 p0_0 p0_1 p0_2 JJ))])) _
        refine XS.lload X49.here hx rfl (hb hby at_129) rfl ?_
        show Steps p.tables e below (T49.setTop (mkF m 131 #[.val (.long p0_0), .second, .val (.int p0_1), .val (.int p0_2), .val (.int (j0_24_s0 p0_1 p0_2)), .val (.ref b10), .val (.ref b17), .val (.int (c0_50 p0_0 p0_1 p0_2 JJ)), .val (.long (v0_63 p0_0)), .second, .val (.long (v0_115 p0_0)), .second] [(.long (v0_115 p0_0)), (.int (c0_50 p0_0 p0_1 p0_2 JJ))])) _
        refine XS.iload X49.here hx rfl (hb hby at_131) rfl ?_
        show Steps p.tables e below (T49.setTop (mkF m 133 #[.val (.long p0_0), .second, .val (.int p0_1), .val (.int p0_2), .val (.int (j0_24_s0 p0_1 p0_2)), .val (.ref b10), .val (.ref b17), .val (.int (c0_50 p0_0 p0_1 p0_2 JJ)), .val (.long (v0_63 p0_0)), .second, .val (.long (v0_115 p0_0)), .second] [(.int (j0_24_s0 p0_1 p0_2)), (.long (v0_115 p0_0)), (.int (c0_50 p0_0 p0_1 p0_2 JJ))])) _
        refine XS.i2l X49.here hx rfl (hb hby at_133) rfl ?_
        show Steps p.tables e below (T49.setTop (mkF m 134 #[.val (.long p0_0), .second, .val (.int p0_1), .val (.int p0_2), .val (.int (j0_24_s0 p0_1 p0_2)), .val (.ref b10), .val (.ref b17), .val (.int (c0_50 p0_0 p0_1 p0_2 JJ)), .val (.long (v0_63 p0_0)), .second, .val (.long (v0_115 p0_0)), .second] [(.long (((j0_24_s0 p0_1 p0_2)).toInt64)), (.long (v0_115 p0_0)), (.int (c0_50 p0_0 p0_1 p0_2 JJ))])) _
        refine XS.lrem X49.here hx rfl (hb hby at_134) rfl (own_nzb (own_b p0_1 p0_2)) ?_
        show Steps p.tables e below (T49.setTop (mkF m 135 #[.val (.long p0_0), .second, .val (.int p0_1), .val (.int p0_2), .val (.int (j0_24_s0 p0_1 p0_2)), .val (.ref b10), .val (.ref b17), .val (.int (c0_50 p0_0 p0_1 p0_2 JJ)), .val (.long (v0_63 p0_0)), .second, .val (.long (v0_115 p0_0)), .second] [(.long (own_remL (v0_115 p0_0) (((j0_24_s0 p0_1 p0_2)).toInt64))), (.int (c0_50 p0_0 p0_1 p0_2 JJ))])) _
        refine XS.l2i X49.here hx rfl (hb hby at_135) rfl ?_
        show Steps p.tables e below (T49.setTop (mkF m 136 #[.val (.long p0_0), .second, .val (.int p0_1), .val (.int p0_2), .val (.int (j0_24_s0 p0_1 p0_2)), .val (.ref b10), .val (.ref b17), .val (.int (c0_50 p0_0 p0_1 p0_2 JJ)), .val (.long (v0_63 p0_0)), .second, .val (.long (v0_115 p0_0)), .second] [(.int (((own_remL (v0_115 p0_0) (((j0_24_s0 p0_1 p0_2)).toInt64))).toInt32)), (.int (c0_50 p0_0 p0_1 p0_2 JJ))])) _
        refine XS.icmpNo X49.here hx rfl (hb hby at_136) rfl (teq (show (c0_50 p0_0 p0_1 p0_2 JJ) = (((own_remL (v0_115 p0_0) (((j0_24_s0 p0_1 p0_2)).toInt64))).toInt32) from (own_got1 p0_0 p0_1 p0_2 JJ hJ hc72_41 hc124_50))).2 ?_
        show Steps p.tables e below (T49.setTop (mkF m 139 #[.val (.long p0_0), .second, .val (.int p0_1), .val (.int p0_2), .val (.int (j0_24_s0 p0_1 p0_2)), .val (.ref b10), .val (.ref b17), .val (.int (c0_50 p0_0 p0_1 p0_2 JJ)), .val (.long (v0_63 p0_0)), .second, .val (.long (v0_115 p0_0)), .second] [])) _
        refine XS.aload X49.here hx rfl (hb hby at_139) rfl rfl ?_
        show Steps p.tables e below (T49.setTop (mkF m 141 #[.val (.long p0_0), .second, .val (.int p0_1), .val (.int p0_2), .val (.int (j0_24_s0 p0_1 p0_2)), .val (.ref b10), .val (.ref b17), .val (.int (c0_50 p0_0 p0_1 p0_2 JJ)), .val (.long (v0_63 p0_0)), .second, .val (.long (v0_115 p0_0)), .second] [(.ref b10)])) _
        exact k)
      obtain ⟨cq56, kq56, qa56, qb56, qc56⟩ := isOf hZ e49 Ex44
      obtain ⟨_, _, ⟨T56, L56, k56, n56⟩, -, X56, ⟨Lc56, hQ56, l56, y56, z56⟩, st56⟩ := X49.virtualBack hx (y := (⟨"com/example/consigliere/consigliere/engine/Rng", "nextLong", "()J"⟩ : MethodName)) (z := (⟨"com/example/consigliere/consigliere/engine/Rng", "nextLong", "()J"⟩ : MethodName)) hown (mvT hZ (hw _ (List.mem_of_getElem? (i := 25) rfl))) (mvT hZ (hw _ (List.mem_of_getElem? (i := 18) rfl))) (notFace_of_selects (args := #[]) (mvT hZ (hw _ (List.mem_of_getElem? (i := 20) rfl)))) (mvT hZ (hw _ (List.mem_of_getElem? (i := 20) rfl))) (mvT hZ (hw _ (List.mem_of_getElem? (i := 19) rfl))) (by decide) (backOf (W := 0) (rm4 l Z a0 hw [] b10 (own_it ((JJ p0_0 (j0_24_s0 p0_1 p0_2)) + 1) p0_0) T43.heap n0 Z43 Ex44 F45 g_b10) hZ (hw _ (List.mem_of_getElem? (i := 21) rfl)) (hw _ (List.mem_of_getElem? (i := 2) rfl)) (by decide) (by decide)) qa56 qc56 (g := (mkF m 141 #[.val (.long p0_0), .second, .val (.int p0_1), .val (.int p0_2), .val (.int (j0_24_s0 p0_1 p0_2)), .val (.ref b10), .val (.ref b17), .val (.int (c0_50 p0_0 p0_1 p0_2 JJ)), .val (.long (v0_63 p0_0)), .second, .val (.long (v0_115 p0_0)), .second] [(.ref b10)])) rfl (by rw [hml]; rfl) (Steps.refl _) (argsL := []) (rest := []) (lenOf pd_0 rfl) rfl (by show 2 * 0 + _ ≤ _; exact Nat.le_of_eq rfl) (hb hby at_141) (fun _ _ => ⟨rfl, e49, (by decide : 2 + 0 ≤ _), (by decide : 2 + 0 ≤ _)⟩)
      dsimp only [Pt.U, Pt.locs, Pt.cells, Pt.slots] at X56 l56 y56 z56 st56 hQ56
      subst l56 y56 z56
      obtain ⟨rfl, M56, K56c, P56_0⟩ := hQ56
      have N56 := Fr.app N49 M56
      have K56 : Keep T43.heap T56.heap [b10] := K56c
      have Z56 : n0 ≤ T56.heap.size := Nat.le_trans Z43 K56.1
      have Ex57 : Exa Z T56.heap b10 "com/example/consigliere/consigliere/engine/Rng" := Ex44.keep K56
      have Ex58 : Exa Z T56.heap b17 "com/example/consigliere/consigliere/engine/Rng" := Ex46.keep K56
      have F59 : Fld Z T56.heap b17 "com/example/consigliere/consigliere/engine/Rng" "state" "J" (.long (v4_9 (v4_9 p0_0))) := F47.keep K56 (ninS (Ne.symm ne_b10_b17) nin0)
      have F60 : Fld Z T56.heap b10 "com/example/consigliere/consigliere/engine/Rng" "state" "J" (.long (v4_9 (own_it ((JJ p0_0 (j0_24_s0 p0_1 p0_2)) + 1) p0_0))) := P56_0
      have pre56 : ∀ t, Steps p.tables e below (T56.setTop (mkF m 144 #[.val (.long p0_0), .second, .val (.int p0_1), .val (.int p0_2), .val (.int (j0_24_s0 p0_1 p0_2)), .val (.ref b10), .val (.ref b17), .val (.int (c0_50 p0_0 p0_1 p0_2 JJ)), .val (.long (v0_63 p0_0)), .second, .val (.long (v0_115 p0_0)), .second] [(.long (r4 (own_it ((JJ p0_0 (j0_24_s0 p0_1 p0_2)) + 1) p0_0)))])) t → Steps p.tables e below (s₁.setTop (entryFrame m #[(.long p0_0), (.int p0_1), (.int p0_2)] maxLocals)) t := fun t k => pre55 t (st56.trans k)
      have pre61 : ∀ t, Steps p.tables e below (T56.setTop (mkF m 146 #[.val (.long p0_0), .second, .val (.int p0_1), .val (.int p0_2), .val (.int (j0_24_s0 p0_1 p0_2)), .val (.ref b10), .val (.ref b17), .val (.int (c0_50 p0_0 p0_1 p0_2 JJ)), .val (.long (v0_63 p0_0)), .second, .val (.long (v0_115 p0_0)), .second] [(.ref b17), (.long (r4 (own_it ((JJ p0_0 (j0_24_s0 p0_1 p0_2)) + 1) p0_0)))])) t → Steps p.tables e below (s₁.setTop (entryFrame m #[(.long p0_0), (.int p0_1), (.int p0_2)] maxLocals)) t := fun t k => pre56 t (by
        refine XS.aload X56.here hx rfl (hb hby at_144) rfl rfl ?_
        show Steps p.tables e below (T56.setTop (mkF m 146 #[.val (.long p0_0), .second, .val (.int p0_1), .val (.int p0_2), .val (.int (j0_24_s0 p0_1 p0_2)), .val (.ref b10), .val (.ref b17), .val (.int (c0_50 p0_0 p0_1 p0_2 JJ)), .val (.long (v0_63 p0_0)), .second, .val (.long (v0_115 p0_0)), .second] [(.ref b17), (.long (r4 (own_it ((JJ p0_0 (j0_24_s0 p0_1 p0_2)) + 1) p0_0)))])) _
        exact k)
      obtain ⟨cq62, kq62, qa62, qb62, qc62⟩ := isOf hZ rfl Ex58
      obtain ⟨_, _, ⟨T62, L62, k62, n62⟩, -, X62, ⟨Lc62, hQ62, l62, y62, z62⟩, st62⟩ := X56.virtualBack hx (y := (⟨"com/example/consigliere/consigliere/engine/Rng", "nextLong", "()J"⟩ : MethodName)) (z := (⟨"com/example/consigliere/consigliere/engine/Rng", "nextLong", "()J"⟩ : MethodName)) hown (mvT hZ (hw _ (List.mem_of_getElem? (i := 25) rfl))) (mvT hZ (hw _ (List.mem_of_getElem? (i := 18) rfl))) (notFace_of_selects (args := #[]) (mvT hZ (hw _ (List.mem_of_getElem? (i := 20) rfl)))) (mvT hZ (hw _ (List.mem_of_getElem? (i := 20) rfl))) (mvT hZ (hw _ (List.mem_of_getElem? (i := 19) rfl))) (by decide) (backOf (W := 2) (rm4 l Z a0 hw [] b17 (v4_9 (v4_9 p0_0)) T56.heap n0 Z56 Ex58 F59 g_b17) hZ (hw _ (List.mem_of_getElem? (i := 21) rfl)) (hw _ (List.mem_of_getElem? (i := 2) rfl)) (by decide) (by decide)) qa62 qc62 (g := (mkF m 146 #[.val (.long p0_0), .second, .val (.int p0_1), .val (.int p0_2), .val (.int (j0_24_s0 p0_1 p0_2)), .val (.ref b10), .val (.ref b17), .val (.int (c0_50 p0_0 p0_1 p0_2 JJ)), .val (.long (v0_63 p0_0)), .second, .val (.long (v0_115 p0_0)), .second] [(.ref b17), (.long (r4 (own_it ((JJ p0_0 (j0_24_s0 p0_1 p0_2)) + 1) p0_0)))])) rfl (by rw [hml]; rfl) (Steps.refl _) (argsL := []) (rest := [(.long (r4 (own_it ((JJ p0_0 (j0_24_s0 p0_1 p0_2)) + 1) p0_0)))]) (lenOf pd_0 rfl) rfl (by show 2 * 0 + _ ≤ _; exact Nat.le_of_eq rfl) (hb hby at_146) (fun _ _ => ⟨rfl, rfl, (by decide : 2 + 0 ≤ _), (by decide : 2 + 0 ≤ _)⟩)
      dsimp only [Pt.U, Pt.locs, Pt.cells, Pt.slots] at X62 l62 y62 z62 st62 hQ62
      subst l62 y62 z62
      obtain ⟨rfl, M62, K62c, P62_0⟩ := hQ62
      have N62 := Fr.app N56 M62
      have K62 : Keep T56.heap T62.heap [b17] := K62c
      have Z62 : n0 ≤ T62.heap.size := Nat.le_trans Z56 K62.1
      have Ex63 : Exa Z T62.heap b10 "com/example/consigliere/consigliere/engine/Rng" := Ex57.keep K62
      have F64 : Fld Z T62.heap b10 "com/example/consigliere/consigliere/engine/Rng" "state" "J" (.long (v4_9 (own_it ((JJ p0_0 (j0_24_s0 p0_1 p0_2)) + 1) p0_0))) := F60.keep K62 (ninS ne_b10_b17 nin0)
      have Ex65 : Exa Z T62.heap b17 "com/example/consigliere/consigliere/engine/Rng" := Ex58.keep K62
      have F66 : Fld Z T62.heap b17 "com/example/consigliere/consigliere/engine/Rng" "state" "J" (.long (v4_9 (v4_9 (v4_9 p0_0)))) := P62_0
      have pre62 : ∀ t, Steps p.tables e below (T62.setTop (mkF m 149 #[.val (.long p0_0), .second, .val (.int p0_1), .val (.int p0_2), .val (.int (j0_24_s0 p0_1 p0_2)), .val (.ref b10), .val (.ref b17), .val (.int (c0_50 p0_0 p0_1 p0_2 JJ)), .val (.long (v0_63 p0_0)), .second, .val (.long (v0_115 p0_0)), .second] [(.long (r4 (v4_9 (v4_9 p0_0)))), (.long (r4 (own_it ((JJ p0_0 (j0_24_s0 p0_1 p0_2)) + 1) p0_0)))])) t → Steps p.tables e below (s₁.setTop (entryFrame m #[(.long p0_0), (.int p0_1), (.int p0_2)] maxLocals)) t := fun t k => pre61 t (st62.trans k)
      have pre68 : ∀ t, Steps p.tables e below (T62.setTop (mkF m 158 #[.val (.long p0_0), .second, .val (.int p0_1), .val (.int p0_2), .val (.int (j0_24_s0 p0_1 p0_2)), .val (.ref b10), .val (.ref b17), .val (.int (c0_50 p0_0 p0_1 p0_2 JJ)), .val (.long (v0_63 p0_0)), .second, .val (.long (v0_115 p0_0)), .second] [(.int (1 : Int32))])) t → Steps p.tables e below (s₁.setTop (entryFrame m #[(.long p0_0), (.int p0_1), (.int p0_2)] maxLocals)) t := fun t k => pre62 t (by
        refine XS.lcmp X62.here hx rfl (hb hby at_149) rfl ?_
        show Steps p.tables e below (T62.setTop (mkF m 150 #[.val (.long p0_0), .second, .val (.int p0_1), .val (.int p0_2), .val (.int (j0_24_s0 p0_1 p0_2)), .val (.ref b10), .val (.ref b17), .val (.int (c0_50 p0_0 p0_1 p0_2 JJ)), .val (.long (v0_63 p0_0)), .second, .val (.long (v0_115 p0_0)), .second] [(.int (lcmpW (r4 (own_it ((JJ p0_0 (j0_24_s0 p0_1 p0_2)) + 1) p0_0)) (r4 (v4_9 (v4_9 p0_0)))))])) _
        refine XS.ifNo X62.here hx rfl (hb hby at_150) rfl ((if0 _ _).trans (teq ((lw_eq (r4 (own_it ((JJ p0_0 (j0_24_s0 p0_1 p0_2)) + 1) p0_0)) (r4 (v4_9 (v4_9 p0_0)))).mpr (show (r4 (own_it ((JJ p0_0 (j0_24_s0 p0_1 p0_2)) + 1) p0_0)) = (r4 (v4_9 (v4_9 p0_0))) from (own_st1 p0_0 p0_1 p0_2 JJ hJ hc72_41 hc124_50)))).2) ?_
        show Steps p.tables e below (T62.setTop (mkF m 153 #[.val (.long p0_0), .second, .val (.int p0_1), .val (.int p0_2), .val (.int (j0_24_s0 p0_1 p0_2)), .val (.ref b10), .val (.ref b17), .val (.int (c0_50 p0_0 p0_1 p0_2 JJ)), .val (.long (v0_63 p0_0)), .second, .val (.long (v0_115 p0_0)), .second] [])) _
        refine XS.iconst X62.here hx rfl (hb hby at_153) ?_
        show Steps p.tables e below (T62.setTop (mkF m 154 #[.val (.long p0_0), .second, .val (.int p0_1), .val (.int p0_2), .val (.int (j0_24_s0 p0_1 p0_2)), .val (.ref b10), .val (.ref b17), .val (.int (c0_50 p0_0 p0_1 p0_2 JJ)), .val (.long (v0_63 p0_0)), .second, .val (.long (v0_115 p0_0)), .second] [(.int (1 : Int32))])) _
        refine XS.goto X62.here hx rfl (pc0 := 154) (pc' := 158) rfl (hb hby at_154) (by decide) (by decide) ?_
        show Steps p.tables e below (T62.setTop (mkF m 158 #[.val (.long p0_0), .second, .val (.int p0_1), .val (.int p0_2), .val (.int (j0_24_s0 p0_1 p0_2)), .val (.ref b10), .val (.ref b17), .val (.int (c0_50 p0_0 p0_1 p0_2 JJ)), .val (.long (v0_63 p0_0)), .second, .val (.long (v0_115 p0_0)), .second] [(.int (1 : Int32))])) _
        exact k)
      obtain ⟨fs, hr, hrun, hended, hW, hsame⟩ := X62.leave (v := some (.int (1 : Int32))) (fun h => by rw [Bd.returns] at h; cases h) Bd.notSynchronized
      refine ⟨_, _, pre68 _ ?_, hrun, hended, _, _, rfl, ?_, ⟨_, rfl⟩, hW, hsame.mono (by decide) (by decide)⟩
      · show Steps p.tables e below (T62.setTop (mkF m 158 #[.val (.long p0_0), .second, .val (.int p0_1), .val (.int p0_2), .val (.int (j0_24_s0 p0_1 p0_2)), .val (.ref b10), .val (.ref b17), .val (.int (c0_50 p0_0 p0_1 p0_2 JJ)), .val (.long (v0_63 p0_0)), .second, .val (.long (v0_115 p0_0)), .second] [(.int (1 : Int32))])) _
        exact retN X62 hx (t := .boolean) Bd.returns (by simp) (hb hby at_158) hr
      · show Q0 Z p0_0 p0_1 p0_2 JJ h0 n0 _ T62.heap _
        exact ⟨rfl, N62⟩
  · have pre70 : ∀ t, Steps p.tables e below (T40.setTop (mkF m 89 #[.val (.long p0_0), .second, .val (.int p0_1), .val (.int p0_2), .val (.int (j0_24_s0 p0_1 p0_2)), .val (.ref b10), .val (.ref b17), .val (.int (c0_50 p0_0 p0_1 p0_2 JJ)), .val (.long (v0_63 p0_0)), .second, .unset, .unset] [(.ref b10)])) t → Steps p.tables e below (s₁.setTop (entryFrame m #[(.long p0_0), (.int p0_1), (.int p0_2)] maxLocals)) t := fun t k => pre40 t (by
      refine XS.ifNo X40.here hx rfl (hb hby at_72) rfl ((if0 _ _).trans (feq hc72_41).1) ?_
      show Steps p.tables e below (T40.setTop (mkF m 75 #[.val (.long p0_0), .second, .val (.int p0_1), .val (.int p0_2), .val (.int (j0_24_s0 p0_1 p0_2)), .val (.ref b10), .val (.ref b17), .val (.int (c0_50 p0_0 p0_1 p0_2 JJ)), .val (.long (v0_63 p0_0)), .second, .unset, .unset] [])) _
      refine XS.iload X40.here hx rfl (hb hby at_75) rfl ?_
      show Steps p.tables e below (T40.setTop (mkF m 77 #[.val (.long p0_0), .second, .val (.int p0_1), .val (.int p0_2), .val (.int (j0_24_s0 p0_1 p0_2)), .val (.ref b10), .val (.ref b17), .val (.int (c0_50 p0_0 p0_1 p0_2 JJ)), .val (.long (v0_63 p0_0)), .second, .unset, .unset] [(.int (c0_50 p0_0 p0_1 p0_2 JJ))])) _
      refine XS.lload X40.here hx rfl (hb hby at_77) rfl ?_
      show Steps p.tables e below (T40.setTop (mkF m 79 #[.val (.long p0_0), .second, .val (.int p0_1), .val (.int p0_2), .val (.int (j0_24_s0 p0_1 p0_2)), .val (.ref b10), .val (.ref b17), .val (.int (c0_50 p0_0 p0_1 p0_2 JJ)), .val (.long (v0_63 p0_0)), .second, .unset, .unset] [(.long (v0_63 p0_0)), (.int (c0_50 p0_0 p0_1 p0_2 JJ))])) _
      refine XS.iload X40.here hx rfl (hb hby at_79) rfl ?_
      show Steps p.tables e below (T40.setTop (mkF m 81 #[.val (.long p0_0), .second, .val (.int p0_1), .val (.int p0_2), .val (.int (j0_24_s0 p0_1 p0_2)), .val (.ref b10), .val (.ref b17), .val (.int (c0_50 p0_0 p0_1 p0_2 JJ)), .val (.long (v0_63 p0_0)), .second, .unset, .unset] [(.int (j0_24_s0 p0_1 p0_2)), (.long (v0_63 p0_0)), (.int (c0_50 p0_0 p0_1 p0_2 JJ))])) _
      refine XS.i2l X40.here hx rfl (hb hby at_81) rfl ?_
      show Steps p.tables e below (T40.setTop (mkF m 82 #[.val (.long p0_0), .second, .val (.int p0_1), .val (.int p0_2), .val (.int (j0_24_s0 p0_1 p0_2)), .val (.ref b10), .val (.ref b17), .val (.int (c0_50 p0_0 p0_1 p0_2 JJ)), .val (.long (v0_63 p0_0)), .second, .unset, .unset] [(.long (((j0_24_s0 p0_1 p0_2)).toInt64)), (.long (v0_63 p0_0)), (.int (c0_50 p0_0 p0_1 p0_2 JJ))])) _
      refine XS.lrem X40.here hx rfl (hb hby at_82) rfl (own_nzb (own_b p0_1 p0_2)) ?_
      show Steps p.tables e below (T40.setTop (mkF m 83 #[.val (.long p0_0), .second, .val (.int p0_1), .val (.int p0_2), .val (.int (j0_24_s0 p0_1 p0_2)), .val (.ref b10), .val (.ref b17), .val (.int (c0_50 p0_0 p0_1 p0_2 JJ)), .val (.long (v0_63 p0_0)), .second, .unset, .unset] [(.long (own_remL (v0_63 p0_0) (((j0_24_s0 p0_1 p0_2)).toInt64))), (.int (c0_50 p0_0 p0_1 p0_2 JJ))])) _
      refine XS.l2i X40.here hx rfl (hb hby at_83) rfl ?_
      show Steps p.tables e below (T40.setTop (mkF m 84 #[.val (.long p0_0), .second, .val (.int p0_1), .val (.int p0_2), .val (.int (j0_24_s0 p0_1 p0_2)), .val (.ref b10), .val (.ref b17), .val (.int (c0_50 p0_0 p0_1 p0_2 JJ)), .val (.long (v0_63 p0_0)), .second, .unset, .unset] [(.int (((own_remL (v0_63 p0_0) (((j0_24_s0 p0_1 p0_2)).toInt64))).toInt32)), (.int (c0_50 p0_0 p0_1 p0_2 JJ))])) _
      refine XS.icmpNo X40.here hx rfl (hb hby at_84) rfl (teq (show (c0_50 p0_0 p0_1 p0_2 JJ) = (((own_remL (v0_63 p0_0) (((j0_24_s0 p0_1 p0_2)).toInt64))).toInt32) from (own_got0 p0_0 p0_1 p0_2 JJ hJ hc72_41))).2 ?_
      show Steps p.tables e below (T40.setTop (mkF m 87 #[.val (.long p0_0), .second, .val (.int p0_1), .val (.int p0_2), .val (.int (j0_24_s0 p0_1 p0_2)), .val (.ref b10), .val (.ref b17), .val (.int (c0_50 p0_0 p0_1 p0_2 JJ)), .val (.long (v0_63 p0_0)), .second, .unset, .unset] [])) _
      refine XS.aload X40.here hx rfl (hb hby at_87) rfl rfl ?_
      show Steps p.tables e below (T40.setTop (mkF m 89 #[.val (.long p0_0), .second, .val (.int p0_1), .val (.int p0_2), .val (.int (j0_24_s0 p0_1 p0_2)), .val (.ref b10), .val (.ref b17), .val (.int (c0_50 p0_0 p0_1 p0_2 JJ)), .val (.long (v0_63 p0_0)), .second, .unset, .unset] [(.ref b10)])) _
      exact k)
    obtain ⟨cq71, kq71, qa71, qb71, qc71⟩ := isOf hZ e40 Ex35
    obtain ⟨_, _, ⟨T71, L71, k71, n71⟩, -, X71, ⟨Lc71, hQ71, l71, y71, z71⟩, st71⟩ := X40.virtualBack hx (y := (⟨"com/example/consigliere/consigliere/engine/Rng", "nextLong", "()J"⟩ : MethodName)) (z := (⟨"com/example/consigliere/consigliere/engine/Rng", "nextLong", "()J"⟩ : MethodName)) hown (mvT hZ (hw _ (List.mem_of_getElem? (i := 25) rfl))) (mvT hZ (hw _ (List.mem_of_getElem? (i := 18) rfl))) (notFace_of_selects (args := #[]) (mvT hZ (hw _ (List.mem_of_getElem? (i := 20) rfl)))) (mvT hZ (hw _ (List.mem_of_getElem? (i := 20) rfl))) (mvT hZ (hw _ (List.mem_of_getElem? (i := 19) rfl))) (by decide) (backOf (W := 0) (rm4 l Z a0 hw [] b10 (own_it ((JJ p0_0 (j0_24_s0 p0_1 p0_2)) + 1) p0_0) T34.heap n0 Z34 Ex35 F36 g_b10) hZ (hw _ (List.mem_of_getElem? (i := 21) rfl)) (hw _ (List.mem_of_getElem? (i := 2) rfl)) (by decide) (by decide)) qa71 qc71 (g := (mkF m 89 #[.val (.long p0_0), .second, .val (.int p0_1), .val (.int p0_2), .val (.int (j0_24_s0 p0_1 p0_2)), .val (.ref b10), .val (.ref b17), .val (.int (c0_50 p0_0 p0_1 p0_2 JJ)), .val (.long (v0_63 p0_0)), .second, .unset, .unset] [(.ref b10)])) rfl (by rw [hml]; rfl) (Steps.refl _) (argsL := []) (rest := []) (lenOf pd_0 rfl) rfl (by show 2 * 0 + _ ≤ _; exact Nat.le_of_eq rfl) (hb hby at_89) (fun _ _ => ⟨rfl, e40, (by decide : 2 + 0 ≤ _), (by decide : 2 + 0 ≤ _)⟩)
    dsimp only [Pt.U, Pt.locs, Pt.cells, Pt.slots] at X71 l71 y71 z71 st71 hQ71
    subst l71 y71 z71
    obtain ⟨rfl, M71, K71c, P71_0⟩ := hQ71
    have N71 := Fr.app N40 M71
    have K71 : Keep T34.heap T71.heap [b10] := K71c
    have Z71 : n0 ≤ T71.heap.size := Nat.le_trans Z34 K71.1
    have Ex72 : Exa Z T71.heap b10 "com/example/consigliere/consigliere/engine/Rng" := Ex35.keep K71
    have Ex73 : Exa Z T71.heap b17 "com/example/consigliere/consigliere/engine/Rng" := Ex37.keep K71
    have F74 : Fld Z T71.heap b17 "com/example/consigliere/consigliere/engine/Rng" "state" "J" (.long (v4_9 p0_0)) := F38.keep K71 (ninS (Ne.symm ne_b10_b17) nin0)
    have F75 : Fld Z T71.heap b10 "com/example/consigliere/consigliere/engine/Rng" "state" "J" (.long (v4_9 (own_it ((JJ p0_0 (j0_24_s0 p0_1 p0_2)) + 1) p0_0))) := P71_0
    have pre71 : ∀ t, Steps p.tables e below (T71.setTop (mkF m 92 #[.val (.long p0_0), .second, .val (.int p0_1), .val (.int p0_2), .val (.int (j0_24_s0 p0_1 p0_2)), .val (.ref b10), .val (.ref b17), .val (.int (c0_50 p0_0 p0_1 p0_2 JJ)), .val (.long (v0_63 p0_0)), .second, .unset, .unset] [(.long (r4 (own_it ((JJ p0_0 (j0_24_s0 p0_1 p0_2)) + 1) p0_0)))])) t → Steps p.tables e below (s₁.setTop (entryFrame m #[(.long p0_0), (.int p0_1), (.int p0_2)] maxLocals)) t := fun t k => pre70 t (st71.trans k)
    have pre76 : ∀ t, Steps p.tables e below (T71.setTop (mkF m 94 #[.val (.long p0_0), .second, .val (.int p0_1), .val (.int p0_2), .val (.int (j0_24_s0 p0_1 p0_2)), .val (.ref b10), .val (.ref b17), .val (.int (c0_50 p0_0 p0_1 p0_2 JJ)), .val (.long (v0_63 p0_0)), .second, .unset, .unset] [(.ref b17), (.long (r4 (own_it ((JJ p0_0 (j0_24_s0 p0_1 p0_2)) + 1) p0_0)))])) t → Steps p.tables e below (s₁.setTop (entryFrame m #[(.long p0_0), (.int p0_1), (.int p0_2)] maxLocals)) t := fun t k => pre71 t (by
      refine XS.aload X71.here hx rfl (hb hby at_92) rfl rfl ?_
      show Steps p.tables e below (T71.setTop (mkF m 94 #[.val (.long p0_0), .second, .val (.int p0_1), .val (.int p0_2), .val (.int (j0_24_s0 p0_1 p0_2)), .val (.ref b10), .val (.ref b17), .val (.int (c0_50 p0_0 p0_1 p0_2 JJ)), .val (.long (v0_63 p0_0)), .second, .unset, .unset] [(.ref b17), (.long (r4 (own_it ((JJ p0_0 (j0_24_s0 p0_1 p0_2)) + 1) p0_0)))])) _
      exact k)
    obtain ⟨cq77, kq77, qa77, qb77, qc77⟩ := isOf hZ rfl Ex73
    obtain ⟨_, _, ⟨T77, L77, k77, n77⟩, -, X77, ⟨Lc77, hQ77, l77, y77, z77⟩, st77⟩ := X71.virtualBack hx (y := (⟨"com/example/consigliere/consigliere/engine/Rng", "nextLong", "()J"⟩ : MethodName)) (z := (⟨"com/example/consigliere/consigliere/engine/Rng", "nextLong", "()J"⟩ : MethodName)) hown (mvT hZ (hw _ (List.mem_of_getElem? (i := 25) rfl))) (mvT hZ (hw _ (List.mem_of_getElem? (i := 18) rfl))) (notFace_of_selects (args := #[]) (mvT hZ (hw _ (List.mem_of_getElem? (i := 20) rfl)))) (mvT hZ (hw _ (List.mem_of_getElem? (i := 20) rfl))) (mvT hZ (hw _ (List.mem_of_getElem? (i := 19) rfl))) (by decide) (backOf (W := 2) (rm4 l Z a0 hw [] b17 (v4_9 p0_0) T71.heap n0 Z71 Ex73 F74 g_b17) hZ (hw _ (List.mem_of_getElem? (i := 21) rfl)) (hw _ (List.mem_of_getElem? (i := 2) rfl)) (by decide) (by decide)) qa77 qc77 (g := (mkF m 94 #[.val (.long p0_0), .second, .val (.int p0_1), .val (.int p0_2), .val (.int (j0_24_s0 p0_1 p0_2)), .val (.ref b10), .val (.ref b17), .val (.int (c0_50 p0_0 p0_1 p0_2 JJ)), .val (.long (v0_63 p0_0)), .second, .unset, .unset] [(.ref b17), (.long (r4 (own_it ((JJ p0_0 (j0_24_s0 p0_1 p0_2)) + 1) p0_0)))])) rfl (by rw [hml]; rfl) (Steps.refl _) (argsL := []) (rest := [(.long (r4 (own_it ((JJ p0_0 (j0_24_s0 p0_1 p0_2)) + 1) p0_0)))]) (lenOf pd_0 rfl) rfl (by show 2 * 0 + _ ≤ _; exact Nat.le_of_eq rfl) (hb hby at_94) (fun _ _ => ⟨rfl, rfl, (by decide : 2 + 0 ≤ _), (by decide : 2 + 0 ≤ _)⟩)
    dsimp only [Pt.U, Pt.locs, Pt.cells, Pt.slots] at X77 l77 y77 z77 st77 hQ77
    subst l77 y77 z77
    obtain ⟨rfl, M77, K77c, P77_0⟩ := hQ77
    have N77 := Fr.app N71 M77
    have K77 : Keep T71.heap T77.heap [b17] := K77c
    have Z77 : n0 ≤ T77.heap.size := Nat.le_trans Z71 K77.1
    have Ex78 : Exa Z T77.heap b10 "com/example/consigliere/consigliere/engine/Rng" := Ex72.keep K77
    have F79 : Fld Z T77.heap b10 "com/example/consigliere/consigliere/engine/Rng" "state" "J" (.long (v4_9 (own_it ((JJ p0_0 (j0_24_s0 p0_1 p0_2)) + 1) p0_0))) := F75.keep K77 (ninS ne_b10_b17 nin0)
    have Ex80 : Exa Z T77.heap b17 "com/example/consigliere/consigliere/engine/Rng" := Ex73.keep K77
    have F81 : Fld Z T77.heap b17 "com/example/consigliere/consigliere/engine/Rng" "state" "J" (.long (v4_9 (v4_9 p0_0))) := P77_0
    have pre77 : ∀ t, Steps p.tables e below (T77.setTop (mkF m 97 #[.val (.long p0_0), .second, .val (.int p0_1), .val (.int p0_2), .val (.int (j0_24_s0 p0_1 p0_2)), .val (.ref b10), .val (.ref b17), .val (.int (c0_50 p0_0 p0_1 p0_2 JJ)), .val (.long (v0_63 p0_0)), .second, .unset, .unset] [(.long (r4 (v4_9 p0_0))), (.long (r4 (own_it ((JJ p0_0 (j0_24_s0 p0_1 p0_2)) + 1) p0_0)))])) t → Steps p.tables e below (s₁.setTop (entryFrame m #[(.long p0_0), (.int p0_1), (.int p0_2)] maxLocals)) t := fun t k => pre76 t (st77.trans k)
    have pre83 : ∀ t, Steps p.tables e below (T77.setTop (mkF m 106 #[.val (.long p0_0), .second, .val (.int p0_1), .val (.int p0_2), .val (.int (j0_24_s0 p0_1 p0_2)), .val (.ref b10), .val (.ref b17), .val (.int (c0_50 p0_0 p0_1 p0_2 JJ)), .val (.long (v0_63 p0_0)), .second, .unset, .unset] [(.int (1 : Int32))])) t → Steps p.tables e below (s₁.setTop (entryFrame m #[(.long p0_0), (.int p0_1), (.int p0_2)] maxLocals)) t := fun t k => pre77 t (by
      refine XS.lcmp X77.here hx rfl (hb hby at_97) rfl ?_
      show Steps p.tables e below (T77.setTop (mkF m 98 #[.val (.long p0_0), .second, .val (.int p0_1), .val (.int p0_2), .val (.int (j0_24_s0 p0_1 p0_2)), .val (.ref b10), .val (.ref b17), .val (.int (c0_50 p0_0 p0_1 p0_2 JJ)), .val (.long (v0_63 p0_0)), .second, .unset, .unset] [(.int (lcmpW (r4 (own_it ((JJ p0_0 (j0_24_s0 p0_1 p0_2)) + 1) p0_0)) (r4 (v4_9 p0_0))))])) _
      refine XS.ifNo X77.here hx rfl (hb hby at_98) rfl ((if0 _ _).trans (teq ((lw_eq (r4 (own_it ((JJ p0_0 (j0_24_s0 p0_1 p0_2)) + 1) p0_0)) (r4 (v4_9 p0_0))).mpr (show (r4 (own_it ((JJ p0_0 (j0_24_s0 p0_1 p0_2)) + 1) p0_0)) = (r4 (v4_9 p0_0)) from (own_st0 p0_0 p0_1 p0_2 JJ hJ hc72_41)))).2) ?_
      show Steps p.tables e below (T77.setTop (mkF m 101 #[.val (.long p0_0), .second, .val (.int p0_1), .val (.int p0_2), .val (.int (j0_24_s0 p0_1 p0_2)), .val (.ref b10), .val (.ref b17), .val (.int (c0_50 p0_0 p0_1 p0_2 JJ)), .val (.long (v0_63 p0_0)), .second, .unset, .unset] [])) _
      refine XS.iconst X77.here hx rfl (hb hby at_101) ?_
      show Steps p.tables e below (T77.setTop (mkF m 102 #[.val (.long p0_0), .second, .val (.int p0_1), .val (.int p0_2), .val (.int (j0_24_s0 p0_1 p0_2)), .val (.ref b10), .val (.ref b17), .val (.int (c0_50 p0_0 p0_1 p0_2 JJ)), .val (.long (v0_63 p0_0)), .second, .unset, .unset] [(.int (1 : Int32))])) _
      refine XS.goto X77.here hx rfl (pc0 := 102) (pc' := 106) rfl (hb hby at_102) (by decide) (by decide) ?_
      show Steps p.tables e below (T77.setTop (mkF m 106 #[.val (.long p0_0), .second, .val (.int p0_1), .val (.int p0_2), .val (.int (j0_24_s0 p0_1 p0_2)), .val (.ref b10), .val (.ref b17), .val (.int (c0_50 p0_0 p0_1 p0_2 JJ)), .val (.long (v0_63 p0_0)), .second, .unset, .unset] [(.int (1 : Int32))])) _
      exact k)
    obtain ⟨fs, hr, hrun, hended, hW, hsame⟩ := X77.leave (v := some (.int (1 : Int32))) (fun h => by rw [Bd.returns] at h; cases h) Bd.notSynchronized
    refine ⟨_, _, pre83 _ ?_, hrun, hended, _, _, rfl, ?_, ⟨_, rfl⟩, hW, hsame.mono (by decide) (by decide)⟩
    · show Steps p.tables e below (T77.setTop (mkF m 106 #[.val (.long p0_0), .second, .val (.int p0_1), .val (.int p0_2), .val (.int (j0_24_s0 p0_1 p0_2)), .val (.ref b10), .val (.ref b17), .val (.int (c0_50 p0_0 p0_1 p0_2 JJ)), .val (.long (v0_63 p0_0)), .second, .unset, .unset] [(.int (1 : Int32))])) _
      exact retN X77 hx (t := .boolean) Bd.returns (by simp) (hb hby at_106) hr
    · show Q0 Z p0_0 p0_1 p0_2 JJ h0 n0 _ T77.heap _
      exact ⟨rfl, N77⟩
set_option maxRecDepth 65536 in
set_option maxHeartbeats 40000000 in
theorem comes_1 {Post : Tables → Env → Array Value → State → Outcome → State → Prop} (hpost : ∀ tb e args s v u, (limb_1_1.after args s (.returned v) u = true ∧ limb_1_2.after args s (.returned v) u = true ∧ True) → FrameEnd s (.returned v) u (Jvm.fieldLocs frame_1_writes args s ++ Jvm.arrayLocs frame_1_arrays args s ++ Jvm.staticLocs frame_1_statics s) 16 128 → Post tb e args s (.returned v) u) :
    ArmFor flags0 classFile x code maxLocals ret World_1 tables_1 room_1 Calls_1 rest_1 Pre_1 Post := by
  intro l hfl _ _ p e ha hc hk s m args below hf hA hF happ hP
  obtain ⟨hcalls, hrest, hpre⟩ := hP
  obtain ⟨-, -, -, hnamed, -, -, -, hat⟩ := (Spec.applies_iff hf).mp happ
  obtain ⟨hg, hn⟩ := and_e (Cond.before_iff.mp (show (Jvm.Cond.and given_1 narrow_1).before args s = true from hpre))
  obtain ⟨gc, g0⟩ := and_e hg
  obtain ⟨ga0, g1⟩ := and_e g0
  obtain ⟨ga1, g2⟩ := and_e g1
  obtain ⟨w0, w1, w2, rfl⟩ : ∃ w0 w1 w2 : Value, args = #[w0, w1, w2] := by
    have hs : args.size = 3 := by simpa [Cond.value, given_1] using gc
    obtain ⟨L⟩ := args
    match L, hs with
    | [w0, w1, w2], _ => exact ⟨w0, w1, w2, rfl⟩
  have hw := fun d (hd : d ∈ tables_1) => atoms_spec (ws := Jvm.Cond.code x code maxLocals ret :: tables_1) hat d (List.mem_cons_of_mem _ hd)
  obtain ⟨i0, ei0⟩ := isL_v ga0
  obtain rfl : w0 = (.long i0) := Option.some.inj ei0
  obtain ⟨i1, ei1⟩ := is_v ga1
  obtain rfl : w1 = (.int i1) := Option.some.inj ei1
  obtain ⟨i2, ei2⟩ := is_v g2
  obtain rfl : w2 = (.int i2) := Option.some.inj ei2
  obtain ⟨JJ, hJ⟩ := own_exJ
  obtain ⟨n, o, h1, h2, h3, _, L, rfl, ⟨rfl, N⟩, hq⟩ := rm0 l s _ hw tables_1 i0 i1 i2 JJ s.heap s.heap.size (Nat.le_refl _) hJ p e ha hc hk s m _ below hf ((Spec.applies_iff_loose hf).mp happ).1 ⟨rfl, State.Warmed39.refl s, rfl⟩ trivial
  refine ⟨n, _, h1, h2, h3, hpost _ _ _ _ _ _ ⟨Cond.after_iff.mpr rfl, Cond.after_iff.mpr (eq_i res_at (Term.int_eval (1)) rfl), trivial⟩ ⟨hq.1, hq.2.1, (hq.2.2.sift fun y hy => Or.inr (N y hy)).mono (by decide) (by decide)⟩⟩
theorem main_1_1 : Claimed_1_1 := comes_1 fun _ _ _ _ _ _ h hF => ⟨h.1, hF⟩
theorem main_1_2 : Claimed_1_2 := comes_1 fun _ _ _ _ _ _ h hF => ⟨h.2.1, hF⟩
end Jvm.Pilot.@@N@@
namespace Jvm.Pilot.@@N@@
open Jvm Jvm.ClassFile Sem Op Lib Jvm.Free Jvm.Stand Jvm.Pilot.@@N@@.Jvm.D
/-! MADE BY PROGRAM (witnessworld.py) out of the Statement's table words and the real class files: 10 classes; the members and pool entries that the words name. The judged class is class 1, her method 1. -/
namespace start1
open Jvm.ClassFile
def u (s : String) : CpInfo := .utf8 (stringToUtf16 s)
/-- a pool by its gaps: so many unusable entries, then the entry; so many at the end -/
def gap : Nat → List CpInfo → List CpInfo
  | 0, r => r
  | n + 1, r => .unusable :: gap n r
def poolList (es : List (Nat × CpInfo)) (last : Nat) : List CpInfo := es.foldr (fun e r => gap e.1 (e.2 :: r)) (gap last [])
def pool (es : List (Nat × CpInfo)) (last : Nat) : Array CpInfo := ⟨poolList es last⟩
def fileOf (pool : Array CpInfo) (this : Nat) (attrs : Array Attribute := #[]) (ms : Array MethodInfo := #[]) (fl : Nat := 33) (sup : Nat := 0) (ifs : Array Nat := #[]) (fds : Array FieldInfo := #[]) : ClassFile where
  minorVersion := 0
  majorVersion := 65
  constantPool := pool
  accessFlags := fl
  thisClass := this
  superClass := sup
  interfaces := ifs
  fields := fds
  methods := ms
  attributes := attrs
def plain (name : String) (sup : Option ClassId) : Class where
  name := name
  kind := .ordinary
  loader := none
  accessFlags := 33
  super := sup
  interfaces := #[]
  cf := none
  fields := #[]
  methods := #[]
  instanceTypes := #[]
  staticTypes := #[]
  resolved := #[]
  callSites := []
  init := .initialized
  statics := none
  mirror := none

def pool0 : Array CpInfo := pool [(5, u "<init>"), (0, u "()V"), (1, .class_ 10), (1, u "java/lang/Object")] 113

def k0c0 : Code := { maxStack := 0, maxLocals := 1, code := object_method_1_code, exceptionTable := #[], attributes := #[] }
def k0m0 : Method := { name := "<init>", desc := "()V", sig := { parameters := [], returnType := none }, accessFlags := 1, code := some k0c0 }
/-- java/lang/Object -/
def k0 : Class := { plain "java/lang/Object" none with
  accessFlags := 33
  interfaces := #[]
  cf := some (fileOf pool0 8 #[] #[{ accessFlags := 1, nameIndex := 5, descriptorIndex := 6, attributes := #[] }] 33 0 #[] #[])
  fields := #[]
  methods := #[k0m0]
  instanceTypes := #[]
  staticTypes := #[]
  resolved := Array.replicate 124 none
  statics := none }

def pool1 : Array CpInfo := pool [(2, .class_ 4), (1, u "java/lang/Object"), (0, u "<init>"), (0, u "()V"), (0, .integer 2147483647), (0, .methodref 9 10), (0, .class_ 11), (0, .nameAndType 12 13), (0, u "java/lang/Math"), (0, u "max"), (0, u "(II)I"), (0, .class_ 15), (0, u "com/example/consigliere/consigliere/engine/Rng"), (0, .methodref 14 17), (0, .nameAndType 5 18), (0, u "(J)V"), (0, .methodref 14 20), (0, .nameAndType 21 22), (0, u "nextInt"), (0, u "(I)I"), (0, .methodref 14 24), (0, .nameAndType 25 26), (0, u "nextLong"), (0, u "()J"), (0, .methodref 28 29), (0, .class_ 30), (0, .nameAndType 31 32), (0, u "com/example/consigliere/consigliere/engine/RngNextIntPinLaw"), (0, u "accepted"), (0, u "(JI)Z"), (0, .long 4294967296), (3, u "law"), (0, u "(JII)Z")] 3

def k1m0 : Method := { name := "<init>", desc := "()V", sig := { parameters := [], returnType := none }, accessFlags := 1, code := none }
def k1c1 : Code := { maxStack := 5, maxLocals := 12, code := code, exceptionTable := #[], attributes := #[] }
def k1m1 : Method := { name := "law", desc := "(JII)Z", sig := { parameters := [.long, .int, .int], returnType := some .boolean }, accessFlags := 9, code := some k1c1 }
def k1c2 : Code := { maxStack := 6, maxLocals := 5, code := method_3_code, exceptionTable := #[], attributes := #[] }
def k1m2 : Method := { name := "accepted", desc := "(JI)Z", sig := { parameters := [.long, .int], returnType := some .boolean }, accessFlags := 10, code := some k1c2 }
/-- com/example/consigliere/consigliere/engine/RngNextIntPinLaw -/
def k1 : Class := { plain "com/example/consigliere/consigliere/engine/RngNextIntPinLaw" (some 0) with
  accessFlags := 49
  interfaces := #[]
  cf := some (fileOf pool1 28 #[] #[{ accessFlags := 1, nameIndex := 5, descriptorIndex := 6, attributes := #[] }, { accessFlags := 9, nameIndex := 37, descriptorIndex := 38, attributes := #[] }, { accessFlags := 10, nameIndex := 31, descriptorIndex := 32, attributes := #[] }] 49 2 #[] #[])
  fields := #[]
  methods := #[k1m0, k1m1, k1m2]
  instanceTypes := #[]
  staticTypes := #[]
  resolved := Array.replicate 42 none
  statics := none }

def pool2 : Array CpInfo := pool [(1, .methodref 2 3), (0, .class_ 4), (0, .nameAndType 5 6), (0, u "java/lang/Object"), (0, u "<init>"), (0, u "()V"), (0, .fieldref 8 9), (0, .class_ 10), (0, .nameAndType 11 12), (0, u "com/example/consigliere/consigliere/engine/Rng"), (0, u "state"), (0, u "J"), (0, .long 11400714819323198485), (1, .long 13787848793156543929), (1, .long 10723151780598845931), (10, .long 4294967296), (1, .methodref 8 31), (0, .nameAndType 32 33), (0, u "nextLong"), (0, u "()J"), (2, u "nextInt"), (0, u "(I)I"), (0, u "GOLDEN_GAMMA"), (1, u "TWO_TO_THE_32"), (0, u "(J)V")] 22

def k2c0 : Code := { maxStack := 3, maxLocals := 3, code := prog_3_method_1_code, exceptionTable := #[], attributes := #[] }
def k2m0 : Method := { name := "<init>", desc := "(J)V", sig := { parameters := [.long], returnType := none }, accessFlags := 1, code := some k2c0 }
def k2c1 : Code := { maxStack := 5, maxLocals := 3, code := prog_3_method_2_code, exceptionTable := #[], attributes := #[] }
def k2m1 : Method := { name := "nextLong", desc := "()J", sig := { parameters := [], returnType := some .long }, accessFlags := 1, code := some k2c1 }
def k2c2 : Code := { maxStack := 6, maxLocals := 6, code := prog_3_method_3_code, exceptionTable := #[], attributes := #[] }
def k2m2 : Method := { name := "nextInt", desc := "(I)I", sig := { parameters := [.int], returnType := some .int }, accessFlags := 1, code := some k2c2 }
/-- com/example/consigliere/consigliere/engine/Rng -/
def k2 : Class := { plain "com/example/consigliere/consigliere/engine/Rng" (some 0) with
  accessFlags := 49
  interfaces := #[]
  cf := some (fileOf pool2 8 #[] #[{ accessFlags := 1, nameIndex := 5, descriptorIndex := 41, attributes := #[] }, { accessFlags := 1, nameIndex := 32, descriptorIndex := 33, attributes := #[] }, { accessFlags := 1, nameIndex := 36, descriptorIndex := 37, attributes := #[] }] 49 2 #[] #[{ accessFlags := 26, nameIndex := 38, descriptorIndex := 12, attributes := #[] }, { accessFlags := 26, nameIndex := 40, descriptorIndex := 12, attributes := #[] }, { accessFlags := 2, nameIndex := 11, descriptorIndex := 12, attributes := #[] }])
  fields := #[{ name := "GOLDEN_GAMMA", type := .long, accessFlags := 26, slot := 0, constantValue := 0 }, { name := "TWO_TO_THE_32", type := .long, accessFlags := 26, slot := 1, constantValue := 0 }, { name := "state", type := .long, accessFlags := 2, slot := 0, constantValue := 0 }]
  methods := #[k2m0, k2m1, k2m2]
  instanceTypes := #[.long]
  staticTypes := #[.long, .long]
  resolved := Array.replicate 64 none
  statics := none }

def pool3 : Array CpInfo := pool [(1, .class_ 2), (0, u "java/lang/Math"), (1, .class_ 6), (1, u "java/lang/Object"), (0, u "<init>"), (0, u "()V"), (89, .class_ 100), (1, u "java/lang/Math$RandomNumberGeneratorHolder"), (71, u "negativeZeroFloatBits"), (0, u "J"), (2, u "negativeZeroDoubleBits"), (21, u "max"), (46, u "$assertionsDisabled"), (0, u "Z"), (88, u "(II)I"), (2, u "twoToTheDoubleScaleDown"), (0, u "D"), (4, u "twoToTheDoubleScaleUp"), (9, u "E"), (3, u "PI"), (2, u "TAU"), (2, u "DEGREES_TO_RADIANS"), (0, u "RADIANS_TO_DEGREES")] 94

def k3m0 : Method := { name := "<init>", desc := "()V", sig := { parameters := [], returnType := none }, accessFlags := 2, code := none }
def k3c1 : Code := { maxStack := 2, maxLocals := 2, code := jdk_29_method_65_code, exceptionTable := #[], attributes := #[] }
def k3m1 : Method := { name := "max", desc := "(II)I", sig := { parameters := [.int, .int], returnType := some .int }, accessFlags := 9, code := some k3c1 }
/-- java/lang/Math -/
def k3 : Class := { plain "java/lang/Math" (some 0) with
  accessFlags := 49
  interfaces := #[]
  cf := some (fileOf pool3 1 #[.nestMembers #[98]] #[{ accessFlags := 2, nameIndex := 7, descriptorIndex := 8, attributes := #[] }, { accessFlags := 9, nameIndex := 198, descriptorIndex := 335, attributes := #[] }] 49 4 #[] #[{ accessFlags := 25, nameIndex := 354, descriptorIndex := 339, attributes := #[] }, { accessFlags := 25, nameIndex := 358, descriptorIndex := 339, attributes := #[] }, { accessFlags := 25, nameIndex := 361, descriptorIndex := 339, attributes := #[] }, { accessFlags := 26, nameIndex := 364, descriptorIndex := 339, attributes := #[] }, { accessFlags := 26, nameIndex := 365, descriptorIndex := 339, attributes := #[] }, { accessFlags := 26, nameIndex := 172, descriptorIndex := 173, attributes := #[] }, { accessFlags := 26, nameIndex := 176, descriptorIndex := 173, attributes := #[] }, { accessFlags := 8, nameIndex := 344, descriptorIndex := 339, attributes := #[] }, { accessFlags := 8, nameIndex := 338, descriptorIndex := 339, attributes := #[] }, { accessFlags := 4120, nameIndex := 245, descriptorIndex := 246, attributes := #[] }])
  fields := #[{ name := "E", type := .double, accessFlags := 25, slot := 0, constantValue := 0 }, { name := "PI", type := .double, accessFlags := 25, slot := 1, constantValue := 0 }, { name := "TAU", type := .double, accessFlags := 25, slot := 2, constantValue := 0 }, { name := "DEGREES_TO_RADIANS", type := .double, accessFlags := 26, slot := 3, constantValue := 0 }, { name := "RADIANS_TO_DEGREES", type := .double, accessFlags := 26, slot := 4, constantValue := 0 }, { name := "negativeZeroFloatBits", type := .long, accessFlags := 26, slot := 5, constantValue := 0 }, { name := "negativeZeroDoubleBits", type := .long, accessFlags := 26, slot := 6, constantValue := 0 }, { name := "twoToTheDoubleScaleUp", type := .double, accessFlags := 8, slot := 7, constantValue := 0 }, { name := "twoToTheDoubleScaleDown", type := .double, accessFlags := 8, slot := 8, constantValue := 0 }, { name := "$assertionsDisabled", type := .boolean, accessFlags := 4120, slot := 9, constantValue := 0 }]
  methods := #[k3m0, k3m1]
  instanceTypes := #[]
  staticTypes := #[.double, .double, .double, .double, .double, .long, .long, .double, .double, .boolean]
  resolved := Array.replicate 460 none
  statics := none }

def pool4 : Array CpInfo := pool [(1, u "java/lang/Cloneable"), (0, .class_ 1), (0, u "java/lang/Object"), (0, .class_ 3)] 3

/-- java/lang/Cloneable -/
def k4 : Class := { plain "java/lang/Cloneable" (some 0) with
  accessFlags := 1537
  interfaces := #[]
  cf := some (fileOf pool4 2 #[] #[] 1537 4 #[] #[])
  fields := #[]
  methods := #[]
  instanceTypes := #[]
  staticTypes := #[]
  resolved := Array.replicate 8 none
  statics := none }

def pool5 : Array CpInfo := pool [(1, u "java/io/Serializable"), (0, .class_ 1), (0, u "java/lang/Object"), (0, .class_ 3)] 3

/-- java/io/Serializable -/
def k5 : Class := { plain "java/io/Serializable" (some 0) with
  accessFlags := 1537
  interfaces := #[]
  cf := some (fileOf pool5 2 #[] #[] 1537 4 #[] #[])
  fields := #[]
  methods := #[]
  instanceTypes := #[]
  staticTypes := #[]
  resolved := Array.replicate 8 none
  statics := none }

/-- the primitive byte -/
def k6 : Class := { plain "byte" none with kind := .primitive 'B', accessFlags := 0x411 }
/-- [B -/
def k7 : Class := { plain "[B" (some 0) with kind := .array 6 .byte, interfaces := #[4, 5], accessFlags := 1041 }

/-- the primitive int -/
def k8 : Class := { plain "int" none with kind := .primitive 'I', accessFlags := 0x411 }
/-- [I -/
def k9 : Class := { plain "[I" (some 0) with kind := .array 8 .int, interfaces := #[4, 5], accessFlags := 1041 }

def heap : Heap := #[]
def classes : Array Class := #[k0, k1, k2, k3, k4, k5, k6, k7, k8, k9]
def interned : List (Array UInt16 × Addr) := []
def slotsUsed : Nat := 0
def theMethod : MethodId := ⟨1, 1⟩
def args0 : Array Value := #[.long 5, .int 6, .int 7]
def aboutOver (below : List Frame) : State where
  vm := { classes := classes, interned := interned.toArray }
  heap := heap
  slotsUsed := slotsUsed
  threads := #[{ frames := .invoking theMethod args0 :: below }]
def below0 : List Frame := [.native { method := ⟨0, 0⟩, args := #[] }]
def about1 : State := aboutOver below0
def p0 : Program := .bare "" "" ""
def e0 : Env := launch0.env 0 0 0
theorem w_frames : about1.frames = Frame.invoking theMethod args0 :: below0 := rfl
set_option maxRecDepth 65536 in
theorem w_args : argsFit about1.vm theMethod args0 = true := by decide +kernel
set_option maxRecDepth 65536 in
theorem w_heap : heapFits about1 = true := by decide +kernel
set_option maxRecDepth 65536 in
theorem w_runnable : about1.curStatus? = some .runnable := by decide +kernel
set_option maxRecDepth 65536 in
theorem w_alone : about1.alone = true := by decide +kernel
set_option maxRecDepth 65536 in
theorem w_named : about1.methodNamed? x = some theMethod := by decide +kernel
set_option maxRecDepth 65536 in
theorem w_hears : about1.hears theMethod below0 = true := by decide +kernel
set_option maxRecDepth 65536 in
theorem w_ripe : about1.ripe theMethod args0 below0 = true := by decide +kernel
theorem w_running : about1.status = .running := rfl
set_option maxRecDepth 65536 in
theorem w_room : about1.hasRoom e0.platform room_1 = true :=
  launch0.hasRoom_least _ room_1 (by decide +kernel) (by decide +kernel) (by decide +kernel) (by decide +kernel) (by decide +kernel) (by decide +kernel)
theorem allAtoms_all (ts : List Jvm.Cond) (a : Array Jvm.Value) (st : Jvm.State) : (allAtoms ts).before a st = ts.all (fun c => c.before a st) := by
  induction ts with
  | nil => rfl
  | cons c t ih =>
    show (Jvm.Cond.and c (allAtoms t)).before a st = _
    rw [Jvm.Cond.before_and, ih, List.all_cons]
def words1 : List Jvm.Cond := Jvm.Cond.code x code maxLocals ret :: tables_1
/-- a 'code' word, met by the world's own term for the bytes: nothing is compared byte by byte -/
theorem code_word {y : MethodName} {bytes : ByteArray} {mx : Nat} {rt : Option FieldType} {a : Array Value} {s : State} {m : MethodId} {meth : Method} {c : Code} (h1 : s.methodNamed? y = some m) (h2 : s.vm.method? m = some meth) (h3 : meth.code = some c) (h4 : c.code = bytes)
    (h5 : (c.maxLocals == mx && c.exceptionTable.isEmpty && decide (c.maxStack ≤ mostOperands) && decide (meth.sig.returnType = rt) && !meth.locks && decide (parseMethodDescriptor y.desc = some meth.sig)) = true) : (Jvm.Cond.code y bytes mx rt).before a s = true := by
  simp only [Bool.and_eq_true, beq_iff_eq, Bool.not_eq_true', decide_eq_true_eq] at h5
  obtain ⟨⟨⟨⟨⟨g1, g2⟩, g3⟩, g4⟩, g5⟩, g6⟩ := h5
  simp [Cond.before, Cond.holds, Cond.value, h1, h2, h3, h4, g1, g2, g3, g4, g5, g6]
def isCode : Jvm.Cond → Bool
  | .code _ _ _ _ => true
  | _ => false
theorem all_split {L : List Jvm.Cond} {P : Jvm.Cond → Bool} (h1 : L.all (fun c => isCode c || P c) = true) (h2 : ∀ c ∈ L.filter isCode, P c = true) : L.all P = true := by
  refine List.all_eq_true.mpr fun c hc => ?_
  have h := List.all_eq_true.mp h1 c hc
  rcases Bool.eq_false_or_eq_true (isCode c) with hi | hi
  · exact h2 c (List.mem_filter.mpr ⟨hc, hi⟩)
  · simpa [hi] using h
set_option maxRecDepth 65536 in
theorem w_c0 : (Jvm.Cond.code x code maxLocals ret).before args0 about1 = true := code_word (m := ⟨1, 1⟩) (meth := k1m1) (c := k1c1) (by decide +kernel) rfl rfl rfl (by decide +kernel)
set_option maxRecDepth 65536 in
theorem w_c1 : (Jvm.Cond.code ({ cls := "com/example/consigliere/consigliere/engine/Rng", name := "<init>", desc := "(J)V" } : Jvm.MethodName) prog_3_method_1_code (3 : Nat) (Option.none : Option Jvm.ClassFile.FieldType)).before args0 about1 = true := code_word (m := ⟨2, 0⟩) (meth := k2m0) (c := k2c0) (by decide +kernel) rfl rfl rfl (by decide +kernel)
set_option maxRecDepth 65536 in
theorem w_c2 : (Jvm.Cond.code ({ cls := "java/lang/Object", name := "<init>", desc := "()V" } : Jvm.MethodName) object_method_1_code (1 : Nat) (Option.none : Option Jvm.ClassFile.FieldType)).before args0 about1 = true := code_word (m := ⟨0, 0⟩) (meth := k0m0) (c := k0c0) (by decide +kernel) rfl rfl rfl (by decide +kernel)
set_option maxRecDepth 65536 in
theorem w_c3 : (Jvm.Cond.code ({ cls := "com/example/consigliere/consigliere/engine/Rng", name := "nextInt", desc := "(I)I" } : Jvm.MethodName) prog_3_method_3_code (6 : Nat) (Option.some Jvm.ClassFile.FieldType.int)).before args0 about1 = true := code_word (m := ⟨2, 2⟩) (meth := k2m2) (c := k2c2) (by decide +kernel) rfl rfl rfl (by decide +kernel)
set_option maxRecDepth 65536 in
theorem w_c4 : (Jvm.Cond.code ({ cls := "com/example/consigliere/consigliere/engine/Rng", name := "nextLong", desc := "()J" } : Jvm.MethodName) prog_3_method_2_code (3 : Nat) (Option.some Jvm.ClassFile.FieldType.long)).before args0 about1 = true := code_word (m := ⟨2, 1⟩) (meth := k2m1) (c := k2c1) (by decide +kernel) rfl rfl rfl (by decide +kernel)
set_option maxRecDepth 65536 in
theorem w_c5 : (Jvm.Cond.code ({ cls := "com/example/consigliere/consigliere/engine/RngNextIntPinLaw", name := "accepted", desc := "(JI)Z" } : Jvm.MethodName) method_3_code (5 : Nat) (Option.some Jvm.ClassFile.FieldType.boolean)).before args0 about1 = true := code_word (m := ⟨1, 2⟩) (meth := k1m2) (c := k1c2) (by decide +kernel) rfl rfl rfl (by decide +kernel)
set_option maxRecDepth 65536 in
theorem w_c6 : (Jvm.Cond.code ({ cls := "java/lang/Math", name := "max", desc := "(II)I" } : Jvm.MethodName) jdk_29_method_65_code (2 : Nat) (Option.some Jvm.ClassFile.FieldType.int)).before args0 about1 = true := code_word (m := ⟨3, 1⟩) (meth := k3m1) (c := k3c1) (by decide +kernel) rfl rfl rfl (by decide +kernel)
def codes1 : List Jvm.Cond := [Jvm.Cond.code x code maxLocals ret, Jvm.Cond.code ({ cls := "com/example/consigliere/consigliere/engine/Rng", name := "<init>", desc := "(J)V" } : Jvm.MethodName) prog_3_method_1_code (3 : Nat) (Option.none : Option Jvm.ClassFile.FieldType), Jvm.Cond.code ({ cls := "java/lang/Object", name := "<init>", desc := "()V" } : Jvm.MethodName) object_method_1_code (1 : Nat) (Option.none : Option Jvm.ClassFile.FieldType), Jvm.Cond.code ({ cls := "com/example/consigliere/consigliere/engine/Rng", name := "nextInt", desc := "(I)I" } : Jvm.MethodName) prog_3_method_3_code (6 : Nat) (Option.some Jvm.ClassFile.FieldType.int), Jvm.Cond.code ({ cls := "com/example/consigliere/consigliere/engine/Rng", name := "nextLong", desc := "()J" } : Jvm.MethodName) prog_3_method_2_code (3 : Nat) (Option.some Jvm.ClassFile.FieldType.long), Jvm.Cond.code ({ cls := "com/example/consigliere/consigliere/engine/RngNextIntPinLaw", name := "accepted", desc := "(JI)Z" } : Jvm.MethodName) method_3_code (5 : Nat) (Option.some Jvm.ClassFile.FieldType.boolean), Jvm.Cond.code ({ cls := "java/lang/Math", name := "max", desc := "(II)I" } : Jvm.MethodName) jdk_29_method_65_code (2 : Nat) (Option.some Jvm.ClassFile.FieldType.int)]
set_option maxRecDepth 65536 in
theorem codes_eq : words1.filter isCode = codes1 := rfl
theorem w_codes : ∀ c ∈ words1.filter isCode, c.before args0 about1 = true := by
  rw [codes_eq]
  intro c hc
  simp only [codes1, List.mem_cons, List.not_mem_nil, or_false] at hc
  rcases hc with rfl | rfl | rfl | rfl | rfl | rfl | rfl
  · exact w_c0
  · exact w_c1
  · exact w_c2
  · exact w_c3
  · exact w_c4
  · exact w_c5
  · exact w_c6
set_option maxRecDepth 65536 in
theorem w_t1 : (words1.take 24).all (fun c => isCode c || c.before args0 about1) = true := by decide +kernel
set_option maxRecDepth 65536 in
theorem w_t2 : (words1.drop 24).all (fun c => isCode c || c.before args0 about1) = true := by decide +kernel
theorem w_tables : (allAtoms (Jvm.Cond.code x code maxLocals ret :: tables_1)).before args0 about1 = true := by
  rw [allAtoms_all]
  show words1.all (fun c => c.before args0 about1) = true
  refine all_split ?_ w_codes
  rw [← List.take_append_drop 24 words1, List.all_append, w_t1, w_t2]
  rfl
set_option maxRecDepth 65536 in
theorem w_case : (Jvm.Cond.and given_1 narrow_1).before args0 about1 = true := by decide +kernel
theorem w_applies : (headSpec (Jvm.Cond.code x code maxLocals ret :: tables_1) room_1).applies x e0.platform about1 = true :=
  (Spec.applies_iff w_frames).mpr ⟨w_running, w_runnable, w_alone, w_named, w_hears, w_ripe, w_room, w_tables⟩
theorem atStart : AtStart classFile x code maxLocals ret World_1 tables_1 room_1 Calls_1 rest_1 Pre_1 launch0 p0 e0 about1 theMethod args0 below0 :=
  ⟨lists_1, trivial, launch0.admits_env _ _ _, launch0.least_env, fairChoices_fair.cas, fairChoices_fair.clock, w_frames, w_args, w_heap, w_applies, trivial, trivial, w_case⟩
end start1
theorem witness_1 : WitnessClaimed_1 := ⟨start1.p0, start1.e0, start1.about1, start1.theMethod, start1.args0, start1.below0, start1.atStart⟩
end Jvm.Pilot.@@N@@
