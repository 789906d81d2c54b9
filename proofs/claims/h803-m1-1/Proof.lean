import JvmDerived
import JvmDerived.Pilot.@@N@@Statement
import JvmDerived.Pilot.@@N@@Code
set_option linter.unusedVariables false
set_option linter.unusedSimpArgs false
@@BLOCK:NumsL.lean.txt@@
namespace Jvm.Pilot.@@N@@
open Jvm Jvm.ClassFile Sem Op Lib Jvm.Free Jvm.Stand Jvm.LawKit Jvm.RoadKit Bundle Jvm.Pilot.@@N@@.Jvm.D
def own_shl (x y : Int32) : Int32 := x <<< (y &&& 31)
def own_shr (x y : Int32) : Int32 := x >>> (y &&& 31)
def own_ushr (x y : Int32) : Int32 := (x.toUInt32 >>> (y &&& 31).toUInt32).toInt32
def own_shlL (x : Int64) (y : Int32) : Int64 := x <<< (y &&& 0x3f).toInt64
def own_shrL (x : Int64) (y : Int32) : Int64 := x >>> (y &&& 0x3f).toInt64
def own_ushrL (x : Int64) (y : Int32) : Int64 := (x.toUInt64 >>> (y &&& 0x3f).toInt64.toUInt64).toInt64
def own_remL (x y : Int64) : Int64 := x - (x / y) * y
section OwnKit
variable {p : Program} {l : Launch} {e : Env} {R : Room} {s : State} {m : MethodId} {args : Array Value} {below : List Frame} {meth : Method} {c : Code} {T : State} {locs : List Loc} {cells slots : Nat} {Z : State} {h h' : Heap} {a b : Addr}
theorem retI (X : Stand p l e R s m args below meth c T locs cells slots) (hx : p.tables.exec = Jvm.exec) {pc : Nat} {Ls : Array Slot} {z : Int32} {rest : List Value} (hret : meth.sig.returnType = some .int) (hd : decode c.code pc = .ok (.ireturn, 1)) {fs : List Frame}
    (hl : ∀ (f : JFrame) (acts : List Action), f.method = m → f.locked = none → f.entered = [] → (doReturn e (T.setTop f) acts (some (.int z))).1 = T.setFrames fs) : Steps p.tables e below (T.setTop (mkF m pc Ls (.int z :: rest))) (T.setFrames fs) :=
  retOut X hx hret rfl (Or.inl ⟨rfl, Or.inl rfl, _, rfl⟩) hd hl
theorem own_retJ (X : Stand p l e R s m args below meth c T locs cells slots) (hx : p.tables.exec = Jvm.exec) {pc : Nat} {Ls : Array Slot} {z : Int64} {rest : List Value} (hret : meth.sig.returnType = some .long) (hd : decode c.code pc = .ok (.lreturn, 1)) {fs : List Frame}
    (hl : ∀ (f : JFrame) (acts : List Action), f.method = m → f.locked = none → f.entered = [] → (doReturn e (T.setTop f) acts (some (.long z))).1 = T.setFrames fs) : Steps p.tables e below (T.setTop (mkF m pc Ls (.long z :: rest))) (T.setFrames fs) :=
  retOut X hx hret rfl (Or.inr (Or.inl ⟨rfl, rfl, _, rfl⟩)) hd hl
end OwnKit
theorem pn_0 : plainName "com/example/consigliere/consigliere/engine/Rng" = true := by first | (simp [plainName, overriddenIn]; done) | decide +kernel
theorem d1_0 : decode prog_3_method_1_code 0 = .ok (.aload_n 0, 1) := by decide +kernel
theorem d1_1 : decode prog_3_method_1_code 1 = .ok (.invokespecial 1, 3) := by decide +kernel
theorem d1_4 : decode prog_3_method_1_code 4 = .ok (.aload_n 0, 1) := by decide +kernel
theorem d1_5 : decode prog_3_method_1_code 5 = .ok (.lload_n 1, 1) := by decide +kernel
theorem d1_6 : decode prog_3_method_1_code 6 = .ok (.putfield 7, 3) := by decide +kernel
theorem d1_9 : decode prog_3_method_1_code 9 = .ok (.return_, 1) := by decide +kernel
theorem ef_1 (m : MethodId) (x0 : Addr) (x1 : Int64) : entryFrame m #[(.ref x0), (.long x1)] 3 = mkF m 0 #[.val (.ref x0), .val (.long x1), .second] [] := by first | (simp [entryFrame, mkF, argsToLocals, Value.category]; done) | rfl
abbrev R1 : Room := { frames := 1, cells := 0, slots := 0, locals := 12 }
def Q1 (Z : State) (a1_0 : Addr) (p1_1 : Int64) (w1_state : Int64) (h0 : Heap) (n0 : Nat) (v : Option Value) (h : Heap) (L : List Loc) : Prop := v = none ∧ Fr n0 L ∧ Keep h0 h [a1_0] ∧ Fld Z h a1_0 "com/example/consigliere/consigliere/engine/Rng" "state" "J" (.long p1_1)
set_option maxRecDepth 65536 in
set_option maxHeartbeats 40000000 in
theorem rm1 (l : Launch) (Z : State) (a0 : Array Value) (hw : ∀ d ∈ tables_1, d.before a0 Z = true) (ws : List Jvm.Cond) (a1_0 : Addr) (p1_1 : Int64) (w1_state : Int64) (h0 : Heap) (n0 : Nat) (Z0 : n0 ≤ h0.size) (E_a1_0 : Exa Z h0 a1_0 "com/example/consigliere/consigliere/engine/Rng") (F_state_a1_0 : Fld Z h0 a1_0 "com/example/consigliere/consigliere/engine/Rng" "state" "J" (.long w1_state)) (g_a1_0 : n0 ≤ a1_0) :
    MetFree l (⟨"com/example/consigliere/consigliere/engine/Rng", "<init>", "(J)V"⟩ : MethodName) (head1 (Jvm.Cond.code (⟨"com/example/consigliere/consigliere/engine/Rng", "<init>", "(J)V"⟩ : MethodName) prog_3_method_1_code 3 none :: ws) R1) (fun a U => a = #[(.ref a1_0), (.long p1_1)] ∧ Z.Warmed39 U.vm ∧ U.heap = h0) (fun _ _ _ _ _ => True) (fun _ U o U' => ∃ v L, o = .returned v ∧ Q1 Z a1_0 p1_1 w1_state h0 n0 v U'.heap L ∧ FrameEnd U o U' L R1.cells R1.slots) := by
  refine MetFree.of_bodySF (plainFor_of_name pn_0) hisR ?_
  intro p e s m args below meth c s₁ Bd hml0 hP hK
  obtain ⟨rfl, hZ, hh⟩ := hP
  have hx := Bd.exec
  have hby := Bd.bytes
  have hml : c.maxLocals = 3 := hml0
  have hown : s.vm.findClass "com/example/consigliere/consigliere/engine/Rng" = some m.cls := findClass_of_methodNamed Bd.named
  have hnm := (name_of_methodNamed Bd.named Bd.method).1
  have X0 : Stand p l e R1 s m #[(.ref a1_0), (.long p1_1)] below meth c s₁ [] 0 0 := Stand.of_body Bd
  have e0 : s₁.heap = h0 := by rw [← hh, Bd.state]; rfl
  have N0 := Fr.nil n0
  have pre0 : ∀ t, Steps p.tables e below (s₁.setTop (mkF m 0 #[.val (.ref a1_0), .val (.long p1_1), .second] [])) t → Steps p.tables e below (s₁.setTop (entryFrame m #[(.ref a1_0), (.long p1_1)] 3)) t := fun t k => castTop (ef_1 m a1_0 p1_1) k
  have pre1 : ∀ t, Steps p.tables e below (s₁.setTop (mkF m 1 #[.val (.ref a1_0), .val (.long p1_1), .second] [(.ref a1_0)])) t → Steps p.tables e below (s₁.setTop (entryFrame m #[(.ref a1_0), (.long p1_1)] 3)) t := fun t k => pre0 t (by
    refine XS.aloadN X0.here hx rfl (hb hby d1_0) rfl rfl ?_
    show Steps p.tables e below (s₁.setTop (mkF m 1 #[.val (.ref a1_0), .val (.long p1_1), .second] [(.ref a1_0)])) _
    exact k)
  obtain ⟨T2, X2, e2, st2⟩ := initO X0 hx hZ hown (hw _ (List.mem_of_getElem? (i := 6) rfl)) (hw _ (List.mem_of_getElem? (i := 7) rfl)) (hw _ (List.mem_of_getElem? (i := 8) rfl)) e0 (g := (mkF m 1 #[.val (.ref a1_0), .val (.long p1_1), .second] [(.ref a1_0)])) rfl (by rw [hml]; rfl) rfl (hb hby d1_1) (by decide) (W := 0) (by show 2 * 0 + _ ≤ _; exact Nat.le_of_eq rfl) (by decide)
  have pre2 : ∀ t, Steps p.tables e below (T2.setTop (mkF m 4 #[.val (.ref a1_0), .val (.long p1_1), .second] [])) t → Steps p.tables e below (s₁.setTop (entryFrame m #[(.ref a1_0), (.long p1_1)] 3)) t := fun t k => pre1 t (st2 t k)
  have pre3 : ∀ t, Steps p.tables e below (T2.setTop (mkF m 6 #[.val (.ref a1_0), .val (.long p1_1), .second] [(.long p1_1), (.ref a1_0)])) t → Steps p.tables e below (s₁.setTop (entryFrame m #[(.ref a1_0), (.long p1_1)] 3)) t := fun t k => pre2 t (by
    refine XS.aloadN X2.here hx rfl (hb hby d1_4) rfl rfl ?_
    show Steps p.tables e below (T2.setTop (mkF m 5 #[.val (.ref a1_0), .val (.long p1_1), .second] [(.ref a1_0)])) _
    refine XS.lloadN X2.here hx rfl (hb hby d1_5) rfl ?_
    show Steps p.tables e below (T2.setTop (mkF m 6 #[.val (.ref a1_0), .val (.long p1_1), .second] [(.long p1_1), (.ref a1_0)])) _
    exact k)
  obtain ⟨T4, h4, X4, e4, W4, st4⟩ := putF X2 hx hZ hown (host := "") (Or.inl (hw _ (List.mem_of_getElem? (i := 9) rfl))) Via.refl e2 F_state_a1_0 E_a1_0 (Or.inl (hw _ (List.mem_of_getElem? (i := 10) rfl))) (hw _ (List.mem_of_getElem? (i := 1) rfl)) (ty := .long) (by decide) rfl rfl (g := (mkF m 6 #[.val (.ref a1_0), .val (.long p1_1), .second] [(.long p1_1), (.ref a1_0)])) rfl rfl (hb hby d1_6)
  have Ex5 : Exa Z h4 a1_0 "com/example/consigliere/consigliere/engine/Rng" := E_a1_0.wr W4
  have N4 := Fr.snoc X4 N0 g_a1_0
  have Z4 : n0 ≤ h4.size := Nat.le_trans Z0 (Keep.of_wr W4).1
  have K4 : Keep h0 h4 [a1_0] := (Keep.refl h0 [a1_0]).wr W4 (Or.inl (by simp))
  have F6 : Fld Z h4 a1_0 "com/example/consigliere/consigliere/engine/Rng" "state" "J" (.long p1_1) := F_state_a1_0.same W4
  have pre4 : ∀ t, Steps p.tables e below (T4.setTop (mkF m 9 #[.val (.ref a1_0), .val (.long p1_1), .second] [])) t → Steps p.tables e below (s₁.setTop (entryFrame m #[(.ref a1_0), (.long p1_1)] 3)) t := fun t k => pre3 t (st4 t k)
  obtain ⟨fs, hr, hrun, hended, hW, hsame⟩ := X4.leave (v := none) (fun _ => rfl)
  refine ⟨_, _, pre4 _ ?_, hrun, hended, _, _, rfl, ?_, ⟨_, rfl⟩, hW, hsame.mono (by decide) (by decide)⟩
  · show Steps p.tables e below (T4.setTop (mkF m 9 #[.val (.ref a1_0), .val (.long p1_1), .second] [])) _
    exact X4.returnOut hx Bd.returns (hb hby d1_9) hr
  · show Q1 Z a1_0 p1_1 w1_state h0 n0 _ T4.heap _
    rw [e4]
    exact ⟨rfl, N4, K4, F6⟩
theorem d3_0 : decode prog_3_method_2_code 0 = .ok (.aload_n 0, 1) := by decide +kernel
theorem d3_1 : decode prog_3_method_2_code 1 = .ok (.dup, 1) := by decide +kernel
theorem d3_2 : decode prog_3_method_2_code 2 = .ok (.getfield 7, 3) := by decide +kernel
theorem d3_5 : decode prog_3_method_2_code 5 = .ok (.ldc2_w 13, 3) := by decide +kernel
theorem d3_8 : decode prog_3_method_2_code 8 = .ok (.ladd, 1) := by decide +kernel
theorem d3_9 : decode prog_3_method_2_code 9 = .ok (.putfield 7, 3) := by decide +kernel
theorem d3_12 : decode prog_3_method_2_code 12 = .ok (.aload_n 0, 1) := by decide +kernel
theorem d3_13 : decode prog_3_method_2_code 13 = .ok (.getfield 7, 3) := by decide +kernel
theorem d3_16 : decode prog_3_method_2_code 16 = .ok (.lstore_n 1, 1) := by decide +kernel
theorem d3_17 : decode prog_3_method_2_code 17 = .ok (.lload_n 1, 1) := by decide +kernel
theorem d3_18 : decode prog_3_method_2_code 18 = .ok (.lload_n 1, 1) := by decide +kernel
theorem d3_19 : decode prog_3_method_2_code 19 = .ok (.bipush 30, 2) := by decide +kernel
theorem d3_21 : decode prog_3_method_2_code 21 = .ok (.lushr, 1) := by decide +kernel
theorem d3_22 : decode prog_3_method_2_code 22 = .ok (.lxor, 1) := by decide +kernel
theorem d3_23 : decode prog_3_method_2_code 23 = .ok (.ldc2_w 15, 3) := by decide +kernel
theorem d3_26 : decode prog_3_method_2_code 26 = .ok (.lmul, 1) := by decide +kernel
theorem d3_27 : decode prog_3_method_2_code 27 = .ok (.lstore_n 1, 1) := by decide +kernel
theorem d3_28 : decode prog_3_method_2_code 28 = .ok (.lload_n 1, 1) := by decide +kernel
theorem d3_29 : decode prog_3_method_2_code 29 = .ok (.lload_n 1, 1) := by decide +kernel
theorem d3_30 : decode prog_3_method_2_code 30 = .ok (.bipush 27, 2) := by decide +kernel
theorem d3_32 : decode prog_3_method_2_code 32 = .ok (.lushr, 1) := by decide +kernel
theorem d3_33 : decode prog_3_method_2_code 33 = .ok (.lxor, 1) := by decide +kernel
theorem d3_34 : decode prog_3_method_2_code 34 = .ok (.ldc2_w 17, 3) := by decide +kernel
theorem d3_37 : decode prog_3_method_2_code 37 = .ok (.lmul, 1) := by decide +kernel
theorem d3_38 : decode prog_3_method_2_code 38 = .ok (.lstore_n 1, 1) := by decide +kernel
theorem d3_39 : decode prog_3_method_2_code 39 = .ok (.lload_n 1, 1) := by decide +kernel
theorem d3_40 : decode prog_3_method_2_code 40 = .ok (.lload_n 1, 1) := by decide +kernel
theorem d3_41 : decode prog_3_method_2_code 41 = .ok (.bipush 31, 2) := by decide +kernel
theorem d3_43 : decode prog_3_method_2_code 43 = .ok (.lushr, 1) := by decide +kernel
theorem d3_44 : decode prog_3_method_2_code 44 = .ok (.lxor, 1) := by decide +kernel
theorem d3_45 : decode prog_3_method_2_code 45 = .ok (.lreturn, 1) := by decide +kernel
theorem ef_3 (m : MethodId) (x0 : Addr) : entryFrame m #[(.ref x0)] 3 = mkF m 0 #[.val (.ref x0), .unset, .unset] [] := by first | (simp [entryFrame, mkF, argsToLocals, Value.category]; done) | rfl
abbrev R3 : Room := { frames := 0, cells := 0, slots := 0, locals := 0 }
def v3_9 (w3_state : Int64) : Int64 := (w3_state + (-7046029254386353131 : Int64))
def v3_27 (w3_state : Int64) : Int64 := (((v3_9 w3_state) ^^^ (own_ushrL (v3_9 w3_state) (30 : Int32))) * (-4658895280553007687 : Int64))
def v3_38 (w3_state : Int64) : Int64 := (((v3_27 w3_state) ^^^ (own_ushrL (v3_27 w3_state) (27 : Int32))) * (-7723592293110705685 : Int64))
def r3 (w3_state : Int64) : Int64 := ((v3_38 w3_state) ^^^ (own_ushrL (v3_38 w3_state) (31 : Int32)))
def Q3 (Z : State) (a3_0 : Addr) (w3_state : Int64) (h0 : Heap) (n0 : Nat) (v : Option Value) (h : Heap) (L : List Loc) : Prop := v = some (.long (r3 w3_state)) ∧ Fr n0 L ∧ Keep h0 h [a3_0] ∧ Fld Z h a3_0 "com/example/consigliere/consigliere/engine/Rng" "state" "J" (.long (v3_9 w3_state))
set_option maxRecDepth 65536 in
set_option maxHeartbeats 40000000 in
theorem rm3 (l : Launch) (Z : State) (a0 : Array Value) (hw : ∀ d ∈ tables_1, d.before a0 Z = true) (ws : List Jvm.Cond) (a3_0 : Addr) (w3_state : Int64) (h0 : Heap) (n0 : Nat) (Z0 : n0 ≤ h0.size) (E_a3_0 : Exa Z h0 a3_0 "com/example/consigliere/consigliere/engine/Rng") (F_state_a3_0 : Fld Z h0 a3_0 "com/example/consigliere/consigliere/engine/Rng" "state" "J" (.long w3_state)) (g_a3_0 : n0 ≤ a3_0) :
    MetFree l (⟨"com/example/consigliere/consigliere/engine/Rng", "nextLong", "()J"⟩ : MethodName) (head1 (Jvm.Cond.code (⟨"com/example/consigliere/consigliere/engine/Rng", "nextLong", "()J"⟩ : MethodName) prog_3_method_2_code 3 (some .long) :: ws) R3) (fun a U => a = #[(.ref a3_0)] ∧ Z.Warmed39 U.vm ∧ U.heap = h0) (fun _ _ _ _ _ => True) (fun _ U o U' => ∃ v L, o = .returned v ∧ Q3 Z a3_0 w3_state h0 n0 v U'.heap L ∧ FrameEnd U o U' L R3.cells R3.slots) := by
  refine MetFree.of_bodySF (plainFor_of_name pn_0) hisR ?_
  intro p e s m args below meth c s₁ Bd hml0 hP hK
  obtain ⟨rfl, hZ, hh⟩ := hP
  have hx := Bd.exec
  have hby := Bd.bytes
  have hml : c.maxLocals = 3 := hml0
  have hown : s.vm.findClass "com/example/consigliere/consigliere/engine/Rng" = some m.cls := findClass_of_methodNamed Bd.named
  have hnm := (name_of_methodNamed Bd.named Bd.method).1
  have X0 : Stand p l e R3 s m #[(.ref a3_0)] below meth c s₁ [] 0 0 := Stand.of_body Bd
  have e0 : s₁.heap = h0 := by rw [← hh, Bd.state]; rfl
  have N0 := Fr.nil n0
  have pre0 : ∀ t, Steps p.tables e below (s₁.setTop (mkF m 0 #[.val (.ref a3_0), .unset, .unset] [])) t → Steps p.tables e below (s₁.setTop (entryFrame m #[(.ref a3_0)] 3)) t := fun t k => castTop (ef_3 m a3_0) k
  have pre1 : ∀ t, Steps p.tables e below (s₁.setTop (mkF m 2 #[.val (.ref a3_0), .unset, .unset] [(.ref a3_0), (.ref a3_0)])) t → Steps p.tables e below (s₁.setTop (entryFrame m #[(.ref a3_0)] 3)) t := fun t k => pre0 t (by
    refine XS.aloadN X0.here hx rfl (hb hby d3_0) rfl rfl ?_
    show Steps p.tables e below (s₁.setTop (mkF m 1 #[.val (.ref a3_0), .unset, .unset] [(.ref a3_0)])) _
    refine XS.dup X0.here hx rfl (hb hby d3_1) rfl rfl ?_
    show Steps p.tables e below (s₁.setTop (mkF m 2 #[.val (.ref a3_0), .unset, .unset] [(.ref a3_0), (.ref a3_0)])) _
    exact k)
  obtain ⟨T2, X2, e2, st2⟩ := getF X0 hx hZ hown (host := "") (Or.inl (hw _ (List.mem_of_getElem? (i := 9) rfl))) Via.refl e0 F_state_a3_0 (g := (mkF m 2 #[.val (.ref a3_0), .unset, .unset] [(.ref a3_0), (.ref a3_0)])) rfl rfl (hb hby d3_2)
  have pre2 : ∀ t, Steps p.tables e below (T2.setTop (mkF m 5 #[.val (.ref a3_0), .unset, .unset] [(.long w3_state), (.ref a3_0)])) t → Steps p.tables e below (s₁.setTop (entryFrame m #[(.ref a3_0)] 3)) t := fun t k => pre1 t (st2 t k)
  have pre3 : ∀ t, Steps p.tables e below (T2.setTop (mkF m 9 #[.val (.ref a3_0), .unset, .unset] [(.long (w3_state + (-7046029254386353131 : Int64))), (.ref a3_0)])) t → Steps p.tables e below (s₁.setTop (entryFrame m #[(.ref a3_0)] 3)) t := fun t k => pre2 t (by
    refine X2.ldc2Long hx hown (mvT hZ (hw _ (List.mem_of_getElem? (i := 16) rfl))) (g := (mkF m 5 #[.val (.ref a3_0), .unset, .unset] [(.long w3_state), (.ref a3_0)])) rfl (hb hby d3_5) _ ?_
    show Steps p.tables e below (T2.setTop (mkF m 8 #[.val (.ref a3_0), .unset, .unset] [(.long (-7046029254386353131 : Int64)), (.long w3_state), (.ref a3_0)])) _
    refine XS.ladd X2.here hx rfl (hb hby d3_8) rfl ?_
    show Steps p.tables e below (T2.setTop (mkF m 9 #[.val (.ref a3_0), .unset, .unset] [(.long (w3_state + (-7046029254386353131 : Int64))), (.ref a3_0)])) _
    exact k)
  obtain ⟨T4, h4, X4, e4, W4, st4⟩ := putF X2 hx hZ hown (host := "") (Or.inl (hw _ (List.mem_of_getElem? (i := 9) rfl))) Via.refl e2 F_state_a3_0 E_a3_0 (Or.inl (hw _ (List.mem_of_getElem? (i := 10) rfl))) (hw _ (List.mem_of_getElem? (i := 1) rfl)) (ty := .long) (by decide) rfl rfl (g := (mkF m 9 #[.val (.ref a3_0), .unset, .unset] [(.long (v3_9 w3_state)), (.ref a3_0)])) rfl rfl (hb hby d3_9)
  have Ex5 : Exa Z h4 a3_0 "com/example/consigliere/consigliere/engine/Rng" := E_a3_0.wr W4
  have N4 := Fr.snoc X4 N0 g_a3_0
  have Z4 : n0 ≤ h4.size := Nat.le_trans Z0 (Keep.of_wr W4).1
  have K4 : Keep h0 h4 [a3_0] := (Keep.refl h0 [a3_0]).wr W4 (Or.inl (by simp))
  have F6 : Fld Z h4 a3_0 "com/example/consigliere/consigliere/engine/Rng" "state" "J" (.long (v3_9 w3_state)) := F_state_a3_0.same W4
  have pre4 : ∀ t, Steps p.tables e below (T4.setTop (mkF m 12 #[.val (.ref a3_0), .unset, .unset] [])) t → Steps p.tables e below (s₁.setTop (entryFrame m #[(.ref a3_0)] 3)) t := fun t k => pre3 t (st4 t k)
  have pre7 : ∀ t, Steps p.tables e below (T4.setTop (mkF m 13 #[.val (.ref a3_0), .unset, .unset] [(.ref a3_0)])) t → Steps p.tables e below (s₁.setTop (entryFrame m #[(.ref a3_0)] 3)) t := fun t k => pre4 t (by
    refine XS.aloadN X4.here hx rfl (hb hby d3_12) rfl rfl ?_
    show Steps p.tables e below (T4.setTop (mkF m 13 #[.val (.ref a3_0), .unset, .unset] [(.ref a3_0)])) _
    exact k)
  obtain ⟨T8, X8, e8, st8⟩ := getF X4 hx hZ hown (host := "") (Or.inl (hw _ (List.mem_of_getElem? (i := 9) rfl))) Via.refl e4 F6 (g := (mkF m 13 #[.val (.ref a3_0), .unset, .unset] [(.ref a3_0)])) rfl rfl (hb hby d3_13)
  have pre8 : ∀ t, Steps p.tables e below (T8.setTop (mkF m 16 #[.val (.ref a3_0), .unset, .unset] [(.long (v3_9 w3_state))])) t → Steps p.tables e below (s₁.setTop (entryFrame m #[(.ref a3_0)] 3)) t := fun t k => pre7 t (st8 t k)
  have pre9 : ∀ t, Steps p.tables e below (T8.setTop (mkF m 45 #[.val (.ref a3_0), .val (.long (v3_38 w3_state)), .second] [(.long ((v3_38 w3_state) ^^^ (own_ushrL (v3_38 w3_state) (31 : Int32))))])) t → Steps p.tables e below (s₁.setTop (entryFrame m #[(.ref a3_0)] 3)) t := fun t k => pre8 t (by
    refine XS.lstoreN X8.here hx rfl (hb hby d3_16) rfl (l' := #[.val (.ref a3_0), .val (.long (v3_9 w3_state)), .second]) rfl ?_
    show Steps p.tables e below (T8.setTop (mkF m 17 #[.val (.ref a3_0), .val (.long (v3_9 w3_state)), .second] [])) _
    refine XS.lloadN X8.here hx rfl (hb hby d3_17) rfl ?_
    show Steps p.tables e below (T8.setTop (mkF m 18 #[.val (.ref a3_0), .val (.long (v3_9 w3_state)), .second] [(.long (v3_9 w3_state))])) _
    refine XS.lloadN X8.here hx rfl (hb hby d3_18) rfl ?_
    show Steps p.tables e below (T8.setTop (mkF m 19 #[.val (.ref a3_0), .val (.long (v3_9 w3_state)), .second] [(.long (v3_9 w3_state)), (.long (v3_9 w3_state))])) _
    refine XS.bipush X8.here hx rfl (hb hby d3_19) ?_
    show Steps p.tables e below (T8.setTop (mkF m 21 #[.val (.ref a3_0), .val (.long (v3_9 w3_state)), .second] [(.int (30 : Int32)), (.long (v3_9 w3_state)), (.long (v3_9 w3_state))])) _
    refine XS.lushr X8.here hx rfl (hb hby d3_21) rfl ?_
    show Steps p.tables e below (T8.setTop (mkF m 22 #[.val (.ref a3_0), .val (.long (v3_9 w3_state)), .second] [(.long (own_ushrL (v3_9 w3_state) (30 : Int32))), (.long (v3_9 w3_state))])) _
    refine XS.lxor X8.here hx rfl (hb hby d3_22) rfl ?_
    show Steps p.tables e below (T8.setTop (mkF m 23 #[.val (.ref a3_0), .val (.long (v3_9 w3_state)), .second] [(.long ((v3_9 w3_state) ^^^ (own_ushrL (v3_9 w3_state) (30 : Int32))))])) _
    refine X8.ldc2Long hx hown (mvT hZ (hw _ (List.mem_of_getElem? (i := 17) rfl))) (g := (mkF m 23 #[.val (.ref a3_0), .val (.long (v3_9 w3_state)), .second] [(.long ((v3_9 w3_state) ^^^ (own_ushrL (v3_9 w3_state) (30 : Int32))))])) rfl (hb hby d3_23) _ ?_
    show Steps p.tables e below (T8.setTop (mkF m 26 #[.val (.ref a3_0), .val (.long (v3_9 w3_state)), .second] [(.long (-4658895280553007687 : Int64)), (.long ((v3_9 w3_state) ^^^ (own_ushrL (v3_9 w3_state) (30 : Int32))))])) _
    refine XS.lmul X8.here hx rfl (hb hby d3_26) rfl ?_
    show Steps p.tables e below (T8.setTop (mkF m 27 #[.val (.ref a3_0), .val (.long (v3_9 w3_state)), .second] [(.long (((v3_9 w3_state) ^^^ (own_ushrL (v3_9 w3_state) (30 : Int32))) * (-4658895280553007687 : Int64)))])) _
    show Steps p.tables e below (T8.setTop (mkF m 27 #[.val (.ref a3_0), .val (.long (v3_9 w3_state)), .second] [(.long (v3_27 w3_state))])) _
    refine XS.lstoreN X8.here hx rfl (hb hby d3_27) rfl (l' := #[.val (.ref a3_0), .val (.long (v3_27 w3_state)), .second]) rfl ?_
    show Steps p.tables e below (T8.setTop (mkF m 28 #[.val (.ref a3_0), .val (.long (v3_27 w3_state)), .second] [])) _
    refine XS.lloadN X8.here hx rfl (hb hby d3_28) rfl ?_
    show Steps p.tables e below (T8.setTop (mkF m 29 #[.val (.ref a3_0), .val (.long (v3_27 w3_state)), .second] [(.long (v3_27 w3_state))])) _
    refine XS.lloadN X8.here hx rfl (hb hby d3_29) rfl ?_
    show Steps p.tables e below (T8.setTop (mkF m 30 #[.val (.ref a3_0), .val (.long (v3_27 w3_state)), .second] [(.long (v3_27 w3_state)), (.long (v3_27 w3_state))])) _
    refine XS.bipush X8.here hx rfl (hb hby d3_30) ?_
    show Steps p.tables e below (T8.setTop (mkF m 32 #[.val (.ref a3_0), .val (.long (v3_27 w3_state)), .second] [(.int (27 : Int32)), (.long (v3_27 w3_state)), (.long (v3_27 w3_state))])) _
    refine XS.lushr X8.here hx rfl (hb hby d3_32) rfl ?_
    show Steps p.tables e below (T8.setTop (mkF m 33 #[.val (.ref a3_0), .val (.long (v3_27 w3_state)), .second] [(.long (own_ushrL (v3_27 w3_state) (27 : Int32))), (.long (v3_27 w3_state))])) _
    refine XS.lxor X8.here hx rfl (hb hby d3_33) rfl ?_
    show Steps p.tables e below (T8.setTop (mkF m 34 #[.val (.ref a3_0), .val (.long (v3_27 w3_state)), .second] [(.long ((v3_27 w3_state) ^^^ (own_ushrL (v3_27 w3_state) (27 : Int32))))])) _
    refine X8.ldc2Long hx hown (mvT hZ (hw _ (List.mem_of_getElem? (i := 18) rfl))) (g := (mkF m 34 #[.val (.ref a3_0), .val (.long (v3_27 w3_state)), .second] [(.long ((v3_27 w3_state) ^^^ (own_ushrL (v3_27 w3_state) (27 : Int32))))])) rfl (hb hby d3_34) _ ?_
    show Steps p.tables e below (T8.setTop (mkF m 37 #[.val (.ref a3_0), .val (.long (v3_27 w3_state)), .second] [(.long (-7723592293110705685 : Int64)), (.long ((v3_27 w3_state) ^^^ (own_ushrL (v3_27 w3_state) (27 : Int32))))])) _
    refine XS.lmul X8.here hx rfl (hb hby d3_37) rfl ?_
    show Steps p.tables e below (T8.setTop (mkF m 38 #[.val (.ref a3_0), .val (.long (v3_27 w3_state)), .second] [(.long (((v3_27 w3_state) ^^^ (own_ushrL (v3_27 w3_state) (27 : Int32))) * (-7723592293110705685 : Int64)))])) _
    show Steps p.tables e below (T8.setTop (mkF m 38 #[.val (.ref a3_0), .val (.long (v3_27 w3_state)), .second] [(.long (v3_38 w3_state))])) _
    refine XS.lstoreN X8.here hx rfl (hb hby d3_38) rfl (l' := #[.val (.ref a3_0), .val (.long (v3_38 w3_state)), .second]) rfl ?_
    show Steps p.tables e below (T8.setTop (mkF m 39 #[.val (.ref a3_0), .val (.long (v3_38 w3_state)), .second] [])) _
    refine XS.lloadN X8.here hx rfl (hb hby d3_39) rfl ?_
    show Steps p.tables e below (T8.setTop (mkF m 40 #[.val (.ref a3_0), .val (.long (v3_38 w3_state)), .second] [(.long (v3_38 w3_state))])) _
    refine XS.lloadN X8.here hx rfl (hb hby d3_40) rfl ?_
    show Steps p.tables e below (T8.setTop (mkF m 41 #[.val (.ref a3_0), .val (.long (v3_38 w3_state)), .second] [(.long (v3_38 w3_state)), (.long (v3_38 w3_state))])) _
    refine XS.bipush X8.here hx rfl (hb hby d3_41) ?_
    show Steps p.tables e below (T8.setTop (mkF m 43 #[.val (.ref a3_0), .val (.long (v3_38 w3_state)), .second] [(.int (31 : Int32)), (.long (v3_38 w3_state)), (.long (v3_38 w3_state))])) _
    refine XS.lushr X8.here hx rfl (hb hby d3_43) rfl ?_
    show Steps p.tables e below (T8.setTop (mkF m 44 #[.val (.ref a3_0), .val (.long (v3_38 w3_state)), .second] [(.long (own_ushrL (v3_38 w3_state) (31 : Int32))), (.long (v3_38 w3_state))])) _
    refine XS.lxor X8.here hx rfl (hb hby d3_44) rfl ?_
    show Steps p.tables e below (T8.setTop (mkF m 45 #[.val (.ref a3_0), .val (.long (v3_38 w3_state)), .second] [(.long ((v3_38 w3_state) ^^^ (own_ushrL (v3_38 w3_state) (31 : Int32))))])) _
    exact k)
  obtain ⟨fs, hr, hrun, hended, hW, hsame⟩ := X8.leave (v := some (.long ((v3_38 w3_state) ^^^ (own_ushrL (v3_38 w3_state) (31 : Int32))))) (fun h => by rw [Bd.returns] at h; cases h)
  refine ⟨_, _, pre9 _ ?_, hrun, hended, _, _, rfl, ?_, ⟨_, rfl⟩, hW, hsame.mono (by decide) (by decide)⟩
  · show Steps p.tables e below (T8.setTop (mkF m 45 #[.val (.ref a3_0), .val (.long (v3_38 w3_state)), .second] [(.long ((v3_38 w3_state) ^^^ (own_ushrL (v3_38 w3_state) (31 : Int32))))])) _
    exact own_retJ X8 hx Bd.returns (hb hby d3_45) hr
  · show Q3 Z a3_0 w3_state h0 n0 _ T8.heap _
    rw [e8]
    exact ⟨rfl, N4, K4, F6⟩
theorem pn_1 : plainName "com/example/consigliere/consigliere/engine/RngNextLongPinLaw" = true := by first | (simp [plainName, overriddenIn]; done) | decide +kernel
theorem d5_0 : decode method_2_code 0 = .ok (.lload_n 0, 1) := by decide +kernel
theorem d5_1 : decode method_2_code 1 = .ok (.lstore_n 2, 1) := by decide +kernel
theorem d5_2 : decode method_2_code 2 = .ok (.lload_n 2, 1) := by decide +kernel
theorem d5_3 : decode method_2_code 3 = .ok (.ldc2_w 7, 3) := by decide +kernel
theorem d5_6 : decode method_2_code 6 = .ok (.lload_n 0, 1) := by decide +kernel
theorem d5_7 : decode method_2_code 7 = .ok (.lload_n 2, 1) := by decide +kernel
theorem d5_8 : decode method_2_code 8 = .ok (.lmul, 1) := by decide +kernel
theorem d5_9 : decode method_2_code 9 = .ok (.lsub, 1) := by decide +kernel
theorem d5_10 : decode method_2_code 10 = .ok (.lmul, 1) := by decide +kernel
theorem d5_11 : decode method_2_code 11 = .ok (.lstore_n 2, 1) := by decide +kernel
theorem d5_12 : decode method_2_code 12 = .ok (.lload_n 2, 1) := by decide +kernel
theorem d5_13 : decode method_2_code 13 = .ok (.ldc2_w 7, 3) := by decide +kernel
theorem d5_16 : decode method_2_code 16 = .ok (.lload_n 0, 1) := by decide +kernel
theorem d5_17 : decode method_2_code 17 = .ok (.lload_n 2, 1) := by decide +kernel
theorem d5_18 : decode method_2_code 18 = .ok (.lmul, 1) := by decide +kernel
theorem d5_19 : decode method_2_code 19 = .ok (.lsub, 1) := by decide +kernel
theorem d5_20 : decode method_2_code 20 = .ok (.lmul, 1) := by decide +kernel
theorem d5_21 : decode method_2_code 21 = .ok (.lstore_n 2, 1) := by decide +kernel
theorem d5_22 : decode method_2_code 22 = .ok (.lload_n 2, 1) := by decide +kernel
theorem d5_23 : decode method_2_code 23 = .ok (.ldc2_w 7, 3) := by decide +kernel
theorem d5_26 : decode method_2_code 26 = .ok (.lload_n 0, 1) := by decide +kernel
theorem d5_27 : decode method_2_code 27 = .ok (.lload_n 2, 1) := by decide +kernel
theorem d5_28 : decode method_2_code 28 = .ok (.lmul, 1) := by decide +kernel
theorem d5_29 : decode method_2_code 29 = .ok (.lsub, 1) := by decide +kernel
theorem d5_30 : decode method_2_code 30 = .ok (.lmul, 1) := by decide +kernel
theorem d5_31 : decode method_2_code 31 = .ok (.lstore_n 2, 1) := by decide +kernel
theorem d5_32 : decode method_2_code 32 = .ok (.lload_n 2, 1) := by decide +kernel
theorem d5_33 : decode method_2_code 33 = .ok (.ldc2_w 7, 3) := by decide +kernel
theorem d5_36 : decode method_2_code 36 = .ok (.lload_n 0, 1) := by decide +kernel
theorem d5_37 : decode method_2_code 37 = .ok (.lload_n 2, 1) := by decide +kernel
theorem d5_38 : decode method_2_code 38 = .ok (.lmul, 1) := by decide +kernel
theorem d5_39 : decode method_2_code 39 = .ok (.lsub, 1) := by decide +kernel
theorem d5_40 : decode method_2_code 40 = .ok (.lmul, 1) := by decide +kernel
theorem d5_41 : decode method_2_code 41 = .ok (.lstore_n 2, 1) := by decide +kernel
theorem d5_42 : decode method_2_code 42 = .ok (.lload_n 2, 1) := by decide +kernel
theorem d5_43 : decode method_2_code 43 = .ok (.ldc2_w 7, 3) := by decide +kernel
theorem d5_46 : decode method_2_code 46 = .ok (.lload_n 0, 1) := by decide +kernel
theorem d5_47 : decode method_2_code 47 = .ok (.lload_n 2, 1) := by decide +kernel
theorem d5_48 : decode method_2_code 48 = .ok (.lmul, 1) := by decide +kernel
theorem d5_49 : decode method_2_code 49 = .ok (.lsub, 1) := by decide +kernel
theorem d5_50 : decode method_2_code 50 = .ok (.lmul, 1) := by decide +kernel
theorem d5_51 : decode method_2_code 51 = .ok (.lstore_n 2, 1) := by decide +kernel
theorem d5_52 : decode method_2_code 52 = .ok (.lload_n 2, 1) := by decide +kernel
theorem d5_53 : decode method_2_code 53 = .ok (.lreturn, 1) := by decide +kernel
theorem ef_5 (m : MethodId) (x0 : Int64) : entryFrame m #[(.long x0)] 4 = mkF m 0 #[.val (.long x0), .second, .unset, .unset] [] := by first | (simp [entryFrame, mkF, argsToLocals, Value.category]; done) | rfl
abbrev R5 : Room := { frames := 0, cells := 0, slots := 0, locals := 0 }
def v5_11 (p5_0 : Int64) : Int64 := (p5_0 * ((2 : Int64) - (p5_0 * p5_0)))
def v5_21 (p5_0 : Int64) : Int64 := ((v5_11 p5_0) * ((2 : Int64) - (p5_0 * (v5_11 p5_0))))
def v5_31 (p5_0 : Int64) : Int64 := ((v5_21 p5_0) * ((2 : Int64) - (p5_0 * (v5_21 p5_0))))
def v5_41 (p5_0 : Int64) : Int64 := ((v5_31 p5_0) * ((2 : Int64) - (p5_0 * (v5_31 p5_0))))
def v5_51 (p5_0 : Int64) : Int64 := ((v5_41 p5_0) * ((2 : Int64) - (p5_0 * (v5_41 p5_0))))
def r5 (p5_0 : Int64) : Int64 := (v5_51 p5_0)
def Q5 (Z : State) (p5_0 : Int64) (h0 : Heap) (n0 : Nat) (v : Option Value) (h : Heap) (L : List Loc) : Prop := v = some (.long (r5 p5_0)) ∧ Fr n0 L ∧ h = h0
set_option maxRecDepth 65536 in
set_option maxHeartbeats 40000000 in
theorem rm5 (l : Launch) (Z : State) (a0 : Array Value) (hw : ∀ d ∈ tables_1, d.before a0 Z = true) (ws : List Jvm.Cond) (p5_0 : Int64) (h0 : Heap) (n0 : Nat) (Z0 : n0 ≤ h0.size) :
    MetFree l (⟨"com/example/consigliere/consigliere/engine/RngNextLongPinLaw", "inverse", "(J)J"⟩ : MethodName) (head1 (Jvm.Cond.code (⟨"com/example/consigliere/consigliere/engine/RngNextLongPinLaw", "inverse", "(J)J"⟩ : MethodName) method_2_code 4 (some .long) :: ws) R5) (fun a U => a = #[(.long p5_0)] ∧ Z.Warmed39 U.vm ∧ U.heap = h0) (fun _ _ _ _ _ => True) (fun _ U o U' => ∃ v L, o = .returned v ∧ Q5 Z p5_0 h0 n0 v U'.heap L ∧ FrameEnd U o U' L R5.cells R5.slots) := by
  refine MetFree.of_bodySF (plainFor_of_name pn_1) hisR ?_
  intro p e s m args below meth c s₁ Bd hml0 hP hK
  obtain ⟨rfl, hZ, hh⟩ := hP
  have hx := Bd.exec
  have hby := Bd.bytes
  have hml : c.maxLocals = 4 := hml0
  have hown : s.vm.findClass "com/example/consigliere/consigliere/engine/RngNextLongPinLaw" = some m.cls := findClass_of_methodNamed Bd.named
  have hnm := (name_of_methodNamed Bd.named Bd.method).1
  have X0 : Stand p l e R5 s m #[(.long p5_0)] below meth c s₁ [] 0 0 := Stand.of_body Bd
  have e0 : s₁.heap = h0 := by rw [← hh, Bd.state]; rfl
  have N0 := Fr.nil n0
  have pre0 : ∀ t, Steps p.tables e below (s₁.setTop (mkF m 0 #[.val (.long p5_0), .second, .unset, .unset] [])) t → Steps p.tables e below (s₁.setTop (entryFrame m #[(.long p5_0)] 4)) t := fun t k => castTop (ef_5 m p5_0) k
  have pre1 : ∀ t, Steps p.tables e below (s₁.setTop (mkF m 53 #[.val (.long p5_0), .second, .val (.long (v5_51 p5_0)), .second] [(.long (v5_51 p5_0))])) t → Steps p.tables e below (s₁.setTop (entryFrame m #[(.long p5_0)] 4)) t := fun t k => pre0 t (by
    refine XS.lloadN X0.here hx rfl (hb hby d5_0) rfl ?_
    show Steps p.tables e below (s₁.setTop (mkF m 1 #[.val (.long p5_0), .second, .unset, .unset] [(.long p5_0)])) _
    refine XS.lstoreN X0.here hx rfl (hb hby d5_1) rfl (l' := #[.val (.long p5_0), .second, .val (.long p5_0), .second]) rfl ?_
    show Steps p.tables e below (s₁.setTop (mkF m 2 #[.val (.long p5_0), .second, .val (.long p5_0), .second] [])) _
    refine XS.lloadN X0.here hx rfl (hb hby d5_2) rfl ?_
    show Steps p.tables e below (s₁.setTop (mkF m 3 #[.val (.long p5_0), .second, .val (.long p5_0), .second] [(.long p5_0)])) _
    refine X0.ldc2Long hx hown (mvT hZ (hw _ (List.mem_of_getElem? (i := 27) rfl))) (g := (mkF m 3 #[.val (.long p5_0), .second, .val (.long p5_0), .second] [(.long p5_0)])) rfl (hb hby d5_3) _ ?_
    show Steps p.tables e below (s₁.setTop (mkF m 6 #[.val (.long p5_0), .second, .val (.long p5_0), .second] [(.long (2 : Int64)), (.long p5_0)])) _
    refine XS.lloadN X0.here hx rfl (hb hby d5_6) rfl ?_
    show Steps p.tables e below (s₁.setTop (mkF m 7 #[.val (.long p5_0), .second, .val (.long p5_0), .second] [(.long p5_0), (.long (2 : Int64)), (.long p5_0)])) _
    refine XS.lloadN X0.here hx rfl (hb hby d5_7) rfl ?_
    show Steps p.tables e below (s₁.setTop (mkF m 8 #[.val (.long p5_0), .second, .val (.long p5_0), .second] [(.long p5_0), (.long p5_0), (.long (2 : Int64)), (.long p5_0)])) _
    refine XS.lmul X0.here hx rfl (hb hby d5_8) rfl ?_
    show Steps p.tables e below (s₁.setTop (mkF m 9 #[.val (.long p5_0), .second, .val (.long p5_0), .second] [(.long (p5_0 * p5_0)), (.long (2 : Int64)), (.long p5_0)])) _
    refine XS.lsub X0.here hx rfl (hb hby d5_9) rfl ?_
    show Steps p.tables e below (s₁.setTop (mkF m 10 #[.val (.long p5_0), .second, .val (.long p5_0), .second] [(.long ((2 : Int64) - (p5_0 * p5_0))), (.long p5_0)])) _
    refine XS.lmul X0.here hx rfl (hb hby d5_10) rfl ?_
    show Steps p.tables e below (s₁.setTop (mkF m 11 #[.val (.long p5_0), .second, .val (.long p5_0), .second] [(.long (p5_0 * ((2 : Int64) - (p5_0 * p5_0))))])) _
    show Steps p.tables e below (s₁.setTop (mkF m 11 #[.val (.long p5_0), .second, .val (.long p5_0), .second] [(.long (v5_11 p5_0))])) _
    refine XS.lstoreN X0.here hx rfl (hb hby d5_11) rfl (l' := #[.val (.long p5_0), .second, .val (.long (v5_11 p5_0)), .second]) rfl ?_
    show Steps p.tables e below (s₁.setTop (mkF m 12 #[.val (.long p5_0), .second, .val (.long (v5_11 p5_0)), .second] [])) _
    refine XS.lloadN X0.here hx rfl (hb hby d5_12) rfl ?_
    show Steps p.tables e below (s₁.setTop (mkF m 13 #[.val (.long p5_0), .second, .val (.long (v5_11 p5_0)), .second] [(.long (v5_11 p5_0))])) _
    refine X0.ldc2Long hx hown (mvT hZ (hw _ (List.mem_of_getElem? (i := 27) rfl))) (g := (mkF m 13 #[.val (.long p5_0), .second, .val (.long (v5_11 p5_0)), .second] [(.long (v5_11 p5_0))])) rfl (hb hby d5_13) _ ?_
    show Steps p.tables e below (s₁.setTop (mkF m 16 #[.val (.long p5_0), .second, .val (.long (v5_11 p5_0)), .second] [(.long (2 : Int64)), (.long (v5_11 p5_0))])) _
    refine XS.lloadN X0.here hx rfl (hb hby d5_16) rfl ?_
    show Steps p.tables e below (s₁.setTop (mkF m 17 #[.val (.long p5_0), .second, .val (.long (v5_11 p5_0)), .second] [(.long p5_0), (.long (2 : Int64)), (.long (v5_11 p5_0))])) _
    refine XS.lloadN X0.here hx rfl (hb hby d5_17) rfl ?_
    show Steps p.tables e below (s₁.setTop (mkF m 18 #[.val (.long p5_0), .second, .val (.long (v5_11 p5_0)), .second] [(.long (v5_11 p5_0)), (.long p5_0), (.long (2 : Int64)), (.long (v5_11 p5_0))])) _
    refine XS.lmul X0.here hx rfl (hb hby d5_18) rfl ?_
    show Steps p.tables e below (s₁.setTop (mkF m 19 #[.val (.long p5_0), .second, .val (.long (v5_11 p5_0)), .second] [(.long (p5_0 * (v5_11 p5_0))), (.long (2 : Int64)), (.long (v5_11 p5_0))])) _
    refine XS.lsub X0.here hx rfl (hb hby d5_19) rfl ?_
    show Steps p.tables e below (s₁.setTop (mkF m 20 #[.val (.long p5_0), .second, .val (.long (v5_11 p5_0)), .second] [(.long ((2 : Int64) - (p5_0 * (v5_11 p5_0)))), (.long (v5_11 p5_0))])) _
    refine XS.lmul X0.here hx rfl (hb hby d5_20) rfl ?_
    show Steps p.tables e below (s₁.setTop (mkF m 21 #[.val (.long p5_0), .second, .val (.long (v5_11 p5_0)), .second] [(.long ((v5_11 p5_0) * ((2 : Int64) - (p5_0 * (v5_11 p5_0)))))])) _
    show Steps p.tables e below (s₁.setTop (mkF m 21 #[.val (.long p5_0), .second, .val (.long (v5_11 p5_0)), .second] [(.long (v5_21 p5_0))])) _
    refine XS.lstoreN X0.here hx rfl (hb hby d5_21) rfl (l' := #[.val (.long p5_0), .second, .val (.long (v5_21 p5_0)), .second]) rfl ?_
    show Steps p.tables e below (s₁.setTop (mkF m 22 #[.val (.long p5_0), .second, .val (.long (v5_21 p5_0)), .second] [])) _
    refine XS.lloadN X0.here hx rfl (hb hby d5_22) rfl ?_
    show Steps p.tables e below (s₁.setTop (mkF m 23 #[.val (.long p5_0), .second, .val (.long (v5_21 p5_0)), .second] [(.long (v5_21 p5_0))])) _
    refine X0.ldc2Long hx hown (mvT hZ (hw _ (List.mem_of_getElem? (i := 27) rfl))) (g := (mkF m 23 #[.val (.long p5_0), .second, .val (.long (v5_21 p5_0)), .second] [(.long (v5_21 p5_0))])) rfl (hb hby d5_23) _ ?_
    show Steps p.tables e below (s₁.setTop (mkF m 26 #[.val (.long p5_0), .second, .val (.long (v5_21 p5_0)), .second] [(.long (2 : Int64)), (.long (v5_21 p5_0))])) _
    refine XS.lloadN X0.here hx rfl (hb hby d5_26) rfl ?_
    show Steps p.tables e below (s₁.setTop (mkF m 27 #[.val (.long p5_0), .second, .val (.long (v5_21 p5_0)), .second] [(.long p5_0), (.long (2 : Int64)), (.long (v5_21 p5_0))])) _
    refine XS.lloadN X0.here hx rfl (hb hby d5_27) rfl ?_
    show Steps p.tables e below (s₁.setTop (mkF m 28 #[.val (.long p5_0), .second, .val (.long (v5_21 p5_0)), .second] [(.long (v5_21 p5_0)), (.long p5_0), (.long (2 : Int64)), (.long (v5_21 p5_0))])) _
    refine XS.lmul X0.here hx rfl (hb hby d5_28) rfl ?_
    show Steps p.tables e below (s₁.setTop (mkF m 29 #[.val (.long p5_0), .second, .val (.long (v5_21 p5_0)), .second] [(.long (p5_0 * (v5_21 p5_0))), (.long (2 : Int64)), (.long (v5_21 p5_0))])) _
    refine XS.lsub X0.here hx rfl (hb hby d5_29) rfl ?_
    show Steps p.tables e below (s₁.setTop (mkF m 30 #[.val (.long p5_0), .second, .val (.long (v5_21 p5_0)), .second] [(.long ((2 : Int64) - (p5_0 * (v5_21 p5_0)))), (.long (v5_21 p5_0))])) _
    refine XS.lmul X0.here hx rfl (hb hby d5_30) rfl ?_
    show Steps p.tables e below (s₁.setTop (mkF m 31 #[.val (.long p5_0), .second, .val (.long (v5_21 p5_0)), .second] [(.long ((v5_21 p5_0) * ((2 : Int64) - (p5_0 * (v5_21 p5_0)))))])) _
    show Steps p.tables e below (s₁.setTop (mkF m 31 #[.val (.long p5_0), .second, .val (.long (v5_21 p5_0)), .second] [(.long (v5_31 p5_0))])) _
    refine XS.lstoreN X0.here hx rfl (hb hby d5_31) rfl (l' := #[.val (.long p5_0), .second, .val (.long (v5_31 p5_0)), .second]) rfl ?_
    show Steps p.tables e below (s₁.setTop (mkF m 32 #[.val (.long p5_0), .second, .val (.long (v5_31 p5_0)), .second] [])) _
    refine XS.lloadN X0.here hx rfl (hb hby d5_32) rfl ?_
    show Steps p.tables e below (s₁.setTop (mkF m 33 #[.val (.long p5_0), .second, .val (.long (v5_31 p5_0)), .second] [(.long (v5_31 p5_0))])) _
    refine X0.ldc2Long hx hown (mvT hZ (hw _ (List.mem_of_getElem? (i := 27) rfl))) (g := (mkF m 33 #[.val (.long p5_0), .second, .val (.long (v5_31 p5_0)), .second] [(.long (v5_31 p5_0))])) rfl (hb hby d5_33) _ ?_
    show Steps p.tables e below (s₁.setTop (mkF m 36 #[.val (.long p5_0), .second, .val (.long (v5_31 p5_0)), .second] [(.long (2 : Int64)), (.long (v5_31 p5_0))])) _
    refine XS.lloadN X0.here hx rfl (hb hby d5_36) rfl ?_
    show Steps p.tables e below (s₁.setTop (mkF m 37 #[.val (.long p5_0), .second, .val (.long (v5_31 p5_0)), .second] [(.long p5_0), (.long (2 : Int64)), (.long (v5_31 p5_0))])) _
    refine XS.lloadN X0.here hx rfl (hb hby d5_37) rfl ?_
    show Steps p.tables e below (s₁.setTop (mkF m 38 #[.val (.long p5_0), .second, .val (.long (v5_31 p5_0)), .second] [(.long (v5_31 p5_0)), (.long p5_0), (.long (2 : Int64)), (.long (v5_31 p5_0))])) _
    refine XS.lmul X0.here hx rfl (hb hby d5_38) rfl ?_
    show Steps p.tables e below (s₁.setTop (mkF m 39 #[.val (.long p5_0), .second, .val (.long (v5_31 p5_0)), .second] [(.long (p5_0 * (v5_31 p5_0))), (.long (2 : Int64)), (.long (v5_31 p5_0))])) _
    refine XS.lsub X0.here hx rfl (hb hby d5_39) rfl ?_
    show Steps p.tables e below (s₁.setTop (mkF m 40 #[.val (.long p5_0), .second, .val (.long (v5_31 p5_0)), .second] [(.long ((2 : Int64) - (p5_0 * (v5_31 p5_0)))), (.long (v5_31 p5_0))])) _
    refine XS.lmul X0.here hx rfl (hb hby d5_40) rfl ?_
    show Steps p.tables e below (s₁.setTop (mkF m 41 #[.val (.long p5_0), .second, .val (.long (v5_31 p5_0)), .second] [(.long ((v5_31 p5_0) * ((2 : Int64) - (p5_0 * (v5_31 p5_0)))))])) _
    show Steps p.tables e below (s₁.setTop (mkF m 41 #[.val (.long p5_0), .second, .val (.long (v5_31 p5_0)), .second] [(.long (v5_41 p5_0))])) _
    refine XS.lstoreN X0.here hx rfl (hb hby d5_41) rfl (l' := #[.val (.long p5_0), .second, .val (.long (v5_41 p5_0)), .second]) rfl ?_
    show Steps p.tables e below (s₁.setTop (mkF m 42 #[.val (.long p5_0), .second, .val (.long (v5_41 p5_0)), .second] [])) _
    refine XS.lloadN X0.here hx rfl (hb hby d5_42) rfl ?_
    show Steps p.tables e below (s₁.setTop (mkF m 43 #[.val (.long p5_0), .second, .val (.long (v5_41 p5_0)), .second] [(.long (v5_41 p5_0))])) _
    refine X0.ldc2Long hx hown (mvT hZ (hw _ (List.mem_of_getElem? (i := 27) rfl))) (g := (mkF m 43 #[.val (.long p5_0), .second, .val (.long (v5_41 p5_0)), .second] [(.long (v5_41 p5_0))])) rfl (hb hby d5_43) _ ?_
    show Steps p.tables e below (s₁.setTop (mkF m 46 #[.val (.long p5_0), .second, .val (.long (v5_41 p5_0)), .second] [(.long (2 : Int64)), (.long (v5_41 p5_0))])) _
    refine XS.lloadN X0.here hx rfl (hb hby d5_46) rfl ?_
    show Steps p.tables e below (s₁.setTop (mkF m 47 #[.val (.long p5_0), .second, .val (.long (v5_41 p5_0)), .second] [(.long p5_0), (.long (2 : Int64)), (.long (v5_41 p5_0))])) _
    refine XS.lloadN X0.here hx rfl (hb hby d5_47) rfl ?_
    show Steps p.tables e below (s₁.setTop (mkF m 48 #[.val (.long p5_0), .second, .val (.long (v5_41 p5_0)), .second] [(.long (v5_41 p5_0)), (.long p5_0), (.long (2 : Int64)), (.long (v5_41 p5_0))])) _
    refine XS.lmul X0.here hx rfl (hb hby d5_48) rfl ?_
    show Steps p.tables e below (s₁.setTop (mkF m 49 #[.val (.long p5_0), .second, .val (.long (v5_41 p5_0)), .second] [(.long (p5_0 * (v5_41 p5_0))), (.long (2 : Int64)), (.long (v5_41 p5_0))])) _
    refine XS.lsub X0.here hx rfl (hb hby d5_49) rfl ?_
    show Steps p.tables e below (s₁.setTop (mkF m 50 #[.val (.long p5_0), .second, .val (.long (v5_41 p5_0)), .second] [(.long ((2 : Int64) - (p5_0 * (v5_41 p5_0)))), (.long (v5_41 p5_0))])) _
    refine XS.lmul X0.here hx rfl (hb hby d5_50) rfl ?_
    show Steps p.tables e below (s₁.setTop (mkF m 51 #[.val (.long p5_0), .second, .val (.long (v5_41 p5_0)), .second] [(.long ((v5_41 p5_0) * ((2 : Int64) - (p5_0 * (v5_41 p5_0)))))])) _
    show Steps p.tables e below (s₁.setTop (mkF m 51 #[.val (.long p5_0), .second, .val (.long (v5_41 p5_0)), .second] [(.long (v5_51 p5_0))])) _
    refine XS.lstoreN X0.here hx rfl (hb hby d5_51) rfl (l' := #[.val (.long p5_0), .second, .val (.long (v5_51 p5_0)), .second]) rfl ?_
    show Steps p.tables e below (s₁.setTop (mkF m 52 #[.val (.long p5_0), .second, .val (.long (v5_51 p5_0)), .second] [])) _
    refine XS.lloadN X0.here hx rfl (hb hby d5_52) rfl ?_
    show Steps p.tables e below (s₁.setTop (mkF m 53 #[.val (.long p5_0), .second, .val (.long (v5_51 p5_0)), .second] [(.long (v5_51 p5_0))])) _
    exact k)
  obtain ⟨fs, hr, hrun, hended, hW, hsame⟩ := X0.leave (v := some (.long (v5_51 p5_0))) (fun h => by rw [Bd.returns] at h; cases h)
  refine ⟨_, _, pre1 _ ?_, hrun, hended, _, _, rfl, ?_, ⟨_, rfl⟩, hW, hsame.mono (by decide) (by decide)⟩
  · show Steps p.tables e below (s₁.setTop (mkF m 53 #[.val (.long p5_0), .second, .val (.long (v5_51 p5_0)), .second] [(.long (v5_51 p5_0))])) _
    exact own_retJ X0 hx Bd.returns (hb hby d5_53) hr
  · show Q5 Z p5_0 h0 n0 _ s₁.heap _
    rw [e0]
    exact ⟨rfl, N0, rfl⟩
theorem pd_0 : parseMethodDescriptor "(J)J" = some ⟨[.long], some .long⟩ := by decide +kernel
theorem d4_0 : decode method_3_code 0 = .ok (.lload_n 0, 1) := by decide +kernel
theorem d4_1 : decode method_3_code 1 = .ok (.lload_n 0, 1) := by decide +kernel
theorem d4_2 : decode method_3_code 2 = .ok (.bipush 31, 2) := by decide +kernel
theorem d4_4 : decode method_3_code 4 = .ok (.lushr, 1) := by decide +kernel
theorem d4_5 : decode method_3_code 5 = .ok (.lxor, 1) := by decide +kernel
theorem d4_6 : decode method_3_code 6 = .ok (.lload_n 0, 1) := by decide +kernel
theorem d4_7 : decode method_3_code 7 = .ok (.bipush 62, 2) := by decide +kernel
theorem d4_9 : decode method_3_code 9 = .ok (.lushr, 1) := by decide +kernel
theorem d4_10 : decode method_3_code 10 = .ok (.lxor, 1) := by decide +kernel
theorem d4_11 : decode method_3_code 11 = .ok (.lstore_n 2, 1) := by decide +kernel
theorem d4_12 : decode method_3_code 12 = .ok (.lload_n 2, 1) := by decide +kernel
theorem d4_13 : decode method_3_code 13 = .ok (.ldc2_w 11, 3) := by decide +kernel
theorem d4_16 : decode method_3_code 16 = .ok (.invokestatic 13, 3) := by decide +kernel
theorem d4_19 : decode method_3_code 19 = .ok (.lmul, 1) := by decide +kernel
theorem d4_20 : decode method_3_code 20 = .ok (.lstore 4, 2) := by decide +kernel
theorem d4_22 : decode method_3_code 22 = .ok (.lload 4, 2) := by decide +kernel
theorem d4_24 : decode method_3_code 24 = .ok (.lload 4, 2) := by decide +kernel
theorem d4_26 : decode method_3_code 26 = .ok (.bipush 27, 2) := by decide +kernel
theorem d4_28 : decode method_3_code 28 = .ok (.lushr, 1) := by decide +kernel
theorem d4_29 : decode method_3_code 29 = .ok (.lxor, 1) := by decide +kernel
theorem d4_30 : decode method_3_code 30 = .ok (.lload 4, 2) := by decide +kernel
theorem d4_32 : decode method_3_code 32 = .ok (.bipush 54, 2) := by decide +kernel
theorem d4_34 : decode method_3_code 34 = .ok (.lushr, 1) := by decide +kernel
theorem d4_35 : decode method_3_code 35 = .ok (.lxor, 1) := by decide +kernel
theorem d4_36 : decode method_3_code 36 = .ok (.lstore 6, 2) := by decide +kernel
theorem d4_38 : decode method_3_code 38 = .ok (.lload 6, 2) := by decide +kernel
theorem d4_40 : decode method_3_code 40 = .ok (.ldc2_w 17, 3) := by decide +kernel
theorem d4_43 : decode method_3_code 43 = .ok (.invokestatic 13, 3) := by decide +kernel
theorem d4_46 : decode method_3_code 46 = .ok (.lmul, 1) := by decide +kernel
theorem d4_47 : decode method_3_code 47 = .ok (.lstore 8, 2) := by decide +kernel
theorem d4_49 : decode method_3_code 49 = .ok (.lload 8, 2) := by decide +kernel
theorem d4_51 : decode method_3_code 51 = .ok (.lload 8, 2) := by decide +kernel
theorem d4_53 : decode method_3_code 53 = .ok (.bipush 30, 2) := by decide +kernel
theorem d4_55 : decode method_3_code 55 = .ok (.lushr, 1) := by decide +kernel
theorem d4_56 : decode method_3_code 56 = .ok (.lxor, 1) := by decide +kernel
theorem d4_57 : decode method_3_code 57 = .ok (.lload 8, 2) := by decide +kernel
theorem d4_59 : decode method_3_code 59 = .ok (.bipush 60, 2) := by decide +kernel
theorem d4_61 : decode method_3_code 61 = .ok (.lushr, 1) := by decide +kernel
theorem d4_62 : decode method_3_code 62 = .ok (.lxor, 1) := by decide +kernel
theorem d4_63 : decode method_3_code 63 = .ok (.lreturn, 1) := by decide +kernel
theorem ef_4 (m : MethodId) (x0 : Int64) : entryFrame m #[(.long x0)] 10 = mkF m 0 #[.val (.long x0), .second, .unset, .unset, .unset, .unset, .unset, .unset, .unset, .unset] [] := by first | (simp [entryFrame, mkF, argsToLocals, Value.category]; done) | rfl
abbrev R4 : Room := { frames := 1, cells := 0, slots := 0, locals := 17 }
def v4_11 (p4_0 : Int64) : Int64 := ((p4_0 ^^^ (own_ushrL p4_0 (31 : Int32))) ^^^ (own_ushrL p4_0 (62 : Int32)))
def v4_20 (p4_0 : Int64) : Int64 := ((v4_11 p4_0) * (r5 (-7723592293110705685 : Int64)))
def v4_36 (p4_0 : Int64) : Int64 := (((v4_20 p4_0) ^^^ (own_ushrL (v4_20 p4_0) (27 : Int32))) ^^^ (own_ushrL (v4_20 p4_0) (54 : Int32)))
def v4_47 (p4_0 : Int64) : Int64 := ((v4_36 p4_0) * (r5 (-4658895280553007687 : Int64)))
def r4 (p4_0 : Int64) : Int64 := (((v4_47 p4_0) ^^^ (own_ushrL (v4_47 p4_0) (30 : Int32))) ^^^ (own_ushrL (v4_47 p4_0) (60 : Int32)))
def Q4 (Z : State) (p4_0 : Int64) (h0 : Heap) (n0 : Nat) (v : Option Value) (h : Heap) (L : List Loc) : Prop := v = some (.long (r4 p4_0)) ∧ Fr n0 L ∧ h = h0
set_option maxRecDepth 65536 in
set_option maxHeartbeats 40000000 in
theorem rm4 (l : Launch) (Z : State) (a0 : Array Value) (hw : ∀ d ∈ tables_1, d.before a0 Z = true) (ws : List Jvm.Cond) (p4_0 : Int64) (h0 : Heap) (n0 : Nat) (Z0 : n0 ≤ h0.size) :
    MetFree l (⟨"com/example/consigliere/consigliere/engine/RngNextLongPinLaw", "unmix", "(J)J"⟩ : MethodName) (head1 (Jvm.Cond.code (⟨"com/example/consigliere/consigliere/engine/RngNextLongPinLaw", "unmix", "(J)J"⟩ : MethodName) method_3_code 10 (some .long) :: ws) R4) (fun a U => a = #[(.long p4_0)] ∧ Z.Warmed39 U.vm ∧ U.heap = h0) (fun _ _ _ _ _ => True) (fun _ U o U' => ∃ v L, o = .returned v ∧ Q4 Z p4_0 h0 n0 v U'.heap L ∧ FrameEnd U o U' L R4.cells R4.slots) := by
  refine MetFree.of_bodySF (plainFor_of_name pn_1) hisR ?_
  intro p e s m args below meth c s₁ Bd hml0 hP hK
  obtain ⟨rfl, hZ, hh⟩ := hP
  have hx := Bd.exec
  have hby := Bd.bytes
  have hml : c.maxLocals = 10 := hml0
  have hown : s.vm.findClass "com/example/consigliere/consigliere/engine/RngNextLongPinLaw" = some m.cls := findClass_of_methodNamed Bd.named
  have hnm := (name_of_methodNamed Bd.named Bd.method).1
  have X0 : Stand p l e R4 s m #[(.long p4_0)] below meth c s₁ [] 0 0 := Stand.of_body Bd
  have e0 : s₁.heap = h0 := by rw [← hh, Bd.state]; rfl
  have N0 := Fr.nil n0
  have pre0 : ∀ t, Steps p.tables e below (s₁.setTop (mkF m 0 #[.val (.long p4_0), .second, .unset, .unset, .unset, .unset, .unset, .unset, .unset, .unset] [])) t → Steps p.tables e below (s₁.setTop (entryFrame m #[(.long p4_0)] 10)) t := fun t k => castTop (ef_4 m p4_0) k
  have pre1 : ∀ t, Steps p.tables e below (s₁.setTop (mkF m 16 #[.val (.long p4_0), .second, .val (.long (v4_11 p4_0)), .second, .unset, .unset, .unset, .unset, .unset, .unset] [(.long (-7723592293110705685 : Int64)), (.long (v4_11 p4_0))])) t → Steps p.tables e below (s₁.setTop (entryFrame m #[(.long p4_0)] 10)) t := fun t k => pre0 t (by
    refine XS.lloadN X0.here hx rfl (hb hby d4_0) rfl ?_
    show Steps p.tables e below (s₁.setTop (mkF m 1 #[.val (.long p4_0), .second, .unset, .unset, .unset, .unset, .unset, .unset, .unset, .unset] [(.long p4_0)])) _
    refine XS.lloadN X0.here hx rfl (hb hby d4_1) rfl ?_
    show Steps p.tables e below (s₁.setTop (mkF m 2 #[.val (.long p4_0), .second, .unset, .unset, .unset, .unset, .unset, .unset, .unset, .unset] [(.long p4_0), (.long p4_0)])) _
    refine XS.bipush X0.here hx rfl (hb hby d4_2) ?_
    show Steps p.tables e below (s₁.setTop (mkF m 4 #[.val (.long p4_0), .second, .unset, .unset, .unset, .unset, .unset, .unset, .unset, .unset] [(.int (31 : Int32)), (.long p4_0), (.long p4_0)])) _
    refine XS.lushr X0.here hx rfl (hb hby d4_4) rfl ?_
    show Steps p.tables e below (s₁.setTop (mkF m 5 #[.val (.long p4_0), .second, .unset, .unset, .unset, .unset, .unset, .unset, .unset, .unset] [(.long (own_ushrL p4_0 (31 : Int32))), (.long p4_0)])) _
    refine XS.lxor X0.here hx rfl (hb hby d4_5) rfl ?_
    show Steps p.tables e below (s₁.setTop (mkF m 6 #[.val (.long p4_0), .second, .unset, .unset, .unset, .unset, .unset, .unset, .unset, .unset] [(.long (p4_0 ^^^ (own_ushrL p4_0 (31 : Int32))))])) _
    refine XS.lloadN X0.here hx rfl (hb hby d4_6) rfl ?_
    show Steps p.tables e below (s₁.setTop (mkF m 7 #[.val (.long p4_0), .second, .unset, .unset, .unset, .unset, .unset, .unset, .unset, .unset] [(.long p4_0), (.long (p4_0 ^^^ (own_ushrL p4_0 (31 : Int32))))])) _
    refine XS.bipush X0.here hx rfl (hb hby d4_7) ?_
    show Steps p.tables e below (s₁.setTop (mkF m 9 #[.val (.long p4_0), .second, .unset, .unset, .unset, .unset, .unset, .unset, .unset, .unset] [(.int (62 : Int32)), (.long p4_0), (.long (p4_0 ^^^ (own_ushrL p4_0 (31 : Int32))))])) _
    refine XS.lushr X0.here hx rfl (hb hby d4_9) rfl ?_
    show Steps p.tables e below (s₁.setTop (mkF m 10 #[.val (.long p4_0), .second, .unset, .unset, .unset, .unset, .unset, .unset, .unset, .unset] [(.long (own_ushrL p4_0 (62 : Int32))), (.long (p4_0 ^^^ (own_ushrL p4_0 (31 : Int32))))])) _
    refine XS.lxor X0.here hx rfl (hb hby d4_10) rfl ?_
    show Steps p.tables e below (s₁.setTop (mkF m 11 #[.val (.long p4_0), .second, .unset, .unset, .unset, .unset, .unset, .unset, .unset, .unset] [(.long ((p4_0 ^^^ (own_ushrL p4_0 (31 : Int32))) ^^^ (own_ushrL p4_0 (62 : Int32))))])) _
    show Steps p.tables e below (s₁.setTop (mkF m 11 #[.val (.long p4_0), .second, .unset, .unset, .unset, .unset, .unset, .unset, .unset, .unset] [(.long (v4_11 p4_0))])) _
    refine XS.lstoreN X0.here hx rfl (hb hby d4_11) rfl (l' := #[.val (.long p4_0), .second, .val (.long (v4_11 p4_0)), .second, .unset, .unset, .unset, .unset, .unset, .unset]) rfl ?_
    show Steps p.tables e below (s₁.setTop (mkF m 12 #[.val (.long p4_0), .second, .val (.long (v4_11 p4_0)), .second, .unset, .unset, .unset, .unset, .unset, .unset] [])) _
    refine XS.lloadN X0.here hx rfl (hb hby d4_12) rfl ?_
    show Steps p.tables e below (s₁.setTop (mkF m 13 #[.val (.long p4_0), .second, .val (.long (v4_11 p4_0)), .second, .unset, .unset, .unset, .unset, .unset, .unset] [(.long (v4_11 p4_0))])) _
    refine X0.ldc2Long hx hown (mvT hZ (hw _ (List.mem_of_getElem? (i := 23) rfl))) (g := (mkF m 13 #[.val (.long p4_0), .second, .val (.long (v4_11 p4_0)), .second, .unset, .unset, .unset, .unset, .unset, .unset] [(.long (v4_11 p4_0))])) rfl (hb hby d4_13) _ ?_
    show Steps p.tables e below (s₁.setTop (mkF m 16 #[.val (.long p4_0), .second, .val (.long (v4_11 p4_0)), .second, .unset, .unset, .unset, .unset, .unset, .unset] [(.long (-7723592293110705685 : Int64)), (.long (v4_11 p4_0))])) _
    exact k)
  obtain ⟨_, _, ⟨T2, L2, k2, n2⟩, -, X2, ⟨Lc2, hQ2, l2, y2, z2⟩, st2⟩ := Jvm.LawKit.callS X0 hx (y := (⟨"com/example/consigliere/consigliere/engine/RngNextLongPinLaw", "inverse", "(J)J"⟩ : MethodName)) hown (mvT hZ (hw _ (List.mem_of_getElem? (i := 24) rfl))) (mvT hZ (hw _ (List.mem_of_getElem? (i := 25) rfl))) (mvT hZ (hw _ (List.mem_of_getElem? (i := 21) rfl))) (mvT hZ (hw _ (List.mem_of_getElem? (i := 26) rfl))) (by decide) (backOf (W := 2) (rm5 l Z a0 hw [] (-7723592293110705685 : Int64) h0 n0 Z0 ) hZ (hw _ (List.mem_of_getElem? (i := 26) rfl)) (hw _ (List.mem_of_getElem? (i := 21) rfl)) (by decide) (by decide)) (g := (mkF m 16 #[.val (.long p4_0), .second, .val (.long (v4_11 p4_0)), .second, .unset, .unset, .unset, .unset, .unset, .unset] [(.long (-7723592293110705685 : Int64)), (.long (v4_11 p4_0))])) rfl (by rw [hml]; rfl) (argsL := [(.long (-7723592293110705685 : Int64))]) (rest := [(.long (v4_11 p4_0))]) (lenOf pd_0 rfl) rfl (by show 2 * 0 + _ ≤ _; exact Nat.le_of_eq rfl) (hb hby d4_16) (fun _ _ => ⟨rfl, e0, (by decide : 0 + 0 ≤ _), (by decide : 0 + 0 ≤ _)⟩)
  dsimp only [Pt.U, Pt.locs, Pt.cells, Pt.slots] at X2 l2 y2 z2 st2 hQ2
  subst l2 y2 z2
  obtain ⟨rfl, M2, e2⟩ := hQ2
  have N2 := Fr.app N0 M2
  have pre2 : ∀ t, Steps p.tables e below (T2.setTop (mkF m 19 #[.val (.long p4_0), .second, .val (.long (v4_11 p4_0)), .second, .unset, .unset, .unset, .unset, .unset, .unset] [(.long (r5 (-7723592293110705685 : Int64))), (.long (v4_11 p4_0))])) t → Steps p.tables e below (s₁.setTop (entryFrame m #[(.long p4_0)] 10)) t := fun t k => pre1 t (st2 t k)
  have pre3 : ∀ t, Steps p.tables e below (T2.setTop (mkF m 43 #[.val (.long p4_0), .second, .val (.long (v4_11 p4_0)), .second, .val (.long (v4_20 p4_0)), .second, .val (.long (v4_36 p4_0)), .second, .unset, .unset] [(.long (-4658895280553007687 : Int64)), (.long (v4_36 p4_0))])) t → Steps p.tables e below (s₁.setTop (entryFrame m #[(.long p4_0)] 10)) t := fun t k => pre2 t (by
    refine XS.lmul X2.here hx rfl (hb hby d4_19) rfl ?_
    show Steps p.tables e below (T2.setTop (mkF m 20 #[.val (.long p4_0), .second, .val (.long (v4_11 p4_0)), .second, .unset, .unset, .unset, .unset, .unset, .unset] [(.long ((v4_11 p4_0) * (r5 (-7723592293110705685 : Int64))))])) _
    show Steps p.tables e below (T2.setTop (mkF m 20 #[.val (.long p4_0), .second, .val (.long (v4_11 p4_0)), .second, .unset, .unset, .unset, .unset, .unset, .unset] [(.long (v4_20 p4_0))])) _
    refine XS.lstore X2.here hx rfl (hb hby d4_20) rfl (l' := #[.val (.long p4_0), .second, .val (.long (v4_11 p4_0)), .second, .val (.long (v4_20 p4_0)), .second, .unset, .unset, .unset, .unset]) rfl ?_
    show Steps p.tables e below (T2.setTop (mkF m 22 #[.val (.long p4_0), .second, .val (.long (v4_11 p4_0)), .second, .val (.long (v4_20 p4_0)), .second, .unset, .unset, .unset, .unset] [])) _
    refine XS.lload X2.here hx rfl (hb hby d4_22) rfl ?_
    show Steps p.tables e below (T2.setTop (mkF m 24 #[.val (.long p4_0), .second, .val (.long (v4_11 p4_0)), .second, .val (.long (v4_20 p4_0)), .second, .unset, .unset, .unset, .unset] [(.long (v4_20 p4_0))])) _
    refine XS.lload X2.here hx rfl (hb hby d4_24) rfl ?_
    show Steps p.tables e below (T2.setTop (mkF m 26 #[.val (.long p4_0), .second, .val (.long (v4_11 p4_0)), .second, .val (.long (v4_20 p4_0)), .second, .unset, .unset, .unset, .unset] [(.long (v4_20 p4_0)), (.long (v4_20 p4_0))])) _
    refine XS.bipush X2.here hx rfl (hb hby d4_26) ?_
    show Steps p.tables e below (T2.setTop (mkF m 28 #[.val (.long p4_0), .second, .val (.long (v4_11 p4_0)), .second, .val (.long (v4_20 p4_0)), .second, .unset, .unset, .unset, .unset] [(.int (27 : Int32)), (.long (v4_20 p4_0)), (.long (v4_20 p4_0))])) _
    refine XS.lushr X2.here hx rfl (hb hby d4_28) rfl ?_
    show Steps p.tables e below (T2.setTop (mkF m 29 #[.val (.long p4_0), .second, .val (.long (v4_11 p4_0)), .second, .val (.long (v4_20 p4_0)), .second, .unset, .unset, .unset, .unset] [(.long (own_ushrL (v4_20 p4_0) (27 : Int32))), (.long (v4_20 p4_0))])) _
    refine XS.lxor X2.here hx rfl (hb hby d4_29) rfl ?_
    show Steps p.tables e below (T2.setTop (mkF m 30 #[.val (.long p4_0), .second, .val (.long (v4_11 p4_0)), .second, .val (.long (v4_20 p4_0)), .second, .unset, .unset, .unset, .unset] [(.long ((v4_20 p4_0) ^^^ (own_ushrL (v4_20 p4_0) (27 : Int32))))])) _
    refine XS.lload X2.here hx rfl (hb hby d4_30) rfl ?_
    show Steps p.tables e below (T2.setTop (mkF m 32 #[.val (.long p4_0), .second, .val (.long (v4_11 p4_0)), .second, .val (.long (v4_20 p4_0)), .second, .unset, .unset, .unset, .unset] [(.long (v4_20 p4_0)), (.long ((v4_20 p4_0) ^^^ (own_ushrL (v4_20 p4_0) (27 : Int32))))])) _
    refine XS.bipush X2.here hx rfl (hb hby d4_32) ?_
    show Steps p.tables e below (T2.setTop (mkF m 34 #[.val (.long p4_0), .second, .val (.long (v4_11 p4_0)), .second, .val (.long (v4_20 p4_0)), .second, .unset, .unset, .unset, .unset] [(.int (54 : Int32)), (.long (v4_20 p4_0)), (.long ((v4_20 p4_0) ^^^ (own_ushrL (v4_20 p4_0) (27 : Int32))))])) _
    refine XS.lushr X2.here hx rfl (hb hby d4_34) rfl ?_
    show Steps p.tables e below (T2.setTop (mkF m 35 #[.val (.long p4_0), .second, .val (.long (v4_11 p4_0)), .second, .val (.long (v4_20 p4_0)), .second, .unset, .unset, .unset, .unset] [(.long (own_ushrL (v4_20 p4_0) (54 : Int32))), (.long ((v4_20 p4_0) ^^^ (own_ushrL (v4_20 p4_0) (27 : Int32))))])) _
    refine XS.lxor X2.here hx rfl (hb hby d4_35) rfl ?_
    show Steps p.tables e below (T2.setTop (mkF m 36 #[.val (.long p4_0), .second, .val (.long (v4_11 p4_0)), .second, .val (.long (v4_20 p4_0)), .second, .unset, .unset, .unset, .unset] [(.long (((v4_20 p4_0) ^^^ (own_ushrL (v4_20 p4_0) (27 : Int32))) ^^^ (own_ushrL (v4_20 p4_0) (54 : Int32))))])) _
    show Steps p.tables e below (T2.setTop (mkF m 36 #[.val (.long p4_0), .second, .val (.long (v4_11 p4_0)), .second, .val (.long (v4_20 p4_0)), .second, .unset, .unset, .unset, .unset] [(.long (v4_36 p4_0))])) _
    refine XS.lstore X2.here hx rfl (hb hby d4_36) rfl (l' := #[.val (.long p4_0), .second, .val (.long (v4_11 p4_0)), .second, .val (.long (v4_20 p4_0)), .second, .val (.long (v4_36 p4_0)), .second, .unset, .unset]) rfl ?_
    show Steps p.tables e below (T2.setTop (mkF m 38 #[.val (.long p4_0), .second, .val (.long (v4_11 p4_0)), .second, .val (.long (v4_20 p4_0)), .second, .val (.long (v4_36 p4_0)), .second, .unset, .unset] [])) _
    refine XS.lload X2.here hx rfl (hb hby d4_38) rfl ?_
    show Steps p.tables e below (T2.setTop (mkF m 40 #[.val (.long p4_0), .second, .val (.long (v4_11 p4_0)), .second, .val (.long (v4_20 p4_0)), .second, .val (.long (v4_36 p4_0)), .second, .unset, .unset] [(.long (v4_36 p4_0))])) _
    refine X2.ldc2Long hx hown (mvT hZ (hw _ (List.mem_of_getElem? (i := 28) rfl))) (g := (mkF m 40 #[.val (.long p4_0), .second, .val (.long (v4_11 p4_0)), .second, .val (.long (v4_20 p4_0)), .second, .val (.long (v4_36 p4_0)), .second, .unset, .unset] [(.long (v4_36 p4_0))])) rfl (hb hby d4_40) _ ?_
    show Steps p.tables e below (T2.setTop (mkF m 43 #[.val (.long p4_0), .second, .val (.long (v4_11 p4_0)), .second, .val (.long (v4_20 p4_0)), .second, .val (.long (v4_36 p4_0)), .second, .unset, .unset] [(.long (-4658895280553007687 : Int64)), (.long (v4_36 p4_0))])) _
    exact k)
  obtain ⟨_, _, ⟨T4, L4, k4, n4⟩, -, X4, ⟨Lc4, hQ4, l4, y4, z4⟩, st4⟩ := Jvm.LawKit.callS X2 hx (y := (⟨"com/example/consigliere/consigliere/engine/RngNextLongPinLaw", "inverse", "(J)J"⟩ : MethodName)) hown (mvT hZ (hw _ (List.mem_of_getElem? (i := 24) rfl))) (mvT hZ (hw _ (List.mem_of_getElem? (i := 25) rfl))) (mvT hZ (hw _ (List.mem_of_getElem? (i := 21) rfl))) (mvT hZ (hw _ (List.mem_of_getElem? (i := 26) rfl))) (by decide) (backOf (W := 2) (rm5 l Z a0 hw [] (-4658895280553007687 : Int64) h0 n0 Z0 ) hZ (hw _ (List.mem_of_getElem? (i := 26) rfl)) (hw _ (List.mem_of_getElem? (i := 21) rfl)) (by decide) (by decide)) (g := (mkF m 43 #[.val (.long p4_0), .second, .val (.long (v4_11 p4_0)), .second, .val (.long (v4_20 p4_0)), .second, .val (.long (v4_36 p4_0)), .second, .unset, .unset] [(.long (-4658895280553007687 : Int64)), (.long (v4_36 p4_0))])) rfl (by rw [hml]; rfl) (argsL := [(.long (-4658895280553007687 : Int64))]) (rest := [(.long (v4_36 p4_0))]) (lenOf pd_0 rfl) rfl (by show 2 * 0 + _ ≤ _; exact Nat.le_of_eq rfl) (hb hby d4_43) (fun _ _ => ⟨rfl, e2, (by decide : 0 + 0 ≤ _), (by decide : 0 + 0 ≤ _)⟩)
  dsimp only [Pt.U, Pt.locs, Pt.cells, Pt.slots] at X4 l4 y4 z4 st4 hQ4
  subst l4 y4 z4
  obtain ⟨rfl, M4, e4⟩ := hQ4
  have N4 := Fr.app N2 M4
  have pre4 : ∀ t, Steps p.tables e below (T4.setTop (mkF m 46 #[.val (.long p4_0), .second, .val (.long (v4_11 p4_0)), .second, .val (.long (v4_20 p4_0)), .second, .val (.long (v4_36 p4_0)), .second, .unset, .unset] [(.long (r5 (-4658895280553007687 : Int64))), (.long (v4_36 p4_0))])) t → Steps p.tables e below (s₁.setTop (entryFrame m #[(.long p4_0)] 10)) t := fun t k => pre3 t (st4 t k)
  have pre5 : ∀ t, Steps p.tables e below (T4.setTop (mkF m 63 #[.val (.long p4_0), .second, .val (.long (v4_11 p4_0)), .second, .val (.long (v4_20 p4_0)), .second, .val (.long (v4_36 p4_0)), .second, .val (.long (v4_47 p4_0)), .second] [(.long (((v4_47 p4_0) ^^^ (own_ushrL (v4_47 p4_0) (30 : Int32))) ^^^ (own_ushrL (v4_47 p4_0) (60 : Int32))))])) t → Steps p.tables e below (s₁.setTop (entryFrame m #[(.long p4_0)] 10)) t := fun t k => pre4 t (by
    refine XS.lmul X4.here hx rfl (hb hby d4_46) rfl ?_
    show Steps p.tables e below (T4.setTop (mkF m 47 #[.val (.long p4_0), .second, .val (.long (v4_11 p4_0)), .second, .val (.long (v4_20 p4_0)), .second, .val (.long (v4_36 p4_0)), .second, .unset, .unset] [(.long ((v4_36 p4_0) * (r5 (-4658895280553007687 : Int64))))])) _
    show Steps p.tables e below (T4.setTop (mkF m 47 #[.val (.long p4_0), .second, .val (.long (v4_11 p4_0)), .second, .val (.long (v4_20 p4_0)), .second, .val (.long (v4_36 p4_0)), .second, .unset, .unset] [(.long (v4_47 p4_0))])) _
    refine XS.lstore X4.here hx rfl (hb hby d4_47) rfl (l' := #[.val (.long p4_0), .second, .val (.long (v4_11 p4_0)), .second, .val (.long (v4_20 p4_0)), .second, .val (.long (v4_36 p4_0)), .second, .val (.long (v4_47 p4_0)), .second]) rfl ?_
    show Steps p.tables e below (T4.setTop (mkF m 49 #[.val (.long p4_0), .second, .val (.long (v4_11 p4_0)), .second, .val (.long (v4_20 p4_0)), .second, .val (.long (v4_36 p4_0)), .second, .val (.long (v4_47 p4_0)), .second] [])) _
    refine XS.lload X4.here hx rfl (hb hby d4_49) rfl ?_
    show Steps p.tables e below (T4.setTop (mkF m 51 #[.val (.long p4_0), .second, .val (.long (v4_11 p4_0)), .second, .val (.long (v4_20 p4_0)), .second, .val (.long (v4_36 p4_0)), .second, .val (.long (v4_47 p4_0)), .second] [(.long (v4_47 p4_0))])) _
    refine XS.lload X4.here hx rfl (hb hby d4_51) rfl ?_
    show Steps p.tables e below (T4.setTop (mkF m 53 #[.val (.long p4_0), .second, .val (.long (v4_11 p4_0)), .second, .val (.long (v4_20 p4_0)), .second, .val (.long (v4_36 p4_0)), .second, .val (.long (v4_47 p4_0)), .second] [(.long (v4_47 p4_0)), (.long (v4_47 p4_0))])) _
    refine XS.bipush X4.here hx rfl (hb hby d4_53) ?_
    show Steps p.tables e below (T4.setTop (mkF m 55 #[.val (.long p4_0), .second, .val (.long (v4_11 p4_0)), .second, .val (.long (v4_20 p4_0)), .second, .val (.long (v4_36 p4_0)), .second, .val (.long (v4_47 p4_0)), .second] [(.int (30 : Int32)), (.long (v4_47 p4_0)), (.long (v4_47 p4_0))])) _
    refine XS.lushr X4.here hx rfl (hb hby d4_55) rfl ?_
    show Steps p.tables e below (T4.setTop (mkF m 56 #[.val (.long p4_0), .second, .val (.long (v4_11 p4_0)), .second, .val (.long (v4_20 p4_0)), .second, .val (.long (v4_36 p4_0)), .second, .val (.long (v4_47 p4_0)), .second] [(.long (own_ushrL (v4_47 p4_0) (30 : Int32))), (.long (v4_47 p4_0))])) _
    refine XS.lxor X4.here hx rfl (hb hby d4_56) rfl ?_
    show Steps p.tables e below (T4.setTop (mkF m 57 #[.val (.long p4_0), .second, .val (.long (v4_11 p4_0)), .second, .val (.long (v4_20 p4_0)), .second, .val (.long (v4_36 p4_0)), .second, .val (.long (v4_47 p4_0)), .second] [(.long ((v4_47 p4_0) ^^^ (own_ushrL (v4_47 p4_0) (30 : Int32))))])) _
    refine XS.lload X4.here hx rfl (hb hby d4_57) rfl ?_
    show Steps p.tables e below (T4.setTop (mkF m 59 #[.val (.long p4_0), .second, .val (.long (v4_11 p4_0)), .second, .val (.long (v4_20 p4_0)), .second, .val (.long (v4_36 p4_0)), .second, .val (.long (v4_47 p4_0)), .second] [(.long (v4_47 p4_0)), (.long ((v4_47 p4_0) ^^^ (own_ushrL (v4_47 p4_0) (30 : Int32))))])) _
    refine XS.bipush X4.here hx rfl (hb hby d4_59) ?_
    show Steps p.tables e below (T4.setTop (mkF m 61 #[.val (.long p4_0), .second, .val (.long (v4_11 p4_0)), .second, .val (.long (v4_20 p4_0)), .second, .val (.long (v4_36 p4_0)), .second, .val (.long (v4_47 p4_0)), .second] [(.int (60 : Int32)), (.long (v4_47 p4_0)), (.long ((v4_47 p4_0) ^^^ (own_ushrL (v4_47 p4_0) (30 : Int32))))])) _
    refine XS.lushr X4.here hx rfl (hb hby d4_61) rfl ?_
    show Steps p.tables e below (T4.setTop (mkF m 62 #[.val (.long p4_0), .second, .val (.long (v4_11 p4_0)), .second, .val (.long (v4_20 p4_0)), .second, .val (.long (v4_36 p4_0)), .second, .val (.long (v4_47 p4_0)), .second] [(.long (own_ushrL (v4_47 p4_0) (60 : Int32))), (.long ((v4_47 p4_0) ^^^ (own_ushrL (v4_47 p4_0) (30 : Int32))))])) _
    refine XS.lxor X4.here hx rfl (hb hby d4_62) rfl ?_
    show Steps p.tables e below (T4.setTop (mkF m 63 #[.val (.long p4_0), .second, .val (.long (v4_11 p4_0)), .second, .val (.long (v4_20 p4_0)), .second, .val (.long (v4_36 p4_0)), .second, .val (.long (v4_47 p4_0)), .second] [(.long (((v4_47 p4_0) ^^^ (own_ushrL (v4_47 p4_0) (30 : Int32))) ^^^ (own_ushrL (v4_47 p4_0) (60 : Int32))))])) _
    exact k)
  obtain ⟨fs, hr, hrun, hended, hW, hsame⟩ := X4.leave (v := some (.long (((v4_47 p4_0) ^^^ (own_ushrL (v4_47 p4_0) (30 : Int32))) ^^^ (own_ushrL (v4_47 p4_0) (60 : Int32))))) (fun h => by rw [Bd.returns] at h; cases h)
  refine ⟨_, _, pre5 _ ?_, hrun, hended, _, _, rfl, ?_, ⟨_, rfl⟩, hW, hsame.mono (by decide) (by decide)⟩
  · show Steps p.tables e below (T4.setTop (mkF m 63 #[.val (.long p4_0), .second, .val (.long (v4_11 p4_0)), .second, .val (.long (v4_20 p4_0)), .second, .val (.long (v4_36 p4_0)), .second, .val (.long (v4_47 p4_0)), .second] [(.long (((v4_47 p4_0) ^^^ (own_ushrL (v4_47 p4_0) (30 : Int32))) ^^^ (own_ushrL (v4_47 p4_0) (60 : Int32))))])) _
    exact own_retJ X4 hx Bd.returns (hb hby d4_63) hr
  · show Q4 Z p4_0 h0 n0 _ T4.heap _
    rw [e4]
    exact ⟨rfl, N4, rfl⟩
theorem pd_1 : parseMethodDescriptor "(J)V" = some ⟨[.long], none⟩ := by decide +kernel
theorem pd_2 : parseMethodDescriptor "()J" = some ⟨[], some .long⟩ := by decide +kernel
theorem ef_0 (m : MethodId) (x0 : Int64) : entryFrame m #[(.long x0)] maxLocals = mkF m 0 #[.val (.long x0), .second, .unset, .unset, .unset, .unset, .unset] [] := by first | (simp [entryFrame, mkF, argsToLocals, Value.category, maxLocals]; done) | rfl
def v0_18 (p0_0 : Int64) : Int64 := (r3 (v3_9 p0_0))
theorem own_s31 (x : Int64) : (own_ushrL x 31).toBitVec = x.toBitVec >>> 31 := rfl
theorem own_s62 (x : Int64) : (own_ushrL x 62).toBitVec = x.toBitVec >>> 62 := rfl
theorem own_s27 (x : Int64) : (own_ushrL x 27).toBitVec = x.toBitVec >>> 27 := rfl
theorem own_s54 (x : Int64) : (own_ushrL x 54).toBitVec = x.toBitVec >>> 54 := rfl
theorem own_s30 (x : Int64) : (own_ushrL x 30).toBitVec = x.toBitVec >>> 30 := rfl
theorem own_s60 (x : Int64) : (own_ushrL x 60).toBitVec = x.toBitVec >>> 60 := rfl
theorem own_bv (x : BitVec 64) (k j : Nat) (hj : j = k + k) (hk : 64 ≤ k + j) : ((x ^^^ x >>> k) ^^^ (x ^^^ x >>> k) >>> k) ^^^ (x ^^^ x >>> k) >>> j = x := by
  subst hj
  ext i hi
  simp only [BitVec.getElem_xor, BitVec.getElem_ushiftRight, BitVec.getLsbD_xor, BitVec.getLsbD_ushiftRight]
  rw [BitVec.getLsbD_of_ge x (k + (k + k + i)) (by omega), show k + (k + i) = k + k + i by omega]
  cases x[i] <;> cases x.getLsbD (k + i) <;> cases x.getLsbD (k + k + i) <;> rfl
theorem own_x31 (x : Int64) : ((x ^^^ own_ushrL x 31) ^^^ own_ushrL (x ^^^ own_ushrL x 31) 31) ^^^ own_ushrL (x ^^^ own_ushrL x 31) 62 = x := by
  apply Int64.toBitVec_inj.mp
  simp only [Int64.toBitVec_xor, own_s31, own_s62]
  exact own_bv _ 31 62 rfl (by decide)
theorem own_x27 (x : Int64) : ((x ^^^ own_ushrL x 27) ^^^ own_ushrL (x ^^^ own_ushrL x 27) 27) ^^^ own_ushrL (x ^^^ own_ushrL x 27) 54 = x := by
  apply Int64.toBitVec_inj.mp
  simp only [Int64.toBitVec_xor, own_s27, own_s54]
  exact own_bv _ 27 54 rfl (by decide)
theorem own_x30 (x : Int64) : ((x ^^^ own_ushrL x 30) ^^^ own_ushrL (x ^^^ own_ushrL x 30) 30) ^^^ own_ushrL (x ^^^ own_ushrL x 30) 60 = x := by
  apply Int64.toBitVec_inj.mp
  simp only [Int64.toBitVec_xor, own_s30, own_s60]
  exact own_bv _ 30 60 rfl (by decide)
theorem own_m2 (x : Int64) : x * (-7723592293110705685 : Int64) * r5 (-7723592293110705685 : Int64) = x := by
  rw [Int64.mul_assoc, show (-7723592293110705685 : Int64) * r5 (-7723592293110705685 : Int64) = 1 from by decide +kernel, Int64.mul_one]
theorem own_m1 (x : Int64) : x * (-4658895280553007687 : Int64) * r5 (-4658895280553007687 : Int64) = x := by
  rw [Int64.mul_assoc, show (-4658895280553007687 : Int64) * r5 (-4658895280553007687 : Int64) = 1 from by decide +kernel, Int64.mul_one]
theorem own_first (s : Int64) : r4 (r3 s) = s + (-7046029254386353131 : Int64) := by
  have h1 : v4_11 (r3 s) = v3_38 s := by unfold v4_11 r3; exact own_x31 _
  have h2 : v4_20 (r3 s) = v3_27 s ^^^ own_ushrL (v3_27 s) 27 := by unfold v4_20; rw [h1]; unfold v3_38; exact own_m2 _
  have h3 : v4_36 (r3 s) = v3_27 s := by unfold v4_36; rw [h2]; exact own_x27 _
  have h4 : v4_47 (r3 s) = v3_9 s ^^^ own_ushrL (v3_9 s) 30 := by unfold v4_47; rw [h3]; unfold v3_27; exact own_m1 _
  unfold r4; rw [h4]; exact own_x30 _
theorem own_second (s : Int64) : r4 (v0_18 s) = s + (4354685564936845354 : Int64) := by
  unfold v0_18; rw [own_first]; unfold v3_9
  rw [Int64.add_assoc, show (-7046029254386353131 : Int64) + (-7046029254386353131 : Int64) = 4354685564936845354 from by decide]
def Q0 (Z : State) (p0_0 : Int64) (h0 : Heap) (n0 : Nat) (v : Option Value) (h : Heap) (L : List Loc) : Prop := v = some (.int (1 : Int32)) ∧ Fr n0 L
set_option maxRecDepth 65536 in
set_option maxHeartbeats 40000000 in
theorem rm0 (l : Launch) (Z : State) (a0 : Array Value) (hw : ∀ d ∈ tables_1, d.before a0 Z = true) (ws : List Jvm.Cond) (p0_0 : Int64) (h0 : Heap) (n0 : Nat) (Z0 : n0 ≤ h0.size) :
    MetFree l x (head1 (Jvm.Cond.code x code maxLocals ret :: ws) room_1) (fun a U => a = #[(.long p0_0)] ∧ Z.Warmed39 U.vm ∧ U.heap = h0) (fun _ _ _ _ _ => True) (fun _ U o U' => ∃ v L, o = .returned v ∧ Q0 Z p0_0 h0 n0 v U'.heap L ∧ FrameEnd U o U' L room_1.cells room_1.slots) := by
  refine MetFree.of_bodySF (plainFor_of_name pn_1) hisR ?_
  intro p e s m args below meth c s₁ Bd hml0 hP hK
  obtain ⟨rfl, hZ, hh⟩ := hP
  have hx := Bd.exec
  have hby := Bd.bytes
  have hml : c.maxLocals = 7 := hml0
  have hown : s.vm.findClass "com/example/consigliere/consigliere/engine/RngNextLongPinLaw" = some m.cls := findClass_of_methodNamed Bd.named
  have hnm := (name_of_methodNamed Bd.named Bd.method).1
  have X0 : Stand p l e room_1 s m #[(.long p0_0)] below meth c s₁ [] 0 0 := Stand.of_body Bd
  have e0 : s₁.heap = h0 := by rw [← hh, Bd.state]; rfl
  have N0 := Fr.nil n0
  have pre0 : ∀ t, Steps p.tables e below (s₁.setTop (mkF m 0 #[.val (.long p0_0), .second, .unset, .unset, .unset, .unset, .unset] [])) t → Steps p.tables e below (s₁.setTop (entryFrame m #[(.long p0_0)] maxLocals)) t := fun t k => castTop (ef_0 m p0_0) k
  obtain ⟨T1, h1, X1, e1, E1, A1, D1, -, st1⟩ := newO X0 hx hZ hown (hw _ (List.mem_of_getElem? (i := 0) rfl)) (hw _ (List.mem_of_getElem? (i := 1) rfl)) (hw _ (List.mem_of_getElem? (i := 2) rfl)) e0 (g := (mkF m 0 #[.val (.long p0_0), .second, .unset, .unset, .unset, .unset, .unset] [])) rfl (hb hby at_0) (by decide) (by decide)
  obtain ⟨b1, q1⟩ : ∃ z, z = h0.size := ⟨_, rfl⟩
  rw [← q1] at A1 D1 st1
  have g_b1 : n0 ≤ b1 := Nat.le_trans Z0 (Nat.le_of_eq q1.symm)
  have Z1 : n0 ≤ h1.size := Nat.le_trans Z0 E1.1
  have F2 : Fld Z h1 b1 "com/example/consigliere/consigliere/engine/Rng" "state" "J" (.long (0 : Int64)) := D1 (Or.inl (hw _ (List.mem_of_getElem? (i := 10) rfl))) (ty := .long) (by decide)
  have pre1 : ∀ t, Steps p.tables e below (T1.setTop (mkF m 3 #[.val (.long p0_0), .second, .unset, .unset, .unset, .unset, .unset] [(.ref b1)])) t → Steps p.tables e below (s₁.setTop (entryFrame m #[(.long p0_0)] maxLocals)) t := fun t k => pre0 t (st1 t k)
  have pre3 : ∀ t, Steps p.tables e below (T1.setTop (mkF m 5 #[.val (.long p0_0), .second, .unset, .unset, .unset, .unset, .unset] [(.long p0_0), (.ref b1), (.ref b1)])) t → Steps p.tables e below (s₁.setTop (entryFrame m #[(.long p0_0)] maxLocals)) t := fun t k => pre1 t (by
    refine XS.dup X1.here hx rfl (hb hby at_3) rfl rfl ?_
    show Steps p.tables e below (T1.setTop (mkF m 4 #[.val (.long p0_0), .second, .unset, .unset, .unset, .unset, .unset] [(.ref b1), (.ref b1)])) _
    refine XS.lloadN X1.here hx rfl (hb hby at_4) rfl ?_
    show Steps p.tables e below (T1.setTop (mkF m 5 #[.val (.long p0_0), .second, .unset, .unset, .unset, .unset, .unset] [(.long p0_0), (.ref b1), (.ref b1)])) _
    exact k)
  obtain ⟨_, _, ⟨T4, L4, k4, n4⟩, -, X4, ⟨Lc4, hQ4, l4, y4, z4⟩, st4⟩ := X1.specialBack hx (y := (⟨"com/example/consigliere/consigliere/engine/Rng", "<init>", "(J)V"⟩ : MethodName)) rfl hown (mvT hZ (hw _ (List.mem_of_getElem? (i := 3) rfl))) (mvT hZ (hw _ (List.mem_of_getElem? (i := 4) rfl))) (mvT hZ (hw _ (List.mem_of_getElem? (i := 5) rfl))) (by decide) (backOf (W := 1) (rm1 l Z a0 hw [] b1 p0_0 (0 : Int64) h1 n0 Z1 A1 F2 g_b1) hZ (hw _ (List.mem_of_getElem? (i := 5) rfl)) (hw _ (List.mem_of_getElem? (i := 2) rfl)) (by decide) (by decide)) (g := (mkF m 5 #[.val (.long p0_0), .second, .unset, .unset, .unset, .unset, .unset] [(.long p0_0), (.ref b1), (.ref b1)])) rfl (by rw [hml]; rfl) (Steps.refl _) (a := b1) (argsL := [(.long p0_0)]) (rest := [(.ref b1)]) (lenOf pd_1 rfl) rfl (by show 2 * 0 + _ ≤ _; exact Nat.le_of_eq rfl) (hb hby at_5) (fun _ _ => ⟨rfl, e1, (by decide : 1 + 0 ≤ _), (by decide : 1 + 0 ≤ _)⟩)
  dsimp only [Pt.U, Pt.locs, Pt.cells, Pt.slots] at X4 l4 y4 z4 st4 hQ4
  subst l4 y4 z4
  obtain ⟨rfl, M4, K4c, P4_0⟩ := hQ4
  have N4 := Fr.app N0 M4
  have K4 : Keep h1 T4.heap [b1] := K4c
  have Z4 : n0 ≤ T4.heap.size := Nat.le_trans Z1 K4.1
  have Ex5 : Exa Z T4.heap b1 "com/example/consigliere/consigliere/engine/Rng" := A1.keep K4
  have F6 : Fld Z T4.heap b1 "com/example/consigliere/consigliere/engine/Rng" "state" "J" (.long p0_0) := P4_0
  have pre4 : ∀ t, Steps p.tables e below (T4.setTop (mkF m 8 #[.val (.long p0_0), .second, .unset, .unset, .unset, .unset, .unset] [(.ref b1)])) t → Steps p.tables e below (s₁.setTop (entryFrame m #[(.long p0_0)] maxLocals)) t := fun t k => pre3 t (st4.trans k)
  have pre7 : ∀ t, Steps p.tables e below (T4.setTop (mkF m 10 #[.val (.long p0_0), .second, .val (.ref b1), .unset, .unset, .unset, .unset] [(.ref b1)])) t → Steps p.tables e below (s₁.setTop (entryFrame m #[(.long p0_0)] maxLocals)) t := fun t k => pre4 t (by
    refine XS.astoreN X4.here hx rfl (hb hby at_8) rfl rfl (l' := #[.val (.long p0_0), .second, .val (.ref b1), .unset, .unset, .unset, .unset]) rfl ?_
    show Steps p.tables e below (T4.setTop (mkF m 9 #[.val (.long p0_0), .second, .val (.ref b1), .unset, .unset, .unset, .unset] [])) _
    refine XS.aloadN X4.here hx rfl (hb hby at_9) rfl rfl ?_
    show Steps p.tables e below (T4.setTop (mkF m 10 #[.val (.long p0_0), .second, .val (.ref b1), .unset, .unset, .unset, .unset] [(.ref b1)])) _
    exact k)
  obtain ⟨cq8, kq8, qa8, qb8, qc8⟩ := isOf hZ rfl Ex5
  obtain ⟨_, _, ⟨T8, L8, k8, n8⟩, -, X8, ⟨Lc8, hQ8, l8, y8, z8⟩, st8⟩ := X4.virtualBack hx (y := (⟨"com/example/consigliere/consigliere/engine/Rng", "nextLong", "()J"⟩ : MethodName)) (z := (⟨"com/example/consigliere/consigliere/engine/Rng", "nextLong", "()J"⟩ : MethodName)) hown (mvT hZ (hw _ (List.mem_of_getElem? (i := 11) rfl))) (mvT hZ (hw _ (List.mem_of_getElem? (i := 12) rfl))) (notFace_of_selects (args := #[]) (mvT hZ (hw _ (List.mem_of_getElem? (i := 14) rfl)))) (mvT hZ (hw _ (List.mem_of_getElem? (i := 14) rfl))) (mvT hZ (hw _ (List.mem_of_getElem? (i := 13) rfl))) (by decide) (backOf (W := 0) (rm3 l Z a0 hw [] b1 p0_0 T4.heap n0 Z4 Ex5 F6 g_b1) hZ (hw _ (List.mem_of_getElem? (i := 15) rfl)) (hw _ (List.mem_of_getElem? (i := 2) rfl)) (by decide) (by decide)) qa8 qc8 (g := (mkF m 10 #[.val (.long p0_0), .second, .val (.ref b1), .unset, .unset, .unset, .unset] [(.ref b1)])) rfl (by rw [hml]; rfl) (Steps.refl _) (argsL := []) (rest := []) (lenOf pd_2 rfl) rfl (by show 2 * 0 + _ ≤ _; exact Nat.le_of_eq rfl) (hb hby at_10) (fun _ _ => ⟨rfl, rfl, (by decide : 1 + 0 ≤ _), (by decide : 1 + 0 ≤ _)⟩)
  dsimp only [Pt.U, Pt.locs, Pt.cells, Pt.slots] at X8 l8 y8 z8 st8 hQ8
  subst l8 y8 z8
  obtain ⟨rfl, M8, K8c, P8_0⟩ := hQ8
  have N8 := Fr.app N4 M8
  have K8 : Keep T4.heap T8.heap [b1] := K8c
  have Z8 : n0 ≤ T8.heap.size := Nat.le_trans Z4 K8.1
  have Ex9 : Exa Z T8.heap b1 "com/example/consigliere/consigliere/engine/Rng" := Ex5.keep K8
  have F10 : Fld Z T8.heap b1 "com/example/consigliere/consigliere/engine/Rng" "state" "J" (.long (v3_9 p0_0)) := P8_0
  have pre8 : ∀ t, Steps p.tables e below (T8.setTop (mkF m 13 #[.val (.long p0_0), .second, .val (.ref b1), .unset, .unset, .unset, .unset] [(.long (r3 p0_0))])) t → Steps p.tables e below (s₁.setTop (entryFrame m #[(.long p0_0)] maxLocals)) t := fun t k => pre7 t (st8.trans k)
  have pre11 : ∀ t, Steps p.tables e below (T8.setTop (mkF m 15 #[.val (.long p0_0), .second, .val (.ref b1), .val (.long (r3 p0_0)), .second, .unset, .unset] [(.ref b1)])) t → Steps p.tables e below (s₁.setTop (entryFrame m #[(.long p0_0)] maxLocals)) t := fun t k => pre8 t (by
    refine XS.lstoreN X8.here hx rfl (hb hby at_13) rfl (l' := #[.val (.long p0_0), .second, .val (.ref b1), .val (.long (r3 p0_0)), .second, .unset, .unset]) rfl ?_
    show Steps p.tables e below (T8.setTop (mkF m 14 #[.val (.long p0_0), .second, .val (.ref b1), .val (.long (r3 p0_0)), .second, .unset, .unset] [])) _
    refine XS.aloadN X8.here hx rfl (hb hby at_14) rfl rfl ?_
    show Steps p.tables e below (T8.setTop (mkF m 15 #[.val (.long p0_0), .second, .val (.ref b1), .val (.long (r3 p0_0)), .second, .unset, .unset] [(.ref b1)])) _
    exact k)
  obtain ⟨cq12, kq12, qa12, qb12, qc12⟩ := isOf hZ rfl Ex9
  obtain ⟨_, _, ⟨T12, L12, k12, n12⟩, -, X12, ⟨Lc12, hQ12, l12, y12, z12⟩, st12⟩ := X8.virtualBack hx (y := (⟨"com/example/consigliere/consigliere/engine/Rng", "nextLong", "()J"⟩ : MethodName)) (z := (⟨"com/example/consigliere/consigliere/engine/Rng", "nextLong", "()J"⟩ : MethodName)) hown (mvT hZ (hw _ (List.mem_of_getElem? (i := 11) rfl))) (mvT hZ (hw _ (List.mem_of_getElem? (i := 12) rfl))) (notFace_of_selects (args := #[]) (mvT hZ (hw _ (List.mem_of_getElem? (i := 14) rfl)))) (mvT hZ (hw _ (List.mem_of_getElem? (i := 14) rfl))) (mvT hZ (hw _ (List.mem_of_getElem? (i := 13) rfl))) (by decide) (backOf (W := 0) (rm3 l Z a0 hw [] b1 (v3_9 p0_0) T8.heap n0 Z8 Ex9 F10 g_b1) hZ (hw _ (List.mem_of_getElem? (i := 15) rfl)) (hw _ (List.mem_of_getElem? (i := 2) rfl)) (by decide) (by decide)) qa12 qc12 (g := (mkF m 15 #[.val (.long p0_0), .second, .val (.ref b1), .val (.long (r3 p0_0)), .second, .unset, .unset] [(.ref b1)])) rfl (by rw [hml]; rfl) (Steps.refl _) (argsL := []) (rest := []) (lenOf pd_2 rfl) rfl (by show 2 * 0 + _ ≤ _; exact Nat.le_of_eq rfl) (hb hby at_15) (fun _ _ => ⟨rfl, rfl, (by decide : 1 + 0 ≤ _), (by decide : 1 + 0 ≤ _)⟩)
  dsimp only [Pt.U, Pt.locs, Pt.cells, Pt.slots] at X12 l12 y12 z12 st12 hQ12
  subst l12 y12 z12
  obtain ⟨rfl, M12, K12c, P12_0⟩ := hQ12
  have N12 := Fr.app N8 M12
  have K12 : Keep T8.heap T12.heap [b1] := K12c
  have Z12 : n0 ≤ T12.heap.size := Nat.le_trans Z8 K12.1
  have Ex13 : Exa Z T12.heap b1 "com/example/consigliere/consigliere/engine/Rng" := Ex9.keep K12
  have F14 : Fld Z T12.heap b1 "com/example/consigliere/consigliere/engine/Rng" "state" "J" (.long (v3_9 (v3_9 p0_0))) := P12_0
  have pre12 : ∀ t, Steps p.tables e below (T12.setTop (mkF m 18 #[.val (.long p0_0), .second, .val (.ref b1), .val (.long (r3 p0_0)), .second, .unset, .unset] [(.long (r3 (v3_9 p0_0)))])) t → Steps p.tables e below (s₁.setTop (entryFrame m #[(.long p0_0)] maxLocals)) t := fun t k => pre11 t (st12.trans k)
  have pre15 : ∀ t, Steps p.tables e below (T12.setTop (mkF m 21 #[.val (.long p0_0), .second, .val (.ref b1), .val (.long (r3 p0_0)), .second, .val (.long (v0_18 p0_0)), .second] [(.long (r3 p0_0))])) t → Steps p.tables e below (s₁.setTop (entryFrame m #[(.long p0_0)] maxLocals)) t := fun t k => pre12 t (by
    show Steps p.tables e below (T12.setTop (mkF m 18 #[.val (.long p0_0), .second, .val (.ref b1), .val (.long (r3 p0_0)), .second, .unset, .unset] [(.long (v0_18 p0_0))])) _
    refine XS.lstore X12.here hx rfl (hb hby at_18) rfl (l' := #[.val (.long p0_0), .second, .val (.ref b1), .val (.long (r3 p0_0)), .second, .val (.long (v0_18 p0_0)), .second]) rfl ?_
    show Steps p.tables e below (T12.setTop (mkF m 20 #[.val (.long p0_0), .second, .val (.ref b1), .val (.long (r3 p0_0)), .second, .val (.long (v0_18 p0_0)), .second] [])) _
    refine XS.lloadN X12.here hx rfl (hb hby at_20) rfl ?_
    show Steps p.tables e below (T12.setTop (mkF m 21 #[.val (.long p0_0), .second, .val (.ref b1), .val (.long (r3 p0_0)), .second, .val (.long (v0_18 p0_0)), .second] [(.long (r3 p0_0))])) _
    exact k)
  obtain ⟨_, _, ⟨T16, L16, k16, n16⟩, -, X16, ⟨Lc16, hQ16, l16, y16, z16⟩, st16⟩ := Jvm.LawKit.callS X12 hx (y := (⟨"com/example/consigliere/consigliere/engine/RngNextLongPinLaw", "unmix", "(J)J"⟩ : MethodName)) hown (mvT hZ (hw _ (List.mem_of_getElem? (i := 19) rfl))) (mvT hZ (hw _ (List.mem_of_getElem? (i := 20) rfl))) (mvT hZ (hw _ (List.mem_of_getElem? (i := 21) rfl))) (mvT hZ (hw _ (List.mem_of_getElem? (i := 22) rfl))) (by decide) (backOf (W := 0) (rm4 l Z a0 hw [] (r3 p0_0) T12.heap n0 Z12 ) hZ (hw _ (List.mem_of_getElem? (i := 22) rfl)) (hw _ (List.mem_of_getElem? (i := 21) rfl)) (by decide) (by decide)) (g := (mkF m 21 #[.val (.long p0_0), .second, .val (.ref b1), .val (.long (r3 p0_0)), .second, .val (.long (v0_18 p0_0)), .second] [(.long (r3 p0_0))])) rfl (by rw [hml]; rfl) (argsL := [(.long (r3 p0_0))]) (rest := []) (lenOf pd_0 rfl) rfl (by show 2 * 0 + _ ≤ _; exact Nat.le_of_eq rfl) (hb hby at_21) (fun _ _ => ⟨rfl, rfl, (by decide : 1 + 0 ≤ _), (by decide : 1 + 0 ≤ _)⟩)
  dsimp only [Pt.U, Pt.locs, Pt.cells, Pt.slots] at X16 l16 y16 z16 st16 hQ16
  subst l16 y16 z16
  obtain ⟨rfl, M16, e16⟩ := hQ16
  have N16 := Fr.app N12 M16
  have pre16 : ∀ t, Steps p.tables e below (T16.setTop (mkF m 24 #[.val (.long p0_0), .second, .val (.ref b1), .val (.long (r3 p0_0)), .second, .val (.long (v0_18 p0_0)), .second] [(.long (r4 (r3 p0_0)))])) t → Steps p.tables e below (s₁.setTop (entryFrame m #[(.long p0_0)] maxLocals)) t := fun t k => pre15 t (st16 t k)
  have pre18 : ∀ t, Steps p.tables e below (T16.setTop (mkF m 35 #[.val (.long p0_0), .second, .val (.ref b1), .val (.long (r3 p0_0)), .second, .val (.long (v0_18 p0_0)), .second] [(.long (v0_18 p0_0))])) t → Steps p.tables e below (s₁.setTop (entryFrame m #[(.long p0_0)] maxLocals)) t := fun t k => pre16 t (by
    refine XS.lloadN X16.here hx rfl (hb hby at_24) rfl ?_
    show Steps p.tables e below (T16.setTop (mkF m 25 #[.val (.long p0_0), .second, .val (.ref b1), .val (.long (r3 p0_0)), .second, .val (.long (v0_18 p0_0)), .second] [(.long p0_0), (.long (r4 (r3 p0_0)))])) _
    refine X16.ldc2Long hx hown (mvT hZ (hw _ (List.mem_of_getElem? (i := 29) rfl))) (g := (mkF m 25 #[.val (.long p0_0), .second, .val (.ref b1), .val (.long (r3 p0_0)), .second, .val (.long (v0_18 p0_0)), .second] [(.long p0_0), (.long (r4 (r3 p0_0)))])) rfl (hb hby at_25) _ ?_
    show Steps p.tables e below (T16.setTop (mkF m 28 #[.val (.long p0_0), .second, .val (.ref b1), .val (.long (r3 p0_0)), .second, .val (.long (v0_18 p0_0)), .second] [(.long (-7046029254386353131 : Int64)), (.long p0_0), (.long (r4 (r3 p0_0)))])) _
    refine XS.ladd X16.here hx rfl (hb hby at_28) rfl ?_
    show Steps p.tables e below (T16.setTop (mkF m 29 #[.val (.long p0_0), .second, .val (.ref b1), .val (.long (r3 p0_0)), .second, .val (.long (v0_18 p0_0)), .second] [(.long (p0_0 + (-7046029254386353131 : Int64))), (.long (r4 (r3 p0_0)))])) _
    refine XS.lcmp X16.here hx rfl (hb hby at_29) rfl ?_
    show Steps p.tables e below (T16.setTop (mkF m 30 #[.val (.long p0_0), .second, .val (.ref b1), .val (.long (r3 p0_0)), .second, .val (.long (v0_18 p0_0)), .second] [(.int (lcmpW (r4 (r3 p0_0)) (p0_0 + (-7046029254386353131 : Int64))))])) _
    refine XS.ifNo X16.here hx rfl (hb hby at_30) rfl ((if0 _ _).trans (teq ((lw_eq (r4 (r3 p0_0)) (p0_0 + (-7046029254386353131 : Int64))).mpr (show (r4 (r3 p0_0)) = (p0_0 + (-7046029254386353131 : Int64)) from (own_first p0_0)))).2) ?_
    show Steps p.tables e below (T16.setTop (mkF m 33 #[.val (.long p0_0), .second, .val (.ref b1), .val (.long (r3 p0_0)), .second, .val (.long (v0_18 p0_0)), .second] [])) _
    refine XS.lload X16.here hx rfl (hb hby at_33) rfl ?_
    show Steps p.tables e below (T16.setTop (mkF m 35 #[.val (.long p0_0), .second, .val (.ref b1), .val (.long (r3 p0_0)), .second, .val (.long (v0_18 p0_0)), .second] [(.long (v0_18 p0_0))])) _
    exact k)
  obtain ⟨_, _, ⟨T19, L19, k19, n19⟩, -, X19, ⟨Lc19, hQ19, l19, y19, z19⟩, st19⟩ := Jvm.LawKit.callS X16 hx (y := (⟨"com/example/consigliere/consigliere/engine/RngNextLongPinLaw", "unmix", "(J)J"⟩ : MethodName)) hown (mvT hZ (hw _ (List.mem_of_getElem? (i := 19) rfl))) (mvT hZ (hw _ (List.mem_of_getElem? (i := 20) rfl))) (mvT hZ (hw _ (List.mem_of_getElem? (i := 21) rfl))) (mvT hZ (hw _ (List.mem_of_getElem? (i := 22) rfl))) (by decide) (backOf (W := 0) (rm4 l Z a0 hw [] (v0_18 p0_0) T12.heap n0 Z12 ) hZ (hw _ (List.mem_of_getElem? (i := 22) rfl)) (hw _ (List.mem_of_getElem? (i := 21) rfl)) (by decide) (by decide)) (g := (mkF m 35 #[.val (.long p0_0), .second, .val (.ref b1), .val (.long (r3 p0_0)), .second, .val (.long (v0_18 p0_0)), .second] [(.long (v0_18 p0_0))])) rfl (by rw [hml]; rfl) (argsL := [(.long (v0_18 p0_0))]) (rest := []) (lenOf pd_0 rfl) rfl (by show 2 * 0 + _ ≤ _; exact Nat.le_of_eq rfl) (hb hby at_35) (fun _ _ => ⟨rfl, e16, (by decide : 1 + 0 ≤ _), (by decide : 1 + 0 ≤ _)⟩)
  dsimp only [Pt.U, Pt.locs, Pt.cells, Pt.slots] at X19 l19 y19 z19 st19 hQ19
  subst l19 y19 z19
  obtain ⟨rfl, M19, e19⟩ := hQ19
  have N19 := Fr.app N16 M19
  have pre19 : ∀ t, Steps p.tables e below (T19.setTop (mkF m 38 #[.val (.long p0_0), .second, .val (.ref b1), .val (.long (r3 p0_0)), .second, .val (.long (v0_18 p0_0)), .second] [(.long (r4 (v0_18 p0_0)))])) t → Steps p.tables e below (s₁.setTop (entryFrame m #[(.long p0_0)] maxLocals)) t := fun t k => pre18 t (st19 t k)
  have pre21 : ∀ t, Steps p.tables e below (T19.setTop (mkF m 52 #[.val (.long p0_0), .second, .val (.ref b1), .val (.long (r3 p0_0)), .second, .val (.long (v0_18 p0_0)), .second] [(.int (1 : Int32))])) t → Steps p.tables e below (s₁.setTop (entryFrame m #[(.long p0_0)] maxLocals)) t := fun t k => pre19 t (by
    refine XS.lloadN X19.here hx rfl (hb hby at_38) rfl ?_
    show Steps p.tables e below (T19.setTop (mkF m 39 #[.val (.long p0_0), .second, .val (.ref b1), .val (.long (r3 p0_0)), .second, .val (.long (v0_18 p0_0)), .second] [(.long p0_0), (.long (r4 (v0_18 p0_0)))])) _
    refine X19.ldc2Long hx hown (mvT hZ (hw _ (List.mem_of_getElem? (i := 30) rfl))) (g := (mkF m 39 #[.val (.long p0_0), .second, .val (.ref b1), .val (.long (r3 p0_0)), .second, .val (.long (v0_18 p0_0)), .second] [(.long p0_0), (.long (r4 (v0_18 p0_0)))])) rfl (hb hby at_39) _ ?_
    show Steps p.tables e below (T19.setTop (mkF m 42 #[.val (.long p0_0), .second, .val (.ref b1), .val (.long (r3 p0_0)), .second, .val (.long (v0_18 p0_0)), .second] [(.long (4354685564936845354 : Int64)), (.long p0_0), (.long (r4 (v0_18 p0_0)))])) _
    refine XS.ladd X19.here hx rfl (hb hby at_42) rfl ?_
    show Steps p.tables e below (T19.setTop (mkF m 43 #[.val (.long p0_0), .second, .val (.ref b1), .val (.long (r3 p0_0)), .second, .val (.long (v0_18 p0_0)), .second] [(.long (p0_0 + (4354685564936845354 : Int64))), (.long (r4 (v0_18 p0_0)))])) _
    refine XS.lcmp X19.here hx rfl (hb hby at_43) rfl ?_
    show Steps p.tables e below (T19.setTop (mkF m 44 #[.val (.long p0_0), .second, .val (.ref b1), .val (.long (r3 p0_0)), .second, .val (.long (v0_18 p0_0)), .second] [(.int (lcmpW (r4 (v0_18 p0_0)) (p0_0 + (4354685564936845354 : Int64))))])) _
    refine XS.ifNo X19.here hx rfl (hb hby at_44) rfl ((if0 _ _).trans (teq ((lw_eq (r4 (v0_18 p0_0)) (p0_0 + (4354685564936845354 : Int64))).mpr (show (r4 (v0_18 p0_0)) = (p0_0 + (4354685564936845354 : Int64)) from (own_second p0_0)))).2) ?_
    show Steps p.tables e below (T19.setTop (mkF m 47 #[.val (.long p0_0), .second, .val (.ref b1), .val (.long (r3 p0_0)), .second, .val (.long (v0_18 p0_0)), .second] [])) _
    refine XS.iconst X19.here hx rfl (hb hby at_47) ?_
    show Steps p.tables e below (T19.setTop (mkF m 48 #[.val (.long p0_0), .second, .val (.ref b1), .val (.long (r3 p0_0)), .second, .val (.long (v0_18 p0_0)), .second] [(.int (1 : Int32))])) _
    refine XS.goto X19.here hx rfl (pc0 := 48) (pc' := 52) rfl (hb hby at_48) (by decide) (by decide) ?_
    show Steps p.tables e below (T19.setTop (mkF m 52 #[.val (.long p0_0), .second, .val (.ref b1), .val (.long (r3 p0_0)), .second, .val (.long (v0_18 p0_0)), .second] [(.int (1 : Int32))])) _
    exact k)
  obtain ⟨fs, hr, hrun, hended, hW, hsame⟩ := X19.leave (v := some (.int (1 : Int32))) (fun h => by rw [Bd.returns] at h; cases h)
  refine ⟨_, _, pre21 _ ?_, hrun, hended, _, _, rfl, ?_, ⟨_, rfl⟩, hW, hsame.mono (by decide) (by decide)⟩
  · show Steps p.tables e below (T19.setTop (mkF m 52 #[.val (.long p0_0), .second, .val (.ref b1), .val (.long (r3 p0_0)), .second, .val (.long (v0_18 p0_0)), .second] [(.int (1 : Int32))])) _
    exact retN X19 hx (t := .boolean) Bd.returns (by simp) (hb hby at_52) hr
  · show Q0 Z p0_0 h0 n0 _ T19.heap _
    rw [e19]
    exact ⟨rfl, N19⟩
set_option maxRecDepth 65536 in
set_option maxHeartbeats 40000000 in
theorem comes_1 {Post : Tables → Env → Array Value → State → Outcome → State → Prop} (hpost : ∀ tb e args s v u, (limb_1_1.after args s (.returned v) u = true ∧ limb_1_2.after args s (.returned v) u = true ∧ True) → FrameEnd s (.returned v) u (Jvm.fieldLocs frame_1_writes args s ++ Jvm.arrayLocs frame_1_arrays args s ++ Jvm.staticLocs frame_1_statics s) 16 128 → Post tb e args s (.returned v) u) :
    ArmFor flags0 classFile x code maxLocals ret World_1 tables_1 room_1 Calls_1 rest_1 Pre_1 Post := by
  intro l hfl _ _ p e ha hc hk s m args below hf hA hF happ hP
  obtain ⟨hcalls, hrest, hpre⟩ := hP
  obtain ⟨-, -, -, hnamed, -, -, -, hat⟩ := (Spec.applies_iff hf).mp happ
  obtain ⟨hg, hn⟩ := and_e (Cond.before_iff.mp (show (Jvm.Cond.and given_1 narrow_1).before args s = true from hpre))
  obtain ⟨gc, g0⟩ := and_e hg
  obtain ⟨w0, rfl⟩ : ∃ w0 : Value, args = #[w0] := by
    have hs : args.size = 1 := by simpa [Cond.value, given_1] using gc
    obtain ⟨L⟩ := args
    match L, hs with
    | [w0], _ => exact ⟨w0, rfl⟩
  have hw := fun d (hd : d ∈ tables_1) => atoms_spec (ws := Jvm.Cond.code x code maxLocals ret :: tables_1) hat d (List.mem_cons_of_mem _ hd)
  obtain ⟨i0, ei0⟩ := isL_v g0
  obtain rfl : w0 = (.long i0) := Option.some.inj ei0
  obtain ⟨n, o, h1, h2, h3, _, L, rfl, ⟨rfl, N⟩, hq⟩ := rm0 l s _ hw tables_1 i0  s.heap s.heap.size (Nat.le_refl _)  p e ha hc hk s m _ below hf ((Spec.applies_iff_loose hf).mp happ).1 ⟨rfl, State.Warmed39.refl s, rfl⟩ trivial
  refine ⟨n, _, h1, h2, h3, hpost _ _ _ _ _ _ ⟨Cond.after_iff.mpr rfl, Cond.after_iff.mpr (eq_i res_at (Term.int_eval (1)) rfl), trivial⟩ ⟨hq.1, hq.2.1, (hq.2.2.sift fun y hy => Or.inr (N y hy)).mono (by decide) (by decide)⟩⟩
theorem main_1_1 : Claimed_1_1 := comes_1 fun _ _ _ _ _ _ h hF => ⟨h.1, hF⟩
theorem main_1_2 : Claimed_1_2 := comes_1 fun _ _ _ _ _ _ h hF => ⟨h.2.1, hF⟩
end Jvm.Pilot.@@N@@
namespace Jvm.Pilot.@@N@@
open Jvm Jvm.ClassFile Sem Op Lib Jvm.Free Jvm.Stand Jvm.Pilot.@@N@@.Jvm.D
/-! MADE BY PROGRAM (witnessworld.py) out of the Statement's table words and the real class files: 7 classes; the members and pool entries that the words name. The judged class is class 1, her method 3. -/
namespace start1
open Jvm.ClassFile
def u (s : String) : CpInfo := .utf8 (stringToUtf16 s)
/-- a pool by its gaps: so many unusable entries, then the entry; so many at the end -/
def gap : Nat → List CpInfo → List CpInfo
  | 0, r => r
  | n + 1, r => .unusable :: gap n r
def poolList (es : List (Nat × CpInfo)) (last : Nat) : List CpInfo := es.foldr (fun e r => gap e.1 (e.2 :: r)) (gap last [])
def pool (es : List (Nat × CpInfo)) (last : Nat) : Array CpInfo := ⟨poolList es last⟩
def fileOf (pool : Array CpInfo) (this : Nat) (attrs : Array Attribute := #[]) (ms : Array MethodInfo := #[]) (fl : Nat := 33) (sup : Nat := 0) (ifs : Array Nat := #[]) (fds : Array FieldInfo := #[]) : ClassFile where
  minorVersion := 0
  majorVersion := 65
  constantPool := pool
  accessFlags := fl
  thisClass := this
  superClass := sup
  interfaces := ifs
  fields := fds
  methods := ms
  attributes := attrs
def plain (name : String) (sup : Option ClassId) : Class where
  name := name
  kind := .ordinary
  loader := none
  accessFlags := 33
  super := sup
  interfaces := #[]
  cf := none
  fields := #[]
  methods := #[]
  instanceTypes := #[]
  staticTypes := #[]
  resolved := #[]
  callSites := []
  init := .initialized
  statics := none
  mirror := none

def pool0 : Array CpInfo := pool [(5, u "<init>"), (0, u "()V"), (1, .class_ 10), (1, u "java/lang/Object")] 113

def k0c0 : Code := { maxStack := 0, maxLocals := 1, code := object_method_1_code, exceptionTable := #[], attributes := #[] }
def k0m0 : Method := { name := "<init>", desc := "()V", sig := { parameters := [], returnType := none }, accessFlags := 1, code := some k0c0 }
/-- java/lang/Object -/
def k0 : Class := { plain "java/lang/Object" none with
  accessFlags := 33
  interfaces := #[]
  cf := some (fileOf pool0 8 #[] #[{ accessFlags := 1, nameIndex := 5, descriptorIndex := 6, attributes := #[] }] 33 0 #[] #[])
  fields := #[]
  methods := #[k0m0]
  instanceTypes := #[]
  staticTypes := #[]
  resolved := Array.replicate 124 none
  statics := none }

def pool1 : Array CpInfo := pool [(2, .class_ 4), (1, u "java/lang/Object"), (0, u "<init>"), (0, u "()V"), (0, .long 2), (1, .class_ 10), (0, u "com/example/consigliere/consigliere/engine/RngNextLongPinLaw"), (0, .long 10723151780598845931), (1, .methodref 9 14), (0, .nameAndType 15 16), (0, u "inverse"), (0, u "(J)J"), (0, .long 13787848793156543929), (1, .class_ 20), (0, u "com/example/consigliere/consigliere/engine/Rng"), (0, .methodref 19 22), (0, .nameAndType 5 23), (0, u "(J)V"), (0, .methodref 19 25), (0, .nameAndType 26 27), (0, u "nextLong"), (0, u "()J"), (0, .methodref 9 29), (0, .nameAndType 30 16), (0, u "unmix"), (0, .long 11400714819323198485), (1, .long 4354685564936845354), (1, u "G"), (0, u "J"), (1, u "C1"), (0, u "C2"), (2, u "law"), (0, u "(J)Z")] 3

def k1m0 : Method := { name := "<init>", desc := "()V", sig := { parameters := [], returnType := none }, accessFlags := 1, code := none }
def k1c1 : Code := { maxStack := 8, maxLocals := 4, code := method_2_code, exceptionTable := #[], attributes := #[] }
def k1m1 : Method := { name := "inverse", desc := "(J)J", sig := { parameters := [.long], returnType := some .long }, accessFlags := 10, code := some k1c1 }
def k1c2 : Code := { maxStack := 5, maxLocals := 10, code := method_3_code, exceptionTable := #[], attributes := #[] }
def k1m2 : Method := { name := "unmix", desc := "(J)J", sig := { parameters := [.long], returnType := some .long }, accessFlags := 10, code := some k1c2 }
def k1c3 : Code := { maxStack := 6, maxLocals := 7, code := code, exceptionTable := #[], attributes := #[] }
def k1m3 : Method := { name := "law", desc := "(J)Z", sig := { parameters := [.long], returnType := some .boolean }, accessFlags := 9, code := some k1c3 }
/-- com/example/consigliere/consigliere/engine/RngNextLongPinLaw -/
def k1 : Class := { plain "com/example/consigliere/consigliere/engine/RngNextLongPinLaw" (some 0) with
  accessFlags := 49
  interfaces := #[]
  cf := some (fileOf pool1 9 #[] #[{ accessFlags := 1, nameIndex := 5, descriptorIndex := 6, attributes := #[] }, { accessFlags := 10, nameIndex := 15, descriptorIndex := 16, attributes := #[] }, { accessFlags := 10, nameIndex := 30, descriptorIndex := 16, attributes := #[] }, { accessFlags := 9, nameIndex := 42, descriptorIndex := 43, attributes := #[] }] 49 2 #[] #[{ accessFlags := 26, nameIndex := 35, descriptorIndex := 36, attributes := #[] }, { accessFlags := 26, nameIndex := 38, descriptorIndex := 36, attributes := #[] }, { accessFlags := 26, nameIndex := 39, descriptorIndex := 36, attributes := #[] }])
  fields := #[{ name := "G", type := .long, accessFlags := 26, slot := 0, constantValue := 0 }, { name := "C1", type := .long, accessFlags := 26, slot := 1, constantValue := 0 }, { name := "C2", type := .long, accessFlags := 26, slot := 2, constantValue := 0 }]
  methods := #[k1m0, k1m1, k1m2, k1m3]
  instanceTypes := #[]
  staticTypes := #[.long, .long, .long]
  resolved := Array.replicate 47 none
  statics := none }

def pool2 : Array CpInfo := pool [(1, .methodref 2 3), (0, .class_ 4), (0, .nameAndType 5 6), (0, u "java/lang/Object"), (0, u "<init>"), (0, u "()V"), (0, .fieldref 8 9), (0, .class_ 10), (0, .nameAndType 11 12), (0, u "com/example/consigliere/consigliere/engine/Rng"), (0, u "state"), (0, u "J"), (0, .long 11400714819323198485), (1, .long 13787848793156543929), (1, .long 10723151780598845931), (14, u "nextLong"), (0, u "()J"), (4, u "GOLDEN_GAMMA"), (1, u "TWO_TO_THE_32"), (0, u "(J)V")] 22

def k2c0 : Code := { maxStack := 3, maxLocals := 3, code := prog_3_method_1_code, exceptionTable := #[], attributes := #[] }
def k2m0 : Method := { name := "<init>", desc := "(J)V", sig := { parameters := [.long], returnType := none }, accessFlags := 1, code := some k2c0 }
def k2c1 : Code := { maxStack := 5, maxLocals := 3, code := prog_3_method_2_code, exceptionTable := #[], attributes := #[] }
def k2m1 : Method := { name := "nextLong", desc := "()J", sig := { parameters := [], returnType := some .long }, accessFlags := 1, code := some k2c1 }
/-- com/example/consigliere/consigliere/engine/Rng -/
def k2 : Class := { plain "com/example/consigliere/consigliere/engine/Rng" (some 0) with
  accessFlags := 49
  interfaces := #[]
  cf := some (fileOf pool2 8 #[] #[{ accessFlags := 1, nameIndex := 5, descriptorIndex := 41, attributes := #[] }, { accessFlags := 1, nameIndex := 32, descriptorIndex := 33, attributes := #[] }] 49 2 #[] #[{ accessFlags := 26, nameIndex := 38, descriptorIndex := 12, attributes := #[] }, { accessFlags := 26, nameIndex := 40, descriptorIndex := 12, attributes := #[] }, { accessFlags := 2, nameIndex := 11, descriptorIndex := 12, attributes := #[] }])
  fields := #[{ name := "GOLDEN_GAMMA", type := .long, accessFlags := 26, slot := 0, constantValue := 0 }, { name := "TWO_TO_THE_32", type := .long, accessFlags := 26, slot := 1, constantValue := 0 }, { name := "state", type := .long, accessFlags := 2, slot := 0, constantValue := 0 }]
  methods := #[k2m0, k2m1]
  instanceTypes := #[.long]
  staticTypes := #[.long, .long]
  resolved := Array.replicate 64 none
  statics := none }

def pool3 : Array CpInfo := pool [(1, u "java/lang/Cloneable"), (0, .class_ 1), (0, u "java/lang/Object"), (0, .class_ 3)] 3

/-- java/lang/Cloneable -/
def k3 : Class := { plain "java/lang/Cloneable" (some 0) with
  accessFlags := 1537
  interfaces := #[]
  cf := some (fileOf pool3 2 #[] #[] 1537 4 #[] #[])
  fields := #[]
  methods := #[]
  instanceTypes := #[]
  staticTypes := #[]
  resolved := Array.replicate 8 none
  statics := none }

def pool4 : Array CpInfo := pool [(1, u "java/io/Serializable"), (0, .class_ 1), (0, u "java/lang/Object"), (0, .class_ 3)] 3

/-- java/io/Serializable -/
def k4 : Class := { plain "java/io/Serializable" (some 0) with
  accessFlags := 1537
  interfaces := #[]
  cf := some (fileOf pool4 2 #[] #[] 1537 4 #[] #[])
  fields := #[]
  methods := #[]
  instanceTypes := #[]
  staticTypes := #[]
  resolved := Array.replicate 8 none
  statics := none }

/-- the primitive byte -/
def k5 : Class := { plain "byte" none with kind := .primitive 'B', accessFlags := 0x411 }
/-- [B -/
def k6 : Class := { plain "[B" (some 0) with kind := .array 5 .byte, interfaces := #[3, 4], accessFlags := 1041 }

def heap : Heap := #[]
def classes : Array Class := #[k0, k1, k2, k3, k4, k5, k6]
def interned : List (Array UInt16 × Addr) := []
def slotsUsed : Nat := 0
def theMethod : MethodId := ⟨1, 3⟩
def args0 : Array Value := #[.long 5]
def aboutOver (below : List Frame) : State where
  vm := { classes := classes, interned := interned.toArray }
  heap := heap
  slotsUsed := slotsUsed
  threads := #[{ frames := .invoking theMethod args0 :: below }]
def below0 : List Frame := [.native { method := ⟨0, 0⟩, args := #[] }]
def about1 : State := aboutOver below0
def p0 : Program := .bare "" "" ""
def e0 : Env := launch0.env 0 0 0
theorem w_frames : about1.frames = Frame.invoking theMethod args0 :: below0 := rfl
set_option maxRecDepth 65536 in
theorem w_args : argsFit about1.vm theMethod args0 = true := by decide +kernel
set_option maxRecDepth 65536 in
theorem w_heap : heapFits about1 = true := by decide +kernel
set_option maxRecDepth 65536 in
theorem w_runnable : about1.curStatus? = some .runnable := by decide +kernel
set_option maxRecDepth 65536 in
theorem w_alone : about1.alone = true := by decide +kernel
set_option maxRecDepth 65536 in
theorem w_named : about1.methodNamed? x = some theMethod := by decide +kernel
set_option maxRecDepth 65536 in
theorem w_hears : about1.hears theMethod below0 = true := by decide +kernel
set_option maxRecDepth 65536 in
theorem w_ripe : about1.ripe theMethod args0 below0 = true := by decide +kernel
theorem w_running : about1.status = .running := rfl
set_option maxRecDepth 65536 in
theorem w_room : about1.hasRoom e0.platform room_1 = true :=
  launch0.hasRoom_least _ room_1 (by decide +kernel) (by decide +kernel) (by decide +kernel) (by decide +kernel) (by decide +kernel) (by decide +kernel)
theorem allAtoms_all (ts : List Jvm.Cond) (a : Array Jvm.Value) (st : Jvm.State) : (allAtoms ts).before a st = ts.all (fun c => c.before a st) := by
  induction ts with
  | nil => rfl
  | cons c t ih =>
    show (Jvm.Cond.and c (allAtoms t)).before a st = _
    rw [Jvm.Cond.before_and, ih, List.all_cons]
def words1 : List Jvm.Cond := Jvm.Cond.code x code maxLocals ret :: tables_1
/-- a 'code' word, met by the world's own term for the bytes: nothing is compared byte by byte -/
theorem code_word {y : MethodName} {bytes : ByteArray} {mx : Nat} {rt : Option FieldType} {a : Array Value} {s : State} {m : MethodId} {meth : Method} {c : Code} (h1 : s.methodNamed? y = some m) (h2 : s.vm.method? m = some meth) (h3 : meth.code = some c) (h4 : c.code = bytes)
    (h5 : (c.maxLocals == mx && c.exceptionTable.isEmpty && decide (c.maxStack ≤ mostOperands) && decide (meth.sig.returnType = rt) && !meth.locks && decide (parseMethodDescriptor y.desc = some meth.sig)) = true) : (Jvm.Cond.code y bytes mx rt).before a s = true := by
  simp only [Bool.and_eq_true, beq_iff_eq, Bool.not_eq_true', decide_eq_true_eq] at h5
  obtain ⟨⟨⟨⟨⟨g1, g2⟩, g3⟩, g4⟩, g5⟩, g6⟩ := h5
  simp [Cond.before, Cond.holds, Cond.value, h1, h2, h3, h4, g1, g2, g3, g4, g5, g6]
def isCode : Jvm.Cond → Bool
  | .code _ _ _ _ => true
  | _ => false
theorem all_split {L : List Jvm.Cond} {P : Jvm.Cond → Bool} (h1 : L.all (fun c => isCode c || P c) = true) (h2 : ∀ c ∈ L.filter isCode, P c = true) : L.all P = true := by
  refine List.all_eq_true.mpr fun c hc => ?_
  have h := List.all_eq_true.mp h1 c hc
  rcases Bool.eq_false_or_eq_true (isCode c) with hi | hi
  · exact h2 c (List.mem_filter.mpr ⟨hc, hi⟩)
  · simpa [hi] using h
set_option maxRecDepth 65536 in
theorem w_c0 : (Jvm.Cond.code x code maxLocals ret).before args0 about1 = true := code_word (m := ⟨1, 3⟩) (meth := k1m3) (c := k1c3) (by decide +kernel) rfl rfl rfl (by decide +kernel)
set_option maxRecDepth 65536 in
theorem w_c1 : (Jvm.Cond.code ({ cls := "com/example/consigliere/consigliere/engine/Rng", name := "<init>", desc := "(J)V" } : Jvm.MethodName) prog_3_method_1_code (3 : Nat) (Option.none : Option Jvm.ClassFile.FieldType)).before args0 about1 = true := code_word (m := ⟨2, 0⟩) (meth := k2m0) (c := k2c0) (by decide +kernel) rfl rfl rfl (by decide +kernel)
set_option maxRecDepth 65536 in
theorem w_c2 : (Jvm.Cond.code ({ cls := "java/lang/Object", name := "<init>", desc := "()V" } : Jvm.MethodName) object_method_1_code (1 : Nat) (Option.none : Option Jvm.ClassFile.FieldType)).before args0 about1 = true := code_word (m := ⟨0, 0⟩) (meth := k0m0) (c := k0c0) (by decide +kernel) rfl rfl rfl (by decide +kernel)
set_option maxRecDepth 65536 in
theorem w_c3 : (Jvm.Cond.code ({ cls := "com/example/consigliere/consigliere/engine/Rng", name := "nextLong", desc := "()J" } : Jvm.MethodName) prog_3_method_2_code (3 : Nat) (Option.some Jvm.ClassFile.FieldType.long)).before args0 about1 = true := code_word (m := ⟨2, 1⟩) (meth := k2m1) (c := k2c1) (by decide +kernel) rfl rfl rfl (by decide +kernel)
set_option maxRecDepth 65536 in
theorem w_c4 : (Jvm.Cond.code ({ cls := "com/example/consigliere/consigliere/engine/RngNextLongPinLaw", name := "unmix", desc := "(J)J" } : Jvm.MethodName) method_3_code (10 : Nat) (Option.some Jvm.ClassFile.FieldType.long)).before args0 about1 = true := code_word (m := ⟨1, 2⟩) (meth := k1m2) (c := k1c2) (by decide +kernel) rfl rfl rfl (by decide +kernel)
set_option maxRecDepth 65536 in
theorem w_c5 : (Jvm.Cond.code ({ cls := "com/example/consigliere/consigliere/engine/RngNextLongPinLaw", name := "inverse", desc := "(J)J" } : Jvm.MethodName) method_2_code (4 : Nat) (Option.some Jvm.ClassFile.FieldType.long)).before args0 about1 = true := code_word (m := ⟨1, 1⟩) (meth := k1m1) (c := k1c1) (by decide +kernel) rfl rfl rfl (by decide +kernel)
def codes1 : List Jvm.Cond := [Jvm.Cond.code x code maxLocals ret, Jvm.Cond.code ({ cls := "com/example/consigliere/consigliere/engine/Rng", name := "<init>", desc := "(J)V" } : Jvm.MethodName) prog_3_method_1_code (3 : Nat) (Option.none : Option Jvm.ClassFile.FieldType), Jvm.Cond.code ({ cls := "java/lang/Object", name := "<init>", desc := "()V" } : Jvm.MethodName) object_method_1_code (1 : Nat) (Option.none : Option Jvm.ClassFile.FieldType), Jvm.Cond.code ({ cls := "com/example/consigliere/consigliere/engine/Rng", name := "nextLong", desc := "()J" } : Jvm.MethodName) prog_3_method_2_code (3 : Nat) (Option.some Jvm.ClassFile.FieldType.long), Jvm.Cond.code ({ cls := "com/example/consigliere/consigliere/engine/RngNextLongPinLaw", name := "unmix", desc := "(J)J" } : Jvm.MethodName) method_3_code (10 : Nat) (Option.some Jvm.ClassFile.FieldType.long), Jvm.Cond.code ({ cls := "com/example/consigliere/consigliere/engine/RngNextLongPinLaw", name := "inverse", desc := "(J)J" } : Jvm.MethodName) method_2_code (4 : Nat) (Option.some Jvm.ClassFile.FieldType.long)]
set_option maxRecDepth 65536 in
theorem codes_eq : words1.filter isCode = codes1 := rfl
theorem w_codes : ∀ c ∈ words1.filter isCode, c.before args0 about1 = true := by
  rw [codes_eq]
  intro c hc
  simp only [codes1, List.mem_cons, List.not_mem_nil, or_false] at hc
  rcases hc with rfl | rfl | rfl | rfl | rfl | rfl
  · exact w_c0
  · exact w_c1
  · exact w_c2
  · exact w_c3
  · exact w_c4
  · exact w_c5
set_option maxRecDepth 65536 in
theorem w_t1 : (words1.take 24).all (fun c => isCode c || c.before args0 about1) = true := by decide +kernel
set_option maxRecDepth 65536 in
theorem w_t2 : (words1.drop 24).all (fun c => isCode c || c.before args0 about1) = true := by decide +kernel
theorem w_tables : (allAtoms (Jvm.Cond.code x code maxLocals ret :: tables_1)).before args0 about1 = true := by
  rw [allAtoms_all]
  show words1.all (fun c => c.before args0 about1) = true
  refine all_split ?_ w_codes
  rw [← List.take_append_drop 24 words1, List.all_append, w_t1, w_t2]
  rfl
set_option maxRecDepth 65536 in
theorem w_case : (Jvm.Cond.and given_1 narrow_1).before args0 about1 = true := by decide +kernel
theorem w_applies : (headSpec (Jvm.Cond.code x code maxLocals ret :: tables_1) room_1).applies x e0.platform about1 = true :=
  (Spec.applies_iff w_frames).mpr ⟨w_running, w_runnable, w_alone, w_named, w_hears, w_ripe, w_room, w_tables⟩
theorem atStart : AtStart classFile x code maxLocals ret World_1 tables_1 room_1 Calls_1 rest_1 Pre_1 launch0 p0 e0 about1 theMethod args0 below0 :=
  ⟨lists_1, trivial, launch0.admits_env _ _ _, launch0.least_env, fairChoices_fair.cas, fairChoices_fair.clock, w_frames, w_args, w_heap, w_applies, trivial, trivial, w_case⟩
end start1
theorem witness_1 : WitnessClaimed_1 := ⟨start1.p0, start1.e0, start1.about1, start1.theMethod, start1.args0, start1.below0, start1.atStart⟩
end Jvm.Pilot.@@N@@
