import JvmDerived
import JvmDerived.Pilot.@@N@@Statement
import JvmDerived.Pilot.@@N@@Code
set_option linter.unusedVariables false
set_option linter.unusedSimpArgs false
@@BLOCK:NumsL.lean.txt@@
namespace Jvm.Pilot.@@N@@
open Jvm Jvm.ClassFile Sem Op Lib Jvm.Free Jvm.Stand Jvm.LawKit Jvm.RoadKit Bundle Jvm.Pilot.@@N@@.Jvm.D
def own_shl (x y : Int32) : Int32 := x <<< (y &&& 31)
def own_shr (x y : Int32) : Int32 := x >>> (y &&& 31)
def own_ushr (x y : Int32) : Int32 := (x.toUInt32 >>> (y &&& 31).toUInt32).toInt32
def own_shlL (x : Int64) (y : Int32) : Int64 := x <<< (y &&& 0x3f).toInt64
def own_shrL (x : Int64) (y : Int32) : Int64 := x >>> (y &&& 0x3f).toInt64
def own_ushrL (x : Int64) (y : Int32) : Int64 := (x.toUInt64 >>> (y &&& 0x3f).toInt64.toUInt64).toInt64
def own_remL (x y : Int64) : Int64 := x - (x / y) * y
section OwnKit
variable {p : Program} {l : Launch} {e : Env} {R : Room} {s : State} {m : MethodId} {args : Array Value} {below : List Frame} {meth : Method} {c : Code} {T : State} {locs : List Loc} {cells slots : Nat} {Z : State} {h h' : Heap} {a b : Addr}
theorem retI (X : Stand p l e R s m args below meth c T locs cells slots) (hx : p.tables.exec = Jvm.exec) {pc : Nat} {Ls : Array Slot} {z : Int32} {rest : List Value} (hret : meth.sig.returnType = some .int) (hd : decode c.code pc = .ok (.ireturn, 1)) {fs : List Frame}
    (hl : ∀ (f : JFrame) (acts : List Action), f.method = m → f.locked = none → f.entered = [] → (doReturn e (T.setTop f) acts (some (.int z))).1 = T.setFrames fs) : Steps p.tables e below (T.setTop (mkF m pc Ls (.int z :: rest))) (T.setFrames fs) :=
  retOut X hx hret rfl (Or.inl ⟨rfl, Or.inl rfl, _, rfl⟩) hd hl
theorem own_retJ (X : Stand p l e R s m args below meth c T locs cells slots) (hx : p.tables.exec = Jvm.exec) {pc : Nat} {Ls : Array Slot} {z : Int64} {rest : List Value} (hret : meth.sig.returnType = some .long) (hd : decode c.code pc = .ok (.lreturn, 1)) {fs : List Frame}
    (hl : ∀ (f : JFrame) (acts : List Action), f.method = m → f.locked = none → f.entered = [] → (doReturn e (T.setTop f) acts (some (.long z))).1 = T.setFrames fs) : Steps p.tables e below (T.setTop (mkF m pc Ls (.long z :: rest))) (T.setFrames fs) :=
  retOut X hx hret rfl (Or.inr (Or.inl ⟨rfl, rfl, _, rfl⟩)) hd hl
end OwnKit
theorem pn_0 : plainName "com/example/chronofield/chronofield/TimeFieldIsTimeOfDayPinLaw" = true := by first | (simp [plainName, overriddenIn]; done) | decide +kernel
theorem d1_0 : decode method_3_code 0 = .ok (.iload_n 0, 1) := by decide +kernel
theorem d1_1 : decode method_3_code 1 = .ok (.i2l, 1) := by decide +kernel
theorem d1_2 : decode method_3_code 2 = .ok (.ldc2_w 19, 3) := by decide +kernel
theorem d1_5 : decode method_3_code 5 = .ok (.land, 1) := by decide +kernel
theorem d1_6 : decode method_3_code 6 = .ok (.iload_n 1, 1) := by decide +kernel
theorem d1_7 : decode method_3_code 7 = .ok (.i2l, 1) := by decide +kernel
theorem d1_8 : decode method_3_code 8 = .ok (.lcmp, 1) := by decide +kernel
theorem d1_9 : decode method_3_code 9 = .ok (.ifCond .ge 7, 3) := by decide +kernel
theorem d1_12 : decode method_3_code 12 = .ok (.iconst 1, 1) := by decide +kernel
theorem d1_13 : decode method_3_code 13 = .ok (.goto 4, 3) := by decide +kernel
theorem d1_16 : decode method_3_code 16 = .ok (.iconst 0, 1) := by decide +kernel
theorem d1_17 : decode method_3_code 17 = .ok (.ireturn, 1) := by decide +kernel
theorem ef_1 (m : MethodId) (x0 : Int32) (x1 : Int32) : entryFrame m #[(.int x0), (.int x1)] 2 = mkF m 0 #[.val (.int x0), .val (.int x1)] [] := by first | (simp [entryFrame, mkF, argsToLocals, Value.category]; done) | rfl
abbrev R1 : Room := { frames := 0, cells := 0, slots := 0, locals := 0 }
def r1 (p1_0 : Int32) (p1_1 : Int32) : Int32 := (if (((p1_0).toInt64) &&& (4294967295 : Int64)) < ((p1_1).toInt64) then (1 : Int32) else (0 : Int32))
def Q1 (Z : State) (p1_0 : Int32) (p1_1 : Int32) (h0 : Heap) (n0 : Nat) (v : Option Value) (h : Heap) (L : List Loc) : Prop := v = some (.int (r1 p1_0 p1_1)) ∧ Fr n0 L ∧ h = h0
set_option maxRecDepth 65536 in
set_option maxHeartbeats 40000000 in
theorem rm1 (l : Launch) (Z : State) (a0 : Array Value) (hw : ∀ d ∈ tables_1, d.before a0 Z = true) (ws : List Jvm.Cond) (p1_0 : Int32) (p1_1 : Int32) (h0 : Heap) (n0 : Nat) (Z0 : n0 ≤ h0.size) :
    MetFree l (⟨"com/example/chronofield/chronofield/TimeFieldIsTimeOfDayPinLaw", "below", "(II)Z"⟩ : MethodName) (head1 (Jvm.Cond.code (⟨"com/example/chronofield/chronofield/TimeFieldIsTimeOfDayPinLaw", "below", "(II)Z"⟩ : MethodName) method_3_code 2 (some .boolean) :: ws) R1) (fun a U => a = #[(.int p1_0), (.int p1_1)] ∧ Z.Warmed39 U.vm ∧ U.heap = h0) (fun _ _ _ _ _ => True) (fun _ U o U' => ∃ v L, o = .returned v ∧ Q1 Z p1_0 p1_1 h0 n0 v U'.heap L ∧ FrameEnd U o U' L R1.cells R1.slots) := by
  refine MetFree.of_bodySF (plainFor_of_name pn_0) hisR ?_
  intro p e s m args below meth c s₁ Bd hml0 hP hK
  obtain ⟨rfl, hZ, hh⟩ := hP
  have hx := Bd.exec
  have hby := Bd.bytes
  have hml : c.maxLocals = 2 := hml0
  have hown : s.vm.findClass "com/example/chronofield/chronofield/TimeFieldIsTimeOfDayPinLaw" = some m.cls := findClass_of_methodNamed Bd.named
  have hnm := (name_of_methodNamed Bd.named Bd.method).1
  have X0 : Stand p l e R1 s m #[(.int p1_0), (.int p1_1)] below meth c s₁ [] 0 0 := Stand.of_body Bd
  have e0 : s₁.heap = h0 := by rw [← hh, Bd.state]; rfl
  have N0 := Fr.nil n0
  have pre0 : ∀ t, Steps p.tables e below (s₁.setTop (mkF m 0 #[.val (.int p1_0), .val (.int p1_1)] [])) t → Steps p.tables e below (s₁.setTop (entryFrame m #[(.int p1_0), (.int p1_1)] 2)) t := fun t k => castTop (ef_1 m p1_0 p1_1) k
  have pre1 : ∀ t, Steps p.tables e below (s₁.setTop (mkF m 9 #[.val (.int p1_0), .val (.int p1_1)] [(.int (lcmpW (((p1_0).toInt64) &&& (4294967295 : Int64)) ((p1_1).toInt64)))])) t → Steps p.tables e below (s₁.setTop (entryFrame m #[(.int p1_0), (.int p1_1)] 2)) t := fun t k => pre0 t (by
    refine XS.iloadN X0.here hx rfl (hb hby d1_0) rfl ?_
    show Steps p.tables e below (s₁.setTop (mkF m 1 #[.val (.int p1_0), .val (.int p1_1)] [(.int p1_0)])) _
    refine XS.i2l X0.here hx rfl (hb hby d1_1) rfl ?_
    show Steps p.tables e below (s₁.setTop (mkF m 2 #[.val (.int p1_0), .val (.int p1_1)] [(.long ((p1_0).toInt64))])) _
    refine X0.ldc2Long hx hown (mvT hZ (hw _ (List.mem_of_getElem? (i := 4) rfl))) (g := (mkF m 2 #[.val (.int p1_0), .val (.int p1_1)] [(.long ((p1_0).toInt64))])) rfl (hb hby d1_2) _ ?_
    show Steps p.tables e below (s₁.setTop (mkF m 5 #[.val (.int p1_0), .val (.int p1_1)] [(.long (4294967295 : Int64)), (.long ((p1_0).toInt64))])) _
    refine XS.land X0.here hx rfl (hb hby d1_5) rfl ?_
    show Steps p.tables e below (s₁.setTop (mkF m 6 #[.val (.int p1_0), .val (.int p1_1)] [(.long (((p1_0).toInt64) &&& (4294967295 : Int64)))])) _
    refine XS.iloadN X0.here hx rfl (hb hby d1_6) rfl ?_
    show Steps p.tables e below (s₁.setTop (mkF m 7 #[.val (.int p1_0), .val (.int p1_1)] [(.int p1_1), (.long (((p1_0).toInt64) &&& (4294967295 : Int64)))])) _
    refine XS.i2l X0.here hx rfl (hb hby d1_7) rfl ?_
    show Steps p.tables e below (s₁.setTop (mkF m 8 #[.val (.int p1_0), .val (.int p1_1)] [(.long ((p1_1).toInt64)), (.long (((p1_0).toInt64) &&& (4294967295 : Int64)))])) _
    refine XS.lcmp X0.here hx rfl (hb hby d1_8) rfl ?_
    show Steps p.tables e below (s₁.setTop (mkF m 9 #[.val (.int p1_0), .val (.int p1_1)] [(.int (lcmpW (((p1_0).toInt64) &&& (4294967295 : Int64)) ((p1_1).toInt64)))])) _
    exact k)
  by_cases hc9_2 : (((p1_0).toInt64) &&& (4294967295 : Int64)) < ((p1_1).toInt64)
  · have pre3 : ∀ t, Steps p.tables e below (s₁.setTop (mkF m 17 #[.val (.int p1_0), .val (.int p1_1)] [(.int (1 : Int32))])) t → Steps p.tables e below (s₁.setTop (entryFrame m #[(.int p1_0), (.int p1_1)] 2)) t := fun t k => pre1 t (by
      refine XS.ifNo X0.here hx rfl (hb hby d1_9) rfl ((if0 _ _).trans (tlt ((lw_lt (((p1_0).toInt64) &&& (4294967295 : Int64)) ((p1_1).toInt64)).mpr hc9_2)).2.1) ?_
      show Steps p.tables e below (s₁.setTop (mkF m 12 #[.val (.int p1_0), .val (.int p1_1)] [])) _
      refine XS.iconst X0.here hx rfl (hb hby d1_12) ?_
      show Steps p.tables e below (s₁.setTop (mkF m 13 #[.val (.int p1_0), .val (.int p1_1)] [(.int (1 : Int32))])) _
      refine XS.goto X0.here hx rfl (pc0 := 13) (pc' := 17) rfl (hb hby d1_13) (by decide) (by decide) ?_
      show Steps p.tables e below (s₁.setTop (mkF m 17 #[.val (.int p1_0), .val (.int p1_1)] [(.int (1 : Int32))])) _
      exact k)
    have hret : (r1 p1_0 p1_1) = (1 : Int32) := by unfold r1; rw [if_pos hc9_2]
    obtain ⟨fs, hr, hrun, hended, hW, hsame⟩ := X0.leave (v := some (.int (1 : Int32))) (fun h => by rw [Bd.returns] at h; cases h)
    refine ⟨_, _, pre3 _ ?_, hrun, hended, _, _, rfl, ?_, ⟨_, rfl⟩, hW, hsame.mono (by decide) (by decide)⟩
    · show Steps p.tables e below (s₁.setTop (mkF m 17 #[.val (.int p1_0), .val (.int p1_1)] [(.int (1 : Int32))])) _
      exact retN X0 hx (t := .boolean) Bd.returns (by simp) (hb hby d1_17) hr
    · show Q1 Z p1_0 p1_1 h0 n0 _ s₁.heap _
      rw [e0]
      exact ⟨(by rw [hret]), N0, rfl⟩
  · have pre4 : ∀ t, Steps p.tables e below (s₁.setTop (mkF m 17 #[.val (.int p1_0), .val (.int p1_1)] [(.int (0 : Int32))])) t → Steps p.tables e below (s₁.setTop (entryFrame m #[(.int p1_0), (.int p1_1)] 2)) t := fun t k => pre1 t (by
      refine XS.ifYes X0.here hx rfl (pc0 := 9) (pc' := 16) rfl (hb hby d1_9) rfl ((if0 _ _).trans (flt (fun q => hc9_2 ((lw_lt (((p1_0).toInt64) &&& (4294967295 : Int64)) ((p1_1).toInt64)).mp q))).2.1) (by decide) (by decide) ?_
      show Steps p.tables e below (s₁.setTop (mkF m 16 #[.val (.int p1_0), .val (.int p1_1)] [])) _
      refine XS.iconst X0.here hx rfl (hb hby d1_16) ?_
      show Steps p.tables e below (s₁.setTop (mkF m 17 #[.val (.int p1_0), .val (.int p1_1)] [(.int (0 : Int32))])) _
      exact k)
    have hret : (r1 p1_0 p1_1) = (0 : Int32) := by unfold r1; rw [if_neg hc9_2]
    obtain ⟨fs, hr, hrun, hended, hW, hsame⟩ := X0.leave (v := some (.int (0 : Int32))) (fun h => by rw [Bd.returns] at h; cases h)
    refine ⟨_, _, pre4 _ ?_, hrun, hended, _, _, rfl, ?_, ⟨_, rfl⟩, hW, hsame.mono (by decide) (by decide)⟩
    · show Steps p.tables e below (s₁.setTop (mkF m 17 #[.val (.int p1_0), .val (.int p1_1)] [(.int (0 : Int32))])) _
      exact retN X0 hx (t := .boolean) Bd.returns (by simp) (hb hby d1_17) hr
    · show Q1 Z p1_0 p1_1 h0 n0 _ s₁.heap _
      rw [e0]
      exact ⟨(by rw [hret]), N0, rfl⟩
theorem pn_1 : plainName "com/example/chronofield/chronofield/TimeField" = true := by first | (simp [plainName, overriddenIn]; done) | decide +kernel
theorem d2_0 : decode prog_8_method_3_code 0 = .ok (.iload_n 0, 1) := by decide +kernel
theorem d2_1 : decode prog_8_method_3_code 1 = .ok (.ifCond .lt 33, 3) := by decide +kernel
theorem d2_4 : decode prog_8_method_3_code 4 = .ok (.iload_n 0, 1) := by decide +kernel
theorem d2_5 : decode prog_8_method_3_code 5 = .ok (.bipush 24, 2) := by decide +kernel
theorem d2_7 : decode prog_8_method_3_code 7 = .ok (.if_icmp .ge 27, 3) := by decide +kernel
theorem d2_10 : decode prog_8_method_3_code 10 = .ok (.iload_n 1, 1) := by decide +kernel
theorem d2_11 : decode prog_8_method_3_code 11 = .ok (.ifCond .lt 23, 3) := by decide +kernel
theorem d2_14 : decode prog_8_method_3_code 14 = .ok (.iload_n 1, 1) := by decide +kernel
theorem d2_15 : decode prog_8_method_3_code 15 = .ok (.bipush 60, 2) := by decide +kernel
theorem d2_17 : decode prog_8_method_3_code 17 = .ok (.if_icmp .ge 17, 3) := by decide +kernel
theorem d2_20 : decode prog_8_method_3_code 20 = .ok (.iload_n 2, 1) := by decide +kernel
theorem d2_21 : decode prog_8_method_3_code 21 = .ok (.ifCond .lt 13, 3) := by decide +kernel
theorem d2_24 : decode prog_8_method_3_code 24 = .ok (.iload_n 2, 1) := by decide +kernel
theorem d2_25 : decode prog_8_method_3_code 25 = .ok (.bipush 60, 2) := by decide +kernel
theorem d2_27 : decode prog_8_method_3_code 27 = .ok (.if_icmp .ge 7, 3) := by decide +kernel
theorem d2_30 : decode prog_8_method_3_code 30 = .ok (.iconst 1, 1) := by decide +kernel
theorem d2_31 : decode prog_8_method_3_code 31 = .ok (.goto 4, 3) := by decide +kernel
theorem d2_34 : decode prog_8_method_3_code 34 = .ok (.iconst 0, 1) := by decide +kernel
theorem d2_35 : decode prog_8_method_3_code 35 = .ok (.ireturn, 1) := by decide +kernel
theorem ef_2 (m : MethodId) (x0 : Int32) (x1 : Int32) (x2 : Int32) : entryFrame m #[(.int x0), (.int x1), (.int x2)] 3 = mkF m 0 #[.val (.int x0), .val (.int x1), .val (.int x2)] [] := by first | (simp [entryFrame, mkF, argsToLocals, Value.category]; done) | rfl
abbrev R2 : Room := { frames := 0, cells := 0, slots := 0, locals := 0 }
def r2 (p2_0 : Int32) (p2_1 : Int32) (p2_2 : Int32) : Int32 := (if p2_0 < (0 : Int32) then (0 : Int32) else (if p2_0 < (24 : Int32) then (if p2_1 < (0 : Int32) then (0 : Int32) else (if p2_1 < (60 : Int32) then (if p2_2 < (0 : Int32) then (0 : Int32) else (if p2_2 < (60 : Int32) then (1 : Int32) else (0 : Int32))) else (0 : Int32))) else (0 : Int32)))
def Q2 (Z : State) (p2_0 : Int32) (p2_1 : Int32) (p2_2 : Int32) (h0 : Heap) (n0 : Nat) (v : Option Value) (h : Heap) (L : List Loc) : Prop := v = some (.int (r2 p2_0 p2_1 p2_2)) ∧ Fr n0 L ∧ h = h0
set_option maxRecDepth 65536 in
set_option maxHeartbeats 40000000 in
theorem rm2 (l : Launch) (Z : State) (a0 : Array Value) (hw : ∀ d ∈ tables_1, d.before a0 Z = true) (ws : List Jvm.Cond) (p2_0 : Int32) (p2_1 : Int32) (p2_2 : Int32) (h0 : Heap) (n0 : Nat) (Z0 : n0 ≤ h0.size) :
    MetFree l (⟨"com/example/chronofield/chronofield/TimeField", "isTimeOfDay", "(III)Z"⟩ : MethodName) (head1 (Jvm.Cond.code (⟨"com/example/chronofield/chronofield/TimeField", "isTimeOfDay", "(III)Z"⟩ : MethodName) prog_8_method_3_code 3 (some .boolean) :: ws) R2) (fun a U => a = #[(.int p2_0), (.int p2_1), (.int p2_2)] ∧ Z.Warmed39 U.vm ∧ U.heap = h0) (fun _ _ _ _ _ => True) (fun _ U o U' => ∃ v L, o = .returned v ∧ Q2 Z p2_0 p2_1 p2_2 h0 n0 v U'.heap L ∧ FrameEnd U o U' L R2.cells R2.slots) := by
  refine MetFree.of_bodySF (plainFor_of_name pn_1) hisR ?_
  intro p e s m args below meth c s₁ Bd hml0 hP hK
  obtain ⟨rfl, hZ, hh⟩ := hP
  have hx := Bd.exec
  have hby := Bd.bytes
  have hml : c.maxLocals = 3 := hml0
  have hown : s.vm.findClass "com/example/chronofield/chronofield/TimeField" = some m.cls := findClass_of_methodNamed Bd.named
  have hnm := (name_of_methodNamed Bd.named Bd.method).1
  have X0 : Stand p l e R2 s m #[(.int p2_0), (.int p2_1), (.int p2_2)] below meth c s₁ [] 0 0 := Stand.of_body Bd
  have e0 : s₁.heap = h0 := by rw [← hh, Bd.state]; rfl
  have N0 := Fr.nil n0
  have pre0 : ∀ t, Steps p.tables e below (s₁.setTop (mkF m 0 #[.val (.int p2_0), .val (.int p2_1), .val (.int p2_2)] [])) t → Steps p.tables e below (s₁.setTop (entryFrame m #[(.int p2_0), (.int p2_1), (.int p2_2)] 3)) t := fun t k => castTop (ef_2 m p2_0 p2_1 p2_2) k
  have pre1 : ∀ t, Steps p.tables e below (s₁.setTop (mkF m 1 #[.val (.int p2_0), .val (.int p2_1), .val (.int p2_2)] [(.int p2_0)])) t → Steps p.tables e below (s₁.setTop (entryFrame m #[(.int p2_0), (.int p2_1), (.int p2_2)] 3)) t := fun t k => pre0 t (by
    refine XS.iloadN X0.here hx rfl (hb hby d2_0) rfl ?_
    show Steps p.tables e below (s₁.setTop (mkF m 1 #[.val (.int p2_0), .val (.int p2_1), .val (.int p2_2)] [(.int p2_0)])) _
    exact k)
  by_cases hc1_2 : p2_0 < (0 : Int32)
  · have pre3 : ∀ t, Steps p.tables e below (s₁.setTop (mkF m 35 #[.val (.int p2_0), .val (.int p2_1), .val (.int p2_2)] [(.int (0 : Int32))])) t → Steps p.tables e below (s₁.setTop (entryFrame m #[(.int p2_0), (.int p2_1), (.int p2_2)] 3)) t := fun t k => pre1 t (by
      refine XS.ifYes X0.here hx rfl (pc0 := 1) (pc' := 34) rfl (hb hby d2_1) rfl ((if0 _ _).trans (tlt hc1_2).1) (by decide) (by decide) ?_
      show Steps p.tables e below (s₁.setTop (mkF m 34 #[.val (.int p2_0), .val (.int p2_1), .val (.int p2_2)] [])) _
      refine XS.iconst X0.here hx rfl (hb hby d2_34) ?_
      show Steps p.tables e below (s₁.setTop (mkF m 35 #[.val (.int p2_0), .val (.int p2_1), .val (.int p2_2)] [(.int (0 : Int32))])) _
      exact k)
    have hret : (r2 p2_0 p2_1 p2_2) = (0 : Int32) := by unfold r2; rw [if_pos hc1_2]
    obtain ⟨fs, hr, hrun, hended, hW, hsame⟩ := X0.leave (v := some (.int (0 : Int32))) (fun h => by rw [Bd.returns] at h; cases h)
    refine ⟨_, _, pre3 _ ?_, hrun, hended, _, _, rfl, ?_, ⟨_, rfl⟩, hW, hsame.mono (by decide) (by decide)⟩
    · show Steps p.tables e below (s₁.setTop (mkF m 35 #[.val (.int p2_0), .val (.int p2_1), .val (.int p2_2)] [(.int (0 : Int32))])) _
      exact retN X0 hx (t := .boolean) Bd.returns (by simp) (hb hby d2_35) hr
    · show Q2 Z p2_0 p2_1 p2_2 h0 n0 _ s₁.heap _
      rw [e0]
      exact ⟨(by rw [hret]), N0, rfl⟩
  · have pre4 : ∀ t, Steps p.tables e below (s₁.setTop (mkF m 7 #[.val (.int p2_0), .val (.int p2_1), .val (.int p2_2)] [(.int (24 : Int32)), (.int p2_0)])) t → Steps p.tables e below (s₁.setTop (entryFrame m #[(.int p2_0), (.int p2_1), (.int p2_2)] 3)) t := fun t k => pre1 t (by
      refine XS.ifNo X0.here hx rfl (hb hby d2_1) rfl ((if0 _ _).trans (flt hc1_2).1) ?_
      show Steps p.tables e below (s₁.setTop (mkF m 4 #[.val (.int p2_0), .val (.int p2_1), .val (.int p2_2)] [])) _
      refine XS.iloadN X0.here hx rfl (hb hby d2_4) rfl ?_
      show Steps p.tables e below (s₁.setTop (mkF m 5 #[.val (.int p2_0), .val (.int p2_1), .val (.int p2_2)] [(.int p2_0)])) _
      refine XS.bipush X0.here hx rfl (hb hby d2_5) ?_
      show Steps p.tables e below (s₁.setTop (mkF m 7 #[.val (.int p2_0), .val (.int p2_1), .val (.int p2_2)] [(.int (24 : Int32)), (.int p2_0)])) _
      exact k)
    by_cases hc7_5 : p2_0 < (24 : Int32)
    · have pre6 : ∀ t, Steps p.tables e below (s₁.setTop (mkF m 11 #[.val (.int p2_0), .val (.int p2_1), .val (.int p2_2)] [(.int p2_1)])) t → Steps p.tables e below (s₁.setTop (entryFrame m #[(.int p2_0), (.int p2_1), (.int p2_2)] 3)) t := fun t k => pre4 t (by
        refine XS.icmpNo X0.here hx rfl (hb hby d2_7) rfl (tlt hc7_5).2.1 ?_
        show Steps p.tables e below (s₁.setTop (mkF m 10 #[.val (.int p2_0), .val (.int p2_1), .val (.int p2_2)] [])) _
        refine XS.iloadN X0.here hx rfl (hb hby d2_10) rfl ?_
        show Steps p.tables e below (s₁.setTop (mkF m 11 #[.val (.int p2_0), .val (.int p2_1), .val (.int p2_2)] [(.int p2_1)])) _
        exact k)
      by_cases hc11_7 : p2_1 < (0 : Int32)
      · have pre8 : ∀ t, Steps p.tables e below (s₁.setTop (mkF m 35 #[.val (.int p2_0), .val (.int p2_1), .val (.int p2_2)] [(.int (0 : Int32))])) t → Steps p.tables e below (s₁.setTop (entryFrame m #[(.int p2_0), (.int p2_1), (.int p2_2)] 3)) t := fun t k => pre6 t (by
          refine XS.ifYes X0.here hx rfl (pc0 := 11) (pc' := 34) rfl (hb hby d2_11) rfl ((if0 _ _).trans (tlt hc11_7).1) (by decide) (by decide) ?_
          show Steps p.tables e below (s₁.setTop (mkF m 34 #[.val (.int p2_0), .val (.int p2_1), .val (.int p2_2)] [])) _
          refine XS.iconst X0.here hx rfl (hb hby d2_34) ?_
          show Steps p.tables e below (s₁.setTop (mkF m 35 #[.val (.int p2_0), .val (.int p2_1), .val (.int p2_2)] [(.int (0 : Int32))])) _
          exact k)
        have hret : (r2 p2_0 p2_1 p2_2) = (0 : Int32) := by unfold r2; rw [if_neg hc1_2, if_pos hc7_5, if_pos hc11_7]
        obtain ⟨fs, hr, hrun, hended, hW, hsame⟩ := X0.leave (v := some (.int (0 : Int32))) (fun h => by rw [Bd.returns] at h; cases h)
        refine ⟨_, _, pre8 _ ?_, hrun, hended, _, _, rfl, ?_, ⟨_, rfl⟩, hW, hsame.mono (by decide) (by decide)⟩
        · show Steps p.tables e below (s₁.setTop (mkF m 35 #[.val (.int p2_0), .val (.int p2_1), .val (.int p2_2)] [(.int (0 : Int32))])) _
          exact retN X0 hx (t := .boolean) Bd.returns (by simp) (hb hby d2_35) hr
        · show Q2 Z p2_0 p2_1 p2_2 h0 n0 _ s₁.heap _
          rw [e0]
          exact ⟨(by rw [hret]), N0, rfl⟩
      · have pre9 : ∀ t, Steps p.tables e below (s₁.setTop (mkF m 17 #[.val (.int p2_0), .val (.int p2_1), .val (.int p2_2)] [(.int (60 : Int32)), (.int p2_1)])) t → Steps p.tables e below (s₁.setTop (entryFrame m #[(.int p2_0), (.int p2_1), (.int p2_2)] 3)) t := fun t k => pre6 t (by
          refine XS.ifNo X0.here hx rfl (hb hby d2_11) rfl ((if0 _ _).trans (flt hc11_7).1) ?_
          show Steps p.tables e below (s₁.setTop (mkF m 14 #[.val (.int p2_0), .val (.int p2_1), .val (.int p2_2)] [])) _
          refine XS.iloadN X0.here hx rfl (hb hby d2_14) rfl ?_
          show Steps p.tables e below (s₁.setTop (mkF m 15 #[.val (.int p2_0), .val (.int p2_1), .val (.int p2_2)] [(.int p2_1)])) _
          refine XS.bipush X0.here hx rfl (hb hby d2_15) ?_
          show Steps p.tables e below (s₁.setTop (mkF m 17 #[.val (.int p2_0), .val (.int p2_1), .val (.int p2_2)] [(.int (60 : Int32)), (.int p2_1)])) _
          exact k)
        by_cases hc17_10 : p2_1 < (60 : Int32)
        · have pre11 : ∀ t, Steps p.tables e below (s₁.setTop (mkF m 21 #[.val (.int p2_0), .val (.int p2_1), .val (.int p2_2)] [(.int p2_2)])) t → Steps p.tables e below (s₁.setTop (entryFrame m #[(.int p2_0), (.int p2_1), (.int p2_2)] 3)) t := fun t k => pre9 t (by
            refine XS.icmpNo X0.here hx rfl (hb hby d2_17) rfl (tlt hc17_10).2.1 ?_
            show Steps p.tables e below (s₁.setTop (mkF m 20 #[.val (.int p2_0), .val (.int p2_1), .val (.int p2_2)] [])) _
            refine XS.iloadN X0.here hx rfl (hb hby d2_20) rfl ?_
            show Steps p.tables e below (s₁.setTop (mkF m 21 #[.val (.int p2_0), .val (.int p2_1), .val (.int p2_2)] [(.int p2_2)])) _
            exact k)
          by_cases hc21_12 : p2_2 < (0 : Int32)
          · have pre13 : ∀ t, Steps p.tables e below (s₁.setTop (mkF m 35 #[.val (.int p2_0), .val (.int p2_1), .val (.int p2_2)] [(.int (0 : Int32))])) t → Steps p.tables e below (s₁.setTop (entryFrame m #[(.int p2_0), (.int p2_1), (.int p2_2)] 3)) t := fun t k => pre11 t (by
              refine XS.ifYes X0.here hx rfl (pc0 := 21) (pc' := 34) rfl (hb hby d2_21) rfl ((if0 _ _).trans (tlt hc21_12).1) (by decide) (by decide) ?_
              show Steps p.tables e below (s₁.setTop (mkF m 34 #[.val (.int p2_0), .val (.int p2_1), .val (.int p2_2)] [])) _
              refine XS.iconst X0.here hx rfl (hb hby d2_34) ?_
              show Steps p.tables e below (s₁.setTop (mkF m 35 #[.val (.int p2_0), .val (.int p2_1), .val (.int p2_2)] [(.int (0 : Int32))])) _
              exact k)
            have hret : (r2 p2_0 p2_1 p2_2) = (0 : Int32) := by unfold r2; rw [if_neg hc1_2, if_pos hc7_5, if_neg hc11_7, if_pos hc17_10, if_pos hc21_12]
            obtain ⟨fs, hr, hrun, hended, hW, hsame⟩ := X0.leave (v := some (.int (0 : Int32))) (fun h => by rw [Bd.returns] at h; cases h)
            refine ⟨_, _, pre13 _ ?_, hrun, hended, _, _, rfl, ?_, ⟨_, rfl⟩, hW, hsame.mono (by decide) (by decide)⟩
            · show Steps p.tables e below (s₁.setTop (mkF m 35 #[.val (.int p2_0), .val (.int p2_1), .val (.int p2_2)] [(.int (0 : Int32))])) _
              exact retN X0 hx (t := .boolean) Bd.returns (by simp) (hb hby d2_35) hr
            · show Q2 Z p2_0 p2_1 p2_2 h0 n0 _ s₁.heap _
              rw [e0]
              exact ⟨(by rw [hret]), N0, rfl⟩
          · have pre14 : ∀ t, Steps p.tables e below (s₁.setTop (mkF m 27 #[.val (.int p2_0), .val (.int p2_1), .val (.int p2_2)] [(.int (60 : Int32)), (.int p2_2)])) t → Steps p.tables e below (s₁.setTop (entryFrame m #[(.int p2_0), (.int p2_1), (.int p2_2)] 3)) t := fun t k => pre11 t (by
              refine XS.ifNo X0.here hx rfl (hb hby d2_21) rfl ((if0 _ _).trans (flt hc21_12).1) ?_
              show Steps p.tables e below (s₁.setTop (mkF m 24 #[.val (.int p2_0), .val (.int p2_1), .val (.int p2_2)] [])) _
              refine XS.iloadN X0.here hx rfl (hb hby d2_24) rfl ?_
              show Steps p.tables e below (s₁.setTop (mkF m 25 #[.val (.int p2_0), .val (.int p2_1), .val (.int p2_2)] [(.int p2_2)])) _
              refine XS.bipush X0.here hx rfl (hb hby d2_25) ?_
              show Steps p.tables e below (s₁.setTop (mkF m 27 #[.val (.int p2_0), .val (.int p2_1), .val (.int p2_2)] [(.int (60 : Int32)), (.int p2_2)])) _
              exact k)
            by_cases hc27_15 : p2_2 < (60 : Int32)
            · have pre16 : ∀ t, Steps p.tables e below (s₁.setTop (mkF m 35 #[.val (.int p2_0), .val (.int p2_1), .val (.int p2_2)] [(.int (1 : Int32))])) t → Steps p.tables e below (s₁.setTop (entryFrame m #[(.int p2_0), (.int p2_1), (.int p2_2)] 3)) t := fun t k => pre14 t (by
                refine XS.icmpNo X0.here hx rfl (hb hby d2_27) rfl (tlt hc27_15).2.1 ?_
                show Steps p.tables e below (s₁.setTop (mkF m 30 #[.val (.int p2_0), .val (.int p2_1), .val (.int p2_2)] [])) _
                refine XS.iconst X0.here hx rfl (hb hby d2_30) ?_
                show Steps p.tables e below (s₁.setTop (mkF m 31 #[.val (.int p2_0), .val (.int p2_1), .val (.int p2_2)] [(.int (1 : Int32))])) _
                refine XS.goto X0.here hx rfl (pc0 := 31) (pc' := 35) rfl (hb hby d2_31) (by decide) (by decide) ?_
                show Steps p.tables e below (s₁.setTop (mkF m 35 #[.val (.int p2_0), .val (.int p2_1), .val (.int p2_2)] [(.int (1 : Int32))])) _
                exact k)
              have hret : (r2 p2_0 p2_1 p2_2) = (1 : Int32) := by unfold r2; rw [if_neg hc1_2, if_pos hc7_5, if_neg hc11_7, if_pos hc17_10, if_neg hc21_12, if_pos hc27_15]
              obtain ⟨fs, hr, hrun, hended, hW, hsame⟩ := X0.leave (v := some (.int (1 : Int32))) (fun h => by rw [Bd.returns] at h; cases h)
              refine ⟨_, _, pre16 _ ?_, hrun, hended, _, _, rfl, ?_, ⟨_, rfl⟩, hW, hsame.mono (by decide) (by decide)⟩
              · show Steps p.tables e below (s₁.setTop (mkF m 35 #[.val (.int p2_0), .val (.int p2_1), .val (.int p2_2)] [(.int (1 : Int32))])) _
                exact retN X0 hx (t := .boolean) Bd.returns (by simp) (hb hby d2_35) hr
              · show Q2 Z p2_0 p2_1 p2_2 h0 n0 _ s₁.heap _
                rw [e0]
                exact ⟨(by rw [hret]), N0, rfl⟩
            · have pre17 : ∀ t, Steps p.tables e below (s₁.setTop (mkF m 35 #[.val (.int p2_0), .val (.int p2_1), .val (.int p2_2)] [(.int (0 : Int32))])) t → Steps p.tables e below (s₁.setTop (entryFrame m #[(.int p2_0), (.int p2_1), (.int p2_2)] 3)) t := fun t k => pre14 t (by
                refine XS.icmpYes X0.here hx rfl (pc0 := 27) (pc' := 34) rfl (hb hby d2_27) rfl (flt hc27_15).2.1 (by decide) (by decide) ?_
                show Steps p.tables e below (s₁.setTop (mkF m 34 #[.val (.int p2_0), .val (.int p2_1), .val (.int p2_2)] [])) _
                refine XS.iconst X0.here hx rfl (hb hby d2_34) ?_
                show Steps p.tables e below (s₁.setTop (mkF m 35 #[.val (.int p2_0), .val (.int p2_1), .val (.int p2_2)] [(.int (0 : Int32))])) _
                exact k)
              have hret : (r2 p2_0 p2_1 p2_2) = (0 : Int32) := by unfold r2; rw [if_neg hc1_2, if_pos hc7_5, if_neg hc11_7, if_pos hc17_10, if_neg hc21_12, if_neg hc27_15]
              obtain ⟨fs, hr, hrun, hended, hW, hsame⟩ := X0.leave (v := some (.int (0 : Int32))) (fun h => by rw [Bd.returns] at h; cases h)
              refine ⟨_, _, pre17 _ ?_, hrun, hended, _, _, rfl, ?_, ⟨_, rfl⟩, hW, hsame.mono (by decide) (by decide)⟩
              · show Steps p.tables e below (s₁.setTop (mkF m 35 #[.val (.int p2_0), .val (.int p2_1), .val (.int p2_2)] [(.int (0 : Int32))])) _
                exact retN X0 hx (t := .boolean) Bd.returns (by simp) (hb hby d2_35) hr
              · show Q2 Z p2_0 p2_1 p2_2 h0 n0 _ s₁.heap _
                rw [e0]
                exact ⟨(by rw [hret]), N0, rfl⟩
        · have pre18 : ∀ t, Steps p.tables e below (s₁.setTop (mkF m 35 #[.val (.int p2_0), .val (.int p2_1), .val (.int p2_2)] [(.int (0 : Int32))])) t → Steps p.tables e below (s₁.setTop (entryFrame m #[(.int p2_0), (.int p2_1), (.int p2_2)] 3)) t := fun t k => pre9 t (by
            refine XS.icmpYes X0.here hx rfl (pc0 := 17) (pc' := 34) rfl (hb hby d2_17) rfl (flt hc17_10).2.1 (by decide) (by decide) ?_
            show Steps p.tables e below (s₁.setTop (mkF m 34 #[.val (.int p2_0), .val (.int p2_1), .val (.int p2_2)] [])) _
            refine XS.iconst X0.here hx rfl (hb hby d2_34) ?_
            show Steps p.tables e below (s₁.setTop (mkF m 35 #[.val (.int p2_0), .val (.int p2_1), .val (.int p2_2)] [(.int (0 : Int32))])) _
            exact k)
          have hret : (r2 p2_0 p2_1 p2_2) = (0 : Int32) := by unfold r2; rw [if_neg hc1_2, if_pos hc7_5, if_neg hc11_7, if_neg hc17_10]
          obtain ⟨fs, hr, hrun, hended, hW, hsame⟩ := X0.leave (v := some (.int (0 : Int32))) (fun h => by rw [Bd.returns] at h; cases h)
          refine ⟨_, _, pre18 _ ?_, hrun, hended, _, _, rfl, ?_, ⟨_, rfl⟩, hW, hsame.mono (by decide) (by decide)⟩
          · show Steps p.tables e below (s₁.setTop (mkF m 35 #[.val (.int p2_0), .val (.int p2_1), .val (.int p2_2)] [(.int (0 : Int32))])) _
            exact retN X0 hx (t := .boolean) Bd.returns (by simp) (hb hby d2_35) hr
          · show Q2 Z p2_0 p2_1 p2_2 h0 n0 _ s₁.heap _
            rw [e0]
            exact ⟨(by rw [hret]), N0, rfl⟩
    · have pre19 : ∀ t, Steps p.tables e below (s₁.setTop (mkF m 35 #[.val (.int p2_0), .val (.int p2_1), .val (.int p2_2)] [(.int (0 : Int32))])) t → Steps p.tables e below (s₁.setTop (entryFrame m #[(.int p2_0), (.int p2_1), (.int p2_2)] 3)) t := fun t k => pre4 t (by
        refine XS.icmpYes X0.here hx rfl (pc0 := 7) (pc' := 34) rfl (hb hby d2_7) rfl (flt hc7_5).2.1 (by decide) (by decide) ?_
        show Steps p.tables e below (s₁.setTop (mkF m 34 #[.val (.int p2_0), .val (.int p2_1), .val (.int p2_2)] [])) _
        refine XS.iconst X0.here hx rfl (hb hby d2_34) ?_
        show Steps p.tables e below (s₁.setTop (mkF m 35 #[.val (.int p2_0), .val (.int p2_1), .val (.int p2_2)] [(.int (0 : Int32))])) _
        exact k)
      have hret : (r2 p2_0 p2_1 p2_2) = (0 : Int32) := by unfold r2; rw [if_neg hc1_2, if_neg hc7_5]
      obtain ⟨fs, hr, hrun, hended, hW, hsame⟩ := X0.leave (v := some (.int (0 : Int32))) (fun h => by rw [Bd.returns] at h; cases h)
      refine ⟨_, _, pre19 _ ?_, hrun, hended, _, _, rfl, ?_, ⟨_, rfl⟩, hW, hsame.mono (by decide) (by decide)⟩
      · show Steps p.tables e below (s₁.setTop (mkF m 35 #[.val (.int p2_0), .val (.int p2_1), .val (.int p2_2)] [(.int (0 : Int32))])) _
        exact retN X0 hx (t := .boolean) Bd.returns (by simp) (hb hby d2_35) hr
      · show Q2 Z p2_0 p2_1 p2_2 h0 n0 _ s₁.heap _
        rw [e0]
        exact ⟨(by rw [hret]), N0, rfl⟩
theorem pd_0 : parseMethodDescriptor "(II)Z" = some ⟨[.int, .int], some .boolean⟩ := by decide +kernel
theorem pd_1 : parseMethodDescriptor "(III)Z" = some ⟨[.int, .int, .int], some .boolean⟩ := by decide +kernel
theorem ef_0 (m : MethodId) (x0 : Int32) (x1 : Int32) (x2 : Int32) : entryFrame m #[(.int x0), (.int x1), (.int x2)] maxLocals = mkF m 0 #[.val (.int x0), .val (.int x1), .val (.int x2), .unset] [] := by first | (simp [entryFrame, mkF, argsToLocals, Value.category, maxLocals]; done) | rfl
def j0_32_s0 (p0_0 : Int32) (p0_1 : Int32) (p0_2 : Int32) : Int32 := (if (r1 p0_0 (24 : Int32)) = (0 : Int32) then (0 : Int32) else (if (r1 p0_1 (60 : Int32)) = (0 : Int32) then (0 : Int32) else (if (r1 p0_2 (60 : Int32)) = (0 : Int32) then (0 : Int32) else (1 : Int32))))
theorem own_below (v b : Int32) : (r1 v b = 0) = ¬ (v.toInt % 2 ^ 32 < b.toInt) := by
  have e : ((v.toInt64) &&& (4294967295 : Int64)).toInt = v.toInt % 2 ^ 32 := by rw [Jvm.Kit.i64_mask _ _ (k := 32) (by decide) (by decide), Jvm.Kit.i64_of_i32]
  unfold r1
  simp only [Int64.lt_iff_toInt_lt, e, Jvm.Kit.i64_of_i32]
  apply propext
  split
  · exact iff_of_false (by decide) (fun q => q (by assumption))
  · exact iff_of_true rfl (by assumption)
theorem own_main (a b c : Int32) : r2 a b c = j0_32_s0 a b c := by
  have ha := a.toInt_lt; have ha' := a.le_toInt
  have hb := b.toInt_lt; have hb' := b.le_toInt
  have hc := c.toInt_lt; have hc' := c.le_toInt
  unfold r2 j0_32_s0
  simp only [own_below, Int32.lt_iff_toInt_lt, show (0 : Int32).toInt = 0 from rfl, show (24 : Int32).toInt = 24 from rfl, show (60 : Int32).toInt = 60 from rfl]
  generalize a.toInt = x at *
  generalize b.toInt = y at *
  generalize c.toInt = z at *
  repeat' split
  all_goals first | rfl | omega
def Q0 (Z : State) (p0_0 : Int32) (p0_1 : Int32) (p0_2 : Int32) (h0 : Heap) (n0 : Nat) (v : Option Value) (h : Heap) (L : List Loc) : Prop := v = some (.int (1 : Int32)) ∧ Fr n0 L
set_option maxRecDepth 65536 in
set_option maxHeartbeats 40000000 in
theorem rm0 (l : Launch) (Z : State) (a0 : Array Value) (hw : ∀ d ∈ tables_1, d.before a0 Z = true) (ws : List Jvm.Cond) (p0_0 : Int32) (p0_1 : Int32) (p0_2 : Int32) (h0 : Heap) (n0 : Nat) (Z0 : n0 ≤ h0.size) :
    MetFree l x (head1 (Jvm.Cond.code x code maxLocals ret :: ws) room_1) (fun a U => a = #[(.int p0_0), (.int p0_1), (.int p0_2)] ∧ Z.Warmed39 U.vm ∧ U.heap = h0) (fun _ _ _ _ _ => True) (fun _ U o U' => ∃ v L, o = .returned v ∧ Q0 Z p0_0 p0_1 p0_2 h0 n0 v U'.heap L ∧ FrameEnd U o U' L room_1.cells room_1.slots) := by
  refine MetFree.of_bodySF (plainFor_of_name pn_0) hisR ?_
  intro p e s m args below meth c s₁ Bd hml0 hP hK
  obtain ⟨rfl, hZ, hh⟩ := hP
  have hx := Bd.exec
  have hby := Bd.bytes
  have hml : c.maxLocals = 4 := hml0
  have hown : s.vm.findClass "com/example/chronofield/chronofield/TimeFieldIsTimeOfDayPinLaw" = some m.cls := findClass_of_methodNamed Bd.named
  have hnm := (name_of_methodNamed Bd.named Bd.method).1
  have X0 : Stand p l e room_1 s m #[(.int p0_0), (.int p0_1), (.int p0_2)] below meth c s₁ [] 0 0 := Stand.of_body Bd
  have e0 : s₁.heap = h0 := by rw [← hh, Bd.state]; rfl
  have N0 := Fr.nil n0
  have pre0 : ∀ t, Steps p.tables e below (s₁.setTop (mkF m 0 #[.val (.int p0_0), .val (.int p0_1), .val (.int p0_2), .unset] [])) t → Steps p.tables e below (s₁.setTop (entryFrame m #[(.int p0_0), (.int p0_1), (.int p0_2)] maxLocals)) t := fun t k => castTop (ef_0 m p0_0 p0_1 p0_2) k
  have pre1 : ∀ t, Steps p.tables e below (s₁.setTop (mkF m 3 #[.val (.int p0_0), .val (.int p0_1), .val (.int p0_2), .unset] [(.int (24 : Int32)), (.int p0_0)])) t → Steps p.tables e below (s₁.setTop (entryFrame m #[(.int p0_0), (.int p0_1), (.int p0_2)] maxLocals)) t := fun t k => pre0 t (by
    refine XS.iloadN X0.here hx rfl (hb hby at_0) rfl ?_
    show Steps p.tables e below (s₁.setTop (mkF m 1 #[.val (.int p0_0), .val (.int p0_1), .val (.int p0_2), .unset] [(.int p0_0)])) _
    refine XS.bipush X0.here hx rfl (hb hby at_1) ?_
    show Steps p.tables e below (s₁.setTop (mkF m 3 #[.val (.int p0_0), .val (.int p0_1), .val (.int p0_2), .unset] [(.int (24 : Int32)), (.int p0_0)])) _
    exact k)
  obtain ⟨_, _, ⟨T2, L2, k2, n2⟩, -, X2, ⟨Lc2, hQ2, l2, y2, z2⟩, st2⟩ := Jvm.LawKit.callS X0 hx (y := (⟨"com/example/chronofield/chronofield/TimeFieldIsTimeOfDayPinLaw", "below", "(II)Z"⟩ : MethodName)) hown (mvT hZ (hw _ (List.mem_of_getElem? (i := 0) rfl))) (mvT hZ (hw _ (List.mem_of_getElem? (i := 1) rfl))) (mvT hZ (hw _ (List.mem_of_getElem? (i := 2) rfl))) (mvT hZ (hw _ (List.mem_of_getElem? (i := 3) rfl))) (by decide) (backOf (W := 0) (rm1 l Z a0 hw [] p0_0 (24 : Int32) h0 n0 Z0 ) hZ (hw _ (List.mem_of_getElem? (i := 3) rfl)) (hw _ (List.mem_of_getElem? (i := 2) rfl)) (by decide) (by decide)) (g := (mkF m 3 #[.val (.int p0_0), .val (.int p0_1), .val (.int p0_2), .unset] [(.int (24 : Int32)), (.int p0_0)])) rfl (by rw [hml]; rfl) (argsL := [(.int p0_0), (.int (24 : Int32))]) (rest := []) (lenOf pd_0 rfl) rfl (by show 2 * 0 + _ ≤ _; exact Nat.le_of_eq rfl) (hb hby at_3) (fun _ _ => ⟨rfl, e0, (by decide : 0 + 0 ≤ _), (by decide : 0 + 0 ≤ _)⟩)
  dsimp only [Pt.U, Pt.locs, Pt.cells, Pt.slots] at X2 l2 y2 z2 st2 hQ2
  subst l2 y2 z2
  obtain ⟨rfl, M2, e2⟩ := hQ2
  have N2 := Fr.app N0 M2
  have pre2 : ∀ t, Steps p.tables e below (T2.setTop (mkF m 6 #[.val (.int p0_0), .val (.int p0_1), .val (.int p0_2), .unset] [(.int (r1 p0_0 (24 : Int32)))])) t → Steps p.tables e below (s₁.setTop (entryFrame m #[(.int p0_0), (.int p0_1), (.int p0_2)] maxLocals)) t := fun t k => pre1 t (st2 t k)
  obtain ⟨T3, L3, X3, e3, N3, st3⟩ : ∃ (T' : State) (L' : List Loc), Stand p l e room_1 s m #[(.int p0_0), (.int p0_1), (.int p0_2)] below meth c T' L' 0 0 ∧ T'.heap = h0 ∧ Fr n0 L' ∧ ∀ t, Steps p.tables e below (T'.setTop (mkF m 32 #[.val (.int p0_0), .val (.int p0_1), .val (.int p0_2), .unset] [(.int (j0_32_s0 p0_0 p0_1 p0_2))])) t → Steps p.tables e below (T2.setTop (mkF m 6 #[.val (.int p0_0), .val (.int p0_1), .val (.int p0_2), .unset] [(.int (r1 p0_0 (24 : Int32)))])) t := by
    have pre3 : ∀ t, Steps p.tables e below (T2.setTop (mkF m 6 #[.val (.int p0_0), .val (.int p0_1), .val (.int p0_2), .unset] [(.int (r1 p0_0 (24 : Int32)))])) t → Steps p.tables e below (T2.setTop (mkF m 6 #[.val (.int p0_0), .val (.int p0_1), .val (.int p0_2), .unset] [(.int (r1 p0_0 (24 : Int32)))])) t := fun t k => k
    by_cases hc6_4 : (r1 p0_0 (24 : Int32)) = (0 : Int32)
    · have pre5 : ∀ t, Steps p.tables e below (T2.setTop (mkF m 32 #[.val (.int p0_0), .val (.int p0_1), .val (.int p0_2), .unset] [(.int (0 : Int32))])) t → Steps p.tables e below (T2.setTop (mkF m 6 #[.val (.int p0_0), .val (.int p0_1), .val (.int p0_2), .unset] [(.int (r1 p0_0 (24 : Int32)))])) t := fun t k => pre3 t (by
        refine XS.ifYes X2.here hx rfl (pc0 := 6) (pc' := 31) rfl (hb hby at_6) rfl ((if0 _ _).trans (teq hc6_4).1) (by decide) (by decide) ?_
        show Steps p.tables e below (T2.setTop (mkF m 31 #[.val (.int p0_0), .val (.int p0_1), .val (.int p0_2), .unset] [])) _
        refine XS.iconst X2.here hx rfl (hb hby at_31) ?_
        show Steps p.tables e below (T2.setTop (mkF m 32 #[.val (.int p0_0), .val (.int p0_1), .val (.int p0_2), .unset] [(.int (0 : Int32))])) _
        exact k)
      have hj15 : (j0_32_s0 p0_0 p0_1 p0_2) = (0 : Int32) := by unfold j0_32_s0; rw [if_pos hc6_4]
      exact ⟨T2, _, X2, e2, N2, fun t k => pre5 t (by rw [hj15] at k; exact k)⟩
    · have pre6 : ∀ t, Steps p.tables e below (T2.setTop (mkF m 12 #[.val (.int p0_0), .val (.int p0_1), .val (.int p0_2), .unset] [(.int (60 : Int32)), (.int p0_1)])) t → Steps p.tables e below (T2.setTop (mkF m 6 #[.val (.int p0_0), .val (.int p0_1), .val (.int p0_2), .unset] [(.int (r1 p0_0 (24 : Int32)))])) t := fun t k => pre3 t (by
        refine XS.ifNo X2.here hx rfl (hb hby at_6) rfl ((if0 _ _).trans (feq hc6_4).1) ?_
        show Steps p.tables e below (T2.setTop (mkF m 9 #[.val (.int p0_0), .val (.int p0_1), .val (.int p0_2), .unset] [])) _
        refine XS.iloadN X2.here hx rfl (hb hby at_9) rfl ?_
        show Steps p.tables e below (T2.setTop (mkF m 10 #[.val (.int p0_0), .val (.int p0_1), .val (.int p0_2), .unset] [(.int p0_1)])) _
        refine XS.bipush X2.here hx rfl (hb hby at_10) ?_
        show Steps p.tables e below (T2.setTop (mkF m 12 #[.val (.int p0_0), .val (.int p0_1), .val (.int p0_2), .unset] [(.int (60 : Int32)), (.int p0_1)])) _
        exact k)
      obtain ⟨_, _, ⟨T7, L7, k7, n7⟩, -, X7, ⟨Lc7, hQ7, l7, y7, z7⟩, st7⟩ := Jvm.LawKit.callS X2 hx (y := (⟨"com/example/chronofield/chronofield/TimeFieldIsTimeOfDayPinLaw", "below", "(II)Z"⟩ : MethodName)) hown (mvT hZ (hw _ (List.mem_of_getElem? (i := 0) rfl))) (mvT hZ (hw _ (List.mem_of_getElem? (i := 1) rfl))) (mvT hZ (hw _ (List.mem_of_getElem? (i := 2) rfl))) (mvT hZ (hw _ (List.mem_of_getElem? (i := 3) rfl))) (by decide) (backOf (W := 0) (rm1 l Z a0 hw [] p0_1 (60 : Int32) h0 n0 Z0 ) hZ (hw _ (List.mem_of_getElem? (i := 3) rfl)) (hw _ (List.mem_of_getElem? (i := 2) rfl)) (by decide) (by decide)) (g := (mkF m 12 #[.val (.int p0_0), .val (.int p0_1), .val (.int p0_2), .unset] [(.int (60 : Int32)), (.int p0_1)])) rfl (by rw [hml]; rfl) (argsL := [(.int p0_1), (.int (60 : Int32))]) (rest := []) (lenOf pd_0 rfl) rfl (by show 2 * 0 + _ ≤ _; exact Nat.le_of_eq rfl) (hb hby at_12) (fun _ _ => ⟨rfl, e2, (by decide : 0 + 0 ≤ _), (by decide : 0 + 0 ≤ _)⟩)
      dsimp only [Pt.U, Pt.locs, Pt.cells, Pt.slots] at X7 l7 y7 z7 st7 hQ7
      subst l7 y7 z7
      obtain ⟨rfl, M7, e7⟩ := hQ7
      have N7 := Fr.app N2 M7
      have pre7 : ∀ t, Steps p.tables e below (T7.setTop (mkF m 15 #[.val (.int p0_0), .val (.int p0_1), .val (.int p0_2), .unset] [(.int (r1 p0_1 (60 : Int32)))])) t → Steps p.tables e below (T2.setTop (mkF m 6 #[.val (.int p0_0), .val (.int p0_1), .val (.int p0_2), .unset] [(.int (r1 p0_0 (24 : Int32)))])) t := fun t k => pre6 t (st7 t k)
      by_cases hc15_8 : (r1 p0_1 (60 : Int32)) = (0 : Int32)
      · have pre9 : ∀ t, Steps p.tables e below (T7.setTop (mkF m 32 #[.val (.int p0_0), .val (.int p0_1), .val (.int p0_2), .unset] [(.int (0 : Int32))])) t → Steps p.tables e below (T2.setTop (mkF m 6 #[.val (.int p0_0), .val (.int p0_1), .val (.int p0_2), .unset] [(.int (r1 p0_0 (24 : Int32)))])) t := fun t k => pre7 t (by
          refine XS.ifYes X7.here hx rfl (pc0 := 15) (pc' := 31) rfl (hb hby at_15) rfl ((if0 _ _).trans (teq hc15_8).1) (by decide) (by decide) ?_
          show Steps p.tables e below (T7.setTop (mkF m 31 #[.val (.int p0_0), .val (.int p0_1), .val (.int p0_2), .unset] [])) _
          refine XS.iconst X7.here hx rfl (hb hby at_31) ?_
          show Steps p.tables e below (T7.setTop (mkF m 32 #[.val (.int p0_0), .val (.int p0_1), .val (.int p0_2), .unset] [(.int (0 : Int32))])) _
          exact k)
        have hj16 : (j0_32_s0 p0_0 p0_1 p0_2) = (0 : Int32) := by unfold j0_32_s0; rw [if_neg hc6_4, if_pos hc15_8]
        exact ⟨T7, _, X7, e7, N7, fun t k => pre9 t (by rw [hj16] at k; exact k)⟩
      · have pre10 : ∀ t, Steps p.tables e below (T7.setTop (mkF m 21 #[.val (.int p0_0), .val (.int p0_1), .val (.int p0_2), .unset] [(.int (60 : Int32)), (.int p0_2)])) t → Steps p.tables e below (T2.setTop (mkF m 6 #[.val (.int p0_0), .val (.int p0_1), .val (.int p0_2), .unset] [(.int (r1 p0_0 (24 : Int32)))])) t := fun t k => pre7 t (by
          refine XS.ifNo X7.here hx rfl (hb hby at_15) rfl ((if0 _ _).trans (feq hc15_8).1) ?_
          show Steps p.tables e below (T7.setTop (mkF m 18 #[.val (.int p0_0), .val (.int p0_1), .val (.int p0_2), .unset] [])) _
          refine XS.iloadN X7.here hx rfl (hb hby at_18) rfl ?_
          show Steps p.tables e below (T7.setTop (mkF m 19 #[.val (.int p0_0), .val (.int p0_1), .val (.int p0_2), .unset] [(.int p0_2)])) _
          refine XS.bipush X7.here hx rfl (hb hby at_19) ?_
          show Steps p.tables e below (T7.setTop (mkF m 21 #[.val (.int p0_0), .val (.int p0_1), .val (.int p0_2), .unset] [(.int (60 : Int32)), (.int p0_2)])) _
          exact k)
        obtain ⟨_, _, ⟨T11, L11, k11, n11⟩, -, X11, ⟨Lc11, hQ11, l11, y11, z11⟩, st11⟩ := Jvm.LawKit.callS X7 hx (y := (⟨"com/example/chronofield/chronofield/TimeFieldIsTimeOfDayPinLaw", "below", "(II)Z"⟩ : MethodName)) hown (mvT hZ (hw _ (List.mem_of_getElem? (i := 0) rfl))) (mvT hZ (hw _ (List.mem_of_getElem? (i := 1) rfl))) (mvT hZ (hw _ (List.mem_of_getElem? (i := 2) rfl))) (mvT hZ (hw _ (List.mem_of_getElem? (i := 3) rfl))) (by decide) (backOf (W := 0) (rm1 l Z a0 hw [] p0_2 (60 : Int32) h0 n0 Z0 ) hZ (hw _ (List.mem_of_getElem? (i := 3) rfl)) (hw _ (List.mem_of_getElem? (i := 2) rfl)) (by decide) (by decide)) (g := (mkF m 21 #[.val (.int p0_0), .val (.int p0_1), .val (.int p0_2), .unset] [(.int (60 : Int32)), (.int p0_2)])) rfl (by rw [hml]; rfl) (argsL := [(.int p0_2), (.int (60 : Int32))]) (rest := []) (lenOf pd_0 rfl) rfl (by show 2 * 0 + _ ≤ _; exact Nat.le_of_eq rfl) (hb hby at_21) (fun _ _ => ⟨rfl, e7, (by decide : 0 + 0 ≤ _), (by decide : 0 + 0 ≤ _)⟩)
        dsimp only [Pt.U, Pt.locs, Pt.cells, Pt.slots] at X11 l11 y11 z11 st11 hQ11
        subst l11 y11 z11
        obtain ⟨rfl, M11, e11⟩ := hQ11
        have N11 := Fr.app N7 M11
        have pre11 : ∀ t, Steps p.tables e below (T11.setTop (mkF m 24 #[.val (.int p0_0), .val (.int p0_1), .val (.int p0_2), .unset] [(.int (r1 p0_2 (60 : Int32)))])) t → Steps p.tables e below (T2.setTop (mkF m 6 #[.val (.int p0_0), .val (.int p0_1), .val (.int p0_2), .unset] [(.int (r1 p0_0 (24 : Int32)))])) t := fun t k => pre10 t (st11 t k)
        by_cases hc24_12 : (r1 p0_2 (60 : Int32)) = (0 : Int32)
        · have pre13 : ∀ t, Steps p.tables e below (T11.setTop (mkF m 32 #[.val (.int p0_0), .val (.int p0_1), .val (.int p0_2), .unset] [(.int (0 : Int32))])) t → Steps p.tables e below (T2.setTop (mkF m 6 #[.val (.int p0_0), .val (.int p0_1), .val (.int p0_2), .unset] [(.int (r1 p0_0 (24 : Int32)))])) t := fun t k => pre11 t (by
            refine XS.ifYes X11.here hx rfl (pc0 := 24) (pc' := 31) rfl (hb hby at_24) rfl ((if0 _ _).trans (teq hc24_12).1) (by decide) (by decide) ?_
            show Steps p.tables e below (T11.setTop (mkF m 31 #[.val (.int p0_0), .val (.int p0_1), .val (.int p0_2), .unset] [])) _
            refine XS.iconst X11.here hx rfl (hb hby at_31) ?_
            show Steps p.tables e below (T11.setTop (mkF m 32 #[.val (.int p0_0), .val (.int p0_1), .val (.int p0_2), .unset] [(.int (0 : Int32))])) _
            exact k)
          have hj17 : (j0_32_s0 p0_0 p0_1 p0_2) = (0 : Int32) := by unfold j0_32_s0; rw [if_neg hc6_4, if_neg hc15_8, if_pos hc24_12]
          exact ⟨T11, _, X11, e11, N11, fun t k => pre13 t (by rw [hj17] at k; exact k)⟩
        · have pre14 : ∀ t, Steps p.tables e below (T11.setTop (mkF m 32 #[.val (.int p0_0), .val (.int p0_1), .val (.int p0_2), .unset] [(.int (1 : Int32))])) t → Steps p.tables e below (T2.setTop (mkF m 6 #[.val (.int p0_0), .val (.int p0_1), .val (.int p0_2), .unset] [(.int (r1 p0_0 (24 : Int32)))])) t := fun t k => pre11 t (by
            refine XS.ifNo X11.here hx rfl (hb hby at_24) rfl ((if0 _ _).trans (feq hc24_12).1) ?_
            show Steps p.tables e below (T11.setTop (mkF m 27 #[.val (.int p0_0), .val (.int p0_1), .val (.int p0_2), .unset] [])) _
            refine XS.iconst X11.here hx rfl (hb hby at_27) ?_
            show Steps p.tables e below (T11.setTop (mkF m 28 #[.val (.int p0_0), .val (.int p0_1), .val (.int p0_2), .unset] [(.int (1 : Int32))])) _
            refine XS.goto X11.here hx rfl (pc0 := 28) (pc' := 32) rfl (hb hby at_28) (by decide) (by decide) ?_
            show Steps p.tables e below (T11.setTop (mkF m 32 #[.val (.int p0_0), .val (.int p0_1), .val (.int p0_2), .unset] [(.int (1 : Int32))])) _
            exact k)
          have hj18 : (j0_32_s0 p0_0 p0_1 p0_2) = (1 : Int32) := by unfold j0_32_s0; rw [if_neg hc6_4, if_neg hc15_8, if_neg hc24_12]
          exact ⟨T11, _, X11, e11, N11, fun t k => pre14 t (by rw [hj18] at k; exact k)⟩
  have pre3 : ∀ t, Steps p.tables e below (T3.setTop (mkF m 32 #[.val (.int p0_0), .val (.int p0_1), .val (.int p0_2), .unset] [(.int (j0_32_s0 p0_0 p0_1 p0_2))])) t → Steps p.tables e below (s₁.setTop (entryFrame m #[(.int p0_0), (.int p0_1), (.int p0_2)] maxLocals)) t := fun t k => pre2 t (st3 t k)
  have pre19 : ∀ t, Steps p.tables e below (T3.setTop (mkF m 36 #[.val (.int p0_0), .val (.int p0_1), .val (.int p0_2), .val (.int (j0_32_s0 p0_0 p0_1 p0_2))] [(.int p0_2), (.int p0_1), (.int p0_0)])) t → Steps p.tables e below (s₁.setTop (entryFrame m #[(.int p0_0), (.int p0_1), (.int p0_2)] maxLocals)) t := fun t k => pre3 t (by
    refine XS.istoreN X3.here hx rfl (hb hby at_32) rfl (l' := #[.val (.int p0_0), .val (.int p0_1), .val (.int p0_2), .val (.int (j0_32_s0 p0_0 p0_1 p0_2))]) rfl ?_
    show Steps p.tables e below (T3.setTop (mkF m 33 #[.val (.int p0_0), .val (.int p0_1), .val (.int p0_2), .val (.int (j0_32_s0 p0_0 p0_1 p0_2))] [])) _
    refine XS.iloadN X3.here hx rfl (hb hby at_33) rfl ?_
    show Steps p.tables e below (T3.setTop (mkF m 34 #[.val (.int p0_0), .val (.int p0_1), .val (.int p0_2), .val (.int (j0_32_s0 p0_0 p0_1 p0_2))] [(.int p0_0)])) _
    refine XS.iloadN X3.here hx rfl (hb hby at_34) rfl ?_
    show Steps p.tables e below (T3.setTop (mkF m 35 #[.val (.int p0_0), .val (.int p0_1), .val (.int p0_2), .val (.int (j0_32_s0 p0_0 p0_1 p0_2))] [(.int p0_1), (.int p0_0)])) _
    refine XS.iloadN X3.here hx rfl (hb hby at_35) rfl ?_
    show Steps p.tables e below (T3.setTop (mkF m 36 #[.val (.int p0_0), .val (.int p0_1), .val (.int p0_2), .val (.int (j0_32_s0 p0_0 p0_1 p0_2))] [(.int p0_2), (.int p0_1), (.int p0_0)])) _
    exact k)
  obtain ⟨_, _, ⟨T20, L20, k20, n20⟩, -, X20, ⟨Lc20, hQ20, l20, y20, z20⟩, st20⟩ := Jvm.LawKit.callS X3 hx (y := (⟨"com/example/chronofield/chronofield/TimeField", "isTimeOfDay", "(III)Z"⟩ : MethodName)) hown (mvT hZ (hw _ (List.mem_of_getElem? (i := 5) rfl))) (mvT hZ (hw _ (List.mem_of_getElem? (i := 6) rfl))) (mvT hZ (hw _ (List.mem_of_getElem? (i := 7) rfl))) (mvT hZ (hw _ (List.mem_of_getElem? (i := 8) rfl))) (by decide) (backOf (W := 0) (rm2 l Z a0 hw [] p0_0 p0_1 p0_2 h0 n0 Z0 ) hZ (hw _ (List.mem_of_getElem? (i := 8) rfl)) (hw _ (List.mem_of_getElem? (i := 7) rfl)) (by decide) (by decide)) (g := (mkF m 36 #[.val (.int p0_0), .val (.int p0_1), .val (.int p0_2), .val (.int (j0_32_s0 p0_0 p0_1 p0_2))] [(.int p0_2), (.int p0_1), (.int p0_0)])) rfl (by rw [hml]; rfl) (argsL := [(.int p0_0), (.int p0_1), (.int p0_2)]) (rest := []) (lenOf pd_1 rfl) rfl (by show 2 * 0 + _ ≤ _; exact Nat.le_of_eq rfl) (hb hby at_36) (fun _ _ => ⟨rfl, e3, (by decide : 0 + 0 ≤ _), (by decide : 0 + 0 ≤ _)⟩)
  dsimp only [Pt.U, Pt.locs, Pt.cells, Pt.slots] at X20 l20 y20 z20 st20 hQ20
  subst l20 y20 z20
  obtain ⟨rfl, M20, e20⟩ := hQ20
  have N20 := Fr.app N3 M20
  have pre20 : ∀ t, Steps p.tables e below (T20.setTop (mkF m 39 #[.val (.int p0_0), .val (.int p0_1), .val (.int p0_2), .val (.int (j0_32_s0 p0_0 p0_1 p0_2))] [(.int (r2 p0_0 p0_1 p0_2))])) t → Steps p.tables e below (s₁.setTop (entryFrame m #[(.int p0_0), (.int p0_1), (.int p0_2)] maxLocals)) t := fun t k => pre19 t (st20 t k)
  have pre22 : ∀ t, Steps p.tables e below (T20.setTop (mkF m 48 #[.val (.int p0_0), .val (.int p0_1), .val (.int p0_2), .val (.int (j0_32_s0 p0_0 p0_1 p0_2))] [(.int (1 : Int32))])) t → Steps p.tables e below (s₁.setTop (entryFrame m #[(.int p0_0), (.int p0_1), (.int p0_2)] maxLocals)) t := fun t k => pre20 t (by
    refine XS.iloadN X20.here hx rfl (hb hby at_39) rfl ?_
    show Steps p.tables e below (T20.setTop (mkF m 40 #[.val (.int p0_0), .val (.int p0_1), .val (.int p0_2), .val (.int (j0_32_s0 p0_0 p0_1 p0_2))] [(.int (j0_32_s0 p0_0 p0_1 p0_2)), (.int (r2 p0_0 p0_1 p0_2))])) _
    refine XS.icmpNo X20.here hx rfl (hb hby at_40) rfl (teq (show (r2 p0_0 p0_1 p0_2) = (j0_32_s0 p0_0 p0_1 p0_2) from (own_main p0_0 p0_1 p0_2))).2 ?_
    show Steps p.tables e below (T20.setTop (mkF m 43 #[.val (.int p0_0), .val (.int p0_1), .val (.int p0_2), .val (.int (j0_32_s0 p0_0 p0_1 p0_2))] [])) _
    refine XS.iconst X20.here hx rfl (hb hby at_43) ?_
    show Steps p.tables e below (T20.setTop (mkF m 44 #[.val (.int p0_0), .val (.int p0_1), .val (.int p0_2), .val (.int (j0_32_s0 p0_0 p0_1 p0_2))] [(.int (1 : Int32))])) _
    refine XS.goto X20.here hx rfl (pc0 := 44) (pc' := 48) rfl (hb hby at_44) (by decide) (by decide) ?_
    show Steps p.tables e below (T20.setTop (mkF m 48 #[.val (.int p0_0), .val (.int p0_1), .val (.int p0_2), .val (.int (j0_32_s0 p0_0 p0_1 p0_2))] [(.int (1 : Int32))])) _
    exact k)
  obtain ⟨fs, hr, hrun, hended, hW, hsame⟩ := X20.leave (v := some (.int (1 : Int32))) (fun h => by rw [Bd.returns] at h; cases h)
  refine ⟨_, _, pre22 _ ?_, hrun, hended, _, _, rfl, ?_, ⟨_, rfl⟩, hW, hsame.mono (by decide) (by decide)⟩
  · show Steps p.tables e below (T20.setTop (mkF m 48 #[.val (.int p0_0), .val (.int p0_1), .val (.int p0_2), .val (.int (j0_32_s0 p0_0 p0_1 p0_2))] [(.int (1 : Int32))])) _
    exact retN X20 hx (t := .boolean) Bd.returns (by simp) (hb hby at_48) hr
  · show Q0 Z p0_0 p0_1 p0_2 h0 n0 _ T20.heap _
    rw [e20]
    exact ⟨rfl, N20⟩
set_option maxRecDepth 65536 in
set_option maxHeartbeats 40000000 in
theorem comes_1 {Post : Tables → Env → Array Value → State → Outcome → State → Prop} (hpost : ∀ tb e args s v u, (limb_1_1.after args s (.returned v) u = true ∧ limb_1_2.after args s (.returned v) u = true ∧ True) → FrameEnd s (.returned v) u (Jvm.fieldLocs frame_1_writes args s ++ Jvm.arrayLocs frame_1_arrays args s ++ Jvm.staticLocs frame_1_statics s) 0 0 → Post tb e args s (.returned v) u) :
    ArmFor flags0 classFile x code maxLocals ret World_1 tables_1 room_1 Calls_1 rest_1 Pre_1 Post := by
  intro l hfl _ _ p e ha hc hk s m args below hf hA hF happ hP
  obtain ⟨hcalls, hrest, hpre⟩ := hP
  obtain ⟨-, -, -, hnamed, -, -, -, hat⟩ := (Spec.applies_iff hf).mp happ
  obtain ⟨hg, hn⟩ := and_e (Cond.before_iff.mp (show (Jvm.Cond.and given_1 narrow_1).before args s = true from hpre))
  obtain ⟨gc, g0⟩ := and_e hg
  obtain ⟨ga0, g1⟩ := and_e g0
  obtain ⟨ga1, g2⟩ := and_e g1
  obtain ⟨w0, w1, w2, rfl⟩ : ∃ w0 w1 w2 : Value, args = #[w0, w1, w2] := by
    have hs : args.size = 3 := by simpa [Cond.value, given_1] using gc
    obtain ⟨L⟩ := args
    match L, hs with
    | [w0, w1, w2], _ => exact ⟨w0, w1, w2, rfl⟩
  have hw := fun d (hd : d ∈ tables_1) => atoms_spec (ws := Jvm.Cond.code x code maxLocals ret :: tables_1) hat d (List.mem_cons_of_mem _ hd)
  obtain ⟨i0, ei0⟩ := is_v ga0
  obtain rfl : w0 = (.int i0) := Option.some.inj ei0
  obtain ⟨i1, ei1⟩ := is_v ga1
  obtain rfl : w1 = (.int i1) := Option.some.inj ei1
  obtain ⟨i2, ei2⟩ := is_v g2
  obtain rfl : w2 = (.int i2) := Option.some.inj ei2
  obtain ⟨n, o, h1, h2, h3, _, L, rfl, ⟨rfl, N⟩, hq⟩ := rm0 l s _ hw tables_1 i0 i1 i2  s.heap s.heap.size (Nat.le_refl _)  p e ha hc hk s m _ below hf ((Spec.applies_iff_loose hf).mp happ).1 ⟨rfl, State.Warmed39.refl s, rfl⟩ trivial
  refine ⟨n, _, h1, h2, h3, hpost _ _ _ _ _ _ ⟨Cond.after_iff.mpr rfl, Cond.after_iff.mpr (eq_i res_at (Term.int_eval (1)) rfl), trivial⟩ ⟨hq.1, hq.2.1, (hq.2.2.sift fun y hy => Or.inr (N y hy)).mono (by decide) (by decide)⟩⟩
theorem main_1_1 : Claimed_1_1 := comes_1 fun _ _ _ _ _ _ h hF => ⟨h.1, hF⟩
theorem main_1_2 : Claimed_1_2 := comes_1 fun _ _ _ _ _ _ h hF => ⟨h.2.1, hF⟩
end Jvm.Pilot.@@N@@
namespace Jvm.Pilot.@@N@@
open Jvm Jvm.ClassFile Sem Op Lib Jvm.Free Jvm.Stand Jvm.Pilot.@@N@@.Jvm.D
/-! MADE BY PROGRAM (witnessworld.py) out of the Statement's table words and the real class files: 9 classes; the members and pool entries that the words name. The judged class is class 1, her method 1. -/
namespace start1
open Jvm.ClassFile
def u (s : String) : CpInfo := .utf8 (stringToUtf16 s)
/-- a pool by its gaps: so many unusable entries, then the entry; so many at the end -/
def gap : Nat → List CpInfo → List CpInfo
  | 0, r => r
  | n + 1, r => .unusable :: gap n r
def poolList (es : List (Nat × CpInfo)) (last : Nat) : List CpInfo := es.foldr (fun e r => gap e.1 (e.2 :: r)) (gap last [])
def pool (es : List (Nat × CpInfo)) (last : Nat) : Array CpInfo := ⟨poolList es last⟩
def fileOf (pool : Array CpInfo) (this : Nat) (attrs : Array Attribute := #[]) (ms : Array MethodInfo := #[]) (fl : Nat := 33) (sup : Nat := 0) (ifs : Array Nat := #[]) (fds : Array FieldInfo := #[]) : ClassFile where
  minorVersion := 0
  majorVersion := 65
  constantPool := pool
  accessFlags := fl
  thisClass := this
  superClass := sup
  interfaces := ifs
  fields := fds
  methods := ms
  attributes := attrs
def plain (name : String) (sup : Option ClassId) : Class where
  name := name
  kind := .ordinary
  loader := none
  accessFlags := 33
  super := sup
  interfaces := #[]
  cf := none
  fields := #[]
  methods := #[]
  instanceTypes := #[]
  staticTypes := #[]
  resolved := #[]
  callSites := []
  init := .initialized
  statics := none
  mirror := none

def pool0 : Array CpInfo := pool [(5, u "<init>"), (0, u "()V"), (1, .class_ 10), (1, u "java/lang/Object")] 113

def k0m0 : Method := { name := "<init>", desc := "()V", sig := { parameters := [], returnType := none }, accessFlags := 1, code := none }
/-- java/lang/Object -/
def k0 : Class := { plain "java/lang/Object" none with
  accessFlags := 33
  interfaces := #[]
  cf := some (fileOf pool0 8 #[] #[{ accessFlags := 1, nameIndex := 5, descriptorIndex := 6, attributes := #[] }] 33 0 #[] #[])
  fields := #[]
  methods := #[k0m0]
  instanceTypes := #[]
  staticTypes := #[]
  resolved := Array.replicate 124 none
  statics := none }

def pool1 : Array CpInfo := pool [(2, .class_ 4), (1, u "java/lang/Object"), (0, u "<init>"), (0, u "()V"), (0, .methodref 8 9), (0, .class_ 10), (0, .nameAndType 11 12), (0, u "com/example/chronofield/chronofield/TimeFieldIsTimeOfDayPinLaw"), (0, u "below"), (0, u "(II)Z"), (0, .methodref 14 15), (0, .class_ 16), (0, .nameAndType 17 18), (0, u "com/example/chronofield/chronofield/TimeField"), (0, u "isTimeOfDay"), (0, u "(III)Z"), (0, .long 4294967295), (3, u "law")] 3

def k1m0 : Method := { name := "<init>", desc := "()V", sig := { parameters := [], returnType := none }, accessFlags := 2, code := none }
def k1c1 : Code := { maxStack := 3, maxLocals := 4, code := code, exceptionTable := #[], attributes := #[] }
def k1m1 : Method := { name := "law", desc := "(III)Z", sig := { parameters := [.int, .int, .int], returnType := some .boolean }, accessFlags := 9, code := some k1c1 }
def k1c2 : Code := { maxStack := 4, maxLocals := 2, code := method_3_code, exceptionTable := #[], attributes := #[] }
def k1m2 : Method := { name := "below", desc := "(II)Z", sig := { parameters := [.int, .int], returnType := some .boolean }, accessFlags := 10, code := some k1c2 }
/-- com/example/chronofield/chronofield/TimeFieldIsTimeOfDayPinLaw -/
def k1 : Class := { plain "com/example/chronofield/chronofield/TimeFieldIsTimeOfDayPinLaw" (some 0) with
  accessFlags := 49
  interfaces := #[]
  cf := some (fileOf pool1 8 #[] #[{ accessFlags := 2, nameIndex := 5, descriptorIndex := 6, attributes := #[] }, { accessFlags := 9, nameIndex := 23, descriptorIndex := 18, attributes := #[] }, { accessFlags := 10, nameIndex := 11, descriptorIndex := 12, attributes := #[] }] 49 2 #[] #[])
  fields := #[]
  methods := #[k1m0, k1m1, k1m2]
  instanceTypes := #[]
  staticTypes := #[]
  resolved := Array.replicate 27 none
  statics := none }

def pool2 : Array CpInfo := pool [(1, .class_ 2), (0, u "com/example/chronofield/chronofield/TimeField"), (1, .class_ 6), (1, u "java/lang/Object"), (4, u "text"), (0, u "Ljava/lang/String;"), (2, u "valid"), (0, u "Z"), (2, u "seconds"), (0, u "I"), (33, u "isTimeOfDay"), (0, u "(III)Z"), (46, u "LENGTH"), (2, u "SECONDS_PER_MINUTE"), (1, u "SECONDS_PER_HOUR"), (1, u "SECONDS_PER_DAY")] 31

def k2c0 : Code := { maxStack := 2, maxLocals := 3, code := prog_8_method_3_code, exceptionTable := #[], attributes := #[] }
def k2m0 : Method := { name := "isTimeOfDay", desc := "(III)Z", sig := { parameters := [.int, .int, .int], returnType := some .boolean }, accessFlags := 8, code := some k2c0 }
/-- com/example/chronofield/chronofield/TimeField -/
def k2 : Class := { plain "com/example/chronofield/chronofield/TimeField" (some 0) with
  accessFlags := 49
  interfaces := #[]
  cf := some (fileOf pool2 1 #[] #[{ accessFlags := 8, nameIndex := 54, descriptorIndex := 55, attributes := #[] }] 49 4 #[] #[{ accessFlags := 26, nameIndex := 102, descriptorIndex := 20, attributes := #[] }, { accessFlags := 26, nameIndex := 105, descriptorIndex := 20, attributes := #[] }, { accessFlags := 26, nameIndex := 107, descriptorIndex := 20, attributes := #[] }, { accessFlags := 24, nameIndex := 109, descriptorIndex := 20, attributes := #[] }, { accessFlags := 18, nameIndex := 11, descriptorIndex := 12, attributes := #[] }, { accessFlags := 18, nameIndex := 15, descriptorIndex := 16, attributes := #[] }, { accessFlags := 18, nameIndex := 19, descriptorIndex := 20, attributes := #[] }])
  fields := #[{ name := "LENGTH", type := .int, accessFlags := 26, slot := 0, constantValue := 0 }, { name := "SECONDS_PER_MINUTE", type := .int, accessFlags := 26, slot := 1, constantValue := 0 }, { name := "SECONDS_PER_HOUR", type := .int, accessFlags := 26, slot := 2, constantValue := 0 }, { name := "SECONDS_PER_DAY", type := .int, accessFlags := 24, slot := 3, constantValue := 0 }, { name := "text", type := (.object "java/lang/String"), accessFlags := 18, slot := 0, constantValue := 0 }, { name := "valid", type := .boolean, accessFlags := 18, slot := 1, constantValue := 0 }, { name := "seconds", type := .int, accessFlags := 18, slot := 2, constantValue := 0 }]
  methods := #[k2m0]
  instanceTypes := #[(.object "java/lang/String"), .boolean, .int]
  staticTypes := #[.int, .int, .int, .int]
  resolved := Array.replicate 141 none
  statics := none }

def pool3 : Array CpInfo := pool [(1, u "java/lang/Cloneable"), (0, .class_ 1), (0, u "java/lang/Object"), (0, .class_ 3)] 3

/-- java/lang/Cloneable -/
def k3 : Class := { plain "java/lang/Cloneable" (some 0) with
  accessFlags := 1537
  interfaces := #[]
  cf := some (fileOf pool3 2 #[] #[] 1537 4 #[] #[])
  fields := #[]
  methods := #[]
  instanceTypes := #[]
  staticTypes := #[]
  resolved := Array.replicate 8 none
  statics := none }

def pool4 : Array CpInfo := pool [(1, u "java/io/Serializable"), (0, .class_ 1), (0, u "java/lang/Object"), (0, .class_ 3)] 3

/-- java/io/Serializable -/
def k4 : Class := { plain "java/io/Serializable" (some 0) with
  accessFlags := 1537
  interfaces := #[]
  cf := some (fileOf pool4 2 #[] #[] 1537 4 #[] #[])
  fields := #[]
  methods := #[]
  instanceTypes := #[]
  staticTypes := #[]
  resolved := Array.replicate 8 none
  statics := none }

/-- the primitive byte -/
def k5 : Class := { plain "byte" none with kind := .primitive 'B', accessFlags := 0x411 }
/-- [B -/
def k6 : Class := { plain "[B" (some 0) with kind := .array 5 .byte, interfaces := #[3, 4], accessFlags := 1041 }

/-- the primitive int -/
def k7 : Class := { plain "int" none with kind := .primitive 'I', accessFlags := 0x411 }
/-- [I -/
def k8 : Class := { plain "[I" (some 0) with kind := .array 7 .int, interfaces := #[3, 4], accessFlags := 1041 }

def heap : Heap := #[]
def classes : Array Class := #[k0, k1, k2, k3, k4, k5, k6, k7, k8]
def interned : List (Array UInt16 × Addr) := []
def slotsUsed : Nat := 0
def theMethod : MethodId := ⟨1, 1⟩
def args0 : Array Value := #[.int 5, .int 300, .int 7]
def aboutOver (below : List Frame) : State where
  vm := { classes := classes, interned := interned.toArray }
  heap := heap
  slotsUsed := slotsUsed
  threads := #[{ frames := .invoking theMethod args0 :: below }]
def below0 : List Frame := [.native { method := ⟨0, 0⟩, args := #[] }]
def about1 : State := aboutOver below0
def p0 : Program := .bare "" "" ""
def e0 : Env := launch0.env 0 0 0
theorem w_frames : about1.frames = Frame.invoking theMethod args0 :: below0 := rfl
set_option maxRecDepth 65536 in
theorem w_args : argsFit about1.vm theMethod args0 = true := by decide +kernel
set_option maxRecDepth 65536 in
theorem w_heap : heapFits about1 = true := by decide +kernel
set_option maxRecDepth 65536 in
theorem w_runnable : about1.curStatus? = some .runnable := by decide +kernel
set_option maxRecDepth 65536 in
theorem w_alone : about1.alone = true := by decide +kernel
set_option maxRecDepth 65536 in
theorem w_named : about1.methodNamed? x = some theMethod := by decide +kernel
set_option maxRecDepth 65536 in
theorem w_hears : about1.hears theMethod below0 = true := by decide +kernel
set_option maxRecDepth 65536 in
theorem w_ripe : about1.ripe theMethod args0 below0 = true := by decide +kernel
theorem w_running : about1.status = .running := rfl
set_option maxRecDepth 65536 in
theorem w_room : about1.hasRoom e0.platform room_1 = true :=
  launch0.hasRoom_least _ room_1 (by decide +kernel) (by decide +kernel) (by decide +kernel) (by decide +kernel) (by decide +kernel) (by decide +kernel)
theorem allAtoms_all (ts : List Jvm.Cond) (a : Array Jvm.Value) (st : Jvm.State) : (allAtoms ts).before a st = ts.all (fun c => c.before a st) := by
  induction ts with
  | nil => rfl
  | cons c t ih =>
    show (Jvm.Cond.and c (allAtoms t)).before a st = _
    rw [Jvm.Cond.before_and, ih, List.all_cons]
def words1 : List Jvm.Cond := Jvm.Cond.code x code maxLocals ret :: tables_1
/-- a 'code' word, met by the world's own term for the bytes: nothing is compared byte by byte -/
theorem code_word {y : MethodName} {bytes : ByteArray} {mx : Nat} {rt : Option FieldType} {a : Array Value} {s : State} {m : MethodId} {meth : Method} {c : Code} (h1 : s.methodNamed? y = some m) (h2 : s.vm.method? m = some meth) (h3 : meth.code = some c) (h4 : c.code = bytes)
    (h5 : (c.maxLocals == mx && c.exceptionTable.isEmpty && decide (c.maxStack ≤ mostOperands) && decide (meth.sig.returnType = rt) && !meth.locks && decide (parseMethodDescriptor y.desc = some meth.sig)) = true) : (Jvm.Cond.code y bytes mx rt).before a s = true := by
  simp only [Bool.and_eq_true, beq_iff_eq, Bool.not_eq_true', decide_eq_true_eq] at h5
  obtain ⟨⟨⟨⟨⟨g1, g2⟩, g3⟩, g4⟩, g5⟩, g6⟩ := h5
  simp [Cond.before, Cond.holds, Cond.value, h1, h2, h3, h4, g1, g2, g3, g4, g5, g6]
def isCode : Jvm.Cond → Bool
  | .code _ _ _ _ => true
  | _ => false
theorem all_split {L : List Jvm.Cond} {P : Jvm.Cond → Bool} (h1 : L.all (fun c => isCode c || P c) = true) (h2 : ∀ c ∈ L.filter isCode, P c = true) : L.all P = true := by
  refine List.all_eq_true.mpr fun c hc => ?_
  have h := List.all_eq_true.mp h1 c hc
  rcases Bool.eq_false_or_eq_true (isCode c) with hi | hi
  · exact h2 c (List.mem_filter.mpr ⟨hc, hi⟩)
  · simpa [hi] using h
set_option maxRecDepth 65536 in
theorem w_c0 : (Jvm.Cond.code x code maxLocals ret).before args0 about1 = true := code_word (m := ⟨1, 1⟩) (meth := k1m1) (c := k1c1) (by decide +kernel) rfl rfl rfl (by decide +kernel)
set_option maxRecDepth 65536 in
theorem w_c1 : (Jvm.Cond.code ({ cls := "com/example/chronofield/chronofield/TimeFieldIsTimeOfDayPinLaw", name := "below", desc := "(II)Z" } : Jvm.MethodName) method_3_code (2 : Nat) (Option.some Jvm.ClassFile.FieldType.boolean)).before args0 about1 = true := code_word (m := ⟨1, 2⟩) (meth := k1m2) (c := k1c2) (by decide +kernel) rfl rfl rfl (by decide +kernel)
set_option maxRecDepth 65536 in
theorem w_c2 : (Jvm.Cond.code ({ cls := "com/example/chronofield/chronofield/TimeField", name := "isTimeOfDay", desc := "(III)Z" } : Jvm.MethodName) prog_8_method_3_code (3 : Nat) (Option.some Jvm.ClassFile.FieldType.boolean)).before args0 about1 = true := code_word (m := ⟨2, 0⟩) (meth := k2m0) (c := k2c0) (by decide +kernel) rfl rfl rfl (by decide +kernel)
def codes1 : List Jvm.Cond := [Jvm.Cond.code x code maxLocals ret, Jvm.Cond.code ({ cls := "com/example/chronofield/chronofield/TimeFieldIsTimeOfDayPinLaw", name := "below", desc := "(II)Z" } : Jvm.MethodName) method_3_code (2 : Nat) (Option.some Jvm.ClassFile.FieldType.boolean), Jvm.Cond.code ({ cls := "com/example/chronofield/chronofield/TimeField", name := "isTimeOfDay", desc := "(III)Z" } : Jvm.MethodName) prog_8_method_3_code (3 : Nat) (Option.some Jvm.ClassFile.FieldType.boolean)]
set_option maxRecDepth 65536 in
theorem codes_eq : words1.filter isCode = codes1 := rfl
theorem w_codes : ∀ c ∈ words1.filter isCode, c.before args0 about1 = true := by
  rw [codes_eq]
  intro c hc
  simp only [codes1, List.mem_cons, List.not_mem_nil, or_false] at hc
  rcases hc with rfl | rfl | rfl
  · exact w_c0
  · exact w_c1
  · exact w_c2
set_option maxRecDepth 65536 in
theorem w_t1 : words1.all (fun c => isCode c || c.before args0 about1) = true := by decide +kernel
theorem w_tables : (allAtoms (Jvm.Cond.code x code maxLocals ret :: tables_1)).before args0 about1 = true := by
  rw [allAtoms_all]
  show words1.all (fun c => c.before args0 about1) = true
  refine all_split ?_ w_codes
  rw [w_t1]
set_option maxRecDepth 65536 in
theorem w_case : (Jvm.Cond.and given_1 narrow_1).before args0 about1 = true := by decide +kernel
theorem w_applies : (headSpec (Jvm.Cond.code x code maxLocals ret :: tables_1) room_1).applies x e0.platform about1 = true :=
  (Spec.applies_iff w_frames).mpr ⟨w_running, w_runnable, w_alone, w_named, w_hears, w_ripe, w_room, w_tables⟩
theorem atStart : AtStart classFile x code maxLocals ret World_1 tables_1 room_1 Calls_1 rest_1 Pre_1 launch0 p0 e0 about1 theMethod args0 below0 :=
  ⟨lists_1, trivial, launch0.admits_env _ _ _, launch0.least_env, fairChoices_fair.cas, fairChoices_fair.clock, w_frames, w_args, w_heap, w_applies, trivial, trivial, w_case⟩
end start1
theorem witness_1 : WitnessClaimed_1 := ⟨start1.p0, start1.e0, start1.about1, start1.theMethod, start1.args0, start1.below0, start1.atStart⟩
end Jvm.Pilot.@@N@@
