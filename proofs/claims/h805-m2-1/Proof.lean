import JvmDerived
import JvmDerived.Pilot.@@N@@Statement
import JvmDerived.Pilot.@@N@@Code
set_option linter.unusedVariables false
set_option linter.unusedSimpArgs false
@@BLOCK:NumsL.lean.txt@@
namespace Jvm.Pilot.@@N@@
open Jvm Jvm.ClassFile Sem Op Lib Jvm.Free Jvm.Stand Jvm.LawKit Jvm.RoadKit Bundle Jvm.Pilot.@@N@@.Jvm.D
def own_shl (x y : Int32) : Int32 := x <<< (y &&& 31)
def own_shr (x y : Int32) : Int32 := x >>> (y &&& 31)
def own_ushr (x y : Int32) : Int32 := (x.toUInt32 >>> (y &&& 31).toUInt32).toInt32
def own_shlL (x : Int64) (y : Int32) : Int64 := x <<< (y &&& 0x3f).toInt64
def own_shrL (x : Int64) (y : Int32) : Int64 := x >>> (y &&& 0x3f).toInt64
def own_ushrL (x : Int64) (y : Int32) : Int64 := (x.toUInt64 >>> (y &&& 0x3f).toInt64.toUInt64).toInt64
def own_remL (x y : Int64) : Int64 := x - (x / y) * y
section OwnKit
variable {p : Program} {l : Launch} {e : Env} {R : Room} {s : State} {m : MethodId} {args : Array Value} {below : List Frame} {meth : Method} {c : Code} {T : State} {locs : List Loc} {cells slots : Nat} {Z : State} {h h' : Heap} {a b : Addr}
theorem retI (X : Stand p l e R s m args below meth c T locs cells slots) (hx : p.tables.exec = Jvm.exec) {pc : Nat} {Ls : Array Slot} {z : Int32} {rest : List Value} (hret : meth.sig.returnType = some .int) (hd : decode c.code pc = .ok (.ireturn, 1)) {fs : List Frame}
    (hl : ∀ (f : JFrame) (acts : List Action), f.method = m → f.locked = none → f.entered = [] → (doReturn e (T.setTop f) acts (some (.int z))).1 = T.setFrames fs) : Steps p.tables e below (T.setTop (mkF m pc Ls (.int z :: rest))) (T.setFrames fs) :=
  retOut X hx hret rfl (Or.inl ⟨rfl, Or.inl rfl, _, rfl⟩) hd hl
theorem own_retJ (X : Stand p l e R s m args below meth c T locs cells slots) (hx : p.tables.exec = Jvm.exec) {pc : Nat} {Ls : Array Slot} {z : Int64} {rest : List Value} (hret : meth.sig.returnType = some .long) (hd : decode c.code pc = .ok (.lreturn, 1)) {fs : List Frame}
    (hl : ∀ (f : JFrame) (acts : List Action), f.method = m → f.locked = none → f.entered = [] → (doReturn e (T.setTop f) acts (some (.long z))).1 = T.setFrames fs) : Steps p.tables e below (T.setTop (mkF m pc Ls (.long z :: rest))) (T.setFrames fs) :=
  retOut X hx hret rfl (Or.inr (Or.inl ⟨rfl, rfl, _, rfl⟩)) hd hl
end OwnKit
theorem d1_0 : decode jdk_29_method_65_code 0 = .ok (.iload_n 0, 1) := by decide +kernel
theorem d1_1 : decode jdk_29_method_65_code 1 = .ok (.iload_n 1, 1) := by decide +kernel
theorem d1_2 : decode jdk_29_method_65_code 2 = .ok (.if_icmp .lt 7, 3) := by decide +kernel
theorem d1_5 : decode jdk_29_method_65_code 5 = .ok (.iload_n 0, 1) := by decide +kernel
theorem d1_6 : decode jdk_29_method_65_code 6 = .ok (.goto 4, 3) := by decide +kernel
theorem d1_9 : decode jdk_29_method_65_code 9 = .ok (.iload_n 1, 1) := by decide +kernel
theorem d1_10 : decode jdk_29_method_65_code 10 = .ok (.ireturn, 1) := by decide +kernel
theorem ef_1 (m : MethodId) (x0 : Int32) (x1 : Int32) : entryFrame m #[(.int x0), (.int x1)] 2 = mkF m 0 #[.val (.int x0), .val (.int x1)] [] := by first | (simp [entryFrame, mkF, argsToLocals, Value.category]; done) | rfl
abbrev R1 : Room := { frames := 0, cells := 0, slots := 0, locals := 0 }
def r1 (p1_0 : Int32) (p1_1 : Int32) : Int32 := (if p1_0 < p1_1 then p1_1 else p1_0)
def Q1 (Z : State) (p1_0 : Int32) (p1_1 : Int32) (h0 : Heap) (n0 : Nat) (v : Option Value) (h : Heap) (L : List Loc) : Prop := v = some (.int (r1 p1_0 p1_1)) ∧ Fr n0 L ∧ h = h0
set_option maxRecDepth 65536 in
set_option maxHeartbeats 40000000 in
theorem rm1 (l : Launch) (Z : State) (a0 : Array Value) (hw : ∀ d ∈ tables_1, d.before a0 Z = true) (ws : List Jvm.Cond) (p1_0 : Int32) (p1_1 : Int32) (h0 : Heap) (n0 : Nat) (Z0 : n0 ≤ h0.size) :
    MetFree l (⟨"java/lang/Math", "max", "(II)I"⟩ : MethodName) (head1 (Jvm.Cond.code (⟨"java/lang/Math", "max", "(II)I"⟩ : MethodName) jdk_29_method_65_code 2 (some .int) :: ws) R1) (fun a U => a = #[(.int p1_0), (.int p1_1)] ∧ Z.Warmed39 U.vm ∧ U.heap = h0) (fun _ _ _ _ _ => True) (fun _ U o U' => ∃ v L, o = .returned v ∧ Q1 Z p1_0 p1_1 h0 n0 v U'.heap L ∧ FrameEnd U o U' L R1.cells R1.slots) := by
  refine MetFree.of_bodySF (Jvm.Free.JP.mathPlain rfl (by decide +kernel)) hisR ?_
  intro p e s m args below meth c s₁ Bd hml0 hP hK
  obtain ⟨rfl, hZ, hh⟩ := hP
  have hx := Bd.exec
  have hby := Bd.bytes
  have hml : c.maxLocals = 2 := hml0
  have hown : s.vm.findClass "java/lang/Math" = some m.cls := findClass_of_methodNamed Bd.named
  have hnm := (name_of_methodNamed Bd.named Bd.method).1
  have X0 : Stand p l e R1 s m #[(.int p1_0), (.int p1_1)] below meth c s₁ [] 0 0 := Stand.of_body Bd
  have e0 : s₁.heap = h0 := by rw [← hh, Bd.state]; rfl
  have N0 := Fr.nil n0
  have pre0 : ∀ t, Steps p.tables e below (s₁.setTop (mkF m 0 #[.val (.int p1_0), .val (.int p1_1)] [])) t → Steps p.tables e below (s₁.setTop (entryFrame m #[(.int p1_0), (.int p1_1)] 2)) t := fun t k => castTop (ef_1 m p1_0 p1_1) k
  have pre1 : ∀ t, Steps p.tables e below (s₁.setTop (mkF m 2 #[.val (.int p1_0), .val (.int p1_1)] [(.int p1_1), (.int p1_0)])) t → Steps p.tables e below (s₁.setTop (entryFrame m #[(.int p1_0), (.int p1_1)] 2)) t := fun t k => pre0 t (by
    refine XS.iloadN X0.here hx rfl (hb hby d1_0) rfl ?_
    show Steps p.tables e below (s₁.setTop (mkF m 1 #[.val (.int p1_0), .val (.int p1_1)] [(.int p1_0)])) _
    refine XS.iloadN X0.here hx rfl (hb hby d1_1) rfl ?_
    show Steps p.tables e below (s₁.setTop (mkF m 2 #[.val (.int p1_0), .val (.int p1_1)] [(.int p1_1), (.int p1_0)])) _
    exact k)
  by_cases hc2_2 : p1_0 < p1_1
  · have pre3 : ∀ t, Steps p.tables e below (s₁.setTop (mkF m 10 #[.val (.int p1_0), .val (.int p1_1)] [(.int p1_1)])) t → Steps p.tables e below (s₁.setTop (entryFrame m #[(.int p1_0), (.int p1_1)] 2)) t := fun t k => pre1 t (by
      refine XS.icmpYes X0.here hx rfl (pc0 := 2) (pc' := 9) rfl (hb hby d1_2) rfl (tlt hc2_2).1 (by decide) (by decide) ?_
      show Steps p.tables e below (s₁.setTop (mkF m 9 #[.val (.int p1_0), .val (.int p1_1)] [])) _
      refine XS.iloadN X0.here hx rfl (hb hby d1_9) rfl ?_
      show Steps p.tables e below (s₁.setTop (mkF m 10 #[.val (.int p1_0), .val (.int p1_1)] [(.int p1_1)])) _
      exact k)
    have hret : (r1 p1_0 p1_1) = p1_1 := by unfold r1; rw [if_pos hc2_2]
    obtain ⟨fs, hr, hrun, hended, hW, hsame⟩ := X0.leave (v := some (.int p1_1)) (fun h => by rw [Bd.returns] at h; cases h)
    refine ⟨_, _, pre3 _ ?_, hrun, hended, _, _, rfl, ?_, ⟨_, rfl⟩, hW, hsame.mono (by decide) (by decide)⟩
    · show Steps p.tables e below (s₁.setTop (mkF m 10 #[.val (.int p1_0), .val (.int p1_1)] [(.int p1_1)])) _
      exact retI X0 hx Bd.returns (hb hby d1_10) hr
    · show Q1 Z p1_0 p1_1 h0 n0 _ s₁.heap _
      rw [e0]
      exact ⟨(by rw [hret]), N0, rfl⟩
  · have pre4 : ∀ t, Steps p.tables e below (s₁.setTop (mkF m 10 #[.val (.int p1_0), .val (.int p1_1)] [(.int p1_0)])) t → Steps p.tables e below (s₁.setTop (entryFrame m #[(.int p1_0), (.int p1_1)] 2)) t := fun t k => pre1 t (by
      refine XS.icmpNo X0.here hx rfl (hb hby d1_2) rfl (flt hc2_2).1 ?_
      show Steps p.tables e below (s₁.setTop (mkF m 5 #[.val (.int p1_0), .val (.int p1_1)] [])) _
      refine XS.iloadN X0.here hx rfl (hb hby d1_5) rfl ?_
      show Steps p.tables e below (s₁.setTop (mkF m 6 #[.val (.int p1_0), .val (.int p1_1)] [(.int p1_0)])) _
      refine XS.goto X0.here hx rfl (pc0 := 6) (pc' := 10) rfl (hb hby d1_6) (by decide) (by decide) ?_
      show Steps p.tables e below (s₁.setTop (mkF m 10 #[.val (.int p1_0), .val (.int p1_1)] [(.int p1_0)])) _
      exact k)
    have hret : (r1 p1_0 p1_1) = p1_0 := by unfold r1; rw [if_neg hc2_2]
    obtain ⟨fs, hr, hrun, hended, hW, hsame⟩ := X0.leave (v := some (.int p1_0)) (fun h => by rw [Bd.returns] at h; cases h)
    refine ⟨_, _, pre4 _ ?_, hrun, hended, _, _, rfl, ?_, ⟨_, rfl⟩, hW, hsame.mono (by decide) (by decide)⟩
    · show Steps p.tables e below (s₁.setTop (mkF m 10 #[.val (.int p1_0), .val (.int p1_1)] [(.int p1_0)])) _
      exact retI X0 hx Bd.returns (hb hby d1_10) hr
    · show Q1 Z p1_0 p1_1 h0 n0 _ s₁.heap _
      rw [e0]
      exact ⟨(by rw [hret]), N0, rfl⟩
theorem pn_0 : plainName "relayout/LargestAddPinLaw" = true := by first | (simp [plainName, overriddenIn]; done) | decide +kernel
theorem d2_0 : decode method_2_code 0 = .ok (.iload_n 0, 1) := by decide +kernel
theorem d2_1 : decode method_2_code 1 = .ok (.iload_n 1, 1) := by decide +kernel
theorem d2_2 : decode method_2_code 2 = .ok (.if_icmp .ne 7, 3) := by decide +kernel
theorem d2_5 : decode method_2_code 5 = .ok (.iconst 1, 1) := by decide +kernel
theorem d2_6 : decode method_2_code 6 = .ok (.goto 4, 3) := by decide +kernel
theorem d2_9 : decode method_2_code 9 = .ok (.iconst 0, 1) := by decide +kernel
theorem d2_10 : decode method_2_code 10 = .ok (.ireturn, 1) := by decide +kernel
theorem ef_2 (m : MethodId) (x0 : Int32) (x1 : Int32) : entryFrame m #[(.int x0), (.int x1)] 2 = mkF m 0 #[.val (.int x0), .val (.int x1)] [] := by first | (simp [entryFrame, mkF, argsToLocals, Value.category]; done) | rfl
abbrev R2 : Room := { frames := 0, cells := 0, slots := 0, locals := 0 }
def r2 (p2_0 : Int32) (p2_1 : Int32) : Int32 := (if p2_0 = p2_1 then (1 : Int32) else (0 : Int32))
def Q2 (Z : State) (p2_0 : Int32) (p2_1 : Int32) (h0 : Heap) (n0 : Nat) (v : Option Value) (h : Heap) (L : List Loc) : Prop := v = some (.int (r2 p2_0 p2_1)) ∧ Fr n0 L ∧ h = h0
set_option maxRecDepth 65536 in
set_option maxHeartbeats 40000000 in
theorem rm2 (l : Launch) (Z : State) (a0 : Array Value) (hw : ∀ d ∈ tables_1, d.before a0 Z = true) (ws : List Jvm.Cond) (p2_0 : Int32) (p2_1 : Int32) (h0 : Heap) (n0 : Nat) (Z0 : n0 ≤ h0.size) :
    MetFree l (⟨"relayout/LargestAddPinLaw", "eq", "(II)I"⟩ : MethodName) (head1 (Jvm.Cond.code (⟨"relayout/LargestAddPinLaw", "eq", "(II)I"⟩ : MethodName) method_2_code 2 (some .int) :: ws) R2) (fun a U => a = #[(.int p2_0), (.int p2_1)] ∧ Z.Warmed39 U.vm ∧ U.heap = h0) (fun _ _ _ _ _ => True) (fun _ U o U' => ∃ v L, o = .returned v ∧ Q2 Z p2_0 p2_1 h0 n0 v U'.heap L ∧ FrameEnd U o U' L R2.cells R2.slots) := by
  refine MetFree.of_bodySF (plainFor_of_name pn_0) hisR ?_
  intro p e s m args below meth c s₁ Bd hml0 hP hK
  obtain ⟨rfl, hZ, hh⟩ := hP
  have hx := Bd.exec
  have hby := Bd.bytes
  have hml : c.maxLocals = 2 := hml0
  have hown : s.vm.findClass "relayout/LargestAddPinLaw" = some m.cls := findClass_of_methodNamed Bd.named
  have hnm := (name_of_methodNamed Bd.named Bd.method).1
  have X0 : Stand p l e R2 s m #[(.int p2_0), (.int p2_1)] below meth c s₁ [] 0 0 := Stand.of_body Bd
  have e0 : s₁.heap = h0 := by rw [← hh, Bd.state]; rfl
  have N0 := Fr.nil n0
  have pre0 : ∀ t, Steps p.tables e below (s₁.setTop (mkF m 0 #[.val (.int p2_0), .val (.int p2_1)] [])) t → Steps p.tables e below (s₁.setTop (entryFrame m #[(.int p2_0), (.int p2_1)] 2)) t := fun t k => castTop (ef_2 m p2_0 p2_1) k
  have pre1 : ∀ t, Steps p.tables e below (s₁.setTop (mkF m 2 #[.val (.int p2_0), .val (.int p2_1)] [(.int p2_1), (.int p2_0)])) t → Steps p.tables e below (s₁.setTop (entryFrame m #[(.int p2_0), (.int p2_1)] 2)) t := fun t k => pre0 t (by
    refine XS.iloadN X0.here hx rfl (hb hby d2_0) rfl ?_
    show Steps p.tables e below (s₁.setTop (mkF m 1 #[.val (.int p2_0), .val (.int p2_1)] [(.int p2_0)])) _
    refine XS.iloadN X0.here hx rfl (hb hby d2_1) rfl ?_
    show Steps p.tables e below (s₁.setTop (mkF m 2 #[.val (.int p2_0), .val (.int p2_1)] [(.int p2_1), (.int p2_0)])) _
    exact k)
  by_cases hc2_2 : p2_0 = p2_1
  · have pre3 : ∀ t, Steps p.tables e below (s₁.setTop (mkF m 10 #[.val (.int p2_0), .val (.int p2_1)] [(.int (1 : Int32))])) t → Steps p.tables e below (s₁.setTop (entryFrame m #[(.int p2_0), (.int p2_1)] 2)) t := fun t k => pre1 t (by
      refine XS.icmpNo X0.here hx rfl (hb hby d2_2) rfl (teq hc2_2).2 ?_
      show Steps p.tables e below (s₁.setTop (mkF m 5 #[.val (.int p2_0), .val (.int p2_1)] [])) _
      refine XS.iconst X0.here hx rfl (hb hby d2_5) ?_
      show Steps p.tables e below (s₁.setTop (mkF m 6 #[.val (.int p2_0), .val (.int p2_1)] [(.int (1 : Int32))])) _
      refine XS.goto X0.here hx rfl (pc0 := 6) (pc' := 10) rfl (hb hby d2_6) (by decide) (by decide) ?_
      show Steps p.tables e below (s₁.setTop (mkF m 10 #[.val (.int p2_0), .val (.int p2_1)] [(.int (1 : Int32))])) _
      exact k)
    have hret : (r2 p2_0 p2_1) = (1 : Int32) := by unfold r2; rw [if_pos hc2_2]
    obtain ⟨fs, hr, hrun, hended, hW, hsame⟩ := X0.leave (v := some (.int (1 : Int32))) (fun h => by rw [Bd.returns] at h; cases h)
    refine ⟨_, _, pre3 _ ?_, hrun, hended, _, _, rfl, ?_, ⟨_, rfl⟩, hW, hsame.mono (by decide) (by decide)⟩
    · show Steps p.tables e below (s₁.setTop (mkF m 10 #[.val (.int p2_0), .val (.int p2_1)] [(.int (1 : Int32))])) _
      exact retI X0 hx Bd.returns (hb hby d2_10) hr
    · show Q2 Z p2_0 p2_1 h0 n0 _ s₁.heap _
      rw [e0]
      exact ⟨(by rw [hret]), N0, rfl⟩
  · have pre4 : ∀ t, Steps p.tables e below (s₁.setTop (mkF m 10 #[.val (.int p2_0), .val (.int p2_1)] [(.int (0 : Int32))])) t → Steps p.tables e below (s₁.setTop (entryFrame m #[(.int p2_0), (.int p2_1)] 2)) t := fun t k => pre1 t (by
      refine XS.icmpYes X0.here hx rfl (pc0 := 2) (pc' := 9) rfl (hb hby d2_2) rfl (feq hc2_2).2 (by decide) (by decide) ?_
      show Steps p.tables e below (s₁.setTop (mkF m 9 #[.val (.int p2_0), .val (.int p2_1)] [])) _
      refine XS.iconst X0.here hx rfl (hb hby d2_9) ?_
      show Steps p.tables e below (s₁.setTop (mkF m 10 #[.val (.int p2_0), .val (.int p2_1)] [(.int (0 : Int32))])) _
      exact k)
    have hret : (r2 p2_0 p2_1) = (0 : Int32) := by unfold r2; rw [if_neg hc2_2]
    obtain ⟨fs, hr, hrun, hended, hW, hsame⟩ := X0.leave (v := some (.int (0 : Int32))) (fun h => by rw [Bd.returns] at h; cases h)
    refine ⟨_, _, pre4 _ ?_, hrun, hended, _, _, rfl, ?_, ⟨_, rfl⟩, hW, hsame.mono (by decide) (by decide)⟩
    · show Steps p.tables e below (s₁.setTop (mkF m 10 #[.val (.int p2_0), .val (.int p2_1)] [(.int (0 : Int32))])) _
      exact retI X0 hx Bd.returns (hb hby d2_10) hr
    · show Q2 Z p2_0 p2_1 h0 n0 _ s₁.heap _
      rw [e0]
      exact ⟨(by rw [hret]), N0, rfl⟩
theorem pn_1 : plainName "relayout/Largest" = true := by first | (simp [plainName, overriddenIn]; done) | decide +kernel
theorem d3_0 : decode prog_12_method_1_code 0 = .ok (.aload_n 0, 1) := by decide +kernel
theorem d3_1 : decode prog_12_method_1_code 1 = .ok (.invokespecial 1, 3) := by decide +kernel
theorem d3_4 : decode prog_12_method_1_code 4 = .ok (.return_, 1) := by decide +kernel
theorem ef_3 (m : MethodId) (x0 : Addr) : entryFrame m #[(.ref x0)] 1 = mkF m 0 #[.val (.ref x0)] [] := by first | (simp [entryFrame, mkF, argsToLocals, Value.category]; done) | rfl
abbrev R3 : Room := { frames := 1, cells := 0, slots := 0, locals := 12 }
def Q3 (Z : State) (a3_0 : Addr) (h0 : Heap) (n0 : Nat) (v : Option Value) (h : Heap) (L : List Loc) : Prop := v = none ∧ Fr n0 L ∧ h = h0
set_option maxRecDepth 65536 in
set_option maxHeartbeats 40000000 in
theorem rm3 (l : Launch) (Z : State) (a0 : Array Value) (hw : ∀ d ∈ tables_1, d.before a0 Z = true) (ws : List Jvm.Cond) (a3_0 : Addr) (h0 : Heap) (n0 : Nat) (Z0 : n0 ≤ h0.size) :
    MetFree l (⟨"relayout/Largest", "<init>", "()V"⟩ : MethodName) (head1 (Jvm.Cond.code (⟨"relayout/Largest", "<init>", "()V"⟩ : MethodName) prog_12_method_1_code 1 none :: ws) R3) (fun a U => a = #[(.ref a3_0)] ∧ Z.Warmed39 U.vm ∧ U.heap = h0) (fun _ _ _ _ _ => True) (fun _ U o U' => ∃ v L, o = .returned v ∧ Q3 Z a3_0 h0 n0 v U'.heap L ∧ FrameEnd U o U' L R3.cells R3.slots) := by
  refine MetFree.of_bodySF (plainFor_of_name pn_1) hisR ?_
  intro p e s m args below meth c s₁ Bd hml0 hP hK
  obtain ⟨rfl, hZ, hh⟩ := hP
  have hx := Bd.exec
  have hby := Bd.bytes
  have hml : c.maxLocals = 1 := hml0
  have hown : s.vm.findClass "relayout/Largest" = some m.cls := findClass_of_methodNamed Bd.named
  have hnm := (name_of_methodNamed Bd.named Bd.method).1
  have X0 : Stand p l e R3 s m #[(.ref a3_0)] below meth c s₁ [] 0 0 := Stand.of_body Bd
  have e0 : s₁.heap = h0 := by rw [← hh, Bd.state]; rfl
  have N0 := Fr.nil n0
  have pre0 : ∀ t, Steps p.tables e below (s₁.setTop (mkF m 0 #[.val (.ref a3_0)] [])) t → Steps p.tables e below (s₁.setTop (entryFrame m #[(.ref a3_0)] 1)) t := fun t k => castTop (ef_3 m a3_0) k
  have pre1 : ∀ t, Steps p.tables e below (s₁.setTop (mkF m 1 #[.val (.ref a3_0)] [(.ref a3_0)])) t → Steps p.tables e below (s₁.setTop (entryFrame m #[(.ref a3_0)] 1)) t := fun t k => pre0 t (by
    refine XS.aloadN X0.here hx rfl (hb hby d3_0) rfl rfl ?_
    show Steps p.tables e below (s₁.setTop (mkF m 1 #[.val (.ref a3_0)] [(.ref a3_0)])) _
    exact k)
  obtain ⟨T2, X2, e2, st2⟩ := initO X0 hx hZ hown (hw _ (List.mem_of_getElem? (i := 14) rfl)) (hw _ (List.mem_of_getElem? (i := 15) rfl)) (hw _ (List.mem_of_getElem? (i := 16) rfl)) e0 (g := (mkF m 1 #[.val (.ref a3_0)] [(.ref a3_0)])) rfl (by rw [hml]; rfl) rfl (hb hby d3_1) (by decide) (W := 0) (by show 2 * 0 + _ ≤ _; exact Nat.le_of_eq rfl) (by decide)
  have pre2 : ∀ t, Steps p.tables e below (T2.setTop (mkF m 4 #[.val (.ref a3_0)] [])) t → Steps p.tables e below (s₁.setTop (entryFrame m #[(.ref a3_0)] 1)) t := fun t k => pre1 t (st2 t k)
  obtain ⟨fs, hr, hrun, hended, hW, hsame⟩ := X2.leave (v := none) (fun _ => rfl)
  refine ⟨_, _, pre2 _ ?_, hrun, hended, _, _, rfl, ?_, ⟨_, rfl⟩, hW, hsame.mono (by decide) (by decide)⟩
  · show Steps p.tables e below (T2.setTop (mkF m 4 #[.val (.ref a3_0)] [])) _
    exact X2.returnOut hx Bd.returns (hb hby d3_4) hr
  · show Q3 Z a3_0 h0 n0 _ T2.heap _
    rw [e2]
    exact ⟨rfl, N0, rfl⟩
theorem d5_0 : decode prog_12_method_2_code 0 = .ok (.iload_n 1, 1) := by decide +kernel
theorem d5_1 : decode prog_12_method_2_code 1 = .ok (.aload_n 0, 1) := by decide +kernel
theorem d5_2 : decode prog_12_method_2_code 2 = .ok (.getfield 7, 3) := by decide +kernel
theorem d5_5 : decode prog_12_method_2_code 5 = .ok (.if_icmp .le 16, 3) := by decide +kernel
theorem d5_8 : decode prog_12_method_2_code 8 = .ok (.aload_n 0, 1) := by decide +kernel
theorem d5_9 : decode prog_12_method_2_code 9 = .ok (.iload_n 1, 1) := by decide +kernel
theorem d5_10 : decode prog_12_method_2_code 10 = .ok (.putfield 7, 3) := by decide +kernel
theorem d5_13 : decode prog_12_method_2_code 13 = .ok (.aload_n 0, 1) := by decide +kernel
theorem d5_14 : decode prog_12_method_2_code 14 = .ok (.iconst 1, 1) := by decide +kernel
theorem d5_15 : decode prog_12_method_2_code 15 = .ok (.putfield 13, 3) := by decide +kernel
theorem d5_18 : decode prog_12_method_2_code 18 = .ok (.goto 21, 3) := by decide +kernel
theorem d5_21 : decode prog_12_method_2_code 21 = .ok (.iload_n 1, 1) := by decide +kernel
theorem d5_22 : decode prog_12_method_2_code 22 = .ok (.aload_n 0, 1) := by decide +kernel
theorem d5_23 : decode prog_12_method_2_code 23 = .ok (.getfield 7, 3) := by decide +kernel
theorem d5_26 : decode prog_12_method_2_code 26 = .ok (.if_icmp .ne 13, 3) := by decide +kernel
theorem d5_29 : decode prog_12_method_2_code 29 = .ok (.aload_n 0, 1) := by decide +kernel
theorem d5_30 : decode prog_12_method_2_code 30 = .ok (.dup, 1) := by decide +kernel
theorem d5_31 : decode prog_12_method_2_code 31 = .ok (.getfield 13, 3) := by decide +kernel
theorem d5_34 : decode prog_12_method_2_code 34 = .ok (.iconst 1, 1) := by decide +kernel
theorem d5_35 : decode prog_12_method_2_code 35 = .ok (.iadd, 1) := by decide +kernel
theorem d5_36 : decode prog_12_method_2_code 36 = .ok (.putfield 13, 3) := by decide +kernel
theorem d5_39 : decode prog_12_method_2_code 39 = .ok (.return_, 1) := by decide +kernel
theorem ef_5 (m : MethodId) (x0 : Addr) (x1 : Int32) : entryFrame m #[(.ref x0), (.int x1)] 2 = mkF m 0 #[.val (.ref x0), .val (.int x1)] [] := by first | (simp [entryFrame, mkF, argsToLocals, Value.category]; done) | rfl
abbrev R5 : Room := { frames := 0, cells := 0, slots := 0, locals := 0 }
def v5_36 (w5_count : Int32) : Int32 := (w5_count + (1 : Int32))
def f5_size (p5_1 : Int32) (w5_size : Int32) : Int32 := (if w5_size < p5_1 then p5_1 else (if p5_1 = w5_size then w5_size else w5_size))
def f5_count (p5_1 : Int32) (w5_size : Int32) (w5_count : Int32) : Int32 := (if w5_size < p5_1 then (1 : Int32) else (if p5_1 = w5_size then (v5_36 w5_count) else w5_count))
def Q5 (Z : State) (a5_0 : Addr) (p5_1 : Int32) (w5_size : Int32) (w5_count : Int32) (h0 : Heap) (n0 : Nat) (v : Option Value) (h : Heap) (L : List Loc) : Prop := v = none ∧ Fr n0 L ∧ Keep h0 h [a5_0] ∧ Fld Z h a5_0 "relayout/Largest" "size" "I" (.int (f5_size p5_1 w5_size)) ∧ Fld Z h a5_0 "relayout/Largest" "count" "I" (.int (f5_count p5_1 w5_size w5_count))
set_option maxRecDepth 65536 in
set_option maxHeartbeats 40000000 in
theorem rm5 (l : Launch) (Z : State) (a0 : Array Value) (hw : ∀ d ∈ tables_1, d.before a0 Z = true) (ws : List Jvm.Cond) (a5_0 : Addr) (p5_1 : Int32) (w5_size : Int32) (w5_count : Int32) (h0 : Heap) (n0 : Nat) (Z0 : n0 ≤ h0.size) (E_a5_0 : Exa Z h0 a5_0 "relayout/Largest") (F_size_a5_0 : Fld Z h0 a5_0 "relayout/Largest" "size" "I" (.int w5_size)) (F_count_a5_0 : Fld Z h0 a5_0 "relayout/Largest" "count" "I" (.int w5_count)) (g_a5_0 : n0 ≤ a5_0) :
    MetFree l (⟨"relayout/Largest", "add", "(I)V"⟩ : MethodName) (head1 (Jvm.Cond.code (⟨"relayout/Largest", "add", "(I)V"⟩ : MethodName) prog_12_method_2_code 2 none :: ws) R5) (fun a U => a = #[(.ref a5_0), (.int p5_1)] ∧ Z.Warmed39 U.vm ∧ U.heap = h0) (fun _ _ _ _ _ => True) (fun _ U o U' => ∃ v L, o = .returned v ∧ Q5 Z a5_0 p5_1 w5_size w5_count h0 n0 v U'.heap L ∧ FrameEnd U o U' L R5.cells R5.slots) := by
  refine MetFree.of_bodySF (plainFor_of_name pn_1) hisR ?_
  intro p e s m args below meth c s₁ Bd hml0 hP hK
  obtain ⟨rfl, hZ, hh⟩ := hP
  have hx := Bd.exec
  have hby := Bd.bytes
  have hml : c.maxLocals = 2 := hml0
  have hown : s.vm.findClass "relayout/Largest" = some m.cls := findClass_of_methodNamed Bd.named
  have hnm := (name_of_methodNamed Bd.named Bd.method).1
  have X0 : Stand p l e R5 s m #[(.ref a5_0), (.int p5_1)] below meth c s₁ [] 0 0 := Stand.of_body Bd
  have e0 : s₁.heap = h0 := by rw [← hh, Bd.state]; rfl
  have N0 := Fr.nil n0
  have pre0 : ∀ t, Steps p.tables e below (s₁.setTop (mkF m 0 #[.val (.ref a5_0), .val (.int p5_1)] [])) t → Steps p.tables e below (s₁.setTop (entryFrame m #[(.ref a5_0), (.int p5_1)] 2)) t := fun t k => castTop (ef_5 m a5_0 p5_1) k
  have pre1 : ∀ t, Steps p.tables e below (s₁.setTop (mkF m 2 #[.val (.ref a5_0), .val (.int p5_1)] [(.ref a5_0), (.int p5_1)])) t → Steps p.tables e below (s₁.setTop (entryFrame m #[(.ref a5_0), (.int p5_1)] 2)) t := fun t k => pre0 t (by
    refine XS.iloadN X0.here hx rfl (hb hby d5_0) rfl ?_
    show Steps p.tables e below (s₁.setTop (mkF m 1 #[.val (.ref a5_0), .val (.int p5_1)] [(.int p5_1)])) _
    refine XS.aloadN X0.here hx rfl (hb hby d5_1) rfl rfl ?_
    show Steps p.tables e below (s₁.setTop (mkF m 2 #[.val (.ref a5_0), .val (.int p5_1)] [(.ref a5_0), (.int p5_1)])) _
    exact k)
  obtain ⟨T2, X2, e2, st2⟩ := getF X0 hx hZ hown (host := "") (Or.inl (hw _ (List.mem_of_getElem? (i := 22) rfl))) Via.refl e0 F_size_a5_0 (g := (mkF m 2 #[.val (.ref a5_0), .val (.int p5_1)] [(.ref a5_0), (.int p5_1)])) rfl rfl (hb hby d5_2)
  have pre2 : ∀ t, Steps p.tables e below (T2.setTop (mkF m 5 #[.val (.ref a5_0), .val (.int p5_1)] [(.int w5_size), (.int p5_1)])) t → Steps p.tables e below (s₁.setTop (entryFrame m #[(.ref a5_0), (.int p5_1)] 2)) t := fun t k => pre1 t (st2 t k)
  by_cases hc5_3 : w5_size < p5_1
  · have pre4 : ∀ t, Steps p.tables e below (T2.setTop (mkF m 10 #[.val (.ref a5_0), .val (.int p5_1)] [(.int p5_1), (.ref a5_0)])) t → Steps p.tables e below (s₁.setTop (entryFrame m #[(.ref a5_0), (.int p5_1)] 2)) t := fun t k => pre2 t (by
      refine XS.icmpNo X2.here hx rfl (hb hby d5_5) rfl (tlt hc5_3).2.2.2 ?_
      show Steps p.tables e below (T2.setTop (mkF m 8 #[.val (.ref a5_0), .val (.int p5_1)] [])) _
      refine XS.aloadN X2.here hx rfl (hb hby d5_8) rfl rfl ?_
      show Steps p.tables e below (T2.setTop (mkF m 9 #[.val (.ref a5_0), .val (.int p5_1)] [(.ref a5_0)])) _
      refine XS.iloadN X2.here hx rfl (hb hby d5_9) rfl ?_
      show Steps p.tables e below (T2.setTop (mkF m 10 #[.val (.ref a5_0), .val (.int p5_1)] [(.int p5_1), (.ref a5_0)])) _
      exact k)
    obtain ⟨T5, h5, X5, e5, W5, st5⟩ := putF X2 hx hZ hown (host := "") (Or.inl (hw _ (List.mem_of_getElem? (i := 22) rfl))) Via.refl e2 F_size_a5_0 E_a5_0 (Or.inl (hw _ (List.mem_of_getElem? (i := 23) rfl))) (hw _ (List.mem_of_getElem? (i := 9) rfl)) (ty := .int) (by decide) rfl rfl (g := (mkF m 10 #[.val (.ref a5_0), .val (.int p5_1)] [(.int p5_1), (.ref a5_0)])) rfl rfl (hb hby d5_10)
    have Ex6 : Exa Z h5 a5_0 "relayout/Largest" := E_a5_0.wr W5
    have F7 : Fld Z h5 a5_0 "relayout/Largest" "count" "I" (.int w5_count) := F_count_a5_0.other W5 (Or.inr (slot_ne (Or.inl (hw _ (List.mem_of_getElem? (i := 25) rfl))) (Or.inl (hw _ (List.mem_of_getElem? (i := 23) rfl))) (by decide) (t := .int) (t' := .int) (by decide) (by decide)))
    have N5 := Fr.snoc X5 N0 g_a5_0
    have Z5 : n0 ≤ h5.size := Nat.le_trans Z0 (Keep.of_wr W5).1
    have K5 : Keep h0 h5 [a5_0] := (Keep.refl h0 [a5_0]).wr W5 (Or.inl (by simp))
    have F8 : Fld Z h5 a5_0 "relayout/Largest" "size" "I" (.int p5_1) := F_size_a5_0.same W5
    have pre5 : ∀ t, Steps p.tables e below (T5.setTop (mkF m 13 #[.val (.ref a5_0), .val (.int p5_1)] [])) t → Steps p.tables e below (s₁.setTop (entryFrame m #[(.ref a5_0), (.int p5_1)] 2)) t := fun t k => pre4 t (st5 t k)
    have pre9 : ∀ t, Steps p.tables e below (T5.setTop (mkF m 15 #[.val (.ref a5_0), .val (.int p5_1)] [(.int (1 : Int32)), (.ref a5_0)])) t → Steps p.tables e below (s₁.setTop (entryFrame m #[(.ref a5_0), (.int p5_1)] 2)) t := fun t k => pre5 t (by
      refine XS.aloadN X5.here hx rfl (hb hby d5_13) rfl rfl ?_
      show Steps p.tables e below (T5.setTop (mkF m 14 #[.val (.ref a5_0), .val (.int p5_1)] [(.ref a5_0)])) _
      refine XS.iconst X5.here hx rfl (hb hby d5_14) ?_
      show Steps p.tables e below (T5.setTop (mkF m 15 #[.val (.ref a5_0), .val (.int p5_1)] [(.int (1 : Int32)), (.ref a5_0)])) _
      exact k)
    obtain ⟨T10, h10, X10, e10, W10, st10⟩ := putF X5 hx hZ hown (host := "") (Or.inl (hw _ (List.mem_of_getElem? (i := 24) rfl))) Via.refl e5 F7 Ex6 (Or.inl (hw _ (List.mem_of_getElem? (i := 25) rfl))) (hw _ (List.mem_of_getElem? (i := 9) rfl)) (ty := .int) (by decide) rfl rfl (g := (mkF m 15 #[.val (.ref a5_0), .val (.int p5_1)] [(.int (1 : Int32)), (.ref a5_0)])) rfl rfl (hb hby d5_15)
    have Ex11 : Exa Z h10 a5_0 "relayout/Largest" := Ex6.wr W10
    have F12 : Fld Z h10 a5_0 "relayout/Largest" "size" "I" (.int p5_1) := F8.other W10 (Or.inr (slot_ne (Or.inl (hw _ (List.mem_of_getElem? (i := 23) rfl))) (Or.inl (hw _ (List.mem_of_getElem? (i := 25) rfl))) (by decide) (t := .int) (t' := .int) (by decide) (by decide)))
    have N10 := Fr.snoc X10 N5 g_a5_0
    have Z10 : n0 ≤ h10.size := Nat.le_trans Z5 (Keep.of_wr W10).1
    have K10 : Keep h0 h10 [a5_0] := (K5).wr W10 (Or.inl (by simp))
    have F13 : Fld Z h10 a5_0 "relayout/Largest" "count" "I" (.int (1 : Int32)) := F7.same W10
    have pre10 : ∀ t, Steps p.tables e below (T10.setTop (mkF m 18 #[.val (.ref a5_0), .val (.int p5_1)] [])) t → Steps p.tables e below (s₁.setTop (entryFrame m #[(.ref a5_0), (.int p5_1)] 2)) t := fun t k => pre9 t (st10 t k)
    have pre14 : ∀ t, Steps p.tables e below (T10.setTop (mkF m 39 #[.val (.ref a5_0), .val (.int p5_1)] [])) t → Steps p.tables e below (s₁.setTop (entryFrame m #[(.ref a5_0), (.int p5_1)] 2)) t := fun t k => pre10 t (by
      refine XS.goto X10.here hx rfl (pc0 := 18) (pc' := 39) rfl (hb hby d5_18) (by decide) (by decide) ?_
      show Steps p.tables e below (T10.setTop (mkF m 39 #[.val (.ref a5_0), .val (.int p5_1)] [])) _
      exact k)
    have hf_count : (f5_count p5_1 w5_size w5_count) = (1 : Int32) := by unfold f5_count; rw [if_pos hc5_3]
    have hf_size : (f5_size p5_1 w5_size) = p5_1 := by unfold f5_size; rw [if_pos hc5_3]
    obtain ⟨fs, hr, hrun, hended, hW, hsame⟩ := X10.leave (v := none) (fun _ => rfl)
    refine ⟨_, _, pre14 _ ?_, hrun, hended, _, _, rfl, ?_, ⟨_, rfl⟩, hW, hsame.mono (by decide) (by decide)⟩
    · show Steps p.tables e below (T10.setTop (mkF m 39 #[.val (.ref a5_0), .val (.int p5_1)] [])) _
      exact X10.returnOut hx Bd.returns (hb hby d5_39) hr
    · show Q5 Z a5_0 p5_1 w5_size w5_count h0 n0 _ T10.heap _
      rw [e10]
      exact ⟨rfl, N10, K10, (by rw [hf_size]; exact F12), (by rw [hf_count]; exact F13)⟩
  · have pre15 : ∀ t, Steps p.tables e below (T2.setTop (mkF m 23 #[.val (.ref a5_0), .val (.int p5_1)] [(.ref a5_0), (.int p5_1)])) t → Steps p.tables e below (s₁.setTop (entryFrame m #[(.ref a5_0), (.int p5_1)] 2)) t := fun t k => pre2 t (by
      refine XS.icmpYes X2.here hx rfl (pc0 := 5) (pc' := 21) rfl (hb hby d5_5) rfl (flt hc5_3).2.2.2 (by decide) (by decide) ?_
      show Steps p.tables e below (T2.setTop (mkF m 21 #[.val (.ref a5_0), .val (.int p5_1)] [])) _
      refine XS.iloadN X2.here hx rfl (hb hby d5_21) rfl ?_
      show Steps p.tables e below (T2.setTop (mkF m 22 #[.val (.ref a5_0), .val (.int p5_1)] [(.int p5_1)])) _
      refine XS.aloadN X2.here hx rfl (hb hby d5_22) rfl rfl ?_
      show Steps p.tables e below (T2.setTop (mkF m 23 #[.val (.ref a5_0), .val (.int p5_1)] [(.ref a5_0), (.int p5_1)])) _
      exact k)
    obtain ⟨T16, X16, e16, st16⟩ := getF X2 hx hZ hown (host := "") (Or.inl (hw _ (List.mem_of_getElem? (i := 22) rfl))) Via.refl e2 F_size_a5_0 (g := (mkF m 23 #[.val (.ref a5_0), .val (.int p5_1)] [(.ref a5_0), (.int p5_1)])) rfl rfl (hb hby d5_23)
    have pre16 : ∀ t, Steps p.tables e below (T16.setTop (mkF m 26 #[.val (.ref a5_0), .val (.int p5_1)] [(.int w5_size), (.int p5_1)])) t → Steps p.tables e below (s₁.setTop (entryFrame m #[(.ref a5_0), (.int p5_1)] 2)) t := fun t k => pre15 t (st16 t k)
    by_cases hc26_17 : p5_1 = w5_size
    · have pre18 : ∀ t, Steps p.tables e below (T16.setTop (mkF m 31 #[.val (.ref a5_0), .val (.int p5_1)] [(.ref a5_0), (.ref a5_0)])) t → Steps p.tables e below (s₁.setTop (entryFrame m #[(.ref a5_0), (.int p5_1)] 2)) t := fun t k => pre16 t (by
        refine XS.icmpNo X16.here hx rfl (hb hby d5_26) rfl (teq hc26_17).2 ?_
        show Steps p.tables e below (T16.setTop (mkF m 29 #[.val (.ref a5_0), .val (.int p5_1)] [])) _
        refine XS.aloadN X16.here hx rfl (hb hby d5_29) rfl rfl ?_
        show Steps p.tables e below (T16.setTop (mkF m 30 #[.val (.ref a5_0), .val (.int p5_1)] [(.ref a5_0)])) _
        refine XS.dup X16.here hx rfl (hb hby d5_30) rfl rfl ?_
        show Steps p.tables e below (T16.setTop (mkF m 31 #[.val (.ref a5_0), .val (.int p5_1)] [(.ref a5_0), (.ref a5_0)])) _
        exact k)
      obtain ⟨T19, X19, e19, st19⟩ := getF X16 hx hZ hown (host := "") (Or.inl (hw _ (List.mem_of_getElem? (i := 24) rfl))) Via.refl e16 F_count_a5_0 (g := (mkF m 31 #[.val (.ref a5_0), .val (.int p5_1)] [(.ref a5_0), (.ref a5_0)])) rfl rfl (hb hby d5_31)
      have pre19 : ∀ t, Steps p.tables e below (T19.setTop (mkF m 34 #[.val (.ref a5_0), .val (.int p5_1)] [(.int w5_count), (.ref a5_0)])) t → Steps p.tables e below (s₁.setTop (entryFrame m #[(.ref a5_0), (.int p5_1)] 2)) t := fun t k => pre18 t (st19 t k)
      have pre20 : ∀ t, Steps p.tables e below (T19.setTop (mkF m 36 #[.val (.ref a5_0), .val (.int p5_1)] [(.int (w5_count + (1 : Int32))), (.ref a5_0)])) t → Steps p.tables e below (s₁.setTop (entryFrame m #[(.ref a5_0), (.int p5_1)] 2)) t := fun t k => pre19 t (by
        refine XS.iconst X19.here hx rfl (hb hby d5_34) ?_
        show Steps p.tables e below (T19.setTop (mkF m 35 #[.val (.ref a5_0), .val (.int p5_1)] [(.int (1 : Int32)), (.int w5_count), (.ref a5_0)])) _
        refine XS.iadd X19.here hx rfl (hb hby d5_35) rfl ?_
        show Steps p.tables e below (T19.setTop (mkF m 36 #[.val (.ref a5_0), .val (.int p5_1)] [(.int (w5_count + (1 : Int32))), (.ref a5_0)])) _
        exact k)
      obtain ⟨T21, h21, X21, e21, W21, st21⟩ := putF X19 hx hZ hown (host := "") (Or.inl (hw _ (List.mem_of_getElem? (i := 24) rfl))) Via.refl e19 F_count_a5_0 E_a5_0 (Or.inl (hw _ (List.mem_of_getElem? (i := 25) rfl))) (hw _ (List.mem_of_getElem? (i := 9) rfl)) (ty := .int) (by decide) rfl rfl (g := (mkF m 36 #[.val (.ref a5_0), .val (.int p5_1)] [(.int (v5_36 w5_count)), (.ref a5_0)])) rfl rfl (hb hby d5_36)
      have Ex22 : Exa Z h21 a5_0 "relayout/Largest" := E_a5_0.wr W21
      have F23 : Fld Z h21 a5_0 "relayout/Largest" "size" "I" (.int w5_size) := F_size_a5_0.other W21 (Or.inr (slot_ne (Or.inl (hw _ (List.mem_of_getElem? (i := 23) rfl))) (Or.inl (hw _ (List.mem_of_getElem? (i := 25) rfl))) (by decide) (t := .int) (t' := .int) (by decide) (by decide)))
      have N21 := Fr.snoc X21 N0 g_a5_0
      have Z21 : n0 ≤ h21.size := Nat.le_trans Z0 (Keep.of_wr W21).1
      have K21 : Keep h0 h21 [a5_0] := (Keep.refl h0 [a5_0]).wr W21 (Or.inl (by simp))
      have F24 : Fld Z h21 a5_0 "relayout/Largest" "count" "I" (.int (v5_36 w5_count)) := F_count_a5_0.same W21
      have pre21 : ∀ t, Steps p.tables e below (T21.setTop (mkF m 39 #[.val (.ref a5_0), .val (.int p5_1)] [])) t → Steps p.tables e below (s₁.setTop (entryFrame m #[(.ref a5_0), (.int p5_1)] 2)) t := fun t k => pre20 t (st21 t k)
      have hf_count : (f5_count p5_1 w5_size w5_count) = (v5_36 w5_count) := by unfold f5_count; rw [if_neg hc5_3, if_pos hc26_17]
      have hf_size : (f5_size p5_1 w5_size) = w5_size := by unfold f5_size; rw [if_neg hc5_3, if_pos hc26_17]
      obtain ⟨fs, hr, hrun, hended, hW, hsame⟩ := X21.leave (v := none) (fun _ => rfl)
      refine ⟨_, _, pre21 _ ?_, hrun, hended, _, _, rfl, ?_, ⟨_, rfl⟩, hW, hsame.mono (by decide) (by decide)⟩
      · show Steps p.tables e below (T21.setTop (mkF m 39 #[.val (.ref a5_0), .val (.int p5_1)] [])) _
        exact X21.returnOut hx Bd.returns (hb hby d5_39) hr
      · show Q5 Z a5_0 p5_1 w5_size w5_count h0 n0 _ T21.heap _
        rw [e21]
        exact ⟨rfl, N21, K21, (by rw [hf_size]; exact F23), (by rw [hf_count]; exact F24)⟩
    · have pre25 : ∀ t, Steps p.tables e below (T16.setTop (mkF m 39 #[.val (.ref a5_0), .val (.int p5_1)] [])) t → Steps p.tables e below (s₁.setTop (entryFrame m #[(.ref a5_0), (.int p5_1)] 2)) t := fun t k => pre16 t (by
        refine XS.icmpYes X16.here hx rfl (pc0 := 26) (pc' := 39) rfl (hb hby d5_26) rfl (feq hc26_17).2 (by decide) (by decide) ?_
        show Steps p.tables e below (T16.setTop (mkF m 39 #[.val (.ref a5_0), .val (.int p5_1)] [])) _
        exact k)
      have hf_count : (f5_count p5_1 w5_size w5_count) = w5_count := by unfold f5_count; rw [if_neg hc5_3, if_neg hc26_17]
      have hf_size : (f5_size p5_1 w5_size) = w5_size := by unfold f5_size; rw [if_neg hc5_3, if_neg hc26_17]
      obtain ⟨fs, hr, hrun, hended, hW, hsame⟩ := X16.leave (v := none) (fun _ => rfl)
      refine ⟨_, _, pre25 _ ?_, hrun, hended, _, _, rfl, ?_, ⟨_, rfl⟩, hW, hsame.mono (by decide) (by decide)⟩
      · show Steps p.tables e below (T16.setTop (mkF m 39 #[.val (.ref a5_0), .val (.int p5_1)] [])) _
        exact X16.returnOut hx Bd.returns (hb hby d5_39) hr
      · show Q5 Z a5_0 p5_1 w5_size w5_count h0 n0 _ T16.heap _
        rw [e16]
        exact ⟨rfl, N0, Keep.refl _ _, (by rw [hf_size]; exact F_size_a5_0), (by rw [hf_count]; exact F_count_a5_0)⟩
theorem d6_0 : decode prog_12_method_6_code 0 = .ok (.aload_n 0, 1) := by decide +kernel
theorem d6_1 : decode prog_12_method_6_code 1 = .ok (.getfield 7, 3) := by decide +kernel
theorem d6_4 : decode prog_12_method_6_code 4 = .ok (.ireturn, 1) := by decide +kernel
theorem ef_6 (m : MethodId) (x0 : Addr) : entryFrame m #[(.ref x0)] 1 = mkF m 0 #[.val (.ref x0)] [] := by first | (simp [entryFrame, mkF, argsToLocals, Value.category]; done) | rfl
abbrev R6 : Room := { frames := 0, cells := 0, slots := 0, locals := 0 }
def r6 (w6_size : Int32) : Int32 := w6_size
def Q6 (Z : State) (a6_0 : Addr) (w6_size : Int32) (h0 : Heap) (n0 : Nat) (v : Option Value) (h : Heap) (L : List Loc) : Prop := v = some (.int (r6 w6_size)) ∧ Fr n0 L ∧ h = h0
set_option maxRecDepth 65536 in
set_option maxHeartbeats 40000000 in
theorem rm6 (l : Launch) (Z : State) (a0 : Array Value) (hw : ∀ d ∈ tables_1, d.before a0 Z = true) (ws : List Jvm.Cond) (a6_0 : Addr) (w6_size : Int32) (h0 : Heap) (n0 : Nat) (Z0 : n0 ≤ h0.size) (F_size_a6_0 : Fld Z h0 a6_0 "relayout/Largest" "size" "I" (.int w6_size)) :
    MetFree l (⟨"relayout/Largest", "size", "()I"⟩ : MethodName) (head1 (Jvm.Cond.code (⟨"relayout/Largest", "size", "()I"⟩ : MethodName) prog_12_method_6_code 1 (some .int) :: ws) R6) (fun a U => a = #[(.ref a6_0)] ∧ Z.Warmed39 U.vm ∧ U.heap = h0) (fun _ _ _ _ _ => True) (fun _ U o U' => ∃ v L, o = .returned v ∧ Q6 Z a6_0 w6_size h0 n0 v U'.heap L ∧ FrameEnd U o U' L R6.cells R6.slots) := by
  refine MetFree.of_bodySF (plainFor_of_name pn_1) hisR ?_
  intro p e s m args below meth c s₁ Bd hml0 hP hK
  obtain ⟨rfl, hZ, hh⟩ := hP
  have hx := Bd.exec
  have hby := Bd.bytes
  have hml : c.maxLocals = 1 := hml0
  have hown : s.vm.findClass "relayout/Largest" = some m.cls := findClass_of_methodNamed Bd.named
  have hnm := (name_of_methodNamed Bd.named Bd.method).1
  have X0 : Stand p l e R6 s m #[(.ref a6_0)] below meth c s₁ [] 0 0 := Stand.of_body Bd
  have e0 : s₁.heap = h0 := by rw [← hh, Bd.state]; rfl
  have N0 := Fr.nil n0
  have pre0 : ∀ t, Steps p.tables e below (s₁.setTop (mkF m 0 #[.val (.ref a6_0)] [])) t → Steps p.tables e below (s₁.setTop (entryFrame m #[(.ref a6_0)] 1)) t := fun t k => castTop (ef_6 m a6_0) k
  have pre1 : ∀ t, Steps p.tables e below (s₁.setTop (mkF m 1 #[.val (.ref a6_0)] [(.ref a6_0)])) t → Steps p.tables e below (s₁.setTop (entryFrame m #[(.ref a6_0)] 1)) t := fun t k => pre0 t (by
    refine XS.aloadN X0.here hx rfl (hb hby d6_0) rfl rfl ?_
    show Steps p.tables e below (s₁.setTop (mkF m 1 #[.val (.ref a6_0)] [(.ref a6_0)])) _
    exact k)
  obtain ⟨T2, X2, e2, st2⟩ := getF X0 hx hZ hown (host := "") (Or.inl (hw _ (List.mem_of_getElem? (i := 22) rfl))) Via.refl e0 F_size_a6_0 (g := (mkF m 1 #[.val (.ref a6_0)] [(.ref a6_0)])) rfl rfl (hb hby d6_1)
  have pre2 : ∀ t, Steps p.tables e below (T2.setTop (mkF m 4 #[.val (.ref a6_0)] [(.int w6_size)])) t → Steps p.tables e below (s₁.setTop (entryFrame m #[(.ref a6_0)] 1)) t := fun t k => pre1 t (st2 t k)
  obtain ⟨fs, hr, hrun, hended, hW, hsame⟩ := X2.leave (v := some (.int w6_size)) (fun h => by rw [Bd.returns] at h; cases h)
  refine ⟨_, _, pre2 _ ?_, hrun, hended, _, _, rfl, ?_, ⟨_, rfl⟩, hW, hsame.mono (by decide) (by decide)⟩
  · show Steps p.tables e below (T2.setTop (mkF m 4 #[.val (.ref a6_0)] [(.int w6_size)])) _
    exact retI X2 hx Bd.returns (hb hby d6_4) hr
  · show Q6 Z a6_0 w6_size h0 n0 _ T2.heap _
    rw [e2]
    exact ⟨rfl, N0, rfl⟩
theorem d7_0 : decode prog_12_method_4_code 0 = .ok (.aload_n 0, 1) := by decide +kernel
theorem d7_1 : decode prog_12_method_4_code 1 = .ok (.getfield 13, 3) := by decide +kernel
theorem d7_4 : decode prog_12_method_4_code 4 = .ok (.ifCond .gt 10, 3) := by decide +kernel
theorem d7_7 : decode prog_12_method_4_code 7 = .ok (.aload_n 0, 1) := by decide +kernel
theorem d7_8 : decode prog_12_method_4_code 8 = .ok (.getfield 7, 3) := by decide +kernel
theorem d7_11 : decode prog_12_method_4_code 11 = .ok (.ifCond .ne 7, 3) := by decide +kernel
theorem d7_14 : decode prog_12_method_4_code 14 = .ok (.iconst 1, 1) := by decide +kernel
theorem d7_15 : decode prog_12_method_4_code 15 = .ok (.goto 4, 3) := by decide +kernel
theorem d7_18 : decode prog_12_method_4_code 18 = .ok (.iconst 0, 1) := by decide +kernel
theorem d7_19 : decode prog_12_method_4_code 19 = .ok (.ireturn, 1) := by decide +kernel
theorem ef_7 (m : MethodId) (x0 : Addr) : entryFrame m #[(.ref x0)] 1 = mkF m 0 #[.val (.ref x0)] [] := by first | (simp [entryFrame, mkF, argsToLocals, Value.category]; done) | rfl
abbrev R7 : Room := { frames := 0, cells := 0, slots := 0, locals := 0 }
def r7 (w7_count : Int32) (w7_size : Int32) : Int32 := (if (0 : Int32) < w7_count then (1 : Int32) else (if w7_size = (0 : Int32) then (1 : Int32) else (0 : Int32)))
def Q7 (Z : State) (a7_0 : Addr) (w7_count : Int32) (w7_size : Int32) (h0 : Heap) (n0 : Nat) (v : Option Value) (h : Heap) (L : List Loc) : Prop := v = some (.int (r7 w7_count w7_size)) ∧ Fr n0 L ∧ h = h0
set_option maxRecDepth 65536 in
set_option maxHeartbeats 40000000 in
theorem rm7 (l : Launch) (Z : State) (a0 : Array Value) (hw : ∀ d ∈ tables_1, d.before a0 Z = true) (ws : List Jvm.Cond) (a7_0 : Addr) (w7_count : Int32) (w7_size : Int32) (h0 : Heap) (n0 : Nat) (Z0 : n0 ≤ h0.size) (F_count_a7_0 : Fld Z h0 a7_0 "relayout/Largest" "count" "I" (.int w7_count)) (F_size_a7_0 : Fld Z h0 a7_0 "relayout/Largest" "size" "I" (.int w7_size)) :
    MetFree l (⟨"relayout/Largest", "holds", "()Z"⟩ : MethodName) (head1 (Jvm.Cond.code (⟨"relayout/Largest", "holds", "()Z"⟩ : MethodName) prog_12_method_4_code 1 (some .boolean) :: ws) R7) (fun a U => a = #[(.ref a7_0)] ∧ Z.Warmed39 U.vm ∧ U.heap = h0) (fun _ _ _ _ _ => True) (fun _ U o U' => ∃ v L, o = .returned v ∧ Q7 Z a7_0 w7_count w7_size h0 n0 v U'.heap L ∧ FrameEnd U o U' L R7.cells R7.slots) := by
  refine MetFree.of_bodySF (plainFor_of_name pn_1) hisR ?_
  intro p e s m args below meth c s₁ Bd hml0 hP hK
  obtain ⟨rfl, hZ, hh⟩ := hP
  have hx := Bd.exec
  have hby := Bd.bytes
  have hml : c.maxLocals = 1 := hml0
  have hown : s.vm.findClass "relayout/Largest" = some m.cls := findClass_of_methodNamed Bd.named
  have hnm := (name_of_methodNamed Bd.named Bd.method).1
  have X0 : Stand p l e R7 s m #[(.ref a7_0)] below meth c s₁ [] 0 0 := Stand.of_body Bd
  have e0 : s₁.heap = h0 := by rw [← hh, Bd.state]; rfl
  have N0 := Fr.nil n0
  have pre0 : ∀ t, Steps p.tables e below (s₁.setTop (mkF m 0 #[.val (.ref a7_0)] [])) t → Steps p.tables e below (s₁.setTop (entryFrame m #[(.ref a7_0)] 1)) t := fun t k => castTop (ef_7 m a7_0) k
  have pre1 : ∀ t, Steps p.tables e below (s₁.setTop (mkF m 1 #[.val (.ref a7_0)] [(.ref a7_0)])) t → Steps p.tables e below (s₁.setTop (entryFrame m #[(.ref a7_0)] 1)) t := fun t k => pre0 t (by
    refine XS.aloadN X0.here hx rfl (hb hby d7_0) rfl rfl ?_
    show Steps p.tables e below (s₁.setTop (mkF m 1 #[.val (.ref a7_0)] [(.ref a7_0)])) _
    exact k)
  obtain ⟨T2, X2, e2, st2⟩ := getF X0 hx hZ hown (host := "") (Or.inl (hw _ (List.mem_of_getElem? (i := 24) rfl))) Via.refl e0 F_count_a7_0 (g := (mkF m 1 #[.val (.ref a7_0)] [(.ref a7_0)])) rfl rfl (hb hby d7_1)
  have pre2 : ∀ t, Steps p.tables e below (T2.setTop (mkF m 4 #[.val (.ref a7_0)] [(.int w7_count)])) t → Steps p.tables e below (s₁.setTop (entryFrame m #[(.ref a7_0)] 1)) t := fun t k => pre1 t (st2 t k)
  by_cases hc4_3 : (0 : Int32) < w7_count
  · have pre4 : ∀ t, Steps p.tables e below (T2.setTop (mkF m 19 #[.val (.ref a7_0)] [(.int (1 : Int32))])) t → Steps p.tables e below (s₁.setTop (entryFrame m #[(.ref a7_0)] 1)) t := fun t k => pre2 t (by
      refine XS.ifYes X2.here hx rfl (pc0 := 4) (pc' := 14) rfl (hb hby d7_4) rfl ((if0 _ _).trans (tlt hc4_3).2.2.1) (by decide) (by decide) ?_
      show Steps p.tables e below (T2.setTop (mkF m 14 #[.val (.ref a7_0)] [])) _
      refine XS.iconst X2.here hx rfl (hb hby d7_14) ?_
      show Steps p.tables e below (T2.setTop (mkF m 15 #[.val (.ref a7_0)] [(.int (1 : Int32))])) _
      refine XS.goto X2.here hx rfl (pc0 := 15) (pc' := 19) rfl (hb hby d7_15) (by decide) (by decide) ?_
      show Steps p.tables e below (T2.setTop (mkF m 19 #[.val (.ref a7_0)] [(.int (1 : Int32))])) _
      exact k)
    have hret : (r7 w7_count w7_size) = (1 : Int32) := by unfold r7; rw [if_pos hc4_3]
    obtain ⟨fs, hr, hrun, hended, hW, hsame⟩ := X2.leave (v := some (.int (1 : Int32))) (fun h => by rw [Bd.returns] at h; cases h)
    refine ⟨_, _, pre4 _ ?_, hrun, hended, _, _, rfl, ?_, ⟨_, rfl⟩, hW, hsame.mono (by decide) (by decide)⟩
    · show Steps p.tables e below (T2.setTop (mkF m 19 #[.val (.ref a7_0)] [(.int (1 : Int32))])) _
      exact retN X2 hx (t := .boolean) Bd.returns (by simp) (hb hby d7_19) hr
    · show Q7 Z a7_0 w7_count w7_size h0 n0 _ T2.heap _
      rw [e2]
      exact ⟨(by rw [hret]), N0, rfl⟩
  · have pre5 : ∀ t, Steps p.tables e below (T2.setTop (mkF m 8 #[.val (.ref a7_0)] [(.ref a7_0)])) t → Steps p.tables e below (s₁.setTop (entryFrame m #[(.ref a7_0)] 1)) t := fun t k => pre2 t (by
      refine XS.ifNo X2.here hx rfl (hb hby d7_4) rfl ((if0 _ _).trans (flt hc4_3).2.2.1) ?_
      show Steps p.tables e below (T2.setTop (mkF m 7 #[.val (.ref a7_0)] [])) _
      refine XS.aloadN X2.here hx rfl (hb hby d7_7) rfl rfl ?_
      show Steps p.tables e below (T2.setTop (mkF m 8 #[.val (.ref a7_0)] [(.ref a7_0)])) _
      exact k)
    obtain ⟨T6, X6, e6, st6⟩ := getF X2 hx hZ hown (host := "") (Or.inl (hw _ (List.mem_of_getElem? (i := 22) rfl))) Via.refl e2 F_size_a7_0 (g := (mkF m 8 #[.val (.ref a7_0)] [(.ref a7_0)])) rfl rfl (hb hby d7_8)
    have pre6 : ∀ t, Steps p.tables e below (T6.setTop (mkF m 11 #[.val (.ref a7_0)] [(.int w7_size)])) t → Steps p.tables e below (s₁.setTop (entryFrame m #[(.ref a7_0)] 1)) t := fun t k => pre5 t (st6 t k)
    by_cases hc11_7 : w7_size = (0 : Int32)
    · have pre8 : ∀ t, Steps p.tables e below (T6.setTop (mkF m 19 #[.val (.ref a7_0)] [(.int (1 : Int32))])) t → Steps p.tables e below (s₁.setTop (entryFrame m #[(.ref a7_0)] 1)) t := fun t k => pre6 t (by
        refine XS.ifNo X6.here hx rfl (hb hby d7_11) rfl ((if0 _ _).trans (teq hc11_7).2) ?_
        show Steps p.tables e below (T6.setTop (mkF m 14 #[.val (.ref a7_0)] [])) _
        refine XS.iconst X6.here hx rfl (hb hby d7_14) ?_
        show Steps p.tables e below (T6.setTop (mkF m 15 #[.val (.ref a7_0)] [(.int (1 : Int32))])) _
        refine XS.goto X6.here hx rfl (pc0 := 15) (pc' := 19) rfl (hb hby d7_15) (by decide) (by decide) ?_
        show Steps p.tables e below (T6.setTop (mkF m 19 #[.val (.ref a7_0)] [(.int (1 : Int32))])) _
        exact k)
      have hret : (r7 w7_count w7_size) = (1 : Int32) := by unfold r7; rw [if_neg hc4_3, if_pos hc11_7]
      obtain ⟨fs, hr, hrun, hended, hW, hsame⟩ := X6.leave (v := some (.int (1 : Int32))) (fun h => by rw [Bd.returns] at h; cases h)
      refine ⟨_, _, pre8 _ ?_, hrun, hended, _, _, rfl, ?_, ⟨_, rfl⟩, hW, hsame.mono (by decide) (by decide)⟩
      · show Steps p.tables e below (T6.setTop (mkF m 19 #[.val (.ref a7_0)] [(.int (1 : Int32))])) _
        exact retN X6 hx (t := .boolean) Bd.returns (by simp) (hb hby d7_19) hr
      · show Q7 Z a7_0 w7_count w7_size h0 n0 _ T6.heap _
        rw [e6]
        exact ⟨(by rw [hret]), N0, rfl⟩
    · have pre9 : ∀ t, Steps p.tables e below (T6.setTop (mkF m 19 #[.val (.ref a7_0)] [(.int (0 : Int32))])) t → Steps p.tables e below (s₁.setTop (entryFrame m #[(.ref a7_0)] 1)) t := fun t k => pre6 t (by
        refine XS.ifYes X6.here hx rfl (pc0 := 11) (pc' := 18) rfl (hb hby d7_11) rfl ((if0 _ _).trans (feq hc11_7).2) (by decide) (by decide) ?_
        show Steps p.tables e below (T6.setTop (mkF m 18 #[.val (.ref a7_0)] [])) _
        refine XS.iconst X6.here hx rfl (hb hby d7_18) ?_
        show Steps p.tables e below (T6.setTop (mkF m 19 #[.val (.ref a7_0)] [(.int (0 : Int32))])) _
        exact k)
      have hret : (r7 w7_count w7_size) = (0 : Int32) := by unfold r7; rw [if_neg hc4_3, if_neg hc11_7]
      obtain ⟨fs, hr, hrun, hended, hW, hsame⟩ := X6.leave (v := some (.int (0 : Int32))) (fun h => by rw [Bd.returns] at h; cases h)
      refine ⟨_, _, pre9 _ ?_, hrun, hended, _, _, rfl, ?_, ⟨_, rfl⟩, hW, hsame.mono (by decide) (by decide)⟩
      · show Steps p.tables e below (T6.setTop (mkF m 19 #[.val (.ref a7_0)] [(.int (0 : Int32))])) _
        exact retN X6 hx (t := .boolean) Bd.returns (by simp) (hb hby d7_19) hr
      · show Q7 Z a7_0 w7_count w7_size h0 n0 _ T6.heap _
        rw [e6]
        exact ⟨(by rw [hret]), N0, rfl⟩
theorem d8_0 : decode prog_12_method_3_code 0 = .ok (.iload_n 1, 1) := by decide +kernel
theorem d8_1 : decode prog_12_method_3_code 1 = .ok (.aload_n 0, 1) := by decide +kernel
theorem d8_2 : decode prog_12_method_3_code 2 = .ok (.getfield 7, 3) := by decide +kernel
theorem d8_5 : decode prog_12_method_3_code 5 = .ok (.if_icmp .ne 13, 3) := by decide +kernel
theorem d8_8 : decode prog_12_method_3_code 8 = .ok (.aload_n 0, 1) := by decide +kernel
theorem d8_9 : decode prog_12_method_3_code 9 = .ok (.dup, 1) := by decide +kernel
theorem d8_10 : decode prog_12_method_3_code 10 = .ok (.getfield 13, 3) := by decide +kernel
theorem d8_13 : decode prog_12_method_3_code 13 = .ok (.iconst 1, 1) := by decide +kernel
theorem d8_14 : decode prog_12_method_3_code 14 = .ok (.isub, 1) := by decide +kernel
theorem d8_15 : decode prog_12_method_3_code 15 = .ok (.putfield 13, 3) := by decide +kernel
theorem d8_18 : decode prog_12_method_3_code 18 = .ok (.return_, 1) := by decide +kernel
theorem ef_8 (m : MethodId) (x0 : Addr) (x1 : Int32) : entryFrame m #[(.ref x0), (.int x1)] 2 = mkF m 0 #[.val (.ref x0), .val (.int x1)] [] := by first | (simp [entryFrame, mkF, argsToLocals, Value.category]; done) | rfl
abbrev R8 : Room := { frames := 0, cells := 0, slots := 0, locals := 0 }
def v8_15 (w8_count : Int32) : Int32 := (w8_count - (1 : Int32))
def f8_count (p8_1 : Int32) (w8_size : Int32) (w8_count : Int32) : Int32 := (if p8_1 = w8_size then (v8_15 w8_count) else w8_count)
def Q8 (Z : State) (a8_0 : Addr) (p8_1 : Int32) (w8_size : Int32) (w8_count : Int32) (h0 : Heap) (n0 : Nat) (v : Option Value) (h : Heap) (L : List Loc) : Prop := v = none ∧ Fr n0 L ∧ Keep h0 h [a8_0] ∧ Fld Z h a8_0 "relayout/Largest" "size" "I" (.int w8_size) ∧ Fld Z h a8_0 "relayout/Largest" "count" "I" (.int (f8_count p8_1 w8_size w8_count))
set_option maxRecDepth 65536 in
set_option maxHeartbeats 40000000 in
theorem rm8 (l : Launch) (Z : State) (a0 : Array Value) (hw : ∀ d ∈ tables_1, d.before a0 Z = true) (ws : List Jvm.Cond) (a8_0 : Addr) (p8_1 : Int32) (w8_size : Int32) (w8_count : Int32) (h0 : Heap) (n0 : Nat) (Z0 : n0 ≤ h0.size) (E_a8_0 : Exa Z h0 a8_0 "relayout/Largest") (F_size_a8_0 : Fld Z h0 a8_0 "relayout/Largest" "size" "I" (.int w8_size)) (F_count_a8_0 : Fld Z h0 a8_0 "relayout/Largest" "count" "I" (.int w8_count)) (g_a8_0 : n0 ≤ a8_0) :
    MetFree l (⟨"relayout/Largest", "remove", "(I)V"⟩ : MethodName) (head1 (Jvm.Cond.code (⟨"relayout/Largest", "remove", "(I)V"⟩ : MethodName) prog_12_method_3_code 2 none :: ws) R8) (fun a U => a = #[(.ref a8_0), (.int p8_1)] ∧ Z.Warmed39 U.vm ∧ U.heap = h0) (fun _ _ _ _ _ => True) (fun _ U o U' => ∃ v L, o = .returned v ∧ Q8 Z a8_0 p8_1 w8_size w8_count h0 n0 v U'.heap L ∧ FrameEnd U o U' L R8.cells R8.slots) := by
  refine MetFree.of_bodySF (plainFor_of_name pn_1) hisR ?_
  intro p e s m args below meth c s₁ Bd hml0 hP hK
  obtain ⟨rfl, hZ, hh⟩ := hP
  have hx := Bd.exec
  have hby := Bd.bytes
  have hml : c.maxLocals = 2 := hml0
  have hown : s.vm.findClass "relayout/Largest" = some m.cls := findClass_of_methodNamed Bd.named
  have hnm := (name_of_methodNamed Bd.named Bd.method).1
  have X0 : Stand p l e R8 s m #[(.ref a8_0), (.int p8_1)] below meth c s₁ [] 0 0 := Stand.of_body Bd
  have e0 : s₁.heap = h0 := by rw [← hh, Bd.state]; rfl
  have N0 := Fr.nil n0
  have pre0 : ∀ t, Steps p.tables e below (s₁.setTop (mkF m 0 #[.val (.ref a8_0), .val (.int p8_1)] [])) t → Steps p.tables e below (s₁.setTop (entryFrame m #[(.ref a8_0), (.int p8_1)] 2)) t := fun t k => castTop (ef_8 m a8_0 p8_1) k
  have pre1 : ∀ t, Steps p.tables e below (s₁.setTop (mkF m 2 #[.val (.ref a8_0), .val (.int p8_1)] [(.ref a8_0), (.int p8_1)])) t → Steps p.tables e below (s₁.setTop (entryFrame m #[(.ref a8_0), (.int p8_1)] 2)) t := fun t k => pre0 t (by
    refine XS.iloadN X0.here hx rfl (hb hby d8_0) rfl ?_
    show Steps p.tables e below (s₁.setTop (mkF m 1 #[.val (.ref a8_0), .val (.int p8_1)] [(.int p8_1)])) _
    refine XS.aloadN X0.here hx rfl (hb hby d8_1) rfl rfl ?_
    show Steps p.tables e below (s₁.setTop (mkF m 2 #[.val (.ref a8_0), .val (.int p8_1)] [(.ref a8_0), (.int p8_1)])) _
    exact k)
  obtain ⟨T2, X2, e2, st2⟩ := getF X0 hx hZ hown (host := "") (Or.inl (hw _ (List.mem_of_getElem? (i := 22) rfl))) Via.refl e0 F_size_a8_0 (g := (mkF m 2 #[.val (.ref a8_0), .val (.int p8_1)] [(.ref a8_0), (.int p8_1)])) rfl rfl (hb hby d8_2)
  have pre2 : ∀ t, Steps p.tables e below (T2.setTop (mkF m 5 #[.val (.ref a8_0), .val (.int p8_1)] [(.int w8_size), (.int p8_1)])) t → Steps p.tables e below (s₁.setTop (entryFrame m #[(.ref a8_0), (.int p8_1)] 2)) t := fun t k => pre1 t (st2 t k)
  by_cases hc5_3 : p8_1 = w8_size
  · have pre4 : ∀ t, Steps p.tables e below (T2.setTop (mkF m 10 #[.val (.ref a8_0), .val (.int p8_1)] [(.ref a8_0), (.ref a8_0)])) t → Steps p.tables e below (s₁.setTop (entryFrame m #[(.ref a8_0), (.int p8_1)] 2)) t := fun t k => pre2 t (by
      refine XS.icmpNo X2.here hx rfl (hb hby d8_5) rfl (teq hc5_3).2 ?_
      show Steps p.tables e below (T2.setTop (mkF m 8 #[.val (.ref a8_0), .val (.int p8_1)] [])) _
      refine XS.aloadN X2.here hx rfl (hb hby d8_8) rfl rfl ?_
      show Steps p.tables e below (T2.setTop (mkF m 9 #[.val (.ref a8_0), .val (.int p8_1)] [(.ref a8_0)])) _
      refine XS.dup X2.here hx rfl (hb hby d8_9) rfl rfl ?_
      show Steps p.tables e below (T2.setTop (mkF m 10 #[.val (.ref a8_0), .val (.int p8_1)] [(.ref a8_0), (.ref a8_0)])) _
      exact k)
    obtain ⟨T5, X5, e5, st5⟩ := getF X2 hx hZ hown (host := "") (Or.inl (hw _ (List.mem_of_getElem? (i := 24) rfl))) Via.refl e2 F_count_a8_0 (g := (mkF m 10 #[.val (.ref a8_0), .val (.int p8_1)] [(.ref a8_0), (.ref a8_0)])) rfl rfl (hb hby d8_10)
    have pre5 : ∀ t, Steps p.tables e below (T5.setTop (mkF m 13 #[.val (.ref a8_0), .val (.int p8_1)] [(.int w8_count), (.ref a8_0)])) t → Steps p.tables e below (s₁.setTop (entryFrame m #[(.ref a8_0), (.int p8_1)] 2)) t := fun t k => pre4 t (st5 t k)
    have pre6 : ∀ t, Steps p.tables e below (T5.setTop (mkF m 15 #[.val (.ref a8_0), .val (.int p8_1)] [(.int (w8_count - (1 : Int32))), (.ref a8_0)])) t → Steps p.tables e below (s₁.setTop (entryFrame m #[(.ref a8_0), (.int p8_1)] 2)) t := fun t k => pre5 t (by
      refine XS.iconst X5.here hx rfl (hb hby d8_13) ?_
      show Steps p.tables e below (T5.setTop (mkF m 14 #[.val (.ref a8_0), .val (.int p8_1)] [(.int (1 : Int32)), (.int w8_count), (.ref a8_0)])) _
      refine XS.isub X5.here hx rfl (hb hby d8_14) rfl ?_
      show Steps p.tables e below (T5.setTop (mkF m 15 #[.val (.ref a8_0), .val (.int p8_1)] [(.int (w8_count - (1 : Int32))), (.ref a8_0)])) _
      exact k)
    obtain ⟨T7, h7, X7, e7, W7, st7⟩ := putF X5 hx hZ hown (host := "") (Or.inl (hw _ (List.mem_of_getElem? (i := 24) rfl))) Via.refl e5 F_count_a8_0 E_a8_0 (Or.inl (hw _ (List.mem_of_getElem? (i := 25) rfl))) (hw _ (List.mem_of_getElem? (i := 9) rfl)) (ty := .int) (by decide) rfl rfl (g := (mkF m 15 #[.val (.ref a8_0), .val (.int p8_1)] [(.int (v8_15 w8_count)), (.ref a8_0)])) rfl rfl (hb hby d8_15)
    have Ex8 : Exa Z h7 a8_0 "relayout/Largest" := E_a8_0.wr W7
    have F9 : Fld Z h7 a8_0 "relayout/Largest" "size" "I" (.int w8_size) := F_size_a8_0.other W7 (Or.inr (slot_ne (Or.inl (hw _ (List.mem_of_getElem? (i := 23) rfl))) (Or.inl (hw _ (List.mem_of_getElem? (i := 25) rfl))) (by decide) (t := .int) (t' := .int) (by decide) (by decide)))
    have N7 := Fr.snoc X7 N0 g_a8_0
    have Z7 : n0 ≤ h7.size := Nat.le_trans Z0 (Keep.of_wr W7).1
    have K7 : Keep h0 h7 [a8_0] := (Keep.refl h0 [a8_0]).wr W7 (Or.inl (by simp))
    have F10 : Fld Z h7 a8_0 "relayout/Largest" "count" "I" (.int (v8_15 w8_count)) := F_count_a8_0.same W7
    have pre7 : ∀ t, Steps p.tables e below (T7.setTop (mkF m 18 #[.val (.ref a8_0), .val (.int p8_1)] [])) t → Steps p.tables e below (s₁.setTop (entryFrame m #[(.ref a8_0), (.int p8_1)] 2)) t := fun t k => pre6 t (st7 t k)
    have hf_count : (f8_count p8_1 w8_size w8_count) = (v8_15 w8_count) := by unfold f8_count; rw [if_pos hc5_3]
    obtain ⟨fs, hr, hrun, hended, hW, hsame⟩ := X7.leave (v := none) (fun _ => rfl)
    refine ⟨_, _, pre7 _ ?_, hrun, hended, _, _, rfl, ?_, ⟨_, rfl⟩, hW, hsame.mono (by decide) (by decide)⟩
    · show Steps p.tables e below (T7.setTop (mkF m 18 #[.val (.ref a8_0), .val (.int p8_1)] [])) _
      exact X7.returnOut hx Bd.returns (hb hby d8_18) hr
    · show Q8 Z a8_0 p8_1 w8_size w8_count h0 n0 _ T7.heap _
      rw [e7]
      exact ⟨rfl, N7, K7, F9, (by rw [hf_count]; exact F10)⟩
  · have pre11 : ∀ t, Steps p.tables e below (T2.setTop (mkF m 18 #[.val (.ref a8_0), .val (.int p8_1)] [])) t → Steps p.tables e below (s₁.setTop (entryFrame m #[(.ref a8_0), (.int p8_1)] 2)) t := fun t k => pre2 t (by
      refine XS.icmpYes X2.here hx rfl (pc0 := 5) (pc' := 18) rfl (hb hby d8_5) rfl (feq hc5_3).2 (by decide) (by decide) ?_
      show Steps p.tables e below (T2.setTop (mkF m 18 #[.val (.ref a8_0), .val (.int p8_1)] [])) _
      exact k)
    have hf_count : (f8_count p8_1 w8_size w8_count) = w8_count := by unfold f8_count; rw [if_neg hc5_3]
    obtain ⟨fs, hr, hrun, hended, hW, hsame⟩ := X2.leave (v := none) (fun _ => rfl)
    refine ⟨_, _, pre11 _ ?_, hrun, hended, _, _, rfl, ?_, ⟨_, rfl⟩, hW, hsame.mono (by decide) (by decide)⟩
    · show Steps p.tables e below (T2.setTop (mkF m 18 #[.val (.ref a8_0), .val (.int p8_1)] [])) _
      exact X2.returnOut hx Bd.returns (hb hby d8_18) hr
    · show Q8 Z a8_0 p8_1 w8_size w8_count h0 n0 _ T2.heap _
      rw [e2]
      exact ⟨rfl, N0, Keep.refl _ _, F_size_a8_0, (by rw [hf_count]; exact F_count_a8_0)⟩
theorem pd_0 : parseMethodDescriptor "(II)I" = some ⟨[.int, .int], some .int⟩ := by decide +kernel
theorem pd_1 : parseMethodDescriptor "()V" = some ⟨[], none⟩ := by decide +kernel
theorem pd_2 : parseMethodDescriptor "(I)V" = some ⟨[.int], none⟩ := by decide +kernel
theorem pd_3 : parseMethodDescriptor "()I" = some ⟨[], some .int⟩ := by decide +kernel
theorem pd_4 : parseMethodDescriptor "()Z" = some ⟨[], some .boolean⟩ := by decide +kernel
theorem ef_0 (m : MethodId) (x0 : Int32) (x1 : Int32) (x2 : Int32) (x3 : Int32) : entryFrame m #[(.int x0), (.int x1), (.int x2), (.int x3)] maxLocals = mkF m 0 #[.val (.int x0), .val (.int x1), .val (.int x2), .val (.int x3), .unset, .unset, .unset, .unset, .unset, .unset, .unset] [] := by first | (simp [entryFrame, mkF, argsToLocals, Value.category, maxLocals]; done) | rfl
def j0_11_s0 (p0_0 : Int32) (p0_1 : Int32) (p0_3 : Int32) : Int32 := (if (p0_3 &&& (1 : Int32)) = (0 : Int32) then p0_1 else p0_0)
def j0_24_s0 (p0_0 : Int32) (p0_2 : Int32) (p0_3 : Int32) : Int32 := (if (p0_3 &&& (2 : Int32)) = (0 : Int32) then p0_2 else p0_0)
def j0_36_5 (p0_0 : Int32) (p0_1 : Int32) (p0_2 : Int32) (p0_3 : Int32) : Int32 := (if (p0_3 &&& (4 : Int32)) = (0 : Int32) then (j0_24_s0 p0_0 p0_2 p0_3) else (j0_11_s0 p0_0 p0_1 p0_3))
def c0_45 (p0_0 : Int32) (p0_1 : Int32) (p0_2 : Int32) (p0_3 : Int32) : Int32 := (r1 p0_0 (r1 (j0_11_s0 p0_0 p0_1 p0_3) (j0_36_5 p0_0 p0_1 p0_2 p0_3)))
def v0_51 (p0_0 : Int32) (p0_1 : Int32) (p0_2 : Int32) (p0_3 : Int32) : Int32 := (r1 (0 : Int32) (c0_45 p0_0 p0_1 p0_2 p0_3))
def c0_71 (p0_0 : Int32) (p0_1 : Int32) (p0_2 : Int32) (p0_3 : Int32) : Int32 := (r2 (j0_36_5 p0_0 p0_1 p0_2 p0_3) (v0_51 p0_0 p0_1 p0_2 p0_3))
def v0_75 (p0_0 : Int32) (p0_1 : Int32) (p0_2 : Int32) (p0_3 : Int32) : Int32 := (((r2 p0_0 (v0_51 p0_0 p0_1 p0_2 p0_3)) + (r2 (j0_11_s0 p0_0 p0_1 p0_3) (v0_51 p0_0 p0_1 p0_2 p0_3))) + (c0_71 p0_0 p0_1 p0_2 p0_3))
def j0_87_s0 (p0_0 : Int32) (p0_1 : Int32) (p0_2 : Int32) (p0_3 : Int32) : Int32 := (if (v0_51 p0_0 p0_1 p0_2 p0_3) = (0 : Int32) then (1 : Int32) else (0 : Int32))
def w0_108_size (p0_0 : Int32) (p0_1 : Int32) (p0_3 : Int32) : Int32 := (f5_size (j0_11_s0 p0_0 p0_1 p0_3) (f5_size p0_0 (0 : Int32)))
def w0_108_count (p0_0 : Int32) (p0_1 : Int32) (p0_3 : Int32) : Int32 := (f5_count (j0_11_s0 p0_0 p0_1 p0_3) (f5_size p0_0 (0 : Int32)) (f5_count p0_0 (0 : Int32) (0 : Int32)))
def w0_115_size (p0_0 : Int32) (p0_1 : Int32) (p0_2 : Int32) (p0_3 : Int32) : Int32 := (f5_size (j0_36_5 p0_0 p0_1 p0_2 p0_3) (w0_108_size p0_0 p0_1 p0_3))
def w0_115_count (p0_0 : Int32) (p0_1 : Int32) (p0_2 : Int32) (p0_3 : Int32) : Int32 := (f5_count (j0_36_5 p0_0 p0_1 p0_2 p0_3) (w0_108_size p0_0 p0_1 p0_3) (w0_108_count p0_0 p0_1 p0_3))
def c0_142 (p0_0 : Int32) (p0_1 : Int32) (p0_2 : Int32) (p0_3 : Int32) : Int32 := (r7 (w0_115_count p0_0 p0_1 p0_2 p0_3) (w0_115_size p0_0 p0_1 p0_2 p0_3))
def j0_160_s0 (p0_0 : Int32) (p0_1 : Int32) (p0_2 : Int32) (p0_3 : Int32) : Int32 := (if (0 : Int32) < (v0_75 p0_0 p0_1 p0_2 p0_3) then (1 : Int32) else (if (j0_87_s0 p0_0 p0_1 p0_2 p0_3) = (0 : Int32) then (0 : Int32) else (1 : Int32)))
def w0_174_count (p0_0 : Int32) (p0_1 : Int32) (p0_2 : Int32) (p0_3 : Int32) : Int32 := (f8_count (v0_51 p0_0 p0_1 p0_2 p0_3) (w0_115_size p0_0 p0_1 p0_2 p0_3) (w0_115_count p0_0 p0_1 p0_2 p0_3))
def c0_184 (p0_0 : Int32) (p0_1 : Int32) (p0_2 : Int32) (p0_3 : Int32) : Int32 := (r7 (w0_174_count p0_0 p0_1 p0_2 p0_3) (w0_115_size p0_0 p0_1 p0_2 p0_3))
def j0_204_s0 (p0_0 : Int32) (p0_1 : Int32) (p0_2 : Int32) (p0_3 : Int32) : Int32 := (if (0 : Int32) < ((v0_75 p0_0 p0_1 p0_2 p0_3) - (1 : Int32)) then (1 : Int32) else (if (j0_87_s0 p0_0 p0_1 p0_2 p0_3) = (0 : Int32) then (0 : Int32) else (1 : Int32)))
def w0_218_count (p0_0 : Int32) (p0_1 : Int32) (p0_2 : Int32) (p0_3 : Int32) : Int32 := (f8_count (v0_51 p0_0 p0_1 p0_2 p0_3) (w0_115_size p0_0 p0_1 p0_2 p0_3) (w0_174_count p0_0 p0_1 p0_2 p0_3))
def c0_228 (p0_0 : Int32) (p0_1 : Int32) (p0_2 : Int32) (p0_3 : Int32) : Int32 := (r7 (w0_218_count p0_0 p0_1 p0_2 p0_3) (w0_115_size p0_0 p0_1 p0_2 p0_3))
def j0_248_s0 (p0_0 : Int32) (p0_1 : Int32) (p0_2 : Int32) (p0_3 : Int32) : Int32 := (if (0 : Int32) < ((v0_75 p0_0 p0_1 p0_2 p0_3) - (2 : Int32)) then (1 : Int32) else (if (j0_87_s0 p0_0 p0_1 p0_2 p0_3) = (0 : Int32) then (0 : Int32) else (1 : Int32)))
def w0_262_count (p0_0 : Int32) (p0_1 : Int32) (p0_2 : Int32) (p0_3 : Int32) : Int32 := (f8_count (v0_51 p0_0 p0_1 p0_2 p0_3) (w0_115_size p0_0 p0_1 p0_2 p0_3) (w0_218_count p0_0 p0_1 p0_2 p0_3))
def c0_272 (p0_0 : Int32) (p0_1 : Int32) (p0_2 : Int32) (p0_3 : Int32) : Int32 := (r7 (w0_262_count p0_0 p0_1 p0_2 p0_3) (w0_115_size p0_0 p0_1 p0_2 p0_3))
def j0_292_s0 (p0_0 : Int32) (p0_1 : Int32) (p0_2 : Int32) (p0_3 : Int32) : Int32 := (if (0 : Int32) < ((v0_75 p0_0 p0_1 p0_2 p0_3) - (3 : Int32)) then (1 : Int32) else (if (j0_87_s0 p0_0 p0_1 p0_2 p0_3) = (0 : Int32) then (0 : Int32) else (1 : Int32)))
def own_E (size count m : Int32) : Int32 := if size = m then count else 0
theorem own_e (x k : Int32) : (x = k) = (x.toInt = k.toInt) := propext Int32.toInt_inj.symm
theorem own_step (x size count m : Int32) (h1 : size.toInt ≤ m.toInt) (h2 : x.toInt ≤ m.toInt) : own_E (f5_size x size) (f5_count x size count) m = own_E size count m + r2 x m := by
  unfold own_E r2
  by_cases c1 : size < x
  · have d1 : f5_size x size = x := by unfold f5_size; rw [if_pos c1]
    have d2 : f5_count x size count = 1 := by unfold f5_count; rw [if_pos c1]
    have d3 : ¬ size = m := by rw [own_e]; rw [Int32.lt_iff_toInt_lt] at c1; omega
    rw [d1, d2, if_neg d3, Int32.zero_add]
  · by_cases c2 : x = size
    · have d1 : f5_size x size = size := by unfold f5_size; rw [if_neg c1, if_pos c2]
      have d2 : f5_count x size count = count + 1 := by unfold f5_count; rw [if_neg c1, if_pos c2]; rfl
      rw [d1, d2, c2]
      split
      · rfl
      · rfl
    · have d1 : f5_size x size = size := by unfold f5_size; rw [if_neg c1, if_neg c2]
      have d2 : f5_count x size count = count := by unfold f5_count; rw [if_neg c1, if_neg c2]
      have d3 : ¬ x = m := by rw [own_e] at *; rw [Int32.lt_iff_toInt_lt] at c1; omega
      rw [d1, d2, if_neg d3, Int32.add_zero]
theorem own_sz (x size : Int32) : (f5_size x size).toInt = if size.toInt < x.toInt then x.toInt else size.toInt := by
  unfold f5_size
  simp only [Int32.lt_iff_toInt_lt]
  split
  · rfl
  · split <;> rfl
theorem own_mx (x y : Int32) : (r1 x y).toInt = if x.toInt < y.toInt then y.toInt else x.toInt := by
  unfold r1
  simp only [Int32.lt_iff_toInt_lt]
  split <;> rfl
set_option maxHeartbeats 4000000 in
theorem own_both (a b0 c0 s : Int32) : w0_115_size a b0 c0 s = v0_51 a b0 c0 s ∧ (v0_51 a b0 c0 s ≠ 0 → w0_115_count a b0 c0 s = v0_75 a b0 c0 s) := by
  unfold w0_115_size w0_115_count w0_108_size w0_108_count v0_75 c0_71 v0_51 c0_45
  generalize j0_11_s0 a b0 s = b
  generalize j0_36_5 a b0 c0 s = c
  have z : (0 : Int32).toInt = 0 := rfl
  have m1 := own_mx b c
  have m2 := own_mx a (r1 b c)
  have m3 := own_mx 0 (r1 a (r1 b c))
  have s1 := own_sz a 0
  have s2 := own_sz b (f5_size a 0)
  have s3 := own_sz c (f5_size b (f5_size a 0))
  have hm : f5_size c (f5_size b (f5_size a 0)) = r1 0 (r1 a (r1 b c)) := by
    apply Int32.toInt_inj.mp
    rw [s3, m3, s2, m2, s1, m1, z]
    repeat' split
    all_goals omega
  refine ⟨hm, fun h0 => ?_⟩
  have k1 : a.toInt ≤ (r1 0 (r1 a (r1 b c))).toInt ∧ b.toInt ≤ (r1 0 (r1 a (r1 b c))).toInt ∧ c.toInt ≤ (r1 0 (r1 a (r1 b c))).toInt ∧ 0 ≤ (r1 0 (r1 a (r1 b c))).toInt ∧ (f5_size a 0).toInt ≤ (r1 0 (r1 a (r1 b c))).toInt ∧ (f5_size b (f5_size a 0)).toInt ≤ (r1 0 (r1 a (r1 b c))).toInt := by
    rw [m3, m2, m1, s2, s1, z]
    repeat' split
    all_goals omega
  generalize r1 0 (r1 a (r1 b c)) = m at *
  have e1 := own_step a 0 0 m (by rw [z]; exact k1.2.2.2.1) k1.1
  have e2 := own_step b (f5_size a 0) (f5_count a 0 0) m k1.2.2.2.2.1 k1.2.1
  have e3 := own_step c (f5_size b (f5_size a 0)) (f5_count b (f5_size a 0) (f5_count a 0 0)) m k1.2.2.2.2.2 k1.2.2.1
  rw [e2, e1] at e3
  have e0 : own_E 0 0 m = 0 := by unfold own_E; split <;> rfl
  rw [e0, Int32.zero_add] at e3
  rw [← e3]
  unfold own_E
  rw [if_pos hm]
theorem own_size (a b c s : Int32) : r6 (w0_115_size a b c s) = v0_51 a b c s := (own_both a b c s).1
theorem own_size4 (a b c s : Int32) : r6 (w0_115_size a b c s) = v0_51 a b c s := (own_both a b c s).1
theorem own_r1 (a b c s : Int32) : w0_174_count a b c s = w0_115_count a b c s - 1 := by unfold w0_174_count f8_count; rw [if_pos (own_both a b c s).1.symm]; rfl
theorem own_r2 (a b c s : Int32) : w0_218_count a b c s = w0_115_count a b c s - 2 := by
  unfold w0_218_count f8_count; rw [if_pos (own_both a b c s).1.symm, own_r1]; unfold v8_15
  rw [Int32.sub_sub]; rfl
theorem own_r3 (a b c s : Int32) : w0_262_count a b c s = w0_115_count a b c s - 3 := by
  unfold w0_262_count f8_count; rw [if_pos (own_both a b c s).1.symm, own_r2]; unfold v8_15
  rw [Int32.sub_sub]; rfl
theorem own_h (n k m : Int32) (size count z : Int32) (hs : size = m) (hc : m ≠ 0 → count = n) (hz : z = if m = 0 then (1 : Int32) else 0) : r7 (count - k) size = (if (0 : Int32) < n - k then (1 : Int32) else (if z = (0 : Int32) then (0 : Int32) else (1 : Int32))) := by
  subst hs hz
  unfold r7
  by_cases h : size = 0
  · rw [if_pos h, if_neg (by decide : ¬ (1 : Int32) = 0)]
    split <;> split <;> rfl
  · rw [if_neg h, hc h, if_pos rfl]
theorem own_holds0 (a b c s : Int32) : c0_142 a b c s = j0_160_s0 a b c s := by
  have h := own_h (v0_75 a b c s) 0 (v0_51 a b c s) _ _ (j0_87_s0 a b c s) (own_both a b c s).1 (own_both a b c s).2 rfl
  rw [Int32.sub_zero, Int32.sub_zero] at h
  unfold c0_142 j0_160_s0; exact h
theorem own_holds1 (a b c s : Int32) : c0_184 a b c s = j0_204_s0 a b c s := by
  have h := own_h (v0_75 a b c s) 1 (v0_51 a b c s) _ _ (j0_87_s0 a b c s) (own_both a b c s).1 (own_both a b c s).2 rfl
  unfold c0_184 j0_204_s0; rw [own_r1]; exact h
theorem own_holds2 (a b c s : Int32) : c0_228 a b c s = j0_248_s0 a b c s := by
  have h := own_h (v0_75 a b c s) 2 (v0_51 a b c s) _ _ (j0_87_s0 a b c s) (own_both a b c s).1 (own_both a b c s).2 rfl
  unfold c0_228 j0_248_s0; rw [own_r2]; exact h
theorem own_holds3 (a b c s : Int32) : c0_272 a b c s = j0_292_s0 a b c s := by
  have h := own_h (v0_75 a b c s) 3 (v0_51 a b c s) _ _ (j0_87_s0 a b c s) (own_both a b c s).1 (own_both a b c s).2 rfl
  unfold c0_272 j0_292_s0; rw [own_r3]; exact h
def Q0 (Z : State) (p0_0 : Int32) (p0_1 : Int32) (p0_2 : Int32) (p0_3 : Int32) (h0 : Heap) (n0 : Nat) (v : Option Value) (h : Heap) (L : List Loc) : Prop := v = some (.int (1 : Int32)) ∧ Fr n0 L
set_option maxRecDepth 65536 in
set_option maxHeartbeats 40000000 in
theorem rm0 (l : Launch) (Z : State) (a0 : Array Value) (hw : ∀ d ∈ tables_1, d.before a0 Z = true) (ws : List Jvm.Cond) (p0_0 : Int32) (p0_1 : Int32) (p0_2 : Int32) (p0_3 : Int32) (h0 : Heap) (n0 : Nat) (Z0 : n0 ≤ h0.size) :
    MetFree l x (head1 (Jvm.Cond.code x code maxLocals ret :: ws) room_1) (fun a U => a = #[(.int p0_0), (.int p0_1), (.int p0_2), (.int p0_3)] ∧ Z.Warmed39 U.vm ∧ U.heap = h0) (fun _ _ _ _ _ => True) (fun _ U o U' => ∃ v L, o = .returned v ∧ Q0 Z p0_0 p0_1 p0_2 p0_3 h0 n0 v U'.heap L ∧ FrameEnd U o U' L room_1.cells room_1.slots) := by
  refine MetFree.of_bodySF (plainFor_of_name pn_0) hisR ?_
  intro p e s m args below meth c s₁ Bd hml0 hP hK
  obtain ⟨rfl, hZ, hh⟩ := hP
  have hx := Bd.exec
  have hby := Bd.bytes
  have hml : c.maxLocals = 11 := hml0
  have hown : s.vm.findClass "relayout/LargestAddPinLaw" = some m.cls := findClass_of_methodNamed Bd.named
  have hnm := (name_of_methodNamed Bd.named Bd.method).1
  have X0 : Stand p l e room_1 s m #[(.int p0_0), (.int p0_1), (.int p0_2), (.int p0_3)] below meth c s₁ [] 0 0 := Stand.of_body Bd
  have e0 : s₁.heap = h0 := by rw [← hh, Bd.state]; rfl
  have N0 := Fr.nil n0
  have pre0 : ∀ t, Steps p.tables e below (s₁.setTop (mkF m 0 #[.val (.int p0_0), .val (.int p0_1), .val (.int p0_2), .val (.int p0_3), .unset, .unset, .unset, .unset, .unset, .unset, .unset] [])) t → Steps p.tables e below (s₁.setTop (entryFrame m #[(.int p0_0), (.int p0_1), (.int p0_2), (.int p0_3)] maxLocals)) t := fun t k => castTop (ef_0 m p0_0 p0_1 p0_2 p0_3) k
  have pre1 : ∀ t, Steps p.tables e below (s₁.setTop (mkF m 3 #[.val (.int p0_0), .val (.int p0_1), .val (.int p0_2), .val (.int p0_3), .unset, .unset, .unset, .unset, .unset, .unset, .unset] [(.int (p0_3 &&& (1 : Int32)))])) t → Steps p.tables e below (s₁.setTop (entryFrame m #[(.int p0_0), (.int p0_1), (.int p0_2), (.int p0_3)] maxLocals)) t := fun t k => pre0 t (by
    refine XS.iloadN X0.here hx rfl (hb hby at_0) rfl ?_
    show Steps p.tables e below (s₁.setTop (mkF m 1 #[.val (.int p0_0), .val (.int p0_1), .val (.int p0_2), .val (.int p0_3), .unset, .unset, .unset, .unset, .unset, .unset, .unset] [(.int p0_3)])) _
    refine XS.iconst X0.here hx rfl (hb hby at_1) ?_
    show Steps p.tables e below (s₁.setTop (mkF m 2 #[.val (.int p0_0), .val (.int p0_1), .val (.int p0_2), .val (.int p0_3), .unset, .unset, .unset, .unset, .unset, .unset, .unset] [(.int (1 : Int32)), (.int p0_3)])) _
    refine XS.iand X0.here hx rfl (hb hby at_2) rfl ?_
    show Steps p.tables e below (s₁.setTop (mkF m 3 #[.val (.int p0_0), .val (.int p0_1), .val (.int p0_2), .val (.int p0_3), .unset, .unset, .unset, .unset, .unset, .unset, .unset] [(.int (p0_3 &&& (1 : Int32)))])) _
    exact k)
  obtain ⟨T2, L2, X2, e2, N2, st2⟩ : ∃ (T' : State) (L' : List Loc), Stand p l e room_1 s m #[(.int p0_0), (.int p0_1), (.int p0_2), (.int p0_3)] below meth c T' L' 0 0 ∧ T'.heap = h0 ∧ Fr n0 L' ∧ ∀ t, Steps p.tables e below (T'.setTop (mkF m 11 #[.val (.int p0_0), .val (.int p0_1), .val (.int p0_2), .val (.int p0_3), .unset, .unset, .unset, .unset, .unset, .unset, .unset] [(.int (j0_11_s0 p0_0 p0_1 p0_3))])) t → Steps p.tables e below (s₁.setTop (mkF m 3 #[.val (.int p0_0), .val (.int p0_1), .val (.int p0_2), .val (.int p0_3), .unset, .unset, .unset, .unset, .unset, .unset, .unset] [(.int (p0_3 &&& (1 : Int32)))])) t := by
    have pre2 : ∀ t, Steps p.tables e below (s₁.setTop (mkF m 3 #[.val (.int p0_0), .val (.int p0_1), .val (.int p0_2), .val (.int p0_3), .unset, .unset, .unset, .unset, .unset, .unset, .unset] [(.int (p0_3 &&& (1 : Int32)))])) t → Steps p.tables e below (s₁.setTop (mkF m 3 #[.val (.int p0_0), .val (.int p0_1), .val (.int p0_2), .val (.int p0_3), .unset, .unset, .unset, .unset, .unset, .unset, .unset] [(.int (p0_3 &&& (1 : Int32)))])) t := fun t k => k
    by_cases hc3_3 : (p0_3 &&& (1 : Int32)) = (0 : Int32)
    · have pre4 : ∀ t, Steps p.tables e below (s₁.setTop (mkF m 11 #[.val (.int p0_0), .val (.int p0_1), .val (.int p0_2), .val (.int p0_3), .unset, .unset, .unset, .unset, .unset, .unset, .unset] [(.int p0_1)])) t → Steps p.tables e below (s₁.setTop (mkF m 3 #[.val (.int p0_0), .val (.int p0_1), .val (.int p0_2), .val (.int p0_3), .unset, .unset, .unset, .unset, .unset, .unset, .unset] [(.int (p0_3 &&& (1 : Int32)))])) t := fun t k => pre2 t (by
        refine XS.ifYes X0.here hx rfl (pc0 := 3) (pc' := 10) rfl (hb hby at_3) rfl ((if0 _ _).trans (teq hc3_3).1) (by decide) (by decide) ?_
        show Steps p.tables e below (s₁.setTop (mkF m 10 #[.val (.int p0_0), .val (.int p0_1), .val (.int p0_2), .val (.int p0_3), .unset, .unset, .unset, .unset, .unset, .unset, .unset] [])) _
        refine XS.iloadN X0.here hx rfl (hb hby at_10) rfl ?_
        show Steps p.tables e below (s₁.setTop (mkF m 11 #[.val (.int p0_0), .val (.int p0_1), .val (.int p0_2), .val (.int p0_3), .unset, .unset, .unset, .unset, .unset, .unset, .unset] [(.int p0_1)])) _
        exact k)
      have hj6 : (j0_11_s0 p0_0 p0_1 p0_3) = p0_1 := by unfold j0_11_s0; rw [if_pos hc3_3]
      exact ⟨s₁, _, X0, e0, N0, fun t k => pre4 t (by rw [hj6] at k; exact k)⟩
    · have pre5 : ∀ t, Steps p.tables e below (s₁.setTop (mkF m 11 #[.val (.int p0_0), .val (.int p0_1), .val (.int p0_2), .val (.int p0_3), .unset, .unset, .unset, .unset, .unset, .unset, .unset] [(.int p0_0)])) t → Steps p.tables e below (s₁.setTop (mkF m 3 #[.val (.int p0_0), .val (.int p0_1), .val (.int p0_2), .val (.int p0_3), .unset, .unset, .unset, .unset, .unset, .unset, .unset] [(.int (p0_3 &&& (1 : Int32)))])) t := fun t k => pre2 t (by
        refine XS.ifNo X0.here hx rfl (hb hby at_3) rfl ((if0 _ _).trans (feq hc3_3).1) ?_
        show Steps p.tables e below (s₁.setTop (mkF m 6 #[.val (.int p0_0), .val (.int p0_1), .val (.int p0_2), .val (.int p0_3), .unset, .unset, .unset, .unset, .unset, .unset, .unset] [])) _
        refine XS.iloadN X0.here hx rfl (hb hby at_6) rfl ?_
        show Steps p.tables e below (s₁.setTop (mkF m 7 #[.val (.int p0_0), .val (.int p0_1), .val (.int p0_2), .val (.int p0_3), .unset, .unset, .unset, .unset, .unset, .unset, .unset] [(.int p0_0)])) _
        refine XS.goto X0.here hx rfl (pc0 := 7) (pc' := 11) rfl (hb hby at_7) (by decide) (by decide) ?_
        show Steps p.tables e below (s₁.setTop (mkF m 11 #[.val (.int p0_0), .val (.int p0_1), .val (.int p0_2), .val (.int p0_3), .unset, .unset, .unset, .unset, .unset, .unset, .unset] [(.int p0_0)])) _
        exact k)
      have hj7 : (j0_11_s0 p0_0 p0_1 p0_3) = p0_0 := by unfold j0_11_s0; rw [if_neg hc3_3]
      exact ⟨s₁, _, X0, e0, N0, fun t k => pre5 t (by rw [hj7] at k; exact k)⟩
  have pre2 : ∀ t, Steps p.tables e below (T2.setTop (mkF m 11 #[.val (.int p0_0), .val (.int p0_1), .val (.int p0_2), .val (.int p0_3), .unset, .unset, .unset, .unset, .unset, .unset, .unset] [(.int (j0_11_s0 p0_0 p0_1 p0_3))])) t → Steps p.tables e below (s₁.setTop (entryFrame m #[(.int p0_0), (.int p0_1), (.int p0_2), (.int p0_3)] maxLocals)) t := fun t k => pre1 t (st2 t k)
  have pre8 : ∀ t, Steps p.tables e below (T2.setTop (mkF m 16 #[.val (.int p0_0), .val (.int p0_1), .val (.int p0_2), .val (.int p0_3), .val (.int (j0_11_s0 p0_0 p0_1 p0_3)), .unset, .unset, .unset, .unset, .unset, .unset] [(.int (p0_3 &&& (2 : Int32)))])) t → Steps p.tables e below (s₁.setTop (entryFrame m #[(.int p0_0), (.int p0_1), (.int p0_2), (.int p0_3)] maxLocals)) t := fun t k => pre2 t (by
    refine XS.istore X2.here hx rfl (hb hby at_11) rfl (l' := #[.val (.int p0_0), .val (.int p0_1), .val (.int p0_2), .val (.int p0_3), .val (.int (j0_11_s0 p0_0 p0_1 p0_3)), .unset, .unset, .unset, .unset, .unset, .unset]) rfl ?_
    show Steps p.tables e below (T2.setTop (mkF m 13 #[.val (.int p0_0), .val (.int p0_1), .val (.int p0_2), .val (.int p0_3), .val (.int (j0_11_s0 p0_0 p0_1 p0_3)), .unset, .unset, .unset, .unset, .unset, .unset] [])) _
    refine XS.iloadN X2.here hx rfl (hb hby at_13) rfl ?_
    show Steps p.tables e below (T2.setTop (mkF m 14 #[.val (.int p0_0), .val (.int p0_1), .val (.int p0_2), .val (.int p0_3), .val (.int (j0_11_s0 p0_0 p0_1 p0_3)), .unset, .unset, .unset, .unset, .unset, .unset] [(.int p0_3)])) _
    refine XS.iconst X2.here hx rfl (hb hby at_14) ?_
    show Steps p.tables e below (T2.setTop (mkF m 15 #[.val (.int p0_0), .val (.int p0_1), .val (.int p0_2), .val (.int p0_3), .val (.int (j0_11_s0 p0_0 p0_1 p0_3)), .unset, .unset, .unset, .unset, .unset, .unset] [(.int (2 : Int32)), (.int p0_3)])) _
    refine XS.iand X2.here hx rfl (hb hby at_15) rfl ?_
    show Steps p.tables e below (T2.setTop (mkF m 16 #[.val (.int p0_0), .val (.int p0_1), .val (.int p0_2), .val (.int p0_3), .val (.int (j0_11_s0 p0_0 p0_1 p0_3)), .unset, .unset, .unset, .unset, .unset, .unset] [(.int (p0_3 &&& (2 : Int32)))])) _
    exact k)
  obtain ⟨T9, L9, X9, e9, N9, st9⟩ : ∃ (T' : State) (L' : List Loc), Stand p l e room_1 s m #[(.int p0_0), (.int p0_1), (.int p0_2), (.int p0_3)] below meth c T' L' 0 0 ∧ T'.heap = h0 ∧ Fr n0 L' ∧ ∀ t, Steps p.tables e below (T'.setTop (mkF m 24 #[.val (.int p0_0), .val (.int p0_1), .val (.int p0_2), .val (.int p0_3), .val (.int (j0_11_s0 p0_0 p0_1 p0_3)), .unset, .unset, .unset, .unset, .unset, .unset] [(.int (j0_24_s0 p0_0 p0_2 p0_3))])) t → Steps p.tables e below (T2.setTop (mkF m 16 #[.val (.int p0_0), .val (.int p0_1), .val (.int p0_2), .val (.int p0_3), .val (.int (j0_11_s0 p0_0 p0_1 p0_3)), .unset, .unset, .unset, .unset, .unset, .unset] [(.int (p0_3 &&& (2 : Int32)))])) t := by
    have pre9 : ∀ t, Steps p.tables e below (T2.setTop (mkF m 16 #[.val (.int p0_0), .val (.int p0_1), .val (.int p0_2), .val (.int p0_3), .val (.int (j0_11_s0 p0_0 p0_1 p0_3)), .unset, .unset, .unset, .unset, .unset, .unset] [(.int (p0_3 &&& (2 : Int32)))])) t → Steps p.tables e below (T2.setTop (mkF m 16 #[.val (.int p0_0), .val (.int p0_1), .val (.int p0_2), .val (.int p0_3), .val (.int (j0_11_s0 p0_0 p0_1 p0_3)), .unset, .unset, .unset, .unset, .unset, .unset] [(.int (p0_3 &&& (2 : Int32)))])) t := fun t k => k
    by_cases hc16_10 : (p0_3 &&& (2 : Int32)) = (0 : Int32)
    · have pre11 : ∀ t, Steps p.tables e below (T2.setTop (mkF m 24 #[.val (.int p0_0), .val (.int p0_1), .val (.int p0_2), .val (.int p0_3), .val (.int (j0_11_s0 p0_0 p0_1 p0_3)), .unset, .unset, .unset, .unset, .unset, .unset] [(.int p0_2)])) t → Steps p.tables e below (T2.setTop (mkF m 16 #[.val (.int p0_0), .val (.int p0_1), .val (.int p0_2), .val (.int p0_3), .val (.int (j0_11_s0 p0_0 p0_1 p0_3)), .unset, .unset, .unset, .unset, .unset, .unset] [(.int (p0_3 &&& (2 : Int32)))])) t := fun t k => pre9 t (by
        refine XS.ifYes X2.here hx rfl (pc0 := 16) (pc' := 23) rfl (hb hby at_16) rfl ((if0 _ _).trans (teq hc16_10).1) (by decide) (by decide) ?_
        show Steps p.tables e below (T2.setTop (mkF m 23 #[.val (.int p0_0), .val (.int p0_1), .val (.int p0_2), .val (.int p0_3), .val (.int (j0_11_s0 p0_0 p0_1 p0_3)), .unset, .unset, .unset, .unset, .unset, .unset] [])) _
        refine XS.iloadN X2.here hx rfl (hb hby at_23) rfl ?_
        show Steps p.tables e below (T2.setTop (mkF m 24 #[.val (.int p0_0), .val (.int p0_1), .val (.int p0_2), .val (.int p0_3), .val (.int (j0_11_s0 p0_0 p0_1 p0_3)), .unset, .unset, .unset, .unset, .unset, .unset] [(.int p0_2)])) _
        exact k)
      have hj13 : (j0_24_s0 p0_0 p0_2 p0_3) = p0_2 := by unfold j0_24_s0; rw [if_pos hc16_10]
      exact ⟨T2, _, X2, e2, N2, fun t k => pre11 t (by rw [hj13] at k; exact k)⟩
    · have pre12 : ∀ t, Steps p.tables e below (T2.setTop (mkF m 24 #[.val (.int p0_0), .val (.int p0_1), .val (.int p0_2), .val (.int p0_3), .val (.int (j0_11_s0 p0_0 p0_1 p0_3)), .unset, .unset, .unset, .unset, .unset, .unset] [(.int p0_0)])) t → Steps p.tables e below (T2.setTop (mkF m 16 #[.val (.int p0_0), .val (.int p0_1), .val (.int p0_2), .val (.int p0_3), .val (.int (j0_11_s0 p0_0 p0_1 p0_3)), .unset, .unset, .unset, .unset, .unset, .unset] [(.int (p0_3 &&& (2 : Int32)))])) t := fun t k => pre9 t (by
        refine XS.ifNo X2.here hx rfl (hb hby at_16) rfl ((if0 _ _).trans (feq hc16_10).1) ?_
        show Steps p.tables e below (T2.setTop (mkF m 19 #[.val (.int p0_0), .val (.int p0_1), .val (.int p0_2), .val (.int p0_3), .val (.int (j0_11_s0 p0_0 p0_1 p0_3)), .unset, .unset, .unset, .unset, .unset, .unset] [])) _
        refine XS.iloadN X2.here hx rfl (hb hby at_19) rfl ?_
        show Steps p.tables e below (T2.setTop (mkF m 20 #[.val (.int p0_0), .val (.int p0_1), .val (.int p0_2), .val (.int p0_3), .val (.int (j0_11_s0 p0_0 p0_1 p0_3)), .unset, .unset, .unset, .unset, .unset, .unset] [(.int p0_0)])) _
        refine XS.goto X2.here hx rfl (pc0 := 20) (pc' := 24) rfl (hb hby at_20) (by decide) (by decide) ?_
        show Steps p.tables e below (T2.setTop (mkF m 24 #[.val (.int p0_0), .val (.int p0_1), .val (.int p0_2), .val (.int p0_3), .val (.int (j0_11_s0 p0_0 p0_1 p0_3)), .unset, .unset, .unset, .unset, .unset, .unset] [(.int p0_0)])) _
        exact k)
      have hj14 : (j0_24_s0 p0_0 p0_2 p0_3) = p0_0 := by unfold j0_24_s0; rw [if_neg hc16_10]
      exact ⟨T2, _, X2, e2, N2, fun t k => pre12 t (by rw [hj14] at k; exact k)⟩
  have pre9 : ∀ t, Steps p.tables e below (T9.setTop (mkF m 24 #[.val (.int p0_0), .val (.int p0_1), .val (.int p0_2), .val (.int p0_3), .val (.int (j0_11_s0 p0_0 p0_1 p0_3)), .unset, .unset, .unset, .unset, .unset, .unset] [(.int (j0_24_s0 p0_0 p0_2 p0_3))])) t → Steps p.tables e below (s₁.setTop (entryFrame m #[(.int p0_0), (.int p0_1), (.int p0_2), (.int p0_3)] maxLocals)) t := fun t k => pre8 t (st9 t k)
  have pre15 : ∀ t, Steps p.tables e below (T9.setTop (mkF m 29 #[.val (.int p0_0), .val (.int p0_1), .val (.int p0_2), .val (.int p0_3), .val (.int (j0_11_s0 p0_0 p0_1 p0_3)), .val (.int (j0_24_s0 p0_0 p0_2 p0_3)), .unset, .unset, .unset, .unset, .unset] [(.int (p0_3 &&& (4 : Int32)))])) t → Steps p.tables e below (s₁.setTop (entryFrame m #[(.int p0_0), (.int p0_1), (.int p0_2), (.int p0_3)] maxLocals)) t := fun t k => pre9 t (by
    refine XS.istore X9.here hx rfl (hb hby at_24) rfl (l' := #[.val (.int p0_0), .val (.int p0_1), .val (.int p0_2), .val (.int p0_3), .val (.int (j0_11_s0 p0_0 p0_1 p0_3)), .val (.int (j0_24_s0 p0_0 p0_2 p0_3)), .unset, .unset, .unset, .unset, .unset]) rfl ?_
    show Steps p.tables e below (T9.setTop (mkF m 26 #[.val (.int p0_0), .val (.int p0_1), .val (.int p0_2), .val (.int p0_3), .val (.int (j0_11_s0 p0_0 p0_1 p0_3)), .val (.int (j0_24_s0 p0_0 p0_2 p0_3)), .unset, .unset, .unset, .unset, .unset] [])) _
    refine XS.iloadN X9.here hx rfl (hb hby at_26) rfl ?_
    show Steps p.tables e below (T9.setTop (mkF m 27 #[.val (.int p0_0), .val (.int p0_1), .val (.int p0_2), .val (.int p0_3), .val (.int (j0_11_s0 p0_0 p0_1 p0_3)), .val (.int (j0_24_s0 p0_0 p0_2 p0_3)), .unset, .unset, .unset, .unset, .unset] [(.int p0_3)])) _
    refine XS.iconst X9.here hx rfl (hb hby at_27) ?_
    show Steps p.tables e below (T9.setTop (mkF m 28 #[.val (.int p0_0), .val (.int p0_1), .val (.int p0_2), .val (.int p0_3), .val (.int (j0_11_s0 p0_0 p0_1 p0_3)), .val (.int (j0_24_s0 p0_0 p0_2 p0_3)), .unset, .unset, .unset, .unset, .unset] [(.int (4 : Int32)), (.int p0_3)])) _
    refine XS.iand X9.here hx rfl (hb hby at_28) rfl ?_
    show Steps p.tables e below (T9.setTop (mkF m 29 #[.val (.int p0_0), .val (.int p0_1), .val (.int p0_2), .val (.int p0_3), .val (.int (j0_11_s0 p0_0 p0_1 p0_3)), .val (.int (j0_24_s0 p0_0 p0_2 p0_3)), .unset, .unset, .unset, .unset, .unset] [(.int (p0_3 &&& (4 : Int32)))])) _
    exact k)
  obtain ⟨T16, L16, X16, e16, N16, st16⟩ : ∃ (T' : State) (L' : List Loc), Stand p l e room_1 s m #[(.int p0_0), (.int p0_1), (.int p0_2), (.int p0_3)] below meth c T' L' 0 0 ∧ T'.heap = h0 ∧ Fr n0 L' ∧ ∀ t, Steps p.tables e below (T'.setTop (mkF m 36 #[.val (.int p0_0), .val (.int p0_1), .val (.int p0_2), .val (.int p0_3), .val (.int (j0_11_s0 p0_0 p0_1 p0_3)), .val (.int (j0_36_5 p0_0 p0_1 p0_2 p0_3)), .unset, .unset, .unset, .unset, .unset] [])) t → Steps p.tables e below (T9.setTop (mkF m 29 #[.val (.int p0_0), .val (.int p0_1), .val (.int p0_2), .val (.int p0_3), .val (.int (j0_11_s0 p0_0 p0_1 p0_3)), .val (.int (j0_24_s0 p0_0 p0_2 p0_3)), .unset, .unset, .unset, .unset, .unset] [(.int (p0_3 &&& (4 : Int32)))])) t := by
    have pre16 : ∀ t, Steps p.tables e below (T9.setTop (mkF m 29 #[.val (.int p0_0), .val (.int p0_1), .val (.int p0_2), .val (.int p0_3), .val (.int (j0_11_s0 p0_0 p0_1 p0_3)), .val (.int (j0_24_s0 p0_0 p0_2 p0_3)), .unset, .unset, .unset, .unset, .unset] [(.int (p0_3 &&& (4 : Int32)))])) t → Steps p.tables e below (T9.setTop (mkF m 29 #[.val (.int p0_0), .val (.int p0_1), .val (.int p0_2), .val (.int p0_3), .val (.int (j0_11_s0 p0_0 p0_1 p0_3)), .val (.int (j0_24_s0 p0_0 p0_2 p0_3)), .unset, .unset, .unset, .unset, .unset] [(.int (p0_3 &&& (4 : Int32)))])) t := fun t k => k
    by_cases hc29_17 : (p0_3 &&& (4 : Int32)) = (0 : Int32)
    · have pre18 : ∀ t, Steps p.tables e below (T9.setTop (mkF m 36 #[.val (.int p0_0), .val (.int p0_1), .val (.int p0_2), .val (.int p0_3), .val (.int (j0_11_s0 p0_0 p0_1 p0_3)), .val (.int (j0_24_s0 p0_0 p0_2 p0_3)), .unset, .unset, .unset, .unset, .unset] [])) t → Steps p.tables e below (T9.setTop (mkF m 29 #[.val (.int p0_0), .val (.int p0_1), .val (.int p0_2), .val (.int p0_3), .val (.int (j0_11_s0 p0_0 p0_1 p0_3)), .val (.int (j0_24_s0 p0_0 p0_2 p0_3)), .unset, .unset, .unset, .unset, .unset] [(.int (p0_3 &&& (4 : Int32)))])) t := fun t k => pre16 t (by
        refine XS.ifYes X9.here hx rfl (pc0 := 29) (pc' := 36) rfl (hb hby at_29) rfl ((if0 _ _).trans (teq hc29_17).1) (by decide) (by decide) ?_
        show Steps p.tables e below (T9.setTop (mkF m 36 #[.val (.int p0_0), .val (.int p0_1), .val (.int p0_2), .val (.int p0_3), .val (.int (j0_11_s0 p0_0 p0_1 p0_3)), .val (.int (j0_24_s0 p0_0 p0_2 p0_3)), .unset, .unset, .unset, .unset, .unset] [])) _
        exact k)
      have hj20 : (j0_36_5 p0_0 p0_1 p0_2 p0_3) = (j0_24_s0 p0_0 p0_2 p0_3) := by unfold j0_36_5; rw [if_pos hc29_17]
      exact ⟨T9, _, X9, e9, N9, fun t k => pre18 t (by rw [hj20] at k; exact k)⟩
    · have pre19 : ∀ t, Steps p.tables e below (T9.setTop (mkF m 36 #[.val (.int p0_0), .val (.int p0_1), .val (.int p0_2), .val (.int p0_3), .val (.int (j0_11_s0 p0_0 p0_1 p0_3)), .val (.int (j0_11_s0 p0_0 p0_1 p0_3)), .unset, .unset, .unset, .unset, .unset] [])) t → Steps p.tables e below (T9.setTop (mkF m 29 #[.val (.int p0_0), .val (.int p0_1), .val (.int p0_2), .val (.int p0_3), .val (.int (j0_11_s0 p0_0 p0_1 p0_3)), .val (.int (j0_24_s0 p0_0 p0_2 p0_3)), .unset, .unset, .unset, .unset, .unset] [(.int (p0_3 &&& (4 : Int32)))])) t := fun t k => pre16 t (by
        refine XS.ifNo X9.here hx rfl (hb hby at_29) rfl ((if0 _ _).trans (feq hc29_17).1) ?_
        show Steps p.tables e below (T9.setTop (mkF m 32 #[.val (.int p0_0), .val (.int p0_1), .val (.int p0_2), .val (.int p0_3), .val (.int (j0_11_s0 p0_0 p0_1 p0_3)), .val (.int (j0_24_s0 p0_0 p0_2 p0_3)), .unset, .unset, .unset, .unset, .unset] [])) _
        refine XS.iload X9.here hx rfl (hb hby at_32) rfl ?_
        show Steps p.tables e below (T9.setTop (mkF m 34 #[.val (.int p0_0), .val (.int p0_1), .val (.int p0_2), .val (.int p0_3), .val (.int (j0_11_s0 p0_0 p0_1 p0_3)), .val (.int (j0_24_s0 p0_0 p0_2 p0_3)), .unset, .unset, .unset, .unset, .unset] [(.int (j0_11_s0 p0_0 p0_1 p0_3))])) _
        refine XS.istore X9.here hx rfl (hb hby at_34) rfl (l' := #[.val (.int p0_0), .val (.int p0_1), .val (.int p0_2), .val (.int p0_3), .val (.int (j0_11_s0 p0_0 p0_1 p0_3)), .val (.int (j0_11_s0 p0_0 p0_1 p0_3)), .unset, .unset, .unset, .unset, .unset]) rfl ?_
        show Steps p.tables e below (T9.setTop (mkF m 36 #[.val (.int p0_0), .val (.int p0_1), .val (.int p0_2), .val (.int p0_3), .val (.int (j0_11_s0 p0_0 p0_1 p0_3)), .val (.int (j0_11_s0 p0_0 p0_1 p0_3)), .unset, .unset, .unset, .unset, .unset] [])) _
        exact k)
      have hj21 : (j0_36_5 p0_0 p0_1 p0_2 p0_3) = (j0_11_s0 p0_0 p0_1 p0_3) := by unfold j0_36_5; rw [if_neg hc29_17]
      exact ⟨T9, _, X9, e9, N9, fun t k => pre19 t (by rw [hj21] at k; exact k)⟩
  have pre16 : ∀ t, Steps p.tables e below (T16.setTop (mkF m 36 #[.val (.int p0_0), .val (.int p0_1), .val (.int p0_2), .val (.int p0_3), .val (.int (j0_11_s0 p0_0 p0_1 p0_3)), .val (.int (j0_36_5 p0_0 p0_1 p0_2 p0_3)), .unset, .unset, .unset, .unset, .unset] [])) t → Steps p.tables e below (s₁.setTop (entryFrame m #[(.int p0_0), (.int p0_1), (.int p0_2), (.int p0_3)] maxLocals)) t := fun t k => pre15 t (st16 t k)
  have pre22 : ∀ t, Steps p.tables e below (T16.setTop (mkF m 42 #[.val (.int p0_0), .val (.int p0_1), .val (.int p0_2), .val (.int p0_3), .val (.int (j0_11_s0 p0_0 p0_1 p0_3)), .val (.int (j0_36_5 p0_0 p0_1 p0_2 p0_3)), .unset, .unset, .unset, .unset, .unset] [(.int (j0_36_5 p0_0 p0_1 p0_2 p0_3)), (.int (j0_11_s0 p0_0 p0_1 p0_3)), (.int p0_0), (.int (0 : Int32))])) t → Steps p.tables e below (s₁.setTop (entryFrame m #[(.int p0_0), (.int p0_1), (.int p0_2), (.int p0_3)] maxLocals)) t := fun t k => pre16 t (by
    refine XS.iconst X16.here hx rfl (hb hby at_36) ?_
    show Steps p.tables e below (T16.setTop (mkF m 37 #[.val (.int p0_0), .val (.int p0_1), .val (.int p0_2), .val (.int p0_3), .val (.int (j0_11_s0 p0_0 p0_1 p0_3)), .val (.int (j0_36_5 p0_0 p0_1 p0_2 p0_3)), .unset, .unset, .unset, .unset, .unset] [(.int (0 : Int32))])) _
    refine XS.iloadN X16.here hx rfl (hb hby at_37) rfl ?_
    show Steps p.tables e below (T16.setTop (mkF m 38 #[.val (.int p0_0), .val (.int p0_1), .val (.int p0_2), .val (.int p0_3), .val (.int (j0_11_s0 p0_0 p0_1 p0_3)), .val (.int (j0_36_5 p0_0 p0_1 p0_2 p0_3)), .unset, .unset, .unset, .unset, .unset] [(.int p0_0), (.int (0 : Int32))])) _
    refine XS.iload X16.here hx rfl (hb hby at_38) rfl ?_
    show Steps p.tables e below (T16.setTop (mkF m 40 #[.val (.int p0_0), .val (.int p0_1), .val (.int p0_2), .val (.int p0_3), .val (.int (j0_11_s0 p0_0 p0_1 p0_3)), .val (.int (j0_36_5 p0_0 p0_1 p0_2 p0_3)), .unset, .unset, .unset, .unset, .unset] [(.int (j0_11_s0 p0_0 p0_1 p0_3)), (.int p0_0), (.int (0 : Int32))])) _
    refine XS.iload X16.here hx rfl (hb hby at_40) rfl ?_
    show Steps p.tables e below (T16.setTop (mkF m 42 #[.val (.int p0_0), .val (.int p0_1), .val (.int p0_2), .val (.int p0_3), .val (.int (j0_11_s0 p0_0 p0_1 p0_3)), .val (.int (j0_36_5 p0_0 p0_1 p0_2 p0_3)), .unset, .unset, .unset, .unset, .unset] [(.int (j0_36_5 p0_0 p0_1 p0_2 p0_3)), (.int (j0_11_s0 p0_0 p0_1 p0_3)), (.int p0_0), (.int (0 : Int32))])) _
    exact k)
  obtain ⟨_, _, ⟨T23, L23, k23, n23⟩, -, X23, ⟨Lc23, hQ23, l23, y23, z23⟩, st23⟩ := Jvm.LawKit.callS X16 hx (y := (⟨"java/lang/Math", "max", "(II)I"⟩ : MethodName)) hown (mvT hZ (hw _ (List.mem_of_getElem? (i := 0) rfl))) (mvT hZ (hw _ (List.mem_of_getElem? (i := 1) rfl))) (mvT hZ (hw _ (List.mem_of_getElem? (i := 2) rfl))) (mvT hZ (hw _ (List.mem_of_getElem? (i := 3) rfl))) (by decide) (backOf (W := 2) (rm1 l Z a0 hw [] (j0_11_s0 p0_0 p0_1 p0_3) (j0_36_5 p0_0 p0_1 p0_2 p0_3) h0 n0 Z0 ) hZ (hw _ (List.mem_of_getElem? (i := 3) rfl)) (hw _ (List.mem_of_getElem? (i := 2) rfl)) (by decide) (by decide)) (g := (mkF m 42 #[.val (.int p0_0), .val (.int p0_1), .val (.int p0_2), .val (.int p0_3), .val (.int (j0_11_s0 p0_0 p0_1 p0_3)), .val (.int (j0_36_5 p0_0 p0_1 p0_2 p0_3)), .unset, .unset, .unset, .unset, .unset] [(.int (j0_36_5 p0_0 p0_1 p0_2 p0_3)), (.int (j0_11_s0 p0_0 p0_1 p0_3)), (.int p0_0), (.int (0 : Int32))])) rfl (by rw [hml]; rfl) (argsL := [(.int (j0_11_s0 p0_0 p0_1 p0_3)), (.int (j0_36_5 p0_0 p0_1 p0_2 p0_3))]) (rest := [(.int p0_0), (.int (0 : Int32))]) (lenOf pd_0 rfl) rfl (by show 2 * 0 + _ ≤ _; exact Nat.le_of_eq rfl) (hb hby at_42) (fun _ _ => ⟨rfl, e16, (by decide : 0 + 0 ≤ _), (by decide : 0 + 0 ≤ _)⟩)
  dsimp only [Pt.U, Pt.locs, Pt.cells, Pt.slots] at X23 l23 y23 z23 st23 hQ23
  subst l23 y23 z23
  obtain ⟨rfl, M23, e23⟩ := hQ23
  have N23 := Fr.app N16 M23
  have pre23 : ∀ t, Steps p.tables e below (T23.setTop (mkF m 45 #[.val (.int p0_0), .val (.int p0_1), .val (.int p0_2), .val (.int p0_3), .val (.int (j0_11_s0 p0_0 p0_1 p0_3)), .val (.int (j0_36_5 p0_0 p0_1 p0_2 p0_3)), .unset, .unset, .unset, .unset, .unset] [(.int (r1 (j0_11_s0 p0_0 p0_1 p0_3) (j0_36_5 p0_0 p0_1 p0_2 p0_3))), (.int p0_0), (.int (0 : Int32))])) t → Steps p.tables e below (s₁.setTop (entryFrame m #[(.int p0_0), (.int p0_1), (.int p0_2), (.int p0_3)] maxLocals)) t := fun t k => pre22 t (st23 t k)
  obtain ⟨_, _, ⟨T24, L24, k24, n24⟩, -, X24, ⟨Lc24, hQ24, l24, y24, z24⟩, st24⟩ := Jvm.LawKit.callS X23 hx (y := (⟨"java/lang/Math", "max", "(II)I"⟩ : MethodName)) hown (mvT hZ (hw _ (List.mem_of_getElem? (i := 0) rfl))) (mvT hZ (hw _ (List.mem_of_getElem? (i := 1) rfl))) (mvT hZ (hw _ (List.mem_of_getElem? (i := 2) rfl))) (mvT hZ (hw _ (List.mem_of_getElem? (i := 3) rfl))) (by decide) (backOf (W := 1) (rm1 l Z a0 hw [] p0_0 (r1 (j0_11_s0 p0_0 p0_1 p0_3) (j0_36_5 p0_0 p0_1 p0_2 p0_3)) h0 n0 Z0 ) hZ (hw _ (List.mem_of_getElem? (i := 3) rfl)) (hw _ (List.mem_of_getElem? (i := 2) rfl)) (by decide) (by decide)) (g := (mkF m 45 #[.val (.int p0_0), .val (.int p0_1), .val (.int p0_2), .val (.int p0_3), .val (.int (j0_11_s0 p0_0 p0_1 p0_3)), .val (.int (j0_36_5 p0_0 p0_1 p0_2 p0_3)), .unset, .unset, .unset, .unset, .unset] [(.int (r1 (j0_11_s0 p0_0 p0_1 p0_3) (j0_36_5 p0_0 p0_1 p0_2 p0_3))), (.int p0_0), (.int (0 : Int32))])) rfl (by rw [hml]; rfl) (argsL := [(.int p0_0), (.int (r1 (j0_11_s0 p0_0 p0_1 p0_3) (j0_36_5 p0_0 p0_1 p0_2 p0_3)))]) (rest := [(.int (0 : Int32))]) (lenOf pd_0 rfl) rfl (by show 2 * 0 + _ ≤ _; exact Nat.le_of_eq rfl) (hb hby at_45) (fun _ _ => ⟨rfl, e23, (by decide : 0 + 0 ≤ _), (by decide : 0 + 0 ≤ _)⟩)
  dsimp only [Pt.U, Pt.locs, Pt.cells, Pt.slots] at X24 l24 y24 z24 st24 hQ24
  subst l24 y24 z24
  obtain ⟨rfl, M24, e24⟩ := hQ24
  have N24 := Fr.app N23 M24
  have pre24 : ∀ t, Steps p.tables e below (T24.setTop (mkF m 48 #[.val (.int p0_0), .val (.int p0_1), .val (.int p0_2), .val (.int p0_3), .val (.int (j0_11_s0 p0_0 p0_1 p0_3)), .val (.int (j0_36_5 p0_0 p0_1 p0_2 p0_3)), .unset, .unset, .unset, .unset, .unset] [(.int (c0_45 p0_0 p0_1 p0_2 p0_3)), (.int (0 : Int32))])) t → Steps p.tables e below (s₁.setTop (entryFrame m #[(.int p0_0), (.int p0_1), (.int p0_2), (.int p0_3)] maxLocals)) t := fun t k => pre23 t (st24 t k)
  obtain ⟨_, _, ⟨T25, L25, k25, n25⟩, -, X25, ⟨Lc25, hQ25, l25, y25, z25⟩, st25⟩ := Jvm.LawKit.callS X24 hx (y := (⟨"java/lang/Math", "max", "(II)I"⟩ : MethodName)) hown (mvT hZ (hw _ (List.mem_of_getElem? (i := 0) rfl))) (mvT hZ (hw _ (List.mem_of_getElem? (i := 1) rfl))) (mvT hZ (hw _ (List.mem_of_getElem? (i := 2) rfl))) (mvT hZ (hw _ (List.mem_of_getElem? (i := 3) rfl))) (by decide) (backOf (W := 0) (rm1 l Z a0 hw [] (0 : Int32) (c0_45 p0_0 p0_1 p0_2 p0_3) h0 n0 Z0 ) hZ (hw _ (List.mem_of_getElem? (i := 3) rfl)) (hw _ (List.mem_of_getElem? (i := 2) rfl)) (by decide) (by decide)) (g := (mkF m 48 #[.val (.int p0_0), .val (.int p0_1), .val (.int p0_2), .val (.int p0_3), .val (.int (j0_11_s0 p0_0 p0_1 p0_3)), .val (.int (j0_36_5 p0_0 p0_1 p0_2 p0_3)), .unset, .unset, .unset, .unset, .unset] [(.int (c0_45 p0_0 p0_1 p0_2 p0_3)), (.int (0 : Int32))])) rfl (by rw [hml]; rfl) (argsL := [(.int (0 : Int32)), (.int (c0_45 p0_0 p0_1 p0_2 p0_3))]) (rest := []) (lenOf pd_0 rfl) rfl (by show 2 * 0 + _ ≤ _; exact Nat.le_of_eq rfl) (hb hby at_48) (fun _ _ => ⟨rfl, e24, (by decide : 0 + 0 ≤ _), (by decide : 0 + 0 ≤ _)⟩)
  dsimp only [Pt.U, Pt.locs, Pt.cells, Pt.slots] at X25 l25 y25 z25 st25 hQ25
  subst l25 y25 z25
  obtain ⟨rfl, M25, e25⟩ := hQ25
  have N25 := Fr.app N24 M25
  have pre25 : ∀ t, Steps p.tables e below (T25.setTop (mkF m 51 #[.val (.int p0_0), .val (.int p0_1), .val (.int p0_2), .val (.int p0_3), .val (.int (j0_11_s0 p0_0 p0_1 p0_3)), .val (.int (j0_36_5 p0_0 p0_1 p0_2 p0_3)), .unset, .unset, .unset, .unset, .unset] [(.int (r1 (0 : Int32) (c0_45 p0_0 p0_1 p0_2 p0_3)))])) t → Steps p.tables e below (s₁.setTop (entryFrame m #[(.int p0_0), (.int p0_1), (.int p0_2), (.int p0_3)] maxLocals)) t := fun t k => pre24 t (st25 t k)
  have pre26 : ∀ t, Steps p.tables e below (T25.setTop (mkF m 56 #[.val (.int p0_0), .val (.int p0_1), .val (.int p0_2), .val (.int p0_3), .val (.int (j0_11_s0 p0_0 p0_1 p0_3)), .val (.int (j0_36_5 p0_0 p0_1 p0_2 p0_3)), .val (.int (v0_51 p0_0 p0_1 p0_2 p0_3)), .unset, .unset, .unset, .unset] [(.int (v0_51 p0_0 p0_1 p0_2 p0_3)), (.int p0_0)])) t → Steps p.tables e below (s₁.setTop (entryFrame m #[(.int p0_0), (.int p0_1), (.int p0_2), (.int p0_3)] maxLocals)) t := fun t k => pre25 t (by
    show Steps p.tables e below (T25.setTop (mkF m 51 #[.val (.int p0_0), .val (.int p0_1), .val (.int p0_2), .val (.int p0_3), .val (.int (j0_11_s0 p0_0 p0_1 p0_3)), .val (.int (j0_36_5 p0_0 p0_1 p0_2 p0_3)), .unset, .unset, .unset, .unset, .unset] [(.int (v0_51 p0_0 p0_1 p0_2 p0_3))])) _
    refine XS.istore X25.here hx rfl (hb hby at_51) rfl (l' := #[.val (.int p0_0), .val (.int p0_1), .val (.int p0_2), .val (.int p0_3), .val (.int (j0_11_s0 p0_0 p0_1 p0_3)), .val (.int (j0_36_5 p0_0 p0_1 p0_2 p0_3)), .val (.int (v0_51 p0_0 p0_1 p0_2 p0_3)), .unset, .unset, .unset, .unset]) rfl ?_
    show Steps p.tables e below (T25.setTop (mkF m 53 #[.val (.int p0_0), .val (.int p0_1), .val (.int p0_2), .val (.int p0_3), .val (.int (j0_11_s0 p0_0 p0_1 p0_3)), .val (.int (j0_36_5 p0_0 p0_1 p0_2 p0_3)), .val (.int (v0_51 p0_0 p0_1 p0_2 p0_3)), .unset, .unset, .unset, .unset] [])) _
    refine XS.iloadN X25.here hx rfl (hb hby at_53) rfl ?_
    show Steps p.tables e below (T25.setTop (mkF m 54 #[.val (.int p0_0), .val (.int p0_1), .val (.int p0_2), .val (.int p0_3), .val (.int (j0_11_s0 p0_0 p0_1 p0_3)), .val (.int (j0_36_5 p0_0 p0_1 p0_2 p0_3)), .val (.int (v0_51 p0_0 p0_1 p0_2 p0_3)), .unset, .unset, .unset, .unset] [(.int p0_0)])) _
    refine XS.iload X25.here hx rfl (hb hby at_54) rfl ?_
    show Steps p.tables e below (T25.setTop (mkF m 56 #[.val (.int p0_0), .val (.int p0_1), .val (.int p0_2), .val (.int p0_3), .val (.int (j0_11_s0 p0_0 p0_1 p0_3)), .val (.int (j0_36_5 p0_0 p0_1 p0_2 p0_3)), .val (.int (v0_51 p0_0 p0_1 p0_2 p0_3)), .unset, .unset, .unset, .unset] [(.int (v0_51 p0_0 p0_1 p0_2 p0_3)), (.int p0_0)])) _
    exact k)
  obtain ⟨_, _, ⟨T27, L27, k27, n27⟩, -, X27, ⟨Lc27, hQ27, l27, y27, z27⟩, st27⟩ := Jvm.LawKit.callS X25 hx (y := (⟨"relayout/LargestAddPinLaw", "eq", "(II)I"⟩ : MethodName)) hown (mvT hZ (hw _ (List.mem_of_getElem? (i := 4) rfl))) (mvT hZ (hw _ (List.mem_of_getElem? (i := 5) rfl))) (mvT hZ (hw _ (List.mem_of_getElem? (i := 6) rfl))) (mvT hZ (hw _ (List.mem_of_getElem? (i := 7) rfl))) (by decide) (backOf (W := 0) (rm2 l Z a0 hw [] p0_0 (v0_51 p0_0 p0_1 p0_2 p0_3) h0 n0 Z0 ) hZ (hw _ (List.mem_of_getElem? (i := 7) rfl)) (hw _ (List.mem_of_getElem? (i := 6) rfl)) (by decide) (by decide)) (g := (mkF m 56 #[.val (.int p0_0), .val (.int p0_1), .val (.int p0_2), .val (.int p0_3), .val (.int (j0_11_s0 p0_0 p0_1 p0_3)), .val (.int (j0_36_5 p0_0 p0_1 p0_2 p0_3)), .val (.int (v0_51 p0_0 p0_1 p0_2 p0_3)), .unset, .unset, .unset, .unset] [(.int (v0_51 p0_0 p0_1 p0_2 p0_3)), (.int p0_0)])) rfl (by rw [hml]; rfl) (argsL := [(.int p0_0), (.int (v0_51 p0_0 p0_1 p0_2 p0_3))]) (rest := []) (lenOf pd_0 rfl) rfl (by show 2 * 0 + _ ≤ _; exact Nat.le_of_eq rfl) (hb hby at_56) (fun _ _ => ⟨rfl, e25, (by decide : 0 + 0 ≤ _), (by decide : 0 + 0 ≤ _)⟩)
  dsimp only [Pt.U, Pt.locs, Pt.cells, Pt.slots] at X27 l27 y27 z27 st27 hQ27
  subst l27 y27 z27
  obtain ⟨rfl, M27, e27⟩ := hQ27
  have N27 := Fr.app N25 M27
  have pre27 : ∀ t, Steps p.tables e below (T27.setTop (mkF m 59 #[.val (.int p0_0), .val (.int p0_1), .val (.int p0_2), .val (.int p0_3), .val (.int (j0_11_s0 p0_0 p0_1 p0_3)), .val (.int (j0_36_5 p0_0 p0_1 p0_2 p0_3)), .val (.int (v0_51 p0_0 p0_1 p0_2 p0_3)), .unset, .unset, .unset, .unset] [(.int (r2 p0_0 (v0_51 p0_0 p0_1 p0_2 p0_3)))])) t → Steps p.tables e below (s₁.setTop (entryFrame m #[(.int p0_0), (.int p0_1), (.int p0_2), (.int p0_3)] maxLocals)) t := fun t k => pre26 t (st27 t k)
  have pre28 : ∀ t, Steps p.tables e below (T27.setTop (mkF m 63 #[.val (.int p0_0), .val (.int p0_1), .val (.int p0_2), .val (.int p0_3), .val (.int (j0_11_s0 p0_0 p0_1 p0_3)), .val (.int (j0_36_5 p0_0 p0_1 p0_2 p0_3)), .val (.int (v0_51 p0_0 p0_1 p0_2 p0_3)), .unset, .unset, .unset, .unset] [(.int (v0_51 p0_0 p0_1 p0_2 p0_3)), (.int (j0_11_s0 p0_0 p0_1 p0_3)), (.int (r2 p0_0 (v0_51 p0_0 p0_1 p0_2 p0_3)))])) t → Steps p.tables e below (s₁.setTop (entryFrame m #[(.int p0_0), (.int p0_1), (.int p0_2), (.int p0_3)] maxLocals)) t := fun t k => pre27 t (by
    refine XS.iload X27.here hx rfl (hb hby at_59) rfl ?_
    show Steps p.tables e below (T27.setTop (mkF m 61 #[.val (.int p0_0), .val (.int p0_1), .val (.int p0_2), .val (.int p0_3), .val (.int (j0_11_s0 p0_0 p0_1 p0_3)), .val (.int (j0_36_5 p0_0 p0_1 p0_2 p0_3)), .val (.int (v0_51 p0_0 p0_1 p0_2 p0_3)), .unset, .unset, .unset, .unset] [(.int (j0_11_s0 p0_0 p0_1 p0_3)), (.int (r2 p0_0 (v0_51 p0_0 p0_1 p0_2 p0_3)))])) _
    refine XS.iload X27.here hx rfl (hb hby at_61) rfl ?_
    show Steps p.tables e below (T27.setTop (mkF m 63 #[.val (.int p0_0), .val (.int p0_1), .val (.int p0_2), .val (.int p0_3), .val (.int (j0_11_s0 p0_0 p0_1 p0_3)), .val (.int (j0_36_5 p0_0 p0_1 p0_2 p0_3)), .val (.int (v0_51 p0_0 p0_1 p0_2 p0_3)), .unset, .unset, .unset, .unset] [(.int (v0_51 p0_0 p0_1 p0_2 p0_3)), (.int (j0_11_s0 p0_0 p0_1 p0_3)), (.int (r2 p0_0 (v0_51 p0_0 p0_1 p0_2 p0_3)))])) _
    exact k)
  obtain ⟨_, _, ⟨T29, L29, k29, n29⟩, -, X29, ⟨Lc29, hQ29, l29, y29, z29⟩, st29⟩ := Jvm.LawKit.callS X27 hx (y := (⟨"relayout/LargestAddPinLaw", "eq", "(II)I"⟩ : MethodName)) hown (mvT hZ (hw _ (List.mem_of_getElem? (i := 4) rfl))) (mvT hZ (hw _ (List.mem_of_getElem? (i := 5) rfl))) (mvT hZ (hw _ (List.mem_of_getElem? (i := 6) rfl))) (mvT hZ (hw _ (List.mem_of_getElem? (i := 7) rfl))) (by decide) (backOf (W := 1) (rm2 l Z a0 hw [] (j0_11_s0 p0_0 p0_1 p0_3) (v0_51 p0_0 p0_1 p0_2 p0_3) h0 n0 Z0 ) hZ (hw _ (List.mem_of_getElem? (i := 7) rfl)) (hw _ (List.mem_of_getElem? (i := 6) rfl)) (by decide) (by decide)) (g := (mkF m 63 #[.val (.int p0_0), .val (.int p0_1), .val (.int p0_2), .val (.int p0_3), .val (.int (j0_11_s0 p0_0 p0_1 p0_3)), .val (.int (j0_36_5 p0_0 p0_1 p0_2 p0_3)), .val (.int (v0_51 p0_0 p0_1 p0_2 p0_3)), .unset, .unset, .unset, .unset] [(.int (v0_51 p0_0 p0_1 p0_2 p0_3)), (.int (j0_11_s0 p0_0 p0_1 p0_3)), (.int (r2 p0_0 (v0_51 p0_0 p0_1 p0_2 p0_3)))])) rfl (by rw [hml]; rfl) (argsL := [(.int (j0_11_s0 p0_0 p0_1 p0_3)), (.int (v0_51 p0_0 p0_1 p0_2 p0_3))]) (rest := [(.int (r2 p0_0 (v0_51 p0_0 p0_1 p0_2 p0_3)))]) (lenOf pd_0 rfl) rfl (by show 2 * 0 + _ ≤ _; exact Nat.le_of_eq rfl) (hb hby at_63) (fun _ _ => ⟨rfl, e27, (by decide : 0 + 0 ≤ _), (by decide : 0 + 0 ≤ _)⟩)
  dsimp only [Pt.U, Pt.locs, Pt.cells, Pt.slots] at X29 l29 y29 z29 st29 hQ29
  subst l29 y29 z29
  obtain ⟨rfl, M29, e29⟩ := hQ29
  have N29 := Fr.app N27 M29
  have pre29 : ∀ t, Steps p.tables e below (T29.setTop (mkF m 66 #[.val (.int p0_0), .val (.int p0_1), .val (.int p0_2), .val (.int p0_3), .val (.int (j0_11_s0 p0_0 p0_1 p0_3)), .val (.int (j0_36_5 p0_0 p0_1 p0_2 p0_3)), .val (.int (v0_51 p0_0 p0_1 p0_2 p0_3)), .unset, .unset, .unset, .unset] [(.int (r2 (j0_11_s0 p0_0 p0_1 p0_3) (v0_51 p0_0 p0_1 p0_2 p0_3))), (.int (r2 p0_0 (v0_51 p0_0 p0_1 p0_2 p0_3)))])) t → Steps p.tables e below (s₁.setTop (entryFrame m #[(.int p0_0), (.int p0_1), (.int p0_2), (.int p0_3)] maxLocals)) t := fun t k => pre28 t (st29 t k)
  have pre30 : ∀ t, Steps p.tables e below (T29.setTop (mkF m 71 #[.val (.int p0_0), .val (.int p0_1), .val (.int p0_2), .val (.int p0_3), .val (.int (j0_11_s0 p0_0 p0_1 p0_3)), .val (.int (j0_36_5 p0_0 p0_1 p0_2 p0_3)), .val (.int (v0_51 p0_0 p0_1 p0_2 p0_3)), .unset, .unset, .unset, .unset] [(.int (v0_51 p0_0 p0_1 p0_2 p0_3)), (.int (j0_36_5 p0_0 p0_1 p0_2 p0_3)), (.int ((r2 p0_0 (v0_51 p0_0 p0_1 p0_2 p0_3)) + (r2 (j0_11_s0 p0_0 p0_1 p0_3) (v0_51 p0_0 p0_1 p0_2 p0_3))))])) t → Steps p.tables e below (s₁.setTop (entryFrame m #[(.int p0_0), (.int p0_1), (.int p0_2), (.int p0_3)] maxLocals)) t := fun t k => pre29 t (by
    refine XS.iadd X29.here hx rfl (hb hby at_66) rfl ?_
    show Steps p.tables e below (T29.setTop (mkF m 67 #[.val (.int p0_0), .val (.int p0_1), .val (.int p0_2), .val (.int p0_3), .val (.int (j0_11_s0 p0_0 p0_1 p0_3)), .val (.int (j0_36_5 p0_0 p0_1 p0_2 p0_3)), .val (.int (v0_51 p0_0 p0_1 p0_2 p0_3)), .unset, .unset, .unset, .unset] [(.int ((r2 p0_0 (v0_51 p0_0 p0_1 p0_2 p0_3)) + (r2 (j0_11_s0 p0_0 p0_1 p0_3) (v0_51 p0_0 p0_1 p0_2 p0_3))))])) _
    refine XS.iload X29.here hx rfl (hb hby at_67) rfl ?_
    show Steps p.tables e below (T29.setTop (mkF m 69 #[.val (.int p0_0), .val (.int p0_1), .val (.int p0_2), .val (.int p0_3), .val (.int (j0_11_s0 p0_0 p0_1 p0_3)), .val (.int (j0_36_5 p0_0 p0_1 p0_2 p0_3)), .val (.int (v0_51 p0_0 p0_1 p0_2 p0_3)), .unset, .unset, .unset, .unset] [(.int (j0_36_5 p0_0 p0_1 p0_2 p0_3)), (.int ((r2 p0_0 (v0_51 p0_0 p0_1 p0_2 p0_3)) + (r2 (j0_11_s0 p0_0 p0_1 p0_3) (v0_51 p0_0 p0_1 p0_2 p0_3))))])) _
    refine XS.iload X29.here hx rfl (hb hby at_69) rfl ?_
    show Steps p.tables e below (T29.setTop (mkF m 71 #[.val (.int p0_0), .val (.int p0_1), .val (.int p0_2), .val (.int p0_3), .val (.int (j0_11_s0 p0_0 p0_1 p0_3)), .val (.int (j0_36_5 p0_0 p0_1 p0_2 p0_3)), .val (.int (v0_51 p0_0 p0_1 p0_2 p0_3)), .unset, .unset, .unset, .unset] [(.int (v0_51 p0_0 p0_1 p0_2 p0_3)), (.int (j0_36_5 p0_0 p0_1 p0_2 p0_3)), (.int ((r2 p0_0 (v0_51 p0_0 p0_1 p0_2 p0_3)) + (r2 (j0_11_s0 p0_0 p0_1 p0_3) (v0_51 p0_0 p0_1 p0_2 p0_3))))])) _
    exact k)
  obtain ⟨_, _, ⟨T31, L31, k31, n31⟩, -, X31, ⟨Lc31, hQ31, l31, y31, z31⟩, st31⟩ := Jvm.LawKit.callS X29 hx (y := (⟨"relayout/LargestAddPinLaw", "eq", "(II)I"⟩ : MethodName)) hown (mvT hZ (hw _ (List.mem_of_getElem? (i := 4) rfl))) (mvT hZ (hw _ (List.mem_of_getElem? (i := 5) rfl))) (mvT hZ (hw _ (List.mem_of_getElem? (i := 6) rfl))) (mvT hZ (hw _ (List.mem_of_getElem? (i := 7) rfl))) (by decide) (backOf (W := 1) (rm2 l Z a0 hw [] (j0_36_5 p0_0 p0_1 p0_2 p0_3) (v0_51 p0_0 p0_1 p0_2 p0_3) h0 n0 Z0 ) hZ (hw _ (List.mem_of_getElem? (i := 7) rfl)) (hw _ (List.mem_of_getElem? (i := 6) rfl)) (by decide) (by decide)) (g := (mkF m 71 #[.val (.int p0_0), .val (.int p0_1), .val (.int p0_2), .val (.int p0_3), .val (.int (j0_11_s0 p0_0 p0_1 p0_3)), .val (.int (j0_36_5 p0_0 p0_1 p0_2 p0_3)), .val (.int (v0_51 p0_0 p0_1 p0_2 p0_3)), .unset, .unset, .unset, .unset] [(.int (v0_51 p0_0 p0_1 p0_2 p0_3)), (.int (j0_36_5 p0_0 p0_1 p0_2 p0_3)), (.int ((r2 p0_0 (v0_51 p0_0 p0_1 p0_2 p0_3)) + (r2 (j0_11_s0 p0_0 p0_1 p0_3) (v0_51 p0_0 p0_1 p0_2 p0_3))))])) rfl (by rw [hml]; rfl) (argsL := [(.int (j0_36_5 p0_0 p0_1 p0_2 p0_3)), (.int (v0_51 p0_0 p0_1 p0_2 p0_3))]) (rest := [(.int ((r2 p0_0 (v0_51 p0_0 p0_1 p0_2 p0_3)) + (r2 (j0_11_s0 p0_0 p0_1 p0_3) (v0_51 p0_0 p0_1 p0_2 p0_3))))]) (lenOf pd_0 rfl) rfl (by show 2 * 0 + _ ≤ _; exact Nat.le_of_eq rfl) (hb hby at_71) (fun _ _ => ⟨rfl, e29, (by decide : 0 + 0 ≤ _), (by decide : 0 + 0 ≤ _)⟩)
  dsimp only [Pt.U, Pt.locs, Pt.cells, Pt.slots] at X31 l31 y31 z31 st31 hQ31
  subst l31 y31 z31
  obtain ⟨rfl, M31, e31⟩ := hQ31
  have N31 := Fr.app N29 M31
  have pre31 : ∀ t, Steps p.tables e below (T31.setTop (mkF m 74 #[.val (.int p0_0), .val (.int p0_1), .val (.int p0_2), .val (.int p0_3), .val (.int (j0_11_s0 p0_0 p0_1 p0_3)), .val (.int (j0_36_5 p0_0 p0_1 p0_2 p0_3)), .val (.int (v0_51 p0_0 p0_1 p0_2 p0_3)), .unset, .unset, .unset, .unset] [(.int (c0_71 p0_0 p0_1 p0_2 p0_3)), (.int ((r2 p0_0 (v0_51 p0_0 p0_1 p0_2 p0_3)) + (r2 (j0_11_s0 p0_0 p0_1 p0_3) (v0_51 p0_0 p0_1 p0_2 p0_3))))])) t → Steps p.tables e below (s₁.setTop (entryFrame m #[(.int p0_0), (.int p0_1), (.int p0_2), (.int p0_3)] maxLocals)) t := fun t k => pre30 t (st31 t k)
  have pre32 : ∀ t, Steps p.tables e below (T31.setTop (mkF m 79 #[.val (.int p0_0), .val (.int p0_1), .val (.int p0_2), .val (.int p0_3), .val (.int (j0_11_s0 p0_0 p0_1 p0_3)), .val (.int (j0_36_5 p0_0 p0_1 p0_2 p0_3)), .val (.int (v0_51 p0_0 p0_1 p0_2 p0_3)), .val (.int (v0_75 p0_0 p0_1 p0_2 p0_3)), .unset, .unset, .unset] [(.int (v0_51 p0_0 p0_1 p0_2 p0_3))])) t → Steps p.tables e below (s₁.setTop (entryFrame m #[(.int p0_0), (.int p0_1), (.int p0_2), (.int p0_3)] maxLocals)) t := fun t k => pre31 t (by
    refine XS.iadd X31.here hx rfl (hb hby at_74) rfl ?_
    show Steps p.tables e below (T31.setTop (mkF m 75 #[.val (.int p0_0), .val (.int p0_1), .val (.int p0_2), .val (.int p0_3), .val (.int (j0_11_s0 p0_0 p0_1 p0_3)), .val (.int (j0_36_5 p0_0 p0_1 p0_2 p0_3)), .val (.int (v0_51 p0_0 p0_1 p0_2 p0_3)), .unset, .unset, .unset, .unset] [(.int (((r2 p0_0 (v0_51 p0_0 p0_1 p0_2 p0_3)) + (r2 (j0_11_s0 p0_0 p0_1 p0_3) (v0_51 p0_0 p0_1 p0_2 p0_3))) + (c0_71 p0_0 p0_1 p0_2 p0_3)))])) _
    show Steps p.tables e below (T31.setTop (mkF m 75 #[.val (.int p0_0), .val (.int p0_1), .val (.int p0_2), .val (.int p0_3), .val (.int (j0_11_s0 p0_0 p0_1 p0_3)), .val (.int (j0_36_5 p0_0 p0_1 p0_2 p0_3)), .val (.int (v0_51 p0_0 p0_1 p0_2 p0_3)), .unset, .unset, .unset, .unset] [(.int (v0_75 p0_0 p0_1 p0_2 p0_3))])) _
    refine XS.istore X31.here hx rfl (hb hby at_75) rfl (l' := #[.val (.int p0_0), .val (.int p0_1), .val (.int p0_2), .val (.int p0_3), .val (.int (j0_11_s0 p0_0 p0_1 p0_3)), .val (.int (j0_36_5 p0_0 p0_1 p0_2 p0_3)), .val (.int (v0_51 p0_0 p0_1 p0_2 p0_3)), .val (.int (v0_75 p0_0 p0_1 p0_2 p0_3)), .unset, .unset, .unset]) rfl ?_
    show Steps p.tables e below (T31.setTop (mkF m 77 #[.val (.int p0_0), .val (.int p0_1), .val (.int p0_2), .val (.int p0_3), .val (.int (j0_11_s0 p0_0 p0_1 p0_3)), .val (.int (j0_36_5 p0_0 p0_1 p0_2 p0_3)), .val (.int (v0_51 p0_0 p0_1 p0_2 p0_3)), .val (.int (v0_75 p0_0 p0_1 p0_2 p0_3)), .unset, .unset, .unset] [])) _
    refine XS.iload X31.here hx rfl (hb hby at_77) rfl ?_
    show Steps p.tables e below (T31.setTop (mkF m 79 #[.val (.int p0_0), .val (.int p0_1), .val (.int p0_2), .val (.int p0_3), .val (.int (j0_11_s0 p0_0 p0_1 p0_3)), .val (.int (j0_36_5 p0_0 p0_1 p0_2 p0_3)), .val (.int (v0_51 p0_0 p0_1 p0_2 p0_3)), .val (.int (v0_75 p0_0 p0_1 p0_2 p0_3)), .unset, .unset, .unset] [(.int (v0_51 p0_0 p0_1 p0_2 p0_3))])) _
    exact k)
  obtain ⟨T33, L33, X33, e33, N33, st33⟩ : ∃ (T' : State) (L' : List Loc), Stand p l e room_1 s m #[(.int p0_0), (.int p0_1), (.int p0_2), (.int p0_3)] below meth c T' L' 0 0 ∧ T'.heap = h0 ∧ Fr n0 L' ∧ ∀ t, Steps p.tables e below (T'.setTop (mkF m 87 #[.val (.int p0_0), .val (.int p0_1), .val (.int p0_2), .val (.int p0_3), .val (.int (j0_11_s0 p0_0 p0_1 p0_3)), .val (.int (j0_36_5 p0_0 p0_1 p0_2 p0_3)), .val (.int (v0_51 p0_0 p0_1 p0_2 p0_3)), .val (.int (v0_75 p0_0 p0_1 p0_2 p0_3)), .unset, .unset, .unset] [(.int (j0_87_s0 p0_0 p0_1 p0_2 p0_3))])) t → Steps p.tables e below (T31.setTop (mkF m 79 #[.val (.int p0_0), .val (.int p0_1), .val (.int p0_2), .val (.int p0_3), .val (.int (j0_11_s0 p0_0 p0_1 p0_3)), .val (.int (j0_36_5 p0_0 p0_1 p0_2 p0_3)), .val (.int (v0_51 p0_0 p0_1 p0_2 p0_3)), .val (.int (v0_75 p0_0 p0_1 p0_2 p0_3)), .unset, .unset, .unset] [(.int (v0_51 p0_0 p0_1 p0_2 p0_3))])) t := by
    have pre33 : ∀ t, Steps p.tables e below (T31.setTop (mkF m 79 #[.val (.int p0_0), .val (.int p0_1), .val (.int p0_2), .val (.int p0_3), .val (.int (j0_11_s0 p0_0 p0_1 p0_3)), .val (.int (j0_36_5 p0_0 p0_1 p0_2 p0_3)), .val (.int (v0_51 p0_0 p0_1 p0_2 p0_3)), .val (.int (v0_75 p0_0 p0_1 p0_2 p0_3)), .unset, .unset, .unset] [(.int (v0_51 p0_0 p0_1 p0_2 p0_3))])) t → Steps p.tables e below (T31.setTop (mkF m 79 #[.val (.int p0_0), .val (.int p0_1), .val (.int p0_2), .val (.int p0_3), .val (.int (j0_11_s0 p0_0 p0_1 p0_3)), .val (.int (j0_36_5 p0_0 p0_1 p0_2 p0_3)), .val (.int (v0_51 p0_0 p0_1 p0_2 p0_3)), .val (.int (v0_75 p0_0 p0_1 p0_2 p0_3)), .unset, .unset, .unset] [(.int (v0_51 p0_0 p0_1 p0_2 p0_3))])) t := fun t k => k
    by_cases hc79_34 : (v0_51 p0_0 p0_1 p0_2 p0_3) = (0 : Int32)
    · have pre35 : ∀ t, Steps p.tables e below (T31.setTop (mkF m 87 #[.val (.int p0_0), .val (.int p0_1), .val (.int p0_2), .val (.int p0_3), .val (.int (j0_11_s0 p0_0 p0_1 p0_3)), .val (.int (j0_36_5 p0_0 p0_1 p0_2 p0_3)), .val (.int (v0_51 p0_0 p0_1 p0_2 p0_3)), .val (.int (v0_75 p0_0 p0_1 p0_2 p0_3)), .unset, .unset, .unset] [(.int (1 : Int32))])) t → Steps p.tables e below (T31.setTop (mkF m 79 #[.val (.int p0_0), .val (.int p0_1), .val (.int p0_2), .val (.int p0_3), .val (.int (j0_11_s0 p0_0 p0_1 p0_3)), .val (.int (j0_36_5 p0_0 p0_1 p0_2 p0_3)), .val (.int (v0_51 p0_0 p0_1 p0_2 p0_3)), .val (.int (v0_75 p0_0 p0_1 p0_2 p0_3)), .unset, .unset, .unset] [(.int (v0_51 p0_0 p0_1 p0_2 p0_3))])) t := fun t k => pre33 t (by
        refine XS.ifNo X31.here hx rfl (hb hby at_79) rfl ((if0 _ _).trans (teq hc79_34).2) ?_
        show Steps p.tables e below (T31.setTop (mkF m 82 #[.val (.int p0_0), .val (.int p0_1), .val (.int p0_2), .val (.int p0_3), .val (.int (j0_11_s0 p0_0 p0_1 p0_3)), .val (.int (j0_36_5 p0_0 p0_1 p0_2 p0_3)), .val (.int (v0_51 p0_0 p0_1 p0_2 p0_3)), .val (.int (v0_75 p0_0 p0_1 p0_2 p0_3)), .unset, .unset, .unset] [])) _
        refine XS.iconst X31.here hx rfl (hb hby at_82) ?_
        show Steps p.tables e below (T31.setTop (mkF m 83 #[.val (.int p0_0), .val (.int p0_1), .val (.int p0_2), .val (.int p0_3), .val (.int (j0_11_s0 p0_0 p0_1 p0_3)), .val (.int (j0_36_5 p0_0 p0_1 p0_2 p0_3)), .val (.int (v0_51 p0_0 p0_1 p0_2 p0_3)), .val (.int (v0_75 p0_0 p0_1 p0_2 p0_3)), .unset, .unset, .unset] [(.int (1 : Int32))])) _
        refine XS.goto X31.here hx rfl (pc0 := 83) (pc' := 87) rfl (hb hby at_83) (by decide) (by decide) ?_
        show Steps p.tables e below (T31.setTop (mkF m 87 #[.val (.int p0_0), .val (.int p0_1), .val (.int p0_2), .val (.int p0_3), .val (.int (j0_11_s0 p0_0 p0_1 p0_3)), .val (.int (j0_36_5 p0_0 p0_1 p0_2 p0_3)), .val (.int (v0_51 p0_0 p0_1 p0_2 p0_3)), .val (.int (v0_75 p0_0 p0_1 p0_2 p0_3)), .unset, .unset, .unset] [(.int (1 : Int32))])) _
        exact k)
      have hj37 : (j0_87_s0 p0_0 p0_1 p0_2 p0_3) = (1 : Int32) := by unfold j0_87_s0; rw [if_pos hc79_34]
      exact ⟨T31, _, X31, e31, N31, fun t k => pre35 t (by rw [hj37] at k; exact k)⟩
    · have pre36 : ∀ t, Steps p.tables e below (T31.setTop (mkF m 87 #[.val (.int p0_0), .val (.int p0_1), .val (.int p0_2), .val (.int p0_3), .val (.int (j0_11_s0 p0_0 p0_1 p0_3)), .val (.int (j0_36_5 p0_0 p0_1 p0_2 p0_3)), .val (.int (v0_51 p0_0 p0_1 p0_2 p0_3)), .val (.int (v0_75 p0_0 p0_1 p0_2 p0_3)), .unset, .unset, .unset] [(.int (0 : Int32))])) t → Steps p.tables e below (T31.setTop (mkF m 79 #[.val (.int p0_0), .val (.int p0_1), .val (.int p0_2), .val (.int p0_3), .val (.int (j0_11_s0 p0_0 p0_1 p0_3)), .val (.int (j0_36_5 p0_0 p0_1 p0_2 p0_3)), .val (.int (v0_51 p0_0 p0_1 p0_2 p0_3)), .val (.int (v0_75 p0_0 p0_1 p0_2 p0_3)), .unset, .unset, .unset] [(.int (v0_51 p0_0 p0_1 p0_2 p0_3))])) t := fun t k => pre33 t (by
        refine XS.ifYes X31.here hx rfl (pc0 := 79) (pc' := 86) rfl (hb hby at_79) rfl ((if0 _ _).trans (feq hc79_34).2) (by decide) (by decide) ?_
        show Steps p.tables e below (T31.setTop (mkF m 86 #[.val (.int p0_0), .val (.int p0_1), .val (.int p0_2), .val (.int p0_3), .val (.int (j0_11_s0 p0_0 p0_1 p0_3)), .val (.int (j0_36_5 p0_0 p0_1 p0_2 p0_3)), .val (.int (v0_51 p0_0 p0_1 p0_2 p0_3)), .val (.int (v0_75 p0_0 p0_1 p0_2 p0_3)), .unset, .unset, .unset] [])) _
        refine XS.iconst X31.here hx rfl (hb hby at_86) ?_
        show Steps p.tables e below (T31.setTop (mkF m 87 #[.val (.int p0_0), .val (.int p0_1), .val (.int p0_2), .val (.int p0_3), .val (.int (j0_11_s0 p0_0 p0_1 p0_3)), .val (.int (j0_36_5 p0_0 p0_1 p0_2 p0_3)), .val (.int (v0_51 p0_0 p0_1 p0_2 p0_3)), .val (.int (v0_75 p0_0 p0_1 p0_2 p0_3)), .unset, .unset, .unset] [(.int (0 : Int32))])) _
        exact k)
      have hj38 : (j0_87_s0 p0_0 p0_1 p0_2 p0_3) = (0 : Int32) := by unfold j0_87_s0; rw [if_neg hc79_34]
      exact ⟨T31, _, X31, e31, N31, fun t k => pre36 t (by rw [hj38] at k; exact k)⟩
  have pre33 : ∀ t, Steps p.tables e below (T33.setTop (mkF m 87 #[.val (.int p0_0), .val (.int p0_1), .val (.int p0_2), .val (.int p0_3), .val (.int (j0_11_s0 p0_0 p0_1 p0_3)), .val (.int (j0_36_5 p0_0 p0_1 p0_2 p0_3)), .val (.int (v0_51 p0_0 p0_1 p0_2 p0_3)), .val (.int (v0_75 p0_0 p0_1 p0_2 p0_3)), .unset, .unset, .unset] [(.int (j0_87_s0 p0_0 p0_1 p0_2 p0_3))])) t → Steps p.tables e below (s₁.setTop (entryFrame m #[(.int p0_0), (.int p0_1), (.int p0_2), (.int p0_3)] maxLocals)) t := fun t k => pre32 t (st33 t k)
  have pre39 : ∀ t, Steps p.tables e below (T33.setTop (mkF m 89 #[.val (.int p0_0), .val (.int p0_1), .val (.int p0_2), .val (.int p0_3), .val (.int (j0_11_s0 p0_0 p0_1 p0_3)), .val (.int (j0_36_5 p0_0 p0_1 p0_2 p0_3)), .val (.int (v0_51 p0_0 p0_1 p0_2 p0_3)), .val (.int (v0_75 p0_0 p0_1 p0_2 p0_3)), .val (.int (j0_87_s0 p0_0 p0_1 p0_2 p0_3)), .unset, .unset] [])) t → Steps p.tables e below (s₁.setTop (entryFrame m #[(.int p0_0), (.int p0_1), (.int p0_2), (.int p0_3)] maxLocals)) t := fun t k => pre33 t (by
    refine XS.istore X33.here hx rfl (hb hby at_87) rfl (l' := #[.val (.int p0_0), .val (.int p0_1), .val (.int p0_2), .val (.int p0_3), .val (.int (j0_11_s0 p0_0 p0_1 p0_3)), .val (.int (j0_36_5 p0_0 p0_1 p0_2 p0_3)), .val (.int (v0_51 p0_0 p0_1 p0_2 p0_3)), .val (.int (v0_75 p0_0 p0_1 p0_2 p0_3)), .val (.int (j0_87_s0 p0_0 p0_1 p0_2 p0_3)), .unset, .unset]) rfl ?_
    show Steps p.tables e below (T33.setTop (mkF m 89 #[.val (.int p0_0), .val (.int p0_1), .val (.int p0_2), .val (.int p0_3), .val (.int (j0_11_s0 p0_0 p0_1 p0_3)), .val (.int (j0_36_5 p0_0 p0_1 p0_2 p0_3)), .val (.int (v0_51 p0_0 p0_1 p0_2 p0_3)), .val (.int (v0_75 p0_0 p0_1 p0_2 p0_3)), .val (.int (j0_87_s0 p0_0 p0_1 p0_2 p0_3)), .unset, .unset] [])) _
    exact k)
  obtain ⟨T40, h40, X40, e40, E40, A40, D40, -, st40⟩ := newO X33 hx hZ hown (hw _ (List.mem_of_getElem? (i := 8) rfl)) (hw _ (List.mem_of_getElem? (i := 9) rfl)) (hw _ (List.mem_of_getElem? (i := 10) rfl)) e33 (g := (mkF m 89 #[.val (.int p0_0), .val (.int p0_1), .val (.int p0_2), .val (.int p0_3), .val (.int (j0_11_s0 p0_0 p0_1 p0_3)), .val (.int (j0_36_5 p0_0 p0_1 p0_2 p0_3)), .val (.int (v0_51 p0_0 p0_1 p0_2 p0_3)), .val (.int (v0_75 p0_0 p0_1 p0_2 p0_3)), .val (.int (j0_87_s0 p0_0 p0_1 p0_2 p0_3)), .unset, .unset] [])) rfl (hb hby at_89) (by decide) (by decide)
  obtain ⟨b40, q40⟩ : ∃ z, z = h0.size := ⟨_, rfl⟩
  rw [← q40] at A40 D40 st40
  have g_b40 : n0 ≤ b40 := Nat.le_trans Z0 (Nat.le_of_eq q40.symm)
  have Z40 : n0 ≤ h40.size := Nat.le_trans Z0 E40.1
  have F41 : Fld Z h40 b40 "relayout/Largest" "size" "I" (.int (0 : Int32)) := D40 (Or.inl (hw _ (List.mem_of_getElem? (i := 23) rfl))) (ty := .int) (by decide)
  have F42 : Fld Z h40 b40 "relayout/Largest" "count" "I" (.int (0 : Int32)) := D40 (Or.inl (hw _ (List.mem_of_getElem? (i := 25) rfl))) (ty := .int) (by decide)
  have pre40 : ∀ t, Steps p.tables e below (T40.setTop (mkF m 92 #[.val (.int p0_0), .val (.int p0_1), .val (.int p0_2), .val (.int p0_3), .val (.int (j0_11_s0 p0_0 p0_1 p0_3)), .val (.int (j0_36_5 p0_0 p0_1 p0_2 p0_3)), .val (.int (v0_51 p0_0 p0_1 p0_2 p0_3)), .val (.int (v0_75 p0_0 p0_1 p0_2 p0_3)), .val (.int (j0_87_s0 p0_0 p0_1 p0_2 p0_3)), .unset, .unset] [(.ref b40)])) t → Steps p.tables e below (s₁.setTop (entryFrame m #[(.int p0_0), (.int p0_1), (.int p0_2), (.int p0_3)] maxLocals)) t := fun t k => pre39 t (st40 t k)
  have pre43 : ∀ t, Steps p.tables e below (T40.setTop (mkF m 93 #[.val (.int p0_0), .val (.int p0_1), .val (.int p0_2), .val (.int p0_3), .val (.int (j0_11_s0 p0_0 p0_1 p0_3)), .val (.int (j0_36_5 p0_0 p0_1 p0_2 p0_3)), .val (.int (v0_51 p0_0 p0_1 p0_2 p0_3)), .val (.int (v0_75 p0_0 p0_1 p0_2 p0_3)), .val (.int (j0_87_s0 p0_0 p0_1 p0_2 p0_3)), .unset, .unset] [(.ref b40), (.ref b40)])) t → Steps p.tables e below (s₁.setTop (entryFrame m #[(.int p0_0), (.int p0_1), (.int p0_2), (.int p0_3)] maxLocals)) t := fun t k => pre40 t (by
    refine XS.dup X40.here hx rfl (hb hby at_92) rfl rfl ?_
    show Steps p.tables e below (T40.setTop (mkF m 93 #[.val (.int p0_0), .val (.int p0_1), .val (.int p0_2), .val (.int p0_3), .val (.int (j0_11_s0 p0_0 p0_1 p0_3)), .val (.int (j0_36_5 p0_0 p0_1 p0_2 p0_3)), .val (.int (v0_51 p0_0 p0_1 p0_2 p0_3)), .val (.int (v0_75 p0_0 p0_1 p0_2 p0_3)), .val (.int (j0_87_s0 p0_0 p0_1 p0_2 p0_3)), .unset, .unset] [(.ref b40), (.ref b40)])) _
    exact k)
  obtain ⟨_, _, ⟨T44, L44, k44, n44⟩, -, X44, ⟨Lc44, hQ44, l44, y44, z44⟩, st44⟩ := X40.specialBack hx (y := (⟨"relayout/Largest", "<init>", "()V"⟩ : MethodName)) rfl hown (mvT hZ (hw _ (List.mem_of_getElem? (i := 11) rfl))) (mvT hZ (hw _ (List.mem_of_getElem? (i := 12) rfl))) (mvT hZ (hw _ (List.mem_of_getElem? (i := 13) rfl))) (by decide) (backOf (W := 1) (rm3 l Z a0 hw [] b40 h40 n0 Z40 ) hZ (hw _ (List.mem_of_getElem? (i := 13) rfl)) (hw _ (List.mem_of_getElem? (i := 10) rfl)) (by decide) (by decide)) (g := (mkF m 93 #[.val (.int p0_0), .val (.int p0_1), .val (.int p0_2), .val (.int p0_3), .val (.int (j0_11_s0 p0_0 p0_1 p0_3)), .val (.int (j0_36_5 p0_0 p0_1 p0_2 p0_3)), .val (.int (v0_51 p0_0 p0_1 p0_2 p0_3)), .val (.int (v0_75 p0_0 p0_1 p0_2 p0_3)), .val (.int (j0_87_s0 p0_0 p0_1 p0_2 p0_3)), .unset, .unset] [(.ref b40), (.ref b40)])) rfl (by rw [hml]; rfl) (Steps.refl _) (a := b40) (argsL := []) (rest := [(.ref b40)]) (lenOf pd_1 rfl) rfl (by show 2 * 0 + _ ≤ _; exact Nat.le_of_eq rfl) (hb hby at_93) (fun _ _ => ⟨rfl, e40, (by decide : 1 + 0 ≤ _), (by decide : 2 + 0 ≤ _)⟩)
  dsimp only [Pt.U, Pt.locs, Pt.cells, Pt.slots] at X44 l44 y44 z44 st44 hQ44
  subst l44 y44 z44
  obtain ⟨rfl, M44, e44⟩ := hQ44
  have N44 := Fr.app N33 M44
  have pre44 : ∀ t, Steps p.tables e below (T44.setTop (mkF m 96 #[.val (.int p0_0), .val (.int p0_1), .val (.int p0_2), .val (.int p0_3), .val (.int (j0_11_s0 p0_0 p0_1 p0_3)), .val (.int (j0_36_5 p0_0 p0_1 p0_2 p0_3)), .val (.int (v0_51 p0_0 p0_1 p0_2 p0_3)), .val (.int (v0_75 p0_0 p0_1 p0_2 p0_3)), .val (.int (j0_87_s0 p0_0 p0_1 p0_2 p0_3)), .unset, .unset] [(.ref b40)])) t → Steps p.tables e below (s₁.setTop (entryFrame m #[(.int p0_0), (.int p0_1), (.int p0_2), (.int p0_3)] maxLocals)) t := fun t k => pre43 t (st44.trans k)
  have pre45 : ∀ t, Steps p.tables e below (T44.setTop (mkF m 101 #[.val (.int p0_0), .val (.int p0_1), .val (.int p0_2), .val (.int p0_3), .val (.int (j0_11_s0 p0_0 p0_1 p0_3)), .val (.int (j0_36_5 p0_0 p0_1 p0_2 p0_3)), .val (.int (v0_51 p0_0 p0_1 p0_2 p0_3)), .val (.int (v0_75 p0_0 p0_1 p0_2 p0_3)), .val (.int (j0_87_s0 p0_0 p0_1 p0_2 p0_3)), .val (.ref b40), .unset] [(.int p0_0), (.ref b40)])) t → Steps p.tables e below (s₁.setTop (entryFrame m #[(.int p0_0), (.int p0_1), (.int p0_2), (.int p0_3)] maxLocals)) t := fun t k => pre44 t (by
    refine XS.astore X44.here hx rfl (hb hby at_96) rfl rfl (l' := #[.val (.int p0_0), .val (.int p0_1), .val (.int p0_2), .val (.int p0_3), .val (.int (j0_11_s0 p0_0 p0_1 p0_3)), .val (.int (j0_36_5 p0_0 p0_1 p0_2 p0_3)), .val (.int (v0_51 p0_0 p0_1 p0_2 p0_3)), .val (.int (v0_75 p0_0 p0_1 p0_2 p0_3)), .val (.int (j0_87_s0 p0_0 p0_1 p0_2 p0_3)), .val (.ref b40), .unset]) rfl ?_
    show Steps p.tables e below (T44.setTop (mkF m 98 #[.val (.int p0_0), .val (.int p0_1), .val (.int p0_2), .val (.int p0_3), .val (.int (j0_11_s0 p0_0 p0_1 p0_3)), .val (.int (j0_36_5 p0_0 p0_1 p0_2 p0_3)), .val (.int (v0_51 p0_0 p0_1 p0_2 p0_3)), .val (.int (v0_75 p0_0 p0_1 p0_2 p0_3)), .val (.int (j0_87_s0 p0_0 p0_1 p0_2 p0_3)), .val (.ref b40), .unset] [])) _
    refine XS.aload X44.here hx rfl (hb hby at_98) rfl rfl ?_
    show Steps p.tables e below (T44.setTop (mkF m 100 #[.val (.int p0_0), .val (.int p0_1), .val (.int p0_2), .val (.int p0_3), .val (.int (j0_11_s0 p0_0 p0_1 p0_3)), .val (.int (j0_36_5 p0_0 p0_1 p0_2 p0_3)), .val (.int (v0_51 p0_0 p0_1 p0_2 p0_3)), .val (.int (v0_75 p0_0 p0_1 p0_2 p0_3)), .val (.int (j0_87_s0 p0_0 p0_1 p0_2 p0_3)), .val (.ref b40), .unset] [(.ref b40)])) _
    refine XS.iloadN X44.here hx rfl (hb hby at_100) rfl ?_
    show Steps p.tables e below (T44.setTop (mkF m 101 #[.val (.int p0_0), .val (.int p0_1), .val (.int p0_2), .val (.int p0_3), .val (.int (j0_11_s0 p0_0 p0_1 p0_3)), .val (.int (j0_36_5 p0_0 p0_1 p0_2 p0_3)), .val (.int (v0_51 p0_0 p0_1 p0_2 p0_3)), .val (.int (v0_75 p0_0 p0_1 p0_2 p0_3)), .val (.int (j0_87_s0 p0_0 p0_1 p0_2 p0_3)), .val (.ref b40), .unset] [(.int p0_0), (.ref b40)])) _
    exact k)
  obtain ⟨cq46, kq46, qa46, qb46, qc46⟩ := isOf hZ e44 A40
  obtain ⟨_, _, ⟨T46, L46, k46, n46⟩, -, X46, ⟨Lc46, hQ46, l46, y46, z46⟩, st46⟩ := X44.virtualBack hx (y := (⟨"relayout/Largest", "add", "(I)V"⟩ : MethodName)) (z := (⟨"relayout/Largest", "add", "(I)V"⟩ : MethodName)) hown (mvT hZ (hw _ (List.mem_of_getElem? (i := 17) rfl))) (mvT hZ (hw _ (List.mem_of_getElem? (i := 18) rfl))) (notFace_of_selects (args := #[]) (mvT hZ (hw _ (List.mem_of_getElem? (i := 20) rfl)))) (mvT hZ (hw _ (List.mem_of_getElem? (i := 20) rfl))) (mvT hZ (hw _ (List.mem_of_getElem? (i := 19) rfl))) (by decide) (backOf (W := 0) (rm5 l Z a0 hw [] b40 p0_0 (0 : Int32) (0 : Int32) h40 n0 Z40 A40 F41 F42 g_b40) hZ (hw _ (List.mem_of_getElem? (i := 21) rfl)) (hw _ (List.mem_of_getElem? (i := 10) rfl)) (by decide) (by decide)) qa46 qc46 (g := (mkF m 101 #[.val (.int p0_0), .val (.int p0_1), .val (.int p0_2), .val (.int p0_3), .val (.int (j0_11_s0 p0_0 p0_1 p0_3)), .val (.int (j0_36_5 p0_0 p0_1 p0_2 p0_3)), .val (.int (v0_51 p0_0 p0_1 p0_2 p0_3)), .val (.int (v0_75 p0_0 p0_1 p0_2 p0_3)), .val (.int (j0_87_s0 p0_0 p0_1 p0_2 p0_3)), .val (.ref b40), .unset] [(.int p0_0), (.ref b40)])) rfl (by rw [hml]; rfl) (Steps.refl _) (argsL := [(.int p0_0)]) (rest := []) (lenOf pd_2 rfl) rfl (by show 2 * 0 + _ ≤ _; exact Nat.le_of_eq rfl) (hb hby at_101) (fun _ _ => ⟨rfl, e44, (by decide : 1 + 0 ≤ _), (by decide : 2 + 0 ≤ _)⟩)
  dsimp only [Pt.U, Pt.locs, Pt.cells, Pt.slots] at X46 l46 y46 z46 st46 hQ46
  subst l46 y46 z46
  obtain ⟨rfl, M46, K46c, P46_0, P46_1⟩ := hQ46
  have N46 := Fr.app N44 M46
  have K46 : Keep h40 T46.heap [b40] := K46c
  have Z46 : n0 ≤ T46.heap.size := Nat.le_trans Z40 K46.1
  have Ex47 : Exa Z T46.heap b40 "relayout/Largest" := A40.keep K46
  have F48 : Fld Z T46.heap b40 "relayout/Largest" "size" "I" (.int (f5_size p0_0 (0 : Int32))) := P46_0
  have F49 : Fld Z T46.heap b40 "relayout/Largest" "count" "I" (.int (f5_count p0_0 (0 : Int32) (0 : Int32))) := P46_1
  have pre46 : ∀ t, Steps p.tables e below (T46.setTop (mkF m 104 #[.val (.int p0_0), .val (.int p0_1), .val (.int p0_2), .val (.int p0_3), .val (.int (j0_11_s0 p0_0 p0_1 p0_3)), .val (.int (j0_36_5 p0_0 p0_1 p0_2 p0_3)), .val (.int (v0_51 p0_0 p0_1 p0_2 p0_3)), .val (.int (v0_75 p0_0 p0_1 p0_2 p0_3)), .val (.int (j0_87_s0 p0_0 p0_1 p0_2 p0_3)), .val (.ref b40), .unset] [])) t → Steps p.tables e below (s₁.setTop (entryFrame m #[(.int p0_0), (.int p0_1), (.int p0_2), (.int p0_3)] maxLocals)) t := fun t k => pre45 t (st46.trans k)
  have pre50 : ∀ t, Steps p.tables e below (T46.setTop (mkF m 108 #[.val (.int p0_0), .val (.int p0_1), .val (.int p0_2), .val (.int p0_3), .val (.int (j0_11_s0 p0_0 p0_1 p0_3)), .val (.int (j0_36_5 p0_0 p0_1 p0_2 p0_3)), .val (.int (v0_51 p0_0 p0_1 p0_2 p0_3)), .val (.int (v0_75 p0_0 p0_1 p0_2 p0_3)), .val (.int (j0_87_s0 p0_0 p0_1 p0_2 p0_3)), .val (.ref b40), .unset] [(.int (j0_11_s0 p0_0 p0_1 p0_3)), (.ref b40)])) t → Steps p.tables e below (s₁.setTop (entryFrame m #[(.int p0_0), (.int p0_1), (.int p0_2), (.int p0_3)] maxLocals)) t := fun t k => pre46 t (by
    refine XS.aload X46.here hx rfl (hb hby at_104) rfl rfl ?_
    show Steps p.tables e below (T46.setTop (mkF m 106 #[.val (.int p0_0), .val (.int p0_1), .val (.int p0_2), .val (.int p0_3), .val (.int (j0_11_s0 p0_0 p0_1 p0_3)), .val (.int (j0_36_5 p0_0 p0_1 p0_2 p0_3)), .val (.int (v0_51 p0_0 p0_1 p0_2 p0_3)), .val (.int (v0_75 p0_0 p0_1 p0_2 p0_3)), .val (.int (j0_87_s0 p0_0 p0_1 p0_2 p0_3)), .val (.ref b40), .unset] [(.ref b40)])) _
    refine XS.iload X46.here hx rfl (hb hby at_106) rfl ?_
    show Steps p.tables e below (T46.setTop (mkF m 108 #[.val (.int p0_0), .val (.int p0_1), .val (.int p0_2), .val (.int p0_3), .val (.int (j0_11_s0 p0_0 p0_1 p0_3)), .val (.int (j0_36_5 p0_0 p0_1 p0_2 p0_3)), .val (.int (v0_51 p0_0 p0_1 p0_2 p0_3)), .val (.int (v0_75 p0_0 p0_1 p0_2 p0_3)), .val (.int (j0_87_s0 p0_0 p0_1 p0_2 p0_3)), .val (.ref b40), .unset] [(.int (j0_11_s0 p0_0 p0_1 p0_3)), (.ref b40)])) _
    exact k)
  obtain ⟨cq51, kq51, qa51, qb51, qc51⟩ := isOf hZ rfl Ex47
  obtain ⟨_, _, ⟨T51, L51, k51, n51⟩, -, X51, ⟨Lc51, hQ51, l51, y51, z51⟩, st51⟩ := X46.virtualBack hx (y := (⟨"relayout/Largest", "add", "(I)V"⟩ : MethodName)) (z := (⟨"relayout/Largest", "add", "(I)V"⟩ : MethodName)) hown (mvT hZ (hw _ (List.mem_of_getElem? (i := 17) rfl))) (mvT hZ (hw _ (List.mem_of_getElem? (i := 18) rfl))) (notFace_of_selects (args := #[]) (mvT hZ (hw _ (List.mem_of_getElem? (i := 20) rfl)))) (mvT hZ (hw _ (List.mem_of_getElem? (i := 20) rfl))) (mvT hZ (hw _ (List.mem_of_getElem? (i := 19) rfl))) (by decide) (backOf (W := 0) (rm5 l Z a0 hw [] b40 (j0_11_s0 p0_0 p0_1 p0_3) (f5_size p0_0 (0 : Int32)) (f5_count p0_0 (0 : Int32) (0 : Int32)) T46.heap n0 Z46 Ex47 F48 F49 g_b40) hZ (hw _ (List.mem_of_getElem? (i := 21) rfl)) (hw _ (List.mem_of_getElem? (i := 10) rfl)) (by decide) (by decide)) qa51 qc51 (g := (mkF m 108 #[.val (.int p0_0), .val (.int p0_1), .val (.int p0_2), .val (.int p0_3), .val (.int (j0_11_s0 p0_0 p0_1 p0_3)), .val (.int (j0_36_5 p0_0 p0_1 p0_2 p0_3)), .val (.int (v0_51 p0_0 p0_1 p0_2 p0_3)), .val (.int (v0_75 p0_0 p0_1 p0_2 p0_3)), .val (.int (j0_87_s0 p0_0 p0_1 p0_2 p0_3)), .val (.ref b40), .unset] [(.int (j0_11_s0 p0_0 p0_1 p0_3)), (.ref b40)])) rfl (by rw [hml]; rfl) (Steps.refl _) (argsL := [(.int (j0_11_s0 p0_0 p0_1 p0_3))]) (rest := []) (lenOf pd_2 rfl) rfl (by show 2 * 0 + _ ≤ _; exact Nat.le_of_eq rfl) (hb hby at_108) (fun _ _ => ⟨rfl, rfl, (by decide : 1 + 0 ≤ _), (by decide : 2 + 0 ≤ _)⟩)
  dsimp only [Pt.U, Pt.locs, Pt.cells, Pt.slots] at X51 l51 y51 z51 st51 hQ51
  subst l51 y51 z51
  obtain ⟨rfl, M51, K51c, P51_0, P51_1⟩ := hQ51
  have N51 := Fr.app N46 M51
  have K51 : Keep T46.heap T51.heap [b40] := K51c
  have Z51 : n0 ≤ T51.heap.size := Nat.le_trans Z46 K51.1
  have Ex52 : Exa Z T51.heap b40 "relayout/Largest" := Ex47.keep K51
  have F53 : Fld Z T51.heap b40 "relayout/Largest" "size" "I" (.int (w0_108_size p0_0 p0_1 p0_3)) := P51_0
  have F54 : Fld Z T51.heap b40 "relayout/Largest" "count" "I" (.int (w0_108_count p0_0 p0_1 p0_3)) := P51_1
  have pre51 : ∀ t, Steps p.tables e below (T51.setTop (mkF m 111 #[.val (.int p0_0), .val (.int p0_1), .val (.int p0_2), .val (.int p0_3), .val (.int (j0_11_s0 p0_0 p0_1 p0_3)), .val (.int (j0_36_5 p0_0 p0_1 p0_2 p0_3)), .val (.int (v0_51 p0_0 p0_1 p0_2 p0_3)), .val (.int (v0_75 p0_0 p0_1 p0_2 p0_3)), .val (.int (j0_87_s0 p0_0 p0_1 p0_2 p0_3)), .val (.ref b40), .unset] [])) t → Steps p.tables e below (s₁.setTop (entryFrame m #[(.int p0_0), (.int p0_1), (.int p0_2), (.int p0_3)] maxLocals)) t := fun t k => pre50 t (st51.trans k)
  have pre55 : ∀ t, Steps p.tables e below (T51.setTop (mkF m 115 #[.val (.int p0_0), .val (.int p0_1), .val (.int p0_2), .val (.int p0_3), .val (.int (j0_11_s0 p0_0 p0_1 p0_3)), .val (.int (j0_36_5 p0_0 p0_1 p0_2 p0_3)), .val (.int (v0_51 p0_0 p0_1 p0_2 p0_3)), .val (.int (v0_75 p0_0 p0_1 p0_2 p0_3)), .val (.int (j0_87_s0 p0_0 p0_1 p0_2 p0_3)), .val (.ref b40), .unset] [(.int (j0_36_5 p0_0 p0_1 p0_2 p0_3)), (.ref b40)])) t → Steps p.tables e below (s₁.setTop (entryFrame m #[(.int p0_0), (.int p0_1), (.int p0_2), (.int p0_3)] maxLocals)) t := fun t k => pre51 t (by
    refine XS.aload X51.here hx rfl (hb hby at_111) rfl rfl ?_
    show Steps p.tables e below (T51.setTop (mkF m 113 #[.val (.int p0_0), .val (.int p0_1), .val (.int p0_2), .val (.int p0_3), .val (.int (j0_11_s0 p0_0 p0_1 p0_3)), .val (.int (j0_36_5 p0_0 p0_1 p0_2 p0_3)), .val (.int (v0_51 p0_0 p0_1 p0_2 p0_3)), .val (.int (v0_75 p0_0 p0_1 p0_2 p0_3)), .val (.int (j0_87_s0 p0_0 p0_1 p0_2 p0_3)), .val (.ref b40), .unset] [(.ref b40)])) _
    refine XS.iload X51.here hx rfl (hb hby at_113) rfl ?_
    show Steps p.tables e below (T51.setTop (mkF m 115 #[.val (.int p0_0), .val (.int p0_1), .val (.int p0_2), .val (.int p0_3), .val (.int (j0_11_s0 p0_0 p0_1 p0_3)), .val (.int (j0_36_5 p0_0 p0_1 p0_2 p0_3)), .val (.int (v0_51 p0_0 p0_1 p0_2 p0_3)), .val (.int (v0_75 p0_0 p0_1 p0_2 p0_3)), .val (.int (j0_87_s0 p0_0 p0_1 p0_2 p0_3)), .val (.ref b40), .unset] [(.int (j0_36_5 p0_0 p0_1 p0_2 p0_3)), (.ref b40)])) _
    exact k)
  obtain ⟨cq56, kq56, qa56, qb56, qc56⟩ := isOf hZ rfl Ex52
  obtain ⟨_, _, ⟨T56, L56, k56, n56⟩, -, X56, ⟨Lc56, hQ56, l56, y56, z56⟩, st56⟩ := X51.virtualBack hx (y := (⟨"relayout/Largest", "add", "(I)V"⟩ : MethodName)) (z := (⟨"relayout/Largest", "add", "(I)V"⟩ : MethodName)) hown (mvT hZ (hw _ (List.mem_of_getElem? (i := 17) rfl))) (mvT hZ (hw _ (List.mem_of_getElem? (i := 18) rfl))) (notFace_of_selects (args := #[]) (mvT hZ (hw _ (List.mem_of_getElem? (i := 20) rfl)))) (mvT hZ (hw _ (List.mem_of_getElem? (i := 20) rfl))) (mvT hZ (hw _ (List.mem_of_getElem? (i := 19) rfl))) (by decide) (backOf (W := 0) (rm5 l Z a0 hw [] b40 (j0_36_5 p0_0 p0_1 p0_2 p0_3) (w0_108_size p0_0 p0_1 p0_3) (w0_108_count p0_0 p0_1 p0_3) T51.heap n0 Z51 Ex52 F53 F54 g_b40) hZ (hw _ (List.mem_of_getElem? (i := 21) rfl)) (hw _ (List.mem_of_getElem? (i := 10) rfl)) (by decide) (by decide)) qa56 qc56 (g := (mkF m 115 #[.val (.int p0_0), .val (.int p0_1), .val (.int p0_2), .val (.int p0_3), .val (.int (j0_11_s0 p0_0 p0_1 p0_3)), .val (.int (j0_36_5 p0_0 p0_1 p0_2 p0_3)), .val (.int (v0_51 p0_0 p0_1 p0_2 p0_3)), .val (.int (v0_75 p0_0 p0_1 p0_2 p0_3)), .val (.int (j0_87_s0 p0_0 p0_1 p0_2 p0_3)), .val (.ref b40), .unset] [(.int (j0_36_5 p0_0 p0_1 p0_2 p0_3)), (.ref b40)])) rfl (by rw [hml]; rfl) (Steps.refl _) (argsL := [(.int (j0_36_5 p0_0 p0_1 p0_2 p0_3))]) (rest := []) (lenOf pd_2 rfl) rfl (by show 2 * 0 + _ ≤ _; exact Nat.le_of_eq rfl) (hb hby at_115) (fun _ _ => ⟨rfl, rfl, (by decide : 1 + 0 ≤ _), (by decide : 2 + 0 ≤ _)⟩)
  dsimp only [Pt.U, Pt.locs, Pt.cells, Pt.slots] at X56 l56 y56 z56 st56 hQ56
  subst l56 y56 z56
  obtain ⟨rfl, M56, K56c, P56_0, P56_1⟩ := hQ56
  have N56 := Fr.app N51 M56
  have K56 : Keep T51.heap T56.heap [b40] := K56c
  have Z56 : n0 ≤ T56.heap.size := Nat.le_trans Z51 K56.1
  have Ex57 : Exa Z T56.heap b40 "relayout/Largest" := Ex52.keep K56
  have F58 : Fld Z T56.heap b40 "relayout/Largest" "size" "I" (.int (w0_115_size p0_0 p0_1 p0_2 p0_3)) := P56_0
  have F59 : Fld Z T56.heap b40 "relayout/Largest" "count" "I" (.int (w0_115_count p0_0 p0_1 p0_2 p0_3)) := P56_1
  have pre56 : ∀ t, Steps p.tables e below (T56.setTop (mkF m 118 #[.val (.int p0_0), .val (.int p0_1), .val (.int p0_2), .val (.int p0_3), .val (.int (j0_11_s0 p0_0 p0_1 p0_3)), .val (.int (j0_36_5 p0_0 p0_1 p0_2 p0_3)), .val (.int (v0_51 p0_0 p0_1 p0_2 p0_3)), .val (.int (v0_75 p0_0 p0_1 p0_2 p0_3)), .val (.int (j0_87_s0 p0_0 p0_1 p0_2 p0_3)), .val (.ref b40), .unset] [])) t → Steps p.tables e below (s₁.setTop (entryFrame m #[(.int p0_0), (.int p0_1), (.int p0_2), (.int p0_3)] maxLocals)) t := fun t k => pre55 t (st56.trans k)
  have pre60 : ∀ t, Steps p.tables e below (T56.setTop (mkF m 120 #[.val (.int p0_0), .val (.int p0_1), .val (.int p0_2), .val (.int p0_3), .val (.int (j0_11_s0 p0_0 p0_1 p0_3)), .val (.int (j0_36_5 p0_0 p0_1 p0_2 p0_3)), .val (.int (v0_51 p0_0 p0_1 p0_2 p0_3)), .val (.int (v0_75 p0_0 p0_1 p0_2 p0_3)), .val (.int (j0_87_s0 p0_0 p0_1 p0_2 p0_3)), .val (.ref b40), .unset] [(.ref b40)])) t → Steps p.tables e below (s₁.setTop (entryFrame m #[(.int p0_0), (.int p0_1), (.int p0_2), (.int p0_3)] maxLocals)) t := fun t k => pre56 t (by
    refine XS.aload X56.here hx rfl (hb hby at_118) rfl rfl ?_
    show Steps p.tables e below (T56.setTop (mkF m 120 #[.val (.int p0_0), .val (.int p0_1), .val (.int p0_2), .val (.int p0_3), .val (.int (j0_11_s0 p0_0 p0_1 p0_3)), .val (.int (j0_36_5 p0_0 p0_1 p0_2 p0_3)), .val (.int (v0_51 p0_0 p0_1 p0_2 p0_3)), .val (.int (v0_75 p0_0 p0_1 p0_2 p0_3)), .val (.int (j0_87_s0 p0_0 p0_1 p0_2 p0_3)), .val (.ref b40), .unset] [(.ref b40)])) _
    exact k)
  obtain ⟨cq61, kq61, qa61, qb61, qc61⟩ := isOf hZ rfl Ex57
  obtain ⟨_, _, ⟨T61, L61, k61, n61⟩, -, X61, ⟨Lc61, hQ61, l61, y61, z61⟩, st61⟩ := X56.virtualBack hx (y := (⟨"relayout/Largest", "size", "()I"⟩ : MethodName)) (z := (⟨"relayout/Largest", "size", "()I"⟩ : MethodName)) hown (mvT hZ (hw _ (List.mem_of_getElem? (i := 26) rfl))) (mvT hZ (hw _ (List.mem_of_getElem? (i := 27) rfl))) (notFace_of_selects (args := #[]) (mvT hZ (hw _ (List.mem_of_getElem? (i := 29) rfl)))) (mvT hZ (hw _ (List.mem_of_getElem? (i := 29) rfl))) (mvT hZ (hw _ (List.mem_of_getElem? (i := 28) rfl))) (by decide) (backOf (W := 0) (rm6 l Z a0 hw [] b40 (w0_115_size p0_0 p0_1 p0_2 p0_3) T56.heap n0 Z56 F58) hZ (hw _ (List.mem_of_getElem? (i := 30) rfl)) (hw _ (List.mem_of_getElem? (i := 10) rfl)) (by decide) (by decide)) qa61 qc61 (g := (mkF m 120 #[.val (.int p0_0), .val (.int p0_1), .val (.int p0_2), .val (.int p0_3), .val (.int (j0_11_s0 p0_0 p0_1 p0_3)), .val (.int (j0_36_5 p0_0 p0_1 p0_2 p0_3)), .val (.int (v0_51 p0_0 p0_1 p0_2 p0_3)), .val (.int (v0_75 p0_0 p0_1 p0_2 p0_3)), .val (.int (j0_87_s0 p0_0 p0_1 p0_2 p0_3)), .val (.ref b40), .unset] [(.ref b40)])) rfl (by rw [hml]; rfl) (Steps.refl _) (argsL := []) (rest := []) (lenOf pd_3 rfl) rfl (by show 2 * 0 + _ ≤ _; exact Nat.le_of_eq rfl) (hb hby at_120) (fun _ _ => ⟨rfl, rfl, (by decide : 1 + 0 ≤ _), (by decide : 2 + 0 ≤ _)⟩)
  dsimp only [Pt.U, Pt.locs, Pt.cells, Pt.slots] at X61 l61 y61 z61 st61 hQ61
  subst l61 y61 z61
  obtain ⟨rfl, M61, e61⟩ := hQ61
  have N61 := Fr.app N56 M61
  have pre61 : ∀ t, Steps p.tables e below (T61.setTop (mkF m 123 #[.val (.int p0_0), .val (.int p0_1), .val (.int p0_2), .val (.int p0_3), .val (.int (j0_11_s0 p0_0 p0_1 p0_3)), .val (.int (j0_36_5 p0_0 p0_1 p0_2 p0_3)), .val (.int (v0_51 p0_0 p0_1 p0_2 p0_3)), .val (.int (v0_75 p0_0 p0_1 p0_2 p0_3)), .val (.int (j0_87_s0 p0_0 p0_1 p0_2 p0_3)), .val (.ref b40), .unset] [(.int (r6 (w0_115_size p0_0 p0_1 p0_2 p0_3)))])) t → Steps p.tables e below (s₁.setTop (entryFrame m #[(.int p0_0), (.int p0_1), (.int p0_2), (.int p0_3)] maxLocals)) t := fun t k => pre60 t (st61.trans k)
  have pre63 : ∀ t, Steps p.tables e below (T61.setTop (mkF m 142 #[.val (.int p0_0), .val (.int p0_1), .val (.int p0_2), .val (.int p0_3), .val (.int (j0_11_s0 p0_0 p0_1 p0_3)), .val (.int (j0_36_5 p0_0 p0_1 p0_2 p0_3)), .val (.int (v0_51 p0_0 p0_1 p0_2 p0_3)), .val (.int (v0_75 p0_0 p0_1 p0_2 p0_3)), .val (.int (j0_87_s0 p0_0 p0_1 p0_2 p0_3)), .val (.ref b40), .val (.int (1 : Int32))] [(.ref b40)])) t → Steps p.tables e below (s₁.setTop (entryFrame m #[(.int p0_0), (.int p0_1), (.int p0_2), (.int p0_3)] maxLocals)) t := fun t k => pre61 t (by
    refine XS.iload X61.here hx rfl (hb hby at_123) rfl ?_
    show Steps p.tables e below (T61.setTop (mkF m 125 #[.val (.int p0_0), .val (.int p0_1), .val (.int p0_2), .val (.int p0_3), .val (.int (j0_11_s0 p0_0 p0_1 p0_3)), .val (.int (j0_36_5 p0_0 p0_1 p0_2 p0_3)), .val (.int (v0_51 p0_0 p0_1 p0_2 p0_3)), .val (.int (v0_75 p0_0 p0_1 p0_2 p0_3)), .val (.int (j0_87_s0 p0_0 p0_1 p0_2 p0_3)), .val (.ref b40), .unset] [(.int (v0_51 p0_0 p0_1 p0_2 p0_3)), (.int (r6 (w0_115_size p0_0 p0_1 p0_2 p0_3)))])) _
    refine XS.icmpNo X61.here hx rfl (hb hby at_125) rfl (teq (show (r6 (w0_115_size p0_0 p0_1 p0_2 p0_3)) = (v0_51 p0_0 p0_1 p0_2 p0_3) from (own_size p0_0 p0_1 p0_2 p0_3))).2 ?_
    show Steps p.tables e below (T61.setTop (mkF m 128 #[.val (.int p0_0), .val (.int p0_1), .val (.int p0_2), .val (.int p0_3), .val (.int (j0_11_s0 p0_0 p0_1 p0_3)), .val (.int (j0_36_5 p0_0 p0_1 p0_2 p0_3)), .val (.int (v0_51 p0_0 p0_1 p0_2 p0_3)), .val (.int (v0_75 p0_0 p0_1 p0_2 p0_3)), .val (.int (j0_87_s0 p0_0 p0_1 p0_2 p0_3)), .val (.ref b40), .unset] [])) _
    refine XS.iconst X61.here hx rfl (hb hby at_128) ?_
    show Steps p.tables e below (T61.setTop (mkF m 129 #[.val (.int p0_0), .val (.int p0_1), .val (.int p0_2), .val (.int p0_3), .val (.int (j0_11_s0 p0_0 p0_1 p0_3)), .val (.int (j0_36_5 p0_0 p0_1 p0_2 p0_3)), .val (.int (v0_51 p0_0 p0_1 p0_2 p0_3)), .val (.int (v0_75 p0_0 p0_1 p0_2 p0_3)), .val (.int (j0_87_s0 p0_0 p0_1 p0_2 p0_3)), .val (.ref b40), .unset] [(.int (1 : Int32))])) _
    refine XS.goto X61.here hx rfl (pc0 := 129) (pc' := 133) rfl (hb hby at_129) (by decide) (by decide) ?_
    show Steps p.tables e below (T61.setTop (mkF m 133 #[.val (.int p0_0), .val (.int p0_1), .val (.int p0_2), .val (.int p0_3), .val (.int (j0_11_s0 p0_0 p0_1 p0_3)), .val (.int (j0_36_5 p0_0 p0_1 p0_2 p0_3)), .val (.int (v0_51 p0_0 p0_1 p0_2 p0_3)), .val (.int (v0_75 p0_0 p0_1 p0_2 p0_3)), .val (.int (j0_87_s0 p0_0 p0_1 p0_2 p0_3)), .val (.ref b40), .unset] [(.int (1 : Int32))])) _
    refine XS.istore X61.here hx rfl (hb hby at_133) rfl (l' := #[.val (.int p0_0), .val (.int p0_1), .val (.int p0_2), .val (.int p0_3), .val (.int (j0_11_s0 p0_0 p0_1 p0_3)), .val (.int (j0_36_5 p0_0 p0_1 p0_2 p0_3)), .val (.int (v0_51 p0_0 p0_1 p0_2 p0_3)), .val (.int (v0_75 p0_0 p0_1 p0_2 p0_3)), .val (.int (j0_87_s0 p0_0 p0_1 p0_2 p0_3)), .val (.ref b40), .val (.int (1 : Int32))]) rfl ?_
    show Steps p.tables e below (T61.setTop (mkF m 135 #[.val (.int p0_0), .val (.int p0_1), .val (.int p0_2), .val (.int p0_3), .val (.int (j0_11_s0 p0_0 p0_1 p0_3)), .val (.int (j0_36_5 p0_0 p0_1 p0_2 p0_3)), .val (.int (v0_51 p0_0 p0_1 p0_2 p0_3)), .val (.int (v0_75 p0_0 p0_1 p0_2 p0_3)), .val (.int (j0_87_s0 p0_0 p0_1 p0_2 p0_3)), .val (.ref b40), .val (.int (1 : Int32))] [])) _
    refine XS.iload X61.here hx rfl (hb hby at_135) rfl ?_
    show Steps p.tables e below (T61.setTop (mkF m 137 #[.val (.int p0_0), .val (.int p0_1), .val (.int p0_2), .val (.int p0_3), .val (.int (j0_11_s0 p0_0 p0_1 p0_3)), .val (.int (j0_36_5 p0_0 p0_1 p0_2 p0_3)), .val (.int (v0_51 p0_0 p0_1 p0_2 p0_3)), .val (.int (v0_75 p0_0 p0_1 p0_2 p0_3)), .val (.int (j0_87_s0 p0_0 p0_1 p0_2 p0_3)), .val (.ref b40), .val (.int (1 : Int32))] [(.int (1 : Int32))])) _
    refine XS.ifNo X61.here hx rfl (hb hby at_137) rfl ((if0 _ _).trans (feq (by decide : ¬ ((1 : Int32) = (0 : Int32)))).1) ?_
    show Steps p.tables e below (T61.setTop (mkF m 140 #[.val (.int p0_0), .val (.int p0_1), .val (.int p0_2), .val (.int p0_3), .val (.int (j0_11_s0 p0_0 p0_1 p0_3)), .val (.int (j0_36_5 p0_0 p0_1 p0_2 p0_3)), .val (.int (v0_51 p0_0 p0_1 p0_2 p0_3)), .val (.int (v0_75 p0_0 p0_1 p0_2 p0_3)), .val (.int (j0_87_s0 p0_0 p0_1 p0_2 p0_3)), .val (.ref b40), .val (.int (1 : Int32))] [])) _
    refine XS.aload X61.here hx rfl (hb hby at_140) rfl rfl ?_
    show Steps p.tables e below (T61.setTop (mkF m 142 #[.val (.int p0_0), .val (.int p0_1), .val (.int p0_2), .val (.int p0_3), .val (.int (j0_11_s0 p0_0 p0_1 p0_3)), .val (.int (j0_36_5 p0_0 p0_1 p0_2 p0_3)), .val (.int (v0_51 p0_0 p0_1 p0_2 p0_3)), .val (.int (v0_75 p0_0 p0_1 p0_2 p0_3)), .val (.int (j0_87_s0 p0_0 p0_1 p0_2 p0_3)), .val (.ref b40), .val (.int (1 : Int32))] [(.ref b40)])) _
    exact k)
  obtain ⟨cq64, kq64, qa64, qb64, qc64⟩ := isOf hZ e61 Ex57
  obtain ⟨_, _, ⟨T64, L64, k64, n64⟩, -, X64, ⟨Lc64, hQ64, l64, y64, z64⟩, st64⟩ := X61.virtualBack hx (y := (⟨"relayout/Largest", "holds", "()Z"⟩ : MethodName)) (z := (⟨"relayout/Largest", "holds", "()Z"⟩ : MethodName)) hown (mvT hZ (hw _ (List.mem_of_getElem? (i := 31) rfl))) (mvT hZ (hw _ (List.mem_of_getElem? (i := 32) rfl))) (notFace_of_selects (args := #[]) (mvT hZ (hw _ (List.mem_of_getElem? (i := 34) rfl)))) (mvT hZ (hw _ (List.mem_of_getElem? (i := 34) rfl))) (mvT hZ (hw _ (List.mem_of_getElem? (i := 33) rfl))) (by decide) (backOf (W := 0) (rm7 l Z a0 hw [] b40 (w0_115_count p0_0 p0_1 p0_2 p0_3) (w0_115_size p0_0 p0_1 p0_2 p0_3) T56.heap n0 Z56 F59 F58) hZ (hw _ (List.mem_of_getElem? (i := 35) rfl)) (hw _ (List.mem_of_getElem? (i := 10) rfl)) (by decide) (by decide)) qa64 qc64 (g := (mkF m 142 #[.val (.int p0_0), .val (.int p0_1), .val (.int p0_2), .val (.int p0_3), .val (.int (j0_11_s0 p0_0 p0_1 p0_3)), .val (.int (j0_36_5 p0_0 p0_1 p0_2 p0_3)), .val (.int (v0_51 p0_0 p0_1 p0_2 p0_3)), .val (.int (v0_75 p0_0 p0_1 p0_2 p0_3)), .val (.int (j0_87_s0 p0_0 p0_1 p0_2 p0_3)), .val (.ref b40), .val (.int (1 : Int32))] [(.ref b40)])) rfl (by rw [hml]; rfl) (Steps.refl _) (argsL := []) (rest := []) (lenOf pd_4 rfl) rfl (by show 2 * 0 + _ ≤ _; exact Nat.le_of_eq rfl) (hb hby at_142) (fun _ _ => ⟨rfl, e61, (by decide : 1 + 0 ≤ _), (by decide : 2 + 0 ≤ _)⟩)
  dsimp only [Pt.U, Pt.locs, Pt.cells, Pt.slots] at X64 l64 y64 z64 st64 hQ64
  subst l64 y64 z64
  obtain ⟨rfl, M64, e64⟩ := hQ64
  have N64 := Fr.app N61 M64
  have pre64 : ∀ t, Steps p.tables e below (T64.setTop (mkF m 145 #[.val (.int p0_0), .val (.int p0_1), .val (.int p0_2), .val (.int p0_3), .val (.int (j0_11_s0 p0_0 p0_1 p0_3)), .val (.int (j0_36_5 p0_0 p0_1 p0_2 p0_3)), .val (.int (v0_51 p0_0 p0_1 p0_2 p0_3)), .val (.int (v0_75 p0_0 p0_1 p0_2 p0_3)), .val (.int (j0_87_s0 p0_0 p0_1 p0_2 p0_3)), .val (.ref b40), .val (.int (1 : Int32))] [(.int (c0_142 p0_0 p0_1 p0_2 p0_3))])) t → Steps p.tables e below (s₁.setTop (entryFrame m #[(.int p0_0), (.int p0_1), (.int p0_2), (.int p0_3)] maxLocals)) t := fun t k => pre63 t (st64.trans k)
  have pre65 : ∀ t, Steps p.tables e below (T64.setTop (mkF m 147 #[.val (.int p0_0), .val (.int p0_1), .val (.int p0_2), .val (.int p0_3), .val (.int (j0_11_s0 p0_0 p0_1 p0_3)), .val (.int (j0_36_5 p0_0 p0_1 p0_2 p0_3)), .val (.int (v0_51 p0_0 p0_1 p0_2 p0_3)), .val (.int (v0_75 p0_0 p0_1 p0_2 p0_3)), .val (.int (j0_87_s0 p0_0 p0_1 p0_2 p0_3)), .val (.ref b40), .val (.int (1 : Int32))] [(.int (v0_75 p0_0 p0_1 p0_2 p0_3)), (.int (c0_142 p0_0 p0_1 p0_2 p0_3))])) t → Steps p.tables e below (s₁.setTop (entryFrame m #[(.int p0_0), (.int p0_1), (.int p0_2), (.int p0_3)] maxLocals)) t := fun t k => pre64 t (by
    refine XS.iload X64.here hx rfl (hb hby at_145) rfl ?_
    show Steps p.tables e below (T64.setTop (mkF m 147 #[.val (.int p0_0), .val (.int p0_1), .val (.int p0_2), .val (.int p0_3), .val (.int (j0_11_s0 p0_0 p0_1 p0_3)), .val (.int (j0_36_5 p0_0 p0_1 p0_2 p0_3)), .val (.int (v0_51 p0_0 p0_1 p0_2 p0_3)), .val (.int (v0_75 p0_0 p0_1 p0_2 p0_3)), .val (.int (j0_87_s0 p0_0 p0_1 p0_2 p0_3)), .val (.ref b40), .val (.int (1 : Int32))] [(.int (v0_75 p0_0 p0_1 p0_2 p0_3)), (.int (c0_142 p0_0 p0_1 p0_2 p0_3))])) _
    exact k)
  obtain ⟨T66, L66, X66, e66, N66, st66⟩ : ∃ (T' : State) (L' : List Loc), Stand p l e room_1 s m #[(.int p0_0), (.int p0_1), (.int p0_2), (.int p0_3)] below meth c T' L' 1 2 ∧ T'.heap = T56.heap ∧ Fr n0 L' ∧ ∀ t, Steps p.tables e below (T'.setTop (mkF m 160 #[.val (.int p0_0), .val (.int p0_1), .val (.int p0_2), .val (.int p0_3), .val (.int (j0_11_s0 p0_0 p0_1 p0_3)), .val (.int (j0_36_5 p0_0 p0_1 p0_2 p0_3)), .val (.int (v0_51 p0_0 p0_1 p0_2 p0_3)), .val (.int (v0_75 p0_0 p0_1 p0_2 p0_3)), .val (.int (j0_87_s0 p0_0 p0_1 p0_2 p0_3)), .val (.ref b40), .val (.int (1 : Int32))] [(.int (j0_160_s0 p0_0 p0_1 p0_2 p0_3)), (.int (c0_142 p0_0 p0_1 p0_2 p0_3))])) t → Steps p.tables e below (T64.setTop (mkF m 147 #[.val (.int p0_0), .val (.int p0_1), .val (.int p0_2), .val (.int p0_3), .val (.int (j0_11_s0 p0_0 p0_1 p0_3)), .val (.int (j0_36_5 p0_0 p0_1 p0_2 p0_3)), .val (.int (v0_51 p0_0 p0_1 p0_2 p0_3)), .val (.int (v0_75 p0_0 p0_1 p0_2 p0_3)), .val (.int (j0_87_s0 p0_0 p0_1 p0_2 p0_3)), .val (.ref b40), .val (.int (1 : Int32))] [(.int (v0_75 p0_0 p0_1 p0_2 p0_3)), (.int (c0_142 p0_0 p0_1 p0_2 p0_3))])) t := by
    have pre66 : ∀ t, Steps p.tables e below (T64.setTop (mkF m 147 #[.val (.int p0_0), .val (.int p0_1), .val (.int p0_2), .val (.int p0_3), .val (.int (j0_11_s0 p0_0 p0_1 p0_3)), .val (.int (j0_36_5 p0_0 p0_1 p0_2 p0_3)), .val (.int (v0_51 p0_0 p0_1 p0_2 p0_3)), .val (.int (v0_75 p0_0 p0_1 p0_2 p0_3)), .val (.int (j0_87_s0 p0_0 p0_1 p0_2 p0_3)), .val (.ref b40), .val (.int (1 : Int32))] [(.int (v0_75 p0_0 p0_1 p0_2 p0_3)), (.int (c0_142 p0_0 p0_1 p0_2 p0_3))])) t → Steps p.tables e below (T64.setTop (mkF m 147 #[.val (.int p0_0), .val (.int p0_1), .val (.int p0_2), .val (.int p0_3), .val (.int (j0_11_s0 p0_0 p0_1 p0_3)), .val (.int (j0_36_5 p0_0 p0_1 p0_2 p0_3)), .val (.int (v0_51 p0_0 p0_1 p0_2 p0_3)), .val (.int (v0_75 p0_0 p0_1 p0_2 p0_3)), .val (.int (j0_87_s0 p0_0 p0_1 p0_2 p0_3)), .val (.ref b40), .val (.int (1 : Int32))] [(.int (v0_75 p0_0 p0_1 p0_2 p0_3)), (.int (c0_142 p0_0 p0_1 p0_2 p0_3))])) t := fun t k => k
    by_cases hc147_67 : (0 : Int32) < (v0_75 p0_0 p0_1 p0_2 p0_3)
    · have pre68 : ∀ t, Steps p.tables e below (T64.setTop (mkF m 160 #[.val (.int p0_0), .val (.int p0_1), .val (.int p0_2), .val (.int p0_3), .val (.int (j0_11_s0 p0_0 p0_1 p0_3)), .val (.int (j0_36_5 p0_0 p0_1 p0_2 p0_3)), .val (.int (v0_51 p0_0 p0_1 p0_2 p0_3)), .val (.int (v0_75 p0_0 p0_1 p0_2 p0_3)), .val (.int (j0_87_s0 p0_0 p0_1 p0_2 p0_3)), .val (.ref b40), .val (.int (1 : Int32))] [(.int (1 : Int32)), (.int (c0_142 p0_0 p0_1 p0_2 p0_3))])) t → Steps p.tables e below (T64.setTop (mkF m 147 #[.val (.int p0_0), .val (.int p0_1), .val (.int p0_2), .val (.int p0_3), .val (.int (j0_11_s0 p0_0 p0_1 p0_3)), .val (.int (j0_36_5 p0_0 p0_1 p0_2 p0_3)), .val (.int (v0_51 p0_0 p0_1 p0_2 p0_3)), .val (.int (v0_75 p0_0 p0_1 p0_2 p0_3)), .val (.int (j0_87_s0 p0_0 p0_1 p0_2 p0_3)), .val (.ref b40), .val (.int (1 : Int32))] [(.int (v0_75 p0_0 p0_1 p0_2 p0_3)), (.int (c0_142 p0_0 p0_1 p0_2 p0_3))])) t := fun t k => pre66 t (by
        refine XS.ifYes X64.here hx rfl (pc0 := 147) (pc' := 155) rfl (hb hby at_147) rfl ((if0 _ _).trans (tlt hc147_67).2.2.1) (by decide) (by decide) ?_
        show Steps p.tables e below (T64.setTop (mkF m 155 #[.val (.int p0_0), .val (.int p0_1), .val (.int p0_2), .val (.int p0_3), .val (.int (j0_11_s0 p0_0 p0_1 p0_3)), .val (.int (j0_36_5 p0_0 p0_1 p0_2 p0_3)), .val (.int (v0_51 p0_0 p0_1 p0_2 p0_3)), .val (.int (v0_75 p0_0 p0_1 p0_2 p0_3)), .val (.int (j0_87_s0 p0_0 p0_1 p0_2 p0_3)), .val (.ref b40), .val (.int (1 : Int32))] [(.int (c0_142 p0_0 p0_1 p0_2 p0_3))])) _
        refine XS.iconst X64.here hx rfl (hb hby at_155) ?_
        show Steps p.tables e below (T64.setTop (mkF m 156 #[.val (.int p0_0), .val (.int p0_1), .val (.int p0_2), .val (.int p0_3), .val (.int (j0_11_s0 p0_0 p0_1 p0_3)), .val (.int (j0_36_5 p0_0 p0_1 p0_2 p0_3)), .val (.int (v0_51 p0_0 p0_1 p0_2 p0_3)), .val (.int (v0_75 p0_0 p0_1 p0_2 p0_3)), .val (.int (j0_87_s0 p0_0 p0_1 p0_2 p0_3)), .val (.ref b40), .val (.int (1 : Int32))] [(.int (1 : Int32)), (.int (c0_142 p0_0 p0_1 p0_2 p0_3))])) _
        refine XS.goto X64.here hx rfl (pc0 := 156) (pc' := 160) rfl (hb hby at_156) (by decide) (by decide) ?_
        show Steps p.tables e below (T64.setTop (mkF m 160 #[.val (.int p0_0), .val (.int p0_1), .val (.int p0_2), .val (.int p0_3), .val (.int (j0_11_s0 p0_0 p0_1 p0_3)), .val (.int (j0_36_5 p0_0 p0_1 p0_2 p0_3)), .val (.int (v0_51 p0_0 p0_1 p0_2 p0_3)), .val (.int (v0_75 p0_0 p0_1 p0_2 p0_3)), .val (.int (j0_87_s0 p0_0 p0_1 p0_2 p0_3)), .val (.ref b40), .val (.int (1 : Int32))] [(.int (1 : Int32)), (.int (c0_142 p0_0 p0_1 p0_2 p0_3))])) _
        exact k)
      have hj73 : (j0_160_s0 p0_0 p0_1 p0_2 p0_3) = (1 : Int32) := by unfold j0_160_s0; rw [if_pos hc147_67]
      exact ⟨T64, _, X64, e64, N64, fun t k => pre68 t (by rw [hj73] at k; exact k)⟩
    · have pre69 : ∀ t, Steps p.tables e below (T64.setTop (mkF m 152 #[.val (.int p0_0), .val (.int p0_1), .val (.int p0_2), .val (.int p0_3), .val (.int (j0_11_s0 p0_0 p0_1 p0_3)), .val (.int (j0_36_5 p0_0 p0_1 p0_2 p0_3)), .val (.int (v0_51 p0_0 p0_1 p0_2 p0_3)), .val (.int (v0_75 p0_0 p0_1 p0_2 p0_3)), .val (.int (j0_87_s0 p0_0 p0_1 p0_2 p0_3)), .val (.ref b40), .val (.int (1 : Int32))] [(.int (j0_87_s0 p0_0 p0_1 p0_2 p0_3)), (.int (c0_142 p0_0 p0_1 p0_2 p0_3))])) t → Steps p.tables e below (T64.setTop (mkF m 147 #[.val (.int p0_0), .val (.int p0_1), .val (.int p0_2), .val (.int p0_3), .val (.int (j0_11_s0 p0_0 p0_1 p0_3)), .val (.int (j0_36_5 p0_0 p0_1 p0_2 p0_3)), .val (.int (v0_51 p0_0 p0_1 p0_2 p0_3)), .val (.int (v0_75 p0_0 p0_1 p0_2 p0_3)), .val (.int (j0_87_s0 p0_0 p0_1 p0_2 p0_3)), .val (.ref b40), .val (.int (1 : Int32))] [(.int (v0_75 p0_0 p0_1 p0_2 p0_3)), (.int (c0_142 p0_0 p0_1 p0_2 p0_3))])) t := fun t k => pre66 t (by
        refine XS.ifNo X64.here hx rfl (hb hby at_147) rfl ((if0 _ _).trans (flt hc147_67).2.2.1) ?_
        show Steps p.tables e below (T64.setTop (mkF m 150 #[.val (.int p0_0), .val (.int p0_1), .val (.int p0_2), .val (.int p0_3), .val (.int (j0_11_s0 p0_0 p0_1 p0_3)), .val (.int (j0_36_5 p0_0 p0_1 p0_2 p0_3)), .val (.int (v0_51 p0_0 p0_1 p0_2 p0_3)), .val (.int (v0_75 p0_0 p0_1 p0_2 p0_3)), .val (.int (j0_87_s0 p0_0 p0_1 p0_2 p0_3)), .val (.ref b40), .val (.int (1 : Int32))] [(.int (c0_142 p0_0 p0_1 p0_2 p0_3))])) _
        refine XS.iload X64.here hx rfl (hb hby at_150) rfl ?_
        show Steps p.tables e below (T64.setTop (mkF m 152 #[.val (.int p0_0), .val (.int p0_1), .val (.int p0_2), .val (.int p0_3), .val (.int (j0_11_s0 p0_0 p0_1 p0_3)), .val (.int (j0_36_5 p0_0 p0_1 p0_2 p0_3)), .val (.int (v0_51 p0_0 p0_1 p0_2 p0_3)), .val (.int (v0_75 p0_0 p0_1 p0_2 p0_3)), .val (.int (j0_87_s0 p0_0 p0_1 p0_2 p0_3)), .val (.ref b40), .val (.int (1 : Int32))] [(.int (j0_87_s0 p0_0 p0_1 p0_2 p0_3)), (.int (c0_142 p0_0 p0_1 p0_2 p0_3))])) _
        exact k)
      by_cases hc152_70 : (j0_87_s0 p0_0 p0_1 p0_2 p0_3) = (0 : Int32)
      · have pre71 : ∀ t, Steps p.tables e below (T64.setTop (mkF m 160 #[.val (.int p0_0), .val (.int p0_1), .val (.int p0_2), .val (.int p0_3), .val (.int (j0_11_s0 p0_0 p0_1 p0_3)), .val (.int (j0_36_5 p0_0 p0_1 p0_2 p0_3)), .val (.int (v0_51 p0_0 p0_1 p0_2 p0_3)), .val (.int (v0_75 p0_0 p0_1 p0_2 p0_3)), .val (.int (j0_87_s0 p0_0 p0_1 p0_2 p0_3)), .val (.ref b40), .val (.int (1 : Int32))] [(.int (0 : Int32)), (.int (c0_142 p0_0 p0_1 p0_2 p0_3))])) t → Steps p.tables e below (T64.setTop (mkF m 147 #[.val (.int p0_0), .val (.int p0_1), .val (.int p0_2), .val (.int p0_3), .val (.int (j0_11_s0 p0_0 p0_1 p0_3)), .val (.int (j0_36_5 p0_0 p0_1 p0_2 p0_3)), .val (.int (v0_51 p0_0 p0_1 p0_2 p0_3)), .val (.int (v0_75 p0_0 p0_1 p0_2 p0_3)), .val (.int (j0_87_s0 p0_0 p0_1 p0_2 p0_3)), .val (.ref b40), .val (.int (1 : Int32))] [(.int (v0_75 p0_0 p0_1 p0_2 p0_3)), (.int (c0_142 p0_0 p0_1 p0_2 p0_3))])) t := fun t k => pre69 t (by
          refine XS.ifYes X64.here hx rfl (pc0 := 152) (pc' := 159) rfl (hb hby at_152) rfl ((if0 _ _).trans (teq hc152_70).1) (by decide) (by decide) ?_
          show Steps p.tables e below (T64.setTop (mkF m 159 #[.val (.int p0_0), .val (.int p0_1), .val (.int p0_2), .val (.int p0_3), .val (.int (j0_11_s0 p0_0 p0_1 p0_3)), .val (.int (j0_36_5 p0_0 p0_1 p0_2 p0_3)), .val (.int (v0_51 p0_0 p0_1 p0_2 p0_3)), .val (.int (v0_75 p0_0 p0_1 p0_2 p0_3)), .val (.int (j0_87_s0 p0_0 p0_1 p0_2 p0_3)), .val (.ref b40), .val (.int (1 : Int32))] [(.int (c0_142 p0_0 p0_1 p0_2 p0_3))])) _
          refine XS.iconst X64.here hx rfl (hb hby at_159) ?_
          show Steps p.tables e below (T64.setTop (mkF m 160 #[.val (.int p0_0), .val (.int p0_1), .val (.int p0_2), .val (.int p0_3), .val (.int (j0_11_s0 p0_0 p0_1 p0_3)), .val (.int (j0_36_5 p0_0 p0_1 p0_2 p0_3)), .val (.int (v0_51 p0_0 p0_1 p0_2 p0_3)), .val (.int (v0_75 p0_0 p0_1 p0_2 p0_3)), .val (.int (j0_87_s0 p0_0 p0_1 p0_2 p0_3)), .val (.ref b40), .val (.int (1 : Int32))] [(.int (0 : Int32)), (.int (c0_142 p0_0 p0_1 p0_2 p0_3))])) _
          exact k)
        have hj74 : (j0_160_s0 p0_0 p0_1 p0_2 p0_3) = (0 : Int32) := by unfold j0_160_s0; rw [if_neg hc147_67, if_pos hc152_70]
        exact ⟨T64, _, X64, e64, N64, fun t k => pre71 t (by rw [hj74] at k; exact k)⟩
      · have pre72 : ∀ t, Steps p.tables e below (T64.setTop (mkF m 160 #[.val (.int p0_0), .val (.int p0_1), .val (.int p0_2), .val (.int p0_3), .val (.int (j0_11_s0 p0_0 p0_1 p0_3)), .val (.int (j0_36_5 p0_0 p0_1 p0_2 p0_3)), .val (.int (v0_51 p0_0 p0_1 p0_2 p0_3)), .val (.int (v0_75 p0_0 p0_1 p0_2 p0_3)), .val (.int (j0_87_s0 p0_0 p0_1 p0_2 p0_3)), .val (.ref b40), .val (.int (1 : Int32))] [(.int (1 : Int32)), (.int (c0_142 p0_0 p0_1 p0_2 p0_3))])) t → Steps p.tables e below (T64.setTop (mkF m 147 #[.val (.int p0_0), .val (.int p0_1), .val (.int p0_2), .val (.int p0_3), .val (.int (j0_11_s0 p0_0 p0_1 p0_3)), .val (.int (j0_36_5 p0_0 p0_1 p0_2 p0_3)), .val (.int (v0_51 p0_0 p0_1 p0_2 p0_3)), .val (.int (v0_75 p0_0 p0_1 p0_2 p0_3)), .val (.int (j0_87_s0 p0_0 p0_1 p0_2 p0_3)), .val (.ref b40), .val (.int (1 : Int32))] [(.int (v0_75 p0_0 p0_1 p0_2 p0_3)), (.int (c0_142 p0_0 p0_1 p0_2 p0_3))])) t := fun t k => pre69 t (by
          refine XS.ifNo X64.here hx rfl (hb hby at_152) rfl ((if0 _ _).trans (feq hc152_70).1) ?_
          show Steps p.tables e below (T64.setTop (mkF m 155 #[.val (.int p0_0), .val (.int p0_1), .val (.int p0_2), .val (.int p0_3), .val (.int (j0_11_s0 p0_0 p0_1 p0_3)), .val (.int (j0_36_5 p0_0 p0_1 p0_2 p0_3)), .val (.int (v0_51 p0_0 p0_1 p0_2 p0_3)), .val (.int (v0_75 p0_0 p0_1 p0_2 p0_3)), .val (.int (j0_87_s0 p0_0 p0_1 p0_2 p0_3)), .val (.ref b40), .val (.int (1 : Int32))] [(.int (c0_142 p0_0 p0_1 p0_2 p0_3))])) _
          refine XS.iconst X64.here hx rfl (hb hby at_155) ?_
          show Steps p.tables e below (T64.setTop (mkF m 156 #[.val (.int p0_0), .val (.int p0_1), .val (.int p0_2), .val (.int p0_3), .val (.int (j0_11_s0 p0_0 p0_1 p0_3)), .val (.int (j0_36_5 p0_0 p0_1 p0_2 p0_3)), .val (.int (v0_51 p0_0 p0_1 p0_2 p0_3)), .val (.int (v0_75 p0_0 p0_1 p0_2 p0_3)), .val (.int (j0_87_s0 p0_0 p0_1 p0_2 p0_3)), .val (.ref b40), .val (.int (1 : Int32))] [(.int (1 : Int32)), (.int (c0_142 p0_0 p0_1 p0_2 p0_3))])) _
          refine XS.goto X64.here hx rfl (pc0 := 156) (pc' := 160) rfl (hb hby at_156) (by decide) (by decide) ?_
          show Steps p.tables e below (T64.setTop (mkF m 160 #[.val (.int p0_0), .val (.int p0_1), .val (.int p0_2), .val (.int p0_3), .val (.int (j0_11_s0 p0_0 p0_1 p0_3)), .val (.int (j0_36_5 p0_0 p0_1 p0_2 p0_3)), .val (.int (v0_51 p0_0 p0_1 p0_2 p0_3)), .val (.int (v0_75 p0_0 p0_1 p0_2 p0_3)), .val (.int (j0_87_s0 p0_0 p0_1 p0_2 p0_3)), .val (.ref b40), .val (.int (1 : Int32))] [(.int (1 : Int32)), (.int (c0_142 p0_0 p0_1 p0_2 p0_3))])) _
          exact k)
        have hj75 : (j0_160_s0 p0_0 p0_1 p0_2 p0_3) = (1 : Int32) := by unfold j0_160_s0; rw [if_neg hc147_67, if_neg hc152_70]
        exact ⟨T64, _, X64, e64, N64, fun t k => pre72 t (by rw [hj75] at k; exact k)⟩
  have pre66 : ∀ t, Steps p.tables e below (T66.setTop (mkF m 160 #[.val (.int p0_0), .val (.int p0_1), .val (.int p0_2), .val (.int p0_3), .val (.int (j0_11_s0 p0_0 p0_1 p0_3)), .val (.int (j0_36_5 p0_0 p0_1 p0_2 p0_3)), .val (.int (v0_51 p0_0 p0_1 p0_2 p0_3)), .val (.int (v0_75 p0_0 p0_1 p0_2 p0_3)), .val (.int (j0_87_s0 p0_0 p0_1 p0_2 p0_3)), .val (.ref b40), .val (.int (1 : Int32))] [(.int (j0_160_s0 p0_0 p0_1 p0_2 p0_3)), (.int (c0_142 p0_0 p0_1 p0_2 p0_3))])) t → Steps p.tables e below (s₁.setTop (entryFrame m #[(.int p0_0), (.int p0_1), (.int p0_2), (.int p0_3)] maxLocals)) t := fun t k => pre65 t (st66 t k)
  have pre77 : ∀ t, Steps p.tables e below (T66.setTop (mkF m 174 #[.val (.int p0_0), .val (.int p0_1), .val (.int p0_2), .val (.int p0_3), .val (.int (j0_11_s0 p0_0 p0_1 p0_3)), .val (.int (j0_36_5 p0_0 p0_1 p0_2 p0_3)), .val (.int (v0_51 p0_0 p0_1 p0_2 p0_3)), .val (.int (v0_75 p0_0 p0_1 p0_2 p0_3)), .val (.int (j0_87_s0 p0_0 p0_1 p0_2 p0_3)), .val (.ref b40), .val (.int (1 : Int32))] [(.int (v0_51 p0_0 p0_1 p0_2 p0_3)), (.ref b40)])) t → Steps p.tables e below (s₁.setTop (entryFrame m #[(.int p0_0), (.int p0_1), (.int p0_2), (.int p0_3)] maxLocals)) t := fun t k => pre66 t (by
    refine XS.icmpNo X66.here hx rfl (hb hby at_160) rfl (teq (show (c0_142 p0_0 p0_1 p0_2 p0_3) = (j0_160_s0 p0_0 p0_1 p0_2 p0_3) from (own_holds0 p0_0 p0_1 p0_2 p0_3))).2 ?_
    show Steps p.tables e below (T66.setTop (mkF m 163 #[.val (.int p0_0), .val (.int p0_1), .val (.int p0_2), .val (.int p0_3), .val (.int (j0_11_s0 p0_0 p0_1 p0_3)), .val (.int (j0_36_5 p0_0 p0_1 p0_2 p0_3)), .val (.int (v0_51 p0_0 p0_1 p0_2 p0_3)), .val (.int (v0_75 p0_0 p0_1 p0_2 p0_3)), .val (.int (j0_87_s0 p0_0 p0_1 p0_2 p0_3)), .val (.ref b40), .val (.int (1 : Int32))] [])) _
    refine XS.iconst X66.here hx rfl (hb hby at_163) ?_
    show Steps p.tables e below (T66.setTop (mkF m 164 #[.val (.int p0_0), .val (.int p0_1), .val (.int p0_2), .val (.int p0_3), .val (.int (j0_11_s0 p0_0 p0_1 p0_3)), .val (.int (j0_36_5 p0_0 p0_1 p0_2 p0_3)), .val (.int (v0_51 p0_0 p0_1 p0_2 p0_3)), .val (.int (v0_75 p0_0 p0_1 p0_2 p0_3)), .val (.int (j0_87_s0 p0_0 p0_1 p0_2 p0_3)), .val (.ref b40), .val (.int (1 : Int32))] [(.int (1 : Int32))])) _
    refine XS.goto X66.here hx rfl (pc0 := 164) (pc' := 168) rfl (hb hby at_164) (by decide) (by decide) ?_
    show Steps p.tables e below (T66.setTop (mkF m 168 #[.val (.int p0_0), .val (.int p0_1), .val (.int p0_2), .val (.int p0_3), .val (.int (j0_11_s0 p0_0 p0_1 p0_3)), .val (.int (j0_36_5 p0_0 p0_1 p0_2 p0_3)), .val (.int (v0_51 p0_0 p0_1 p0_2 p0_3)), .val (.int (v0_75 p0_0 p0_1 p0_2 p0_3)), .val (.int (j0_87_s0 p0_0 p0_1 p0_2 p0_3)), .val (.ref b40), .val (.int (1 : Int32))] [(.int (1 : Int32))])) _
    refine XS.istore X66.here hx rfl (hb hby at_168) rfl (l' := #[.val (.int p0_0), .val (.int p0_1), .val (.int p0_2), .val (.int p0_3), .val (.int (j0_11_s0 p0_0 p0_1 p0_3)), .val (.int (j0_36_5 p0_0 p0_1 p0_2 p0_3)), .val (.int (v0_51 p0_0 p0_1 p0_2 p0_3)), .val (.int (v0_75 p0_0 p0_1 p0_2 p0_3)), .val (.int (j0_87_s0 p0_0 p0_1 p0_2 p0_3)), .val (.ref b40), .val (.int (1 : Int32))]) rfl ?_
    show Steps p.tables e below (T66.setTop (mkF m 170 #[.val (.int p0_0), .val (.int p0_1), .val (.int p0_2), .val (.int p0_3), .val (.int (j0_11_s0 p0_0 p0_1 p0_3)), .val (.int (j0_36_5 p0_0 p0_1 p0_2 p0_3)), .val (.int (v0_51 p0_0 p0_1 p0_2 p0_3)), .val (.int (v0_75 p0_0 p0_1 p0_2 p0_3)), .val (.int (j0_87_s0 p0_0 p0_1 p0_2 p0_3)), .val (.ref b40), .val (.int (1 : Int32))] [])) _
    refine XS.aload X66.here hx rfl (hb hby at_170) rfl rfl ?_
    show Steps p.tables e below (T66.setTop (mkF m 172 #[.val (.int p0_0), .val (.int p0_1), .val (.int p0_2), .val (.int p0_3), .val (.int (j0_11_s0 p0_0 p0_1 p0_3)), .val (.int (j0_36_5 p0_0 p0_1 p0_2 p0_3)), .val (.int (v0_51 p0_0 p0_1 p0_2 p0_3)), .val (.int (v0_75 p0_0 p0_1 p0_2 p0_3)), .val (.int (j0_87_s0 p0_0 p0_1 p0_2 p0_3)), .val (.ref b40), .val (.int (1 : Int32))] [(.ref b40)])) _
    refine XS.iload X66.here hx rfl (hb hby at_172) rfl ?_
    show Steps p.tables e below (T66.setTop (mkF m 174 #[.val (.int p0_0), .val (.int p0_1), .val (.int p0_2), .val (.int p0_3), .val (.int (j0_11_s0 p0_0 p0_1 p0_3)), .val (.int (j0_36_5 p0_0 p0_1 p0_2 p0_3)), .val (.int (v0_51 p0_0 p0_1 p0_2 p0_3)), .val (.int (v0_75 p0_0 p0_1 p0_2 p0_3)), .val (.int (j0_87_s0 p0_0 p0_1 p0_2 p0_3)), .val (.ref b40), .val (.int (1 : Int32))] [(.int (v0_51 p0_0 p0_1 p0_2 p0_3)), (.ref b40)])) _
    exact k)
  obtain ⟨cq78, kq78, qa78, qb78, qc78⟩ := isOf hZ e66 Ex57
  obtain ⟨_, _, ⟨T78, L78, k78, n78⟩, -, X78, ⟨Lc78, hQ78, l78, y78, z78⟩, st78⟩ := X66.virtualBack hx (y := (⟨"relayout/Largest", "remove", "(I)V"⟩ : MethodName)) (z := (⟨"relayout/Largest", "remove", "(I)V"⟩ : MethodName)) hown (mvT hZ (hw _ (List.mem_of_getElem? (i := 36) rfl))) (mvT hZ (hw _ (List.mem_of_getElem? (i := 37) rfl))) (notFace_of_selects (args := #[]) (mvT hZ (hw _ (List.mem_of_getElem? (i := 39) rfl)))) (mvT hZ (hw _ (List.mem_of_getElem? (i := 39) rfl))) (mvT hZ (hw _ (List.mem_of_getElem? (i := 38) rfl))) (by decide) (backOf (W := 0) (rm8 l Z a0 hw [] b40 (v0_51 p0_0 p0_1 p0_2 p0_3) (w0_115_size p0_0 p0_1 p0_2 p0_3) (w0_115_count p0_0 p0_1 p0_2 p0_3) T56.heap n0 Z56 Ex57 F58 F59 g_b40) hZ (hw _ (List.mem_of_getElem? (i := 40) rfl)) (hw _ (List.mem_of_getElem? (i := 10) rfl)) (by decide) (by decide)) qa78 qc78 (g := (mkF m 174 #[.val (.int p0_0), .val (.int p0_1), .val (.int p0_2), .val (.int p0_3), .val (.int (j0_11_s0 p0_0 p0_1 p0_3)), .val (.int (j0_36_5 p0_0 p0_1 p0_2 p0_3)), .val (.int (v0_51 p0_0 p0_1 p0_2 p0_3)), .val (.int (v0_75 p0_0 p0_1 p0_2 p0_3)), .val (.int (j0_87_s0 p0_0 p0_1 p0_2 p0_3)), .val (.ref b40), .val (.int (1 : Int32))] [(.int (v0_51 p0_0 p0_1 p0_2 p0_3)), (.ref b40)])) rfl (by rw [hml]; rfl) (Steps.refl _) (argsL := [(.int (v0_51 p0_0 p0_1 p0_2 p0_3))]) (rest := []) (lenOf pd_2 rfl) rfl (by show 2 * 0 + _ ≤ _; exact Nat.le_of_eq rfl) (hb hby at_174) (fun _ _ => ⟨rfl, e66, (by decide : 1 + 0 ≤ _), (by decide : 2 + 0 ≤ _)⟩)
  dsimp only [Pt.U, Pt.locs, Pt.cells, Pt.slots] at X78 l78 y78 z78 st78 hQ78
  subst l78 y78 z78
  obtain ⟨rfl, M78, K78c, P78_0, P78_1⟩ := hQ78
  have N78 := Fr.app N66 M78
  have K78 : Keep T56.heap T78.heap [b40] := K78c
  have Z78 : n0 ≤ T78.heap.size := Nat.le_trans Z56 K78.1
  have Ex79 : Exa Z T78.heap b40 "relayout/Largest" := Ex57.keep K78
  have F80 : Fld Z T78.heap b40 "relayout/Largest" "size" "I" (.int (w0_115_size p0_0 p0_1 p0_2 p0_3)) := P78_0
  have F81 : Fld Z T78.heap b40 "relayout/Largest" "count" "I" (.int (w0_174_count p0_0 p0_1 p0_2 p0_3)) := P78_1
  have pre78 : ∀ t, Steps p.tables e below (T78.setTop (mkF m 177 #[.val (.int p0_0), .val (.int p0_1), .val (.int p0_2), .val (.int p0_3), .val (.int (j0_11_s0 p0_0 p0_1 p0_3)), .val (.int (j0_36_5 p0_0 p0_1 p0_2 p0_3)), .val (.int (v0_51 p0_0 p0_1 p0_2 p0_3)), .val (.int (v0_75 p0_0 p0_1 p0_2 p0_3)), .val (.int (j0_87_s0 p0_0 p0_1 p0_2 p0_3)), .val (.ref b40), .val (.int (1 : Int32))] [])) t → Steps p.tables e below (s₁.setTop (entryFrame m #[(.int p0_0), (.int p0_1), (.int p0_2), (.int p0_3)] maxLocals)) t := fun t k => pre77 t (st78.trans k)
  have pre82 : ∀ t, Steps p.tables e below (T78.setTop (mkF m 184 #[.val (.int p0_0), .val (.int p0_1), .val (.int p0_2), .val (.int p0_3), .val (.int (j0_11_s0 p0_0 p0_1 p0_3)), .val (.int (j0_36_5 p0_0 p0_1 p0_2 p0_3)), .val (.int (v0_51 p0_0 p0_1 p0_2 p0_3)), .val (.int (v0_75 p0_0 p0_1 p0_2 p0_3)), .val (.int (j0_87_s0 p0_0 p0_1 p0_2 p0_3)), .val (.ref b40), .val (.int (1 : Int32))] [(.ref b40)])) t → Steps p.tables e below (s₁.setTop (entryFrame m #[(.int p0_0), (.int p0_1), (.int p0_2), (.int p0_3)] maxLocals)) t := fun t k => pre78 t (by
    refine XS.iload X78.here hx rfl (hb hby at_177) rfl ?_
    show Steps p.tables e below (T78.setTop (mkF m 179 #[.val (.int p0_0), .val (.int p0_1), .val (.int p0_2), .val (.int p0_3), .val (.int (j0_11_s0 p0_0 p0_1 p0_3)), .val (.int (j0_36_5 p0_0 p0_1 p0_2 p0_3)), .val (.int (v0_51 p0_0 p0_1 p0_2 p0_3)), .val (.int (v0_75 p0_0 p0_1 p0_2 p0_3)), .val (.int (j0_87_s0 p0_0 p0_1 p0_2 p0_3)), .val (.ref b40), .val (.int (1 : Int32))] [(.int (1 : Int32))])) _
    refine XS.ifNo X78.here hx rfl (hb hby at_179) rfl ((if0 _ _).trans (feq (by decide : ¬ ((1 : Int32) = (0 : Int32)))).1) ?_
    show Steps p.tables e below (T78.setTop (mkF m 182 #[.val (.int p0_0), .val (.int p0_1), .val (.int p0_2), .val (.int p0_3), .val (.int (j0_11_s0 p0_0 p0_1 p0_3)), .val (.int (j0_36_5 p0_0 p0_1 p0_2 p0_3)), .val (.int (v0_51 p0_0 p0_1 p0_2 p0_3)), .val (.int (v0_75 p0_0 p0_1 p0_2 p0_3)), .val (.int (j0_87_s0 p0_0 p0_1 p0_2 p0_3)), .val (.ref b40), .val (.int (1 : Int32))] [])) _
    refine XS.aload X78.here hx rfl (hb hby at_182) rfl rfl ?_
    show Steps p.tables e below (T78.setTop (mkF m 184 #[.val (.int p0_0), .val (.int p0_1), .val (.int p0_2), .val (.int p0_3), .val (.int (j0_11_s0 p0_0 p0_1 p0_3)), .val (.int (j0_36_5 p0_0 p0_1 p0_2 p0_3)), .val (.int (v0_51 p0_0 p0_1 p0_2 p0_3)), .val (.int (v0_75 p0_0 p0_1 p0_2 p0_3)), .val (.int (j0_87_s0 p0_0 p0_1 p0_2 p0_3)), .val (.ref b40), .val (.int (1 : Int32))] [(.ref b40)])) _
    exact k)
  obtain ⟨cq83, kq83, qa83, qb83, qc83⟩ := isOf hZ rfl Ex79
  obtain ⟨_, _, ⟨T83, L83, k83, n83⟩, -, X83, ⟨Lc83, hQ83, l83, y83, z83⟩, st83⟩ := X78.virtualBack hx (y := (⟨"relayout/Largest", "holds", "()Z"⟩ : MethodName)) (z := (⟨"relayout/Largest", "holds", "()Z"⟩ : MethodName)) hown (mvT hZ (hw _ (List.mem_of_getElem? (i := 31) rfl))) (mvT hZ (hw _ (List.mem_of_getElem? (i := 32) rfl))) (notFace_of_selects (args := #[]) (mvT hZ (hw _ (List.mem_of_getElem? (i := 34) rfl)))) (mvT hZ (hw _ (List.mem_of_getElem? (i := 34) rfl))) (mvT hZ (hw _ (List.mem_of_getElem? (i := 33) rfl))) (by decide) (backOf (W := 0) (rm7 l Z a0 hw [] b40 (w0_174_count p0_0 p0_1 p0_2 p0_3) (w0_115_size p0_0 p0_1 p0_2 p0_3) T78.heap n0 Z78 F81 F80) hZ (hw _ (List.mem_of_getElem? (i := 35) rfl)) (hw _ (List.mem_of_getElem? (i := 10) rfl)) (by decide) (by decide)) qa83 qc83 (g := (mkF m 184 #[.val (.int p0_0), .val (.int p0_1), .val (.int p0_2), .val (.int p0_3), .val (.int (j0_11_s0 p0_0 p0_1 p0_3)), .val (.int (j0_36_5 p0_0 p0_1 p0_2 p0_3)), .val (.int (v0_51 p0_0 p0_1 p0_2 p0_3)), .val (.int (v0_75 p0_0 p0_1 p0_2 p0_3)), .val (.int (j0_87_s0 p0_0 p0_1 p0_2 p0_3)), .val (.ref b40), .val (.int (1 : Int32))] [(.ref b40)])) rfl (by rw [hml]; rfl) (Steps.refl _) (argsL := []) (rest := []) (lenOf pd_4 rfl) rfl (by show 2 * 0 + _ ≤ _; exact Nat.le_of_eq rfl) (hb hby at_184) (fun _ _ => ⟨rfl, rfl, (by decide : 1 + 0 ≤ _), (by decide : 2 + 0 ≤ _)⟩)
  dsimp only [Pt.U, Pt.locs, Pt.cells, Pt.slots] at X83 l83 y83 z83 st83 hQ83
  subst l83 y83 z83
  obtain ⟨rfl, M83, e83⟩ := hQ83
  have N83 := Fr.app N78 M83
  have pre83 : ∀ t, Steps p.tables e below (T83.setTop (mkF m 187 #[.val (.int p0_0), .val (.int p0_1), .val (.int p0_2), .val (.int p0_3), .val (.int (j0_11_s0 p0_0 p0_1 p0_3)), .val (.int (j0_36_5 p0_0 p0_1 p0_2 p0_3)), .val (.int (v0_51 p0_0 p0_1 p0_2 p0_3)), .val (.int (v0_75 p0_0 p0_1 p0_2 p0_3)), .val (.int (j0_87_s0 p0_0 p0_1 p0_2 p0_3)), .val (.ref b40), .val (.int (1 : Int32))] [(.int (c0_184 p0_0 p0_1 p0_2 p0_3))])) t → Steps p.tables e below (s₁.setTop (entryFrame m #[(.int p0_0), (.int p0_1), (.int p0_2), (.int p0_3)] maxLocals)) t := fun t k => pre82 t (st83.trans k)
  have pre84 : ∀ t, Steps p.tables e below (T83.setTop (mkF m 191 #[.val (.int p0_0), .val (.int p0_1), .val (.int p0_2), .val (.int p0_3), .val (.int (j0_11_s0 p0_0 p0_1 p0_3)), .val (.int (j0_36_5 p0_0 p0_1 p0_2 p0_3)), .val (.int (v0_51 p0_0 p0_1 p0_2 p0_3)), .val (.int (v0_75 p0_0 p0_1 p0_2 p0_3)), .val (.int (j0_87_s0 p0_0 p0_1 p0_2 p0_3)), .val (.ref b40), .val (.int (1 : Int32))] [(.int ((v0_75 p0_0 p0_1 p0_2 p0_3) - (1 : Int32))), (.int (c0_184 p0_0 p0_1 p0_2 p0_3))])) t → Steps p.tables e below (s₁.setTop (entryFrame m #[(.int p0_0), (.int p0_1), (.int p0_2), (.int p0_3)] maxLocals)) t := fun t k => pre83 t (by
    refine XS.iload X83.here hx rfl (hb hby at_187) rfl ?_
    show Steps p.tables e below (T83.setTop (mkF m 189 #[.val (.int p0_0), .val (.int p0_1), .val (.int p0_2), .val (.int p0_3), .val (.int (j0_11_s0 p0_0 p0_1 p0_3)), .val (.int (j0_36_5 p0_0 p0_1 p0_2 p0_3)), .val (.int (v0_51 p0_0 p0_1 p0_2 p0_3)), .val (.int (v0_75 p0_0 p0_1 p0_2 p0_3)), .val (.int (j0_87_s0 p0_0 p0_1 p0_2 p0_3)), .val (.ref b40), .val (.int (1 : Int32))] [(.int (v0_75 p0_0 p0_1 p0_2 p0_3)), (.int (c0_184 p0_0 p0_1 p0_2 p0_3))])) _
    refine XS.iconst X83.here hx rfl (hb hby at_189) ?_
    show Steps p.tables e below (T83.setTop (mkF m 190 #[.val (.int p0_0), .val (.int p0_1), .val (.int p0_2), .val (.int p0_3), .val (.int (j0_11_s0 p0_0 p0_1 p0_3)), .val (.int (j0_36_5 p0_0 p0_1 p0_2 p0_3)), .val (.int (v0_51 p0_0 p0_1 p0_2 p0_3)), .val (.int (v0_75 p0_0 p0_1 p0_2 p0_3)), .val (.int (j0_87_s0 p0_0 p0_1 p0_2 p0_3)), .val (.ref b40), .val (.int (1 : Int32))] [(.int (1 : Int32)), (.int (v0_75 p0_0 p0_1 p0_2 p0_3)), (.int (c0_184 p0_0 p0_1 p0_2 p0_3))])) _
    refine XS.isub X83.here hx rfl (hb hby at_190) rfl ?_
    show Steps p.tables e below (T83.setTop (mkF m 191 #[.val (.int p0_0), .val (.int p0_1), .val (.int p0_2), .val (.int p0_3), .val (.int (j0_11_s0 p0_0 p0_1 p0_3)), .val (.int (j0_36_5 p0_0 p0_1 p0_2 p0_3)), .val (.int (v0_51 p0_0 p0_1 p0_2 p0_3)), .val (.int (v0_75 p0_0 p0_1 p0_2 p0_3)), .val (.int (j0_87_s0 p0_0 p0_1 p0_2 p0_3)), .val (.ref b40), .val (.int (1 : Int32))] [(.int ((v0_75 p0_0 p0_1 p0_2 p0_3) - (1 : Int32))), (.int (c0_184 p0_0 p0_1 p0_2 p0_3))])) _
    exact k)
  obtain ⟨T85, L85, X85, e85, N85, st85⟩ : ∃ (T' : State) (L' : List Loc), Stand p l e room_1 s m #[(.int p0_0), (.int p0_1), (.int p0_2), (.int p0_3)] below meth c T' L' 1 2 ∧ T'.heap = T78.heap ∧ Fr n0 L' ∧ ∀ t, Steps p.tables e below (T'.setTop (mkF m 204 #[.val (.int p0_0), .val (.int p0_1), .val (.int p0_2), .val (.int p0_3), .val (.int (j0_11_s0 p0_0 p0_1 p0_3)), .val (.int (j0_36_5 p0_0 p0_1 p0_2 p0_3)), .val (.int (v0_51 p0_0 p0_1 p0_2 p0_3)), .val (.int (v0_75 p0_0 p0_1 p0_2 p0_3)), .val (.int (j0_87_s0 p0_0 p0_1 p0_2 p0_3)), .val (.ref b40), .val (.int (1 : Int32))] [(.int (j0_204_s0 p0_0 p0_1 p0_2 p0_3)), (.int (c0_184 p0_0 p0_1 p0_2 p0_3))])) t → Steps p.tables e below (T83.setTop (mkF m 191 #[.val (.int p0_0), .val (.int p0_1), .val (.int p0_2), .val (.int p0_3), .val (.int (j0_11_s0 p0_0 p0_1 p0_3)), .val (.int (j0_36_5 p0_0 p0_1 p0_2 p0_3)), .val (.int (v0_51 p0_0 p0_1 p0_2 p0_3)), .val (.int (v0_75 p0_0 p0_1 p0_2 p0_3)), .val (.int (j0_87_s0 p0_0 p0_1 p0_2 p0_3)), .val (.ref b40), .val (.int (1 : Int32))] [(.int ((v0_75 p0_0 p0_1 p0_2 p0_3) - (1 : Int32))), (.int (c0_184 p0_0 p0_1 p0_2 p0_3))])) t := by
    have pre85 : ∀ t, Steps p.tables e below (T83.setTop (mkF m 191 #[.val (.int p0_0), .val (.int p0_1), .val (.int p0_2), .val (.int p0_3), .val (.int (j0_11_s0 p0_0 p0_1 p0_3)), .val (.int (j0_36_5 p0_0 p0_1 p0_2 p0_3)), .val (.int (v0_51 p0_0 p0_1 p0_2 p0_3)), .val (.int (v0_75 p0_0 p0_1 p0_2 p0_3)), .val (.int (j0_87_s0 p0_0 p0_1 p0_2 p0_3)), .val (.ref b40), .val (.int (1 : Int32))] [(.int ((v0_75 p0_0 p0_1 p0_2 p0_3) - (1 : Int32))), (.int (c0_184 p0_0 p0_1 p0_2 p0_3))])) t → Steps p.tables e below (T83.setTop (mkF m 191 #[.val (.int p0_0), .val (.int p0_1), .val (.int p0_2), .val (.int p0_3), .val (.int (j0_11_s0 p0_0 p0_1 p0_3)), .val (.int (j0_36_5 p0_0 p0_1 p0_2 p0_3)), .val (.int (v0_51 p0_0 p0_1 p0_2 p0_3)), .val (.int (v0_75 p0_0 p0_1 p0_2 p0_3)), .val (.int (j0_87_s0 p0_0 p0_1 p0_2 p0_3)), .val (.ref b40), .val (.int (1 : Int32))] [(.int ((v0_75 p0_0 p0_1 p0_2 p0_3) - (1 : Int32))), (.int (c0_184 p0_0 p0_1 p0_2 p0_3))])) t := fun t k => k
    by_cases hc191_86 : (0 : Int32) < ((v0_75 p0_0 p0_1 p0_2 p0_3) - (1 : Int32))
    · have pre87 : ∀ t, Steps p.tables e below (T83.setTop (mkF m 204 #[.val (.int p0_0), .val (.int p0_1), .val (.int p0_2), .val (.int p0_3), .val (.int (j0_11_s0 p0_0 p0_1 p0_3)), .val (.int (j0_36_5 p0_0 p0_1 p0_2 p0_3)), .val (.int (v0_51 p0_0 p0_1 p0_2 p0_3)), .val (.int (v0_75 p0_0 p0_1 p0_2 p0_3)), .val (.int (j0_87_s0 p0_0 p0_1 p0_2 p0_3)), .val (.ref b40), .val (.int (1 : Int32))] [(.int (1 : Int32)), (.int (c0_184 p0_0 p0_1 p0_2 p0_3))])) t → Steps p.tables e below (T83.setTop (mkF m 191 #[.val (.int p0_0), .val (.int p0_1), .val (.int p0_2), .val (.int p0_3), .val (.int (j0_11_s0 p0_0 p0_1 p0_3)), .val (.int (j0_36_5 p0_0 p0_1 p0_2 p0_3)), .val (.int (v0_51 p0_0 p0_1 p0_2 p0_3)), .val (.int (v0_75 p0_0 p0_1 p0_2 p0_3)), .val (.int (j0_87_s0 p0_0 p0_1 p0_2 p0_3)), .val (.ref b40), .val (.int (1 : Int32))] [(.int ((v0_75 p0_0 p0_1 p0_2 p0_3) - (1 : Int32))), (.int (c0_184 p0_0 p0_1 p0_2 p0_3))])) t := fun t k => pre85 t (by
        refine XS.ifYes X83.here hx rfl (pc0 := 191) (pc' := 199) rfl (hb hby at_191) rfl ((if0 _ _).trans (tlt hc191_86).2.2.1) (by decide) (by decide) ?_
        show Steps p.tables e below (T83.setTop (mkF m 199 #[.val (.int p0_0), .val (.int p0_1), .val (.int p0_2), .val (.int p0_3), .val (.int (j0_11_s0 p0_0 p0_1 p0_3)), .val (.int (j0_36_5 p0_0 p0_1 p0_2 p0_3)), .val (.int (v0_51 p0_0 p0_1 p0_2 p0_3)), .val (.int (v0_75 p0_0 p0_1 p0_2 p0_3)), .val (.int (j0_87_s0 p0_0 p0_1 p0_2 p0_3)), .val (.ref b40), .val (.int (1 : Int32))] [(.int (c0_184 p0_0 p0_1 p0_2 p0_3))])) _
        refine XS.iconst X83.here hx rfl (hb hby at_199) ?_
        show Steps p.tables e below (T83.setTop (mkF m 200 #[.val (.int p0_0), .val (.int p0_1), .val (.int p0_2), .val (.int p0_3), .val (.int (j0_11_s0 p0_0 p0_1 p0_3)), .val (.int (j0_36_5 p0_0 p0_1 p0_2 p0_3)), .val (.int (v0_51 p0_0 p0_1 p0_2 p0_3)), .val (.int (v0_75 p0_0 p0_1 p0_2 p0_3)), .val (.int (j0_87_s0 p0_0 p0_1 p0_2 p0_3)), .val (.ref b40), .val (.int (1 : Int32))] [(.int (1 : Int32)), (.int (c0_184 p0_0 p0_1 p0_2 p0_3))])) _
        refine XS.goto X83.here hx rfl (pc0 := 200) (pc' := 204) rfl (hb hby at_200) (by decide) (by decide) ?_
        show Steps p.tables e below (T83.setTop (mkF m 204 #[.val (.int p0_0), .val (.int p0_1), .val (.int p0_2), .val (.int p0_3), .val (.int (j0_11_s0 p0_0 p0_1 p0_3)), .val (.int (j0_36_5 p0_0 p0_1 p0_2 p0_3)), .val (.int (v0_51 p0_0 p0_1 p0_2 p0_3)), .val (.int (v0_75 p0_0 p0_1 p0_2 p0_3)), .val (.int (j0_87_s0 p0_0 p0_1 p0_2 p0_3)), .val (.ref b40), .val (.int (1 : Int32))] [(.int (1 : Int32)), (.int (c0_184 p0_0 p0_1 p0_2 p0_3))])) _
        exact k)
      have hj92 : (j0_204_s0 p0_0 p0_1 p0_2 p0_3) = (1 : Int32) := by unfold j0_204_s0; rw [if_pos hc191_86]
      exact ⟨T83, _, X83, e83, N83, fun t k => pre87 t (by rw [hj92] at k; exact k)⟩
    · have pre88 : ∀ t, Steps p.tables e below (T83.setTop (mkF m 196 #[.val (.int p0_0), .val (.int p0_1), .val (.int p0_2), .val (.int p0_3), .val (.int (j0_11_s0 p0_0 p0_1 p0_3)), .val (.int (j0_36_5 p0_0 p0_1 p0_2 p0_3)), .val (.int (v0_51 p0_0 p0_1 p0_2 p0_3)), .val (.int (v0_75 p0_0 p0_1 p0_2 p0_3)), .val (.int (j0_87_s0 p0_0 p0_1 p0_2 p0_3)), .val (.ref b40), .val (.int (1 : Int32))] [(.int (j0_87_s0 p0_0 p0_1 p0_2 p0_3)), (.int (c0_184 p0_0 p0_1 p0_2 p0_3))])) t → Steps p.tables e below (T83.setTop (mkF m 191 #[.val (.int p0_0), .val (.int p0_1), .val (.int p0_2), .val (.int p0_3), .val (.int (j0_11_s0 p0_0 p0_1 p0_3)), .val (.int (j0_36_5 p0_0 p0_1 p0_2 p0_3)), .val (.int (v0_51 p0_0 p0_1 p0_2 p0_3)), .val (.int (v0_75 p0_0 p0_1 p0_2 p0_3)), .val (.int (j0_87_s0 p0_0 p0_1 p0_2 p0_3)), .val (.ref b40), .val (.int (1 : Int32))] [(.int ((v0_75 p0_0 p0_1 p0_2 p0_3) - (1 : Int32))), (.int (c0_184 p0_0 p0_1 p0_2 p0_3))])) t := fun t k => pre85 t (by
        refine XS.ifNo X83.here hx rfl (hb hby at_191) rfl ((if0 _ _).trans (flt hc191_86).2.2.1) ?_
        show Steps p.tables e below (T83.setTop (mkF m 194 #[.val (.int p0_0), .val (.int p0_1), .val (.int p0_2), .val (.int p0_3), .val (.int (j0_11_s0 p0_0 p0_1 p0_3)), .val (.int (j0_36_5 p0_0 p0_1 p0_2 p0_3)), .val (.int (v0_51 p0_0 p0_1 p0_2 p0_3)), .val (.int (v0_75 p0_0 p0_1 p0_2 p0_3)), .val (.int (j0_87_s0 p0_0 p0_1 p0_2 p0_3)), .val (.ref b40), .val (.int (1 : Int32))] [(.int (c0_184 p0_0 p0_1 p0_2 p0_3))])) _
        refine XS.iload X83.here hx rfl (hb hby at_194) rfl ?_
        show Steps p.tables e below (T83.setTop (mkF m 196 #[.val (.int p0_0), .val (.int p0_1), .val (.int p0_2), .val (.int p0_3), .val (.int (j0_11_s0 p0_0 p0_1 p0_3)), .val (.int (j0_36_5 p0_0 p0_1 p0_2 p0_3)), .val (.int (v0_51 p0_0 p0_1 p0_2 p0_3)), .val (.int (v0_75 p0_0 p0_1 p0_2 p0_3)), .val (.int (j0_87_s0 p0_0 p0_1 p0_2 p0_3)), .val (.ref b40), .val (.int (1 : Int32))] [(.int (j0_87_s0 p0_0 p0_1 p0_2 p0_3)), (.int (c0_184 p0_0 p0_1 p0_2 p0_3))])) _
        exact k)
      by_cases hc196_89 : (j0_87_s0 p0_0 p0_1 p0_2 p0_3) = (0 : Int32)
      · have pre90 : ∀ t, Steps p.tables e below (T83.setTop (mkF m 204 #[.val (.int p0_0), .val (.int p0_1), .val (.int p0_2), .val (.int p0_3), .val (.int (j0_11_s0 p0_0 p0_1 p0_3)), .val (.int (j0_36_5 p0_0 p0_1 p0_2 p0_3)), .val (.int (v0_51 p0_0 p0_1 p0_2 p0_3)), .val (.int (v0_75 p0_0 p0_1 p0_2 p0_3)), .val (.int (j0_87_s0 p0_0 p0_1 p0_2 p0_3)), .val (.ref b40), .val (.int (1 : Int32))] [(.int (0 : Int32)), (.int (c0_184 p0_0 p0_1 p0_2 p0_3))])) t → Steps p.tables e below (T83.setTop (mkF m 191 #[.val (.int p0_0), .val (.int p0_1), .val (.int p0_2), .val (.int p0_3), .val (.int (j0_11_s0 p0_0 p0_1 p0_3)), .val (.int (j0_36_5 p0_0 p0_1 p0_2 p0_3)), .val (.int (v0_51 p0_0 p0_1 p0_2 p0_3)), .val (.int (v0_75 p0_0 p0_1 p0_2 p0_3)), .val (.int (j0_87_s0 p0_0 p0_1 p0_2 p0_3)), .val (.ref b40), .val (.int (1 : Int32))] [(.int ((v0_75 p0_0 p0_1 p0_2 p0_3) - (1 : Int32))), (.int (c0_184 p0_0 p0_1 p0_2 p0_3))])) t := fun t k => pre88 t (by
          refine XS.ifYes X83.here hx rfl (pc0 := 196) (pc' := 203) rfl (hb hby at_196) rfl ((if0 _ _).trans (teq hc196_89).1) (by decide) (by decide) ?_
          show Steps p.tables e below (T83.setTop (mkF m 203 #[.val (.int p0_0), .val (.int p0_1), .val (.int p0_2), .val (.int p0_3), .val (.int (j0_11_s0 p0_0 p0_1 p0_3)), .val (.int (j0_36_5 p0_0 p0_1 p0_2 p0_3)), .val (.int (v0_51 p0_0 p0_1 p0_2 p0_3)), .val (.int (v0_75 p0_0 p0_1 p0_2 p0_3)), .val (.int (j0_87_s0 p0_0 p0_1 p0_2 p0_3)), .val (.ref b40), .val (.int (1 : Int32))] [(.int (c0_184 p0_0 p0_1 p0_2 p0_3))])) _
          refine XS.iconst X83.here hx rfl (hb hby at_203) ?_
          show Steps p.tables e below (T83.setTop (mkF m 204 #[.val (.int p0_0), .val (.int p0_1), .val (.int p0_2), .val (.int p0_3), .val (.int (j0_11_s0 p0_0 p0_1 p0_3)), .val (.int (j0_36_5 p0_0 p0_1 p0_2 p0_3)), .val (.int (v0_51 p0_0 p0_1 p0_2 p0_3)), .val (.int (v0_75 p0_0 p0_1 p0_2 p0_3)), .val (.int (j0_87_s0 p0_0 p0_1 p0_2 p0_3)), .val (.ref b40), .val (.int (1 : Int32))] [(.int (0 : Int32)), (.int (c0_184 p0_0 p0_1 p0_2 p0_3))])) _
          exact k)
        have hj93 : (j0_204_s0 p0_0 p0_1 p0_2 p0_3) = (0 : Int32) := by unfold j0_204_s0; rw [if_neg hc191_86, if_pos hc196_89]
        exact ⟨T83, _, X83, e83, N83, fun t k => pre90 t (by rw [hj93] at k; exact k)⟩
      · have pre91 : ∀ t, Steps p.tables e below (T83.setTop (mkF m 204 #[.val (.int p0_0), .val (.int p0_1), .val (.int p0_2), .val (.int p0_3), .val (.int (j0_11_s0 p0_0 p0_1 p0_3)), .val (.int (j0_36_5 p0_0 p0_1 p0_2 p0_3)), .val (.int (v0_51 p0_0 p0_1 p0_2 p0_3)), .val (.int (v0_75 p0_0 p0_1 p0_2 p0_3)), .val (.int (j0_87_s0 p0_0 p0_1 p0_2 p0_3)), .val (.ref b40), .val (.int (1 : Int32))] [(.int (1 : Int32)), (.int (c0_184 p0_0 p0_1 p0_2 p0_3))])) t → Steps p.tables e below (T83.setTop (mkF m 191 #[.val (.int p0_0), .val (.int p0_1), .val (.int p0_2), .val (.int p0_3), .val (.int (j0_11_s0 p0_0 p0_1 p0_3)), .val (.int (j0_36_5 p0_0 p0_1 p0_2 p0_3)), .val (.int (v0_51 p0_0 p0_1 p0_2 p0_3)), .val (.int (v0_75 p0_0 p0_1 p0_2 p0_3)), .val (.int (j0_87_s0 p0_0 p0_1 p0_2 p0_3)), .val (.ref b40), .val (.int (1 : Int32))] [(.int ((v0_75 p0_0 p0_1 p0_2 p0_3) - (1 : Int32))), (.int (c0_184 p0_0 p0_1 p0_2 p0_3))])) t := fun t k => pre88 t (by
          refine XS.ifNo X83.here hx rfl (hb hby at_196) rfl ((if0 _ _).trans (feq hc196_89).1) ?_
          show Steps p.tables e below (T83.setTop (mkF m 199 #[.val (.int p0_0), .val (.int p0_1), .val (.int p0_2), .val (.int p0_3), .val (.int (j0_11_s0 p0_0 p0_1 p0_3)), .val (.int (j0_36_5 p0_0 p0_1 p0_2 p0_3)), .val (.int (v0_51 p0_0 p0_1 p0_2 p0_3)), .val (.int (v0_75 p0_0 p0_1 p0_2 p0_3)), .val (.int (j0_87_s0 p0_0 p0_1 p0_2 p0_3)), .val (.ref b40), .val (.int (1 : Int32))] [(.int (c0_184 p0_0 p0_1 p0_2 p0_3))])) _
          refine XS.iconst X83.here hx rfl (hb hby at_199) ?_
          show Steps p.tables e below (T83.setTop (mkF m 200 #[.val (.int p0_0), .val (.int p0_1), .val (.int p0_2), .val (.int p0_3), .val (.int (j0_11_s0 p0_0 p0_1 p0_3)), .val (.int (j0_36_5 p0_0 p0_1 p0_2 p0_3)), .val (.int (v0_51 p0_0 p0_1 p0_2 p0_3)), .val (.int (v0_75 p0_0 p0_1 p0_2 p0_3)), .val (.int (j0_87_s0 p0_0 p0_1 p0_2 p0_3)), .val (.ref b40), .val (.int (1 : Int32))] [(.int (1 : Int32)), (.int (c0_184 p0_0 p0_1 p0_2 p0_3))])) _
          refine XS.goto X83.here hx rfl (pc0 := 200) (pc' := 204) rfl (hb hby at_200) (by decide) (by decide) ?_
          show Steps p.tables e below (T83.setTop (mkF m 204 #[.val (.int p0_0), .val (.int p0_1), .val (.int p0_2), .val (.int p0_3), .val (.int (j0_11_s0 p0_0 p0_1 p0_3)), .val (.int (j0_36_5 p0_0 p0_1 p0_2 p0_3)), .val (.int (v0_51 p0_0 p0_1 p0_2 p0_3)), .val (.int (v0_75 p0_0 p0_1 p0_2 p0_3)), .val (.int (j0_87_s0 p0_0 p0_1 p0_2 p0_3)), .val (.ref b40), .val (.int (1 : Int32))] [(.int (1 : Int32)), (.int (c0_184 p0_0 p0_1 p0_2 p0_3))])) _
          exact k)
        have hj94 : (j0_204_s0 p0_0 p0_1 p0_2 p0_3) = (1 : Int32) := by unfold j0_204_s0; rw [if_neg hc191_86, if_neg hc196_89]
        exact ⟨T83, _, X83, e83, N83, fun t k => pre91 t (by rw [hj94] at k; exact k)⟩
  have pre85 : ∀ t, Steps p.tables e below (T85.setTop (mkF m 204 #[.val (.int p0_0), .val (.int p0_1), .val (.int p0_2), .val (.int p0_3), .val (.int (j0_11_s0 p0_0 p0_1 p0_3)), .val (.int (j0_36_5 p0_0 p0_1 p0_2 p0_3)), .val (.int (v0_51 p0_0 p0_1 p0_2 p0_3)), .val (.int (v0_75 p0_0 p0_1 p0_2 p0_3)), .val (.int (j0_87_s0 p0_0 p0_1 p0_2 p0_3)), .val (.ref b40), .val (.int (1 : Int32))] [(.int (j0_204_s0 p0_0 p0_1 p0_2 p0_3)), (.int (c0_184 p0_0 p0_1 p0_2 p0_3))])) t → Steps p.tables e below (s₁.setTop (entryFrame m #[(.int p0_0), (.int p0_1), (.int p0_2), (.int p0_3)] maxLocals)) t := fun t k => pre84 t (st85 t k)
  have pre96 : ∀ t, Steps p.tables e below (T85.setTop (mkF m 218 #[.val (.int p0_0), .val (.int p0_1), .val (.int p0_2), .val (.int p0_3), .val (.int (j0_11_s0 p0_0 p0_1 p0_3)), .val (.int (j0_36_5 p0_0 p0_1 p0_2 p0_3)), .val (.int (v0_51 p0_0 p0_1 p0_2 p0_3)), .val (.int (v0_75 p0_0 p0_1 p0_2 p0_3)), .val (.int (j0_87_s0 p0_0 p0_1 p0_2 p0_3)), .val (.ref b40), .val (.int (1 : Int32))] [(.int (v0_51 p0_0 p0_1 p0_2 p0_3)), (.ref b40)])) t → Steps p.tables e below (s₁.setTop (entryFrame m #[(.int p0_0), (.int p0_1), (.int p0_2), (.int p0_3)] maxLocals)) t := fun t k => pre85 t (by
    refine XS.icmpNo X85.here hx rfl (hb hby at_204) rfl (teq (show (c0_184 p0_0 p0_1 p0_2 p0_3) = (j0_204_s0 p0_0 p0_1 p0_2 p0_3) from (own_holds1 p0_0 p0_1 p0_2 p0_3))).2 ?_
    show Steps p.tables e below (T85.setTop (mkF m 207 #[.val (.int p0_0), .val (.int p0_1), .val (.int p0_2), .val (.int p0_3), .val (.int (j0_11_s0 p0_0 p0_1 p0_3)), .val (.int (j0_36_5 p0_0 p0_1 p0_2 p0_3)), .val (.int (v0_51 p0_0 p0_1 p0_2 p0_3)), .val (.int (v0_75 p0_0 p0_1 p0_2 p0_3)), .val (.int (j0_87_s0 p0_0 p0_1 p0_2 p0_3)), .val (.ref b40), .val (.int (1 : Int32))] [])) _
    refine XS.iconst X85.here hx rfl (hb hby at_207) ?_
    show Steps p.tables e below (T85.setTop (mkF m 208 #[.val (.int p0_0), .val (.int p0_1), .val (.int p0_2), .val (.int p0_3), .val (.int (j0_11_s0 p0_0 p0_1 p0_3)), .val (.int (j0_36_5 p0_0 p0_1 p0_2 p0_3)), .val (.int (v0_51 p0_0 p0_1 p0_2 p0_3)), .val (.int (v0_75 p0_0 p0_1 p0_2 p0_3)), .val (.int (j0_87_s0 p0_0 p0_1 p0_2 p0_3)), .val (.ref b40), .val (.int (1 : Int32))] [(.int (1 : Int32))])) _
    refine XS.goto X85.here hx rfl (pc0 := 208) (pc' := 212) rfl (hb hby at_208) (by decide) (by decide) ?_
    show Steps p.tables e below (T85.setTop (mkF m 212 #[.val (.int p0_0), .val (.int p0_1), .val (.int p0_2), .val (.int p0_3), .val (.int (j0_11_s0 p0_0 p0_1 p0_3)), .val (.int (j0_36_5 p0_0 p0_1 p0_2 p0_3)), .val (.int (v0_51 p0_0 p0_1 p0_2 p0_3)), .val (.int (v0_75 p0_0 p0_1 p0_2 p0_3)), .val (.int (j0_87_s0 p0_0 p0_1 p0_2 p0_3)), .val (.ref b40), .val (.int (1 : Int32))] [(.int (1 : Int32))])) _
    refine XS.istore X85.here hx rfl (hb hby at_212) rfl (l' := #[.val (.int p0_0), .val (.int p0_1), .val (.int p0_2), .val (.int p0_3), .val (.int (j0_11_s0 p0_0 p0_1 p0_3)), .val (.int (j0_36_5 p0_0 p0_1 p0_2 p0_3)), .val (.int (v0_51 p0_0 p0_1 p0_2 p0_3)), .val (.int (v0_75 p0_0 p0_1 p0_2 p0_3)), .val (.int (j0_87_s0 p0_0 p0_1 p0_2 p0_3)), .val (.ref b40), .val (.int (1 : Int32))]) rfl ?_
    show Steps p.tables e below (T85.setTop (mkF m 214 #[.val (.int p0_0), .val (.int p0_1), .val (.int p0_2), .val (.int p0_3), .val (.int (j0_11_s0 p0_0 p0_1 p0_3)), .val (.int (j0_36_5 p0_0 p0_1 p0_2 p0_3)), .val (.int (v0_51 p0_0 p0_1 p0_2 p0_3)), .val (.int (v0_75 p0_0 p0_1 p0_2 p0_3)), .val (.int (j0_87_s0 p0_0 p0_1 p0_2 p0_3)), .val (.ref b40), .val (.int (1 : Int32))] [])) _
    refine XS.aload X85.here hx rfl (hb hby at_214) rfl rfl ?_
    show Steps p.tables e below (T85.setTop (mkF m 216 #[.val (.int p0_0), .val (.int p0_1), .val (.int p0_2), .val (.int p0_3), .val (.int (j0_11_s0 p0_0 p0_1 p0_3)), .val (.int (j0_36_5 p0_0 p0_1 p0_2 p0_3)), .val (.int (v0_51 p0_0 p0_1 p0_2 p0_3)), .val (.int (v0_75 p0_0 p0_1 p0_2 p0_3)), .val (.int (j0_87_s0 p0_0 p0_1 p0_2 p0_3)), .val (.ref b40), .val (.int (1 : Int32))] [(.ref b40)])) _
    refine XS.iload X85.here hx rfl (hb hby at_216) rfl ?_
    show Steps p.tables e below (T85.setTop (mkF m 218 #[.val (.int p0_0), .val (.int p0_1), .val (.int p0_2), .val (.int p0_3), .val (.int (j0_11_s0 p0_0 p0_1 p0_3)), .val (.int (j0_36_5 p0_0 p0_1 p0_2 p0_3)), .val (.int (v0_51 p0_0 p0_1 p0_2 p0_3)), .val (.int (v0_75 p0_0 p0_1 p0_2 p0_3)), .val (.int (j0_87_s0 p0_0 p0_1 p0_2 p0_3)), .val (.ref b40), .val (.int (1 : Int32))] [(.int (v0_51 p0_0 p0_1 p0_2 p0_3)), (.ref b40)])) _
    exact k)
  obtain ⟨cq97, kq97, qa97, qb97, qc97⟩ := isOf hZ e85 Ex79
  obtain ⟨_, _, ⟨T97, L97, k97, n97⟩, -, X97, ⟨Lc97, hQ97, l97, y97, z97⟩, st97⟩ := X85.virtualBack hx (y := (⟨"relayout/Largest", "remove", "(I)V"⟩ : MethodName)) (z := (⟨"relayout/Largest", "remove", "(I)V"⟩ : MethodName)) hown (mvT hZ (hw _ (List.mem_of_getElem? (i := 36) rfl))) (mvT hZ (hw _ (List.mem_of_getElem? (i := 37) rfl))) (notFace_of_selects (args := #[]) (mvT hZ (hw _ (List.mem_of_getElem? (i := 39) rfl)))) (mvT hZ (hw _ (List.mem_of_getElem? (i := 39) rfl))) (mvT hZ (hw _ (List.mem_of_getElem? (i := 38) rfl))) (by decide) (backOf (W := 0) (rm8 l Z a0 hw [] b40 (v0_51 p0_0 p0_1 p0_2 p0_3) (w0_115_size p0_0 p0_1 p0_2 p0_3) (w0_174_count p0_0 p0_1 p0_2 p0_3) T78.heap n0 Z78 Ex79 F80 F81 g_b40) hZ (hw _ (List.mem_of_getElem? (i := 40) rfl)) (hw _ (List.mem_of_getElem? (i := 10) rfl)) (by decide) (by decide)) qa97 qc97 (g := (mkF m 218 #[.val (.int p0_0), .val (.int p0_1), .val (.int p0_2), .val (.int p0_3), .val (.int (j0_11_s0 p0_0 p0_1 p0_3)), .val (.int (j0_36_5 p0_0 p0_1 p0_2 p0_3)), .val (.int (v0_51 p0_0 p0_1 p0_2 p0_3)), .val (.int (v0_75 p0_0 p0_1 p0_2 p0_3)), .val (.int (j0_87_s0 p0_0 p0_1 p0_2 p0_3)), .val (.ref b40), .val (.int (1 : Int32))] [(.int (v0_51 p0_0 p0_1 p0_2 p0_3)), (.ref b40)])) rfl (by rw [hml]; rfl) (Steps.refl _) (argsL := [(.int (v0_51 p0_0 p0_1 p0_2 p0_3))]) (rest := []) (lenOf pd_2 rfl) rfl (by show 2 * 0 + _ ≤ _; exact Nat.le_of_eq rfl) (hb hby at_218) (fun _ _ => ⟨rfl, e85, (by decide : 1 + 0 ≤ _), (by decide : 2 + 0 ≤ _)⟩)
  dsimp only [Pt.U, Pt.locs, Pt.cells, Pt.slots] at X97 l97 y97 z97 st97 hQ97
  subst l97 y97 z97
  obtain ⟨rfl, M97, K97c, P97_0, P97_1⟩ := hQ97
  have N97 := Fr.app N85 M97
  have K97 : Keep T78.heap T97.heap [b40] := K97c
  have Z97 : n0 ≤ T97.heap.size := Nat.le_trans Z78 K97.1
  have Ex98 : Exa Z T97.heap b40 "relayout/Largest" := Ex79.keep K97
  have F99 : Fld Z T97.heap b40 "relayout/Largest" "size" "I" (.int (w0_115_size p0_0 p0_1 p0_2 p0_3)) := P97_0
  have F100 : Fld Z T97.heap b40 "relayout/Largest" "count" "I" (.int (w0_218_count p0_0 p0_1 p0_2 p0_3)) := P97_1
  have pre97 : ∀ t, Steps p.tables e below (T97.setTop (mkF m 221 #[.val (.int p0_0), .val (.int p0_1), .val (.int p0_2), .val (.int p0_3), .val (.int (j0_11_s0 p0_0 p0_1 p0_3)), .val (.int (j0_36_5 p0_0 p0_1 p0_2 p0_3)), .val (.int (v0_51 p0_0 p0_1 p0_2 p0_3)), .val (.int (v0_75 p0_0 p0_1 p0_2 p0_3)), .val (.int (j0_87_s0 p0_0 p0_1 p0_2 p0_3)), .val (.ref b40), .val (.int (1 : Int32))] [])) t → Steps p.tables e below (s₁.setTop (entryFrame m #[(.int p0_0), (.int p0_1), (.int p0_2), (.int p0_3)] maxLocals)) t := fun t k => pre96 t (st97.trans k)
  have pre101 : ∀ t, Steps p.tables e below (T97.setTop (mkF m 228 #[.val (.int p0_0), .val (.int p0_1), .val (.int p0_2), .val (.int p0_3), .val (.int (j0_11_s0 p0_0 p0_1 p0_3)), .val (.int (j0_36_5 p0_0 p0_1 p0_2 p0_3)), .val (.int (v0_51 p0_0 p0_1 p0_2 p0_3)), .val (.int (v0_75 p0_0 p0_1 p0_2 p0_3)), .val (.int (j0_87_s0 p0_0 p0_1 p0_2 p0_3)), .val (.ref b40), .val (.int (1 : Int32))] [(.ref b40)])) t → Steps p.tables e below (s₁.setTop (entryFrame m #[(.int p0_0), (.int p0_1), (.int p0_2), (.int p0_3)] maxLocals)) t := fun t k => pre97 t (by
    refine XS.iload X97.here hx rfl (hb hby at_221) rfl ?_
    show Steps p.tables e below (T97.setTop (mkF m 223 #[.val (.int p0_0), .val (.int p0_1), .val (.int p0_2), .val (.int p0_3), .val (.int (j0_11_s0 p0_0 p0_1 p0_3)), .val (.int (j0_36_5 p0_0 p0_1 p0_2 p0_3)), .val (.int (v0_51 p0_0 p0_1 p0_2 p0_3)), .val (.int (v0_75 p0_0 p0_1 p0_2 p0_3)), .val (.int (j0_87_s0 p0_0 p0_1 p0_2 p0_3)), .val (.ref b40), .val (.int (1 : Int32))] [(.int (1 : Int32))])) _
    refine XS.ifNo X97.here hx rfl (hb hby at_223) rfl ((if0 _ _).trans (feq (by decide : ¬ ((1 : Int32) = (0 : Int32)))).1) ?_
    show Steps p.tables e below (T97.setTop (mkF m 226 #[.val (.int p0_0), .val (.int p0_1), .val (.int p0_2), .val (.int p0_3), .val (.int (j0_11_s0 p0_0 p0_1 p0_3)), .val (.int (j0_36_5 p0_0 p0_1 p0_2 p0_3)), .val (.int (v0_51 p0_0 p0_1 p0_2 p0_3)), .val (.int (v0_75 p0_0 p0_1 p0_2 p0_3)), .val (.int (j0_87_s0 p0_0 p0_1 p0_2 p0_3)), .val (.ref b40), .val (.int (1 : Int32))] [])) _
    refine XS.aload X97.here hx rfl (hb hby at_226) rfl rfl ?_
    show Steps p.tables e below (T97.setTop (mkF m 228 #[.val (.int p0_0), .val (.int p0_1), .val (.int p0_2), .val (.int p0_3), .val (.int (j0_11_s0 p0_0 p0_1 p0_3)), .val (.int (j0_36_5 p0_0 p0_1 p0_2 p0_3)), .val (.int (v0_51 p0_0 p0_1 p0_2 p0_3)), .val (.int (v0_75 p0_0 p0_1 p0_2 p0_3)), .val (.int (j0_87_s0 p0_0 p0_1 p0_2 p0_3)), .val (.ref b40), .val (.int (1 : Int32))] [(.ref b40)])) _
    exact k)
  obtain ⟨cq102, kq102, qa102, qb102, qc102⟩ := isOf hZ rfl Ex98
  obtain ⟨_, _, ⟨T102, L102, k102, n102⟩, -, X102, ⟨Lc102, hQ102, l102, y102, z102⟩, st102⟩ := X97.virtualBack hx (y := (⟨"relayout/Largest", "holds", "()Z"⟩ : MethodName)) (z := (⟨"relayout/Largest", "holds", "()Z"⟩ : MethodName)) hown (mvT hZ (hw _ (List.mem_of_getElem? (i := 31) rfl))) (mvT hZ (hw _ (List.mem_of_getElem? (i := 32) rfl))) (notFace_of_selects (args := #[]) (mvT hZ (hw _ (List.mem_of_getElem? (i := 34) rfl)))) (mvT hZ (hw _ (List.mem_of_getElem? (i := 34) rfl))) (mvT hZ (hw _ (List.mem_of_getElem? (i := 33) rfl))) (by decide) (backOf (W := 0) (rm7 l Z a0 hw [] b40 (w0_218_count p0_0 p0_1 p0_2 p0_3) (w0_115_size p0_0 p0_1 p0_2 p0_3) T97.heap n0 Z97 F100 F99) hZ (hw _ (List.mem_of_getElem? (i := 35) rfl)) (hw _ (List.mem_of_getElem? (i := 10) rfl)) (by decide) (by decide)) qa102 qc102 (g := (mkF m 228 #[.val (.int p0_0), .val (.int p0_1), .val (.int p0_2), .val (.int p0_3), .val (.int (j0_11_s0 p0_0 p0_1 p0_3)), .val (.int (j0_36_5 p0_0 p0_1 p0_2 p0_3)), .val (.int (v0_51 p0_0 p0_1 p0_2 p0_3)), .val (.int (v0_75 p0_0 p0_1 p0_2 p0_3)), .val (.int (j0_87_s0 p0_0 p0_1 p0_2 p0_3)), .val (.ref b40), .val (.int (1 : Int32))] [(.ref b40)])) rfl (by rw [hml]; rfl) (Steps.refl _) (argsL := []) (rest := []) (lenOf pd_4 rfl) rfl (by show 2 * 0 + _ ≤ _; exact Nat.le_of_eq rfl) (hb hby at_228) (fun _ _ => ⟨rfl, rfl, (by decide : 1 + 0 ≤ _), (by decide : 2 + 0 ≤ _)⟩)
  dsimp only [Pt.U, Pt.locs, Pt.cells, Pt.slots] at X102 l102 y102 z102 st102 hQ102
  subst l102 y102 z102
  obtain ⟨rfl, M102, e102⟩ := hQ102
  have N102 := Fr.app N97 M102
  have pre102 : ∀ t, Steps p.tables e below (T102.setTop (mkF m 231 #[.val (.int p0_0), .val (.int p0_1), .val (.int p0_2), .val (.int p0_3), .val (.int (j0_11_s0 p0_0 p0_1 p0_3)), .val (.int (j0_36_5 p0_0 p0_1 p0_2 p0_3)), .val (.int (v0_51 p0_0 p0_1 p0_2 p0_3)), .val (.int (v0_75 p0_0 p0_1 p0_2 p0_3)), .val (.int (j0_87_s0 p0_0 p0_1 p0_2 p0_3)), .val (.ref b40), .val (.int (1 : Int32))] [(.int (c0_228 p0_0 p0_1 p0_2 p0_3))])) t → Steps p.tables e below (s₁.setTop (entryFrame m #[(.int p0_0), (.int p0_1), (.int p0_2), (.int p0_3)] maxLocals)) t := fun t k => pre101 t (st102.trans k)
  have pre103 : ∀ t, Steps p.tables e below (T102.setTop (mkF m 235 #[.val (.int p0_0), .val (.int p0_1), .val (.int p0_2), .val (.int p0_3), .val (.int (j0_11_s0 p0_0 p0_1 p0_3)), .val (.int (j0_36_5 p0_0 p0_1 p0_2 p0_3)), .val (.int (v0_51 p0_0 p0_1 p0_2 p0_3)), .val (.int (v0_75 p0_0 p0_1 p0_2 p0_3)), .val (.int (j0_87_s0 p0_0 p0_1 p0_2 p0_3)), .val (.ref b40), .val (.int (1 : Int32))] [(.int ((v0_75 p0_0 p0_1 p0_2 p0_3) - (2 : Int32))), (.int (c0_228 p0_0 p0_1 p0_2 p0_3))])) t → Steps p.tables e below (s₁.setTop (entryFrame m #[(.int p0_0), (.int p0_1), (.int p0_2), (.int p0_3)] maxLocals)) t := fun t k => pre102 t (by
    refine XS.iload X102.here hx rfl (hb hby at_231) rfl ?_
    show Steps p.tables e below (T102.setTop (mkF m 233 #[.val (.int p0_0), .val (.int p0_1), .val (.int p0_2), .val (.int p0_3), .val (.int (j0_11_s0 p0_0 p0_1 p0_3)), .val (.int (j0_36_5 p0_0 p0_1 p0_2 p0_3)), .val (.int (v0_51 p0_0 p0_1 p0_2 p0_3)), .val (.int (v0_75 p0_0 p0_1 p0_2 p0_3)), .val (.int (j0_87_s0 p0_0 p0_1 p0_2 p0_3)), .val (.ref b40), .val (.int (1 : Int32))] [(.int (v0_75 p0_0 p0_1 p0_2 p0_3)), (.int (c0_228 p0_0 p0_1 p0_2 p0_3))])) _
    refine XS.iconst X102.here hx rfl (hb hby at_233) ?_
    show Steps p.tables e below (T102.setTop (mkF m 234 #[.val (.int p0_0), .val (.int p0_1), .val (.int p0_2), .val (.int p0_3), .val (.int (j0_11_s0 p0_0 p0_1 p0_3)), .val (.int (j0_36_5 p0_0 p0_1 p0_2 p0_3)), .val (.int (v0_51 p0_0 p0_1 p0_2 p0_3)), .val (.int (v0_75 p0_0 p0_1 p0_2 p0_3)), .val (.int (j0_87_s0 p0_0 p0_1 p0_2 p0_3)), .val (.ref b40), .val (.int (1 : Int32))] [(.int (2 : Int32)), (.int (v0_75 p0_0 p0_1 p0_2 p0_3)), (.int (c0_228 p0_0 p0_1 p0_2 p0_3))])) _
    refine XS.isub X102.here hx rfl (hb hby at_234) rfl ?_
    show Steps p.tables e below (T102.setTop (mkF m 235 #[.val (.int p0_0), .val (.int p0_1), .val (.int p0_2), .val (.int p0_3), .val (.int (j0_11_s0 p0_0 p0_1 p0_3)), .val (.int (j0_36_5 p0_0 p0_1 p0_2 p0_3)), .val (.int (v0_51 p0_0 p0_1 p0_2 p0_3)), .val (.int (v0_75 p0_0 p0_1 p0_2 p0_3)), .val (.int (j0_87_s0 p0_0 p0_1 p0_2 p0_3)), .val (.ref b40), .val (.int (1 : Int32))] [(.int ((v0_75 p0_0 p0_1 p0_2 p0_3) - (2 : Int32))), (.int (c0_228 p0_0 p0_1 p0_2 p0_3))])) _
    exact k)
  obtain ⟨T104, L104, X104, e104, N104, st104⟩ : ∃ (T' : State) (L' : List Loc), Stand p l e room_1 s m #[(.int p0_0), (.int p0_1), (.int p0_2), (.int p0_3)] below meth c T' L' 1 2 ∧ T'.heap = T97.heap ∧ Fr n0 L' ∧ ∀ t, Steps p.tables e below (T'.setTop (mkF m 248 #[.val (.int p0_0), .val (.int p0_1), .val (.int p0_2), .val (.int p0_3), .val (.int (j0_11_s0 p0_0 p0_1 p0_3)), .val (.int (j0_36_5 p0_0 p0_1 p0_2 p0_3)), .val (.int (v0_51 p0_0 p0_1 p0_2 p0_3)), .val (.int (v0_75 p0_0 p0_1 p0_2 p0_3)), .val (.int (j0_87_s0 p0_0 p0_1 p0_2 p0_3)), .val (.ref b40), .val (.int (1 : Int32))] [(.int (j0_248_s0 p0_0 p0_1 p0_2 p0_3)), (.int (c0_228 p0_0 p0_1 p0_2 p0_3))])) t → Steps p.tables e below (T102.setTop (mkF m 235 #[.val (.int p0_0), .val (.int p0_1), .val (.int p0_2), .val (.int p0_3), .val (.int (j0_11_s0 p0_0 p0_1 p0_3)), .val (.int (j0_36_5 p0_0 p0_1 p0_2 p0_3)), .val (.int (v0_51 p0_0 p0_1 p0_2 p0_3)), .val (.int (v0_75 p0_0 p0_1 p0_2 p0_3)), .val (.int (j0_87_s0 p0_0 p0_1 p0_2 p0_3)), .val (.ref b40), .val (.int (1 : Int32))] [(.int ((v0_75 p0_0 p0_1 p0_2 p0_3) - (2 : Int32))), (.int (c0_228 p0_0 p0_1 p0_2 p0_3))])) t := by
    have pre104 : ∀ t, Steps p.tables e below (T102.setTop (mkF m 235 #[.val (.int p0_0), .val (.int p0_1), .val (.int p0_2), .val (.int p0_3), .val (.int (j0_11_s0 p0_0 p0_1 p0_3)), .val (.int (j0_36_5 p0_0 p0_1 p0_2 p0_3)), .val (.int (v0_51 p0_0 p0_1 p0_2 p0_3)), .val (.int (v0_75 p0_0 p0_1 p0_2 p0_3)), .val (.int (j0_87_s0 p0_0 p0_1 p0_2 p0_3)), .val (.ref b40), .val (.int (1 : Int32))] [(.int ((v0_75 p0_0 p0_1 p0_2 p0_3) - (2 : Int32))), (.int (c0_228 p0_0 p0_1 p0_2 p0_3))])) t → Steps p.tables e below (T102.setTop (mkF m 235 #[.val (.int p0_0), .val (.int p0_1), .val (.int p0_2), .val (.int p0_3), .val (.int (j0_11_s0 p0_0 p0_1 p0_3)), .val (.int (j0_36_5 p0_0 p0_1 p0_2 p0_3)), .val (.int (v0_51 p0_0 p0_1 p0_2 p0_3)), .val (.int (v0_75 p0_0 p0_1 p0_2 p0_3)), .val (.int (j0_87_s0 p0_0 p0_1 p0_2 p0_3)), .val (.ref b40), .val (.int (1 : Int32))] [(.int ((v0_75 p0_0 p0_1 p0_2 p0_3) - (2 : Int32))), (.int (c0_228 p0_0 p0_1 p0_2 p0_3))])) t := fun t k => k
    by_cases hc235_105 : (0 : Int32) < ((v0_75 p0_0 p0_1 p0_2 p0_3) - (2 : Int32))
    · have pre106 : ∀ t, Steps p.tables e below (T102.setTop (mkF m 248 #[.val (.int p0_0), .val (.int p0_1), .val (.int p0_2), .val (.int p0_3), .val (.int (j0_11_s0 p0_0 p0_1 p0_3)), .val (.int (j0_36_5 p0_0 p0_1 p0_2 p0_3)), .val (.int (v0_51 p0_0 p0_1 p0_2 p0_3)), .val (.int (v0_75 p0_0 p0_1 p0_2 p0_3)), .val (.int (j0_87_s0 p0_0 p0_1 p0_2 p0_3)), .val (.ref b40), .val (.int (1 : Int32))] [(.int (1 : Int32)), (.int (c0_228 p0_0 p0_1 p0_2 p0_3))])) t → Steps p.tables e below (T102.setTop (mkF m 235 #[.val (.int p0_0), .val (.int p0_1), .val (.int p0_2), .val (.int p0_3), .val (.int (j0_11_s0 p0_0 p0_1 p0_3)), .val (.int (j0_36_5 p0_0 p0_1 p0_2 p0_3)), .val (.int (v0_51 p0_0 p0_1 p0_2 p0_3)), .val (.int (v0_75 p0_0 p0_1 p0_2 p0_3)), .val (.int (j0_87_s0 p0_0 p0_1 p0_2 p0_3)), .val (.ref b40), .val (.int (1 : Int32))] [(.int ((v0_75 p0_0 p0_1 p0_2 p0_3) - (2 : Int32))), (.int (c0_228 p0_0 p0_1 p0_2 p0_3))])) t := fun t k => pre104 t (by
        refine XS.ifYes X102.here hx rfl (pc0 := 235) (pc' := 243) rfl (hb hby at_235) rfl ((if0 _ _).trans (tlt hc235_105).2.2.1) (by decide) (by decide) ?_
        show Steps p.tables e below (T102.setTop (mkF m 243 #[.val (.int p0_0), .val (.int p0_1), .val (.int p0_2), .val (.int p0_3), .val (.int (j0_11_s0 p0_0 p0_1 p0_3)), .val (.int (j0_36_5 p0_0 p0_1 p0_2 p0_3)), .val (.int (v0_51 p0_0 p0_1 p0_2 p0_3)), .val (.int (v0_75 p0_0 p0_1 p0_2 p0_3)), .val (.int (j0_87_s0 p0_0 p0_1 p0_2 p0_3)), .val (.ref b40), .val (.int (1 : Int32))] [(.int (c0_228 p0_0 p0_1 p0_2 p0_3))])) _
        refine XS.iconst X102.here hx rfl (hb hby at_243) ?_
        show Steps p.tables e below (T102.setTop (mkF m 244 #[.val (.int p0_0), .val (.int p0_1), .val (.int p0_2), .val (.int p0_3), .val (.int (j0_11_s0 p0_0 p0_1 p0_3)), .val (.int (j0_36_5 p0_0 p0_1 p0_2 p0_3)), .val (.int (v0_51 p0_0 p0_1 p0_2 p0_3)), .val (.int (v0_75 p0_0 p0_1 p0_2 p0_3)), .val (.int (j0_87_s0 p0_0 p0_1 p0_2 p0_3)), .val (.ref b40), .val (.int (1 : Int32))] [(.int (1 : Int32)), (.int (c0_228 p0_0 p0_1 p0_2 p0_3))])) _
        refine XS.goto X102.here hx rfl (pc0 := 244) (pc' := 248) rfl (hb hby at_244) (by decide) (by decide) ?_
        show Steps p.tables e below (T102.setTop (mkF m 248 #[.val (.int p0_0), .val (.int p0_1), .val (.int p0_2), .val (.int p0_3), .val (.int (j0_11_s0 p0_0 p0_1 p0_3)), .val (.int (j0_36_5 p0_0 p0_1 p0_2 p0_3)), .val (.int (v0_51 p0_0 p0_1 p0_2 p0_3)), .val (.int (v0_75 p0_0 p0_1 p0_2 p0_3)), .val (.int (j0_87_s0 p0_0 p0_1 p0_2 p0_3)), .val (.ref b40), .val (.int (1 : Int32))] [(.int (1 : Int32)), (.int (c0_228 p0_0 p0_1 p0_2 p0_3))])) _
        exact k)
      have hj111 : (j0_248_s0 p0_0 p0_1 p0_2 p0_3) = (1 : Int32) := by unfold j0_248_s0; rw [if_pos hc235_105]
      exact ⟨T102, _, X102, e102, N102, fun t k => pre106 t (by rw [hj111] at k; exact k)⟩
    · have pre107 : ∀ t, Steps p.tables e below (T102.setTop (mkF m 240 #[.val (.int p0_0), .val (.int p0_1), .val (.int p0_2), .val (.int p0_3), .val (.int (j0_11_s0 p0_0 p0_1 p0_3)), .val (.int (j0_36_5 p0_0 p0_1 p0_2 p0_3)), .val (.int (v0_51 p0_0 p0_1 p0_2 p0_3)), .val (.int (v0_75 p0_0 p0_1 p0_2 p0_3)), .val (.int (j0_87_s0 p0_0 p0_1 p0_2 p0_3)), .val (.ref b40), .val (.int (1 : Int32))] [(.int (j0_87_s0 p0_0 p0_1 p0_2 p0_3)), (.int (c0_228 p0_0 p0_1 p0_2 p0_3))])) t → Steps p.tables e below (T102.setTop (mkF m 235 #[.val (.int p0_0), .val (.int p0_1), .val (.int p0_2), .val (.int p0_3), .val (.int (j0_11_s0 p0_0 p0_1 p0_3)), .val (.int (j0_36_5 p0_0 p0_1 p0_2 p0_3)), .val (.int (v0_51 p0_0 p0_1 p0_2 p0_3)), .val (.int (v0_75 p0_0 p0_1 p0_2 p0_3)), .val (.int (j0_87_s0 p0_0 p0_1 p0_2 p0_3)), .val (.ref b40), .val (.int (1 : Int32))] [(.int ((v0_75 p0_0 p0_1 p0_2 p0_3) - (2 : Int32))), (.int (c0_228 p0_0 p0_1 p0_2 p0_3))])) t := fun t k => pre104 t (by
        refine XS.ifNo X102.here hx rfl (hb hby at_235) rfl ((if0 _ _).trans (flt hc235_105).2.2.1) ?_
        show Steps p.tables e below (T102.setTop (mkF m 238 #[.val (.int p0_0), .val (.int p0_1), .val (.int p0_2), .val (.int p0_3), .val (.int (j0_11_s0 p0_0 p0_1 p0_3)), .val (.int (j0_36_5 p0_0 p0_1 p0_2 p0_3)), .val (.int (v0_51 p0_0 p0_1 p0_2 p0_3)), .val (.int (v0_75 p0_0 p0_1 p0_2 p0_3)), .val (.int (j0_87_s0 p0_0 p0_1 p0_2 p0_3)), .val (.ref b40), .val (.int (1 : Int32))] [(.int (c0_228 p0_0 p0_1 p0_2 p0_3))])) _
        refine XS.iload X102.here hx rfl (hb hby at_238) rfl ?_
        show Steps p.tables e below (T102.setTop (mkF m 240 #[.val (.int p0_0), .val (.int p0_1), .val (.int p0_2), .val (.int p0_3), .val (.int (j0_11_s0 p0_0 p0_1 p0_3)), .val (.int (j0_36_5 p0_0 p0_1 p0_2 p0_3)), .val (.int (v0_51 p0_0 p0_1 p0_2 p0_3)), .val (.int (v0_75 p0_0 p0_1 p0_2 p0_3)), .val (.int (j0_87_s0 p0_0 p0_1 p0_2 p0_3)), .val (.ref b40), .val (.int (1 : Int32))] [(.int (j0_87_s0 p0_0 p0_1 p0_2 p0_3)), (.int (c0_228 p0_0 p0_1 p0_2 p0_3))])) _
        exact k)
      by_cases hc240_108 : (j0_87_s0 p0_0 p0_1 p0_2 p0_3) = (0 : Int32)
      · have pre109 : ∀ t, Steps p.tables e below (T102.setTop (mkF m 248 #[.val (.int p0_0), .val (.int p0_1), .val (.int p0_2), .val (.int p0_3), .val (.int (j0_11_s0 p0_0 p0_1 p0_3)), .val (.int (j0_36_5 p0_0 p0_1 p0_2 p0_3)), .val (.int (v0_51 p0_0 p0_1 p0_2 p0_3)), .val (.int (v0_75 p0_0 p0_1 p0_2 p0_3)), .val (.int (j0_87_s0 p0_0 p0_1 p0_2 p0_3)), .val (.ref b40), .val (.int (1 : Int32))] [(.int (0 : Int32)), (.int (c0_228 p0_0 p0_1 p0_2 p0_3))])) t → Steps p.tables e below (T102.setTop (mkF m 235 #[.val (.int p0_0), .val (.int p0_1), .val (.int p0_2), .val (.int p0_3), .val (.int (j0_11_s0 p0_0 p0_1 p0_3)), .val (.int (j0_36_5 p0_0 p0_1 p0_2 p0_3)), .val (.int (v0_51 p0_0 p0_1 p0_2 p0_3)), .val (.int (v0_75 p0_0 p0_1 p0_2 p0_3)), .val (.int (j0_87_s0 p0_0 p0_1 p0_2 p0_3)), .val (.ref b40), .val (.int (1 : Int32))] [(.int ((v0_75 p0_0 p0_1 p0_2 p0_3) - (2 : Int32))), (.int (c0_228 p0_0 p0_1 p0_2 p0_3))])) t := fun t k => pre107 t (by
          refine XS.ifYes X102.here hx rfl (pc0 := 240) (pc' := 247) rfl (hb hby at_240) rfl ((if0 _ _).trans (teq hc240_108).1) (by decide) (by decide) ?_
          show Steps p.tables e below (T102.setTop (mkF m 247 #[.val (.int p0_0), .val (.int p0_1), .val (.int p0_2), .val (.int p0_3), .val (.int (j0_11_s0 p0_0 p0_1 p0_3)), .val (.int (j0_36_5 p0_0 p0_1 p0_2 p0_3)), .val (.int (v0_51 p0_0 p0_1 p0_2 p0_3)), .val (.int (v0_75 p0_0 p0_1 p0_2 p0_3)), .val (.int (j0_87_s0 p0_0 p0_1 p0_2 p0_3)), .val (.ref b40), .val (.int (1 : Int32))] [(.int (c0_228 p0_0 p0_1 p0_2 p0_3))])) _
          refine XS.iconst X102.here hx rfl (hb hby at_247) ?_
          show Steps p.tables e below (T102.setTop (mkF m 248 #[.val (.int p0_0), .val (.int p0_1), .val (.int p0_2), .val (.int p0_3), .val (.int (j0_11_s0 p0_0 p0_1 p0_3)), .val (.int (j0_36_5 p0_0 p0_1 p0_2 p0_3)), .val (.int (v0_51 p0_0 p0_1 p0_2 p0_3)), .val (.int (v0_75 p0_0 p0_1 p0_2 p0_3)), .val (.int (j0_87_s0 p0_0 p0_1 p0_2 p0_3)), .val (.ref b40), .val (.int (1 : Int32))] [(.int (0 : Int32)), (.int (c0_228 p0_0 p0_1 p0_2 p0_3))])) _
          exact k)
        have hj112 : (j0_248_s0 p0_0 p0_1 p0_2 p0_3) = (0 : Int32) := by unfold j0_248_s0; rw [if_neg hc235_105, if_pos hc240_108]
        exact ⟨T102, _, X102, e102, N102, fun t k => pre109 t (by rw [hj112] at k; exact k)⟩
      · have pre110 : ∀ t, Steps p.tables e below (T102.setTop (mkF m 248 #[.val (.int p0_0), .val (.int p0_1), .val (.int p0_2), .val (.int p0_3), .val (.int (j0_11_s0 p0_0 p0_1 p0_3)), .val (.int (j0_36_5 p0_0 p0_1 p0_2 p0_3)), .val (.int (v0_51 p0_0 p0_1 p0_2 p0_3)), .val (.int (v0_75 p0_0 p0_1 p0_2 p0_3)), .val (.int (j0_87_s0 p0_0 p0_1 p0_2 p0_3)), .val (.ref b40), .val (.int (1 : Int32))] [(.int (1 : Int32)), (.int (c0_228 p0_0 p0_1 p0_2 p0_3))])) t → Steps p.tables e below (T102.setTop (mkF m 235 #[.val (.int p0_0), .val (.int p0_1), .val (.int p0_2), .val (.int p0_3), .val (.int (j0_11_s0 p0_0 p0_1 p0_3)), .val (.int (j0_36_5 p0_0 p0_1 p0_2 p0_3)), .val (.int (v0_51 p0_0 p0_1 p0_2 p0_3)), .val (.int (v0_75 p0_0 p0_1 p0_2 p0_3)), .val (.int (j0_87_s0 p0_0 p0_1 p0_2 p0_3)), .val (.ref b40), .val (.int (1 : Int32))] [(.int ((v0_75 p0_0 p0_1 p0_2 p0_3) - (2 : Int32))), (.int (c0_228 p0_0 p0_1 p0_2 p0_3))])) t := fun t k => pre107 t (by
          refine XS.ifNo X102.here hx rfl (hb hby at_240) rfl ((if0 _ _).trans (feq hc240_108).1) ?_
          show Steps p.tables e below (T102.setTop (mkF m 243 #[.val (.int p0_0), .val (.int p0_1), .val (.int p0_2), .val (.int p0_3), .val (.int (j0_11_s0 p0_0 p0_1 p0_3)), .val (.int (j0_36_5 p0_0 p0_1 p0_2 p0_3)), .val (.int (v0_51 p0_0 p0_1 p0_2 p0_3)), .val (.int (v0_75 p0_0 p0_1 p0_2 p0_3)), .val (.int (j0_87_s0 p0_0 p0_1 p0_2 p0_3)), .val (.ref b40), .val (.int (1 : Int32))] [(.int (c0_228 p0_0 p0_1 p0_2 p0_3))])) _
          refine XS.iconst X102.here hx rfl (hb hby at_243) ?_
          show Steps p.tables e below (T102.setTop (mkF m 244 #[.val (.int p0_0), .val (.int p0_1), .val (.int p0_2), .val (.int p0_3), .val (.int (j0_11_s0 p0_0 p0_1 p0_3)), .val (.int (j0_36_5 p0_0 p0_1 p0_2 p0_3)), .val (.int (v0_51 p0_0 p0_1 p0_2 p0_3)), .val (.int (v0_75 p0_0 p0_1 p0_2 p0_3)), .val (.int (j0_87_s0 p0_0 p0_1 p0_2 p0_3)), .val (.ref b40), .val (.int (1 : Int32))] [(.int (1 : Int32)), (.int (c0_228 p0_0 p0_1 p0_2 p0_3))])) _
          refine XS.goto X102.here hx rfl (pc0 := 244) (pc' := 248) rfl (hb hby at_244) (by decide) (by decide) ?_
          show Steps p.tables e below (T102.setTop (mkF m 248 #[.val (.int p0_0), .val (.int p0_1), .val (.int p0_2), .val (.int p0_3), .val (.int (j0_11_s0 p0_0 p0_1 p0_3)), .val (.int (j0_36_5 p0_0 p0_1 p0_2 p0_3)), .val (.int (v0_51 p0_0 p0_1 p0_2 p0_3)), .val (.int (v0_75 p0_0 p0_1 p0_2 p0_3)), .val (.int (j0_87_s0 p0_0 p0_1 p0_2 p0_3)), .val (.ref b40), .val (.int (1 : Int32))] [(.int (1 : Int32)), (.int (c0_228 p0_0 p0_1 p0_2 p0_3))])) _
          exact k)
        have hj113 : (j0_248_s0 p0_0 p0_1 p0_2 p0_3) = (1 : Int32) := by unfold j0_248_s0; rw [if_neg hc235_105, if_neg hc240_108]
        exact ⟨T102, _, X102, e102, N102, fun t k => pre110 t (by rw [hj113] at k; exact k)⟩
  have pre104 : ∀ t, Steps p.tables e below (T104.setTop (mkF m 248 #[.val (.int p0_0), .val (.int p0_1), .val (.int p0_2), .val (.int p0_3), .val (.int (j0_11_s0 p0_0 p0_1 p0_3)), .val (.int (j0_36_5 p0_0 p0_1 p0_2 p0_3)), .val (.int (v0_51 p0_0 p0_1 p0_2 p0_3)), .val (.int (v0_75 p0_0 p0_1 p0_2 p0_3)), .val (.int (j0_87_s0 p0_0 p0_1 p0_2 p0_3)), .val (.ref b40), .val (.int (1 : Int32))] [(.int (j0_248_s0 p0_0 p0_1 p0_2 p0_3)), (.int (c0_228 p0_0 p0_1 p0_2 p0_3))])) t → Steps p.tables e below (s₁.setTop (entryFrame m #[(.int p0_0), (.int p0_1), (.int p0_2), (.int p0_3)] maxLocals)) t := fun t k => pre103 t (st104 t k)
  have pre115 : ∀ t, Steps p.tables e below (T104.setTop (mkF m 262 #[.val (.int p0_0), .val (.int p0_1), .val (.int p0_2), .val (.int p0_3), .val (.int (j0_11_s0 p0_0 p0_1 p0_3)), .val (.int (j0_36_5 p0_0 p0_1 p0_2 p0_3)), .val (.int (v0_51 p0_0 p0_1 p0_2 p0_3)), .val (.int (v0_75 p0_0 p0_1 p0_2 p0_3)), .val (.int (j0_87_s0 p0_0 p0_1 p0_2 p0_3)), .val (.ref b40), .val (.int (1 : Int32))] [(.int (v0_51 p0_0 p0_1 p0_2 p0_3)), (.ref b40)])) t → Steps p.tables e below (s₁.setTop (entryFrame m #[(.int p0_0), (.int p0_1), (.int p0_2), (.int p0_3)] maxLocals)) t := fun t k => pre104 t (by
    refine XS.icmpNo X104.here hx rfl (hb hby at_248) rfl (teq (show (c0_228 p0_0 p0_1 p0_2 p0_3) = (j0_248_s0 p0_0 p0_1 p0_2 p0_3) from (own_holds2 p0_0 p0_1 p0_2 p0_3))).2 ?_
    show Steps p.tables e below (T104.setTop (mkF m 251 #[.val (.int p0_0), .val (.int p0_1), .val (.int p0_2), .val (.int p0_3), .val (.int (j0_11_s0 p0_0 p0_1 p0_3)), .val (.int (j0_36_5 p0_0 p0_1 p0_2 p0_3)), .val (.int (v0_51 p0_0 p0_1 p0_2 p0_3)), .val (.int (v0_75 p0_0 p0_1 p0_2 p0_3)), .val (.int (j0_87_s0 p0_0 p0_1 p0_2 p0_3)), .val (.ref b40), .val (.int (1 : Int32))] [])) _
    refine XS.iconst X104.here hx rfl (hb hby at_251) ?_
    show Steps p.tables e below (T104.setTop (mkF m 252 #[.val (.int p0_0), .val (.int p0_1), .val (.int p0_2), .val (.int p0_3), .val (.int (j0_11_s0 p0_0 p0_1 p0_3)), .val (.int (j0_36_5 p0_0 p0_1 p0_2 p0_3)), .val (.int (v0_51 p0_0 p0_1 p0_2 p0_3)), .val (.int (v0_75 p0_0 p0_1 p0_2 p0_3)), .val (.int (j0_87_s0 p0_0 p0_1 p0_2 p0_3)), .val (.ref b40), .val (.int (1 : Int32))] [(.int (1 : Int32))])) _
    refine XS.goto X104.here hx rfl (pc0 := 252) (pc' := 256) rfl (hb hby at_252) (by decide) (by decide) ?_
    show Steps p.tables e below (T104.setTop (mkF m 256 #[.val (.int p0_0), .val (.int p0_1), .val (.int p0_2), .val (.int p0_3), .val (.int (j0_11_s0 p0_0 p0_1 p0_3)), .val (.int (j0_36_5 p0_0 p0_1 p0_2 p0_3)), .val (.int (v0_51 p0_0 p0_1 p0_2 p0_3)), .val (.int (v0_75 p0_0 p0_1 p0_2 p0_3)), .val (.int (j0_87_s0 p0_0 p0_1 p0_2 p0_3)), .val (.ref b40), .val (.int (1 : Int32))] [(.int (1 : Int32))])) _
    refine XS.istore X104.here hx rfl (hb hby at_256) rfl (l' := #[.val (.int p0_0), .val (.int p0_1), .val (.int p0_2), .val (.int p0_3), .val (.int (j0_11_s0 p0_0 p0_1 p0_3)), .val (.int (j0_36_5 p0_0 p0_1 p0_2 p0_3)), .val (.int (v0_51 p0_0 p0_1 p0_2 p0_3)), .val (.int (v0_75 p0_0 p0_1 p0_2 p0_3)), .val (.int (j0_87_s0 p0_0 p0_1 p0_2 p0_3)), .val (.ref b40), .val (.int (1 : Int32))]) rfl ?_
    show Steps p.tables e below (T104.setTop (mkF m 258 #[.val (.int p0_0), .val (.int p0_1), .val (.int p0_2), .val (.int p0_3), .val (.int (j0_11_s0 p0_0 p0_1 p0_3)), .val (.int (j0_36_5 p0_0 p0_1 p0_2 p0_3)), .val (.int (v0_51 p0_0 p0_1 p0_2 p0_3)), .val (.int (v0_75 p0_0 p0_1 p0_2 p0_3)), .val (.int (j0_87_s0 p0_0 p0_1 p0_2 p0_3)), .val (.ref b40), .val (.int (1 : Int32))] [])) _
    refine XS.aload X104.here hx rfl (hb hby at_258) rfl rfl ?_
    show Steps p.tables e below (T104.setTop (mkF m 260 #[.val (.int p0_0), .val (.int p0_1), .val (.int p0_2), .val (.int p0_3), .val (.int (j0_11_s0 p0_0 p0_1 p0_3)), .val (.int (j0_36_5 p0_0 p0_1 p0_2 p0_3)), .val (.int (v0_51 p0_0 p0_1 p0_2 p0_3)), .val (.int (v0_75 p0_0 p0_1 p0_2 p0_3)), .val (.int (j0_87_s0 p0_0 p0_1 p0_2 p0_3)), .val (.ref b40), .val (.int (1 : Int32))] [(.ref b40)])) _
    refine XS.iload X104.here hx rfl (hb hby at_260) rfl ?_
    show Steps p.tables e below (T104.setTop (mkF m 262 #[.val (.int p0_0), .val (.int p0_1), .val (.int p0_2), .val (.int p0_3), .val (.int (j0_11_s0 p0_0 p0_1 p0_3)), .val (.int (j0_36_5 p0_0 p0_1 p0_2 p0_3)), .val (.int (v0_51 p0_0 p0_1 p0_2 p0_3)), .val (.int (v0_75 p0_0 p0_1 p0_2 p0_3)), .val (.int (j0_87_s0 p0_0 p0_1 p0_2 p0_3)), .val (.ref b40), .val (.int (1 : Int32))] [(.int (v0_51 p0_0 p0_1 p0_2 p0_3)), (.ref b40)])) _
    exact k)
  obtain ⟨cq116, kq116, qa116, qb116, qc116⟩ := isOf hZ e104 Ex98
  obtain ⟨_, _, ⟨T116, L116, k116, n116⟩, -, X116, ⟨Lc116, hQ116, l116, y116, z116⟩, st116⟩ := X104.virtualBack hx (y := (⟨"relayout/Largest", "remove", "(I)V"⟩ : MethodName)) (z := (⟨"relayout/Largest", "remove", "(I)V"⟩ : MethodName)) hown (mvT hZ (hw _ (List.mem_of_getElem? (i := 36) rfl))) (mvT hZ (hw _ (List.mem_of_getElem? (i := 37) rfl))) (notFace_of_selects (args := #[]) (mvT hZ (hw _ (List.mem_of_getElem? (i := 39) rfl)))) (mvT hZ (hw _ (List.mem_of_getElem? (i := 39) rfl))) (mvT hZ (hw _ (List.mem_of_getElem? (i := 38) rfl))) (by decide) (backOf (W := 0) (rm8 l Z a0 hw [] b40 (v0_51 p0_0 p0_1 p0_2 p0_3) (w0_115_size p0_0 p0_1 p0_2 p0_3) (w0_218_count p0_0 p0_1 p0_2 p0_3) T97.heap n0 Z97 Ex98 F99 F100 g_b40) hZ (hw _ (List.mem_of_getElem? (i := 40) rfl)) (hw _ (List.mem_of_getElem? (i := 10) rfl)) (by decide) (by decide)) qa116 qc116 (g := (mkF m 262 #[.val (.int p0_0), .val (.int p0_1), .val (.int p0_2), .val (.int p0_3), .val (.int (j0_11_s0 p0_0 p0_1 p0_3)), .val (.int (j0_36_5 p0_0 p0_1 p0_2 p0_3)), .val (.int (v0_51 p0_0 p0_1 p0_2 p0_3)), .val (.int (v0_75 p0_0 p0_1 p0_2 p0_3)), .val (.int (j0_87_s0 p0_0 p0_1 p0_2 p0_3)), .val (.ref b40), .val (.int (1 : Int32))] [(.int (v0_51 p0_0 p0_1 p0_2 p0_3)), (.ref b40)])) rfl (by rw [hml]; rfl) (Steps.refl _) (argsL := [(.int (v0_51 p0_0 p0_1 p0_2 p0_3))]) (rest := []) (lenOf pd_2 rfl) rfl (by show 2 * 0 + _ ≤ _; exact Nat.le_of_eq rfl) (hb hby at_262) (fun _ _ => ⟨rfl, e104, (by decide : 1 + 0 ≤ _), (by decide : 2 + 0 ≤ _)⟩)
  dsimp only [Pt.U, Pt.locs, Pt.cells, Pt.slots] at X116 l116 y116 z116 st116 hQ116
  subst l116 y116 z116
  obtain ⟨rfl, M116, K116c, P116_0, P116_1⟩ := hQ116
  have N116 := Fr.app N104 M116
  have K116 : Keep T97.heap T116.heap [b40] := K116c
  have Z116 : n0 ≤ T116.heap.size := Nat.le_trans Z97 K116.1
  have Ex117 : Exa Z T116.heap b40 "relayout/Largest" := Ex98.keep K116
  have F118 : Fld Z T116.heap b40 "relayout/Largest" "size" "I" (.int (w0_115_size p0_0 p0_1 p0_2 p0_3)) := P116_0
  have F119 : Fld Z T116.heap b40 "relayout/Largest" "count" "I" (.int (w0_262_count p0_0 p0_1 p0_2 p0_3)) := P116_1
  have pre116 : ∀ t, Steps p.tables e below (T116.setTop (mkF m 265 #[.val (.int p0_0), .val (.int p0_1), .val (.int p0_2), .val (.int p0_3), .val (.int (j0_11_s0 p0_0 p0_1 p0_3)), .val (.int (j0_36_5 p0_0 p0_1 p0_2 p0_3)), .val (.int (v0_51 p0_0 p0_1 p0_2 p0_3)), .val (.int (v0_75 p0_0 p0_1 p0_2 p0_3)), .val (.int (j0_87_s0 p0_0 p0_1 p0_2 p0_3)), .val (.ref b40), .val (.int (1 : Int32))] [])) t → Steps p.tables e below (s₁.setTop (entryFrame m #[(.int p0_0), (.int p0_1), (.int p0_2), (.int p0_3)] maxLocals)) t := fun t k => pre115 t (st116.trans k)
  have pre120 : ∀ t, Steps p.tables e below (T116.setTop (mkF m 272 #[.val (.int p0_0), .val (.int p0_1), .val (.int p0_2), .val (.int p0_3), .val (.int (j0_11_s0 p0_0 p0_1 p0_3)), .val (.int (j0_36_5 p0_0 p0_1 p0_2 p0_3)), .val (.int (v0_51 p0_0 p0_1 p0_2 p0_3)), .val (.int (v0_75 p0_0 p0_1 p0_2 p0_3)), .val (.int (j0_87_s0 p0_0 p0_1 p0_2 p0_3)), .val (.ref b40), .val (.int (1 : Int32))] [(.ref b40)])) t → Steps p.tables e below (s₁.setTop (entryFrame m #[(.int p0_0), (.int p0_1), (.int p0_2), (.int p0_3)] maxLocals)) t := fun t k => pre116 t (by
    refine XS.iload X116.here hx rfl (hb hby at_265) rfl ?_
    show Steps p.tables e below (T116.setTop (mkF m 267 #[.val (.int p0_0), .val (.int p0_1), .val (.int p0_2), .val (.int p0_3), .val (.int (j0_11_s0 p0_0 p0_1 p0_3)), .val (.int (j0_36_5 p0_0 p0_1 p0_2 p0_3)), .val (.int (v0_51 p0_0 p0_1 p0_2 p0_3)), .val (.int (v0_75 p0_0 p0_1 p0_2 p0_3)), .val (.int (j0_87_s0 p0_0 p0_1 p0_2 p0_3)), .val (.ref b40), .val (.int (1 : Int32))] [(.int (1 : Int32))])) _
    refine XS.ifNo X116.here hx rfl (hb hby at_267) rfl ((if0 _ _).trans (feq (by decide : ¬ ((1 : Int32) = (0 : Int32)))).1) ?_
    show Steps p.tables e below (T116.setTop (mkF m 270 #[.val (.int p0_0), .val (.int p0_1), .val (.int p0_2), .val (.int p0_3), .val (.int (j0_11_s0 p0_0 p0_1 p0_3)), .val (.int (j0_36_5 p0_0 p0_1 p0_2 p0_3)), .val (.int (v0_51 p0_0 p0_1 p0_2 p0_3)), .val (.int (v0_75 p0_0 p0_1 p0_2 p0_3)), .val (.int (j0_87_s0 p0_0 p0_1 p0_2 p0_3)), .val (.ref b40), .val (.int (1 : Int32))] [])) _
    refine XS.aload X116.here hx rfl (hb hby at_270) rfl rfl ?_
    show Steps p.tables e below (T116.setTop (mkF m 272 #[.val (.int p0_0), .val (.int p0_1), .val (.int p0_2), .val (.int p0_3), .val (.int (j0_11_s0 p0_0 p0_1 p0_3)), .val (.int (j0_36_5 p0_0 p0_1 p0_2 p0_3)), .val (.int (v0_51 p0_0 p0_1 p0_2 p0_3)), .val (.int (v0_75 p0_0 p0_1 p0_2 p0_3)), .val (.int (j0_87_s0 p0_0 p0_1 p0_2 p0_3)), .val (.ref b40), .val (.int (1 : Int32))] [(.ref b40)])) _
    exact k)
  obtain ⟨cq121, kq121, qa121, qb121, qc121⟩ := isOf hZ rfl Ex117
  obtain ⟨_, _, ⟨T121, L121, k121, n121⟩, -, X121, ⟨Lc121, hQ121, l121, y121, z121⟩, st121⟩ := X116.virtualBack hx (y := (⟨"relayout/Largest", "holds", "()Z"⟩ : MethodName)) (z := (⟨"relayout/Largest", "holds", "()Z"⟩ : MethodName)) hown (mvT hZ (hw _ (List.mem_of_getElem? (i := 31) rfl))) (mvT hZ (hw _ (List.mem_of_getElem? (i := 32) rfl))) (notFace_of_selects (args := #[]) (mvT hZ (hw _ (List.mem_of_getElem? (i := 34) rfl)))) (mvT hZ (hw _ (List.mem_of_getElem? (i := 34) rfl))) (mvT hZ (hw _ (List.mem_of_getElem? (i := 33) rfl))) (by decide) (backOf (W := 0) (rm7 l Z a0 hw [] b40 (w0_262_count p0_0 p0_1 p0_2 p0_3) (w0_115_size p0_0 p0_1 p0_2 p0_3) T116.heap n0 Z116 F119 F118) hZ (hw _ (List.mem_of_getElem? (i := 35) rfl)) (hw _ (List.mem_of_getElem? (i := 10) rfl)) (by decide) (by decide)) qa121 qc121 (g := (mkF m 272 #[.val (.int p0_0), .val (.int p0_1), .val (.int p0_2), .val (.int p0_3), .val (.int (j0_11_s0 p0_0 p0_1 p0_3)), .val (.int (j0_36_5 p0_0 p0_1 p0_2 p0_3)), .val (.int (v0_51 p0_0 p0_1 p0_2 p0_3)), .val (.int (v0_75 p0_0 p0_1 p0_2 p0_3)), .val (.int (j0_87_s0 p0_0 p0_1 p0_2 p0_3)), .val (.ref b40), .val (.int (1 : Int32))] [(.ref b40)])) rfl (by rw [hml]; rfl) (Steps.refl _) (argsL := []) (rest := []) (lenOf pd_4 rfl) rfl (by show 2 * 0 + _ ≤ _; exact Nat.le_of_eq rfl) (hb hby at_272) (fun _ _ => ⟨rfl, rfl, (by decide : 1 + 0 ≤ _), (by decide : 2 + 0 ≤ _)⟩)
  dsimp only [Pt.U, Pt.locs, Pt.cells, Pt.slots] at X121 l121 y121 z121 st121 hQ121
  subst l121 y121 z121
  obtain ⟨rfl, M121, e121⟩ := hQ121
  have N121 := Fr.app N116 M121
  have pre121 : ∀ t, Steps p.tables e below (T121.setTop (mkF m 275 #[.val (.int p0_0), .val (.int p0_1), .val (.int p0_2), .val (.int p0_3), .val (.int (j0_11_s0 p0_0 p0_1 p0_3)), .val (.int (j0_36_5 p0_0 p0_1 p0_2 p0_3)), .val (.int (v0_51 p0_0 p0_1 p0_2 p0_3)), .val (.int (v0_75 p0_0 p0_1 p0_2 p0_3)), .val (.int (j0_87_s0 p0_0 p0_1 p0_2 p0_3)), .val (.ref b40), .val (.int (1 : Int32))] [(.int (c0_272 p0_0 p0_1 p0_2 p0_3))])) t → Steps p.tables e below (s₁.setTop (entryFrame m #[(.int p0_0), (.int p0_1), (.int p0_2), (.int p0_3)] maxLocals)) t := fun t k => pre120 t (st121.trans k)
  have pre122 : ∀ t, Steps p.tables e below (T121.setTop (mkF m 279 #[.val (.int p0_0), .val (.int p0_1), .val (.int p0_2), .val (.int p0_3), .val (.int (j0_11_s0 p0_0 p0_1 p0_3)), .val (.int (j0_36_5 p0_0 p0_1 p0_2 p0_3)), .val (.int (v0_51 p0_0 p0_1 p0_2 p0_3)), .val (.int (v0_75 p0_0 p0_1 p0_2 p0_3)), .val (.int (j0_87_s0 p0_0 p0_1 p0_2 p0_3)), .val (.ref b40), .val (.int (1 : Int32))] [(.int ((v0_75 p0_0 p0_1 p0_2 p0_3) - (3 : Int32))), (.int (c0_272 p0_0 p0_1 p0_2 p0_3))])) t → Steps p.tables e below (s₁.setTop (entryFrame m #[(.int p0_0), (.int p0_1), (.int p0_2), (.int p0_3)] maxLocals)) t := fun t k => pre121 t (by
    refine XS.iload X121.here hx rfl (hb hby at_275) rfl ?_
    show Steps p.tables e below (T121.setTop (mkF m 277 #[.val (.int p0_0), .val (.int p0_1), .val (.int p0_2), .val (.int p0_3), .val (.int (j0_11_s0 p0_0 p0_1 p0_3)), .val (.int (j0_36_5 p0_0 p0_1 p0_2 p0_3)), .val (.int (v0_51 p0_0 p0_1 p0_2 p0_3)), .val (.int (v0_75 p0_0 p0_1 p0_2 p0_3)), .val (.int (j0_87_s0 p0_0 p0_1 p0_2 p0_3)), .val (.ref b40), .val (.int (1 : Int32))] [(.int (v0_75 p0_0 p0_1 p0_2 p0_3)), (.int (c0_272 p0_0 p0_1 p0_2 p0_3))])) _
    refine XS.iconst X121.here hx rfl (hb hby at_277) ?_
    show Steps p.tables e below (T121.setTop (mkF m 278 #[.val (.int p0_0), .val (.int p0_1), .val (.int p0_2), .val (.int p0_3), .val (.int (j0_11_s0 p0_0 p0_1 p0_3)), .val (.int (j0_36_5 p0_0 p0_1 p0_2 p0_3)), .val (.int (v0_51 p0_0 p0_1 p0_2 p0_3)), .val (.int (v0_75 p0_0 p0_1 p0_2 p0_3)), .val (.int (j0_87_s0 p0_0 p0_1 p0_2 p0_3)), .val (.ref b40), .val (.int (1 : Int32))] [(.int (3 : Int32)), (.int (v0_75 p0_0 p0_1 p0_2 p0_3)), (.int (c0_272 p0_0 p0_1 p0_2 p0_3))])) _
    refine XS.isub X121.here hx rfl (hb hby at_278) rfl ?_
    show Steps p.tables e below (T121.setTop (mkF m 279 #[.val (.int p0_0), .val (.int p0_1), .val (.int p0_2), .val (.int p0_3), .val (.int (j0_11_s0 p0_0 p0_1 p0_3)), .val (.int (j0_36_5 p0_0 p0_1 p0_2 p0_3)), .val (.int (v0_51 p0_0 p0_1 p0_2 p0_3)), .val (.int (v0_75 p0_0 p0_1 p0_2 p0_3)), .val (.int (j0_87_s0 p0_0 p0_1 p0_2 p0_3)), .val (.ref b40), .val (.int (1 : Int32))] [(.int ((v0_75 p0_0 p0_1 p0_2 p0_3) - (3 : Int32))), (.int (c0_272 p0_0 p0_1 p0_2 p0_3))])) _
    exact k)
  obtain ⟨T123, L123, X123, e123, N123, st123⟩ : ∃ (T' : State) (L' : List Loc), Stand p l e room_1 s m #[(.int p0_0), (.int p0_1), (.int p0_2), (.int p0_3)] below meth c T' L' 1 2 ∧ T'.heap = T116.heap ∧ Fr n0 L' ∧ ∀ t, Steps p.tables e below (T'.setTop (mkF m 292 #[.val (.int p0_0), .val (.int p0_1), .val (.int p0_2), .val (.int p0_3), .val (.int (j0_11_s0 p0_0 p0_1 p0_3)), .val (.int (j0_36_5 p0_0 p0_1 p0_2 p0_3)), .val (.int (v0_51 p0_0 p0_1 p0_2 p0_3)), .val (.int (v0_75 p0_0 p0_1 p0_2 p0_3)), .val (.int (j0_87_s0 p0_0 p0_1 p0_2 p0_3)), .val (.ref b40), .val (.int (1 : Int32))] [(.int (j0_292_s0 p0_0 p0_1 p0_2 p0_3)), (.int (c0_272 p0_0 p0_1 p0_2 p0_3))])) t → Steps p.tables e below (T121.setTop (mkF m 279 #[.val (.int p0_0), .val (.int p0_1), .val (.int p0_2), .val (.int p0_3), .val (.int (j0_11_s0 p0_0 p0_1 p0_3)), .val (.int (j0_36_5 p0_0 p0_1 p0_2 p0_3)), .val (.int (v0_51 p0_0 p0_1 p0_2 p0_3)), .val (.int (v0_75 p0_0 p0_1 p0_2 p0_3)), .val (.int (j0_87_s0 p0_0 p0_1 p0_2 p0_3)), .val (.ref b40), .val (.int (1 : Int32))] [(.int ((v0_75 p0_0 p0_1 p0_2 p0_3) - (3 : Int32))), (.int (c0_272 p0_0 p0_1 p0_2 p0_3))])) t := by
    have pre123 : ∀ t, Steps p.tables e below (T121.setTop (mkF m 279 #[.val (.int p0_0), .val (.int p0_1), .val (.int p0_2), .val (.int p0_3), .val (.int (j0_11_s0 p0_0 p0_1 p0_3)), .val (.int (j0_36_5 p0_0 p0_1 p0_2 p0_3)), .val (.int (v0_51 p0_0 p0_1 p0_2 p0_3)), .val (.int (v0_75 p0_0 p0_1 p0_2 p0_3)), .val (.int (j0_87_s0 p0_0 p0_1 p0_2 p0_3)), .val (.ref b40), .val (.int (1 : Int32))] [(.int ((v0_75 p0_0 p0_1 p0_2 p0_3) - (3 : Int32))), (.int (c0_272 p0_0 p0_1 p0_2 p0_3))])) t → Steps p.tables e below (T121.setTop (mkF m 279 #[.val (.int p0_0), .val (.int p0_1), .val (.int p0_2), .val (.int p0_3), .val (.int (j0_11_s0 p0_0 p0_1 p0_3)), .val (.int (j0_36_5 p0_0 p0_1 p0_2 p0_3)), .val (.int (v0_51 p0_0 p0_1 p0_2 p0_3)), .val (.int (v0_75 p0_0 p0_1 p0_2 p0_3)), .val (.int (j0_87_s0 p0_0 p0_1 p0_2 p0_3)), .val (.ref b40), .val (.int (1 : Int32))] [(.int ((v0_75 p0_0 p0_1 p0_2 p0_3) - (3 : Int32))), (.int (c0_272 p0_0 p0_1 p0_2 p0_3))])) t := fun t k => k
    by_cases hc279_124 : (0 : Int32) < ((v0_75 p0_0 p0_1 p0_2 p0_3) - (3 : Int32))
    · have pre125 : ∀ t, Steps p.tables e below (T121.setTop (mkF m 292 #[.val (.int p0_0), .val (.int p0_1), .val (.int p0_2), .val (.int p0_3), .val (.int (j0_11_s0 p0_0 p0_1 p0_3)), .val (.int (j0_36_5 p0_0 p0_1 p0_2 p0_3)), .val (.int (v0_51 p0_0 p0_1 p0_2 p0_3)), .val (.int (v0_75 p0_0 p0_1 p0_2 p0_3)), .val (.int (j0_87_s0 p0_0 p0_1 p0_2 p0_3)), .val (.ref b40), .val (.int (1 : Int32))] [(.int (1 : Int32)), (.int (c0_272 p0_0 p0_1 p0_2 p0_3))])) t → Steps p.tables e below (T121.setTop (mkF m 279 #[.val (.int p0_0), .val (.int p0_1), .val (.int p0_2), .val (.int p0_3), .val (.int (j0_11_s0 p0_0 p0_1 p0_3)), .val (.int (j0_36_5 p0_0 p0_1 p0_2 p0_3)), .val (.int (v0_51 p0_0 p0_1 p0_2 p0_3)), .val (.int (v0_75 p0_0 p0_1 p0_2 p0_3)), .val (.int (j0_87_s0 p0_0 p0_1 p0_2 p0_3)), .val (.ref b40), .val (.int (1 : Int32))] [(.int ((v0_75 p0_0 p0_1 p0_2 p0_3) - (3 : Int32))), (.int (c0_272 p0_0 p0_1 p0_2 p0_3))])) t := fun t k => pre123 t (by
        refine XS.ifYes X121.here hx rfl (pc0 := 279) (pc' := 287) rfl (hb hby at_279) rfl ((if0 _ _).trans (tlt hc279_124).2.2.1) (by decide) (by decide) ?_
        show Steps p.tables e below (T121.setTop (mkF m 287 #[.val (.int p0_0), .val (.int p0_1), .val (.int p0_2), .val (.int p0_3), .val (.int (j0_11_s0 p0_0 p0_1 p0_3)), .val (.int (j0_36_5 p0_0 p0_1 p0_2 p0_3)), .val (.int (v0_51 p0_0 p0_1 p0_2 p0_3)), .val (.int (v0_75 p0_0 p0_1 p0_2 p0_3)), .val (.int (j0_87_s0 p0_0 p0_1 p0_2 p0_3)), .val (.ref b40), .val (.int (1 : Int32))] [(.int (c0_272 p0_0 p0_1 p0_2 p0_3))])) _
        refine XS.iconst X121.here hx rfl (hb hby at_287) ?_
        show Steps p.tables e below (T121.setTop (mkF m 288 #[.val (.int p0_0), .val (.int p0_1), .val (.int p0_2), .val (.int p0_3), .val (.int (j0_11_s0 p0_0 p0_1 p0_3)), .val (.int (j0_36_5 p0_0 p0_1 p0_2 p0_3)), .val (.int (v0_51 p0_0 p0_1 p0_2 p0_3)), .val (.int (v0_75 p0_0 p0_1 p0_2 p0_3)), .val (.int (j0_87_s0 p0_0 p0_1 p0_2 p0_3)), .val (.ref b40), .val (.int (1 : Int32))] [(.int (1 : Int32)), (.int (c0_272 p0_0 p0_1 p0_2 p0_3))])) _
        refine XS.goto X121.here hx rfl (pc0 := 288) (pc' := 292) rfl (hb hby at_288) (by decide) (by decide) ?_
        show Steps p.tables e below (T121.setTop (mkF m 292 #[.val (.int p0_0), .val (.int p0_1), .val (.int p0_2), .val (.int p0_3), .val (.int (j0_11_s0 p0_0 p0_1 p0_3)), .val (.int (j0_36_5 p0_0 p0_1 p0_2 p0_3)), .val (.int (v0_51 p0_0 p0_1 p0_2 p0_3)), .val (.int (v0_75 p0_0 p0_1 p0_2 p0_3)), .val (.int (j0_87_s0 p0_0 p0_1 p0_2 p0_3)), .val (.ref b40), .val (.int (1 : Int32))] [(.int (1 : Int32)), (.int (c0_272 p0_0 p0_1 p0_2 p0_3))])) _
        exact k)
      have hj130 : (j0_292_s0 p0_0 p0_1 p0_2 p0_3) = (1 : Int32) := by unfold j0_292_s0; rw [if_pos hc279_124]
      exact ⟨T121, _, X121, e121, N121, fun t k => pre125 t (by rw [hj130] at k; exact k)⟩
    · have pre126 : ∀ t, Steps p.tables e below (T121.setTop (mkF m 284 #[.val (.int p0_0), .val (.int p0_1), .val (.int p0_2), .val (.int p0_3), .val (.int (j0_11_s0 p0_0 p0_1 p0_3)), .val (.int (j0_36_5 p0_0 p0_1 p0_2 p0_3)), .val (.int (v0_51 p0_0 p0_1 p0_2 p0_3)), .val (.int (v0_75 p0_0 p0_1 p0_2 p0_3)), .val (.int (j0_87_s0 p0_0 p0_1 p0_2 p0_3)), .val (.ref b40), .val (.int (1 : Int32))] [(.int (j0_87_s0 p0_0 p0_1 p0_2 p0_3)), (.int (c0_272 p0_0 p0_1 p0_2 p0_3))])) t → Steps p.tables e below (T121.setTop (mkF m 279 #[.val (.int p0_0), .val (.int p0_1), .val (.int p0_2), .val (.int p0_3), .val (.int (j0_11_s0 p0_0 p0_1 p0_3)), .val (.int (j0_36_5 p0_0 p0_1 p0_2 p0_3)), .val (.int (v0_51 p0_0 p0_1 p0_2 p0_3)), .val (.int (v0_75 p0_0 p0_1 p0_2 p0_3)), .val (.int (j0_87_s0 p0_0 p0_1 p0_2 p0_3)), .val (.ref b40), .val (.int (1 : Int32))] [(.int ((v0_75 p0_0 p0_1 p0_2 p0_3) - (3 : Int32))), (.int (c0_272 p0_0 p0_1 p0_2 p0_3))])) t := fun t k => pre123 t (by
        refine XS.ifNo X121.here hx rfl (hb hby at_279) rfl ((if0 _ _).trans (flt hc279_124).2.2.1) ?_
        show Steps p.tables e below (T121.setTop (mkF m 282 #[.val (.int p0_0), .val (.int p0_1), .val (.int p0_2), .val (.int p0_3), .val (.int (j0_11_s0 p0_0 p0_1 p0_3)), .val (.int (j0_36_5 p0_0 p0_1 p0_2 p0_3)), .val (.int (v0_51 p0_0 p0_1 p0_2 p0_3)), .val (.int (v0_75 p0_0 p0_1 p0_2 p0_3)), .val (.int (j0_87_s0 p0_0 p0_1 p0_2 p0_3)), .val (.ref b40), .val (.int (1 : Int32))] [(.int (c0_272 p0_0 p0_1 p0_2 p0_3))])) _
        refine XS.iload X121.here hx rfl (hb hby at_282) rfl ?_
        show Steps p.tables e below (T121.setTop (mkF m 284 #[.val (.int p0_0), .val (.int p0_1), .val (.int p0_2), .val (.int p0_3), .val (.int (j0_11_s0 p0_0 p0_1 p0_3)), .val (.int (j0_36_5 p0_0 p0_1 p0_2 p0_3)), .val (.int (v0_51 p0_0 p0_1 p0_2 p0_3)), .val (.int (v0_75 p0_0 p0_1 p0_2 p0_3)), .val (.int (j0_87_s0 p0_0 p0_1 p0_2 p0_3)), .val (.ref b40), .val (.int (1 : Int32))] [(.int (j0_87_s0 p0_0 p0_1 p0_2 p0_3)), (.int (c0_272 p0_0 p0_1 p0_2 p0_3))])) _
        exact k)
      by_cases hc284_127 : (j0_87_s0 p0_0 p0_1 p0_2 p0_3) = (0 : Int32)
      · have pre128 : ∀ t, Steps p.tables e below (T121.setTop (mkF m 292 #[.val (.int p0_0), .val (.int p0_1), .val (.int p0_2), .val (.int p0_3), .val (.int (j0_11_s0 p0_0 p0_1 p0_3)), .val (.int (j0_36_5 p0_0 p0_1 p0_2 p0_3)), .val (.int (v0_51 p0_0 p0_1 p0_2 p0_3)), .val (.int (v0_75 p0_0 p0_1 p0_2 p0_3)), .val (.int (j0_87_s0 p0_0 p0_1 p0_2 p0_3)), .val (.ref b40), .val (.int (1 : Int32))] [(.int (0 : Int32)), (.int (c0_272 p0_0 p0_1 p0_2 p0_3))])) t → Steps p.tables e below (T121.setTop (mkF m 279 #[.val (.int p0_0), .val (.int p0_1), .val (.int p0_2), .val (.int p0_3), .val (.int (j0_11_s0 p0_0 p0_1 p0_3)), .val (.int (j0_36_5 p0_0 p0_1 p0_2 p0_3)), .val (.int (v0_51 p0_0 p0_1 p0_2 p0_3)), .val (.int (v0_75 p0_0 p0_1 p0_2 p0_3)), .val (.int (j0_87_s0 p0_0 p0_1 p0_2 p0_3)), .val (.ref b40), .val (.int (1 : Int32))] [(.int ((v0_75 p0_0 p0_1 p0_2 p0_3) - (3 : Int32))), (.int (c0_272 p0_0 p0_1 p0_2 p0_3))])) t := fun t k => pre126 t (by
          refine XS.ifYes X121.here hx rfl (pc0 := 284) (pc' := 291) rfl (hb hby at_284) rfl ((if0 _ _).trans (teq hc284_127).1) (by decide) (by decide) ?_
          show Steps p.tables e below (T121.setTop (mkF m 291 #[.val (.int p0_0), .val (.int p0_1), .val (.int p0_2), .val (.int p0_3), .val (.int (j0_11_s0 p0_0 p0_1 p0_3)), .val (.int (j0_36_5 p0_0 p0_1 p0_2 p0_3)), .val (.int (v0_51 p0_0 p0_1 p0_2 p0_3)), .val (.int (v0_75 p0_0 p0_1 p0_2 p0_3)), .val (.int (j0_87_s0 p0_0 p0_1 p0_2 p0_3)), .val (.ref b40), .val (.int (1 : Int32))] [(.int (c0_272 p0_0 p0_1 p0_2 p0_3))])) _
          refine XS.iconst X121.here hx rfl (hb hby at_291) ?_
          show Steps p.tables e below (T121.setTop (mkF m 292 #[.val (.int p0_0), .val (.int p0_1), .val (.int p0_2), .val (.int p0_3), .val (.int (j0_11_s0 p0_0 p0_1 p0_3)), .val (.int (j0_36_5 p0_0 p0_1 p0_2 p0_3)), .val (.int (v0_51 p0_0 p0_1 p0_2 p0_3)), .val (.int (v0_75 p0_0 p0_1 p0_2 p0_3)), .val (.int (j0_87_s0 p0_0 p0_1 p0_2 p0_3)), .val (.ref b40), .val (.int (1 : Int32))] [(.int (0 : Int32)), (.int (c0_272 p0_0 p0_1 p0_2 p0_3))])) _
          exact k)
        have hj131 : (j0_292_s0 p0_0 p0_1 p0_2 p0_3) = (0 : Int32) := by unfold j0_292_s0; rw [if_neg hc279_124, if_pos hc284_127]
        exact ⟨T121, _, X121, e121, N121, fun t k => pre128 t (by rw [hj131] at k; exact k)⟩
      · have pre129 : ∀ t, Steps p.tables e below (T121.setTop (mkF m 292 #[.val (.int p0_0), .val (.int p0_1), .val (.int p0_2), .val (.int p0_3), .val (.int (j0_11_s0 p0_0 p0_1 p0_3)), .val (.int (j0_36_5 p0_0 p0_1 p0_2 p0_3)), .val (.int (v0_51 p0_0 p0_1 p0_2 p0_3)), .val (.int (v0_75 p0_0 p0_1 p0_2 p0_3)), .val (.int (j0_87_s0 p0_0 p0_1 p0_2 p0_3)), .val (.ref b40), .val (.int (1 : Int32))] [(.int (1 : Int32)), (.int (c0_272 p0_0 p0_1 p0_2 p0_3))])) t → Steps p.tables e below (T121.setTop (mkF m 279 #[.val (.int p0_0), .val (.int p0_1), .val (.int p0_2), .val (.int p0_3), .val (.int (j0_11_s0 p0_0 p0_1 p0_3)), .val (.int (j0_36_5 p0_0 p0_1 p0_2 p0_3)), .val (.int (v0_51 p0_0 p0_1 p0_2 p0_3)), .val (.int (v0_75 p0_0 p0_1 p0_2 p0_3)), .val (.int (j0_87_s0 p0_0 p0_1 p0_2 p0_3)), .val (.ref b40), .val (.int (1 : Int32))] [(.int ((v0_75 p0_0 p0_1 p0_2 p0_3) - (3 : Int32))), (.int (c0_272 p0_0 p0_1 p0_2 p0_3))])) t := fun t k => pre126 t (by
          refine XS.ifNo X121.here hx rfl (hb hby at_284) rfl ((if0 _ _).trans (feq hc284_127).1) ?_
          show Steps p.tables e below (T121.setTop (mkF m 287 #[.val (.int p0_0), .val (.int p0_1), .val (.int p0_2), .val (.int p0_3), .val (.int (j0_11_s0 p0_0 p0_1 p0_3)), .val (.int (j0_36_5 p0_0 p0_1 p0_2 p0_3)), .val (.int (v0_51 p0_0 p0_1 p0_2 p0_3)), .val (.int (v0_75 p0_0 p0_1 p0_2 p0_3)), .val (.int (j0_87_s0 p0_0 p0_1 p0_2 p0_3)), .val (.ref b40), .val (.int (1 : Int32))] [(.int (c0_272 p0_0 p0_1 p0_2 p0_3))])) _
          refine XS.iconst X121.here hx rfl (hb hby at_287) ?_
          show Steps p.tables e below (T121.setTop (mkF m 288 #[.val (.int p0_0), .val (.int p0_1), .val (.int p0_2), .val (.int p0_3), .val (.int (j0_11_s0 p0_0 p0_1 p0_3)), .val (.int (j0_36_5 p0_0 p0_1 p0_2 p0_3)), .val (.int (v0_51 p0_0 p0_1 p0_2 p0_3)), .val (.int (v0_75 p0_0 p0_1 p0_2 p0_3)), .val (.int (j0_87_s0 p0_0 p0_1 p0_2 p0_3)), .val (.ref b40), .val (.int (1 : Int32))] [(.int (1 : Int32)), (.int (c0_272 p0_0 p0_1 p0_2 p0_3))])) _
          refine XS.goto X121.here hx rfl (pc0 := 288) (pc' := 292) rfl (hb hby at_288) (by decide) (by decide) ?_
          show Steps p.tables e below (T121.setTop (mkF m 292 #[.val (.int p0_0), .val (.int p0_1), .val (.int p0_2), .val (.int p0_3), .val (.int (j0_11_s0 p0_0 p0_1 p0_3)), .val (.int (j0_36_5 p0_0 p0_1 p0_2 p0_3)), .val (.int (v0_51 p0_0 p0_1 p0_2 p0_3)), .val (.int (v0_75 p0_0 p0_1 p0_2 p0_3)), .val (.int (j0_87_s0 p0_0 p0_1 p0_2 p0_3)), .val (.ref b40), .val (.int (1 : Int32))] [(.int (1 : Int32)), (.int (c0_272 p0_0 p0_1 p0_2 p0_3))])) _
          exact k)
        have hj132 : (j0_292_s0 p0_0 p0_1 p0_2 p0_3) = (1 : Int32) := by unfold j0_292_s0; rw [if_neg hc279_124, if_neg hc284_127]
        exact ⟨T121, _, X121, e121, N121, fun t k => pre129 t (by rw [hj132] at k; exact k)⟩
  have pre123 : ∀ t, Steps p.tables e below (T123.setTop (mkF m 292 #[.val (.int p0_0), .val (.int p0_1), .val (.int p0_2), .val (.int p0_3), .val (.int (j0_11_s0 p0_0 p0_1 p0_3)), .val (.int (j0_36_5 p0_0 p0_1 p0_2 p0_3)), .val (.int (v0_51 p0_0 p0_1 p0_2 p0_3)), .val (.int (v0_75 p0_0 p0_1 p0_2 p0_3)), .val (.int (j0_87_s0 p0_0 p0_1 p0_2 p0_3)), .val (.ref b40), .val (.int (1 : Int32))] [(.int (j0_292_s0 p0_0 p0_1 p0_2 p0_3)), (.int (c0_272 p0_0 p0_1 p0_2 p0_3))])) t → Steps p.tables e below (s₁.setTop (entryFrame m #[(.int p0_0), (.int p0_1), (.int p0_2), (.int p0_3)] maxLocals)) t := fun t k => pre122 t (st123 t k)
  have pre134 : ∀ t, Steps p.tables e below (T123.setTop (mkF m 309 #[.val (.int p0_0), .val (.int p0_1), .val (.int p0_2), .val (.int p0_3), .val (.int (j0_11_s0 p0_0 p0_1 p0_3)), .val (.int (j0_36_5 p0_0 p0_1 p0_2 p0_3)), .val (.int (v0_51 p0_0 p0_1 p0_2 p0_3)), .val (.int (v0_75 p0_0 p0_1 p0_2 p0_3)), .val (.int (j0_87_s0 p0_0 p0_1 p0_2 p0_3)), .val (.ref b40), .val (.int (1 : Int32))] [(.ref b40)])) t → Steps p.tables e below (s₁.setTop (entryFrame m #[(.int p0_0), (.int p0_1), (.int p0_2), (.int p0_3)] maxLocals)) t := fun t k => pre123 t (by
    refine XS.icmpNo X123.here hx rfl (hb hby at_292) rfl (teq (show (c0_272 p0_0 p0_1 p0_2 p0_3) = (j0_292_s0 p0_0 p0_1 p0_2 p0_3) from (own_holds3 p0_0 p0_1 p0_2 p0_3))).2 ?_
    show Steps p.tables e below (T123.setTop (mkF m 295 #[.val (.int p0_0), .val (.int p0_1), .val (.int p0_2), .val (.int p0_3), .val (.int (j0_11_s0 p0_0 p0_1 p0_3)), .val (.int (j0_36_5 p0_0 p0_1 p0_2 p0_3)), .val (.int (v0_51 p0_0 p0_1 p0_2 p0_3)), .val (.int (v0_75 p0_0 p0_1 p0_2 p0_3)), .val (.int (j0_87_s0 p0_0 p0_1 p0_2 p0_3)), .val (.ref b40), .val (.int (1 : Int32))] [])) _
    refine XS.iconst X123.here hx rfl (hb hby at_295) ?_
    show Steps p.tables e below (T123.setTop (mkF m 296 #[.val (.int p0_0), .val (.int p0_1), .val (.int p0_2), .val (.int p0_3), .val (.int (j0_11_s0 p0_0 p0_1 p0_3)), .val (.int (j0_36_5 p0_0 p0_1 p0_2 p0_3)), .val (.int (v0_51 p0_0 p0_1 p0_2 p0_3)), .val (.int (v0_75 p0_0 p0_1 p0_2 p0_3)), .val (.int (j0_87_s0 p0_0 p0_1 p0_2 p0_3)), .val (.ref b40), .val (.int (1 : Int32))] [(.int (1 : Int32))])) _
    refine XS.goto X123.here hx rfl (pc0 := 296) (pc' := 300) rfl (hb hby at_296) (by decide) (by decide) ?_
    show Steps p.tables e below (T123.setTop (mkF m 300 #[.val (.int p0_0), .val (.int p0_1), .val (.int p0_2), .val (.int p0_3), .val (.int (j0_11_s0 p0_0 p0_1 p0_3)), .val (.int (j0_36_5 p0_0 p0_1 p0_2 p0_3)), .val (.int (v0_51 p0_0 p0_1 p0_2 p0_3)), .val (.int (v0_75 p0_0 p0_1 p0_2 p0_3)), .val (.int (j0_87_s0 p0_0 p0_1 p0_2 p0_3)), .val (.ref b40), .val (.int (1 : Int32))] [(.int (1 : Int32))])) _
    refine XS.istore X123.here hx rfl (hb hby at_300) rfl (l' := #[.val (.int p0_0), .val (.int p0_1), .val (.int p0_2), .val (.int p0_3), .val (.int (j0_11_s0 p0_0 p0_1 p0_3)), .val (.int (j0_36_5 p0_0 p0_1 p0_2 p0_3)), .val (.int (v0_51 p0_0 p0_1 p0_2 p0_3)), .val (.int (v0_75 p0_0 p0_1 p0_2 p0_3)), .val (.int (j0_87_s0 p0_0 p0_1 p0_2 p0_3)), .val (.ref b40), .val (.int (1 : Int32))]) rfl ?_
    show Steps p.tables e below (T123.setTop (mkF m 302 #[.val (.int p0_0), .val (.int p0_1), .val (.int p0_2), .val (.int p0_3), .val (.int (j0_11_s0 p0_0 p0_1 p0_3)), .val (.int (j0_36_5 p0_0 p0_1 p0_2 p0_3)), .val (.int (v0_51 p0_0 p0_1 p0_2 p0_3)), .val (.int (v0_75 p0_0 p0_1 p0_2 p0_3)), .val (.int (j0_87_s0 p0_0 p0_1 p0_2 p0_3)), .val (.ref b40), .val (.int (1 : Int32))] [])) _
    refine XS.iload X123.here hx rfl (hb hby at_302) rfl ?_
    show Steps p.tables e below (T123.setTop (mkF m 304 #[.val (.int p0_0), .val (.int p0_1), .val (.int p0_2), .val (.int p0_3), .val (.int (j0_11_s0 p0_0 p0_1 p0_3)), .val (.int (j0_36_5 p0_0 p0_1 p0_2 p0_3)), .val (.int (v0_51 p0_0 p0_1 p0_2 p0_3)), .val (.int (v0_75 p0_0 p0_1 p0_2 p0_3)), .val (.int (j0_87_s0 p0_0 p0_1 p0_2 p0_3)), .val (.ref b40), .val (.int (1 : Int32))] [(.int (1 : Int32))])) _
    refine XS.ifNo X123.here hx rfl (hb hby at_304) rfl ((if0 _ _).trans (feq (by decide : ¬ ((1 : Int32) = (0 : Int32)))).1) ?_
    show Steps p.tables e below (T123.setTop (mkF m 307 #[.val (.int p0_0), .val (.int p0_1), .val (.int p0_2), .val (.int p0_3), .val (.int (j0_11_s0 p0_0 p0_1 p0_3)), .val (.int (j0_36_5 p0_0 p0_1 p0_2 p0_3)), .val (.int (v0_51 p0_0 p0_1 p0_2 p0_3)), .val (.int (v0_75 p0_0 p0_1 p0_2 p0_3)), .val (.int (j0_87_s0 p0_0 p0_1 p0_2 p0_3)), .val (.ref b40), .val (.int (1 : Int32))] [])) _
    refine XS.aload X123.here hx rfl (hb hby at_307) rfl rfl ?_
    show Steps p.tables e below (T123.setTop (mkF m 309 #[.val (.int p0_0), .val (.int p0_1), .val (.int p0_2), .val (.int p0_3), .val (.int (j0_11_s0 p0_0 p0_1 p0_3)), .val (.int (j0_36_5 p0_0 p0_1 p0_2 p0_3)), .val (.int (v0_51 p0_0 p0_1 p0_2 p0_3)), .val (.int (v0_75 p0_0 p0_1 p0_2 p0_3)), .val (.int (j0_87_s0 p0_0 p0_1 p0_2 p0_3)), .val (.ref b40), .val (.int (1 : Int32))] [(.ref b40)])) _
    exact k)
  obtain ⟨cq135, kq135, qa135, qb135, qc135⟩ := isOf hZ e123 Ex117
  obtain ⟨_, _, ⟨T135, L135, k135, n135⟩, -, X135, ⟨Lc135, hQ135, l135, y135, z135⟩, st135⟩ := X123.virtualBack hx (y := (⟨"relayout/Largest", "size", "()I"⟩ : MethodName)) (z := (⟨"relayout/Largest", "size", "()I"⟩ : MethodName)) hown (mvT hZ (hw _ (List.mem_of_getElem? (i := 26) rfl))) (mvT hZ (hw _ (List.mem_of_getElem? (i := 27) rfl))) (notFace_of_selects (args := #[]) (mvT hZ (hw _ (List.mem_of_getElem? (i := 29) rfl)))) (mvT hZ (hw _ (List.mem_of_getElem? (i := 29) rfl))) (mvT hZ (hw _ (List.mem_of_getElem? (i := 28) rfl))) (by decide) (backOf (W := 0) (rm6 l Z a0 hw [] b40 (w0_115_size p0_0 p0_1 p0_2 p0_3) T116.heap n0 Z116 F118) hZ (hw _ (List.mem_of_getElem? (i := 30) rfl)) (hw _ (List.mem_of_getElem? (i := 10) rfl)) (by decide) (by decide)) qa135 qc135 (g := (mkF m 309 #[.val (.int p0_0), .val (.int p0_1), .val (.int p0_2), .val (.int p0_3), .val (.int (j0_11_s0 p0_0 p0_1 p0_3)), .val (.int (j0_36_5 p0_0 p0_1 p0_2 p0_3)), .val (.int (v0_51 p0_0 p0_1 p0_2 p0_3)), .val (.int (v0_75 p0_0 p0_1 p0_2 p0_3)), .val (.int (j0_87_s0 p0_0 p0_1 p0_2 p0_3)), .val (.ref b40), .val (.int (1 : Int32))] [(.ref b40)])) rfl (by rw [hml]; rfl) (Steps.refl _) (argsL := []) (rest := []) (lenOf pd_3 rfl) rfl (by show 2 * 0 + _ ≤ _; exact Nat.le_of_eq rfl) (hb hby at_309) (fun _ _ => ⟨rfl, e123, (by decide : 1 + 0 ≤ _), (by decide : 2 + 0 ≤ _)⟩)
  dsimp only [Pt.U, Pt.locs, Pt.cells, Pt.slots] at X135 l135 y135 z135 st135 hQ135
  subst l135 y135 z135
  obtain ⟨rfl, M135, e135⟩ := hQ135
  have N135 := Fr.app N123 M135
  have pre135 : ∀ t, Steps p.tables e below (T135.setTop (mkF m 312 #[.val (.int p0_0), .val (.int p0_1), .val (.int p0_2), .val (.int p0_3), .val (.int (j0_11_s0 p0_0 p0_1 p0_3)), .val (.int (j0_36_5 p0_0 p0_1 p0_2 p0_3)), .val (.int (v0_51 p0_0 p0_1 p0_2 p0_3)), .val (.int (v0_75 p0_0 p0_1 p0_2 p0_3)), .val (.int (j0_87_s0 p0_0 p0_1 p0_2 p0_3)), .val (.ref b40), .val (.int (1 : Int32))] [(.int (r6 (w0_115_size p0_0 p0_1 p0_2 p0_3)))])) t → Steps p.tables e below (s₁.setTop (entryFrame m #[(.int p0_0), (.int p0_1), (.int p0_2), (.int p0_3)] maxLocals)) t := fun t k => pre134 t (st135.trans k)
  have pre137 : ∀ t, Steps p.tables e below (T135.setTop (mkF m 326 #[.val (.int p0_0), .val (.int p0_1), .val (.int p0_2), .val (.int p0_3), .val (.int (j0_11_s0 p0_0 p0_1 p0_3)), .val (.int (j0_36_5 p0_0 p0_1 p0_2 p0_3)), .val (.int (v0_51 p0_0 p0_1 p0_2 p0_3)), .val (.int (v0_75 p0_0 p0_1 p0_2 p0_3)), .val (.int (j0_87_s0 p0_0 p0_1 p0_2 p0_3)), .val (.ref b40), .val (.int (1 : Int32))] [(.int (1 : Int32))])) t → Steps p.tables e below (s₁.setTop (entryFrame m #[(.int p0_0), (.int p0_1), (.int p0_2), (.int p0_3)] maxLocals)) t := fun t k => pre135 t (by
    refine XS.iload X135.here hx rfl (hb hby at_312) rfl ?_
    show Steps p.tables e below (T135.setTop (mkF m 314 #[.val (.int p0_0), .val (.int p0_1), .val (.int p0_2), .val (.int p0_3), .val (.int (j0_11_s0 p0_0 p0_1 p0_3)), .val (.int (j0_36_5 p0_0 p0_1 p0_2 p0_3)), .val (.int (v0_51 p0_0 p0_1 p0_2 p0_3)), .val (.int (v0_75 p0_0 p0_1 p0_2 p0_3)), .val (.int (j0_87_s0 p0_0 p0_1 p0_2 p0_3)), .val (.ref b40), .val (.int (1 : Int32))] [(.int (v0_51 p0_0 p0_1 p0_2 p0_3)), (.int (r6 (w0_115_size p0_0 p0_1 p0_2 p0_3)))])) _
    refine XS.icmpNo X135.here hx rfl (hb hby at_314) rfl (teq (show (r6 (w0_115_size p0_0 p0_1 p0_2 p0_3)) = (v0_51 p0_0 p0_1 p0_2 p0_3) from (own_size4 p0_0 p0_1 p0_2 p0_3))).2 ?_
    show Steps p.tables e below (T135.setTop (mkF m 317 #[.val (.int p0_0), .val (.int p0_1), .val (.int p0_2), .val (.int p0_3), .val (.int (j0_11_s0 p0_0 p0_1 p0_3)), .val (.int (j0_36_5 p0_0 p0_1 p0_2 p0_3)), .val (.int (v0_51 p0_0 p0_1 p0_2 p0_3)), .val (.int (v0_75 p0_0 p0_1 p0_2 p0_3)), .val (.int (j0_87_s0 p0_0 p0_1 p0_2 p0_3)), .val (.ref b40), .val (.int (1 : Int32))] [])) _
    refine XS.iconst X135.here hx rfl (hb hby at_317) ?_
    show Steps p.tables e below (T135.setTop (mkF m 318 #[.val (.int p0_0), .val (.int p0_1), .val (.int p0_2), .val (.int p0_3), .val (.int (j0_11_s0 p0_0 p0_1 p0_3)), .val (.int (j0_36_5 p0_0 p0_1 p0_2 p0_3)), .val (.int (v0_51 p0_0 p0_1 p0_2 p0_3)), .val (.int (v0_75 p0_0 p0_1 p0_2 p0_3)), .val (.int (j0_87_s0 p0_0 p0_1 p0_2 p0_3)), .val (.ref b40), .val (.int (1 : Int32))] [(.int (1 : Int32))])) _
    refine XS.goto X135.here hx rfl (pc0 := 318) (pc' := 322) rfl (hb hby at_318) (by decide) (by decide) ?_
    show Steps p.tables e below (T135.setTop (mkF m 322 #[.val (.int p0_0), .val (.int p0_1), .val (.int p0_2), .val (.int p0_3), .val (.int (j0_11_s0 p0_0 p0_1 p0_3)), .val (.int (j0_36_5 p0_0 p0_1 p0_2 p0_3)), .val (.int (v0_51 p0_0 p0_1 p0_2 p0_3)), .val (.int (v0_75 p0_0 p0_1 p0_2 p0_3)), .val (.int (j0_87_s0 p0_0 p0_1 p0_2 p0_3)), .val (.ref b40), .val (.int (1 : Int32))] [(.int (1 : Int32))])) _
    refine XS.istore X135.here hx rfl (hb hby at_322) rfl (l' := #[.val (.int p0_0), .val (.int p0_1), .val (.int p0_2), .val (.int p0_3), .val (.int (j0_11_s0 p0_0 p0_1 p0_3)), .val (.int (j0_36_5 p0_0 p0_1 p0_2 p0_3)), .val (.int (v0_51 p0_0 p0_1 p0_2 p0_3)), .val (.int (v0_75 p0_0 p0_1 p0_2 p0_3)), .val (.int (j0_87_s0 p0_0 p0_1 p0_2 p0_3)), .val (.ref b40), .val (.int (1 : Int32))]) rfl ?_
    show Steps p.tables e below (T135.setTop (mkF m 324 #[.val (.int p0_0), .val (.int p0_1), .val (.int p0_2), .val (.int p0_3), .val (.int (j0_11_s0 p0_0 p0_1 p0_3)), .val (.int (j0_36_5 p0_0 p0_1 p0_2 p0_3)), .val (.int (v0_51 p0_0 p0_1 p0_2 p0_3)), .val (.int (v0_75 p0_0 p0_1 p0_2 p0_3)), .val (.int (j0_87_s0 p0_0 p0_1 p0_2 p0_3)), .val (.ref b40), .val (.int (1 : Int32))] [])) _
    refine XS.iload X135.here hx rfl (hb hby at_324) rfl ?_
    show Steps p.tables e below (T135.setTop (mkF m 326 #[.val (.int p0_0), .val (.int p0_1), .val (.int p0_2), .val (.int p0_3), .val (.int (j0_11_s0 p0_0 p0_1 p0_3)), .val (.int (j0_36_5 p0_0 p0_1 p0_2 p0_3)), .val (.int (v0_51 p0_0 p0_1 p0_2 p0_3)), .val (.int (v0_75 p0_0 p0_1 p0_2 p0_3)), .val (.int (j0_87_s0 p0_0 p0_1 p0_2 p0_3)), .val (.ref b40), .val (.int (1 : Int32))] [(.int (1 : Int32))])) _
    exact k)
  obtain ⟨fs, hr, hrun, hended, hW, hsame⟩ := X135.leave (v := some (.int (1 : Int32))) (fun h => by rw [Bd.returns] at h; cases h)
  refine ⟨_, _, pre137 _ ?_, hrun, hended, _, _, rfl, ?_, ⟨_, rfl⟩, hW, hsame.mono (by decide) (by decide)⟩
  · show Steps p.tables e below (T135.setTop (mkF m 326 #[.val (.int p0_0), .val (.int p0_1), .val (.int p0_2), .val (.int p0_3), .val (.int (j0_11_s0 p0_0 p0_1 p0_3)), .val (.int (j0_36_5 p0_0 p0_1 p0_2 p0_3)), .val (.int (v0_51 p0_0 p0_1 p0_2 p0_3)), .val (.int (v0_75 p0_0 p0_1 p0_2 p0_3)), .val (.int (j0_87_s0 p0_0 p0_1 p0_2 p0_3)), .val (.ref b40), .val (.int (1 : Int32))] [(.int (1 : Int32))])) _
    exact retN X135 hx (t := .boolean) Bd.returns (by simp) (hb hby at_326) hr
  · show Q0 Z p0_0 p0_1 p0_2 p0_3 h0 n0 _ T135.heap _
    rw [e135]
    exact ⟨rfl, N135⟩
set_option maxRecDepth 65536 in
set_option maxHeartbeats 40000000 in
theorem comes_1 {Post : Tables → Env → Array Value → State → Outcome → State → Prop} (hpost : ∀ tb e args s v u, (limb_1_1.after args s (.returned v) u = true ∧ limb_1_2.after args s (.returned v) u = true ∧ True) → FrameEnd s (.returned v) u (Jvm.fieldLocs frame_1_writes args s ++ Jvm.arrayLocs frame_1_arrays args s ++ Jvm.staticLocs frame_1_statics s) 16 128 → Post tb e args s (.returned v) u) :
    ArmFor flags0 classFile x code maxLocals ret World_1 tables_1 room_1 Calls_1 rest_1 Pre_1 Post := by
  intro l hfl _ _ p e ha hc hk s m args below hf hA hF happ hP
  obtain ⟨hcalls, hrest, hpre⟩ := hP
  obtain ⟨-, -, -, hnamed, -, -, -, hat⟩ := (Spec.applies_iff hf).mp happ
  obtain ⟨hg, hn⟩ := and_e (Cond.before_iff.mp (show (Jvm.Cond.and given_1 narrow_1).before args s = true from hpre))
  obtain ⟨gc, g0⟩ := and_e hg
  obtain ⟨ga0, g1⟩ := and_e g0
  obtain ⟨ga1, g2⟩ := and_e g1
  obtain ⟨ga2, g3⟩ := and_e g2
  obtain ⟨w0, w1, w2, w3, rfl⟩ : ∃ w0 w1 w2 w3 : Value, args = #[w0, w1, w2, w3] := by
    have hs : args.size = 4 := by simpa [Cond.value, given_1] using gc
    obtain ⟨L⟩ := args
    match L, hs with
    | [w0, w1, w2, w3], _ => exact ⟨w0, w1, w2, w3, rfl⟩
  have hw := fun d (hd : d ∈ tables_1) => atoms_spec (ws := Jvm.Cond.code x code maxLocals ret :: tables_1) hat d (List.mem_cons_of_mem _ hd)
  obtain ⟨i0, ei0⟩ := is_v ga0
  obtain rfl : w0 = (.int i0) := Option.some.inj ei0
  obtain ⟨i1, ei1⟩ := is_v ga1
  obtain rfl : w1 = (.int i1) := Option.some.inj ei1
  obtain ⟨i2, ei2⟩ := is_v ga2
  obtain rfl : w2 = (.int i2) := Option.some.inj ei2
  obtain ⟨i3, ei3⟩ := is_v g3
  obtain rfl : w3 = (.int i3) := Option.some.inj ei3
  obtain ⟨n, o, h1, h2, h3, _, L, rfl, ⟨rfl, N⟩, hq⟩ := rm0 l s _ hw tables_1 i0 i1 i2 i3  s.heap s.heap.size (Nat.le_refl _)  p e ha hc hk s m _ below hf ((Spec.applies_iff_loose hf).mp happ).1 ⟨rfl, State.Warmed39.refl s, rfl⟩ trivial
  refine ⟨n, _, h1, h2, h3, hpost _ _ _ _ _ _ ⟨Cond.after_iff.mpr rfl, Cond.after_iff.mpr (eq_i res_at (Term.int_eval (1)) rfl), trivial⟩ ⟨hq.1, hq.2.1, (hq.2.2.sift fun y hy => Or.inr (N y hy)).mono (by decide) (by decide)⟩⟩
theorem main_1_1 : Claimed_1_1 := comes_1 fun _ _ _ _ _ _ h hF => ⟨h.1, hF⟩
theorem main_1_2 : Claimed_1_2 := comes_1 fun _ _ _ _ _ _ h hF => ⟨h.2.1, hF⟩
end Jvm.Pilot.@@N@@
namespace Jvm.Pilot.@@N@@
open Jvm Jvm.ClassFile Sem Op Lib Jvm.Free Jvm.Stand Jvm.Pilot.@@N@@.Jvm.D
/-! MADE BY PROGRAM (witnessworld.py) out of the Statement's table words and the real class files: 10 classes; the members and pool entries that the words name. The judged class is class 1, her method 2. -/
namespace start1
open Jvm.ClassFile
def u (s : String) : CpInfo := .utf8 (stringToUtf16 s)
/-- a pool by its gaps: so many unusable entries, then the entry; so many at the end -/
def gap : Nat → List CpInfo → List CpInfo
  | 0, r => r
  | n + 1, r => .unusable :: gap n r
def poolList (es : List (Nat × CpInfo)) (last : Nat) : List CpInfo := es.foldr (fun e r => gap e.1 (e.2 :: r)) (gap last [])
def pool (es : List (Nat × CpInfo)) (last : Nat) : Array CpInfo := ⟨poolList es last⟩
def fileOf (pool : Array CpInfo) (this : Nat) (attrs : Array Attribute := #[]) (ms : Array MethodInfo := #[]) (fl : Nat := 33) (sup : Nat := 0) (ifs : Array Nat := #[]) (fds : Array FieldInfo := #[]) : ClassFile where
  minorVersion := 0
  majorVersion := 65
  constantPool := pool
  accessFlags := fl
  thisClass := this
  superClass := sup
  interfaces := ifs
  fields := fds
  methods := ms
  attributes := attrs
def plain (name : String) (sup : Option ClassId) : Class where
  name := name
  kind := .ordinary
  loader := none
  accessFlags := 33
  super := sup
  interfaces := #[]
  cf := none
  fields := #[]
  methods := #[]
  instanceTypes := #[]
  staticTypes := #[]
  resolved := #[]
  callSites := []
  init := .initialized
  statics := none
  mirror := none

def pool0 : Array CpInfo := pool [(5, u "<init>"), (0, u "()V"), (1, .class_ 10), (1, u "java/lang/Object")] 113

def k0c0 : Code := { maxStack := 0, maxLocals := 1, code := object_method_1_code, exceptionTable := #[], attributes := #[] }
def k0m0 : Method := { name := "<init>", desc := "()V", sig := { parameters := [], returnType := none }, accessFlags := 1, code := some k0c0 }
/-- java/lang/Object -/
def k0 : Class := { plain "java/lang/Object" none with
  accessFlags := 33
  interfaces := #[]
  cf := some (fileOf pool0 8 #[] #[{ accessFlags := 1, nameIndex := 5, descriptorIndex := 6, attributes := #[] }] 33 0 #[] #[])
  fields := #[]
  methods := #[k0m0]
  instanceTypes := #[]
  staticTypes := #[]
  resolved := Array.replicate 124 none
  statics := none }

def pool1 : Array CpInfo := pool [(2, .class_ 4), (0, .nameAndType 5 6), (0, u "java/lang/Object"), (0, u "<init>"), (0, u "()V"), (0, .methodref 8 9), (0, .class_ 10), (0, .nameAndType 11 12), (0, u "java/lang/Math"), (0, u "max"), (0, u "(II)I"), (0, .methodref 14 15), (0, .class_ 16), (0, .nameAndType 17 12), (0, u "relayout/LargestAddPinLaw"), (0, u "eq"), (0, .class_ 19), (0, u "relayout/Largest"), (0, .methodref 18 3), (0, .methodref 18 22), (0, .nameAndType 23 24), (0, u "add"), (0, u "(I)V"), (0, .methodref 18 26), (0, .nameAndType 27 28), (0, u "size"), (0, u "()I"), (0, .methodref 18 30), (0, .nameAndType 31 32), (0, u "holds"), (0, u "()Z"), (0, .methodref 18 34), (0, .nameAndType 35 24), (0, u "remove"), (3, u "law"), (0, u "(IIII)Z")] 2

def k1m0 : Method := { name := "<init>", desc := "()V", sig := { parameters := [], returnType := none }, accessFlags := 2, code := none }
def k1c1 : Code := { maxStack := 2, maxLocals := 2, code := method_2_code, exceptionTable := #[], attributes := #[] }
def k1m1 : Method := { name := "eq", desc := "(II)I", sig := { parameters := [.int, .int], returnType := some .int }, accessFlags := 10, code := some k1c1 }
def k1c2 : Code := { maxStack := 4, maxLocals := 11, code := code, exceptionTable := #[], attributes := #[] }
def k1m2 : Method := { name := "law", desc := "(IIII)Z", sig := { parameters := [.int, .int, .int, .int], returnType := some .boolean }, accessFlags := 9, code := some k1c2 }
/-- relayout/LargestAddPinLaw -/
def k1 : Class := { plain "relayout/LargestAddPinLaw" (some 0) with
  accessFlags := 49
  interfaces := #[]
  cf := some (fileOf pool1 14 #[] #[{ accessFlags := 2, nameIndex := 5, descriptorIndex := 6, attributes := #[] }, { accessFlags := 10, nameIndex := 17, descriptorIndex := 12, attributes := #[] }, { accessFlags := 9, nameIndex := 39, descriptorIndex := 40, attributes := #[] }] 49 2 #[] #[])
  fields := #[]
  methods := #[k1m0, k1m1, k1m2]
  instanceTypes := #[]
  staticTypes := #[]
  resolved := Array.replicate 43 none
  statics := none }

def pool2 : Array CpInfo := pool [(1, .class_ 2), (0, u "java/lang/Math"), (1, .class_ 6), (1, u "java/lang/Object"), (0, u "<init>"), (0, u "()V"), (89, .class_ 100), (1, u "java/lang/Math$RandomNumberGeneratorHolder"), (71, u "negativeZeroFloatBits"), (0, u "J"), (2, u "negativeZeroDoubleBits"), (21, u "max"), (46, u "$assertionsDisabled"), (0, u "Z"), (88, u "(II)I"), (2, u "twoToTheDoubleScaleDown"), (0, u "D"), (4, u "twoToTheDoubleScaleUp"), (9, u "E"), (3, u "PI"), (2, u "TAU"), (2, u "DEGREES_TO_RADIANS"), (0, u "RADIANS_TO_DEGREES")] 94

def k2m0 : Method := { name := "<init>", desc := "()V", sig := { parameters := [], returnType := none }, accessFlags := 2, code := none }
def k2c1 : Code := { maxStack := 2, maxLocals := 2, code := jdk_29_method_65_code, exceptionTable := #[], attributes := #[] }
def k2m1 : Method := { name := "max", desc := "(II)I", sig := { parameters := [.int, .int], returnType := some .int }, accessFlags := 9, code := some k2c1 }
/-- java/lang/Math -/
def k2 : Class := { plain "java/lang/Math" (some 0) with
  accessFlags := 49
  interfaces := #[]
  cf := some (fileOf pool2 1 #[.nestMembers #[98]] #[{ accessFlags := 2, nameIndex := 7, descriptorIndex := 8, attributes := #[] }, { accessFlags := 9, nameIndex := 198, descriptorIndex := 335, attributes := #[] }] 49 4 #[] #[{ accessFlags := 25, nameIndex := 354, descriptorIndex := 339, attributes := #[] }, { accessFlags := 25, nameIndex := 358, descriptorIndex := 339, attributes := #[] }, { accessFlags := 25, nameIndex := 361, descriptorIndex := 339, attributes := #[] }, { accessFlags := 26, nameIndex := 364, descriptorIndex := 339, attributes := #[] }, { accessFlags := 26, nameIndex := 365, descriptorIndex := 339, attributes := #[] }, { accessFlags := 26, nameIndex := 172, descriptorIndex := 173, attributes := #[] }, { accessFlags := 26, nameIndex := 176, descriptorIndex := 173, attributes := #[] }, { accessFlags := 8, nameIndex := 344, descriptorIndex := 339, attributes := #[] }, { accessFlags := 8, nameIndex := 338, descriptorIndex := 339, attributes := #[] }, { accessFlags := 4120, nameIndex := 245, descriptorIndex := 246, attributes := #[] }])
  fields := #[{ name := "E", type := .double, accessFlags := 25, slot := 0, constantValue := 0 }, { name := "PI", type := .double, accessFlags := 25, slot := 1, constantValue := 0 }, { name := "TAU", type := .double, accessFlags := 25, slot := 2, constantValue := 0 }, { name := "DEGREES_TO_RADIANS", type := .double, accessFlags := 26, slot := 3, constantValue := 0 }, { name := "RADIANS_TO_DEGREES", type := .double, accessFlags := 26, slot := 4, constantValue := 0 }, { name := "negativeZeroFloatBits", type := .long, accessFlags := 26, slot := 5, constantValue := 0 }, { name := "negativeZeroDoubleBits", type := .long, accessFlags := 26, slot := 6, constantValue := 0 }, { name := "twoToTheDoubleScaleUp", type := .double, accessFlags := 8, slot := 7, constantValue := 0 }, { name := "twoToTheDoubleScaleDown", type := .double, accessFlags := 8, slot := 8, constantValue := 0 }, { name := "$assertionsDisabled", type := .boolean, accessFlags := 4120, slot := 9, constantValue := 0 }]
  methods := #[k2m0, k2m1]
  instanceTypes := #[]
  staticTypes := #[.double, .double, .double, .double, .double, .long, .long, .double, .double, .boolean]
  resolved := Array.replicate 460 none
  statics := none }

def pool3 : Array CpInfo := pool [(1, .methodref 2 3), (0, .class_ 4), (0, .nameAndType 5 6), (0, u "java/lang/Object"), (0, u "<init>"), (0, u "()V"), (0, .fieldref 8 9), (0, .class_ 10), (0, .nameAndType 11 12), (0, u "relayout/Largest"), (0, u "size"), (0, u "I"), (0, .fieldref 8 14), (0, .nameAndType 15 12), (0, u "count"), (2, u "add"), (0, u "(I)V"), (1, u "remove"), (0, u "holds"), (0, u "()Z"), (1, u "()I")] 2

def k3c0 : Code := { maxStack := 1, maxLocals := 1, code := prog_12_method_1_code, exceptionTable := #[], attributes := #[] }
def k3m0 : Method := { name := "<init>", desc := "()V", sig := { parameters := [], returnType := none }, accessFlags := 0, code := some k3c0 }
def k3c1 : Code := { maxStack := 3, maxLocals := 2, code := prog_12_method_2_code, exceptionTable := #[], attributes := #[] }
def k3m1 : Method := { name := "add", desc := "(I)V", sig := { parameters := [.int], returnType := none }, accessFlags := 0, code := some k3c1 }
def k3c2 : Code := { maxStack := 3, maxLocals := 2, code := prog_12_method_3_code, exceptionTable := #[], attributes := #[] }
def k3m2 : Method := { name := "remove", desc := "(I)V", sig := { parameters := [.int], returnType := none }, accessFlags := 0, code := some k3c2 }
def k3c3 : Code := { maxStack := 1, maxLocals := 1, code := prog_12_method_4_code, exceptionTable := #[], attributes := #[] }
def k3m3 : Method := { name := "holds", desc := "()Z", sig := { parameters := [], returnType := some .boolean }, accessFlags := 0, code := some k3c3 }
def k3c4 : Code := { maxStack := 1, maxLocals := 1, code := prog_12_method_6_code, exceptionTable := #[], attributes := #[] }
def k3m4 : Method := { name := "size", desc := "()I", sig := { parameters := [], returnType := some .int }, accessFlags := 0, code := some k3c4 }
/-- relayout/Largest -/
def k3 : Class := { plain "relayout/Largest" (some 0) with
  accessFlags := 48
  interfaces := #[]
  cf := some (fileOf pool3 8 #[] #[{ accessFlags := 0, nameIndex := 5, descriptorIndex := 6, attributes := #[] }, { accessFlags := 0, nameIndex := 18, descriptorIndex := 19, attributes := #[] }, { accessFlags := 0, nameIndex := 21, descriptorIndex := 19, attributes := #[] }, { accessFlags := 0, nameIndex := 22, descriptorIndex := 23, attributes := #[] }, { accessFlags := 0, nameIndex := 11, descriptorIndex := 25, attributes := #[] }] 48 2 #[] #[{ accessFlags := 2, nameIndex := 11, descriptorIndex := 12, attributes := #[] }, { accessFlags := 2, nameIndex := 15, descriptorIndex := 12, attributes := #[] }])
  fields := #[{ name := "size", type := .int, accessFlags := 2, slot := 0, constantValue := 0 }, { name := "count", type := .int, accessFlags := 2, slot := 1, constantValue := 0 }]
  methods := #[k3m0, k3m1, k3m2, k3m3, k3m4]
  instanceTypes := #[.int, .int]
  staticTypes := #[]
  resolved := Array.replicate 28 none
  statics := none }

def pool4 : Array CpInfo := pool [(1, u "java/lang/Cloneable"), (0, .class_ 1), (0, u "java/lang/Object"), (0, .class_ 3)] 3

/-- java/lang/Cloneable -/
def k4 : Class := { plain "java/lang/Cloneable" (some 0) with
  accessFlags := 1537
  interfaces := #[]
  cf := some (fileOf pool4 2 #[] #[] 1537 4 #[] #[])
  fields := #[]
  methods := #[]
  instanceTypes := #[]
  staticTypes := #[]
  resolved := Array.replicate 8 none
  statics := none }

def pool5 : Array CpInfo := pool [(1, u "java/io/Serializable"), (0, .class_ 1), (0, u "java/lang/Object"), (0, .class_ 3)] 3

/-- java/io/Serializable -/
def k5 : Class := { plain "java/io/Serializable" (some 0) with
  accessFlags := 1537
  interfaces := #[]
  cf := some (fileOf pool5 2 #[] #[] 1537 4 #[] #[])
  fields := #[]
  methods := #[]
  instanceTypes := #[]
  staticTypes := #[]
  resolved := Array.replicate 8 none
  statics := none }

/-- the primitive byte -/
def k6 : Class := { plain "byte" none with kind := .primitive 'B', accessFlags := 0x411 }
/-- [B -/
def k7 : Class := { plain "[B" (some 0) with kind := .array 6 .byte, interfaces := #[4, 5], accessFlags := 1041 }

/-- the primitive int -/
def k8 : Class := { plain "int" none with kind := .primitive 'I', accessFlags := 0x411 }
/-- [I -/
def k9 : Class := { plain "[I" (some 0) with kind := .array 8 .int, interfaces := #[4, 5], accessFlags := 1041 }

def heap : Heap := #[]
def classes : Array Class := #[k0, k1, k2, k3, k4, k5, k6, k7, k8, k9]
def interned : List (Array UInt16 × Addr) := []
def slotsUsed : Nat := 0
def theMethod : MethodId := ⟨1, 2⟩
def args0 : Array Value := #[.int 5, .int 6, .int 7, .int 8]
def aboutOver (below : List Frame) : State where
  vm := { classes := classes, interned := interned.toArray }
  heap := heap
  slotsUsed := slotsUsed
  threads := #[{ frames := .invoking theMethod args0 :: below }]
def below0 : List Frame := [.native { method := ⟨0, 0⟩, args := #[] }]
def about1 : State := aboutOver below0
def p0 : Program := .bare "" "" ""
def e0 : Env := launch0.env 0 0 0
theorem w_frames : about1.frames = Frame.invoking theMethod args0 :: below0 := rfl
set_option maxRecDepth 65536 in
theorem w_args : argsFit about1.vm theMethod args0 = true := by decide +kernel
set_option maxRecDepth 65536 in
theorem w_heap : heapFits about1 = true := by decide +kernel
set_option maxRecDepth 65536 in
theorem w_runnable : about1.curStatus? = some .runnable := by decide +kernel
set_option maxRecDepth 65536 in
theorem w_alone : about1.alone = true := by decide +kernel
set_option maxRecDepth 65536 in
theorem w_named : about1.methodNamed? x = some theMethod := by decide +kernel
set_option maxRecDepth 65536 in
theorem w_hears : about1.hears theMethod below0 = true := by decide +kernel
set_option maxRecDepth 65536 in
theorem w_ripe : about1.ripe theMethod args0 below0 = true := by decide +kernel
theorem w_running : about1.status = .running := rfl
set_option maxRecDepth 65536 in
theorem w_room : about1.hasRoom e0.platform room_1 = true :=
  launch0.hasRoom_least _ room_1 (by decide +kernel) (by decide +kernel) (by decide +kernel) (by decide +kernel) (by decide +kernel) (by decide +kernel)
theorem allAtoms_all (ts : List Jvm.Cond) (a : Array Jvm.Value) (st : Jvm.State) : (allAtoms ts).before a st = ts.all (fun c => c.before a st) := by
  induction ts with
  | nil => rfl
  | cons c t ih =>
    show (Jvm.Cond.and c (allAtoms t)).before a st = _
    rw [Jvm.Cond.before_and, ih, List.all_cons]
def words1 : List Jvm.Cond := Jvm.Cond.code x code maxLocals ret :: tables_1
/-- a 'code' word, met by the world's own term for the bytes: nothing is compared byte by byte -/
theorem code_word {y : MethodName} {bytes : ByteArray} {mx : Nat} {rt : Option FieldType} {a : Array Value} {s : State} {m : MethodId} {meth : Method} {c : Code} (h1 : s.methodNamed? y = some m) (h2 : s.vm.method? m = some meth) (h3 : meth.code = some c) (h4 : c.code = bytes)
    (h5 : (c.maxLocals == mx && c.exceptionTable.isEmpty && decide (c.maxStack ≤ mostOperands) && decide (meth.sig.returnType = rt) && !meth.locks && decide (parseMethodDescriptor y.desc = some meth.sig)) = true) : (Jvm.Cond.code y bytes mx rt).before a s = true := by
  simp only [Bool.and_eq_true, beq_iff_eq, Bool.not_eq_true', decide_eq_true_eq] at h5
  obtain ⟨⟨⟨⟨⟨g1, g2⟩, g3⟩, g4⟩, g5⟩, g6⟩ := h5
  simp [Cond.before, Cond.holds, Cond.value, h1, h2, h3, h4, g1, g2, g3, g4, g5, g6]
def isCode : Jvm.Cond → Bool
  | .code _ _ _ _ => true
  | _ => false
theorem all_split {L : List Jvm.Cond} {P : Jvm.Cond → Bool} (h1 : L.all (fun c => isCode c || P c) = true) (h2 : ∀ c ∈ L.filter isCode, P c = true) : L.all P = true := by
  refine List.all_eq_true.mpr fun c hc => ?_
  have h := List.all_eq_true.mp h1 c hc
  rcases Bool.eq_false_or_eq_true (isCode c) with hi | hi
  · exact h2 c (List.mem_filter.mpr ⟨hc, hi⟩)
  · simpa [hi] using h
set_option maxRecDepth 65536 in
theorem w_c0 : (Jvm.Cond.code x code maxLocals ret).before args0 about1 = true := code_word (m := ⟨1, 2⟩) (meth := k1m2) (c := k1c2) (by decide +kernel) rfl rfl rfl (by decide +kernel)
set_option maxRecDepth 65536 in
theorem w_c1 : (Jvm.Cond.code ({ cls := "java/lang/Math", name := "max", desc := "(II)I" } : Jvm.MethodName) jdk_29_method_65_code (2 : Nat) (Option.some Jvm.ClassFile.FieldType.int)).before args0 about1 = true := code_word (m := ⟨2, 1⟩) (meth := k2m1) (c := k2c1) (by decide +kernel) rfl rfl rfl (by decide +kernel)
set_option maxRecDepth 65536 in
theorem w_c2 : (Jvm.Cond.code ({ cls := "relayout/LargestAddPinLaw", name := "eq", desc := "(II)I" } : Jvm.MethodName) method_2_code (2 : Nat) (Option.some Jvm.ClassFile.FieldType.int)).before args0 about1 = true := code_word (m := ⟨1, 1⟩) (meth := k1m1) (c := k1c1) (by decide +kernel) rfl rfl rfl (by decide +kernel)
set_option maxRecDepth 65536 in
theorem w_c3 : (Jvm.Cond.code ({ cls := "relayout/Largest", name := "<init>", desc := "()V" } : Jvm.MethodName) prog_12_method_1_code (1 : Nat) (Option.none : Option Jvm.ClassFile.FieldType)).before args0 about1 = true := code_word (m := ⟨3, 0⟩) (meth := k3m0) (c := k3c0) (by decide +kernel) rfl rfl rfl (by decide +kernel)
set_option maxRecDepth 65536 in
theorem w_c4 : (Jvm.Cond.code ({ cls := "java/lang/Object", name := "<init>", desc := "()V" } : Jvm.MethodName) object_method_1_code (1 : Nat) (Option.none : Option Jvm.ClassFile.FieldType)).before args0 about1 = true := code_word (m := ⟨0, 0⟩) (meth := k0m0) (c := k0c0) (by decide +kernel) rfl rfl rfl (by decide +kernel)
set_option maxRecDepth 65536 in
theorem w_c5 : (Jvm.Cond.code ({ cls := "relayout/Largest", name := "add", desc := "(I)V" } : Jvm.MethodName) prog_12_method_2_code (2 : Nat) (Option.none : Option Jvm.ClassFile.FieldType)).before args0 about1 = true := code_word (m := ⟨3, 1⟩) (meth := k3m1) (c := k3c1) (by decide +kernel) rfl rfl rfl (by decide +kernel)
set_option maxRecDepth 65536 in
theorem w_c6 : (Jvm.Cond.code ({ cls := "relayout/Largest", name := "size", desc := "()I" } : Jvm.MethodName) prog_12_method_6_code (1 : Nat) (Option.some Jvm.ClassFile.FieldType.int)).before args0 about1 = true := code_word (m := ⟨3, 4⟩) (meth := k3m4) (c := k3c4) (by decide +kernel) rfl rfl rfl (by decide +kernel)
set_option maxRecDepth 65536 in
theorem w_c7 : (Jvm.Cond.code ({ cls := "relayout/Largest", name := "holds", desc := "()Z" } : Jvm.MethodName) prog_12_method_4_code (1 : Nat) (Option.some Jvm.ClassFile.FieldType.boolean)).before args0 about1 = true := code_word (m := ⟨3, 3⟩) (meth := k3m3) (c := k3c3) (by decide +kernel) rfl rfl rfl (by decide +kernel)
set_option maxRecDepth 65536 in
theorem w_c8 : (Jvm.Cond.code ({ cls := "relayout/Largest", name := "remove", desc := "(I)V" } : Jvm.MethodName) prog_12_method_3_code (2 : Nat) (Option.none : Option Jvm.ClassFile.FieldType)).before args0 about1 = true := code_word (m := ⟨3, 2⟩) (meth := k3m2) (c := k3c2) (by decide +kernel) rfl rfl rfl (by decide +kernel)
def codes1 : List Jvm.Cond := [Jvm.Cond.code x code maxLocals ret, Jvm.Cond.code ({ cls := "java/lang/Math", name := "max", desc := "(II)I" } : Jvm.MethodName) jdk_29_method_65_code (2 : Nat) (Option.some Jvm.ClassFile.FieldType.int), Jvm.Cond.code ({ cls := "relayout/LargestAddPinLaw", name := "eq", desc := "(II)I" } : Jvm.MethodName) method_2_code (2 : Nat) (Option.some Jvm.ClassFile.FieldType.int), Jvm.Cond.code ({ cls := "relayout/Largest", name := "<init>", desc := "()V" } : Jvm.MethodName) prog_12_method_1_code (1 : Nat) (Option.none : Option Jvm.ClassFile.FieldType), Jvm.Cond.code ({ cls := "java/lang/Object", name := "<init>", desc := "()V" } : Jvm.MethodName) object_method_1_code (1 : Nat) (Option.none : Option Jvm.ClassFile.FieldType), Jvm.Cond.code ({ cls := "relayout/Largest", name := "add", desc := "(I)V" } : Jvm.MethodName) prog_12_method_2_code (2 : Nat) (Option.none : Option Jvm.ClassFile.FieldType), Jvm.Cond.code ({ cls := "relayout/Largest", name := "size", desc := "()I" } : Jvm.MethodName) prog_12_method_6_code (1 : Nat) (Option.some Jvm.ClassFile.FieldType.int), Jvm.Cond.code ({ cls := "relayout/Largest", name := "holds", desc := "()Z" } : Jvm.MethodName) prog_12_method_4_code (1 : Nat) (Option.some Jvm.ClassFile.FieldType.boolean), Jvm.Cond.code ({ cls := "relayout/Largest", name := "remove", desc := "(I)V" } : Jvm.MethodName) prog_12_method_3_code (2 : Nat) (Option.none : Option Jvm.ClassFile.FieldType)]
set_option maxRecDepth 65536 in
theorem codes_eq : words1.filter isCode = codes1 := rfl
theorem w_codes : ∀ c ∈ words1.filter isCode, c.before args0 about1 = true := by
  rw [codes_eq]
  intro c hc
  simp only [codes1, List.mem_cons, List.not_mem_nil, or_false] at hc
  rcases hc with rfl | rfl | rfl | rfl | rfl | rfl | rfl | rfl | rfl
  · exact w_c0
  · exact w_c1
  · exact w_c2
  · exact w_c3
  · exact w_c4
  · exact w_c5
  · exact w_c6
  · exact w_c7
  · exact w_c8
set_option maxRecDepth 65536 in
theorem w_t1 : (words1.take 24).all (fun c => isCode c || c.before args0 about1) = true := by decide +kernel
set_option maxRecDepth 65536 in
theorem w_t2 : (words1.drop 24).all (fun c => isCode c || c.before args0 about1) = true := by decide +kernel
theorem w_tables : (allAtoms (Jvm.Cond.code x code maxLocals ret :: tables_1)).before args0 about1 = true := by
  rw [allAtoms_all]
  show words1.all (fun c => c.before args0 about1) = true
  refine all_split ?_ w_codes
  rw [← List.take_append_drop 24 words1, List.all_append, w_t1, w_t2]
  rfl
set_option maxRecDepth 65536 in
theorem w_case : (Jvm.Cond.and given_1 narrow_1).before args0 about1 = true := by decide +kernel
theorem w_applies : (headSpec (Jvm.Cond.code x code maxLocals ret :: tables_1) room_1).applies x e0.platform about1 = true :=
  (Spec.applies_iff w_frames).mpr ⟨w_running, w_runnable, w_alone, w_named, w_hears, w_ripe, w_room, w_tables⟩
theorem atStart : AtStart classFile x code maxLocals ret World_1 tables_1 room_1 Calls_1 rest_1 Pre_1 launch0 p0 e0 about1 theMethod args0 below0 :=
  ⟨lists_1, trivial, launch0.admits_env _ _ _, launch0.least_env, fairChoices_fair.cas, fairChoices_fair.clock, w_frames, w_args, w_heap, w_applies, trivial, trivial, w_case⟩
end start1
theorem witness_1 : WitnessClaimed_1 := ⟨start1.p0, start1.e0, start1.about1, start1.theMethod, start1.args0, start1.below0, start1.atStart⟩
end Jvm.Pilot.@@N@@
