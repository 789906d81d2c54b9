import JvmDerived
import JvmDerived.Pilot.@@N@@Statement
import JvmDerived.Pilot.@@N@@Code
set_option linter.unusedVariables false
set_option linter.unusedSimpArgs false
@@BLOCK:NumsL.lean.txt@@
namespace Jvm.Pilot.@@N@@
open Jvm Jvm.ClassFile Sem Op Lib Jvm.Free Jvm.Stand Jvm.LawKit Jvm.RoadKit Bundle Jvm.Pilot.@@N@@.Jvm.D
def own_shl (x y : Int32) : Int32 := x <<< (y &&& 31)
def own_shr (x y : Int32) : Int32 := x >>> (y &&& 31)
def own_ushr (x y : Int32) : Int32 := (x.toUInt32 >>> (y &&& 31).toUInt32).toInt32
def own_shlL (x : Int64) (y : Int32) : Int64 := x <<< (y &&& 0x3f).toInt64
def own_shrL (x : Int64) (y : Int32) : Int64 := x >>> (y &&& 0x3f).toInt64
def own_ushrL (x : Int64) (y : Int32) : Int64 := (x.toUInt64 >>> (y &&& 0x3f).toInt64.toUInt64).toInt64
def own_remL (x y : Int64) : Int64 := x - (x / y) * y
section OwnKit
variable {p : Program} {l : Launch} {e : Env} {R : Room} {s : State} {m : MethodId} {args : Array Value} {below : List Frame} {meth : Method} {c : Code} {T : State} {locs : List Loc} {cells slots : Nat} {Z : State} {h h' : Heap} {a b : Addr}
theorem retI (X : Stand p l e R s m args below meth c T locs cells slots) (hx : p.tables.exec = Jvm.exec) {pc : Nat} {Ls : Array Slot} {z : Int32} {rest : List Value} (hret : meth.sig.returnType = some .int) (hd : decode c.code pc = .ok (.ireturn, 1)) {fs : List Frame}
    (hl : ∀ (f : JFrame) (acts : List Action), f.method = m → f.locked = none → f.entered = [] → (doReturn e (T.setTop f) acts (some (.int z))).1 = T.setFrames fs) : Steps p.tables e below (T.setTop (mkF m pc Ls (.int z :: rest))) (T.setFrames fs) :=
  retOut X hx hret rfl (Or.inl ⟨rfl, Or.inl rfl, _, rfl⟩) hd hl
theorem own_retJ (X : Stand p l e R s m args below meth c T locs cells slots) (hx : p.tables.exec = Jvm.exec) {pc : Nat} {Ls : Array Slot} {z : Int64} {rest : List Value} (hret : meth.sig.returnType = some .long) (hd : decode c.code pc = .ok (.lreturn, 1)) {fs : List Frame}
    (hl : ∀ (f : JFrame) (acts : List Action), f.method = m → f.locked = none → f.entered = [] → (doReturn e (T.setTop f) acts (some (.long z))).1 = T.setFrames fs) : Steps p.tables e below (T.setTop (mkF m pc Ls (.long z :: rest))) (T.setFrames fs) :=
  retOut X hx hret rfl (Or.inr (Or.inl ⟨rfl, rfl, _, rfl⟩)) hd hl
end OwnKit
theorem pn_0 : plainName "com/example/keys_to_proof/keystoproof/language/Scanner" = true := by first | (simp [plainName, overriddenIn]; done) | decide +kernel
theorem d1_0 : decode prog_100_method_13_code 0 = .ok (.iload_n 0, 1) := by decide +kernel
theorem d1_1 : decode prog_100_method_13_code 1 = .ok (.bipush 48, 2) := by decide +kernel
theorem d1_3 : decode prog_100_method_13_code 3 = .ok (.if_icmp .lt 13, 3) := by decide +kernel
theorem d1_6 : decode prog_100_method_13_code 6 = .ok (.iload_n 0, 1) := by decide +kernel
theorem d1_7 : decode prog_100_method_13_code 7 = .ok (.bipush 57, 2) := by decide +kernel
theorem d1_9 : decode prog_100_method_13_code 9 = .ok (.if_icmp .gt 7, 3) := by decide +kernel
theorem d1_12 : decode prog_100_method_13_code 12 = .ok (.iconst 1, 1) := by decide +kernel
theorem d1_13 : decode prog_100_method_13_code 13 = .ok (.goto 4, 3) := by decide +kernel
theorem d1_16 : decode prog_100_method_13_code 16 = .ok (.iconst 0, 1) := by decide +kernel
theorem d1_17 : decode prog_100_method_13_code 17 = .ok (.ireturn, 1) := by decide +kernel
theorem ef_1 (m : MethodId) (x0 : Int32) : entryFrame m #[(.int x0)] 1 = mkF m 0 #[.val (.int x0)] [] := by first | (simp [entryFrame, mkF, argsToLocals, Value.category]; done) | rfl
abbrev R1 : Room := { frames := 0, cells := 0, slots := 0, locals := 0 }
def r1 (p1_0 : Int32) : Int32 := (if p1_0 < (48 : Int32) then (0 : Int32) else (if (57 : Int32) < p1_0 then (0 : Int32) else (1 : Int32)))
def Q1 (Z : State) (p1_0 : Int32) (h0 : Heap) (n0 : Nat) (v : Option Value) (h : Heap) (L : List Loc) : Prop := v = some (.int (r1 p1_0)) ∧ Fr n0 L ∧ h = h0
set_option maxRecDepth 65536 in
set_option maxHeartbeats 40000000 in
theorem rm1 (l : Launch) (Z : State) (a0 : Array Value) (hw : ∀ d ∈ tables_1, d.before a0 Z = true) (ws : List Jvm.Cond) (p1_0 : Int32) (h0 : Heap) (n0 : Nat) (Z0 : n0 ≤ h0.size) :
    MetFree l (⟨"com/example/keys_to_proof/keystoproof/language/Scanner", "isDigit", "(I)Z"⟩ : MethodName) (head1 (Jvm.Cond.code (⟨"com/example/keys_to_proof/keystoproof/language/Scanner", "isDigit", "(I)Z"⟩ : MethodName) prog_100_method_13_code 1 (some .boolean) :: ws) R1) (fun a U => a = #[(.int p1_0)] ∧ Z.Warmed39 U.vm ∧ U.heap = h0) (fun _ _ _ _ _ => True) (fun _ U o U' => ∃ v L, o = .returned v ∧ Q1 Z p1_0 h0 n0 v U'.heap L ∧ FrameEnd U o U' L R1.cells R1.slots) := by
  refine MetFree.of_bodySF (plainFor_of_name pn_0) hisR ?_
  intro p e s m args below meth c s₁ Bd hml0 hP hK
  obtain ⟨rfl, hZ, hh⟩ := hP
  have hx := Bd.exec
  have hby := Bd.bytes
  have hml : c.maxLocals = 1 := hml0
  have hown : s.vm.findClass "com/example/keys_to_proof/keystoproof/language/Scanner" = some m.cls := findClass_of_methodNamed Bd.named
  have hnm := (name_of_methodNamed Bd.named Bd.method).1
  have X0 : Stand p l e R1 s m #[(.int p1_0)] below meth c s₁ [] 0 0 := Stand.of_body Bd
  have e0 : s₁.heap = h0 := by rw [← hh, Bd.state]; rfl
  have N0 := Fr.nil n0
  have pre0 : ∀ t, Steps p.tables e below (s₁.setTop (mkF m 0 #[.val (.int p1_0)] [])) t → Steps p.tables e below (s₁.setTop (entryFrame m #[(.int p1_0)] 1)) t := fun t k => castTop (ef_1 m p1_0) k
  have pre1 : ∀ t, Steps p.tables e below (s₁.setTop (mkF m 3 #[.val (.int p1_0)] [(.int (48 : Int32)), (.int p1_0)])) t → Steps p.tables e below (s₁.setTop (entryFrame m #[(.int p1_0)] 1)) t := fun t k => pre0 t (by
    refine XS.iloadN X0.here hx rfl (hb hby d1_0) rfl ?_
    show Steps p.tables e below (s₁.setTop (mkF m 1 #[.val (.int p1_0)] [(.int p1_0)])) _
    refine XS.bipush X0.here hx rfl (hb hby d1_1) ?_
    show Steps p.tables e below (s₁.setTop (mkF m 3 #[.val (.int p1_0)] [(.int (48 : Int32)), (.int p1_0)])) _
    exact k)
  by_cases hc3_2 : p1_0 < (48 : Int32)
  · have pre3 : ∀ t, Steps p.tables e below (s₁.setTop (mkF m 17 #[.val (.int p1_0)] [(.int (0 : Int32))])) t → Steps p.tables e below (s₁.setTop (entryFrame m #[(.int p1_0)] 1)) t := fun t k => pre1 t (by
      refine XS.icmpYes X0.here hx rfl (pc0 := 3) (pc' := 16) rfl (hb hby d1_3) rfl (tlt hc3_2).1 (by decide) (by decide) ?_
      show Steps p.tables e below (s₁.setTop (mkF m 16 #[.val (.int p1_0)] [])) _
      refine XS.iconst X0.here hx rfl (hb hby d1_16) ?_
      show Steps p.tables e below (s₁.setTop (mkF m 17 #[.val (.int p1_0)] [(.int (0 : Int32))])) _
      exact k)
    have hret : (r1 p1_0) = (0 : Int32) := by unfold r1; rw [if_pos hc3_2]
    obtain ⟨fs, hr, hrun, hended, hW, hsame⟩ := X0.leave (v := some (.int (0 : Int32))) (fun h => by rw [Bd.returns] at h; cases h)
    refine ⟨_, _, pre3 _ ?_, hrun, hended, _, _, rfl, ?_, ⟨_, rfl⟩, hW, hsame.mono (by decide) (by decide)⟩
    · show Steps p.tables e below (s₁.setTop (mkF m 17 #[.val (.int p1_0)] [(.int (0 : Int32))])) _
      exact retN X0 hx (t := .boolean) Bd.returns (by simp) (hb hby d1_17) hr
    · show Q1 Z p1_0 h0 n0 _ s₁.heap _
      rw [e0]
      exact ⟨(by rw [hret]), N0, rfl⟩
  · have pre4 : ∀ t, Steps p.tables e below (s₁.setTop (mkF m 9 #[.val (.int p1_0)] [(.int (57 : Int32)), (.int p1_0)])) t → Steps p.tables e below (s₁.setTop (entryFrame m #[(.int p1_0)] 1)) t := fun t k => pre1 t (by
      refine XS.icmpNo X0.here hx rfl (hb hby d1_3) rfl (flt hc3_2).1 ?_
      show Steps p.tables e below (s₁.setTop (mkF m 6 #[.val (.int p1_0)] [])) _
      refine XS.iloadN X0.here hx rfl (hb hby d1_6) rfl ?_
      show Steps p.tables e below (s₁.setTop (mkF m 7 #[.val (.int p1_0)] [(.int p1_0)])) _
      refine XS.bipush X0.here hx rfl (hb hby d1_7) ?_
      show Steps p.tables e below (s₁.setTop (mkF m 9 #[.val (.int p1_0)] [(.int (57 : Int32)), (.int p1_0)])) _
      exact k)
    by_cases hc9_5 : (57 : Int32) < p1_0
    · have pre6 : ∀ t, Steps p.tables e below (s₁.setTop (mkF m 17 #[.val (.int p1_0)] [(.int (0 : Int32))])) t → Steps p.tables e below (s₁.setTop (entryFrame m #[(.int p1_0)] 1)) t := fun t k => pre4 t (by
        refine XS.icmpYes X0.here hx rfl (pc0 := 9) (pc' := 16) rfl (hb hby d1_9) rfl (tlt hc9_5).2.2.1 (by decide) (by decide) ?_
        show Steps p.tables e below (s₁.setTop (mkF m 16 #[.val (.int p1_0)] [])) _
        refine XS.iconst X0.here hx rfl (hb hby d1_16) ?_
        show Steps p.tables e below (s₁.setTop (mkF m 17 #[.val (.int p1_0)] [(.int (0 : Int32))])) _
        exact k)
      have hret : (r1 p1_0) = (0 : Int32) := by unfold r1; rw [if_neg hc3_2, if_pos hc9_5]
      obtain ⟨fs, hr, hrun, hended, hW, hsame⟩ := X0.leave (v := some (.int (0 : Int32))) (fun h => by rw [Bd.returns] at h; cases h)
      refine ⟨_, _, pre6 _ ?_, hrun, hended, _, _, rfl, ?_, ⟨_, rfl⟩, hW, hsame.mono (by decide) (by decide)⟩
      · show Steps p.tables e below (s₁.setTop (mkF m 17 #[.val (.int p1_0)] [(.int (0 : Int32))])) _
        exact retN X0 hx (t := .boolean) Bd.returns (by simp) (hb hby d1_17) hr
      · show Q1 Z p1_0 h0 n0 _ s₁.heap _
        rw [e0]
        exact ⟨(by rw [hret]), N0, rfl⟩
    · have pre7 : ∀ t, Steps p.tables e below (s₁.setTop (mkF m 17 #[.val (.int p1_0)] [(.int (1 : Int32))])) t → Steps p.tables e below (s₁.setTop (entryFrame m #[(.int p1_0)] 1)) t := fun t k => pre4 t (by
        refine XS.icmpNo X0.here hx rfl (hb hby d1_9) rfl (flt hc9_5).2.2.1 ?_
        show Steps p.tables e below (s₁.setTop (mkF m 12 #[.val (.int p1_0)] [])) _
        refine XS.iconst X0.here hx rfl (hb hby d1_12) ?_
        show Steps p.tables e below (s₁.setTop (mkF m 13 #[.val (.int p1_0)] [(.int (1 : Int32))])) _
        refine XS.goto X0.here hx rfl (pc0 := 13) (pc' := 17) rfl (hb hby d1_13) (by decide) (by decide) ?_
        show Steps p.tables e below (s₁.setTop (mkF m 17 #[.val (.int p1_0)] [(.int (1 : Int32))])) _
        exact k)
      have hret : (r1 p1_0) = (1 : Int32) := by unfold r1; rw [if_neg hc3_2, if_neg hc9_5]
      obtain ⟨fs, hr, hrun, hended, hW, hsame⟩ := X0.leave (v := some (.int (1 : Int32))) (fun h => by rw [Bd.returns] at h; cases h)
      refine ⟨_, _, pre7 _ ?_, hrun, hended, _, _, rfl, ?_, ⟨_, rfl⟩, hW, hsame.mono (by decide) (by decide)⟩
      · show Steps p.tables e below (s₁.setTop (mkF m 17 #[.val (.int p1_0)] [(.int (1 : Int32))])) _
        exact retN X0 hx (t := .boolean) Bd.returns (by simp) (hb hby d1_17) hr
      · show Q1 Z p1_0 h0 n0 _ s₁.heap _
        rw [e0]
        exact ⟨(by rw [hret]), N0, rfl⟩
theorem pn_1 : plainName "com/example/keys_to_proof/keystoproof/language/ScannerIsDigitPinLaw" = true := by first | (simp [plainName, overriddenIn]; done) | decide +kernel
theorem d2_0 : decode method_2_code 0 = .ok (.iload_n 0, 1) := by decide +kernel
theorem d2_1 : decode method_2_code 1 = .ok (.bipush 48, 2) := by decide +kernel
theorem d2_3 : decode method_2_code 3 = .ok (.if_icmp .eq 57, 3) := by decide +kernel
theorem d2_6 : decode method_2_code 6 = .ok (.iload_n 0, 1) := by decide +kernel
theorem d2_7 : decode method_2_code 7 = .ok (.bipush 49, 2) := by decide +kernel
theorem d2_9 : decode method_2_code 9 = .ok (.if_icmp .eq 51, 3) := by decide +kernel
theorem d2_12 : decode method_2_code 12 = .ok (.iload_n 0, 1) := by decide +kernel
theorem d2_13 : decode method_2_code 13 = .ok (.bipush 50, 2) := by decide +kernel
theorem d2_15 : decode method_2_code 15 = .ok (.if_icmp .eq 45, 3) := by decide +kernel
theorem d2_18 : decode method_2_code 18 = .ok (.iload_n 0, 1) := by decide +kernel
theorem d2_19 : decode method_2_code 19 = .ok (.bipush 51, 2) := by decide +kernel
theorem d2_21 : decode method_2_code 21 = .ok (.if_icmp .eq 39, 3) := by decide +kernel
theorem d2_24 : decode method_2_code 24 = .ok (.iload_n 0, 1) := by decide +kernel
theorem d2_25 : decode method_2_code 25 = .ok (.bipush 52, 2) := by decide +kernel
theorem d2_27 : decode method_2_code 27 = .ok (.if_icmp .eq 33, 3) := by decide +kernel
theorem d2_30 : decode method_2_code 30 = .ok (.iload_n 0, 1) := by decide +kernel
theorem d2_31 : decode method_2_code 31 = .ok (.bipush 53, 2) := by decide +kernel
theorem d2_33 : decode method_2_code 33 = .ok (.if_icmp .eq 27, 3) := by decide +kernel
theorem d2_36 : decode method_2_code 36 = .ok (.iload_n 0, 1) := by decide +kernel
theorem d2_37 : decode method_2_code 37 = .ok (.bipush 54, 2) := by decide +kernel
theorem d2_39 : decode method_2_code 39 = .ok (.if_icmp .eq 21, 3) := by decide +kernel
theorem d2_42 : decode method_2_code 42 = .ok (.iload_n 0, 1) := by decide +kernel
theorem d2_43 : decode method_2_code 43 = .ok (.bipush 55, 2) := by decide +kernel
theorem d2_45 : decode method_2_code 45 = .ok (.if_icmp .eq 15, 3) := by decide +kernel
theorem d2_48 : decode method_2_code 48 = .ok (.iload_n 0, 1) := by decide +kernel
theorem d2_49 : decode method_2_code 49 = .ok (.bipush 56, 2) := by decide +kernel
theorem d2_51 : decode method_2_code 51 = .ok (.if_icmp .eq 9, 3) := by decide +kernel
theorem d2_54 : decode method_2_code 54 = .ok (.iload_n 0, 1) := by decide +kernel
theorem d2_55 : decode method_2_code 55 = .ok (.bipush 57, 2) := by decide +kernel
theorem d2_57 : decode method_2_code 57 = .ok (.if_icmp .ne 7, 3) := by decide +kernel
theorem d2_60 : decode method_2_code 60 = .ok (.iconst 1, 1) := by decide +kernel
theorem d2_61 : decode method_2_code 61 = .ok (.goto 4, 3) := by decide +kernel
theorem d2_64 : decode method_2_code 64 = .ok (.iconst 0, 1) := by decide +kernel
theorem d2_65 : decode method_2_code 65 = .ok (.ireturn, 1) := by decide +kernel
theorem ef_2 (m : MethodId) (x0 : Int32) : entryFrame m #[(.int x0)] 1 = mkF m 0 #[.val (.int x0)] [] := by first | (simp [entryFrame, mkF, argsToLocals, Value.category]; done) | rfl
abbrev R2 : Room := { frames := 0, cells := 0, slots := 0, locals := 0 }
def r2 (p2_0 : Int32) : Int32 := (if p2_0 = (48 : Int32) then (1 : Int32) else (if p2_0 = (49 : Int32) then (1 : Int32) else (if p2_0 = (50 : Int32) then (1 : Int32) else (if p2_0 = (51 : Int32) then (1 : Int32) else (if p2_0 = (52 : Int32) then (1 : Int32) else (if p2_0 = (53 : Int32) then (1 : Int32) else (if p2_0 = (54 : Int32) then (1 : Int32) else (if p2_0 = (55 : Int32) then (1 : Int32) else (if p2_0 = (56 : Int32) then (1 : Int32) else (if p2_0 = (57 : Int32) then (1 : Int32) else (0 : Int32)))))))))))
def Q2 (Z : State) (p2_0 : Int32) (h0 : Heap) (n0 : Nat) (v : Option Value) (h : Heap) (L : List Loc) : Prop := v = some (.int (r2 p2_0)) ∧ Fr n0 L ∧ h = h0
set_option maxRecDepth 65536 in
set_option maxHeartbeats 40000000 in
theorem rm2 (l : Launch) (Z : State) (a0 : Array Value) (hw : ∀ d ∈ tables_1, d.before a0 Z = true) (ws : List Jvm.Cond) (p2_0 : Int32) (h0 : Heap) (n0 : Nat) (Z0 : n0 ≤ h0.size) :
    MetFree l (⟨"com/example/keys_to_proof/keystoproof/language/ScannerIsDigitPinLaw", "ref", "(I)Z"⟩ : MethodName) (head1 (Jvm.Cond.code (⟨"com/example/keys_to_proof/keystoproof/language/ScannerIsDigitPinLaw", "ref", "(I)Z"⟩ : MethodName) method_2_code 1 (some .boolean) :: ws) R2) (fun a U => a = #[(.int p2_0)] ∧ Z.Warmed39 U.vm ∧ U.heap = h0) (fun _ _ _ _ _ => True) (fun _ U o U' => ∃ v L, o = .returned v ∧ Q2 Z p2_0 h0 n0 v U'.heap L ∧ FrameEnd U o U' L R2.cells R2.slots) := by
  refine MetFree.of_bodySF (plainFor_of_name pn_1) hisR ?_
  intro p e s m args below meth c s₁ Bd hml0 hP hK
  obtain ⟨rfl, hZ, hh⟩ := hP
  have hx := Bd.exec
  have hby := Bd.bytes
  have hml : c.maxLocals = 1 := hml0
  have hown : s.vm.findClass "com/example/keys_to_proof/keystoproof/language/ScannerIsDigitPinLaw" = some m.cls := findClass_of_methodNamed Bd.named
  have hnm := (name_of_methodNamed Bd.named Bd.method).1
  have X0 : Stand p l e R2 s m #[(.int p2_0)] below meth c s₁ [] 0 0 := Stand.of_body Bd
  have e0 : s₁.heap = h0 := by rw [← hh, Bd.state]; rfl
  have N0 := Fr.nil n0
  have pre0 : ∀ t, Steps p.tables e below (s₁.setTop (mkF m 0 #[.val (.int p2_0)] [])) t → Steps p.tables e below (s₁.setTop (entryFrame m #[(.int p2_0)] 1)) t := fun t k => castTop (ef_2 m p2_0) k
  have pre1 : ∀ t, Steps p.tables e below (s₁.setTop (mkF m 3 #[.val (.int p2_0)] [(.int (48 : Int32)), (.int p2_0)])) t → Steps p.tables e below (s₁.setTop (entryFrame m #[(.int p2_0)] 1)) t := fun t k => pre0 t (by
    refine XS.iloadN X0.here hx rfl (hb hby d2_0) rfl ?_
    show Steps p.tables e below (s₁.setTop (mkF m 1 #[.val (.int p2_0)] [(.int p2_0)])) _
    refine XS.bipush X0.here hx rfl (hb hby d2_1) ?_
    show Steps p.tables e below (s₁.setTop (mkF m 3 #[.val (.int p2_0)] [(.int (48 : Int32)), (.int p2_0)])) _
    exact k)
  by_cases hc3_2 : p2_0 = (48 : Int32)
  · have pre3 : ∀ t, Steps p.tables e below (s₁.setTop (mkF m 65 #[.val (.int p2_0)] [(.int (1 : Int32))])) t → Steps p.tables e below (s₁.setTop (entryFrame m #[(.int p2_0)] 1)) t := fun t k => pre1 t (by
      refine XS.icmpYes X0.here hx rfl (pc0 := 3) (pc' := 60) rfl (hb hby d2_3) rfl (teq hc3_2).1 (by decide) (by decide) ?_
      show Steps p.tables e below (s₁.setTop (mkF m 60 #[.val (.int p2_0)] [])) _
      refine XS.iconst X0.here hx rfl (hb hby d2_60) ?_
      show Steps p.tables e below (s₁.setTop (mkF m 61 #[.val (.int p2_0)] [(.int (1 : Int32))])) _
      refine XS.goto X0.here hx rfl (pc0 := 61) (pc' := 65) rfl (hb hby d2_61) (by decide) (by decide) ?_
      show Steps p.tables e below (s₁.setTop (mkF m 65 #[.val (.int p2_0)] [(.int (1 : Int32))])) _
      exact k)
    have hret : (r2 p2_0) = (1 : Int32) := by unfold r2; rw [if_pos hc3_2]
    obtain ⟨fs, hr, hrun, hended, hW, hsame⟩ := X0.leave (v := some (.int (1 : Int32))) (fun h => by rw [Bd.returns] at h; cases h)
    refine ⟨_, _, pre3 _ ?_, hrun, hended, _, _, rfl, ?_, ⟨_, rfl⟩, hW, hsame.mono (by decide) (by decide)⟩
    · show Steps p.tables e below (s₁.setTop (mkF m 65 #[.val (.int p2_0)] [(.int (1 : Int32))])) _
      exact retN X0 hx (t := .boolean) Bd.returns (by simp) (hb hby d2_65) hr
    · show Q2 Z p2_0 h0 n0 _ s₁.heap _
      rw [e0]
      exact ⟨(by rw [hret]), N0, rfl⟩
  · have pre4 : ∀ t, Steps p.tables e below (s₁.setTop (mkF m 9 #[.val (.int p2_0)] [(.int (49 : Int32)), (.int p2_0)])) t → Steps p.tables e below (s₁.setTop (entryFrame m #[(.int p2_0)] 1)) t := fun t k => pre1 t (by
      refine XS.icmpNo X0.here hx rfl (hb hby d2_3) rfl (feq hc3_2).1 ?_
      show Steps p.tables e below (s₁.setTop (mkF m 6 #[.val (.int p2_0)] [])) _
      refine XS.iloadN X0.here hx rfl (hb hby d2_6) rfl ?_
      show Steps p.tables e below (s₁.setTop (mkF m 7 #[.val (.int p2_0)] [(.int p2_0)])) _
      refine XS.bipush X0.here hx rfl (hb hby d2_7) ?_
      show Steps p.tables e below (s₁.setTop (mkF m 9 #[.val (.int p2_0)] [(.int (49 : Int32)), (.int p2_0)])) _
      exact k)
    by_cases hc9_5 : p2_0 = (49 : Int32)
    · have pre6 : ∀ t, Steps p.tables e below (s₁.setTop (mkF m 65 #[.val (.int p2_0)] [(.int (1 : Int32))])) t → Steps p.tables e below (s₁.setTop (entryFrame m #[(.int p2_0)] 1)) t := fun t k => pre4 t (by
        refine XS.icmpYes X0.here hx rfl (pc0 := 9) (pc' := 60) rfl (hb hby d2_9) rfl (teq hc9_5).1 (by decide) (by decide) ?_
        show Steps p.tables e below (s₁.setTop (mkF m 60 #[.val (.int p2_0)] [])) _
        refine XS.iconst X0.here hx rfl (hb hby d2_60) ?_
        show Steps p.tables e below (s₁.setTop (mkF m 61 #[.val (.int p2_0)] [(.int (1 : Int32))])) _
        refine XS.goto X0.here hx rfl (pc0 := 61) (pc' := 65) rfl (hb hby d2_61) (by decide) (by decide) ?_
        show Steps p.tables e below (s₁.setTop (mkF m 65 #[.val (.int p2_0)] [(.int (1 : Int32))])) _
        exact k)
      have hret : (r2 p2_0) = (1 : Int32) := by unfold r2; rw [if_neg hc3_2, if_pos hc9_5]
      obtain ⟨fs, hr, hrun, hended, hW, hsame⟩ := X0.leave (v := some (.int (1 : Int32))) (fun h => by rw [Bd.returns] at h; cases h)
      refine ⟨_, _, pre6 _ ?_, hrun, hended, _, _, rfl, ?_, ⟨_, rfl⟩, hW, hsame.mono (by decide) (by decide)⟩
      · show Steps p.tables e below (s₁.setTop (mkF m 65 #[.val (.int p2_0)] [(.int (1 : Int32))])) _
        exact retN X0 hx (t := .boolean) Bd.returns (by simp) (hb hby d2_65) hr
      · show Q2 Z p2_0 h0 n0 _ s₁.heap _
        rw [e0]
        exact ⟨(by rw [hret]), N0, rfl⟩
    · have pre7 : ∀ t, Steps p.tables e below (s₁.setTop (mkF m 15 #[.val (.int p2_0)] [(.int (50 : Int32)), (.int p2_0)])) t → Steps p.tables e below (s₁.setTop (entryFrame m #[(.int p2_0)] 1)) t := fun t k => pre4 t (by
        refine XS.icmpNo X0.here hx rfl (hb hby d2_9) rfl (feq hc9_5).1 ?_
        show Steps p.tables e below (s₁.setTop (mkF m 12 #[.val (.int p2_0)] [])) _
        refine XS.iloadN X0.here hx rfl (hb hby d2_12) rfl ?_
        show Steps p.tables e below (s₁.setTop (mkF m 13 #[.val (.int p2_0)] [(.int p2_0)])) _
        refine XS.bipush X0.here hx rfl (hb hby d2_13) ?_
        show Steps p.tables e below (s₁.setTop (mkF m 15 #[.val (.int p2_0)] [(.int (50 : Int32)), (.int p2_0)])) _
        exact k)
      by_cases hc15_8 : p2_0 = (50 : Int32)
      · have pre9 : ∀ t, Steps p.tables e below (s₁.setTop (mkF m 65 #[.val (.int p2_0)] [(.int (1 : Int32))])) t → Steps p.tables e below (s₁.setTop (entryFrame m #[(.int p2_0)] 1)) t := fun t k => pre7 t (by
          refine XS.icmpYes X0.here hx rfl (pc0 := 15) (pc' := 60) rfl (hb hby d2_15) rfl (teq hc15_8).1 (by decide) (by decide) ?_
          show Steps p.tables e below (s₁.setTop (mkF m 60 #[.val (.int p2_0)] [])) _
          refine XS.iconst X0.here hx rfl (hb hby d2_60) ?_
          show Steps p.tables e below (s₁.setTop (mkF m 61 #[.val (.int p2_0)] [(.int (1 : Int32))])) _
          refine XS.goto X0.here hx rfl (pc0 := 61) (pc' := 65) rfl (hb hby d2_61) (by decide) (by decide) ?_
          show Steps p.tables e below (s₁.setTop (mkF m 65 #[.val (.int p2_0)] [(.int (1 : Int32))])) _
          exact k)
        have hret : (r2 p2_0) = (1 : Int32) := by unfold r2; rw [if_neg hc3_2, if_neg hc9_5, if_pos hc15_8]
        obtain ⟨fs, hr, hrun, hended, hW, hsame⟩ := X0.leave (v := some (.int (1 : Int32))) (fun h => by rw [Bd.returns] at h; cases h)
        refine ⟨_, _, pre9 _ ?_, hrun, hended, _, _, rfl, ?_, ⟨_, rfl⟩, hW, hsame.mono (by decide) (by decide)⟩
        · show Steps p.tables e below (s₁.setTop (mkF m 65 #[.val (.int p2_0)] [(.int (1 : Int32))])) _
          exact retN X0 hx (t := .boolean) Bd.returns (by simp) (hb hby d2_65) hr
        · show Q2 Z p2_0 h0 n0 _ s₁.heap _
          rw [e0]
          exact ⟨(by rw [hret]), N0, rfl⟩
      · have pre10 : ∀ t, Steps p.tables e below (s₁.setTop (mkF m 21 #[.val (.int p2_0)] [(.int (51 : Int32)), (.int p2_0)])) t → Steps p.tables e below (s₁.setTop (entryFrame m #[(.int p2_0)] 1)) t := fun t k => pre7 t (by
          refine XS.icmpNo X0.here hx rfl (hb hby d2_15) rfl (feq hc15_8).1 ?_
          show Steps p.tables e below (s₁.setTop (mkF m 18 #[.val (.int p2_0)] [])) _
          refine XS.iloadN X0.here hx rfl (hb hby d2_18) rfl ?_
          show Steps p.tables e below (s₁.setTop (mkF m 19 #[.val (.int p2_0)] [(.int p2_0)])) _
          refine XS.bipush X0.here hx rfl (hb hby d2_19) ?_
          show Steps p.tables e below (s₁.setTop (mkF m 21 #[.val (.int p2_0)] [(.int (51 : Int32)), (.int p2_0)])) _
          exact k)
        by_cases hc21_11 : p2_0 = (51 : Int32)
        · have pre12 : ∀ t, Steps p.tables e below (s₁.setTop (mkF m 65 #[.val (.int p2_0)] [(.int (1 : Int32))])) t → Steps p.tables e below (s₁.setTop (entryFrame m #[(.int p2_0)] 1)) t := fun t k => pre10 t (by
            refine XS.icmpYes X0.here hx rfl (pc0 := 21) (pc' := 60) rfl (hb hby d2_21) rfl (teq hc21_11).1 (by decide) (by decide) ?_
            show Steps p.tables e below (s₁.setTop (mkF m 60 #[.val (.int p2_0)] [])) _
            refine XS.iconst X0.here hx rfl (hb hby d2_60) ?_
            show Steps p.tables e below (s₁.setTop (mkF m 61 #[.val (.int p2_0)] [(.int (1 : Int32))])) _
            refine XS.goto X0.here hx rfl (pc0 := 61) (pc' := 65) rfl (hb hby d2_61) (by decide) (by decide) ?_
            show Steps p.tables e below (s₁.setTop (mkF m 65 #[.val (.int p2_0)] [(.int (1 : Int32))])) _
            exact k)
          have hret : (r2 p2_0) = (1 : Int32) := by unfold r2; rw [if_neg hc3_2, if_neg hc9_5, if_neg hc15_8, if_pos hc21_11]
          obtain ⟨fs, hr, hrun, hended, hW, hsame⟩ := X0.leave (v := some (.int (1 : Int32))) (fun h => by rw [Bd.returns] at h; cases h)
          refine ⟨_, _, pre12 _ ?_, hrun, hended, _, _, rfl, ?_, ⟨_, rfl⟩, hW, hsame.mono (by decide) (by decide)⟩
          · show Steps p.tables e below (s₁.setTop (mkF m 65 #[.val (.int p2_0)] [(.int (1 : Int32))])) _
            exact retN X0 hx (t := .boolean) Bd.returns (by simp) (hb hby d2_65) hr
          · show Q2 Z p2_0 h0 n0 _ s₁.heap _
            rw [e0]
            exact ⟨(by rw [hret]), N0, rfl⟩
        · have pre13 : ∀ t, Steps p.tables e below (s₁.setTop (mkF m 27 #[.val (.int p2_0)] [(.int (52 : Int32)), (.int p2_0)])) t → Steps p.tables e below (s₁.setTop (entryFrame m #[(.int p2_0)] 1)) t := fun t k => pre10 t (by
            refine XS.icmpNo X0.here hx rfl (hb hby d2_21) rfl (feq hc21_11).1 ?_
            show Steps p.tables e below (s₁.setTop (mkF m 24 #[.val (.int p2_0)] [])) _
            refine XS.iloadN X0.here hx rfl (hb hby d2_24) rfl ?_
            show Steps p.tables e below (s₁.setTop (mkF m 25 #[.val (.int p2_0)] [(.int p2_0)])) _
            refine XS.bipush X0.here hx rfl (hb hby d2_25) ?_
            show Steps p.tables e below (s₁.setTop (mkF m 27 #[.val (.int p2_0)] [(.int (52 : Int32)), (.int p2_0)])) _
            exact k)
          by_cases hc27_14 : p2_0 = (52 : Int32)
          · have pre15 : ∀ t, Steps p.tables e below (s₁.setTop (mkF m 65 #[.val (.int p2_0)] [(.int (1 : Int32))])) t → Steps p.tables e below (s₁.setTop (entryFrame m #[(.int p2_0)] 1)) t := fun t k => pre13 t (by
              refine XS.icmpYes X0.here hx rfl (pc0 := 27) (pc' := 60) rfl (hb hby d2_27) rfl (teq hc27_14).1 (by decide) (by decide) ?_
              show Steps p.tables e below (s₁.setTop (mkF m 60 #[.val (.int p2_0)] [])) _
              refine XS.iconst X0.here hx rfl (hb hby d2_60) ?_
              show Steps p.tables e below (s₁.setTop (mkF m 61 #[.val (.int p2_0)] [(.int (1 : Int32))])) _
              refine XS.goto X0.here hx rfl (pc0 := 61) (pc' := 65) rfl (hb hby d2_61) (by decide) (by decide) ?_
              show Steps p.tables e below (s₁.setTop (mkF m 65 #[.val (.int p2_0)] [(.int (1 : Int32))])) _
              exact k)
            have hret : (r2 p2_0) = (1 : Int32) := by unfold r2; rw [if_neg hc3_2, if_neg hc9_5, if_neg hc15_8, if_neg hc21_11, if_pos hc27_14]
            obtain ⟨fs, hr, hrun, hended, hW, hsame⟩ := X0.leave (v := some (.int (1 : Int32))) (fun h => by rw [Bd.returns] at h; cases h)
            refine ⟨_, _, pre15 _ ?_, hrun, hended, _, _, rfl, ?_, ⟨_, rfl⟩, hW, hsame.mono (by decide) (by decide)⟩
            · show Steps p.tables e below (s₁.setTop (mkF m 65 #[.val (.int p2_0)] [(.int (1 : Int32))])) _
              exact retN X0 hx (t := .boolean) Bd.returns (by simp) (hb hby d2_65) hr
            · show Q2 Z p2_0 h0 n0 _ s₁.heap _
              rw [e0]
              exact ⟨(by rw [hret]), N0, rfl⟩
          · have pre16 : ∀ t, Steps p.tables e below (s₁.setTop (mkF m 33 #[.val (.int p2_0)] [(.int (53 : Int32)), (.int p2_0)])) t → Steps p.tables e below (s₁.setTop (entryFrame m #[(.int p2_0)] 1)) t := fun t k => pre13 t (by
              refine XS.icmpNo X0.here hx rfl (hb hby d2_27) rfl (feq hc27_14).1 ?_
              show Steps p.tables e below (s₁.setTop (mkF m 30 #[.val (.int p2_0)] [])) _
              refine XS.iloadN X0.here hx rfl (hb hby d2_30) rfl ?_
              show Steps p.tables e below (s₁.setTop (mkF m 31 #[.val (.int p2_0)] [(.int p2_0)])) _
              refine XS.bipush X0.here hx rfl (hb hby d2_31) ?_
              show Steps p.tables e below (s₁.setTop (mkF m 33 #[.val (.int p2_0)] [(.int (53 : Int32)), (.int p2_0)])) _
              exact k)
            by_cases hc33_17 : p2_0 = (53 : Int32)
            · have pre18 : ∀ t, Steps p.tables e below (s₁.setTop (mkF m 65 #[.val (.int p2_0)] [(.int (1 : Int32))])) t → Steps p.tables e below (s₁.setTop (entryFrame m #[(.int p2_0)] 1)) t := fun t k => pre16 t (by
                refine XS.icmpYes X0.here hx rfl (pc0 := 33) (pc' := 60) rfl (hb hby d2_33) rfl (teq hc33_17).1 (by decide) (by decide) ?_
                show Steps p.tables e below (s₁.setTop (mkF m 60 #[.val (.int p2_0)] [])) _
                refine XS.iconst X0.here hx rfl (hb hby d2_60) ?_
                show Steps p.tables e below (s₁.setTop (mkF m 61 #[.val (.int p2_0)] [(.int (1 : Int32))])) _
                refine XS.goto X0.here hx rfl (pc0 := 61) (pc' := 65) rfl (hb hby d2_61) (by decide) (by decide) ?_
                show Steps p.tables e below (s₁.setTop (mkF m 65 #[.val (.int p2_0)] [(.int (1 : Int32))])) _
                exact k)
              have hret : (r2 p2_0) = (1 : Int32) := by unfold r2; rw [if_neg hc3_2, if_neg hc9_5, if_neg hc15_8, if_neg hc21_11, if_neg hc27_14, if_pos hc33_17]
              obtain ⟨fs, hr, hrun, hended, hW, hsame⟩ := X0.leave (v := some (.int (1 : Int32))) (fun h => by rw [Bd.returns] at h; cases h)
              refine ⟨_, _, pre18 _ ?_, hrun, hended, _, _, rfl, ?_, ⟨_, rfl⟩, hW, hsame.mono (by decide) (by decide)⟩
              · show Steps p.tables e below (s₁.setTop (mkF m 65 #[.val (.int p2_0)] [(.int (1 : Int32))])) _
                exact retN X0 hx (t := .boolean) Bd.returns (by simp) (hb hby d2_65) hr
              · show Q2 Z p2_0 h0 n0 _ s₁.heap _
                rw [e0]
                exact ⟨(by rw [hret]), N0, rfl⟩
            · have pre19 : ∀ t, Steps p.tables e below (s₁.setTop (mkF m 39 #[.val (.int p2_0)] [(.int (54 : Int32)), (.int p2_0)])) t → Steps p.tables e below (s₁.setTop (entryFrame m #[(.int p2_0)] 1)) t := fun t k => pre16 t (by
                refine XS.icmpNo X0.here hx rfl (hb hby d2_33) rfl (feq hc33_17).1 ?_
                show Steps p.tables e below (s₁.setTop (mkF m 36 #[.val (.int p2_0)] [])) _
                refine XS.iloadN X0.here hx rfl (hb hby d2_36) rfl ?_
                show Steps p.tables e below (s₁.setTop (mkF m 37 #[.val (.int p2_0)] [(.int p2_0)])) _
                refine XS.bipush X0.here hx rfl (hb hby d2_37) ?_
                show Steps p.tables e below (s₁.setTop (mkF m 39 #[.val (.int p2_0)] [(.int (54 : Int32)), (.int p2_0)])) _
                exact k)
              by_cases hc39_20 : p2_0 = (54 : Int32)
              · have pre21 : ∀ t, Steps p.tables e below (s₁.setTop (mkF m 65 #[.val (.int p2_0)] [(.int (1 : Int32))])) t → Steps p.tables e below (s₁.setTop (entryFrame m #[(.int p2_0)] 1)) t := fun t k => pre19 t (by
                  refine XS.icmpYes X0.here hx rfl (pc0 := 39) (pc' := 60) rfl (hb hby d2_39) rfl (teq hc39_20).1 (by decide) (by decide) ?_
                  show Steps p.tables e below (s₁.setTop (mkF m 60 #[.val (.int p2_0)] [])) _
                  refine XS.iconst X0.here hx rfl (hb hby d2_60) ?_
                  show Steps p.tables e below (s₁.setTop (mkF m 61 #[.val (.int p2_0)] [(.int (1 : Int32))])) _
                  refine XS.goto X0.here hx rfl (pc0 := 61) (pc' := 65) rfl (hb hby d2_61) (by decide) (by decide) ?_
                  show Steps p.tables e below (s₁.setTop (mkF m 65 #[.val (.int p2_0)] [(.int (1 : Int32))])) _
                  exact k)
                have hret : (r2 p2_0) = (1 : Int32) := by unfold r2; rw [if_neg hc3_2, if_neg hc9_5, if_neg hc15_8, if_neg hc21_11, if_neg hc27_14, if_neg hc33_17, if_pos hc39_20]
                obtain ⟨fs, hr, hrun, hended, hW, hsame⟩ := X0.leave (v := some (.int (1 : Int32))) (fun h => by rw [Bd.returns] at h; cases h)
                refine ⟨_, _, pre21 _ ?_, hrun, hended, _, _, rfl, ?_, ⟨_, rfl⟩, hW, hsame.mono (by decide) (by decide)⟩
                · show Steps p.tables e below (s₁.setTop (mkF m 65 #[.val (.int p2_0)] [(.int (1 : Int32))])) _
                  exact retN X0 hx (t := .boolean) Bd.returns (by simp) (hb hby d2_65) hr
                · show Q2 Z p2_0 h0 n0 _ s₁.heap _
                  rw [e0]
                  exact ⟨(by rw [hret]), N0, rfl⟩
              · have pre22 : ∀ t, Steps p.tables e below (s₁.setTop (mkF m 45 #[.val (.int p2_0)] [(.int (55 : Int32)), (.int p2_0)])) t → Steps p.tables e below (s₁.setTop (entryFrame m #[(.int p2_0)] 1)) t := fun t k => pre19 t (by
                  refine XS.icmpNo X0.here hx rfl (hb hby d2_39) rfl (feq hc39_20).1 ?_
                  show Steps p.tables e below (s₁.setTop (mkF m 42 #[.val (.int p2_0)] [])) _
                  refine XS.iloadN X0.here hx rfl (hb hby d2_42) rfl ?_
                  show Steps p.tables e below (s₁.setTop (mkF m 43 #[.val (.int p2_0)] [(.int p2_0)])) _
                  refine XS.bipush X0.here hx rfl (hb hby d2_43) ?_
                  show Steps p.tables e below (s₁.setTop (mkF m 45 #[.val (.int p2_0)] [(.int (55 : Int32)), (.int p2_0)])) _
                  exact k)
                by_cases hc45_23 : p2_0 = (55 : Int32)
                · have pre24 : ∀ t, Steps p.tables e below (s₁.setTop (mkF m 65 #[.val (.int p2_0)] [(.int (1 : Int32))])) t → Steps p.tables e below (s₁.setTop (entryFrame m #[(.int p2_0)] 1)) t := fun t k => pre22 t (by
                    refine XS.icmpYes X0.here hx rfl (pc0 := 45) (pc' := 60) rfl (hb hby d2_45) rfl (teq hc45_23).1 (by decide) (by decide) ?_
                    show Steps p.tables e below (s₁.setTop (mkF m 60 #[.val (.int p2_0)] [])) _
                    refine XS.iconst X0.here hx rfl (hb hby d2_60) ?_
                    show Steps p.tables e below (s₁.setTop (mkF m 61 #[.val (.int p2_0)] [(.int (1 : Int32))])) _
                    refine XS.goto X0.here hx rfl (pc0 := 61) (pc' := 65) rfl (hb hby d2_61) (by decide) (by decide) ?_
                    show Steps p.tables e below (s₁.setTop (mkF m 65 #[.val (.int p2_0)] [(.int (1 : Int32))])) _
                    exact k)
                  have hret : (r2 p2_0) = (1 : Int32) := by unfold r2; rw [if_neg hc3_2, if_neg hc9_5, if_neg hc15_8, if_neg hc21_11, if_neg hc27_14, if_neg hc33_17, if_neg hc39_20, if_pos hc45_23]
                  obtain ⟨fs, hr, hrun, hended, hW, hsame⟩ := X0.leave (v := some (.int (1 : Int32))) (fun h => by rw [Bd.returns] at h; cases h)
                  refine ⟨_, _, pre24 _ ?_, hrun, hended, _, _, rfl, ?_, ⟨_, rfl⟩, hW, hsame.mono (by decide) (by decide)⟩
                  · show Steps p.tables e below (s₁.setTop (mkF m 65 #[.val (.int p2_0)] [(.int (1 : Int32))])) _
                    exact retN X0 hx (t := .boolean) Bd.returns (by simp) (hb hby d2_65) hr
                  · show Q2 Z p2_0 h0 n0 _ s₁.heap _
                    rw [e0]
                    exact ⟨(by rw [hret]), N0, rfl⟩
                · have pre25 : ∀ t, Steps p.tables e below (s₁.setTop (mkF m 51 #[.val (.int p2_0)] [(.int (56 : Int32)), (.int p2_0)])) t → Steps p.tables e below (s₁.setTop (entryFrame m #[(.int p2_0)] 1)) t := fun t k => pre22 t (by
                    refine XS.icmpNo X0.here hx rfl (hb hby d2_45) rfl (feq hc45_23).1 ?_
                    show Steps p.tables e below (s₁.setTop (mkF m 48 #[.val (.int p2_0)] [])) _
                    refine XS.iloadN X0.here hx rfl (hb hby d2_48) rfl ?_
                    show Steps p.tables e below (s₁.setTop (mkF m 49 #[.val (.int p2_0)] [(.int p2_0)])) _
                    refine XS.bipush X0.here hx rfl (hb hby d2_49) ?_
                    show Steps p.tables e below (s₁.setTop (mkF m 51 #[.val (.int p2_0)] [(.int (56 : Int32)), (.int p2_0)])) _
                    exact k)
                  by_cases hc51_26 : p2_0 = (56 : Int32)
                  · have pre27 : ∀ t, Steps p.tables e below (s₁.setTop (mkF m 65 #[.val (.int p2_0)] [(.int (1 : Int32))])) t → Steps p.tables e below (s₁.setTop (entryFrame m #[(.int p2_0)] 1)) t := fun t k => pre25 t (by
                      refine XS.icmpYes X0.here hx rfl (pc0 := 51) (pc' := 60) rfl (hb hby d2_51) rfl (teq hc51_26).1 (by decide) (by decide) ?_
                      show Steps p.tables e below (s₁.setTop (mkF m 60 #[.val (.int p2_0)] [])) _
                      refine XS.iconst X0.here hx rfl (hb hby d2_60) ?_
                      show Steps p.tables e below (s₁.setTop (mkF m 61 #[.val (.int p2_0)] [(.int (1 : Int32))])) _
                      refine XS.goto X0.here hx rfl (pc0 := 61) (pc' := 65) rfl (hb hby d2_61) (by decide) (by decide) ?_
                      show Steps p.tables e below (s₁.setTop (mkF m 65 #[.val (.int p2_0)] [(.int (1 : Int32))])) _
                      exact k)
                    have hret : (r2 p2_0) = (1 : Int32) := by unfold r2; rw [if_neg hc3_2, if_neg hc9_5, if_neg hc15_8, if_neg hc21_11, if_neg hc27_14, if_neg hc33_17, if_neg hc39_20, if_neg hc45_23, if_pos hc51_26]
                    obtain ⟨fs, hr, hrun, hended, hW, hsame⟩ := X0.leave (v := some (.int (1 : Int32))) (fun h => by rw [Bd.returns] at h; cases h)
                    refine ⟨_, _, pre27 _ ?_, hrun, hended, _, _, rfl, ?_, ⟨_, rfl⟩, hW, hsame.mono (by decide) (by decide)⟩
                    · show Steps p.tables e below (s₁.setTop (mkF m 65 #[.val (.int p2_0)] [(.int (1 : Int32))])) _
                      exact retN X0 hx (t := .boolean) Bd.returns (by simp) (hb hby d2_65) hr
                    · show Q2 Z p2_0 h0 n0 _ s₁.heap _
                      rw [e0]
                      exact ⟨(by rw [hret]), N0, rfl⟩
                  · have pre28 : ∀ t, Steps p.tables e below (s₁.setTop (mkF m 57 #[.val (.int p2_0)] [(.int (57 : Int32)), (.int p2_0)])) t → Steps p.tables e below (s₁.setTop (entryFrame m #[(.int p2_0)] 1)) t := fun t k => pre25 t (by
                      refine XS.icmpNo X0.here hx rfl (hb hby d2_51) rfl (feq hc51_26).1 ?_
                      show Steps p.tables e below (s₁.setTop (mkF m 54 #[.val (.int p2_0)] [])) _
                      refine XS.iloadN X0.here hx rfl (hb hby d2_54) rfl ?_
                      show Steps p.tables e below (s₁.setTop (mkF m 55 #[.val (.int p2_0)] [(.int p2_0)])) _
                      refine XS.bipush X0.here hx rfl (hb hby d2_55) ?_
                      show Steps p.tables e below (s₁.setTop (mkF m 57 #[.val (.int p2_0)] [(.int (57 : Int32)), (.int p2_0)])) _
                      exact k)
                    by_cases hc57_29 : p2_0 = (57 : Int32)
                    · have pre30 : ∀ t, Steps p.tables e below (s₁.setTop (mkF m 65 #[.val (.int p2_0)] [(.int (1 : Int32))])) t → Steps p.tables e below (s₁.setTop (entryFrame m #[(.int p2_0)] 1)) t := fun t k => pre28 t (by
                        refine XS.icmpNo X0.here hx rfl (hb hby d2_57) rfl (teq hc57_29).2 ?_
                        show Steps p.tables e below (s₁.setTop (mkF m 60 #[.val (.int p2_0)] [])) _
                        refine XS.iconst X0.here hx rfl (hb hby d2_60) ?_
                        show Steps p.tables e below (s₁.setTop (mkF m 61 #[.val (.int p2_0)] [(.int (1 : Int32))])) _
                        refine XS.goto X0.here hx rfl (pc0 := 61) (pc' := 65) rfl (hb hby d2_61) (by decide) (by decide) ?_
                        show Steps p.tables e below (s₁.setTop (mkF m 65 #[.val (.int p2_0)] [(.int (1 : Int32))])) _
                        exact k)
                      have hret : (r2 p2_0) = (1 : Int32) := by unfold r2; rw [if_neg hc3_2, if_neg hc9_5, if_neg hc15_8, if_neg hc21_11, if_neg hc27_14, if_neg hc33_17, if_neg hc39_20, if_neg hc45_23, if_neg hc51_26, if_pos hc57_29]
                      obtain ⟨fs, hr, hrun, hended, hW, hsame⟩ := X0.leave (v := some (.int (1 : Int32))) (fun h => by rw [Bd.returns] at h; cases h)
                      refine ⟨_, _, pre30 _ ?_, hrun, hended, _, _, rfl, ?_, ⟨_, rfl⟩, hW, hsame.mono (by decide) (by decide)⟩
                      · show Steps p.tables e below (s₁.setTop (mkF m 65 #[.val (.int p2_0)] [(.int (1 : Int32))])) _
                        exact retN X0 hx (t := .boolean) Bd.returns (by simp) (hb hby d2_65) hr
                      · show Q2 Z p2_0 h0 n0 _ s₁.heap _
                        rw [e0]
                        exact ⟨(by rw [hret]), N0, rfl⟩
                    · have pre31 : ∀ t, Steps p.tables e below (s₁.setTop (mkF m 65 #[.val (.int p2_0)] [(.int (0 : Int32))])) t → Steps p.tables e below (s₁.setTop (entryFrame m #[(.int p2_0)] 1)) t := fun t k => pre28 t (by
                        refine XS.icmpYes X0.here hx rfl (pc0 := 57) (pc' := 64) rfl (hb hby d2_57) rfl (feq hc57_29).2 (by decide) (by decide) ?_
                        show Steps p.tables e below (s₁.setTop (mkF m 64 #[.val (.int p2_0)] [])) _
                        refine XS.iconst X0.here hx rfl (hb hby d2_64) ?_
                        show Steps p.tables e below (s₁.setTop (mkF m 65 #[.val (.int p2_0)] [(.int (0 : Int32))])) _
                        exact k)
                      have hret : (r2 p2_0) = (0 : Int32) := by unfold r2; rw [if_neg hc3_2, if_neg hc9_5, if_neg hc15_8, if_neg hc21_11, if_neg hc27_14, if_neg hc33_17, if_neg hc39_20, if_neg hc45_23, if_neg hc51_26, if_neg hc57_29]
                      obtain ⟨fs, hr, hrun, hended, hW, hsame⟩ := X0.leave (v := some (.int (0 : Int32))) (fun h => by rw [Bd.returns] at h; cases h)
                      refine ⟨_, _, pre31 _ ?_, hrun, hended, _, _, rfl, ?_, ⟨_, rfl⟩, hW, hsame.mono (by decide) (by decide)⟩
                      · show Steps p.tables e below (s₁.setTop (mkF m 65 #[.val (.int p2_0)] [(.int (0 : Int32))])) _
                        exact retN X0 hx (t := .boolean) Bd.returns (by simp) (hb hby d2_65) hr
                      · show Q2 Z p2_0 h0 n0 _ s₁.heap _
                        rw [e0]
                        exact ⟨(by rw [hret]), N0, rfl⟩
theorem pd_0 : parseMethodDescriptor "(I)Z" = some ⟨[.int], some .boolean⟩ := by decide +kernel
theorem ef_0 (m : MethodId) (x0 : Int32) (x1 : Int32) : entryFrame m #[(.int x0), (.int x1)] maxLocals = mkF m 0 #[.val (.int x0), .val (.int x1), .unset, .unset, .unset] [] := by first | (simp [entryFrame, mkF, argsToLocals, Value.category, maxLocals]; done) | rfl
def v0_7 (p0_1 : Int32) : Int32 := ((44 : Int32) + (p0_1 &&& (15 : Int32)))
set_option maxHeartbeats 4000000 in
theorem own_main (x : Int32) : r1 x = r2 x := by
  have e : ∀ k : Int32, (x = k) = (x.toInt = k.toInt) := fun k => propext Int32.toInt_inj.symm
  unfold r1 r2
  simp only [e, Int32.lt_iff_toInt_lt, show (48 : Int32).toInt = 48 from rfl, show (49 : Int32).toInt = 49 from rfl, show (50 : Int32).toInt = 50 from rfl, show (51 : Int32).toInt = 51 from rfl, show (52 : Int32).toInt = 52 from rfl, show (53 : Int32).toInt = 53 from rfl, show (54 : Int32).toInt = 54 from rfl, show (55 : Int32).toInt = 55 from rfl, show (56 : Int32).toInt = 56 from rfl, show (57 : Int32).toInt = 57 from rfl]
  generalize x.toInt = n
  repeat' split
  all_goals first | rfl | omega
def Q0 (Z : State) (p0_0 : Int32) (p0_1 : Int32) (h0 : Heap) (n0 : Nat) (v : Option Value) (h : Heap) (L : List Loc) : Prop := v = some (.int (1 : Int32)) ∧ Fr n0 L
set_option maxRecDepth 65536 in
set_option maxHeartbeats 40000000 in
theorem rm0 (l : Launch) (Z : State) (a0 : Array Value) (hw : ∀ d ∈ tables_1, d.before a0 Z = true) (ws : List Jvm.Cond) (p0_0 : Int32) (p0_1 : Int32) (h0 : Heap) (n0 : Nat) (Z0 : n0 ≤ h0.size) :
    MetFree l x (head1 (Jvm.Cond.code x code maxLocals ret :: ws) room_1) (fun a U => a = #[(.int p0_0), (.int p0_1)] ∧ Z.Warmed39 U.vm ∧ U.heap = h0) (fun _ _ _ _ _ => True) (fun _ U o U' => ∃ v L, o = .returned v ∧ Q0 Z p0_0 p0_1 h0 n0 v U'.heap L ∧ FrameEnd U o U' L room_1.cells room_1.slots) := by
  refine MetFree.of_bodySF (plainFor_of_name pn_1) hisR ?_
  intro p e s m args below meth c s₁ Bd hml0 hP hK
  obtain ⟨rfl, hZ, hh⟩ := hP
  have hx := Bd.exec
  have hby := Bd.bytes
  have hml : c.maxLocals = 5 := hml0
  have hown : s.vm.findClass "com/example/keys_to_proof/keystoproof/language/ScannerIsDigitPinLaw" = some m.cls := findClass_of_methodNamed Bd.named
  have hnm := (name_of_methodNamed Bd.named Bd.method).1
  have X0 : Stand p l e room_1 s m #[(.int p0_0), (.int p0_1)] below meth c s₁ [] 0 0 := Stand.of_body Bd
  have e0 : s₁.heap = h0 := by rw [← hh, Bd.state]; rfl
  have N0 := Fr.nil n0
  have pre0 : ∀ t, Steps p.tables e below (s₁.setTop (mkF m 0 #[.val (.int p0_0), .val (.int p0_1), .unset, .unset, .unset] [])) t → Steps p.tables e below (s₁.setTop (entryFrame m #[(.int p0_0), (.int p0_1)] maxLocals)) t := fun t k => castTop (ef_0 m p0_0 p0_1) k
  have pre1 : ∀ t, Steps p.tables e below (s₁.setTop (mkF m 9 #[.val (.int p0_0), .val (.int p0_1), .val (.int (v0_7 p0_1)), .unset, .unset] [(.int p0_0)])) t → Steps p.tables e below (s₁.setTop (entryFrame m #[(.int p0_0), (.int p0_1)] maxLocals)) t := fun t k => pre0 t (by
    refine XS.bipush X0.here hx rfl (hb hby at_0) ?_
    show Steps p.tables e below (s₁.setTop (mkF m 2 #[.val (.int p0_0), .val (.int p0_1), .unset, .unset, .unset] [(.int (44 : Int32))])) _
    refine XS.iloadN X0.here hx rfl (hb hby at_2) rfl ?_
    show Steps p.tables e below (s₁.setTop (mkF m 3 #[.val (.int p0_0), .val (.int p0_1), .unset, .unset, .unset] [(.int p0_1), (.int (44 : Int32))])) _
    refine XS.bipush X0.here hx rfl (hb hby at_3) ?_
    show Steps p.tables e below (s₁.setTop (mkF m 5 #[.val (.int p0_0), .val (.int p0_1), .unset, .unset, .unset] [(.int (15 : Int32)), (.int p0_1), (.int (44 : Int32))])) _
    refine XS.iand X0.here hx rfl (hb hby at_5) rfl ?_
    show Steps p.tables e below (s₁.setTop (mkF m 6 #[.val (.int p0_0), .val (.int p0_1), .unset, .unset, .unset] [(.int (p0_1 &&& (15 : Int32))), (.int (44 : Int32))])) _
    refine XS.iadd X0.here hx rfl (hb hby at_6) rfl ?_
    show Steps p.tables e below (s₁.setTop (mkF m 7 #[.val (.int p0_0), .val (.int p0_1), .unset, .unset, .unset] [(.int ((44 : Int32) + (p0_1 &&& (15 : Int32))))])) _
    show Steps p.tables e below (s₁.setTop (mkF m 7 #[.val (.int p0_0), .val (.int p0_1), .unset, .unset, .unset] [(.int (v0_7 p0_1))])) _
    refine XS.istoreN X0.here hx rfl (hb hby at_7) rfl (l' := #[.val (.int p0_0), .val (.int p0_1), .val (.int (v0_7 p0_1)), .unset, .unset]) rfl ?_
    show Steps p.tables e below (s₁.setTop (mkF m 8 #[.val (.int p0_0), .val (.int p0_1), .val (.int (v0_7 p0_1)), .unset, .unset] [])) _
    refine XS.iloadN X0.here hx rfl (hb hby at_8) rfl ?_
    show Steps p.tables e below (s₁.setTop (mkF m 9 #[.val (.int p0_0), .val (.int p0_1), .val (.int (v0_7 p0_1)), .unset, .unset] [(.int p0_0)])) _
    exact k)
  obtain ⟨_, _, ⟨T2, L2, k2, n2⟩, -, X2, ⟨Lc2, hQ2, l2, y2, z2⟩, st2⟩ := Jvm.LawKit.callS X0 hx (y := (⟨"com/example/keys_to_proof/keystoproof/language/Scanner", "isDigit", "(I)Z"⟩ : MethodName)) hown (mvT hZ (hw _ (List.mem_of_getElem? (i := 0) rfl))) (mvT hZ (hw _ (List.mem_of_getElem? (i := 1) rfl))) (mvT hZ (hw _ (List.mem_of_getElem? (i := 2) rfl))) (mvT hZ (hw _ (List.mem_of_getElem? (i := 3) rfl))) (by decide) (backOf (W := 0) (rm1 l Z a0 hw [] p0_0 h0 n0 Z0 ) hZ (hw _ (List.mem_of_getElem? (i := 3) rfl)) (hw _ (List.mem_of_getElem? (i := 2) rfl)) (by decide) (by decide)) (g := (mkF m 9 #[.val (.int p0_0), .val (.int p0_1), .val (.int (v0_7 p0_1)), .unset, .unset] [(.int p0_0)])) rfl (by rw [hml]; rfl) (argsL := [(.int p0_0)]) (rest := []) (lenOf pd_0 rfl) rfl (by show 2 * 0 + _ ≤ _; exact Nat.le_of_eq rfl) (hb hby at_9) (fun _ _ => ⟨rfl, e0, (by decide : 0 + 0 ≤ _), (by decide : 0 + 0 ≤ _)⟩)
  dsimp only [Pt.U, Pt.locs, Pt.cells, Pt.slots] at X2 l2 y2 z2 st2 hQ2
  subst l2 y2 z2
  obtain ⟨rfl, M2, e2⟩ := hQ2
  have N2 := Fr.app N0 M2
  have pre2 : ∀ t, Steps p.tables e below (T2.setTop (mkF m 12 #[.val (.int p0_0), .val (.int p0_1), .val (.int (v0_7 p0_1)), .unset, .unset] [(.int (r1 p0_0))])) t → Steps p.tables e below (s₁.setTop (entryFrame m #[(.int p0_0), (.int p0_1)] maxLocals)) t := fun t k => pre1 t (st2 t k)
  have pre3 : ∀ t, Steps p.tables e below (T2.setTop (mkF m 13 #[.val (.int p0_0), .val (.int p0_1), .val (.int (v0_7 p0_1)), .unset, .unset] [(.int p0_0), (.int (r1 p0_0))])) t → Steps p.tables e below (s₁.setTop (entryFrame m #[(.int p0_0), (.int p0_1)] maxLocals)) t := fun t k => pre2 t (by
    refine XS.iloadN X2.here hx rfl (hb hby at_12) rfl ?_
    show Steps p.tables e below (T2.setTop (mkF m 13 #[.val (.int p0_0), .val (.int p0_1), .val (.int (v0_7 p0_1)), .unset, .unset] [(.int p0_0), (.int (r1 p0_0))])) _
    exact k)
  obtain ⟨_, _, ⟨T4, L4, k4, n4⟩, -, X4, ⟨Lc4, hQ4, l4, y4, z4⟩, st4⟩ := Jvm.LawKit.callS X2 hx (y := (⟨"com/example/keys_to_proof/keystoproof/language/ScannerIsDigitPinLaw", "ref", "(I)Z"⟩ : MethodName)) hown (mvT hZ (hw _ (List.mem_of_getElem? (i := 4) rfl))) (mvT hZ (hw _ (List.mem_of_getElem? (i := 5) rfl))) (mvT hZ (hw _ (List.mem_of_getElem? (i := 6) rfl))) (mvT hZ (hw _ (List.mem_of_getElem? (i := 7) rfl))) (by decide) (backOf (W := 1) (rm2 l Z a0 hw [] p0_0 h0 n0 Z0 ) hZ (hw _ (List.mem_of_getElem? (i := 7) rfl)) (hw _ (List.mem_of_getElem? (i := 6) rfl)) (by decide) (by decide)) (g := (mkF m 13 #[.val (.int p0_0), .val (.int p0_1), .val (.int (v0_7 p0_1)), .unset, .unset] [(.int p0_0), (.int (r1 p0_0))])) rfl (by rw [hml]; rfl) (argsL := [(.int p0_0)]) (rest := [(.int (r1 p0_0))]) (lenOf pd_0 rfl) rfl (by show 2 * 0 + _ ≤ _; exact Nat.le_of_eq rfl) (hb hby at_13) (fun _ _ => ⟨rfl, e2, (by decide : 0 + 0 ≤ _), (by decide : 0 + 0 ≤ _)⟩)
  dsimp only [Pt.U, Pt.locs, Pt.cells, Pt.slots] at X4 l4 y4 z4 st4 hQ4
  subst l4 y4 z4
  obtain ⟨rfl, M4, e4⟩ := hQ4
  have N4 := Fr.app N2 M4
  have pre4 : ∀ t, Steps p.tables e below (T4.setTop (mkF m 16 #[.val (.int p0_0), .val (.int p0_1), .val (.int (v0_7 p0_1)), .unset, .unset] [(.int (r2 p0_0)), (.int (r1 p0_0))])) t → Steps p.tables e below (s₁.setTop (entryFrame m #[(.int p0_0), (.int p0_1)] maxLocals)) t := fun t k => pre3 t (st4 t k)
  have pre6 : ∀ t, Steps p.tables e below (T4.setTop (mkF m 26 #[.val (.int p0_0), .val (.int p0_1), .val (.int (v0_7 p0_1)), .val (.int (1 : Int32)), .unset] [(.int (v0_7 p0_1))])) t → Steps p.tables e below (s₁.setTop (entryFrame m #[(.int p0_0), (.int p0_1)] maxLocals)) t := fun t k => pre4 t (by
    refine XS.icmpNo X4.here hx rfl (hb hby at_16) rfl (teq (show (r1 p0_0) = (r2 p0_0) from (own_main _))).2 ?_
    show Steps p.tables e below (T4.setTop (mkF m 19 #[.val (.int p0_0), .val (.int p0_1), .val (.int (v0_7 p0_1)), .unset, .unset] [])) _
    refine XS.iconst X4.here hx rfl (hb hby at_19) ?_
    show Steps p.tables e below (T4.setTop (mkF m 20 #[.val (.int p0_0), .val (.int p0_1), .val (.int (v0_7 p0_1)), .unset, .unset] [(.int (1 : Int32))])) _
    refine XS.goto X4.here hx rfl (pc0 := 20) (pc' := 24) rfl (hb hby at_20) (by decide) (by decide) ?_
    show Steps p.tables e below (T4.setTop (mkF m 24 #[.val (.int p0_0), .val (.int p0_1), .val (.int (v0_7 p0_1)), .unset, .unset] [(.int (1 : Int32))])) _
    refine XS.istoreN X4.here hx rfl (hb hby at_24) rfl (l' := #[.val (.int p0_0), .val (.int p0_1), .val (.int (v0_7 p0_1)), .val (.int (1 : Int32)), .unset]) rfl ?_
    show Steps p.tables e below (T4.setTop (mkF m 25 #[.val (.int p0_0), .val (.int p0_1), .val (.int (v0_7 p0_1)), .val (.int (1 : Int32)), .unset] [])) _
    refine XS.iloadN X4.here hx rfl (hb hby at_25) rfl ?_
    show Steps p.tables e below (T4.setTop (mkF m 26 #[.val (.int p0_0), .val (.int p0_1), .val (.int (v0_7 p0_1)), .val (.int (1 : Int32)), .unset] [(.int (v0_7 p0_1))])) _
    exact k)
  obtain ⟨_, _, ⟨T7, L7, k7, n7⟩, -, X7, ⟨Lc7, hQ7, l7, y7, z7⟩, st7⟩ := Jvm.LawKit.callS X4 hx (y := (⟨"com/example/keys_to_proof/keystoproof/language/Scanner", "isDigit", "(I)Z"⟩ : MethodName)) hown (mvT hZ (hw _ (List.mem_of_getElem? (i := 0) rfl))) (mvT hZ (hw _ (List.mem_of_getElem? (i := 1) rfl))) (mvT hZ (hw _ (List.mem_of_getElem? (i := 2) rfl))) (mvT hZ (hw _ (List.mem_of_getElem? (i := 3) rfl))) (by decide) (backOf (W := 0) (rm1 l Z a0 hw [] (v0_7 p0_1) h0 n0 Z0 ) hZ (hw _ (List.mem_of_getElem? (i := 3) rfl)) (hw _ (List.mem_of_getElem? (i := 2) rfl)) (by decide) (by decide)) (g := (mkF m 26 #[.val (.int p0_0), .val (.int p0_1), .val (.int (v0_7 p0_1)), .val (.int (1 : Int32)), .unset] [(.int (v0_7 p0_1))])) rfl (by rw [hml]; rfl) (argsL := [(.int (v0_7 p0_1))]) (rest := []) (lenOf pd_0 rfl) rfl (by show 2 * 0 + _ ≤ _; exact Nat.le_of_eq rfl) (hb hby at_26) (fun _ _ => ⟨rfl, e4, (by decide : 0 + 0 ≤ _), (by decide : 0 + 0 ≤ _)⟩)
  dsimp only [Pt.U, Pt.locs, Pt.cells, Pt.slots] at X7 l7 y7 z7 st7 hQ7
  subst l7 y7 z7
  obtain ⟨rfl, M7, e7⟩ := hQ7
  have N7 := Fr.app N4 M7
  have pre7 : ∀ t, Steps p.tables e below (T7.setTop (mkF m 29 #[.val (.int p0_0), .val (.int p0_1), .val (.int (v0_7 p0_1)), .val (.int (1 : Int32)), .unset] [(.int (r1 (v0_7 p0_1)))])) t → Steps p.tables e below (s₁.setTop (entryFrame m #[(.int p0_0), (.int p0_1)] maxLocals)) t := fun t k => pre6 t (st7 t k)
  have pre8 : ∀ t, Steps p.tables e below (T7.setTop (mkF m 30 #[.val (.int p0_0), .val (.int p0_1), .val (.int (v0_7 p0_1)), .val (.int (1 : Int32)), .unset] [(.int (v0_7 p0_1)), (.int (r1 (v0_7 p0_1)))])) t → Steps p.tables e below (s₁.setTop (entryFrame m #[(.int p0_0), (.int p0_1)] maxLocals)) t := fun t k => pre7 t (by
    refine XS.iloadN X7.here hx rfl (hb hby at_29) rfl ?_
    show Steps p.tables e below (T7.setTop (mkF m 30 #[.val (.int p0_0), .val (.int p0_1), .val (.int (v0_7 p0_1)), .val (.int (1 : Int32)), .unset] [(.int (v0_7 p0_1)), (.int (r1 (v0_7 p0_1)))])) _
    exact k)
  obtain ⟨_, _, ⟨T9, L9, k9, n9⟩, -, X9, ⟨Lc9, hQ9, l9, y9, z9⟩, st9⟩ := Jvm.LawKit.callS X7 hx (y := (⟨"com/example/keys_to_proof/keystoproof/language/ScannerIsDigitPinLaw", "ref", "(I)Z"⟩ : MethodName)) hown (mvT hZ (hw _ (List.mem_of_getElem? (i := 4) rfl))) (mvT hZ (hw _ (List.mem_of_getElem? (i := 5) rfl))) (mvT hZ (hw _ (List.mem_of_getElem? (i := 6) rfl))) (mvT hZ (hw _ (List.mem_of_getElem? (i := 7) rfl))) (by decide) (backOf (W := 1) (rm2 l Z a0 hw [] (v0_7 p0_1) h0 n0 Z0 ) hZ (hw _ (List.mem_of_getElem? (i := 7) rfl)) (hw _ (List.mem_of_getElem? (i := 6) rfl)) (by decide) (by decide)) (g := (mkF m 30 #[.val (.int p0_0), .val (.int p0_1), .val (.int (v0_7 p0_1)), .val (.int (1 : Int32)), .unset] [(.int (v0_7 p0_1)), (.int (r1 (v0_7 p0_1)))])) rfl (by rw [hml]; rfl) (argsL := [(.int (v0_7 p0_1))]) (rest := [(.int (r1 (v0_7 p0_1)))]) (lenOf pd_0 rfl) rfl (by show 2 * 0 + _ ≤ _; exact Nat.le_of_eq rfl) (hb hby at_30) (fun _ _ => ⟨rfl, e7, (by decide : 0 + 0 ≤ _), (by decide : 0 + 0 ≤ _)⟩)
  dsimp only [Pt.U, Pt.locs, Pt.cells, Pt.slots] at X9 l9 y9 z9 st9 hQ9
  subst l9 y9 z9
  obtain ⟨rfl, M9, e9⟩ := hQ9
  have N9 := Fr.app N7 M9
  have pre9 : ∀ t, Steps p.tables e below (T9.setTop (mkF m 33 #[.val (.int p0_0), .val (.int p0_1), .val (.int (v0_7 p0_1)), .val (.int (1 : Int32)), .unset] [(.int (r2 (v0_7 p0_1))), (.int (r1 (v0_7 p0_1)))])) t → Steps p.tables e below (s₁.setTop (entryFrame m #[(.int p0_0), (.int p0_1)] maxLocals)) t := fun t k => pre8 t (st9 t k)
  have pre11 : ∀ t, Steps p.tables e below (T9.setTop (mkF m 57 #[.val (.int p0_0), .val (.int p0_1), .val (.int (v0_7 p0_1)), .val (.int (1 : Int32)), .val (.int (1 : Int32))] [(.int (1 : Int32))])) t → Steps p.tables e below (s₁.setTop (entryFrame m #[(.int p0_0), (.int p0_1)] maxLocals)) t := fun t k => pre9 t (by
    refine XS.icmpNo X9.here hx rfl (hb hby at_33) rfl (teq (show (r1 (v0_7 p0_1)) = (r2 (v0_7 p0_1)) from (own_main _))).2 ?_
    show Steps p.tables e below (T9.setTop (mkF m 36 #[.val (.int p0_0), .val (.int p0_1), .val (.int (v0_7 p0_1)), .val (.int (1 : Int32)), .unset] [])) _
    refine XS.iconst X9.here hx rfl (hb hby at_36) ?_
    show Steps p.tables e below (T9.setTop (mkF m 37 #[.val (.int p0_0), .val (.int p0_1), .val (.int (v0_7 p0_1)), .val (.int (1 : Int32)), .unset] [(.int (1 : Int32))])) _
    refine XS.goto X9.here hx rfl (pc0 := 37) (pc' := 41) rfl (hb hby at_37) (by decide) (by decide) ?_
    show Steps p.tables e below (T9.setTop (mkF m 41 #[.val (.int p0_0), .val (.int p0_1), .val (.int (v0_7 p0_1)), .val (.int (1 : Int32)), .unset] [(.int (1 : Int32))])) _
    refine XS.istore X9.here hx rfl (hb hby at_41) rfl (l' := #[.val (.int p0_0), .val (.int p0_1), .val (.int (v0_7 p0_1)), .val (.int (1 : Int32)), .val (.int (1 : Int32))]) rfl ?_
    show Steps p.tables e below (T9.setTop (mkF m 43 #[.val (.int p0_0), .val (.int p0_1), .val (.int (v0_7 p0_1)), .val (.int (1 : Int32)), .val (.int (1 : Int32))] [])) _
    refine XS.iloadN X9.here hx rfl (hb hby at_43) rfl ?_
    show Steps p.tables e below (T9.setTop (mkF m 44 #[.val (.int p0_0), .val (.int p0_1), .val (.int (v0_7 p0_1)), .val (.int (1 : Int32)), .val (.int (1 : Int32))] [(.int (1 : Int32))])) _
    refine XS.ifNo X9.here hx rfl (hb hby at_44) rfl ((if0 _ _).trans (feq (by decide : ¬ ((1 : Int32) = (0 : Int32)))).1) ?_
    show Steps p.tables e below (T9.setTop (mkF m 47 #[.val (.int p0_0), .val (.int p0_1), .val (.int (v0_7 p0_1)), .val (.int (1 : Int32)), .val (.int (1 : Int32))] [])) _
    refine XS.iload X9.here hx rfl (hb hby at_47) rfl ?_
    show Steps p.tables e below (T9.setTop (mkF m 49 #[.val (.int p0_0), .val (.int p0_1), .val (.int (v0_7 p0_1)), .val (.int (1 : Int32)), .val (.int (1 : Int32))] [(.int (1 : Int32))])) _
    refine XS.ifNo X9.here hx rfl (hb hby at_49) rfl ((if0 _ _).trans (feq (by decide : ¬ ((1 : Int32) = (0 : Int32)))).1) ?_
    show Steps p.tables e below (T9.setTop (mkF m 52 #[.val (.int p0_0), .val (.int p0_1), .val (.int (v0_7 p0_1)), .val (.int (1 : Int32)), .val (.int (1 : Int32))] [])) _
    refine XS.iconst X9.here hx rfl (hb hby at_52) ?_
    show Steps p.tables e below (T9.setTop (mkF m 53 #[.val (.int p0_0), .val (.int p0_1), .val (.int (v0_7 p0_1)), .val (.int (1 : Int32)), .val (.int (1 : Int32))] [(.int (1 : Int32))])) _
    refine XS.goto X9.here hx rfl (pc0 := 53) (pc' := 57) rfl (hb hby at_53) (by decide) (by decide) ?_
    show Steps p.tables e below (T9.setTop (mkF m 57 #[.val (.int p0_0), .val (.int p0_1), .val (.int (v0_7 p0_1)), .val (.int (1 : Int32)), .val (.int (1 : Int32))] [(.int (1 : Int32))])) _
    exact k)
  obtain ⟨fs, hr, hrun, hended, hW, hsame⟩ := X9.leave (v := some (.int (1 : Int32))) (fun h => by rw [Bd.returns] at h; cases h)
  refine ⟨_, _, pre11 _ ?_, hrun, hended, _, _, rfl, ?_, ⟨_, rfl⟩, hW, hsame.mono (by decide) (by decide)⟩
  · show Steps p.tables e below (T9.setTop (mkF m 57 #[.val (.int p0_0), .val (.int p0_1), .val (.int (v0_7 p0_1)), .val (.int (1 : Int32)), .val (.int (1 : Int32))] [(.int (1 : Int32))])) _
    exact retN X9 hx (t := .boolean) Bd.returns (by simp) (hb hby at_57) hr
  · show Q0 Z p0_0 p0_1 h0 n0 _ T9.heap _
    rw [e9]
    exact ⟨rfl, N9⟩
set_option maxRecDepth 65536 in
set_option maxHeartbeats 40000000 in
theorem comes_1 {Post : Tables → Env → Array Value → State → Outcome → State → Prop} (hpost : ∀ tb e args s v u, (limb_1_1.after args s (.returned v) u = true ∧ limb_1_2.after args s (.returned v) u = true ∧ True) → FrameEnd s (.returned v) u (Jvm.fieldLocs frame_1_writes args s ++ Jvm.arrayLocs frame_1_arrays args s ++ Jvm.staticLocs frame_1_statics s) 0 0 → Post tb e args s (.returned v) u) :
    ArmFor flags0 classFile x code maxLocals ret World_1 tables_1 room_1 Calls_1 rest_1 Pre_1 Post := by
  intro l hfl _ _ p e ha hc hk s m args below hf hA hF happ hP
  obtain ⟨hcalls, hrest, hpre⟩ := hP
  obtain ⟨-, -, -, hnamed, -, -, -, hat⟩ := (Spec.applies_iff hf).mp happ
  obtain ⟨hg, hn⟩ := and_e (Cond.before_iff.mp (show (Jvm.Cond.and given_1 narrow_1).before args s = true from hpre))
  obtain ⟨gc, g0⟩ := and_e hg
  obtain ⟨ga0, g1⟩ := and_e g0
  obtain ⟨w0, w1, rfl⟩ : ∃ w0 w1 : Value, args = #[w0, w1] := by
    have hs : args.size = 2 := by simpa [Cond.value, given_1] using gc
    obtain ⟨L⟩ := args
    match L, hs with
    | [w0, w1], _ => exact ⟨w0, w1, rfl⟩
  have hw := fun d (hd : d ∈ tables_1) => atoms_spec (ws := Jvm.Cond.code x code maxLocals ret :: tables_1) hat d (List.mem_cons_of_mem _ hd)
  obtain ⟨i0, ei0⟩ := is_v ga0
  obtain rfl : w0 = (.int i0) := Option.some.inj ei0
  obtain ⟨i1, ei1⟩ := is_v g1
  obtain rfl : w1 = (.int i1) := Option.some.inj ei1
  obtain ⟨n, o, h1, h2, h3, _, L, rfl, ⟨rfl, N⟩, hq⟩ := rm0 l s _ hw tables_1 i0 i1  s.heap s.heap.size (Nat.le_refl _)  p e ha hc hk s m _ below hf ((Spec.applies_iff_loose hf).mp happ).1 ⟨rfl, State.Warmed39.refl s, rfl⟩ trivial
  refine ⟨n, _, h1, h2, h3, hpost _ _ _ _ _ _ ⟨Cond.after_iff.mpr rfl, Cond.after_iff.mpr (eq_i res_at (Term.int_eval (1)) rfl), trivial⟩ ⟨hq.1, hq.2.1, (hq.2.2.sift fun y hy => Or.inr (N y hy)).mono (by decide) (by decide)⟩⟩
theorem main_1_1 : Claimed_1_1 := comes_1 fun _ _ _ _ _ _ h hF => ⟨h.1, hF⟩
theorem main_1_2 : Claimed_1_2 := comes_1 fun _ _ _ _ _ _ h hF => ⟨h.2.1, hF⟩
end Jvm.Pilot.@@N@@
namespace Jvm.Pilot.@@N@@
open Jvm Jvm.ClassFile Sem Op Lib Jvm.Free Jvm.Stand Jvm.Pilot.@@N@@.Jvm.D
/-! MADE BY PROGRAM (witnessworld.py) out of the Statement's table words and the real class files: 9 classes; the members and pool entries that the words name. The judged class is class 1, her method 2. -/
namespace start1
open Jvm.ClassFile
def u (s : String) : CpInfo := .utf8 (stringToUtf16 s)
/-- a pool by its gaps: so many unusable entries, then the entry; so many at the end -/
def gap : Nat → List CpInfo → List CpInfo
  | 0, r => r
  | n + 1, r => .unusable :: gap n r
def poolList (es : List (Nat × CpInfo)) (last : Nat) : List CpInfo := es.foldr (fun e r => gap e.1 (e.2 :: r)) (gap last [])
def pool (es : List (Nat × CpInfo)) (last : Nat) : Array CpInfo := ⟨poolList es last⟩
def fileOf (pool : Array CpInfo) (this : Nat) (attrs : Array Attribute := #[]) (ms : Array MethodInfo := #[]) (fl : Nat := 33) (sup : Nat := 0) (ifs : Array Nat := #[]) (fds : Array FieldInfo := #[]) : ClassFile where
  minorVersion := 0
  majorVersion := 65
  constantPool := pool
  accessFlags := fl
  thisClass := this
  superClass := sup
  interfaces := ifs
  fields := fds
  methods := ms
  attributes := attrs
def plain (name : String) (sup : Option ClassId) : Class where
  name := name
  kind := .ordinary
  loader := none
  accessFlags := 33
  super := sup
  interfaces := #[]
  cf := none
  fields := #[]
  methods := #[]
  instanceTypes := #[]
  staticTypes := #[]
  resolved := #[]
  callSites := []
  init := .initialized
  statics := none
  mirror := none

def pool0 : Array CpInfo := pool [(5, u "<init>"), (0, u "()V"), (1, .class_ 10), (1, u "java/lang/Object")] 113

def k0m0 : Method := { name := "<init>", desc := "()V", sig := { parameters := [], returnType := none }, accessFlags := 1, code := none }
/-- java/lang/Object -/
def k0 : Class := { plain "java/lang/Object" none with
  accessFlags := 33
  interfaces := #[]
  cf := some (fileOf pool0 8 #[] #[{ accessFlags := 1, nameIndex := 5, descriptorIndex := 6, attributes := #[] }] 33 0 #[] #[])
  fields := #[]
  methods := #[k0m0]
  instanceTypes := #[]
  staticTypes := #[]
  resolved := Array.replicate 124 none
  statics := none }

def pool1 : Array CpInfo := pool [(2, .class_ 4), (1, u "java/lang/Object"), (0, u "<init>"), (0, u "()V"), (0, .methodref 8 9), (0, .class_ 10), (0, .nameAndType 11 12), (0, u "com/example/keys_to_proof/keystoproof/language/Scanner"), (0, u "isDigit"), (0, u "(I)Z"), (0, .methodref 14 15), (0, .class_ 16), (0, .nameAndType 17 12), (0, u "com/example/keys_to_proof/keystoproof/language/ScannerIsDigitPinLaw"), (0, u "ref"), (3, u "law"), (0, u "(II)Z")] 2

def k1m0 : Method := { name := "<init>", desc := "()V", sig := { parameters := [], returnType := none }, accessFlags := 1, code := none }
def k1c1 : Code := { maxStack := 2, maxLocals := 1, code := method_2_code, exceptionTable := #[], attributes := #[] }
def k1m1 : Method := { name := "ref", desc := "(I)Z", sig := { parameters := [.int], returnType := some .boolean }, accessFlags := 10, code := some k1c1 }
def k1c2 : Code := { maxStack := 3, maxLocals := 5, code := code, exceptionTable := #[], attributes := #[] }
def k1m2 : Method := { name := "law", desc := "(II)Z", sig := { parameters := [.int, .int], returnType := some .boolean }, accessFlags := 9, code := some k1c2 }
/-- com/example/keys_to_proof/keystoproof/language/ScannerIsDigitPinLaw -/
def k1 : Class := { plain "com/example/keys_to_proof/keystoproof/language/ScannerIsDigitPinLaw" (some 0) with
  accessFlags := 49
  interfaces := #[]
  cf := some (fileOf pool1 14 #[] #[{ accessFlags := 1, nameIndex := 5, descriptorIndex := 6, attributes := #[] }, { accessFlags := 10, nameIndex := 17, descriptorIndex := 12, attributes := #[] }, { accessFlags := 9, nameIndex := 21, descriptorIndex := 22, attributes := #[] }] 49 2 #[] #[])
  fields := #[]
  methods := #[k1m0, k1m1, k1m2]
  instanceTypes := #[]
  staticTypes := #[]
  resolved := Array.replicate 25 none
  statics := none }

def pool2 : Array CpInfo := pool [(2, .class_ 4), (1, u "java/lang/Object"), (3, .class_ 10), (1, u "com/example/keys_to_proof/keystoproof/language/Scanner"), (0, u "line"), (0, u "I"), (2, u "column"), (2, u "text"), (0, u "Ljava/lang/String;"), (2, u "offset"), (39, u "(I)Z"), (22, u "isDigit")] 58

def k2c0 : Code := { maxStack := 2, maxLocals := 1, code := prog_100_method_13_code, exceptionTable := #[], attributes := #[] }
def k2m0 : Method := { name := "isDigit", desc := "(I)Z", sig := { parameters := [.int], returnType := some .boolean }, accessFlags := 9, code := some k2c0 }
/-- com/example/keys_to_proof/keystoproof/language/Scanner -/
def k2 : Class := { plain "com/example/keys_to_proof/keystoproof/language/Scanner" (some 0) with
  accessFlags := 49
  interfaces := #[]
  cf := some (fileOf pool2 8 #[] #[{ accessFlags := 9, nameIndex := 85, descriptorIndex := 62, attributes := #[] }] 49 2 #[] #[{ accessFlags := 18, nameIndex := 18, descriptorIndex := 19, attributes := #[] }, { accessFlags := 2, nameIndex := 22, descriptorIndex := 12, attributes := #[] }, { accessFlags := 2, nameIndex := 11, descriptorIndex := 12, attributes := #[] }, { accessFlags := 2, nameIndex := 15, descriptorIndex := 12, attributes := #[] }])
  fields := #[{ name := "text", type := (.object "java/lang/String"), accessFlags := 18, slot := 0, constantValue := 0 }, { name := "offset", type := .int, accessFlags := 2, slot := 1, constantValue := 0 }, { name := "line", type := .int, accessFlags := 2, slot := 2, constantValue := 0 }, { name := "column", type := .int, accessFlags := 2, slot := 3, constantValue := 0 }]
  methods := #[k2m0]
  instanceTypes := #[(.object "java/lang/String"), .int, .int, .int]
  staticTypes := #[]
  resolved := Array.replicate 144 none
  statics := none }

def pool3 : Array CpInfo := pool [(1, u "java/lang/Cloneable"), (0, .class_ 1), (0, u "java/lang/Object"), (0, .class_ 3)] 3

/-- java/lang/Cloneable -/
def k3 : Class := { plain "java/lang/Cloneable" (some 0) with
  accessFlags := 1537
  interfaces := #[]
  cf := some (fileOf pool3 2 #[] #[] 1537 4 #[] #[])
  fields := #[]
  methods := #[]
  instanceTypes := #[]
  staticTypes := #[]
  resolved := Array.replicate 8 none
  statics := none }

def pool4 : Array CpInfo := pool [(1, u "java/io/Serializable"), (0, .class_ 1), (0, u "java/lang/Object"), (0, .class_ 3)] 3

/-- java/io/Serializable -/
def k4 : Class := { plain "java/io/Serializable" (some 0) with
  accessFlags := 1537
  interfaces := #[]
  cf := some (fileOf pool4 2 #[] #[] 1537 4 #[] #[])
  fields := #[]
  methods := #[]
  instanceTypes := #[]
  staticTypes := #[]
  resolved := Array.replicate 8 none
  statics := none }

/-- the primitive byte -/
def k5 : Class := { plain "byte" none with kind := .primitive 'B', accessFlags := 0x411 }
/-- [B -/
def k6 : Class := { plain "[B" (some 0) with kind := .array 5 .byte, interfaces := #[3, 4], accessFlags := 1041 }

/-- the primitive int -/
def k7 : Class := { plain "int" none with kind := .primitive 'I', accessFlags := 0x411 }
/-- [I -/
def k8 : Class := { plain "[I" (some 0) with kind := .array 7 .int, interfaces := #[3, 4], accessFlags := 1041 }

def heap : Heap := #[]
def classes : Array Class := #[k0, k1, k2, k3, k4, k5, k6, k7, k8]
def interned : List (Array UInt16 × Addr) := []
def slotsUsed : Nat := 0
def theMethod : MethodId := ⟨1, 2⟩
def args0 : Array Value := #[.int 5, .int 300]
def aboutOver (below : List Frame) : State where
  vm := { classes := classes, interned := interned.toArray }
  heap := heap
  slotsUsed := slotsUsed
  threads := #[{ frames := .invoking theMethod args0 :: below }]
def below0 : List Frame := [.native { method := ⟨0, 0⟩, args := #[] }]
def about1 : State := aboutOver below0
def p0 : Program := .bare "" "" ""
def e0 : Env := launch0.env 0 0 0
theorem w_frames : about1.frames = Frame.invoking theMethod args0 :: below0 := rfl
set_option maxRecDepth 65536 in
theorem w_args : argsFit about1.vm theMethod args0 = true := by decide +kernel
set_option maxRecDepth 65536 in
theorem w_heap : heapFits about1 = true := by decide +kernel
set_option maxRecDepth 65536 in
theorem w_runnable : about1.curStatus? = some .runnable := by decide +kernel
set_option maxRecDepth 65536 in
theorem w_alone : about1.alone = true := by decide +kernel
set_option maxRecDepth 65536 in
theorem w_named : about1.methodNamed? x = some theMethod := by decide +kernel
set_option maxRecDepth 65536 in
theorem w_hears : about1.hears theMethod below0 = true := by decide +kernel
set_option maxRecDepth 65536 in
theorem w_ripe : about1.ripe theMethod args0 below0 = true := by decide +kernel
theorem w_running : about1.status = .running := rfl
set_option maxRecDepth 65536 in
theorem w_room : about1.hasRoom e0.platform room_1 = true :=
  launch0.hasRoom_least _ room_1 (by decide +kernel) (by decide +kernel) (by decide +kernel) (by decide +kernel) (by decide +kernel) (by decide +kernel)
theorem allAtoms_all (ts : List Jvm.Cond) (a : Array Jvm.Value) (st : Jvm.State) : (allAtoms ts).before a st = ts.all (fun c => c.before a st) := by
  induction ts with
  | nil => rfl
  | cons c t ih =>
    show (Jvm.Cond.and c (allAtoms t)).before a st = _
    rw [Jvm.Cond.before_and, ih, List.all_cons]
def words1 : List Jvm.Cond := Jvm.Cond.code x code maxLocals ret :: tables_1
/-- a 'code' word, met by the world's own term for the bytes: nothing is compared byte by byte -/
theorem code_word {y : MethodName} {bytes : ByteArray} {mx : Nat} {rt : Option FieldType} {a : Array Value} {s : State} {m : MethodId} {meth : Method} {c : Code} (h1 : s.methodNamed? y = some m) (h2 : s.vm.method? m = some meth) (h3 : meth.code = some c) (h4 : c.code = bytes)
    (h5 : (c.maxLocals == mx && c.exceptionTable.isEmpty && decide (c.maxStack ≤ mostOperands) && decide (meth.sig.returnType = rt) && !meth.locks && decide (parseMethodDescriptor y.desc = some meth.sig)) = true) : (Jvm.Cond.code y bytes mx rt).before a s = true := by
  simp only [Bool.and_eq_true, beq_iff_eq, Bool.not_eq_true', decide_eq_true_eq] at h5
  obtain ⟨⟨⟨⟨⟨g1, g2⟩, g3⟩, g4⟩, g5⟩, g6⟩ := h5
  simp [Cond.before, Cond.holds, Cond.value, h1, h2, h3, h4, g1, g2, g3, g4, g5, g6]
def isCode : Jvm.Cond → Bool
  | .code _ _ _ _ => true
  | _ => false
theorem all_split {L : List Jvm.Cond} {P : Jvm.Cond → Bool} (h1 : L.all (fun c => isCode c || P c) = true) (h2 : ∀ c ∈ L.filter isCode, P c = true) : L.all P = true := by
  refine List.all_eq_true.mpr fun c hc => ?_
  have h := List.all_eq_true.mp h1 c hc
  rcases Bool.eq_false_or_eq_true (isCode c) with hi | hi
  · exact h2 c (List.mem_filter.mpr ⟨hc, hi⟩)
  · simpa [hi] using h
set_option maxRecDepth 65536 in
theorem w_c0 : (Jvm.Cond.code x code maxLocals ret).before args0 about1 = true := code_word (m := ⟨1, 2⟩) (meth := k1m2) (c := k1c2) (by decide +kernel) rfl rfl rfl (by decide +kernel)
set_option maxRecDepth 65536 in
theorem w_c1 : (Jvm.Cond.code ({ cls := "com/example/keys_to_proof/keystoproof/language/Scanner", name := "isDigit", desc := "(I)Z" } : Jvm.MethodName) prog_100_method_13_code (1 : Nat) (Option.some Jvm.ClassFile.FieldType.boolean)).before args0 about1 = true := code_word (m := ⟨2, 0⟩) (meth := k2m0) (c := k2c0) (by decide +kernel) rfl rfl rfl (by decide +kernel)
set_option maxRecDepth 65536 in
theorem w_c2 : (Jvm.Cond.code ({ cls := "com/example/keys_to_proof/keystoproof/language/ScannerIsDigitPinLaw", name := "ref", desc := "(I)Z" } : Jvm.MethodName) method_2_code (1 : Nat) (Option.some Jvm.ClassFile.FieldType.boolean)).before args0 about1 = true := code_word (m := ⟨1, 1⟩) (meth := k1m1) (c := k1c1) (by decide +kernel) rfl rfl rfl (by decide +kernel)
def codes1 : List Jvm.Cond := [Jvm.Cond.code x code maxLocals ret, Jvm.Cond.code ({ cls := "com/example/keys_to_proof/keystoproof/language/Scanner", name := "isDigit", desc := "(I)Z" } : Jvm.MethodName) prog_100_method_13_code (1 : Nat) (Option.some Jvm.ClassFile.FieldType.boolean), Jvm.Cond.code ({ cls := "com/example/keys_to_proof/keystoproof/language/ScannerIsDigitPinLaw", name := "ref", desc := "(I)Z" } : Jvm.MethodName) method_2_code (1 : Nat) (Option.some Jvm.ClassFile.FieldType.boolean)]
set_option maxRecDepth 65536 in
theorem codes_eq : words1.filter isCode = codes1 := rfl
theorem w_codes : ∀ c ∈ words1.filter isCode, c.before args0 about1 = true := by
  rw [codes_eq]
  intro c hc
  simp only [codes1, List.mem_cons, List.not_mem_nil, or_false] at hc
  rcases hc with rfl | rfl | rfl
  · exact w_c0
  · exact w_c1
  · exact w_c2
set_option maxRecDepth 65536 in
theorem w_t1 : words1.all (fun c => isCode c || c.before args0 about1) = true := by decide +kernel
theorem w_tables : (allAtoms (Jvm.Cond.code x code maxLocals ret :: tables_1)).before args0 about1 = true := by
  rw [allAtoms_all]
  show words1.all (fun c => c.before args0 about1) = true
  refine all_split ?_ w_codes
  rw [w_t1]
set_option maxRecDepth 65536 in
theorem w_case : (Jvm.Cond.and given_1 narrow_1).before args0 about1 = true := by decide +kernel
theorem w_applies : (headSpec (Jvm.Cond.code x code maxLocals ret :: tables_1) room_1).applies x e0.platform about1 = true :=
  (Spec.applies_iff w_frames).mpr ⟨w_running, w_runnable, w_alone, w_named, w_hears, w_ripe, w_room, w_tables⟩
theorem atStart : AtStart classFile x code maxLocals ret World_1 tables_1 room_1 Calls_1 rest_1 Pre_1 launch0 p0 e0 about1 theMethod args0 below0 :=
  ⟨lists_1, trivial, launch0.admits_env _ _ _, launch0.least_env, fairChoices_fair.cas, fairChoices_fair.clock, w_frames, w_args, w_heap, w_applies, trivial, trivial, w_case⟩
end start1
theorem witness_1 : WitnessClaimed_1 := ⟨start1.p0, start1.e0, start1.about1, start1.theMethod, start1.args0, start1.below0, start1.atStart⟩
end Jvm.Pilot.@@N@@
