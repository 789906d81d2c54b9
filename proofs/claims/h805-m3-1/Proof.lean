import JvmDerived
import JvmDerived.Pilot.@@N@@Statement
import JvmDerived.Pilot.@@N@@Code
set_option linter.unusedVariables false
set_option linter.unusedSimpArgs false
@@BLOCK:NumsL.lean.txt@@
namespace Jvm.Pilot.@@N@@
open Jvm Jvm.ClassFile Sem Op Lib Jvm.Free Jvm.Stand Jvm.LawKit Jvm.RoadKit Bundle Jvm.Pilot.@@N@@.Jvm.D
def own_shl (x y : Int32) : Int32 := x <<< (y &&& 31)
def own_shr (x y : Int32) : Int32 := x >>> (y &&& 31)
def own_ushr (x y : Int32) : Int32 := (x.toUInt32 >>> (y &&& 31).toUInt32).toInt32
def own_shlL (x : Int64) (y : Int32) : Int64 := x <<< (y &&& 0x3f).toInt64
def own_shrL (x : Int64) (y : Int32) : Int64 := x >>> (y &&& 0x3f).toInt64
def own_ushrL (x : Int64) (y : Int32) : Int64 := (x.toUInt64 >>> (y &&& 0x3f).toInt64.toUInt64).toInt64
def own_remL (x y : Int64) : Int64 := x - (x / y) * y
section OwnKit
variable {p : Program} {l : Launch} {e : Env} {R : Room} {s : State} {m : MethodId} {args : Array Value} {below : List Frame} {meth : Method} {c : Code} {T : State} {locs : List Loc} {cells slots : Nat} {Z : State} {h h' : Heap} {a b : Addr}
theorem retI (X : Stand p l e R s m args below meth c T locs cells slots) (hx : p.tables.exec = Jvm.exec) {pc : Nat} {Ls : Array Slot} {z : Int32} {rest : List Value} (hret : meth.sig.returnType = some .int) (hd : decode c.code pc = .ok (.ireturn, 1)) {fs : List Frame}
    (hl : ∀ (f : JFrame) (acts : List Action), f.method = m → f.locked = none → f.entered = [] → (doReturn e (T.setTop f) acts (some (.int z))).1 = T.setFrames fs) : Steps p.tables e below (T.setTop (mkF m pc Ls (.int z :: rest))) (T.setFrames fs) :=
  retOut X hx hret rfl (Or.inl ⟨rfl, Or.inl rfl, _, rfl⟩) hd hl
theorem own_retJ (X : Stand p l e R s m args below meth c T locs cells slots) (hx : p.tables.exec = Jvm.exec) {pc : Nat} {Ls : Array Slot} {z : Int64} {rest : List Value} (hret : meth.sig.returnType = some .long) (hd : decode c.code pc = .ok (.lreturn, 1)) {fs : List Frame}
    (hl : ∀ (f : JFrame) (acts : List Action), f.method = m → f.locked = none → f.entered = [] → (doReturn e (T.setTop f) acts (some (.long z))).1 = T.setFrames fs) : Steps p.tables e below (T.setTop (mkF m pc Ls (.long z :: rest))) (T.setFrames fs) :=
  retOut X hx hret rfl (Or.inr (Or.inl ⟨rfl, rfl, _, rfl⟩)) hd hl
end OwnKit
theorem pn_0 : plainName "relayout/RectIsEmptyPinLaw" = true := by first | (simp [plainName, overriddenIn]; done) | decide +kernel
theorem d1_0 : decode method_2_code 0 = .ok (.iload 4, 2) := by decide +kernel
theorem d1_2 : decode method_2_code 2 = .ok (.ifCond .ne 5, 3) := by decide +kernel
theorem d1_5 : decode method_2_code 5 = .ok (.lload_n 2, 1) := by decide +kernel
theorem d1_6 : decode method_2_code 6 = .ok (.lreturn, 1) := by decide +kernel
theorem d1_7 : decode method_2_code 7 = .ok (.iload 4, 2) := by decide +kernel
theorem d1_9 : decode method_2_code 9 = .ok (.iconst 1, 1) := by decide +kernel
theorem d1_10 : decode method_2_code 10 = .ok (.if_icmp .ne 5, 3) := by decide +kernel
theorem d1_13 : decode method_2_code 13 = .ok (.lload_n 0, 1) := by decide +kernel
theorem d1_14 : decode method_2_code 14 = .ok (.lreturn, 1) := by decide +kernel
theorem d1_15 : decode method_2_code 15 = .ok (.iload 4, 2) := by decide +kernel
theorem d1_17 : decode method_2_code 17 = .ok (.iconst 2, 1) := by decide +kernel
theorem d1_18 : decode method_2_code 18 = .ok (.if_icmp .ne 7, 3) := by decide +kernel
theorem d1_21 : decode method_2_code 21 = .ok (.lload_n 0, 1) := by decide +kernel
theorem d1_22 : decode method_2_code 22 = .ok (.lconst 1, 1) := by decide +kernel
theorem d1_23 : decode method_2_code 23 = .ok (.ladd, 1) := by decide +kernel
theorem d1_24 : decode method_2_code 24 = .ok (.lreturn, 1) := by decide +kernel
theorem d1_25 : decode method_2_code 25 = .ok (.lload_n 0, 1) := by decide +kernel
theorem d1_26 : decode method_2_code 26 = .ok (.lconst 1, 1) := by decide +kernel
theorem d1_27 : decode method_2_code 27 = .ok (.lsub, 1) := by decide +kernel
theorem d1_28 : decode method_2_code 28 = .ok (.lreturn, 1) := by decide +kernel
theorem ef_1 (m : MethodId) (x0 : Int64) (x1 : Int64) (x2 : Int32) : entryFrame m #[(.long x0), (.long x1), (.int x2)] 5 = mkF m 0 #[.val (.long x0), .second, .val (.long x1), .second, .val (.int x2)] [] := by first | (simp [entryFrame, mkF, argsToLocals, Value.category]; done) | rfl
abbrev R1 : Room := { frames := 0, cells := 0, slots := 0, locals := 0 }
def r1 (p1_0 : Int64) (p1_1 : Int64) (p1_2 : Int32) : Int64 := (if p1_2 = (0 : Int32) then p1_1 else (if p1_2 = (1 : Int32) then p1_0 else (if p1_2 = (2 : Int32) then (p1_0 + (1 : Int64)) else (p1_0 - (1 : Int64)))))
def Q1 (Z : State) (p1_0 : Int64) (p1_1 : Int64) (p1_2 : Int32) (h0 : Heap) (n0 : Nat) (v : Option Value) (h : Heap) (L : List Loc) : Prop := v = some (.long (r1 p1_0 p1_1 p1_2)) ∧ Fr n0 L ∧ h = h0
set_option maxRecDepth 65536 in
set_option maxHeartbeats 40000000 in
theorem rm1 (l : Launch) (Z : State) (a0 : Array Value) (hw : ∀ d ∈ tables_1, d.before a0 Z = true) (ws : List Jvm.Cond) (p1_0 : Int64) (p1_1 : Int64) (p1_2 : Int32) (h0 : Heap) (n0 : Nat) (Z0 : n0 ≤ h0.size) :
    MetFree l (⟨"relayout/RectIsEmptyPinLaw", "pick", "(JJI)J"⟩ : MethodName) (head1 (Jvm.Cond.code (⟨"relayout/RectIsEmptyPinLaw", "pick", "(JJI)J"⟩ : MethodName) method_2_code 5 (some .long) :: ws) R1) (fun a U => a = #[(.long p1_0), (.long p1_1), (.int p1_2)] ∧ Z.Warmed39 U.vm ∧ U.heap = h0) (fun _ _ _ _ _ => True) (fun _ U o U' => ∃ v L, o = .returned v ∧ Q1 Z p1_0 p1_1 p1_2 h0 n0 v U'.heap L ∧ FrameEnd U o U' L R1.cells R1.slots) := by
  refine MetFree.of_bodySF (plainFor_of_name pn_0) hisR ?_
  intro p e s m args below meth c s₁ Bd hml0 hP hK
  obtain ⟨rfl, hZ, hh⟩ := hP
  have hx := Bd.exec
  have hby := Bd.bytes
  have hml : c.maxLocals = 5 := hml0
  have hown : s.vm.findClass "relayout/RectIsEmptyPinLaw" = some m.cls := findClass_of_methodNamed Bd.named
  have hnm := (name_of_methodNamed Bd.named Bd.method).1
  have X0 : Stand p l e R1 s m #[(.long p1_0), (.long p1_1), (.int p1_2)] below meth c s₁ [] 0 0 := Stand.of_body Bd
  have e0 : s₁.heap = h0 := by rw [← hh, Bd.state]; rfl
  have N0 := Fr.nil n0
  have pre0 : ∀ t, Steps p.tables e below (s₁.setTop (mkF m 0 #[.val (.long p1_0), .second, .val (.long p1_1), .second, .val (.int p1_2)] [])) t → Steps p.tables e below (s₁.setTop (entryFrame m #[(.long p1_0), (.long p1_1), (.int p1_2)] 5)) t := fun t k => castTop (ef_1 m p1_0 p1_1 p1_2) k
  have pre1 : ∀ t, Steps p.tables e below (s₁.setTop (mkF m 2 #[.val (.long p1_0), .second, .val (.long p1_1), .second, .val (.int p1_2)] [(.int p1_2)])) t → Steps p.tables e below (s₁.setTop (entryFrame m #[(.long p1_0), (.long p1_1), (.int p1_2)] 5)) t := fun t k => pre0 t (by
    refine XS.iload X0.here hx rfl (hb hby d1_0) rfl ?_
    show Steps p.tables e below (s₁.setTop (mkF m 2 #[.val (.long p1_0), .second, .val (.long p1_1), .second, .val (.int p1_2)] [(.int p1_2)])) _
    exact k)
  by_cases hc2_2 : p1_2 = (0 : Int32)
  · have pre3 : ∀ t, Steps p.tables e below (s₁.setTop (mkF m 6 #[.val (.long p1_0), .second, .val (.long p1_1), .second, .val (.int p1_2)] [(.long p1_1)])) t → Steps p.tables e below (s₁.setTop (entryFrame m #[(.long p1_0), (.long p1_1), (.int p1_2)] 5)) t := fun t k => pre1 t (by
      refine XS.ifNo X0.here hx rfl (hb hby d1_2) rfl ((if0 _ _).trans (teq hc2_2).2) ?_
      show Steps p.tables e below (s₁.setTop (mkF m 5 #[.val (.long p1_0), .second, .val (.long p1_1), .second, .val (.int p1_2)] [])) _
      refine XS.lloadN X0.here hx rfl (hb hby d1_5) rfl ?_
      show Steps p.tables e below (s₁.setTop (mkF m 6 #[.val (.long p1_0), .second, .val (.long p1_1), .second, .val (.int p1_2)] [(.long p1_1)])) _
      exact k)
    have hret : (r1 p1_0 p1_1 p1_2) = p1_1 := by unfold r1; rw [if_pos hc2_2]
    obtain ⟨fs, hr, hrun, hended, hW, hsame⟩ := X0.leave (v := some (.long p1_1)) (fun h => by rw [Bd.returns] at h; cases h)
    refine ⟨_, _, pre3 _ ?_, hrun, hended, _, _, rfl, ?_, ⟨_, rfl⟩, hW, hsame.mono (by decide) (by decide)⟩
    · show Steps p.tables e below (s₁.setTop (mkF m 6 #[.val (.long p1_0), .second, .val (.long p1_1), .second, .val (.int p1_2)] [(.long p1_1)])) _
      exact own_retJ X0 hx Bd.returns (hb hby d1_6) hr
    · show Q1 Z p1_0 p1_1 p1_2 h0 n0 _ s₁.heap _
      rw [e0]
      exact ⟨(by rw [hret]), N0, rfl⟩
  · have pre4 : ∀ t, Steps p.tables e below (s₁.setTop (mkF m 10 #[.val (.long p1_0), .second, .val (.long p1_1), .second, .val (.int p1_2)] [(.int (1 : Int32)), (.int p1_2)])) t → Steps p.tables e below (s₁.setTop (entryFrame m #[(.long p1_0), (.long p1_1), (.int p1_2)] 5)) t := fun t k => pre1 t (by
      refine XS.ifYes X0.here hx rfl (pc0 := 2) (pc' := 7) rfl (hb hby d1_2) rfl ((if0 _ _).trans (feq hc2_2).2) (by decide) (by decide) ?_
      show Steps p.tables e below (s₁.setTop (mkF m 7 #[.val (.long p1_0), .second, .val (.long p1_1), .second, .val (.int p1_2)] [])) _
      refine XS.iload X0.here hx rfl (hb hby d1_7) rfl ?_
      show Steps p.tables e below (s₁.setTop (mkF m 9 #[.val (.long p1_0), .second, .val (.long p1_1), .second, .val (.int p1_2)] [(.int p1_2)])) _
      refine XS.iconst X0.here hx rfl (hb hby d1_9) ?_
      show Steps p.tables e below (s₁.setTop (mkF m 10 #[.val (.long p1_0), .second, .val (.long p1_1), .second, .val (.int p1_2)] [(.int (1 : Int32)), (.int p1_2)])) _
      exact k)
    by_cases hc10_5 : p1_2 = (1 : Int32)
    · have pre6 : ∀ t, Steps p.tables e below (s₁.setTop (mkF m 14 #[.val (.long p1_0), .second, .val (.long p1_1), .second, .val (.int p1_2)] [(.long p1_0)])) t → Steps p.tables e below (s₁.setTop (entryFrame m #[(.long p1_0), (.long p1_1), (.int p1_2)] 5)) t := fun t k => pre4 t (by
        refine XS.icmpNo X0.here hx rfl (hb hby d1_10) rfl (teq hc10_5).2 ?_
        show Steps p.tables e below (s₁.setTop (mkF m 13 #[.val (.long p1_0), .second, .val (.long p1_1), .second, .val (.int p1_2)] [])) _
        refine XS.lloadN X0.here hx rfl (hb hby d1_13) rfl ?_
        show Steps p.tables e below (s₁.setTop (mkF m 14 #[.val (.long p1_0), .second, .val (.long p1_1), .second, .val (.int p1_2)] [(.long p1_0)])) _
        exact k)
      have hret : (r1 p1_0 p1_1 p1_2) = p1_0 := by unfold r1; rw [if_neg hc2_2, if_pos hc10_5]
      obtain ⟨fs, hr, hrun, hended, hW, hsame⟩ := X0.leave (v := some (.long p1_0)) (fun h => by rw [Bd.returns] at h; cases h)
      refine ⟨_, _, pre6 _ ?_, hrun, hended, _, _, rfl, ?_, ⟨_, rfl⟩, hW, hsame.mono (by decide) (by decide)⟩
      · show Steps p.tables e below (s₁.setTop (mkF m 14 #[.val (.long p1_0), .second, .val (.long p1_1), .second, .val (.int p1_2)] [(.long p1_0)])) _
        exact own_retJ X0 hx Bd.returns (hb hby d1_14) hr
      · show Q1 Z p1_0 p1_1 p1_2 h0 n0 _ s₁.heap _
        rw [e0]
        exact ⟨(by rw [hret]), N0, rfl⟩
    · have pre7 : ∀ t, Steps p.tables e below (s₁.setTop (mkF m 18 #[.val (.long p1_0), .second, .val (.long p1_1), .second, .val (.int p1_2)] [(.int (2 : Int32)), (.int p1_2)])) t → Steps p.tables e below (s₁.setTop (entryFrame m #[(.long p1_0), (.long p1_1), (.int p1_2)] 5)) t := fun t k => pre4 t (by
        refine XS.icmpYes X0.here hx rfl (pc0 := 10) (pc' := 15) rfl (hb hby d1_10) rfl (feq hc10_5).2 (by decide) (by decide) ?_
        show Steps p.tables e below (s₁.setTop (mkF m 15 #[.val (.long p1_0), .second, .val (.long p1_1), .second, .val (.int p1_2)] [])) _
        refine XS.iload X0.here hx rfl (hb hby d1_15) rfl ?_
        show Steps p.tables e below (s₁.setTop (mkF m 17 #[.val (.long p1_0), .second, .val (.long p1_1), .second, .val (.int p1_2)] [(.int p1_2)])) _
        refine XS.iconst X0.here hx rfl (hb hby d1_17) ?_
        show Steps p.tables e below (s₁.setTop (mkF m 18 #[.val (.long p1_0), .second, .val (.long p1_1), .second, .val (.int p1_2)] [(.int (2 : Int32)), (.int p1_2)])) _
        exact k)
      by_cases hc18_8 : p1_2 = (2 : Int32)
      · have pre9 : ∀ t, Steps p.tables e below (s₁.setTop (mkF m 24 #[.val (.long p1_0), .second, .val (.long p1_1), .second, .val (.int p1_2)] [(.long (p1_0 + (1 : Int64)))])) t → Steps p.tables e below (s₁.setTop (entryFrame m #[(.long p1_0), (.long p1_1), (.int p1_2)] 5)) t := fun t k => pre7 t (by
          refine XS.icmpNo X0.here hx rfl (hb hby d1_18) rfl (teq hc18_8).2 ?_
          show Steps p.tables e below (s₁.setTop (mkF m 21 #[.val (.long p1_0), .second, .val (.long p1_1), .second, .val (.int p1_2)] [])) _
          refine XS.lloadN X0.here hx rfl (hb hby d1_21) rfl ?_
          show Steps p.tables e below (s₁.setTop (mkF m 22 #[.val (.long p1_0), .second, .val (.long p1_1), .second, .val (.int p1_2)] [(.long p1_0)])) _
          refine XS.lconst X0.here hx rfl (hb hby d1_22) ?_
          show Steps p.tables e below (s₁.setTop (mkF m 23 #[.val (.long p1_0), .second, .val (.long p1_1), .second, .val (.int p1_2)] [(.long (1 : Int64)), (.long p1_0)])) _
          refine XS.ladd X0.here hx rfl (hb hby d1_23) rfl ?_
          show Steps p.tables e below (s₁.setTop (mkF m 24 #[.val (.long p1_0), .second, .val (.long p1_1), .second, .val (.int p1_2)] [(.long (p1_0 + (1 : Int64)))])) _
          exact k)
        have hret : (r1 p1_0 p1_1 p1_2) = (p1_0 + (1 : Int64)) := by unfold r1; rw [if_neg hc2_2, if_neg hc10_5, if_pos hc18_8]
        obtain ⟨fs, hr, hrun, hended, hW, hsame⟩ := X0.leave (v := some (.long (p1_0 + (1 : Int64)))) (fun h => by rw [Bd.returns] at h; cases h)
        refine ⟨_, _, pre9 _ ?_, hrun, hended, _, _, rfl, ?_, ⟨_, rfl⟩, hW, hsame.mono (by decide) (by decide)⟩
        · show Steps p.tables e below (s₁.setTop (mkF m 24 #[.val (.long p1_0), .second, .val (.long p1_1), .second, .val (.int p1_2)] [(.long (p1_0 + (1 : Int64)))])) _
          exact own_retJ X0 hx Bd.returns (hb hby d1_24) hr
        · show Q1 Z p1_0 p1_1 p1_2 h0 n0 _ s₁.heap _
          rw [e0]
          exact ⟨(by rw [hret]), N0, rfl⟩
      · have pre10 : ∀ t, Steps p.tables e below (s₁.setTop (mkF m 28 #[.val (.long p1_0), .second, .val (.long p1_1), .second, .val (.int p1_2)] [(.long (p1_0 - (1 : Int64)))])) t → Steps p.tables e below (s₁.setTop (entryFrame m #[(.long p1_0), (.long p1_1), (.int p1_2)] 5)) t := fun t k => pre7 t (by
          refine XS.icmpYes X0.here hx rfl (pc0 := 18) (pc' := 25) rfl (hb hby d1_18) rfl (feq hc18_8).2 (by decide) (by decide) ?_
          show Steps p.tables e below (s₁.setTop (mkF m 25 #[.val (.long p1_0), .second, .val (.long p1_1), .second, .val (.int p1_2)] [])) _
          refine XS.lloadN X0.here hx rfl (hb hby d1_25) rfl ?_
          show Steps p.tables e below (s₁.setTop (mkF m 26 #[.val (.long p1_0), .second, .val (.long p1_1), .second, .val (.int p1_2)] [(.long p1_0)])) _
          refine XS.lconst X0.here hx rfl (hb hby d1_26) ?_
          show Steps p.tables e below (s₁.setTop (mkF m 27 #[.val (.long p1_0), .second, .val (.long p1_1), .second, .val (.int p1_2)] [(.long (1 : Int64)), (.long p1_0)])) _
          refine XS.lsub X0.here hx rfl (hb hby d1_27) rfl ?_
          show Steps p.tables e below (s₁.setTop (mkF m 28 #[.val (.long p1_0), .second, .val (.long p1_1), .second, .val (.int p1_2)] [(.long (p1_0 - (1 : Int64)))])) _
          exact k)
        have hret : (r1 p1_0 p1_1 p1_2) = (p1_0 - (1 : Int64)) := by unfold r1; rw [if_neg hc2_2, if_neg hc10_5, if_neg hc18_8]
        obtain ⟨fs, hr, hrun, hended, hW, hsame⟩ := X0.leave (v := some (.long (p1_0 - (1 : Int64)))) (fun h => by rw [Bd.returns] at h; cases h)
        refine ⟨_, _, pre10 _ ?_, hrun, hended, _, _, rfl, ?_, ⟨_, rfl⟩, hW, hsame.mono (by decide) (by decide)⟩
        · show Steps p.tables e below (s₁.setTop (mkF m 28 #[.val (.long p1_0), .second, .val (.long p1_1), .second, .val (.int p1_2)] [(.long (p1_0 - (1 : Int64)))])) _
          exact own_retJ X0 hx Bd.returns (hb hby d1_28) hr
        · show Q1 Z p1_0 p1_1 p1_2 h0 n0 _ s₁.heap _
          rw [e0]
          exact ⟨(by rw [hret]), N0, rfl⟩
theorem pn_1 : plainName "java/lang/Record" = true := by first | (simp [plainName, overriddenIn]; done) | decide +kernel
theorem d3_0 : decode jdk_30_method_1_code 0 = .ok (.aload_n 0, 1) := by decide +kernel
theorem d3_1 : decode jdk_30_method_1_code 1 = .ok (.invokespecial 1, 3) := by decide +kernel
theorem d3_4 : decode jdk_30_method_1_code 4 = .ok (.return_, 1) := by decide +kernel
theorem ef_3 (m : MethodId) (x0 : Addr) : entryFrame m #[(.ref x0)] 1 = mkF m 0 #[.val (.ref x0)] [] := by first | (simp [entryFrame, mkF, argsToLocals, Value.category]; done) | rfl
abbrev R3 : Room := { frames := 1, cells := 0, slots := 0, locals := 12 }
def Q3 (Z : State) (a3_0 : Addr) (h0 : Heap) (n0 : Nat) (v : Option Value) (h : Heap) (L : List Loc) : Prop := v = none ∧ Fr n0 L ∧ h = h0
set_option maxRecDepth 65536 in
set_option maxHeartbeats 40000000 in
theorem rm3 (l : Launch) (Z : State) (a0 : Array Value) (hw : ∀ d ∈ tables_1, d.before a0 Z = true) (ws : List Jvm.Cond) (a3_0 : Addr) (h0 : Heap) (n0 : Nat) (Z0 : n0 ≤ h0.size) :
    MetFree l (⟨"java/lang/Record", "<init>", "()V"⟩ : MethodName) (head1 (Jvm.Cond.code (⟨"java/lang/Record", "<init>", "()V"⟩ : MethodName) jdk_30_method_1_code 1 none :: ws) R3) (fun a U => a = #[(.ref a3_0)] ∧ Z.Warmed39 U.vm ∧ U.heap = h0) (fun _ _ _ _ _ => True) (fun _ U o U' => ∃ v L, o = .returned v ∧ Q3 Z a3_0 h0 n0 v U'.heap L ∧ FrameEnd U o U' L R3.cells R3.slots) := by
  refine MetFree.of_bodySF (plainFor_of_name pn_1) hisR ?_
  intro p e s m args below meth c s₁ Bd hml0 hP hK
  obtain ⟨rfl, hZ, hh⟩ := hP
  have hx := Bd.exec
  have hby := Bd.bytes
  have hml : c.maxLocals = 1 := hml0
  have hown : s.vm.findClass "java/lang/Record" = some m.cls := findClass_of_methodNamed Bd.named
  have hnm := (name_of_methodNamed Bd.named Bd.method).1
  have X0 : Stand p l e R3 s m #[(.ref a3_0)] below meth c s₁ [] 0 0 := Stand.of_body Bd
  have e0 : s₁.heap = h0 := by rw [← hh, Bd.state]; rfl
  have N0 := Fr.nil n0
  have pre0 : ∀ t, Steps p.tables e below (s₁.setTop (mkF m 0 #[.val (.ref a3_0)] [])) t → Steps p.tables e below (s₁.setTop (entryFrame m #[(.ref a3_0)] 1)) t := fun t k => castTop (ef_3 m a3_0) k
  have pre1 : ∀ t, Steps p.tables e below (s₁.setTop (mkF m 1 #[.val (.ref a3_0)] [(.ref a3_0)])) t → Steps p.tables e below (s₁.setTop (entryFrame m #[(.ref a3_0)] 1)) t := fun t k => pre0 t (by
    refine XS.aloadN X0.here hx rfl (hb hby d3_0) rfl rfl ?_
    show Steps p.tables e below (s₁.setTop (mkF m 1 #[.val (.ref a3_0)] [(.ref a3_0)])) _
    exact k)
  obtain ⟨T2, X2, e2, st2⟩ := initO X0 hx hZ hown (hw _ (List.mem_of_getElem? (i := 15) rfl)) (hw _ (List.mem_of_getElem? (i := 16) rfl)) (hw _ (List.mem_of_getElem? (i := 17) rfl)) e0 (g := (mkF m 1 #[.val (.ref a3_0)] [(.ref a3_0)])) rfl (by rw [hml]; rfl) rfl (hb hby d3_1) (by decide) (W := 0) (by show 2 * 0 + _ ≤ _; exact Nat.le_of_eq rfl) (by decide)
  have pre2 : ∀ t, Steps p.tables e below (T2.setTop (mkF m 4 #[.val (.ref a3_0)] [])) t → Steps p.tables e below (s₁.setTop (entryFrame m #[(.ref a3_0)] 1)) t := fun t k => pre1 t (st2 t k)
  obtain ⟨fs, hr, hrun, hended, hW, hsame⟩ := X2.leave (v := none) (fun _ => rfl)
  refine ⟨_, _, pre2 _ ?_, hrun, hended, _, _, rfl, ?_, ⟨_, rfl⟩, hW, hsame.mono (by decide) (by decide)⟩
  · show Steps p.tables e below (T2.setTop (mkF m 4 #[.val (.ref a3_0)] [])) _
    exact X2.returnOut hx Bd.returns (hb hby d3_4) hr
  · show Q3 Z a3_0 h0 n0 _ T2.heap _
    rw [e2]
    exact ⟨rfl, N0, rfl⟩
theorem pn_2 : plainName "relayout/Rect" = true := by first | (simp [plainName, overriddenIn]; done) | decide +kernel
theorem pd_0 : parseMethodDescriptor "()V" = some ⟨[], none⟩ := by decide +kernel
theorem d2_0 : decode prog_25_method_1_code 0 = .ok (.aload_n 0, 1) := by decide +kernel
theorem d2_1 : decode prog_25_method_1_code 1 = .ok (.invokespecial 1, 3) := by decide +kernel
theorem d2_4 : decode prog_25_method_1_code 4 = .ok (.aload_n 0, 1) := by decide +kernel
theorem d2_5 : decode prog_25_method_1_code 5 = .ok (.lload_n 1, 1) := by decide +kernel
theorem d2_6 : decode prog_25_method_1_code 6 = .ok (.putfield 7, 3) := by decide +kernel
theorem d2_9 : decode prog_25_method_1_code 9 = .ok (.aload_n 0, 1) := by decide +kernel
theorem d2_10 : decode prog_25_method_1_code 10 = .ok (.lload_n 3, 1) := by decide +kernel
theorem d2_11 : decode prog_25_method_1_code 11 = .ok (.putfield 13, 3) := by decide +kernel
theorem d2_14 : decode prog_25_method_1_code 14 = .ok (.aload_n 0, 1) := by decide +kernel
theorem d2_15 : decode prog_25_method_1_code 15 = .ok (.lload 5, 2) := by decide +kernel
theorem d2_17 : decode prog_25_method_1_code 17 = .ok (.putfield 16, 3) := by decide +kernel
theorem d2_20 : decode prog_25_method_1_code 20 = .ok (.aload_n 0, 1) := by decide +kernel
theorem d2_21 : decode prog_25_method_1_code 21 = .ok (.lload 7, 2) := by decide +kernel
theorem d2_23 : decode prog_25_method_1_code 23 = .ok (.putfield 19, 3) := by decide +kernel
theorem d2_26 : decode prog_25_method_1_code 26 = .ok (.return_, 1) := by decide +kernel
theorem ef_2 (m : MethodId) (x0 : Addr) (x1 : Int64) (x2 : Int64) (x3 : Int64) (x4 : Int64) : entryFrame m #[(.ref x0), (.long x1), (.long x2), (.long x3), (.long x4)] 9 = mkF m 0 #[.val (.ref x0), .val (.long x1), .second, .val (.long x2), .second, .val (.long x3), .second, .val (.long x4), .second] [] := by first | (simp [entryFrame, mkF, argsToLocals, Value.category]; done) | rfl
abbrev R2 : Room := { frames := 2, cells := 0, slots := 0, locals := 24 }
def Q2 (Z : State) (a2_0 : Addr) (p2_1 : Int64) (p2_2 : Int64) (p2_3 : Int64) (p2_4 : Int64) (w2_left : Int64) (w2_top : Int64) (w2_right : Int64) (w2_bottom : Int64) (h0 : Heap) (n0 : Nat) (v : Option Value) (h : Heap) (L : List Loc) : Prop := v = none ∧ Fr n0 L ∧ Keep h0 h [a2_0] ∧ Fld Z h a2_0 "relayout/Rect" "left" "J" (.long p2_1) ∧ Fld Z h a2_0 "relayout/Rect" "top" "J" (.long p2_2) ∧ Fld Z h a2_0 "relayout/Rect" "right" "J" (.long p2_3) ∧ Fld Z h a2_0 "relayout/Rect" "bottom" "J" (.long p2_4)
set_option maxRecDepth 65536 in
set_option maxHeartbeats 40000000 in
theorem rm2 (l : Launch) (Z : State) (a0 : Array Value) (hw : ∀ d ∈ tables_1, d.before a0 Z = true) (ws : List Jvm.Cond) (a2_0 : Addr) (p2_1 : Int64) (p2_2 : Int64) (p2_3 : Int64) (p2_4 : Int64) (w2_left : Int64) (w2_top : Int64) (w2_right : Int64) (w2_bottom : Int64) (h0 : Heap) (n0 : Nat) (Z0 : n0 ≤ h0.size) (E_a2_0 : Exa Z h0 a2_0 "relayout/Rect") (F_left_a2_0 : Fld Z h0 a2_0 "relayout/Rect" "left" "J" (.long w2_left)) (F_top_a2_0 : Fld Z h0 a2_0 "relayout/Rect" "top" "J" (.long w2_top)) (F_right_a2_0 : Fld Z h0 a2_0 "relayout/Rect" "right" "J" (.long w2_right)) (F_bottom_a2_0 : Fld Z h0 a2_0 "relayout/Rect" "bottom" "J" (.long w2_bottom)) (g_a2_0 : n0 ≤ a2_0) :
    MetFree l (⟨"relayout/Rect", "<init>", "(JJJJ)V"⟩ : MethodName) (head1 (Jvm.Cond.code (⟨"relayout/Rect", "<init>", "(JJJJ)V"⟩ : MethodName) prog_25_method_1_code 9 none :: ws) R2) (fun a U => a = #[(.ref a2_0), (.long p2_1), (.long p2_2), (.long p2_3), (.long p2_4)] ∧ Z.Warmed39 U.vm ∧ U.heap = h0) (fun _ _ _ _ _ => True) (fun _ U o U' => ∃ v L, o = .returned v ∧ Q2 Z a2_0 p2_1 p2_2 p2_3 p2_4 w2_left w2_top w2_right w2_bottom h0 n0 v U'.heap L ∧ FrameEnd U o U' L R2.cells R2.slots) := by
  refine MetFree.of_bodySF (plainFor_of_name pn_2) hisR ?_
  intro p e s m args below meth c s₁ Bd hml0 hP hK
  obtain ⟨rfl, hZ, hh⟩ := hP
  have hx := Bd.exec
  have hby := Bd.bytes
  have hml : c.maxLocals = 9 := hml0
  have hown : s.vm.findClass "relayout/Rect" = some m.cls := findClass_of_methodNamed Bd.named
  have hnm := (name_of_methodNamed Bd.named Bd.method).1
  have X0 : Stand p l e R2 s m #[(.ref a2_0), (.long p2_1), (.long p2_2), (.long p2_3), (.long p2_4)] below meth c s₁ [] 0 0 := Stand.of_body Bd
  have e0 : s₁.heap = h0 := by rw [← hh, Bd.state]; rfl
  have N0 := Fr.nil n0
  have pre0 : ∀ t, Steps p.tables e below (s₁.setTop (mkF m 0 #[.val (.ref a2_0), .val (.long p2_1), .second, .val (.long p2_2), .second, .val (.long p2_3), .second, .val (.long p2_4), .second] [])) t → Steps p.tables e below (s₁.setTop (entryFrame m #[(.ref a2_0), (.long p2_1), (.long p2_2), (.long p2_3), (.long p2_4)] 9)) t := fun t k => castTop (ef_2 m a2_0 p2_1 p2_2 p2_3 p2_4) k
  have pre1 : ∀ t, Steps p.tables e below (s₁.setTop (mkF m 1 #[.val (.ref a2_0), .val (.long p2_1), .second, .val (.long p2_2), .second, .val (.long p2_3), .second, .val (.long p2_4), .second] [(.ref a2_0)])) t → Steps p.tables e below (s₁.setTop (entryFrame m #[(.ref a2_0), (.long p2_1), (.long p2_2), (.long p2_3), (.long p2_4)] 9)) t := fun t k => pre0 t (by
    refine XS.aloadN X0.here hx rfl (hb hby d2_0) rfl rfl ?_
    show Steps p.tables e below (s₁.setTop (mkF m 1 #[.val (.ref a2_0), .val (.long p2_1), .second, .val (.long p2_2), .second, .val (.long p2_3), .second, .val (.long p2_4), .second] [(.ref a2_0)])) _
    exact k)
  obtain ⟨_, _, ⟨T2, L2, k2, n2⟩, -, X2, ⟨Lc2, hQ2, l2, y2, z2⟩, st2⟩ := X0.specialBack hx (y := (⟨"java/lang/Record", "<init>", "()V"⟩ : MethodName)) rfl hown (mvT hZ (hw _ (List.mem_of_getElem? (i := 10) rfl))) (mvT hZ (hw _ (List.mem_of_getElem? (i := 11) rfl))) (mvT hZ (hw _ (List.mem_of_getElem? (i := 14) rfl))) (by decide) (backOf (W := 0) (rm3 l Z a0 hw [] a2_0 h0 n0 Z0 ) hZ (hw _ (List.mem_of_getElem? (i := 14) rfl)) (hw _ (List.mem_of_getElem? (i := 13) rfl)) (by decide) (by decide)) (g := (mkF m 1 #[.val (.ref a2_0), .val (.long p2_1), .second, .val (.long p2_2), .second, .val (.long p2_3), .second, .val (.long p2_4), .second] [(.ref a2_0)])) rfl (by rw [hml]; rfl) (Steps.refl _) (a := a2_0) (argsL := []) (rest := []) (lenOf pd_0 rfl) rfl (by show 2 * 0 + _ ≤ _; exact Nat.le_of_eq rfl) (hb hby d2_1) (fun _ _ => ⟨rfl, e0, (by decide : 0 + 0 ≤ _), (by decide : 0 + 0 ≤ _)⟩)
  dsimp only [Pt.U, Pt.locs, Pt.cells, Pt.slots] at X2 l2 y2 z2 st2 hQ2
  subst l2 y2 z2
  obtain ⟨rfl, M2, e2⟩ := hQ2
  have N2 := Fr.app N0 M2
  have pre2 : ∀ t, Steps p.tables e below (T2.setTop (mkF m 4 #[.val (.ref a2_0), .val (.long p2_1), .second, .val (.long p2_2), .second, .val (.long p2_3), .second, .val (.long p2_4), .second] [])) t → Steps p.tables e below (s₁.setTop (entryFrame m #[(.ref a2_0), (.long p2_1), (.long p2_2), (.long p2_3), (.long p2_4)] 9)) t := fun t k => pre1 t (st2.trans k)
  have pre3 : ∀ t, Steps p.tables e below (T2.setTop (mkF m 6 #[.val (.ref a2_0), .val (.long p2_1), .second, .val (.long p2_2), .second, .val (.long p2_3), .second, .val (.long p2_4), .second] [(.long p2_1), (.ref a2_0)])) t → Steps p.tables e below (s₁.setTop (entryFrame m #[(.ref a2_0), (.long p2_1), (.long p2_2), (.long p2_3), (.long p2_4)] 9)) t := fun t k => pre2 t (by
    refine XS.aloadN X2.here hx rfl (hb hby d2_4) rfl rfl ?_
    show Steps p.tables e below (T2.setTop (mkF m 5 #[.val (.ref a2_0), .val (.long p2_1), .second, .val (.long p2_2), .second, .val (.long p2_3), .second, .val (.long p2_4), .second] [(.ref a2_0)])) _
    refine XS.lloadN X2.here hx rfl (hb hby d2_5) rfl ?_
    show Steps p.tables e below (T2.setTop (mkF m 6 #[.val (.ref a2_0), .val (.long p2_1), .second, .val (.long p2_2), .second, .val (.long p2_3), .second, .val (.long p2_4), .second] [(.long p2_1), (.ref a2_0)])) _
    exact k)
  obtain ⟨T4, h4, X4, e4, W4, st4⟩ := putF X2 hx hZ hown (host := "") (Or.inl (hw _ (List.mem_of_getElem? (i := 18) rfl))) Via.refl e2 F_left_a2_0 E_a2_0 (Or.inr ⟨(hw _ (List.mem_of_getElem? (i := 19) rfl)), rfl, hnm⟩) (hw _ (List.mem_of_getElem? (i := 5) rfl)) (ty := .long) (by decide) rfl rfl (g := (mkF m 6 #[.val (.ref a2_0), .val (.long p2_1), .second, .val (.long p2_2), .second, .val (.long p2_3), .second, .val (.long p2_4), .second] [(.long p2_1), (.ref a2_0)])) rfl rfl (hb hby d2_6)
  have Ex5 : Exa Z h4 a2_0 "relayout/Rect" := E_a2_0.wr W4
  have F6 : Fld Z h4 a2_0 "relayout/Rect" "top" "J" (.long w2_top) := F_top_a2_0.other W4 (Or.inr (slot_ne (Or.inr (hw _ (List.mem_of_getElem? (i := 21) rfl))) (Or.inr (hw _ (List.mem_of_getElem? (i := 19) rfl))) (by decide) (t := .long) (t' := .long) (by decide) (by decide)))
  have F7 : Fld Z h4 a2_0 "relayout/Rect" "right" "J" (.long w2_right) := F_right_a2_0.other W4 (Or.inr (slot_ne (Or.inr (hw _ (List.mem_of_getElem? (i := 23) rfl))) (Or.inr (hw _ (List.mem_of_getElem? (i := 19) rfl))) (by decide) (t := .long) (t' := .long) (by decide) (by decide)))
  have F8 : Fld Z h4 a2_0 "relayout/Rect" "bottom" "J" (.long w2_bottom) := F_bottom_a2_0.other W4 (Or.inr (slot_ne (Or.inr (hw _ (List.mem_of_getElem? (i := 25) rfl))) (Or.inr (hw _ (List.mem_of_getElem? (i := 19) rfl))) (by decide) (t := .long) (t' := .long) (by decide) (by decide)))
  have N4 := Fr.snoc X4 N2 g_a2_0
  have Z4 : n0 ≤ h4.size := Nat.le_trans Z0 (Keep.of_wr W4).1
  have K4 : Keep h0 h4 [a2_0] := (Keep.refl h0 [a2_0]).wr W4 (Or.inl (by simp))
  have F9 : Fld Z h4 a2_0 "relayout/Rect" "left" "J" (.long p2_1) := F_left_a2_0.same W4
  have pre4 : ∀ t, Steps p.tables e below (T4.setTop (mkF m 9 #[.val (.ref a2_0), .val (.long p2_1), .second, .val (.long p2_2), .second, .val (.long p2_3), .second, .val (.long p2_4), .second] [])) t → Steps p.tables e below (s₁.setTop (entryFrame m #[(.ref a2_0), (.long p2_1), (.long p2_2), (.long p2_3), (.long p2_4)] 9)) t := fun t k => pre3 t (st4 t k)
  have pre10 : ∀ t, Steps p.tables e below (T4.setTop (mkF m 11 #[.val (.ref a2_0), .val (.long p2_1), .second, .val (.long p2_2), .second, .val (.long p2_3), .second, .val (.long p2_4), .second] [(.long p2_2), (.ref a2_0)])) t → Steps p.tables e below (s₁.setTop (entryFrame m #[(.ref a2_0), (.long p2_1), (.long p2_2), (.long p2_3), (.long p2_4)] 9)) t := fun t k => pre4 t (by
    refine XS.aloadN X4.here hx rfl (hb hby d2_9) rfl rfl ?_
    show Steps p.tables e below (T4.setTop (mkF m 10 #[.val (.ref a2_0), .val (.long p2_1), .second, .val (.long p2_2), .second, .val (.long p2_3), .second, .val (.long p2_4), .second] [(.ref a2_0)])) _
    refine XS.lloadN X4.here hx rfl (hb hby d2_10) rfl ?_
    show Steps p.tables e below (T4.setTop (mkF m 11 #[.val (.ref a2_0), .val (.long p2_1), .second, .val (.long p2_2), .second, .val (.long p2_3), .second, .val (.long p2_4), .second] [(.long p2_2), (.ref a2_0)])) _
    exact k)
  obtain ⟨T11, h11, X11, e11, W11, st11⟩ := putF X4 hx hZ hown (host := "") (Or.inl (hw _ (List.mem_of_getElem? (i := 20) rfl))) Via.refl e4 F6 Ex5 (Or.inr ⟨(hw _ (List.mem_of_getElem? (i := 21) rfl)), rfl, hnm⟩) (hw _ (List.mem_of_getElem? (i := 5) rfl)) (ty := .long) (by decide) rfl rfl (g := (mkF m 11 #[.val (.ref a2_0), .val (.long p2_1), .second, .val (.long p2_2), .second, .val (.long p2_3), .second, .val (.long p2_4), .second] [(.long p2_2), (.ref a2_0)])) rfl rfl (hb hby d2_11)
  have Ex12 : Exa Z h11 a2_0 "relayout/Rect" := Ex5.wr W11
  have F13 : Fld Z h11 a2_0 "relayout/Rect" "left" "J" (.long p2_1) := F9.other W11 (Or.inr (slot_ne (Or.inr (hw _ (List.mem_of_getElem? (i := 19) rfl))) (Or.inr (hw _ (List.mem_of_getElem? (i := 21) rfl))) (by decide) (t := .long) (t' := .long) (by decide) (by decide)))
  have F14 : Fld Z h11 a2_0 "relayout/Rect" "right" "J" (.long w2_right) := F7.other W11 (Or.inr (slot_ne (Or.inr (hw _ (List.mem_of_getElem? (i := 23) rfl))) (Or.inr (hw _ (List.mem_of_getElem? (i := 21) rfl))) (by decide) (t := .long) (t' := .long) (by decide) (by decide)))
  have F15 : Fld Z h11 a2_0 "relayout/Rect" "bottom" "J" (.long w2_bottom) := F8.other W11 (Or.inr (slot_ne (Or.inr (hw _ (List.mem_of_getElem? (i := 25) rfl))) (Or.inr (hw _ (List.mem_of_getElem? (i := 21) rfl))) (by decide) (t := .long) (t' := .long) (by decide) (by decide)))
  have N11 := Fr.snoc X11 N4 g_a2_0
  have Z11 : n0 ≤ h11.size := Nat.le_trans Z4 (Keep.of_wr W11).1
  have K11 : Keep h0 h11 [a2_0] := (K4).wr W11 (Or.inl (by simp))
  have F16 : Fld Z h11 a2_0 "relayout/Rect" "top" "J" (.long p2_2) := F6.same W11
  have pre11 : ∀ t, Steps p.tables e below (T11.setTop (mkF m 14 #[.val (.ref a2_0), .val (.long p2_1), .second, .val (.long p2_2), .second, .val (.long p2_3), .second, .val (.long p2_4), .second] [])) t → Steps p.tables e below (s₁.setTop (entryFrame m #[(.ref a2_0), (.long p2_1), (.long p2_2), (.long p2_3), (.long p2_4)] 9)) t := fun t k => pre10 t (st11 t k)
  have pre17 : ∀ t, Steps p.tables e below (T11.setTop (mkF m 17 #[.val (.ref a2_0), .val (.long p2_1), .second, .val (.long p2_2), .second, .val (.long p2_3), .second, .val (.long p2_4), .second] [(.long p2_3), (.ref a2_0)])) t → Steps p.tables e below (s₁.setTop (entryFrame m #[(.ref a2_0), (.long p2_1), (.long p2_2), (.long p2_3), (.long p2_4)] 9)) t := fun t k => pre11 t (by
    refine XS.aloadN X11.here hx rfl (hb hby d2_14) rfl rfl ?_
    show Steps p.tables e below (T11.setTop (mkF m 15 #[.val (.ref a2_0), .val (.long p2_1), .second, .val (.long p2_2), .second, .val (.long p2_3), .second, .val (.long p2_4), .second] [(.ref a2_0)])) _
    refine XS.lload X11.here hx rfl (hb hby d2_15) rfl ?_
    show Steps p.tables e below (T11.setTop (mkF m 17 #[.val (.ref a2_0), .val (.long p2_1), .second, .val (.long p2_2), .second, .val (.long p2_3), .second, .val (.long p2_4), .second] [(.long p2_3), (.ref a2_0)])) _
    exact k)
  obtain ⟨T18, h18, X18, e18, W18, st18⟩ := putF X11 hx hZ hown (host := "") (Or.inl (hw _ (List.mem_of_getElem? (i := 22) rfl))) Via.refl e11 F14 Ex12 (Or.inr ⟨(hw _ (List.mem_of_getElem? (i := 23) rfl)), rfl, hnm⟩) (hw _ (List.mem_of_getElem? (i := 5) rfl)) (ty := .long) (by decide) rfl rfl (g := (mkF m 17 #[.val (.ref a2_0), .val (.long p2_1), .second, .val (.long p2_2), .second, .val (.long p2_3), .second, .val (.long p2_4), .second] [(.long p2_3), (.ref a2_0)])) rfl rfl (hb hby d2_17)
  have Ex19 : Exa Z h18 a2_0 "relayout/Rect" := Ex12.wr W18
  have F20 : Fld Z h18 a2_0 "relayout/Rect" "left" "J" (.long p2_1) := F13.other W18 (Or.inr (slot_ne (Or.inr (hw _ (List.mem_of_getElem? (i := 19) rfl))) (Or.inr (hw _ (List.mem_of_getElem? (i := 23) rfl))) (by decide) (t := .long) (t' := .long) (by decide) (by decide)))
  have F21 : Fld Z h18 a2_0 "relayout/Rect" "top" "J" (.long p2_2) := F16.other W18 (Or.inr (slot_ne (Or.inr (hw _ (List.mem_of_getElem? (i := 21) rfl))) (Or.inr (hw _ (List.mem_of_getElem? (i := 23) rfl))) (by decide) (t := .long) (t' := .long) (by decide) (by decide)))
  have F22 : Fld Z h18 a2_0 "relayout/Rect" "bottom" "J" (.long w2_bottom) := F15.other W18 (Or.inr (slot_ne (Or.inr (hw _ (List.mem_of_getElem? (i := 25) rfl))) (Or.inr (hw _ (List.mem_of_getElem? (i := 23) rfl))) (by decide) (t := .long) (t' := .long) (by decide) (by decide)))
  have N18 := Fr.snoc X18 N11 g_a2_0
  have Z18 : n0 ≤ h18.size := Nat.le_trans Z11 (Keep.of_wr W18).1
  have K18 : Keep h0 h18 [a2_0] := (K11).wr W18 (Or.inl (by simp))
  have F23 : Fld Z h18 a2_0 "relayout/Rect" "right" "J" (.long p2_3) := F14.same W18
  have pre18 : ∀ t, Steps p.tables e below (T18.setTop (mkF m 20 #[.val (.ref a2_0), .val (.long p2_1), .second, .val (.long p2_2), .second, .val (.long p2_3), .second, .val (.long p2_4), .second] [])) t → Steps p.tables e below (s₁.setTop (entryFrame m #[(.ref a2_0), (.long p2_1), (.long p2_2), (.long p2_3), (.long p2_4)] 9)) t := fun t k => pre17 t (st18 t k)
  have pre24 : ∀ t, Steps p.tables e below (T18.setTop (mkF m 23 #[.val (.ref a2_0), .val (.long p2_1), .second, .val (.long p2_2), .second, .val (.long p2_3), .second, .val (.long p2_4), .second] [(.long p2_4), (.ref a2_0)])) t → Steps p.tables e below (s₁.setTop (entryFrame m #[(.ref a2_0), (.long p2_1), (.long p2_2), (.long p2_3), (.long p2_4)] 9)) t := fun t k => pre18 t (by
    refine XS.aloadN X18.here hx rfl (hb hby d2_20) rfl rfl ?_
    show Steps p.tables e below (T18.setTop (mkF m 21 #[.val (.ref a2_0), .val (.long p2_1), .second, .val (.long p2_2), .second, .val (.long p2_3), .second, .val (.long p2_4), .second] [(.ref a2_0)])) _
    refine XS.lload X18.here hx rfl (hb hby d2_21) rfl ?_
    show Steps p.tables e below (T18.setTop (mkF m 23 #[.val (.ref a2_0), .val (.long p2_1), .second, .val (.long p2_2), .second, .val (.long p2_3), .second, .val (.long p2_4), .second] [(.long p2_4), (.ref a2_0)])) _
    exact k)
  obtain ⟨T25, h25, X25, e25, W25, st25⟩ := putF X18 hx hZ hown (host := "") (Or.inl (hw _ (List.mem_of_getElem? (i := 24) rfl))) Via.refl e18 F22 Ex19 (Or.inr ⟨(hw _ (List.mem_of_getElem? (i := 25) rfl)), rfl, hnm⟩) (hw _ (List.mem_of_getElem? (i := 5) rfl)) (ty := .long) (by decide) rfl rfl (g := (mkF m 23 #[.val (.ref a2_0), .val (.long p2_1), .second, .val (.long p2_2), .second, .val (.long p2_3), .second, .val (.long p2_4), .second] [(.long p2_4), (.ref a2_0)])) rfl rfl (hb hby d2_23)
  have Ex26 : Exa Z h25 a2_0 "relayout/Rect" := Ex19.wr W25
  have F27 : Fld Z h25 a2_0 "relayout/Rect" "left" "J" (.long p2_1) := F20.other W25 (Or.inr (slot_ne (Or.inr (hw _ (List.mem_of_getElem? (i := 19) rfl))) (Or.inr (hw _ (List.mem_of_getElem? (i := 25) rfl))) (by decide) (t := .long) (t' := .long) (by decide) (by decide)))
  have F28 : Fld Z h25 a2_0 "relayout/Rect" "top" "J" (.long p2_2) := F21.other W25 (Or.inr (slot_ne (Or.inr (hw _ (List.mem_of_getElem? (i := 21) rfl))) (Or.inr (hw _ (List.mem_of_getElem? (i := 25) rfl))) (by decide) (t := .long) (t' := .long) (by decide) (by decide)))
  have F29 : Fld Z h25 a2_0 "relayout/Rect" "right" "J" (.long p2_3) := F23.other W25 (Or.inr (slot_ne (Or.inr (hw _ (List.mem_of_getElem? (i := 23) rfl))) (Or.inr (hw _ (List.mem_of_getElem? (i := 25) rfl))) (by decide) (t := .long) (t' := .long) (by decide) (by decide)))
  have N25 := Fr.snoc X25 N18 g_a2_0
  have Z25 : n0 ≤ h25.size := Nat.le_trans Z18 (Keep.of_wr W25).1
  have K25 : Keep h0 h25 [a2_0] := (K18).wr W25 (Or.inl (by simp))
  have F30 : Fld Z h25 a2_0 "relayout/Rect" "bottom" "J" (.long p2_4) := F22.same W25
  have pre25 : ∀ t, Steps p.tables e below (T25.setTop (mkF m 26 #[.val (.ref a2_0), .val (.long p2_1), .second, .val (.long p2_2), .second, .val (.long p2_3), .second, .val (.long p2_4), .second] [])) t → Steps p.tables e below (s₁.setTop (entryFrame m #[(.ref a2_0), (.long p2_1), (.long p2_2), (.long p2_3), (.long p2_4)] 9)) t := fun t k => pre24 t (st25 t k)
  obtain ⟨fs, hr, hrun, hended, hW, hsame⟩ := X25.leave (v := none) (fun _ => rfl)
  refine ⟨_, _, pre25 _ ?_, hrun, hended, _, _, rfl, ?_, ⟨_, rfl⟩, hW, hsame.mono (by decide) (by decide)⟩
  · show Steps p.tables e below (T25.setTop (mkF m 26 #[.val (.ref a2_0), .val (.long p2_1), .second, .val (.long p2_2), .second, .val (.long p2_3), .second, .val (.long p2_4), .second] [])) _
    exact X25.returnOut hx Bd.returns (hb hby d2_26) hr
  · show Q2 Z a2_0 p2_1 p2_2 p2_3 p2_4 w2_left w2_top w2_right w2_bottom h0 n0 _ T25.heap _
    rw [e25]
    exact ⟨rfl, N25, K25, F27, F28, F29, F30⟩
theorem d5_0 : decode prog_25_method_2_code 0 = .ok (.aload_n 0, 1) := by decide +kernel
theorem d5_1 : decode prog_25_method_2_code 1 = .ok (.getfield 7, 3) := by decide +kernel
theorem d5_4 : decode prog_25_method_2_code 4 = .ok (.aload_n 0, 1) := by decide +kernel
theorem d5_5 : decode prog_25_method_2_code 5 = .ok (.getfield 16, 3) := by decide +kernel
theorem d5_8 : decode prog_25_method_2_code 8 = .ok (.lcmp, 1) := by decide +kernel
theorem d5_9 : decode prog_25_method_2_code 9 = .ok (.ifCond .ge 15, 3) := by decide +kernel
theorem d5_12 : decode prog_25_method_2_code 12 = .ok (.aload_n 0, 1) := by decide +kernel
theorem d5_13 : decode prog_25_method_2_code 13 = .ok (.getfield 13, 3) := by decide +kernel
theorem d5_16 : decode prog_25_method_2_code 16 = .ok (.aload_n 0, 1) := by decide +kernel
theorem d5_17 : decode prog_25_method_2_code 17 = .ok (.getfield 19, 3) := by decide +kernel
theorem d5_20 : decode prog_25_method_2_code 20 = .ok (.lcmp, 1) := by decide +kernel
theorem d5_21 : decode prog_25_method_2_code 21 = .ok (.ifCond .lt 7, 3) := by decide +kernel
theorem d5_24 : decode prog_25_method_2_code 24 = .ok (.iconst 1, 1) := by decide +kernel
theorem d5_25 : decode prog_25_method_2_code 25 = .ok (.goto 4, 3) := by decide +kernel
theorem d5_28 : decode prog_25_method_2_code 28 = .ok (.iconst 0, 1) := by decide +kernel
theorem d5_29 : decode prog_25_method_2_code 29 = .ok (.ireturn, 1) := by decide +kernel
theorem ef_5 (m : MethodId) (x0 : Addr) : entryFrame m #[(.ref x0)] 1 = mkF m 0 #[.val (.ref x0)] [] := by first | (simp [entryFrame, mkF, argsToLocals, Value.category]; done) | rfl
abbrev R5 : Room := { frames := 0, cells := 0, slots := 0, locals := 0 }
def r5 (w5_left : Int64) (w5_right : Int64) (w5_top : Int64) (w5_bottom : Int64) : Int32 := (if w5_left < w5_right then (if w5_top < w5_bottom then (0 : Int32) else (1 : Int32)) else (1 : Int32))
def Q5 (Z : State) (a5_0 : Addr) (w5_left : Int64) (w5_right : Int64) (w5_top : Int64) (w5_bottom : Int64) (h0 : Heap) (n0 : Nat) (v : Option Value) (h : Heap) (L : List Loc) : Prop := v = some (.int (r5 w5_left w5_right w5_top w5_bottom)) ∧ Fr n0 L ∧ h = h0
set_option maxRecDepth 65536 in
set_option maxHeartbeats 40000000 in
theorem rm5 (l : Launch) (Z : State) (a0 : Array Value) (hw : ∀ d ∈ tables_1, d.before a0 Z = true) (ws : List Jvm.Cond) (a5_0 : Addr) (w5_left : Int64) (w5_right : Int64) (w5_top : Int64) (w5_bottom : Int64) (h0 : Heap) (n0 : Nat) (Z0 : n0 ≤ h0.size) (F_left_a5_0 : Fld Z h0 a5_0 "relayout/Rect" "left" "J" (.long w5_left)) (F_right_a5_0 : Fld Z h0 a5_0 "relayout/Rect" "right" "J" (.long w5_right)) (F_top_a5_0 : Fld Z h0 a5_0 "relayout/Rect" "top" "J" (.long w5_top)) (F_bottom_a5_0 : Fld Z h0 a5_0 "relayout/Rect" "bottom" "J" (.long w5_bottom)) :
    MetFree l (⟨"relayout/Rect", "isEmpty", "()Z"⟩ : MethodName) (head1 (Jvm.Cond.code (⟨"relayout/Rect", "isEmpty", "()Z"⟩ : MethodName) prog_25_method_2_code 1 (some .boolean) :: ws) R5) (fun a U => a = #[(.ref a5_0)] ∧ Z.Warmed39 U.vm ∧ U.heap = h0) (fun _ _ _ _ _ => True) (fun _ U o U' => ∃ v L, o = .returned v ∧ Q5 Z a5_0 w5_left w5_right w5_top w5_bottom h0 n0 v U'.heap L ∧ FrameEnd U o U' L R5.cells R5.slots) := by
  refine MetFree.of_bodySF (plainFor_of_name pn_2) hisR ?_
  intro p e s m args below meth c s₁ Bd hml0 hP hK
  obtain ⟨rfl, hZ, hh⟩ := hP
  have hx := Bd.exec
  have hby := Bd.bytes
  have hml : c.maxLocals = 1 := hml0
  have hown : s.vm.findClass "relayout/Rect" = some m.cls := findClass_of_methodNamed Bd.named
  have hnm := (name_of_methodNamed Bd.named Bd.method).1
  have X0 : Stand p l e R5 s m #[(.ref a5_0)] below meth c s₁ [] 0 0 := Stand.of_body Bd
  have e0 : s₁.heap = h0 := by rw [← hh, Bd.state]; rfl
  have N0 := Fr.nil n0
  have pre0 : ∀ t, Steps p.tables e below (s₁.setTop (mkF m 0 #[.val (.ref a5_0)] [])) t → Steps p.tables e below (s₁.setTop (entryFrame m #[(.ref a5_0)] 1)) t := fun t k => castTop (ef_5 m a5_0) k
  have pre1 : ∀ t, Steps p.tables e below (s₁.setTop (mkF m 1 #[.val (.ref a5_0)] [(.ref a5_0)])) t → Steps p.tables e below (s₁.setTop (entryFrame m #[(.ref a5_0)] 1)) t := fun t k => pre0 t (by
    refine XS.aloadN X0.here hx rfl (hb hby d5_0) rfl rfl ?_
    show Steps p.tables e below (s₁.setTop (mkF m 1 #[.val (.ref a5_0)] [(.ref a5_0)])) _
    exact k)
  obtain ⟨T2, X2, e2, st2⟩ := getF X0 hx hZ hown (host := "") (Or.inl (hw _ (List.mem_of_getElem? (i := 18) rfl))) Via.refl e0 F_left_a5_0 (g := (mkF m 1 #[.val (.ref a5_0)] [(.ref a5_0)])) rfl rfl (hb hby d5_1)
  have pre2 : ∀ t, Steps p.tables e below (T2.setTop (mkF m 4 #[.val (.ref a5_0)] [(.long w5_left)])) t → Steps p.tables e below (s₁.setTop (entryFrame m #[(.ref a5_0)] 1)) t := fun t k => pre1 t (st2 t k)
  have pre3 : ∀ t, Steps p.tables e below (T2.setTop (mkF m 5 #[.val (.ref a5_0)] [(.ref a5_0), (.long w5_left)])) t → Steps p.tables e below (s₁.setTop (entryFrame m #[(.ref a5_0)] 1)) t := fun t k => pre2 t (by
    refine XS.aloadN X2.here hx rfl (hb hby d5_4) rfl rfl ?_
    show Steps p.tables e below (T2.setTop (mkF m 5 #[.val (.ref a5_0)] [(.ref a5_0), (.long w5_left)])) _
    exact k)
  obtain ⟨T4, X4, e4, st4⟩ := getF X2 hx hZ hown (host := "") (Or.inl (hw _ (List.mem_of_getElem? (i := 22) rfl))) Via.refl e2 F_right_a5_0 (g := (mkF m 5 #[.val (.ref a5_0)] [(.ref a5_0), (.long w5_left)])) rfl rfl (hb hby d5_5)
  have pre4 : ∀ t, Steps p.tables e below (T4.setTop (mkF m 8 #[.val (.ref a5_0)] [(.long w5_right), (.long w5_left)])) t → Steps p.tables e below (s₁.setTop (entryFrame m #[(.ref a5_0)] 1)) t := fun t k => pre3 t (st4 t k)
  have pre5 : ∀ t, Steps p.tables e below (T4.setTop (mkF m 9 #[.val (.ref a5_0)] [(.int (lcmpW w5_left w5_right))])) t → Steps p.tables e below (s₁.setTop (entryFrame m #[(.ref a5_0)] 1)) t := fun t k => pre4 t (by
    refine XS.lcmp X4.here hx rfl (hb hby d5_8) rfl ?_
    show Steps p.tables e below (T4.setTop (mkF m 9 #[.val (.ref a5_0)] [(.int (lcmpW w5_left w5_right))])) _
    exact k)
  by_cases hc9_6 : w5_left < w5_right
  · have pre7 : ∀ t, Steps p.tables e below (T4.setTop (mkF m 13 #[.val (.ref a5_0)] [(.ref a5_0)])) t → Steps p.tables e below (s₁.setTop (entryFrame m #[(.ref a5_0)] 1)) t := fun t k => pre5 t (by
      refine XS.ifNo X4.here hx rfl (hb hby d5_9) rfl ((if0 _ _).trans (tlt ((lw_lt w5_left w5_right).mpr hc9_6)).2.1) ?_
      show Steps p.tables e below (T4.setTop (mkF m 12 #[.val (.ref a5_0)] [])) _
      refine XS.aloadN X4.here hx rfl (hb hby d5_12) rfl rfl ?_
      show Steps p.tables e below (T4.setTop (mkF m 13 #[.val (.ref a5_0)] [(.ref a5_0)])) _
      exact k)
    obtain ⟨T8, X8, e8, st8⟩ := getF X4 hx hZ hown (host := "") (Or.inl (hw _ (List.mem_of_getElem? (i := 20) rfl))) Via.refl e4 F_top_a5_0 (g := (mkF m 13 #[.val (.ref a5_0)] [(.ref a5_0)])) rfl rfl (hb hby d5_13)
    have pre8 : ∀ t, Steps p.tables e below (T8.setTop (mkF m 16 #[.val (.ref a5_0)] [(.long w5_top)])) t → Steps p.tables e below (s₁.setTop (entryFrame m #[(.ref a5_0)] 1)) t := fun t k => pre7 t (st8 t k)
    have pre9 : ∀ t, Steps p.tables e below (T8.setTop (mkF m 17 #[.val (.ref a5_0)] [(.ref a5_0), (.long w5_top)])) t → Steps p.tables e below (s₁.setTop (entryFrame m #[(.ref a5_0)] 1)) t := fun t k => pre8 t (by
      refine XS.aloadN X8.here hx rfl (hb hby d5_16) rfl rfl ?_
      show Steps p.tables e below (T8.setTop (mkF m 17 #[.val (.ref a5_0)] [(.ref a5_0), (.long w5_top)])) _
      exact k)
    obtain ⟨T10, X10, e10, st10⟩ := getF X8 hx hZ hown (host := "") (Or.inl (hw _ (List.mem_of_getElem? (i := 24) rfl))) Via.refl e8 F_bottom_a5_0 (g := (mkF m 17 #[.val (.ref a5_0)] [(.ref a5_0), (.long w5_top)])) rfl rfl (hb hby d5_17)
    have pre10 : ∀ t, Steps p.tables e below (T10.setTop (mkF m 20 #[.val (.ref a5_0)] [(.long w5_bottom), (.long w5_top)])) t → Steps p.tables e below (s₁.setTop (entryFrame m #[(.ref a5_0)] 1)) t := fun t k => pre9 t (st10 t k)
    have pre11 : ∀ t, Steps p.tables e below (T10.setTop (mkF m 21 #[.val (.ref a5_0)] [(.int (lcmpW w5_top w5_bottom))])) t → Steps p.tables e below (s₁.setTop (entryFrame m #[(.ref a5_0)] 1)) t := fun t k => pre10 t (by
      refine XS.lcmp X10.here hx rfl (hb hby d5_20) rfl ?_
      show Steps p.tables e below (T10.setTop (mkF m 21 #[.val (.ref a5_0)] [(.int (lcmpW w5_top w5_bottom))])) _
      exact k)
    by_cases hc21_12 : w5_top < w5_bottom
    · have pre13 : ∀ t, Steps p.tables e below (T10.setTop (mkF m 29 #[.val (.ref a5_0)] [(.int (0 : Int32))])) t → Steps p.tables e below (s₁.setTop (entryFrame m #[(.ref a5_0)] 1)) t := fun t k => pre11 t (by
        refine XS.ifYes X10.here hx rfl (pc0 := 21) (pc' := 28) rfl (hb hby d5_21) rfl ((if0 _ _).trans (tlt ((lw_lt w5_top w5_bottom).mpr hc21_12)).1) (by decide) (by decide) ?_
        show Steps p.tables e below (T10.setTop (mkF m 28 #[.val (.ref a5_0)] [])) _
        refine XS.iconst X10.here hx rfl (hb hby d5_28) ?_
        show Steps p.tables e below (T10.setTop (mkF m 29 #[.val (.ref a5_0)] [(.int (0 : Int32))])) _
        exact k)
      have hret : (r5 w5_left w5_right w5_top w5_bottom) = (0 : Int32) := by unfold r5; rw [if_pos hc9_6, if_pos hc21_12]
      obtain ⟨fs, hr, hrun, hended, hW, hsame⟩ := X10.leave (v := some (.int (0 : Int32))) (fun h => by rw [Bd.returns] at h; cases h)
      refine ⟨_, _, pre13 _ ?_, hrun, hended, _, _, rfl, ?_, ⟨_, rfl⟩, hW, hsame.mono (by decide) (by decide)⟩
      · show Steps p.tables e below (T10.setTop (mkF m 29 #[.val (.ref a5_0)] [(.int (0 : Int32))])) _
        exact retN X10 hx (t := .boolean) Bd.returns (by simp) (hb hby d5_29) hr
      · show Q5 Z a5_0 w5_left w5_right w5_top w5_bottom h0 n0 _ T10.heap _
        rw [e10]
        exact ⟨(by rw [hret]), N0, rfl⟩
    · have pre14 : ∀ t, Steps p.tables e below (T10.setTop (mkF m 29 #[.val (.ref a5_0)] [(.int (1 : Int32))])) t → Steps p.tables e below (s₁.setTop (entryFrame m #[(.ref a5_0)] 1)) t := fun t k => pre11 t (by
        refine XS.ifNo X10.here hx rfl (hb hby d5_21) rfl ((if0 _ _).trans (flt (fun q => hc21_12 ((lw_lt w5_top w5_bottom).mp q))).1) ?_
        show Steps p.tables e below (T10.setTop (mkF m 24 #[.val (.ref a5_0)] [])) _
        refine XS.iconst X10.here hx rfl (hb hby d5_24) ?_
        show Steps p.tables e below (T10.setTop (mkF m 25 #[.val (.ref a5_0)] [(.int (1 : Int32))])) _
        refine XS.goto X10.here hx rfl (pc0 := 25) (pc' := 29) rfl (hb hby d5_25) (by decide) (by decide) ?_
        show Steps p.tables e below (T10.setTop (mkF m 29 #[.val (.ref a5_0)] [(.int (1 : Int32))])) _
        exact k)
      have hret : (r5 w5_left w5_right w5_top w5_bottom) = (1 : Int32) := by unfold r5; rw [if_pos hc9_6, if_neg hc21_12]
      obtain ⟨fs, hr, hrun, hended, hW, hsame⟩ := X10.leave (v := some (.int (1 : Int32))) (fun h => by rw [Bd.returns] at h; cases h)
      refine ⟨_, _, pre14 _ ?_, hrun, hended, _, _, rfl, ?_, ⟨_, rfl⟩, hW, hsame.mono (by decide) (by decide)⟩
      · show Steps p.tables e below (T10.setTop (mkF m 29 #[.val (.ref a5_0)] [(.int (1 : Int32))])) _
        exact retN X10 hx (t := .boolean) Bd.returns (by simp) (hb hby d5_29) hr
      · show Q5 Z a5_0 w5_left w5_right w5_top w5_bottom h0 n0 _ T10.heap _
        rw [e10]
        exact ⟨(by rw [hret]), N0, rfl⟩
  · have pre15 : ∀ t, Steps p.tables e below (T4.setTop (mkF m 29 #[.val (.ref a5_0)] [(.int (1 : Int32))])) t → Steps p.tables e below (s₁.setTop (entryFrame m #[(.ref a5_0)] 1)) t := fun t k => pre5 t (by
      refine XS.ifYes X4.here hx rfl (pc0 := 9) (pc' := 24) rfl (hb hby d5_9) rfl ((if0 _ _).trans (flt (fun q => hc9_6 ((lw_lt w5_left w5_right).mp q))).2.1) (by decide) (by decide) ?_
      show Steps p.tables e below (T4.setTop (mkF m 24 #[.val (.ref a5_0)] [])) _
      refine XS.iconst X4.here hx rfl (hb hby d5_24) ?_
      show Steps p.tables e below (T4.setTop (mkF m 25 #[.val (.ref a5_0)] [(.int (1 : Int32))])) _
      refine XS.goto X4.here hx rfl (pc0 := 25) (pc' := 29) rfl (hb hby d5_25) (by decide) (by decide) ?_
      show Steps p.tables e below (T4.setTop (mkF m 29 #[.val (.ref a5_0)] [(.int (1 : Int32))])) _
      exact k)
    have hret : (r5 w5_left w5_right w5_top w5_bottom) = (1 : Int32) := by unfold r5; rw [if_neg hc9_6]
    obtain ⟨fs, hr, hrun, hended, hW, hsame⟩ := X4.leave (v := some (.int (1 : Int32))) (fun h => by rw [Bd.returns] at h; cases h)
    refine ⟨_, _, pre15 _ ?_, hrun, hended, _, _, rfl, ?_, ⟨_, rfl⟩, hW, hsame.mono (by decide) (by decide)⟩
    · show Steps p.tables e below (T4.setTop (mkF m 29 #[.val (.ref a5_0)] [(.int (1 : Int32))])) _
      exact retN X4 hx (t := .boolean) Bd.returns (by simp) (hb hby d5_29) hr
    · show Q5 Z a5_0 w5_left w5_right w5_top w5_bottom h0 n0 _ T4.heap _
      rw [e4]
      exact ⟨(by rw [hret]), N0, rfl⟩
theorem pd_1 : parseMethodDescriptor "(JJI)J" = some ⟨[.long, .long, .int], some .long⟩ := by decide +kernel
theorem pd_2 : parseMethodDescriptor "(JJJJ)V" = some ⟨[.long, .long, .long, .long], none⟩ := by decide +kernel
theorem pd_3 : parseMethodDescriptor "()Z" = some ⟨[], some .boolean⟩ := by decide +kernel
theorem ef_0 (m : MethodId) (x0 : Int64) (x1 : Int64) (x2 : Int64) (x3 : Int64) (x4 : Int32) : entryFrame m #[(.long x0), (.long x1), (.long x2), (.long x3), (.int x4)] maxLocals = mkF m 0 #[.val (.long x0), .second, .val (.long x1), .second, .val (.long x2), .second, .val (.long x3), .second, .val (.int x4), .unset, .unset, .unset, .unset, .unset, .unset, .unset, .unset, .unset, .unset] [] := by first | (simp [entryFrame, mkF, argsToLocals, Value.category, maxLocals]; done) | rfl
def v0_16 (p0_0 : Int64) (p0_2 : Int64) (p0_4 : Int32) : Int64 := (r1 p0_0 p0_2 (p0_4 &&& (3 : Int32)))
def v0_30 (p0_1 : Int64) (p0_3 : Int64) (p0_4 : Int32) : Int64 := (r1 p0_1 p0_3 ((own_ushr p0_4 (2 : Int32)) &&& (3 : Int32)))
def j0_70_s0 (p0_0 : Int64) (p0_1 : Int64) (p0_2 : Int64) (p0_3 : Int64) (p0_4 : Int32) : Int32 := (if p0_0 < (v0_16 p0_0 p0_2 p0_4) then (if p0_1 < (v0_30 p0_1 p0_3 p0_4) then (1 : Int32) else (0 : Int32)) else (0 : Int32))
def j0_87_s0 (p0_0 : Int64) (p0_1 : Int64) (p0_2 : Int64) (p0_3 : Int64) (p0_4 : Int32) : Int32 := (if (j0_70_s0 p0_0 p0_1 p0_2 p0_3 p0_4) = (0 : Int32) then (1 : Int32) else (0 : Int32))
theorem own_main (a b c d : Int64) (m : Int32) : r5 a (v0_16 a c m) b (v0_30 b d m) = j0_87_s0 a b c d m := by
  unfold r5 j0_87_s0 j0_70_s0
  generalize v0_16 a c m = x
  generalize v0_30 b d m = y
  by_cases h1 : a < x
  · by_cases h2 : b < y
    · simp [h1, h2]
    · simp [h1, h2]
  · simp [h1]
def Q0 (Z : State) (p0_0 : Int64) (p0_1 : Int64) (p0_2 : Int64) (p0_3 : Int64) (p0_4 : Int32) (h0 : Heap) (n0 : Nat) (v : Option Value) (h : Heap) (L : List Loc) : Prop := v = some (.int (1 : Int32)) ∧ Fr n0 L
set_option maxRecDepth 65536 in
set_option maxHeartbeats 40000000 in
theorem rm0 (l : Launch) (Z : State) (a0 : Array Value) (hw : ∀ d ∈ tables_1, d.before a0 Z = true) (ws : List Jvm.Cond) (p0_0 : Int64) (p0_1 : Int64) (p0_2 : Int64) (p0_3 : Int64) (p0_4 : Int32) (h0 : Heap) (n0 : Nat) (Z0 : n0 ≤ h0.size) :
    MetFree l x (head1 (Jvm.Cond.code x code maxLocals ret :: ws) room_1) (fun a U => a = #[(.long p0_0), (.long p0_1), (.long p0_2), (.long p0_3), (.int p0_4)] ∧ Z.Warmed39 U.vm ∧ U.heap = h0) (fun _ _ _ _ _ => True) (fun _ U o U' => ∃ v L, o = .returned v ∧ Q0 Z p0_0 p0_1 p0_2 p0_3 p0_4 h0 n0 v U'.heap L ∧ FrameEnd U o U' L room_1.cells room_1.slots) := by
  refine MetFree.of_bodySF (plainFor_of_name pn_0) hisR ?_
  intro p e s m args below meth c s₁ Bd hml0 hP hK
  obtain ⟨rfl, hZ, hh⟩ := hP
  have hx := Bd.exec
  have hby := Bd.bytes
  have hml : c.maxLocals = 19 := hml0
  have hown : s.vm.findClass "relayout/RectIsEmptyPinLaw" = some m.cls := findClass_of_methodNamed Bd.named
  have hnm := (name_of_methodNamed Bd.named Bd.method).1
  have X0 : Stand p l e room_1 s m #[(.long p0_0), (.long p0_1), (.long p0_2), (.long p0_3), (.int p0_4)] below meth c s₁ [] 0 0 := Stand.of_body Bd
  have e0 : s₁.heap = h0 := by rw [← hh, Bd.state]; rfl
  have N0 := Fr.nil n0
  have pre0 : ∀ t, Steps p.tables e below (s₁.setTop (mkF m 0 #[.val (.long p0_0), .second, .val (.long p0_1), .second, .val (.long p0_2), .second, .val (.long p0_3), .second, .val (.int p0_4), .unset, .unset, .unset, .unset, .unset, .unset, .unset, .unset, .unset, .unset] [])) t → Steps p.tables e below (s₁.setTop (entryFrame m #[(.long p0_0), (.long p0_1), (.long p0_2), (.long p0_3), (.int p0_4)] maxLocals)) t := fun t k => castTop (ef_0 m p0_0 p0_1 p0_2 p0_3 p0_4) k
  have pre1 : ∀ t, Steps p.tables e below (s₁.setTop (mkF m 13 #[.val (.long p0_0), .second, .val (.long p0_1), .second, .val (.long p0_2), .second, .val (.long p0_3), .second, .val (.int p0_4), .val (.long p0_0), .second, .val (.long p0_1), .second, .unset, .unset, .unset, .unset, .unset, .unset] [(.int (p0_4 &&& (3 : Int32))), (.long p0_2), (.long p0_0)])) t → Steps p.tables e below (s₁.setTop (entryFrame m #[(.long p0_0), (.long p0_1), (.long p0_2), (.long p0_3), (.int p0_4)] maxLocals)) t := fun t k => pre0 t (by
    refine XS.lloadN X0.here hx rfl (hb hby at_0) rfl ?_
    show Steps p.tables e below (s₁.setTop (mkF m 1 #[.val (.long p0_0), .second, .val (.long p0_1), .second, .val (.long p0_2), .second, .val (.long p0_3), .second, .val (.int p0_4), .unset, .unset, .unset, .unset, .unset, .unset, .unset, .unset, .unset, .unset] [(.long p0_0)])) _
    refine XS.lstore X0.here hx rfl (hb hby at_1) rfl (l' := #[.val (.long p0_0), .second, .val (.long p0_1), .second, .val (.long p0_2), .second, .val (.long p0_3), .second, .val (.int p0_4), .val (.long p0_0), .second, .unset, .unset, .unset, .unset, .unset, .unset, .unset, .unset]) rfl ?_
    show Steps p.tables e below (s₁.setTop (mkF m 3 #[.val (.long p0_0), .second, .val (.long p0_1), .second, .val (.long p0_2), .second, .val (.long p0_3), .second, .val (.int p0_4), .val (.long p0_0), .second, .unset, .unset, .unset, .unset, .unset, .unset, .unset, .unset] [])) _
    refine XS.lloadN X0.here hx rfl (hb hby at_3) rfl ?_
    show Steps p.tables e below (s₁.setTop (mkF m 4 #[.val (.long p0_0), .second, .val (.long p0_1), .second, .val (.long p0_2), .second, .val (.long p0_3), .second, .val (.int p0_4), .val (.long p0_0), .second, .unset, .unset, .unset, .unset, .unset, .unset, .unset, .unset] [(.long p0_1)])) _
    refine XS.lstore X0.here hx rfl (hb hby at_4) rfl (l' := #[.val (.long p0_0), .second, .val (.long p0_1), .second, .val (.long p0_2), .second, .val (.long p0_3), .second, .val (.int p0_4), .val (.long p0_0), .second, .val (.long p0_1), .second, .unset, .unset, .unset, .unset, .unset, .unset]) rfl ?_
    show Steps p.tables e below (s₁.setTop (mkF m 6 #[.val (.long p0_0), .second, .val (.long p0_1), .second, .val (.long p0_2), .second, .val (.long p0_3), .second, .val (.int p0_4), .val (.long p0_0), .second, .val (.long p0_1), .second, .unset, .unset, .unset, .unset, .unset, .unset] [])) _
    refine XS.lloadN X0.here hx rfl (hb hby at_6) rfl ?_
    show Steps p.tables e below (s₁.setTop (mkF m 7 #[.val (.long p0_0), .second, .val (.long p0_1), .second, .val (.long p0_2), .second, .val (.long p0_3), .second, .val (.int p0_4), .val (.long p0_0), .second, .val (.long p0_1), .second, .unset, .unset, .unset, .unset, .unset, .unset] [(.long p0_0)])) _
    refine XS.lload X0.here hx rfl (hb hby at_7) rfl ?_
    show Steps p.tables e below (s₁.setTop (mkF m 9 #[.val (.long p0_0), .second, .val (.long p0_1), .second, .val (.long p0_2), .second, .val (.long p0_3), .second, .val (.int p0_4), .val (.long p0_0), .second, .val (.long p0_1), .second, .unset, .unset, .unset, .unset, .unset, .unset] [(.long p0_2), (.long p0_0)])) _
    refine XS.iload X0.here hx rfl (hb hby at_9) rfl ?_
    show Steps p.tables e below (s₁.setTop (mkF m 11 #[.val (.long p0_0), .second, .val (.long p0_1), .second, .val (.long p0_2), .second, .val (.long p0_3), .second, .val (.int p0_4), .val (.long p0_0), .second, .val (.long p0_1), .second, .unset, .unset, .unset, .unset, .unset, .unset] [(.int p0_4), (.long p0_2), (.long p0_0)])) _
    refine XS.iconst X0.here hx rfl (hb hby at_11) ?_
    show Steps p.tables e below (s₁.setTop (mkF m 12 #[.val (.long p0_0), .second, .val (.long p0_1), .second, .val (.long p0_2), .second, .val (.long p0_3), .second, .val (.int p0_4), .val (.long p0_0), .second, .val (.long p0_1), .second, .unset, .unset, .unset, .unset, .unset, .unset] [(.int (3 : Int32)), (.int p0_4), (.long p0_2), (.long p0_0)])) _
    refine XS.iand X0.here hx rfl (hb hby at_12) rfl ?_
    show Steps p.tables e below (s₁.setTop (mkF m 13 #[.val (.long p0_0), .second, .val (.long p0_1), .second, .val (.long p0_2), .second, .val (.long p0_3), .second, .val (.int p0_4), .val (.long p0_0), .second, .val (.long p0_1), .second, .unset, .unset, .unset, .unset, .unset, .unset] [(.int (p0_4 &&& (3 : Int32))), (.long p0_2), (.long p0_0)])) _
    exact k)
  obtain ⟨_, _, ⟨T2, L2, k2, n2⟩, -, X2, ⟨Lc2, hQ2, l2, y2, z2⟩, st2⟩ := Jvm.LawKit.callS X0 hx (y := (⟨"relayout/RectIsEmptyPinLaw", "pick", "(JJI)J"⟩ : MethodName)) hown (mvT hZ (hw _ (List.mem_of_getElem? (i := 0) rfl))) (mvT hZ (hw _ (List.mem_of_getElem? (i := 1) rfl))) (mvT hZ (hw _ (List.mem_of_getElem? (i := 2) rfl))) (mvT hZ (hw _ (List.mem_of_getElem? (i := 3) rfl))) (by decide) (backOf (W := 0) (rm1 l Z a0 hw [] p0_0 p0_2 (p0_4 &&& (3 : Int32)) h0 n0 Z0 ) hZ (hw _ (List.mem_of_getElem? (i := 3) rfl)) (hw _ (List.mem_of_getElem? (i := 2) rfl)) (by decide) (by decide)) (g := (mkF m 13 #[.val (.long p0_0), .second, .val (.long p0_1), .second, .val (.long p0_2), .second, .val (.long p0_3), .second, .val (.int p0_4), .val (.long p0_0), .second, .val (.long p0_1), .second, .unset, .unset, .unset, .unset, .unset, .unset] [(.int (p0_4 &&& (3 : Int32))), (.long p0_2), (.long p0_0)])) rfl (by rw [hml]; rfl) (argsL := [(.long p0_0), (.long p0_2), (.int (p0_4 &&& (3 : Int32)))]) (rest := []) (lenOf pd_1 rfl) rfl (by show 2 * 0 + _ ≤ _; exact Nat.le_of_eq rfl) (hb hby at_13) (fun _ _ => ⟨rfl, e0, (by decide : 0 + 0 ≤ _), (by decide : 0 + 0 ≤ _)⟩)
  dsimp only [Pt.U, Pt.locs, Pt.cells, Pt.slots] at X2 l2 y2 z2 st2 hQ2
  subst l2 y2 z2
  obtain ⟨rfl, M2, e2⟩ := hQ2
  have N2 := Fr.app N0 M2
  have pre2 : ∀ t, Steps p.tables e below (T2.setTop (mkF m 16 #[.val (.long p0_0), .second, .val (.long p0_1), .second, .val (.long p0_2), .second, .val (.long p0_3), .second, .val (.int p0_4), .val (.long p0_0), .second, .val (.long p0_1), .second, .unset, .unset, .unset, .unset, .unset, .unset] [(.long (r1 p0_0 p0_2 (p0_4 &&& (3 : Int32))))])) t → Steps p.tables e below (s₁.setTop (entryFrame m #[(.long p0_0), (.long p0_1), (.long p0_2), (.long p0_3), (.int p0_4)] maxLocals)) t := fun t k => pre1 t (st2 t k)
  have pre3 : ∀ t, Steps p.tables e below (T2.setTop (mkF m 27 #[.val (.long p0_0), .second, .val (.long p0_1), .second, .val (.long p0_2), .second, .val (.long p0_3), .second, .val (.int p0_4), .val (.long p0_0), .second, .val (.long p0_1), .second, .val (.long (v0_16 p0_0 p0_2 p0_4)), .second, .unset, .unset, .unset, .unset] [(.int ((own_ushr p0_4 (2 : Int32)) &&& (3 : Int32))), (.long p0_3), (.long p0_1)])) t → Steps p.tables e below (s₁.setTop (entryFrame m #[(.long p0_0), (.long p0_1), (.long p0_2), (.long p0_3), (.int p0_4)] maxLocals)) t := fun t k => pre2 t (by
    show Steps p.tables e below (T2.setTop (mkF m 16 #[.val (.long p0_0), .second, .val (.long p0_1), .second, .val (.long p0_2), .second, .val (.long p0_3), .second, .val (.int p0_4), .val (.long p0_0), .second, .val (.long p0_1), .second, .unset, .unset, .unset, .unset, .unset, .unset] [(.long (v0_16 p0_0 p0_2 p0_4))])) _
    refine XS.lstore X2.here hx rfl (hb hby at_16) rfl (l' := #[.val (.long p0_0), .second, .val (.long p0_1), .second, .val (.long p0_2), .second, .val (.long p0_3), .second, .val (.int p0_4), .val (.long p0_0), .second, .val (.long p0_1), .second, .val (.long (v0_16 p0_0 p0_2 p0_4)), .second, .unset, .unset, .unset, .unset]) rfl ?_
    show Steps p.tables e below (T2.setTop (mkF m 18 #[.val (.long p0_0), .second, .val (.long p0_1), .second, .val (.long p0_2), .second, .val (.long p0_3), .second, .val (.int p0_4), .val (.long p0_0), .second, .val (.long p0_1), .second, .val (.long (v0_16 p0_0 p0_2 p0_4)), .second, .unset, .unset, .unset, .unset] [])) _
    refine XS.lloadN X2.here hx rfl (hb hby at_18) rfl ?_
    show Steps p.tables e below (T2.setTop (mkF m 19 #[.val (.long p0_0), .second, .val (.long p0_1), .second, .val (.long p0_2), .second, .val (.long p0_3), .second, .val (.int p0_4), .val (.long p0_0), .second, .val (.long p0_1), .second, .val (.long (v0_16 p0_0 p0_2 p0_4)), .second, .unset, .unset, .unset, .unset] [(.long p0_1)])) _
    refine XS.lload X2.here hx rfl (hb hby at_19) rfl ?_
    show Steps p.tables e below (T2.setTop (mkF m 21 #[.val (.long p0_0), .second, .val (.long p0_1), .second, .val (.long p0_2), .second, .val (.long p0_3), .second, .val (.int p0_4), .val (.long p0_0), .second, .val (.long p0_1), .second, .val (.long (v0_16 p0_0 p0_2 p0_4)), .second, .unset, .unset, .unset, .unset] [(.long p0_3), (.long p0_1)])) _
    refine XS.iload X2.here hx rfl (hb hby at_21) rfl ?_
    show Steps p.tables e below (T2.setTop (mkF m 23 #[.val (.long p0_0), .second, .val (.long p0_1), .second, .val (.long p0_2), .second, .val (.long p0_3), .second, .val (.int p0_4), .val (.long p0_0), .second, .val (.long p0_1), .second, .val (.long (v0_16 p0_0 p0_2 p0_4)), .second, .unset, .unset, .unset, .unset] [(.int p0_4), (.long p0_3), (.long p0_1)])) _
    refine XS.iconst X2.here hx rfl (hb hby at_23) ?_
    show Steps p.tables e below (T2.setTop (mkF m 24 #[.val (.long p0_0), .second, .val (.long p0_1), .second, .val (.long p0_2), .second, .val (.long p0_3), .second, .val (.int p0_4), .val (.long p0_0), .second, .val (.long p0_1), .second, .val (.long (v0_16 p0_0 p0_2 p0_4)), .second, .unset, .unset, .unset, .unset] [(.int (2 : Int32)), (.int p0_4), (.long p0_3), (.long p0_1)])) _
    refine XS.iushr X2.here hx rfl (hb hby at_24) rfl ?_
    show Steps p.tables e below (T2.setTop (mkF m 25 #[.val (.long p0_0), .second, .val (.long p0_1), .second, .val (.long p0_2), .second, .val (.long p0_3), .second, .val (.int p0_4), .val (.long p0_0), .second, .val (.long p0_1), .second, .val (.long (v0_16 p0_0 p0_2 p0_4)), .second, .unset, .unset, .unset, .unset] [(.int (own_ushr p0_4 (2 : Int32))), (.long p0_3), (.long p0_1)])) _
    refine XS.iconst X2.here hx rfl (hb hby at_25) ?_
    show Steps p.tables e below (T2.setTop (mkF m 26 #[.val (.long p0_0), .second, .val (.long p0_1), .second, .val (.long p0_2), .second, .val (.long p0_3), .second, .val (.int p0_4), .val (.long p0_0), .second, .val (.long p0_1), .second, .val (.long (v0_16 p0_0 p0_2 p0_4)), .second, .unset, .unset, .unset, .unset] [(.int (3 : Int32)), (.int (own_ushr p0_4 (2 : Int32))), (.long p0_3), (.long p0_1)])) _
    refine XS.iand X2.here hx rfl (hb hby at_26) rfl ?_
    show Steps p.tables e below (T2.setTop (mkF m 27 #[.val (.long p0_0), .second, .val (.long p0_1), .second, .val (.long p0_2), .second, .val (.long p0_3), .second, .val (.int p0_4), .val (.long p0_0), .second, .val (.long p0_1), .second, .val (.long (v0_16 p0_0 p0_2 p0_4)), .second, .unset, .unset, .unset, .unset] [(.int ((own_ushr p0_4 (2 : Int32)) &&& (3 : Int32))), (.long p0_3), (.long p0_1)])) _
    exact k)
  obtain ⟨_, _, ⟨T4, L4, k4, n4⟩, -, X4, ⟨Lc4, hQ4, l4, y4, z4⟩, st4⟩ := Jvm.LawKit.callS X2 hx (y := (⟨"relayout/RectIsEmptyPinLaw", "pick", "(JJI)J"⟩ : MethodName)) hown (mvT hZ (hw _ (List.mem_of_getElem? (i := 0) rfl))) (mvT hZ (hw _ (List.mem_of_getElem? (i := 1) rfl))) (mvT hZ (hw _ (List.mem_of_getElem? (i := 2) rfl))) (mvT hZ (hw _ (List.mem_of_getElem? (i := 3) rfl))) (by decide) (backOf (W := 0) (rm1 l Z a0 hw [] p0_1 p0_3 ((own_ushr p0_4 (2 : Int32)) &&& (3 : Int32)) h0 n0 Z0 ) hZ (hw _ (List.mem_of_getElem? (i := 3) rfl)) (hw _ (List.mem_of_getElem? (i := 2) rfl)) (by decide) (by decide)) (g := (mkF m 27 #[.val (.long p0_0), .second, .val (.long p0_1), .second, .val (.long p0_2), .second, .val (.long p0_3), .second, .val (.int p0_4), .val (.long p0_0), .second, .val (.long p0_1), .second, .val (.long (v0_16 p0_0 p0_2 p0_4)), .second, .unset, .unset, .unset, .unset] [(.int ((own_ushr p0_4 (2 : Int32)) &&& (3 : Int32))), (.long p0_3), (.long p0_1)])) rfl (by rw [hml]; rfl) (argsL := [(.long p0_1), (.long p0_3), (.int ((own_ushr p0_4 (2 : Int32)) &&& (3 : Int32)))]) (rest := []) (lenOf pd_1 rfl) rfl (by show 2 * 0 + _ ≤ _; exact Nat.le_of_eq rfl) (hb hby at_27) (fun _ _ => ⟨rfl, e2, (by decide : 0 + 0 ≤ _), (by decide : 0 + 0 ≤ _)⟩)
  dsimp only [Pt.U, Pt.locs, Pt.cells, Pt.slots] at X4 l4 y4 z4 st4 hQ4
  subst l4 y4 z4
  obtain ⟨rfl, M4, e4⟩ := hQ4
  have N4 := Fr.app N2 M4
  have pre4 : ∀ t, Steps p.tables e below (T4.setTop (mkF m 30 #[.val (.long p0_0), .second, .val (.long p0_1), .second, .val (.long p0_2), .second, .val (.long p0_3), .second, .val (.int p0_4), .val (.long p0_0), .second, .val (.long p0_1), .second, .val (.long (v0_16 p0_0 p0_2 p0_4)), .second, .unset, .unset, .unset, .unset] [(.long (r1 p0_1 p0_3 ((own_ushr p0_4 (2 : Int32)) &&& (3 : Int32))))])) t → Steps p.tables e below (s₁.setTop (entryFrame m #[(.long p0_0), (.long p0_1), (.long p0_2), (.long p0_3), (.int p0_4)] maxLocals)) t := fun t k => pre3 t (st4 t k)
  have pre5 : ∀ t, Steps p.tables e below (T4.setTop (mkF m 32 #[.val (.long p0_0), .second, .val (.long p0_1), .second, .val (.long p0_2), .second, .val (.long p0_3), .second, .val (.int p0_4), .val (.long p0_0), .second, .val (.long p0_1), .second, .val (.long (v0_16 p0_0 p0_2 p0_4)), .second, .val (.long (v0_30 p0_1 p0_3 p0_4)), .second, .unset, .unset] [])) t → Steps p.tables e below (s₁.setTop (entryFrame m #[(.long p0_0), (.long p0_1), (.long p0_2), (.long p0_3), (.int p0_4)] maxLocals)) t := fun t k => pre4 t (by
    show Steps p.tables e below (T4.setTop (mkF m 30 #[.val (.long p0_0), .second, .val (.long p0_1), .second, .val (.long p0_2), .second, .val (.long p0_3), .second, .val (.int p0_4), .val (.long p0_0), .second, .val (.long p0_1), .second, .val (.long (v0_16 p0_0 p0_2 p0_4)), .second, .unset, .unset, .unset, .unset] [(.long (v0_30 p0_1 p0_3 p0_4))])) _
    refine XS.lstore X4.here hx rfl (hb hby at_30) rfl (l' := #[.val (.long p0_0), .second, .val (.long p0_1), .second, .val (.long p0_2), .second, .val (.long p0_3), .second, .val (.int p0_4), .val (.long p0_0), .second, .val (.long p0_1), .second, .val (.long (v0_16 p0_0 p0_2 p0_4)), .second, .val (.long (v0_30 p0_1 p0_3 p0_4)), .second, .unset, .unset]) rfl ?_
    show Steps p.tables e below (T4.setTop (mkF m 32 #[.val (.long p0_0), .second, .val (.long p0_1), .second, .val (.long p0_2), .second, .val (.long p0_3), .second, .val (.int p0_4), .val (.long p0_0), .second, .val (.long p0_1), .second, .val (.long (v0_16 p0_0 p0_2 p0_4)), .second, .val (.long (v0_30 p0_1 p0_3 p0_4)), .second, .unset, .unset] [])) _
    exact k)
  obtain ⟨T6, h6, X6, e6, E6, A6, D6, -, st6⟩ := newO X4 hx hZ hown (hw _ (List.mem_of_getElem? (i := 4) rfl)) (hw _ (List.mem_of_getElem? (i := 5) rfl)) (hw _ (List.mem_of_getElem? (i := 6) rfl)) e4 (g := (mkF m 32 #[.val (.long p0_0), .second, .val (.long p0_1), .second, .val (.long p0_2), .second, .val (.long p0_3), .second, .val (.int p0_4), .val (.long p0_0), .second, .val (.long p0_1), .second, .val (.long (v0_16 p0_0 p0_2 p0_4)), .second, .val (.long (v0_30 p0_1 p0_3 p0_4)), .second, .unset, .unset] [])) rfl (hb hby at_32) (by decide) (by decide)
  obtain ⟨b6, q6⟩ : ∃ z, z = h0.size := ⟨_, rfl⟩
  rw [← q6] at A6 D6 st6
  have g_b6 : n0 ≤ b6 := Nat.le_trans Z0 (Nat.le_of_eq q6.symm)
  have Z6 : n0 ≤ h6.size := Nat.le_trans Z0 E6.1
  have F7 : Fld Z h6 b6 "relayout/Rect" "left" "J" (.long (0 : Int64)) := D6 (Or.inr (hw _ (List.mem_of_getElem? (i := 19) rfl))) (ty := .long) (by decide)
  have F8 : Fld Z h6 b6 "relayout/Rect" "top" "J" (.long (0 : Int64)) := D6 (Or.inr (hw _ (List.mem_of_getElem? (i := 21) rfl))) (ty := .long) (by decide)
  have F9 : Fld Z h6 b6 "relayout/Rect" "right" "J" (.long (0 : Int64)) := D6 (Or.inr (hw _ (List.mem_of_getElem? (i := 23) rfl))) (ty := .long) (by decide)
  have F10 : Fld Z h6 b6 "relayout/Rect" "bottom" "J" (.long (0 : Int64)) := D6 (Or.inr (hw _ (List.mem_of_getElem? (i := 25) rfl))) (ty := .long) (by decide)
  have pre6 : ∀ t, Steps p.tables e below (T6.setTop (mkF m 35 #[.val (.long p0_0), .second, .val (.long p0_1), .second, .val (.long p0_2), .second, .val (.long p0_3), .second, .val (.int p0_4), .val (.long p0_0), .second, .val (.long p0_1), .second, .val (.long (v0_16 p0_0 p0_2 p0_4)), .second, .val (.long (v0_30 p0_1 p0_3 p0_4)), .second, .unset, .unset] [(.ref b6)])) t → Steps p.tables e below (s₁.setTop (entryFrame m #[(.long p0_0), (.long p0_1), (.long p0_2), (.long p0_3), (.int p0_4)] maxLocals)) t := fun t k => pre5 t (st6 t k)
  have pre11 : ∀ t, Steps p.tables e below (T6.setTop (mkF m 44 #[.val (.long p0_0), .second, .val (.long p0_1), .second, .val (.long p0_2), .second, .val (.long p0_3), .second, .val (.int p0_4), .val (.long p0_0), .second, .val (.long p0_1), .second, .val (.long (v0_16 p0_0 p0_2 p0_4)), .second, .val (.long (v0_30 p0_1 p0_3 p0_4)), .second, .unset, .unset] [(.long (v0_30 p0_1 p0_3 p0_4)), (.long (v0_16 p0_0 p0_2 p0_4)), (.long p0_1), (.long p0_0), (.ref b6), (.ref b6)])) t → Steps p.tables e below (s₁.setTop (entryFrame m #[(.long p0_0), (.long p0_1), (.long p0_2), (.long p0_3), (.int p0_4)] maxLocals)) t := fun t k => pre6 t (by
    refine XS.dup X6.here hx rfl (hb hby at_35) rfl rfl ?_
    show Steps p.tables e below (T6.setTop (mkF m 36 #[.val (.long p0_0), .second, .val (.long p0_1), .second, .val (.long p0_2), .second, .val (.long p0_3), .second, .val (.int p0_4), .val (.long p0_0), .second, .val (.long p0_1), .second, .val (.long (v0_16 p0_0 p0_2 p0_4)), .second, .val (.long (v0_30 p0_1 p0_3 p0_4)), .second, .unset, .unset] [(.ref b6), (.ref b6)])) _
    refine XS.lload X6.here hx rfl (hb hby at_36) rfl ?_
    show Steps p.tables e below (T6.setTop (mkF m 38 #[.val (.long p0_0), .second, .val (.long p0_1), .second, .val (.long p0_2), .second, .val (.long p0_3), .second, .val (.int p0_4), .val (.long p0_0), .second, .val (.long p0_1), .second, .val (.long (v0_16 p0_0 p0_2 p0_4)), .second, .val (.long (v0_30 p0_1 p0_3 p0_4)), .second, .unset, .unset] [(.long p0_0), (.ref b6), (.ref b6)])) _
    refine XS.lload X6.here hx rfl (hb hby at_38) rfl ?_
    show Steps p.tables e below (T6.setTop (mkF m 40 #[.val (.long p0_0), .second, .val (.long p0_1), .second, .val (.long p0_2), .second, .val (.long p0_3), .second, .val (.int p0_4), .val (.long p0_0), .second, .val (.long p0_1), .second, .val (.long (v0_16 p0_0 p0_2 p0_4)), .second, .val (.long (v0_30 p0_1 p0_3 p0_4)), .second, .unset, .unset] [(.long p0_1), (.long p0_0), (.ref b6), (.ref b6)])) _
    refine XS.lload X6.here hx rfl (hb hby at_40) rfl ?_
    show Steps p.tables e below (T6.setTop (mkF m 42 #[.val (.long p0_0), .second, .val (.long p0_1), .second, .val (.long p0_2), .second, .val (.long p0_3), .second, .val (.int p0_4), .val (.long p0_0), .second, .val (.long p0_1), .second, .val (.long (v0_16 p0_0 p0_2 p0_4)), .second, .val (.long (v0_30 p0_1 p0_3 p0_4)), .second, .unset, .unset] [(.long (v0_16 p0_0 p0_2 p0_4)), (.long p0_1), (.long p0_0), (.ref b6), (.ref b6)])) _
    refine XS.lload X6.here hx rfl (hb hby at_42) rfl ?_
    show Steps p.tables e below (T6.setTop (mkF m 44 #[.val (.long p0_0), .second, .val (.long p0_1), .second, .val (.long p0_2), .second, .val (.long p0_3), .second, .val (.int p0_4), .val (.long p0_0), .second, .val (.long p0_1), .second, .val (.long (v0_16 p0_0 p0_2 p0_4)), .second, .val (.long (v0_30 p0_1 p0_3 p0_4)), .second, .unset, .unset] [(.long (v0_30 p0_1 p0_3 p0_4)), (.long (v0_16 p0_0 p0_2 p0_4)), (.long p0_1), (.long p0_0), (.ref b6), (.ref b6)])) _
    exact k)
  obtain ⟨_, _, ⟨T12, L12, k12, n12⟩, -, X12, ⟨Lc12, hQ12, l12, y12, z12⟩, st12⟩ := X6.specialBack hx (y := (⟨"relayout/Rect", "<init>", "(JJJJ)V"⟩ : MethodName)) rfl hown (mvT hZ (hw _ (List.mem_of_getElem? (i := 7) rfl))) (mvT hZ (hw _ (List.mem_of_getElem? (i := 8) rfl))) (mvT hZ (hw _ (List.mem_of_getElem? (i := 9) rfl))) (by decide) (backOf (W := 1) (rm2 l Z a0 hw [] b6 p0_0 p0_1 (v0_16 p0_0 p0_2 p0_4) (v0_30 p0_1 p0_3 p0_4) (0 : Int64) (0 : Int64) (0 : Int64) (0 : Int64) h6 n0 Z6 A6 F7 F8 F9 F10 g_b6) hZ (hw _ (List.mem_of_getElem? (i := 9) rfl)) (hw _ (List.mem_of_getElem? (i := 6) rfl)) (by decide) (by decide)) (g := (mkF m 44 #[.val (.long p0_0), .second, .val (.long p0_1), .second, .val (.long p0_2), .second, .val (.long p0_3), .second, .val (.int p0_4), .val (.long p0_0), .second, .val (.long p0_1), .second, .val (.long (v0_16 p0_0 p0_2 p0_4)), .second, .val (.long (v0_30 p0_1 p0_3 p0_4)), .second, .unset, .unset] [(.long (v0_30 p0_1 p0_3 p0_4)), (.long (v0_16 p0_0 p0_2 p0_4)), (.long p0_1), (.long p0_0), (.ref b6), (.ref b6)])) rfl (by rw [hml]; rfl) (Steps.refl _) (a := b6) (argsL := [(.long p0_0), (.long p0_1), (.long (v0_16 p0_0 p0_2 p0_4)), (.long (v0_30 p0_1 p0_3 p0_4))]) (rest := [(.ref b6)]) (lenOf pd_2 rfl) rfl (by show 2 * 0 + _ ≤ _; exact Nat.le_of_eq rfl) (hb hby at_44) (fun _ _ => ⟨rfl, e6, (by decide : 1 + 0 ≤ _), (by decide : 4 + 0 ≤ _)⟩)
  dsimp only [Pt.U, Pt.locs, Pt.cells, Pt.slots] at X12 l12 y12 z12 st12 hQ12
  subst l12 y12 z12
  obtain ⟨rfl, M12, K12c, P12_0, P12_1, P12_2, P12_3⟩ := hQ12
  have N12 := Fr.app N4 M12
  have K12 : Keep h6 T12.heap [b6] := K12c
  have Z12 : n0 ≤ T12.heap.size := Nat.le_trans Z6 K12.1
  have Ex13 : Exa Z T12.heap b6 "relayout/Rect" := A6.keep K12
  have F14 : Fld Z T12.heap b6 "relayout/Rect" "left" "J" (.long p0_0) := P12_0
  have F15 : Fld Z T12.heap b6 "relayout/Rect" "top" "J" (.long p0_1) := P12_1
  have F16 : Fld Z T12.heap b6 "relayout/Rect" "right" "J" (.long (v0_16 p0_0 p0_2 p0_4)) := P12_2
  have F17 : Fld Z T12.heap b6 "relayout/Rect" "bottom" "J" (.long (v0_30 p0_1 p0_3 p0_4)) := P12_3
  have pre12 : ∀ t, Steps p.tables e below (T12.setTop (mkF m 47 #[.val (.long p0_0), .second, .val (.long p0_1), .second, .val (.long p0_2), .second, .val (.long p0_3), .second, .val (.int p0_4), .val (.long p0_0), .second, .val (.long p0_1), .second, .val (.long (v0_16 p0_0 p0_2 p0_4)), .second, .val (.long (v0_30 p0_1 p0_3 p0_4)), .second, .unset, .unset] [(.ref b6)])) t → Steps p.tables e below (s₁.setTop (entryFrame m #[(.long p0_0), (.long p0_1), (.long p0_2), (.long p0_3), (.int p0_4)] maxLocals)) t := fun t k => pre11 t (st12.trans k)
  have pre18 : ∀ t, Steps p.tables e below (T12.setTop (mkF m 54 #[.val (.long p0_0), .second, .val (.long p0_1), .second, .val (.long p0_2), .second, .val (.long p0_3), .second, .val (.int p0_4), .val (.long p0_0), .second, .val (.long p0_1), .second, .val (.long (v0_16 p0_0 p0_2 p0_4)), .second, .val (.long (v0_30 p0_1 p0_3 p0_4)), .second, .val (.ref b6), .unset] [(.int (lcmpW p0_0 (v0_16 p0_0 p0_2 p0_4)))])) t → Steps p.tables e below (s₁.setTop (entryFrame m #[(.long p0_0), (.long p0_1), (.long p0_2), (.long p0_3), (.int p0_4)] maxLocals)) t := fun t k => pre12 t (by
    refine XS.astore X12.here hx rfl (hb hby at_47) rfl rfl (l' := #[.val (.long p0_0), .second, .val (.long p0_1), .second, .val (.long p0_2), .second, .val (.long p0_3), .second, .val (.int p0_4), .val (.long p0_0), .second, .val (.long p0_1), .second, .val (.long (v0_16 p0_0 p0_2 p0_4)), .second, .val (.long (v0_30 p0_1 p0_3 p0_4)), .second, .val (.ref b6), .unset]) rfl ?_
    show Steps p.tables e below (T12.setTop (mkF m 49 #[.val (.long p0_0), .second, .val (.long p0_1), .second, .val (.long p0_2), .second, .val (.long p0_3), .second, .val (.int p0_4), .val (.long p0_0), .second, .val (.long p0_1), .second, .val (.long (v0_16 p0_0 p0_2 p0_4)), .second, .val (.long (v0_30 p0_1 p0_3 p0_4)), .second, .val (.ref b6), .unset] [])) _
    refine XS.lload X12.here hx rfl (hb hby at_49) rfl ?_
    show Steps p.tables e below (T12.setTop (mkF m 51 #[.val (.long p0_0), .second, .val (.long p0_1), .second, .val (.long p0_2), .second, .val (.long p0_3), .second, .val (.int p0_4), .val (.long p0_0), .second, .val (.long p0_1), .second, .val (.long (v0_16 p0_0 p0_2 p0_4)), .second, .val (.long (v0_30 p0_1 p0_3 p0_4)), .second, .val (.ref b6), .unset] [(.long p0_0)])) _
    refine XS.lload X12.here hx rfl (hb hby at_51) rfl ?_
    show Steps p.tables e below (T12.setTop (mkF m 53 #[.val (.long p0_0), .second, .val (.long p0_1), .second, .val (.long p0_2), .second, .val (.long p0_3), .second, .val (.int p0_4), .val (.long p0_0), .second, .val (.long p0_1), .second, .val (.long (v0_16 p0_0 p0_2 p0_4)), .second, .val (.long (v0_30 p0_1 p0_3 p0_4)), .second, .val (.ref b6), .unset] [(.long (v0_16 p0_0 p0_2 p0_4)), (.long p0_0)])) _
    refine XS.lcmp X12.here hx rfl (hb hby at_53) rfl ?_
    show Steps p.tables e below (T12.setTop (mkF m 54 #[.val (.long p0_0), .second, .val (.long p0_1), .second, .val (.long p0_2), .second, .val (.long p0_3), .second, .val (.int p0_4), .val (.long p0_0), .second, .val (.long p0_1), .second, .val (.long (v0_16 p0_0 p0_2 p0_4)), .second, .val (.long (v0_30 p0_1 p0_3 p0_4)), .second, .val (.ref b6), .unset] [(.int (lcmpW p0_0 (v0_16 p0_0 p0_2 p0_4)))])) _
    exact k)
  obtain ⟨T19, L19, X19, e19, N19, st19⟩ : ∃ (T' : State) (L' : List Loc), Stand p l e room_1 s m #[(.long p0_0), (.long p0_1), (.long p0_2), (.long p0_3), (.int p0_4)] below meth c T' L' 1 4 ∧ T'.heap = T12.heap ∧ Fr n0 L' ∧ ∀ t, Steps p.tables e below (T'.setTop (mkF m 70 #[.val (.long p0_0), .second, .val (.long p0_1), .second, .val (.long p0_2), .second, .val (.long p0_3), .second, .val (.int p0_4), .val (.long p0_0), .second, .val (.long p0_1), .second, .val (.long (v0_16 p0_0 p0_2 p0_4)), .second, .val (.long (v0_30 p0_1 p0_3 p0_4)), .second, .val (.ref b6), .unset] [(.int (j0_70_s0 p0_0 p0_1 p0_2 p0_3 p0_4))])) t → Steps p.tables e below (T12.setTop (mkF m 54 #[.val (.long p0_0), .second, .val (.long p0_1), .second, .val (.long p0_2), .second, .val (.long p0_3), .second, .val (.int p0_4), .val (.long p0_0), .second, .val (.long p0_1), .second, .val (.long (v0_16 p0_0 p0_2 p0_4)), .second, .val (.long (v0_30 p0_1 p0_3 p0_4)), .second, .val (.ref b6), .unset] [(.int (lcmpW p0_0 (v0_16 p0_0 p0_2 p0_4)))])) t := by
    have pre19 : ∀ t, Steps p.tables e below (T12.setTop (mkF m 54 #[.val (.long p0_0), .second, .val (.long p0_1), .second, .val (.long p0_2), .second, .val (.long p0_3), .second, .val (.int p0_4), .val (.long p0_0), .second, .val (.long p0_1), .second, .val (.long (v0_16 p0_0 p0_2 p0_4)), .second, .val (.long (v0_30 p0_1 p0_3 p0_4)), .second, .val (.ref b6), .unset] [(.int (lcmpW p0_0 (v0_16 p0_0 p0_2 p0_4)))])) t → Steps p.tables e below (T12.setTop (mkF m 54 #[.val (.long p0_0), .second, .val (.long p0_1), .second, .val (.long p0_2), .second, .val (.long p0_3), .second, .val (.int p0_4), .val (.long p0_0), .second, .val (.long p0_1), .second, .val (.long (v0_16 p0_0 p0_2 p0_4)), .second, .val (.long (v0_30 p0_1 p0_3 p0_4)), .second, .val (.ref b6), .unset] [(.int (lcmpW p0_0 (v0_16 p0_0 p0_2 p0_4)))])) t := fun t k => k
    by_cases hc54_20 : p0_0 < (v0_16 p0_0 p0_2 p0_4)
    · have pre21 : ∀ t, Steps p.tables e below (T12.setTop (mkF m 62 #[.val (.long p0_0), .second, .val (.long p0_1), .second, .val (.long p0_2), .second, .val (.long p0_3), .second, .val (.int p0_4), .val (.long p0_0), .second, .val (.long p0_1), .second, .val (.long (v0_16 p0_0 p0_2 p0_4)), .second, .val (.long (v0_30 p0_1 p0_3 p0_4)), .second, .val (.ref b6), .unset] [(.int (lcmpW p0_1 (v0_30 p0_1 p0_3 p0_4)))])) t → Steps p.tables e below (T12.setTop (mkF m 54 #[.val (.long p0_0), .second, .val (.long p0_1), .second, .val (.long p0_2), .second, .val (.long p0_3), .second, .val (.int p0_4), .val (.long p0_0), .second, .val (.long p0_1), .second, .val (.long (v0_16 p0_0 p0_2 p0_4)), .second, .val (.long (v0_30 p0_1 p0_3 p0_4)), .second, .val (.ref b6), .unset] [(.int (lcmpW p0_0 (v0_16 p0_0 p0_2 p0_4)))])) t := fun t k => pre19 t (by
        refine XS.ifNo X12.here hx rfl (hb hby at_54) rfl ((if0 _ _).trans (tlt ((lw_lt p0_0 (v0_16 p0_0 p0_2 p0_4)).mpr hc54_20)).2.1) ?_
        show Steps p.tables e below (T12.setTop (mkF m 57 #[.val (.long p0_0), .second, .val (.long p0_1), .second, .val (.long p0_2), .second, .val (.long p0_3), .second, .val (.int p0_4), .val (.long p0_0), .second, .val (.long p0_1), .second, .val (.long (v0_16 p0_0 p0_2 p0_4)), .second, .val (.long (v0_30 p0_1 p0_3 p0_4)), .second, .val (.ref b6), .unset] [])) _
        refine XS.lload X12.here hx rfl (hb hby at_57) rfl ?_
        show Steps p.tables e below (T12.setTop (mkF m 59 #[.val (.long p0_0), .second, .val (.long p0_1), .second, .val (.long p0_2), .second, .val (.long p0_3), .second, .val (.int p0_4), .val (.long p0_0), .second, .val (.long p0_1), .second, .val (.long (v0_16 p0_0 p0_2 p0_4)), .second, .val (.long (v0_30 p0_1 p0_3 p0_4)), .second, .val (.ref b6), .unset] [(.long p0_1)])) _
        refine XS.lload X12.here hx rfl (hb hby at_59) rfl ?_
        show Steps p.tables e below (T12.setTop (mkF m 61 #[.val (.long p0_0), .second, .val (.long p0_1), .second, .val (.long p0_2), .second, .val (.long p0_3), .second, .val (.int p0_4), .val (.long p0_0), .second, .val (.long p0_1), .second, .val (.long (v0_16 p0_0 p0_2 p0_4)), .second, .val (.long (v0_30 p0_1 p0_3 p0_4)), .second, .val (.ref b6), .unset] [(.long (v0_30 p0_1 p0_3 p0_4)), (.long p0_1)])) _
        refine XS.lcmp X12.here hx rfl (hb hby at_61) rfl ?_
        show Steps p.tables e below (T12.setTop (mkF m 62 #[.val (.long p0_0), .second, .val (.long p0_1), .second, .val (.long p0_2), .second, .val (.long p0_3), .second, .val (.int p0_4), .val (.long p0_0), .second, .val (.long p0_1), .second, .val (.long (v0_16 p0_0 p0_2 p0_4)), .second, .val (.long (v0_30 p0_1 p0_3 p0_4)), .second, .val (.ref b6), .unset] [(.int (lcmpW p0_1 (v0_30 p0_1 p0_3 p0_4)))])) _
        exact k)
      by_cases hc62_22 : p0_1 < (v0_30 p0_1 p0_3 p0_4)
      · have pre23 : ∀ t, Steps p.tables e below (T12.setTop (mkF m 70 #[.val (.long p0_0), .second, .val (.long p0_1), .second, .val (.long p0_2), .second, .val (.long p0_3), .second, .val (.int p0_4), .val (.long p0_0), .second, .val (.long p0_1), .second, .val (.long (v0_16 p0_0 p0_2 p0_4)), .second, .val (.long (v0_30 p0_1 p0_3 p0_4)), .second, .val (.ref b6), .unset] [(.int (1 : Int32))])) t → Steps p.tables e below (T12.setTop (mkF m 54 #[.val (.long p0_0), .second, .val (.long p0_1), .second, .val (.long p0_2), .second, .val (.long p0_3), .second, .val (.int p0_4), .val (.long p0_0), .second, .val (.long p0_1), .second, .val (.long (v0_16 p0_0 p0_2 p0_4)), .second, .val (.long (v0_30 p0_1 p0_3 p0_4)), .second, .val (.ref b6), .unset] [(.int (lcmpW p0_0 (v0_16 p0_0 p0_2 p0_4)))])) t := fun t k => pre21 t (by
          refine XS.ifNo X12.here hx rfl (hb hby at_62) rfl ((if0 _ _).trans (tlt ((lw_lt p0_1 (v0_30 p0_1 p0_3 p0_4)).mpr hc62_22)).2.1) ?_
          show Steps p.tables e below (T12.setTop (mkF m 65 #[.val (.long p0_0), .second, .val (.long p0_1), .second, .val (.long p0_2), .second, .val (.long p0_3), .second, .val (.int p0_4), .val (.long p0_0), .second, .val (.long p0_1), .second, .val (.long (v0_16 p0_0 p0_2 p0_4)), .second, .val (.long (v0_30 p0_1 p0_3 p0_4)), .second, .val (.ref b6), .unset] [])) _
          refine XS.iconst X12.here hx rfl (hb hby at_65) ?_
          show Steps p.tables e below (T12.setTop (mkF m 66 #[.val (.long p0_0), .second, .val (.long p0_1), .second, .val (.long p0_2), .second, .val (.long p0_3), .second, .val (.int p0_4), .val (.long p0_0), .second, .val (.long p0_1), .second, .val (.long (v0_16 p0_0 p0_2 p0_4)), .second, .val (.long (v0_30 p0_1 p0_3 p0_4)), .second, .val (.ref b6), .unset] [(.int (1 : Int32))])) _
          refine XS.goto X12.here hx rfl (pc0 := 66) (pc' := 70) rfl (hb hby at_66) (by decide) (by decide) ?_
          show Steps p.tables e below (T12.setTop (mkF m 70 #[.val (.long p0_0), .second, .val (.long p0_1), .second, .val (.long p0_2), .second, .val (.long p0_3), .second, .val (.int p0_4), .val (.long p0_0), .second, .val (.long p0_1), .second, .val (.long (v0_16 p0_0 p0_2 p0_4)), .second, .val (.long (v0_30 p0_1 p0_3 p0_4)), .second, .val (.ref b6), .unset] [(.int (1 : Int32))])) _
          exact k)
        have hj26 : (j0_70_s0 p0_0 p0_1 p0_2 p0_3 p0_4) = (1 : Int32) := by unfold j0_70_s0; rw [if_pos hc54_20, if_pos hc62_22]
        exact ⟨T12, _, X12, rfl, N12, fun t k => pre23 t (by rw [hj26] at k; exact k)⟩
      · have pre24 : ∀ t, Steps p.tables e below (T12.setTop (mkF m 70 #[.val (.long p0_0), .second, .val (.long p0_1), .second, .val (.long p0_2), .second, .val (.long p0_3), .second, .val (.int p0_4), .val (.long p0_0), .second, .val (.long p0_1), .second, .val (.long (v0_16 p0_0 p0_2 p0_4)), .second, .val (.long (v0_30 p0_1 p0_3 p0_4)), .second, .val (.ref b6), .unset] [(.int (0 : Int32))])) t → Steps p.tables e below (T12.setTop (mkF m 54 #[.val (.long p0_0), .second, .val (.long p0_1), .second, .val (.long p0_2), .second, .val (.long p0_3), .second, .val (.int p0_4), .val (.long p0_0), .second, .val (.long p0_1), .second, .val (.long (v0_16 p0_0 p0_2 p0_4)), .second, .val (.long (v0_30 p0_1 p0_3 p0_4)), .second, .val (.ref b6), .unset] [(.int (lcmpW p0_0 (v0_16 p0_0 p0_2 p0_4)))])) t := fun t k => pre21 t (by
          refine XS.ifYes X12.here hx rfl (pc0 := 62) (pc' := 69) rfl (hb hby at_62) rfl ((if0 _ _).trans (flt (fun q => hc62_22 ((lw_lt p0_1 (v0_30 p0_1 p0_3 p0_4)).mp q))).2.1) (by decide) (by decide) ?_
          show Steps p.tables e below (T12.setTop (mkF m 69 #[.val (.long p0_0), .second, .val (.long p0_1), .second, .val (.long p0_2), .second, .val (.long p0_3), .second, .val (.int p0_4), .val (.long p0_0), .second, .val (.long p0_1), .second, .val (.long (v0_16 p0_0 p0_2 p0_4)), .second, .val (.long (v0_30 p0_1 p0_3 p0_4)), .second, .val (.ref b6), .unset] [])) _
          refine XS.iconst X12.here hx rfl (hb hby at_69) ?_
          show Steps p.tables e below (T12.setTop (mkF m 70 #[.val (.long p0_0), .second, .val (.long p0_1), .second, .val (.long p0_2), .second, .val (.long p0_3), .second, .val (.int p0_4), .val (.long p0_0), .second, .val (.long p0_1), .second, .val (.long (v0_16 p0_0 p0_2 p0_4)), .second, .val (.long (v0_30 p0_1 p0_3 p0_4)), .second, .val (.ref b6), .unset] [(.int (0 : Int32))])) _
          exact k)
        have hj27 : (j0_70_s0 p0_0 p0_1 p0_2 p0_3 p0_4) = (0 : Int32) := by unfold j0_70_s0; rw [if_pos hc54_20, if_neg hc62_22]
        exact ⟨T12, _, X12, rfl, N12, fun t k => pre24 t (by rw [hj27] at k; exact k)⟩
    · have pre25 : ∀ t, Steps p.tables e below (T12.setTop (mkF m 70 #[.val (.long p0_0), .second, .val (.long p0_1), .second, .val (.long p0_2), .second, .val (.long p0_3), .second, .val (.int p0_4), .val (.long p0_0), .second, .val (.long p0_1), .second, .val (.long (v0_16 p0_0 p0_2 p0_4)), .second, .val (.long (v0_30 p0_1 p0_3 p0_4)), .second, .val (.ref b6), .unset] [(.int (0 : Int32))])) t → Steps p.tables e below (T12.setTop (mkF m 54 #[.val (.long p0_0), .second, .val (.long p0_1), .second, .val (.long p0_2), .second, .val (.long p0_3), .second, .val (.int p0_4), .val (.long p0_0), .second, .val (.long p0_1), .second, .val (.long (v0_16 p0_0 p0_2 p0_4)), .second, .val (.long (v0_30 p0_1 p0_3 p0_4)), .second, .val (.ref b6), .unset] [(.int (lcmpW p0_0 (v0_16 p0_0 p0_2 p0_4)))])) t := fun t k => pre19 t (by
        refine XS.ifYes X12.here hx rfl (pc0 := 54) (pc' := 69) rfl (hb hby at_54) rfl ((if0 _ _).trans (flt (fun q => hc54_20 ((lw_lt p0_0 (v0_16 p0_0 p0_2 p0_4)).mp q))).2.1) (by decide) (by decide) ?_
        show Steps p.tables e below (T12.setTop (mkF m 69 #[.val (.long p0_0), .second, .val (.long p0_1), .second, .val (.long p0_2), .second, .val (.long p0_3), .second, .val (.int p0_4), .val (.long p0_0), .second, .val (.long p0_1), .second, .val (.long (v0_16 p0_0 p0_2 p0_4)), .second, .val (.long (v0_30 p0_1 p0_3 p0_4)), .second, .val (.ref b6), .unset] [])) _
        refine XS.iconst X12.here hx rfl (hb hby at_69) ?_
        show Steps p.tables e below (T12.setTop (mkF m 70 #[.val (.long p0_0), .second, .val (.long p0_1), .second, .val (.long p0_2), .second, .val (.long p0_3), .second, .val (.int p0_4), .val (.long p0_0), .second, .val (.long p0_1), .second, .val (.long (v0_16 p0_0 p0_2 p0_4)), .second, .val (.long (v0_30 p0_1 p0_3 p0_4)), .second, .val (.ref b6), .unset] [(.int (0 : Int32))])) _
        exact k)
      have hj28 : (j0_70_s0 p0_0 p0_1 p0_2 p0_3 p0_4) = (0 : Int32) := by unfold j0_70_s0; rw [if_neg hc54_20]
      exact ⟨T12, _, X12, rfl, N12, fun t k => pre25 t (by rw [hj28] at k; exact k)⟩
  have pre19 : ∀ t, Steps p.tables e below (T19.setTop (mkF m 70 #[.val (.long p0_0), .second, .val (.long p0_1), .second, .val (.long p0_2), .second, .val (.long p0_3), .second, .val (.int p0_4), .val (.long p0_0), .second, .val (.long p0_1), .second, .val (.long (v0_16 p0_0 p0_2 p0_4)), .second, .val (.long (v0_30 p0_1 p0_3 p0_4)), .second, .val (.ref b6), .unset] [(.int (j0_70_s0 p0_0 p0_1 p0_2 p0_3 p0_4))])) t → Steps p.tables e below (s₁.setTop (entryFrame m #[(.long p0_0), (.long p0_1), (.long p0_2), (.long p0_3), (.int p0_4)] maxLocals)) t := fun t k => pre18 t (st19 t k)
  have pre29 : ∀ t, Steps p.tables e below (T19.setTop (mkF m 74 #[.val (.long p0_0), .second, .val (.long p0_1), .second, .val (.long p0_2), .second, .val (.long p0_3), .second, .val (.int p0_4), .val (.long p0_0), .second, .val (.long p0_1), .second, .val (.long (v0_16 p0_0 p0_2 p0_4)), .second, .val (.long (v0_30 p0_1 p0_3 p0_4)), .second, .val (.ref b6), .val (.int (j0_70_s0 p0_0 p0_1 p0_2 p0_3 p0_4))] [(.ref b6)])) t → Steps p.tables e below (s₁.setTop (entryFrame m #[(.long p0_0), (.long p0_1), (.long p0_2), (.long p0_3), (.int p0_4)] maxLocals)) t := fun t k => pre19 t (by
    refine XS.istore X19.here hx rfl (hb hby at_70) rfl (l' := #[.val (.long p0_0), .second, .val (.long p0_1), .second, .val (.long p0_2), .second, .val (.long p0_3), .second, .val (.int p0_4), .val (.long p0_0), .second, .val (.long p0_1), .second, .val (.long (v0_16 p0_0 p0_2 p0_4)), .second, .val (.long (v0_30 p0_1 p0_3 p0_4)), .second, .val (.ref b6), .val (.int (j0_70_s0 p0_0 p0_1 p0_2 p0_3 p0_4))]) rfl ?_
    show Steps p.tables e below (T19.setTop (mkF m 72 #[.val (.long p0_0), .second, .val (.long p0_1), .second, .val (.long p0_2), .second, .val (.long p0_3), .second, .val (.int p0_4), .val (.long p0_0), .second, .val (.long p0_1), .second, .val (.long (v0_16 p0_0 p0_2 p0_4)), .second, .val (.long (v0_30 p0_1 p0_3 p0_4)), .second, .val (.ref b6), .val (.int (j0_70_s0 p0_0 p0_1 p0_2 p0_3 p0_4))] [])) _
    refine XS.aload X19.here hx rfl (hb hby at_72) rfl rfl ?_
    show Steps p.tables e below (T19.setTop (mkF m 74 #[.val (.long p0_0), .second, .val (.long p0_1), .second, .val (.long p0_2), .second, .val (.long p0_3), .second, .val (.int p0_4), .val (.long p0_0), .second, .val (.long p0_1), .second, .val (.long (v0_16 p0_0 p0_2 p0_4)), .second, .val (.long (v0_30 p0_1 p0_3 p0_4)), .second, .val (.ref b6), .val (.int (j0_70_s0 p0_0 p0_1 p0_2 p0_3 p0_4))] [(.ref b6)])) _
    exact k)
  obtain ⟨cq30, kq30, qa30, qb30, qc30⟩ := isOf hZ e19 Ex13
  obtain ⟨_, _, ⟨T30, L30, k30, n30⟩, -, X30, ⟨Lc30, hQ30, l30, y30, z30⟩, st30⟩ := X19.virtualBack hx (y := (⟨"relayout/Rect", "isEmpty", "()Z"⟩ : MethodName)) (z := (⟨"relayout/Rect", "isEmpty", "()Z"⟩ : MethodName)) hown (mvT hZ (hw _ (List.mem_of_getElem? (i := 26) rfl))) (mvT hZ (hw _ (List.mem_of_getElem? (i := 27) rfl))) (notFace_of_selects (args := #[]) (mvT hZ (hw _ (List.mem_of_getElem? (i := 29) rfl)))) (mvT hZ (hw _ (List.mem_of_getElem? (i := 29) rfl))) (mvT hZ (hw _ (List.mem_of_getElem? (i := 28) rfl))) (by decide) (backOf (W := 0) (rm5 l Z a0 hw [] b6 p0_0 (v0_16 p0_0 p0_2 p0_4) p0_1 (v0_30 p0_1 p0_3 p0_4) T12.heap n0 Z12 F14 F16 F15 F17) hZ (hw _ (List.mem_of_getElem? (i := 30) rfl)) (hw _ (List.mem_of_getElem? (i := 6) rfl)) (by decide) (by decide)) qa30 qc30 (g := (mkF m 74 #[.val (.long p0_0), .second, .val (.long p0_1), .second, .val (.long p0_2), .second, .val (.long p0_3), .second, .val (.int p0_4), .val (.long p0_0), .second, .val (.long p0_1), .second, .val (.long (v0_16 p0_0 p0_2 p0_4)), .second, .val (.long (v0_30 p0_1 p0_3 p0_4)), .second, .val (.ref b6), .val (.int (j0_70_s0 p0_0 p0_1 p0_2 p0_3 p0_4))] [(.ref b6)])) rfl (by rw [hml]; rfl) (Steps.refl _) (argsL := []) (rest := []) (lenOf pd_3 rfl) rfl (by show 2 * 0 + _ ≤ _; exact Nat.le_of_eq rfl) (hb hby at_74) (fun _ _ => ⟨rfl, e19, (by decide : 1 + 0 ≤ _), (by decide : 4 + 0 ≤ _)⟩)
  dsimp only [Pt.U, Pt.locs, Pt.cells, Pt.slots] at X30 l30 y30 z30 st30 hQ30
  subst l30 y30 z30
  obtain ⟨rfl, M30, e30⟩ := hQ30
  have N30 := Fr.app N19 M30
  have pre30 : ∀ t, Steps p.tables e below (T30.setTop (mkF m 77 #[.val (.long p0_0), .second, .val (.long p0_1), .second, .val (.long p0_2), .second, .val (.long p0_3), .second, .val (.int p0_4), .val (.long p0_0), .second, .val (.long p0_1), .second, .val (.long (v0_16 p0_0 p0_2 p0_4)), .second, .val (.long (v0_30 p0_1 p0_3 p0_4)), .second, .val (.ref b6), .val (.int (j0_70_s0 p0_0 p0_1 p0_2 p0_3 p0_4))] [(.int (r5 p0_0 (v0_16 p0_0 p0_2 p0_4) p0_1 (v0_30 p0_1 p0_3 p0_4)))])) t → Steps p.tables e below (s₁.setTop (entryFrame m #[(.long p0_0), (.long p0_1), (.long p0_2), (.long p0_3), (.int p0_4)] maxLocals)) t := fun t k => pre29 t (st30.trans k)
  have pre31 : ∀ t, Steps p.tables e below (T30.setTop (mkF m 79 #[.val (.long p0_0), .second, .val (.long p0_1), .second, .val (.long p0_2), .second, .val (.long p0_3), .second, .val (.int p0_4), .val (.long p0_0), .second, .val (.long p0_1), .second, .val (.long (v0_16 p0_0 p0_2 p0_4)), .second, .val (.long (v0_30 p0_1 p0_3 p0_4)), .second, .val (.ref b6), .val (.int (j0_70_s0 p0_0 p0_1 p0_2 p0_3 p0_4))] [(.int (j0_70_s0 p0_0 p0_1 p0_2 p0_3 p0_4)), (.int (r5 p0_0 (v0_16 p0_0 p0_2 p0_4) p0_1 (v0_30 p0_1 p0_3 p0_4)))])) t → Steps p.tables e below (s₁.setTop (entryFrame m #[(.long p0_0), (.long p0_1), (.long p0_2), (.long p0_3), (.int p0_4)] maxLocals)) t := fun t k => pre30 t (by
    refine XS.iload X30.here hx rfl (hb hby at_77) rfl ?_
    show Steps p.tables e below (T30.setTop (mkF m 79 #[.val (.long p0_0), .second, .val (.long p0_1), .second, .val (.long p0_2), .second, .val (.long p0_3), .second, .val (.int p0_4), .val (.long p0_0), .second, .val (.long p0_1), .second, .val (.long (v0_16 p0_0 p0_2 p0_4)), .second, .val (.long (v0_30 p0_1 p0_3 p0_4)), .second, .val (.ref b6), .val (.int (j0_70_s0 p0_0 p0_1 p0_2 p0_3 p0_4))] [(.int (j0_70_s0 p0_0 p0_1 p0_2 p0_3 p0_4)), (.int (r5 p0_0 (v0_16 p0_0 p0_2 p0_4) p0_1 (v0_30 p0_1 p0_3 p0_4)))])) _
    exact k)
  obtain ⟨T32, L32, X32, e32, N32, st32⟩ : ∃ (T' : State) (L' : List Loc), Stand p l e room_1 s m #[(.long p0_0), (.long p0_1), (.long p0_2), (.long p0_3), (.int p0_4)] below meth c T' L' 1 4 ∧ T'.heap = T12.heap ∧ Fr n0 L' ∧ ∀ t, Steps p.tables e below (T'.setTop (mkF m 87 #[.val (.long p0_0), .second, .val (.long p0_1), .second, .val (.long p0_2), .second, .val (.long p0_3), .second, .val (.int p0_4), .val (.long p0_0), .second, .val (.long p0_1), .second, .val (.long (v0_16 p0_0 p0_2 p0_4)), .second, .val (.long (v0_30 p0_1 p0_3 p0_4)), .second, .val (.ref b6), .val (.int (j0_70_s0 p0_0 p0_1 p0_2 p0_3 p0_4))] [(.int (j0_87_s0 p0_0 p0_1 p0_2 p0_3 p0_4)), (.int (r5 p0_0 (v0_16 p0_0 p0_2 p0_4) p0_1 (v0_30 p0_1 p0_3 p0_4)))])) t → Steps p.tables e below (T30.setTop (mkF m 79 #[.val (.long p0_0), .second, .val (.long p0_1), .second, .val (.long p0_2), .second, .val (.long p0_3), .second, .val (.int p0_4), .val (.long p0_0), .second, .val (.long p0_1), .second, .val (.long (v0_16 p0_0 p0_2 p0_4)), .second, .val (.long (v0_30 p0_1 p0_3 p0_4)), .second, .val (.ref b6), .val (.int (j0_70_s0 p0_0 p0_1 p0_2 p0_3 p0_4))] [(.int (j0_70_s0 p0_0 p0_1 p0_2 p0_3 p0_4)), (.int (r5 p0_0 (v0_16 p0_0 p0_2 p0_4) p0_1 (v0_30 p0_1 p0_3 p0_4)))])) t := by
    have pre32 : ∀ t, Steps p.tables e below (T30.setTop (mkF m 79 #[.val (.long p0_0), .second, .val (.long p0_1), .second, .val (.long p0_2), .second, .val (.long p0_3), .second, .val (.int p0_4), .val (.long p0_0), .second, .val (.long p0_1), .second, .val (.long (v0_16 p0_0 p0_2 p0_4)), .second, .val (.long (v0_30 p0_1 p0_3 p0_4)), .second, .val (.ref b6), .val (.int (j0_70_s0 p0_0 p0_1 p0_2 p0_3 p0_4))] [(.int (j0_70_s0 p0_0 p0_1 p0_2 p0_3 p0_4)), (.int (r5 p0_0 (v0_16 p0_0 p0_2 p0_4) p0_1 (v0_30 p0_1 p0_3 p0_4)))])) t → Steps p.tables e below (T30.setTop (mkF m 79 #[.val (.long p0_0), .second, .val (.long p0_1), .second, .val (.long p0_2), .second, .val (.long p0_3), .second, .val (.int p0_4), .val (.long p0_0), .second, .val (.long p0_1), .second, .val (.long (v0_16 p0_0 p0_2 p0_4)), .second, .val (.long (v0_30 p0_1 p0_3 p0_4)), .second, .val (.ref b6), .val (.int (j0_70_s0 p0_0 p0_1 p0_2 p0_3 p0_4))] [(.int (j0_70_s0 p0_0 p0_1 p0_2 p0_3 p0_4)), (.int (r5 p0_0 (v0_16 p0_0 p0_2 p0_4) p0_1 (v0_30 p0_1 p0_3 p0_4)))])) t := fun t k => k
    by_cases hc79_33 : (j0_70_s0 p0_0 p0_1 p0_2 p0_3 p0_4) = (0 : Int32)
    · have pre34 : ∀ t, Steps p.tables e below (T30.setTop (mkF m 87 #[.val (.long p0_0), .second, .val (.long p0_1), .second, .val (.long p0_2), .second, .val (.long p0_3), .second, .val (.int p0_4), .val (.long p0_0), .second, .val (.long p0_1), .second, .val (.long (v0_16 p0_0 p0_2 p0_4)), .second, .val (.long (v0_30 p0_1 p0_3 p0_4)), .second, .val (.ref b6), .val (.int (j0_70_s0 p0_0 p0_1 p0_2 p0_3 p0_4))] [(.int (1 : Int32)), (.int (r5 p0_0 (v0_16 p0_0 p0_2 p0_4) p0_1 (v0_30 p0_1 p0_3 p0_4)))])) t → Steps p.tables e below (T30.setTop (mkF m 79 #[.val (.long p0_0), .second, .val (.long p0_1), .second, .val (.long p0_2), .second, .val (.long p0_3), .second, .val (.int p0_4), .val (.long p0_0), .second, .val (.long p0_1), .second, .val (.long (v0_16 p0_0 p0_2 p0_4)), .second, .val (.long (v0_30 p0_1 p0_3 p0_4)), .second, .val (.ref b6), .val (.int (j0_70_s0 p0_0 p0_1 p0_2 p0_3 p0_4))] [(.int (j0_70_s0 p0_0 p0_1 p0_2 p0_3 p0_4)), (.int (r5 p0_0 (v0_16 p0_0 p0_2 p0_4) p0_1 (v0_30 p0_1 p0_3 p0_4)))])) t := fun t k => pre32 t (by
        refine XS.ifNo X30.here hx rfl (hb hby at_79) rfl ((if0 _ _).trans (teq hc79_33).2) ?_
        show Steps p.tables e below (T30.setTop (mkF m 82 #[.val (.long p0_0), .second, .val (.long p0_1), .second, .val (.long p0_2), .second, .val (.long p0_3), .second, .val (.int p0_4), .val (.long p0_0), .second, .val (.long p0_1), .second, .val (.long (v0_16 p0_0 p0_2 p0_4)), .second, .val (.long (v0_30 p0_1 p0_3 p0_4)), .second, .val (.ref b6), .val (.int (j0_70_s0 p0_0 p0_1 p0_2 p0_3 p0_4))] [(.int (r5 p0_0 (v0_16 p0_0 p0_2 p0_4) p0_1 (v0_30 p0_1 p0_3 p0_4)))])) _
        refine XS.iconst X30.here hx rfl (hb hby at_82) ?_
        show Steps p.tables e below (T30.setTop (mkF m 83 #[.val (.long p0_0), .second, .val (.long p0_1), .second, .val (.long p0_2), .second, .val (.long p0_3), .second, .val (.int p0_4), .val (.long p0_0), .second, .val (.long p0_1), .second, .val (.long (v0_16 p0_0 p0_2 p0_4)), .second, .val (.long (v0_30 p0_1 p0_3 p0_4)), .second, .val (.ref b6), .val (.int (j0_70_s0 p0_0 p0_1 p0_2 p0_3 p0_4))] [(.int (1 : Int32)), (.int (r5 p0_0 (v0_16 p0_0 p0_2 p0_4) p0_1 (v0_30 p0_1 p0_3 p0_4)))])) _
        refine XS.goto X30.here hx rfl (pc0 := 83) (pc' := 87) rfl (hb hby at_83) (by decide) (by decide) ?_
        show Steps p.tables e below (T30.setTop (mkF m 87 #[.val (.long p0_0), .second, .val (.long p0_1), .second, .val (.long p0_2), .second, .val (.long p0_3), .second, .val (.int p0_4), .val (.long p0_0), .second, .val (.long p0_1), .second, .val (.long (v0_16 p0_0 p0_2 p0_4)), .second, .val (.long (v0_30 p0_1 p0_3 p0_4)), .second, .val (.ref b6), .val (.int (j0_70_s0 p0_0 p0_1 p0_2 p0_3 p0_4))] [(.int (1 : Int32)), (.int (r5 p0_0 (v0_16 p0_0 p0_2 p0_4) p0_1 (v0_30 p0_1 p0_3 p0_4)))])) _
        exact k)
      have hj36 : (j0_87_s0 p0_0 p0_1 p0_2 p0_3 p0_4) = (1 : Int32) := by unfold j0_87_s0; rw [if_pos hc79_33]
      exact ⟨T30, _, X30, e30, N30, fun t k => pre34 t (by rw [hj36] at k; exact k)⟩
    · have pre35 : ∀ t, Steps p.tables e below (T30.setTop (mkF m 87 #[.val (.long p0_0), .second, .val (.long p0_1), .second, .val (.long p0_2), .second, .val (.long p0_3), .second, .val (.int p0_4), .val (.long p0_0), .second, .val (.long p0_1), .second, .val (.long (v0_16 p0_0 p0_2 p0_4)), .second, .val (.long (v0_30 p0_1 p0_3 p0_4)), .second, .val (.ref b6), .val (.int (j0_70_s0 p0_0 p0_1 p0_2 p0_3 p0_4))] [(.int (0 : Int32)), (.int (r5 p0_0 (v0_16 p0_0 p0_2 p0_4) p0_1 (v0_30 p0_1 p0_3 p0_4)))])) t → Steps p.tables e below (T30.setTop (mkF m 79 #[.val (.long p0_0), .second, .val (.long p0_1), .second, .val (.long p0_2), .second, .val (.long p0_3), .second, .val (.int p0_4), .val (.long p0_0), .second, .val (.long p0_1), .second, .val (.long (v0_16 p0_0 p0_2 p0_4)), .second, .val (.long (v0_30 p0_1 p0_3 p0_4)), .second, .val (.ref b6), .val (.int (j0_70_s0 p0_0 p0_1 p0_2 p0_3 p0_4))] [(.int (j0_70_s0 p0_0 p0_1 p0_2 p0_3 p0_4)), (.int (r5 p0_0 (v0_16 p0_0 p0_2 p0_4) p0_1 (v0_30 p0_1 p0_3 p0_4)))])) t := fun t k => pre32 t (by
        refine XS.ifYes X30.here hx rfl (pc0 := 79) (pc' := 86) rfl (hb hby at_79) rfl ((if0 _ _).trans (feq hc79_33).2) (by decide) (by decide) ?_
        show Steps p.tables e below (T30.setTop (mkF m 86 #[.val (.long p0_0), .second, .val (.long p0_1), .second, .val (.long p0_2), .second, .val (.long p0_3), .second, .val (.int p0_4), .val (.long p0_0), .second, .val (.long p0_1), .second, .val (.long (v0_16 p0_0 p0_2 p0_4)), .second, .val (.long (v0_30 p0_1 p0_3 p0_4)), .second, .val (.ref b6), .val (.int (j0_70_s0 p0_0 p0_1 p0_2 p0_3 p0_4))] [(.int (r5 p0_0 (v0_16 p0_0 p0_2 p0_4) p0_1 (v0_30 p0_1 p0_3 p0_4)))])) _
        refine XS.iconst X30.here hx rfl (hb hby at_86) ?_
        show Steps p.tables e below (T30.setTop (mkF m 87 #[.val (.long p0_0), .second, .val (.long p0_1), .second, .val (.long p0_2), .second, .val (.long p0_3), .second, .val (.int p0_4), .val (.long p0_0), .second, .val (.long p0_1), .second, .val (.long (v0_16 p0_0 p0_2 p0_4)), .second, .val (.long (v0_30 p0_1 p0_3 p0_4)), .second, .val (.ref b6), .val (.int (j0_70_s0 p0_0 p0_1 p0_2 p0_3 p0_4))] [(.int (0 : Int32)), (.int (r5 p0_0 (v0_16 p0_0 p0_2 p0_4) p0_1 (v0_30 p0_1 p0_3 p0_4)))])) _
        exact k)
      have hj37 : (j0_87_s0 p0_0 p0_1 p0_2 p0_3 p0_4) = (0 : Int32) := by unfold j0_87_s0; rw [if_neg hc79_33]
      exact ⟨T30, _, X30, e30, N30, fun t k => pre35 t (by rw [hj37] at k; exact k)⟩
  have pre32 : ∀ t, Steps p.tables e below (T32.setTop (mkF m 87 #[.val (.long p0_0), .second, .val (.long p0_1), .second, .val (.long p0_2), .second, .val (.long p0_3), .second, .val (.int p0_4), .val (.long p0_0), .second, .val (.long p0_1), .second, .val (.long (v0_16 p0_0 p0_2 p0_4)), .second, .val (.long (v0_30 p0_1 p0_3 p0_4)), .second, .val (.ref b6), .val (.int (j0_70_s0 p0_0 p0_1 p0_2 p0_3 p0_4))] [(.int (j0_87_s0 p0_0 p0_1 p0_2 p0_3 p0_4)), (.int (r5 p0_0 (v0_16 p0_0 p0_2 p0_4) p0_1 (v0_30 p0_1 p0_3 p0_4)))])) t → Steps p.tables e below (s₁.setTop (entryFrame m #[(.long p0_0), (.long p0_1), (.long p0_2), (.long p0_3), (.int p0_4)] maxLocals)) t := fun t k => pre31 t (st32 t k)
  have pre39 : ∀ t, Steps p.tables e below (T32.setTop (mkF m 95 #[.val (.long p0_0), .second, .val (.long p0_1), .second, .val (.long p0_2), .second, .val (.long p0_3), .second, .val (.int p0_4), .val (.long p0_0), .second, .val (.long p0_1), .second, .val (.long (v0_16 p0_0 p0_2 p0_4)), .second, .val (.long (v0_30 p0_1 p0_3 p0_4)), .second, .val (.ref b6), .val (.int (j0_70_s0 p0_0 p0_1 p0_2 p0_3 p0_4))] [(.int (1 : Int32))])) t → Steps p.tables e below (s₁.setTop (entryFrame m #[(.long p0_0), (.long p0_1), (.long p0_2), (.long p0_3), (.int p0_4)] maxLocals)) t := fun t k => pre32 t (by
    refine XS.icmpNo X32.here hx rfl (hb hby at_87) rfl (teq (show (r5 p0_0 (v0_16 p0_0 p0_2 p0_4) p0_1 (v0_30 p0_1 p0_3 p0_4)) = (j0_87_s0 p0_0 p0_1 p0_2 p0_3 p0_4) from (own_main _ _ _ _ _))).2 ?_
    show Steps p.tables e below (T32.setTop (mkF m 90 #[.val (.long p0_0), .second, .val (.long p0_1), .second, .val (.long p0_2), .second, .val (.long p0_3), .second, .val (.int p0_4), .val (.long p0_0), .second, .val (.long p0_1), .second, .val (.long (v0_16 p0_0 p0_2 p0_4)), .second, .val (.long (v0_30 p0_1 p0_3 p0_4)), .second, .val (.ref b6), .val (.int (j0_70_s0 p0_0 p0_1 p0_2 p0_3 p0_4))] [])) _
    refine XS.iconst X32.here hx rfl (hb hby at_90) ?_
    show Steps p.tables e below (T32.setTop (mkF m 91 #[.val (.long p0_0), .second, .val (.long p0_1), .second, .val (.long p0_2), .second, .val (.long p0_3), .second, .val (.int p0_4), .val (.long p0_0), .second, .val (.long p0_1), .second, .val (.long (v0_16 p0_0 p0_2 p0_4)), .second, .val (.long (v0_30 p0_1 p0_3 p0_4)), .second, .val (.ref b6), .val (.int (j0_70_s0 p0_0 p0_1 p0_2 p0_3 p0_4))] [(.int (1 : Int32))])) _
    refine XS.goto X32.here hx rfl (pc0 := 91) (pc' := 95) rfl (hb hby at_91) (by decide) (by decide) ?_
    show Steps p.tables e below (T32.setTop (mkF m 95 #[.val (.long p0_0), .second, .val (.long p0_1), .second, .val (.long p0_2), .second, .val (.long p0_3), .second, .val (.int p0_4), .val (.long p0_0), .second, .val (.long p0_1), .second, .val (.long (v0_16 p0_0 p0_2 p0_4)), .second, .val (.long (v0_30 p0_1 p0_3 p0_4)), .second, .val (.ref b6), .val (.int (j0_70_s0 p0_0 p0_1 p0_2 p0_3 p0_4))] [(.int (1 : Int32))])) _
    exact k)
  obtain ⟨fs, hr, hrun, hended, hW, hsame⟩ := X32.leave (v := some (.int (1 : Int32))) (fun h => by rw [Bd.returns] at h; cases h)
  refine ⟨_, _, pre39 _ ?_, hrun, hended, _, _, rfl, ?_, ⟨_, rfl⟩, hW, hsame.mono (by decide) (by decide)⟩
  · show Steps p.tables e below (T32.setTop (mkF m 95 #[.val (.long p0_0), .second, .val (.long p0_1), .second, .val (.long p0_2), .second, .val (.long p0_3), .second, .val (.int p0_4), .val (.long p0_0), .second, .val (.long p0_1), .second, .val (.long (v0_16 p0_0 p0_2 p0_4)), .second, .val (.long (v0_30 p0_1 p0_3 p0_4)), .second, .val (.ref b6), .val (.int (j0_70_s0 p0_0 p0_1 p0_2 p0_3 p0_4))] [(.int (1 : Int32))])) _
    exact retN X32 hx (t := .boolean) Bd.returns (by simp) (hb hby at_95) hr
  · show Q0 Z p0_0 p0_1 p0_2 p0_3 p0_4 h0 n0 _ T32.heap _
    rw [e32]
    exact ⟨rfl, N32⟩
set_option maxRecDepth 65536 in
set_option maxHeartbeats 40000000 in
theorem comes_1 {Post : Tables → Env → Array Value → State → Outcome → State → Prop} (hpost : ∀ tb e args s v u, (limb_1_1.after args s (.returned v) u = true ∧ limb_1_2.after args s (.returned v) u = true ∧ True) → FrameEnd s (.returned v) u (Jvm.fieldLocs frame_1_writes args s ++ Jvm.arrayLocs frame_1_arrays args s ++ Jvm.staticLocs frame_1_statics s) 16 128 → Post tb e args s (.returned v) u) :
    ArmFor flags0 classFile x code maxLocals ret World_1 tables_1 room_1 Calls_1 rest_1 Pre_1 Post := by
  intro l hfl _ _ p e ha hc hk s m args below hf hA hF happ hP
  obtain ⟨hcalls, hrest, hpre⟩ := hP
  obtain ⟨-, -, -, hnamed, -, -, -, hat⟩ := (Spec.applies_iff hf).mp happ
  obtain ⟨hg, hn⟩ := and_e (Cond.before_iff.mp (show (Jvm.Cond.and given_1 narrow_1).before args s = true from hpre))
  obtain ⟨gc, g0⟩ := and_e hg
  obtain ⟨ga0, g1⟩ := and_e g0
  obtain ⟨ga1, g2⟩ := and_e g1
  obtain ⟨ga2, g3⟩ := and_e g2
  obtain ⟨ga3, g4⟩ := and_e g3
  obtain ⟨w0, w1, w2, w3, w4, rfl⟩ : ∃ w0 w1 w2 w3 w4 : Value, args = #[w0, w1, w2, w3, w4] := by
    have hs : args.size = 5 := by simpa [Cond.value, given_1] using gc
    obtain ⟨L⟩ := args
    match L, hs with
    | [w0, w1, w2, w3, w4], _ => exact ⟨w0, w1, w2, w3, w4, rfl⟩
  have hw := fun d (hd : d ∈ tables_1) => atoms_spec (ws := Jvm.Cond.code x code maxLocals ret :: tables_1) hat d (List.mem_cons_of_mem _ hd)
  obtain ⟨i0, ei0⟩ := isL_v ga0
  obtain rfl : w0 = (.long i0) := Option.some.inj ei0
  obtain ⟨i1, ei1⟩ := isL_v ga1
  obtain rfl : w1 = (.long i1) := Option.some.inj ei1
  obtain ⟨i2, ei2⟩ := isL_v ga2
  obtain rfl : w2 = (.long i2) := Option.some.inj ei2
  obtain ⟨i3, ei3⟩ := isL_v ga3
  obtain rfl : w3 = (.long i3) := Option.some.inj ei3
  obtain ⟨i4, ei4⟩ := is_v g4
  obtain rfl : w4 = (.int i4) := Option.some.inj ei4
  obtain ⟨n, o, h1, h2, h3, _, L, rfl, ⟨rfl, N⟩, hq⟩ := rm0 l s _ hw tables_1 i0 i1 i2 i3 i4  s.heap s.heap.size (Nat.le_refl _)  p e ha hc hk s m _ below hf ((Spec.applies_iff_loose hf).mp happ).1 ⟨rfl, State.Warmed39.refl s, rfl⟩ trivial
  refine ⟨n, _, h1, h2, h3, hpost _ _ _ _ _ _ ⟨Cond.after_iff.mpr rfl, Cond.after_iff.mpr (eq_i res_at (Term.int_eval (1)) rfl), trivial⟩ ⟨hq.1, hq.2.1, (hq.2.2.sift fun y hy => Or.inr (N y hy)).mono (by decide) (by decide)⟩⟩
theorem main_1_1 : Claimed_1_1 := comes_1 fun _ _ _ _ _ _ h hF => ⟨h.1, hF⟩
theorem main_1_2 : Claimed_1_2 := comes_1 fun _ _ _ _ _ _ h hF => ⟨h.2.1, hF⟩
end Jvm.Pilot.@@N@@
namespace Jvm.Pilot.@@N@@
open Jvm Jvm.ClassFile Sem Op Lib Jvm.Free Jvm.Stand Jvm.Pilot.@@N@@.Jvm.D
/-! MADE BY PROGRAM (witnessworld.py) out of the Statement's table words and the real class files: 8 classes; the members and pool entries that the words name. The judged class is class 1, her method 2. -/
namespace start1
open Jvm.ClassFile
def u (s : String) : CpInfo := .utf8 (stringToUtf16 s)
/-- a pool by its gaps: so many unusable entries, then the entry; so many at the end -/
def gap : Nat → List CpInfo → List CpInfo
  | 0, r => r
  | n + 1, r => .unusable :: gap n r
def poolList (es : List (Nat × CpInfo)) (last : Nat) : List CpInfo := es.foldr (fun e r => gap e.1 (e.2 :: r)) (gap last [])
def pool (es : List (Nat × CpInfo)) (last : Nat) : Array CpInfo := ⟨poolList es last⟩
def fileOf (pool : Array CpInfo) (this : Nat) (attrs : Array Attribute := #[]) (ms : Array MethodInfo := #[]) (fl : Nat := 33) (sup : Nat := 0) (ifs : Array Nat := #[]) (fds : Array FieldInfo := #[]) : ClassFile where
  minorVersion := 0
  majorVersion := 65
  constantPool := pool
  accessFlags := fl
  thisClass := this
  superClass := sup
  interfaces := ifs
  fields := fds
  methods := ms
  attributes := attrs
def plain (name : String) (sup : Option ClassId) : Class where
  name := name
  kind := .ordinary
  loader := none
  accessFlags := 33
  super := sup
  interfaces := #[]
  cf := none
  fields := #[]
  methods := #[]
  instanceTypes := #[]
  staticTypes := #[]
  resolved := #[]
  callSites := []
  init := .initialized
  statics := none
  mirror := none

def pool0 : Array CpInfo := pool [(5, u "<init>"), (0, u "()V"), (1, .class_ 10), (1, u "java/lang/Object")] 113

def k0c0 : Code := { maxStack := 0, maxLocals := 1, code := object_method_1_code, exceptionTable := #[], attributes := #[] }
def k0m0 : Method := { name := "<init>", desc := "()V", sig := { parameters := [], returnType := none }, accessFlags := 1, code := some k0c0 }
/-- java/lang/Object -/
def k0 : Class := { plain "java/lang/Object" none with
  accessFlags := 33
  interfaces := #[]
  cf := some (fileOf pool0 8 #[] #[{ accessFlags := 1, nameIndex := 5, descriptorIndex := 6, attributes := #[] }] 33 0 #[] #[])
  fields := #[]
  methods := #[k0m0]
  instanceTypes := #[]
  staticTypes := #[]
  resolved := Array.replicate 124 none
  statics := none }

def pool1 : Array CpInfo := pool [(2, .class_ 4), (1, u "java/lang/Object"), (0, u "<init>"), (0, u "()V"), (0, .methodref 8 9), (0, .class_ 10), (0, .nameAndType 11 12), (0, u "relayout/RectIsEmptyPinLaw"), (0, u "pick"), (0, u "(JJI)J"), (0, .class_ 14), (0, u "relayout/Rect"), (0, .methodref 13 16), (0, .nameAndType 5 17), (0, u "(JJJJ)V"), (0, .methodref 13 19), (0, .nameAndType 20 21), (0, u "isEmpty"), (0, u "()Z"), (3, u "law"), (0, u "(JJJJI)Z")] 2

def k1m0 : Method := { name := "<init>", desc := "()V", sig := { parameters := [], returnType := none }, accessFlags := 2, code := none }
def k1c1 : Code := { maxStack := 4, maxLocals := 5, code := method_2_code, exceptionTable := #[], attributes := #[] }
def k1m1 : Method := { name := "pick", desc := "(JJI)J", sig := { parameters := [.long, .long, .int], returnType := some .long }, accessFlags := 10, code := some k1c1 }
def k1c2 : Code := { maxStack := 10, maxLocals := 19, code := code, exceptionTable := #[], attributes := #[] }
def k1m2 : Method := { name := "law", desc := "(JJJJI)Z", sig := { parameters := [.long, .long, .long, .long, .int], returnType := some .boolean }, accessFlags := 9, code := some k1c2 }
/-- relayout/RectIsEmptyPinLaw -/
def k1 : Class := { plain "relayout/RectIsEmptyPinLaw" (some 0) with
  accessFlags := 49
  interfaces := #[]
  cf := some (fileOf pool1 8 #[] #[{ accessFlags := 2, nameIndex := 5, descriptorIndex := 6, attributes := #[] }, { accessFlags := 10, nameIndex := 11, descriptorIndex := 12, attributes := #[] }, { accessFlags := 9, nameIndex := 25, descriptorIndex := 26, attributes := #[] }] 49 2 #[] #[])
  fields := #[]
  methods := #[k1m0, k1m1, k1m2]
  instanceTypes := #[]
  staticTypes := #[]
  resolved := Array.replicate 29 none
  statics := none }

def pool2 : Array CpInfo := pool [(1, .methodref 2 3), (0, .class_ 4), (0, .nameAndType 5 6), (0, u "java/lang/Object"), (0, u "<init>"), (0, u "()V"), (0, .class_ 8), (0, u "java/lang/Record")] 13

def k2c0 : Code := { maxStack := 1, maxLocals := 1, code := jdk_30_method_1_code, exceptionTable := #[], attributes := #[] }
def k2m0 : Method := { name := "<init>", desc := "()V", sig := { parameters := [], returnType := none }, accessFlags := 4, code := some k2c0 }
/-- java/lang/Record -/
def k2 : Class := { plain "java/lang/Record" (some 0) with
  accessFlags := 1057
  interfaces := #[]
  cf := some (fileOf pool2 7 #[] #[{ accessFlags := 4, nameIndex := 5, descriptorIndex := 6, attributes := #[] }] 1057 2 #[] #[])
  fields := #[]
  methods := #[k2m0]
  instanceTypes := #[]
  staticTypes := #[]
  resolved := Array.replicate 22 none
  statics := none }

def pool3 : Array CpInfo := pool [(1, .methodref 2 3), (0, .class_ 4), (0, .nameAndType 5 6), (0, u "java/lang/Record"), (0, u "<init>"), (0, u "()V"), (0, .fieldref 8 9), (0, .class_ 10), (0, .nameAndType 11 12), (0, u "relayout/Rect"), (0, u "left"), (0, u "J"), (0, .fieldref 8 14), (0, .nameAndType 15 12), (0, u "top"), (0, .fieldref 8 17), (0, .nameAndType 18 12), (0, u "right"), (0, .fieldref 8 20), (0, .nameAndType 21 12), (0, u "bottom"), (2, u "(JJJJ)V"), (11, u "isEmpty"), (0, u "()Z"), (2, u "EMPTY"), (0, u "Lrelayout/Rect;")] 53

def k3c0 : Code := { maxStack := 3, maxLocals := 9, code := prog_25_method_1_code, exceptionTable := #[], attributes := #[] }
def k3m0 : Method := { name := "<init>", desc := "(JJJJ)V", sig := { parameters := [.long, .long, .long, .long], returnType := none }, accessFlags := 0, code := some k3c0 }
def k3c1 : Code := { maxStack := 4, maxLocals := 1, code := prog_25_method_2_code, exceptionTable := #[], attributes := #[] }
def k3m1 : Method := { name := "isEmpty", desc := "()Z", sig := { parameters := [], returnType := some .boolean }, accessFlags := 0, code := some k3c1 }
/-- relayout/Rect -/
def k3 : Class := { plain "relayout/Rect" (some 2) with
  accessFlags := 48
  interfaces := #[]
  cf := some (fileOf pool3 8 #[] #[{ accessFlags := 0, nameIndex := 5, descriptorIndex := 24, attributes := #[] }, { accessFlags := 0, nameIndex := 36, descriptorIndex := 37, attributes := #[] }] 48 2 #[] #[{ accessFlags := 18, nameIndex := 11, descriptorIndex := 12, attributes := #[] }, { accessFlags := 18, nameIndex := 15, descriptorIndex := 12, attributes := #[] }, { accessFlags := 18, nameIndex := 18, descriptorIndex := 12, attributes := #[] }, { accessFlags := 18, nameIndex := 21, descriptorIndex := 12, attributes := #[] }, { accessFlags := 24, nameIndex := 40, descriptorIndex := 41, attributes := #[] }])
  fields := #[{ name := "left", type := .long, accessFlags := 18, slot := 0, constantValue := 0 }, { name := "top", type := .long, accessFlags := 18, slot := 1, constantValue := 0 }, { name := "right", type := .long, accessFlags := 18, slot := 2, constantValue := 0 }, { name := "bottom", type := .long, accessFlags := 18, slot := 3, constantValue := 0 }, { name := "EMPTY", type := (.object "relayout/Rect"), accessFlags := 24, slot := 0, constantValue := 0 }]
  methods := #[k3m0, k3m1]
  instanceTypes := #[.long, .long, .long, .long]
  staticTypes := #[(.object "relayout/Rect")]
  resolved := Array.replicate 95 none
  statics := none }

def pool4 : Array CpInfo := pool [(1, u "java/lang/Cloneable"), (0, .class_ 1), (0, u "java/lang/Object"), (0, .class_ 3)] 3

/-- java/lang/Cloneable -/
def k4 : Class := { plain "java/lang/Cloneable" (some 0) with
  accessFlags := 1537
  interfaces := #[]
  cf := some (fileOf pool4 2 #[] #[] 1537 4 #[] #[])
  fields := #[]
  methods := #[]
  instanceTypes := #[]
  staticTypes := #[]
  resolved := Array.replicate 8 none
  statics := none }

def pool5 : Array CpInfo := pool [(1, u "java/io/Serializable"), (0, .class_ 1), (0, u "java/lang/Object"), (0, .class_ 3)] 3

/-- java/io/Serializable -/
def k5 : Class := { plain "java/io/Serializable" (some 0) with
  accessFlags := 1537
  interfaces := #[]
  cf := some (fileOf pool5 2 #[] #[] 1537 4 #[] #[])
  fields := #[]
  methods := #[]
  instanceTypes := #[]
  staticTypes := #[]
  resolved := Array.replicate 8 none
  statics := none }

/-- the primitive byte -/
def k6 : Class := { plain "byte" none with kind := .primitive 'B', accessFlags := 0x411 }
/-- [B -/
def k7 : Class := { plain "[B" (some 0) with kind := .array 6 .byte, interfaces := #[4, 5], accessFlags := 1041 }

def heap : Heap := #[]
def classes : Array Class := #[k0, k1, k2, k3, k4, k5, k6, k7]
def interned : List (Array UInt16 × Addr) := []
def slotsUsed : Nat := 0
def theMethod : MethodId := ⟨1, 2⟩
def args0 : Array Value := #[.long 5, .long 6, .long 7, .long 8, .int 5]
def aboutOver (below : List Frame) : State where
  vm := { classes := classes, interned := interned.toArray }
  heap := heap
  slotsUsed := slotsUsed
  threads := #[{ frames := .invoking theMethod args0 :: below }]
def below0 : List Frame := [.native { method := ⟨0, 0⟩, args := #[] }]
def about1 : State := aboutOver below0
def p0 : Program := .bare "" "" ""
def e0 : Env := launch0.env 0 0 0
theorem w_frames : about1.frames = Frame.invoking theMethod args0 :: below0 := rfl
set_option maxRecDepth 65536 in
theorem w_args : argsFit about1.vm theMethod args0 = true := by decide +kernel
set_option maxRecDepth 65536 in
theorem w_heap : heapFits about1 = true := by decide +kernel
set_option maxRecDepth 65536 in
theorem w_runnable : about1.curStatus? = some .runnable := by decide +kernel
set_option maxRecDepth 65536 in
theorem w_alone : about1.alone = true := by decide +kernel
set_option maxRecDepth 65536 in
theorem w_named : about1.methodNamed? x = some theMethod := by decide +kernel
set_option maxRecDepth 65536 in
theorem w_hears : about1.hears theMethod below0 = true := by decide +kernel
set_option maxRecDepth 65536 in
theorem w_ripe : about1.ripe theMethod args0 below0 = true := by decide +kernel
theorem w_running : about1.status = .running := rfl
set_option maxRecDepth 65536 in
theorem w_room : about1.hasRoom e0.platform room_1 = true :=
  launch0.hasRoom_least _ room_1 (by decide +kernel) (by decide +kernel) (by decide +kernel) (by decide +kernel) (by decide +kernel) (by decide +kernel)
theorem allAtoms_all (ts : List Jvm.Cond) (a : Array Jvm.Value) (st : Jvm.State) : (allAtoms ts).before a st = ts.all (fun c => c.before a st) := by
  induction ts with
  | nil => rfl
  | cons c t ih =>
    show (Jvm.Cond.and c (allAtoms t)).before a st = _
    rw [Jvm.Cond.before_and, ih, List.all_cons]
def words1 : List Jvm.Cond := Jvm.Cond.code x code maxLocals ret :: tables_1
/-- a 'code' word, met by the world's own term for the bytes: nothing is compared byte by byte -/
theorem code_word {y : MethodName} {bytes : ByteArray} {mx : Nat} {rt : Option FieldType} {a : Array Value} {s : State} {m : MethodId} {meth : Method} {c : Code} (h1 : s.methodNamed? y = some m) (h2 : s.vm.method? m = some meth) (h3 : meth.code = some c) (h4 : c.code = bytes)
    (h5 : (c.maxLocals == mx && c.exceptionTable.isEmpty && decide (c.maxStack ≤ mostOperands) && decide (meth.sig.returnType = rt) && !meth.locks && decide (parseMethodDescriptor y.desc = some meth.sig)) = true) : (Jvm.Cond.code y bytes mx rt).before a s = true := by
  simp only [Bool.and_eq_true, beq_iff_eq, Bool.not_eq_true', decide_eq_true_eq] at h5
  obtain ⟨⟨⟨⟨⟨g1, g2⟩, g3⟩, g4⟩, g5⟩, g6⟩ := h5
  simp [Cond.before, Cond.holds, Cond.value, h1, h2, h3, h4, g1, g2, g3, g4, g5, g6]
def isCode : Jvm.Cond → Bool
  | .code _ _ _ _ => true
  | _ => false
theorem all_split {L : List Jvm.Cond} {P : Jvm.Cond → Bool} (h1 : L.all (fun c => isCode c || P c) = true) (h2 : ∀ c ∈ L.filter isCode, P c = true) : L.all P = true := by
  refine List.all_eq_true.mpr fun c hc => ?_
  have h := List.all_eq_true.mp h1 c hc
  rcases Bool.eq_false_or_eq_true (isCode c) with hi | hi
  · exact h2 c (List.mem_filter.mpr ⟨hc, hi⟩)
  · simpa [hi] using h
set_option maxRecDepth 65536 in
theorem w_c0 : (Jvm.Cond.code x code maxLocals ret).before args0 about1 = true := code_word (m := ⟨1, 2⟩) (meth := k1m2) (c := k1c2) (by decide +kernel) rfl rfl rfl (by decide +kernel)
set_option maxRecDepth 65536 in
theorem w_c1 : (Jvm.Cond.code ({ cls := "relayout/RectIsEmptyPinLaw", name := "pick", desc := "(JJI)J" } : Jvm.MethodName) method_2_code (5 : Nat) (Option.some Jvm.ClassFile.FieldType.long)).before args0 about1 = true := code_word (m := ⟨1, 1⟩) (meth := k1m1) (c := k1c1) (by decide +kernel) rfl rfl rfl (by decide +kernel)
set_option maxRecDepth 65536 in
theorem w_c2 : (Jvm.Cond.code ({ cls := "relayout/Rect", name := "<init>", desc := "(JJJJ)V" } : Jvm.MethodName) prog_25_method_1_code (9 : Nat) (Option.none : Option Jvm.ClassFile.FieldType)).before args0 about1 = true := code_word (m := ⟨3, 0⟩) (meth := k3m0) (c := k3c0) (by decide +kernel) rfl rfl rfl (by decide +kernel)
set_option maxRecDepth 65536 in
theorem w_c3 : (Jvm.Cond.code ({ cls := "java/lang/Record", name := "<init>", desc := "()V" } : Jvm.MethodName) jdk_30_method_1_code (1 : Nat) (Option.none : Option Jvm.ClassFile.FieldType)).before args0 about1 = true := code_word (m := ⟨2, 0⟩) (meth := k2m0) (c := k2c0) (by decide +kernel) rfl rfl rfl (by decide +kernel)
set_option maxRecDepth 65536 in
theorem w_c4 : (Jvm.Cond.code ({ cls := "java/lang/Object", name := "<init>", desc := "()V" } : Jvm.MethodName) object_method_1_code (1 : Nat) (Option.none : Option Jvm.ClassFile.FieldType)).before args0 about1 = true := code_word (m := ⟨0, 0⟩) (meth := k0m0) (c := k0c0) (by decide +kernel) rfl rfl rfl (by decide +kernel)
set_option maxRecDepth 65536 in
theorem w_c5 : (Jvm.Cond.code ({ cls := "relayout/Rect", name := "isEmpty", desc := "()Z" } : Jvm.MethodName) prog_25_method_2_code (1 : Nat) (Option.some Jvm.ClassFile.FieldType.boolean)).before args0 about1 = true := code_word (m := ⟨3, 1⟩) (meth := k3m1) (c := k3c1) (by decide +kernel) rfl rfl rfl (by decide +kernel)
def codes1 : List Jvm.Cond := [Jvm.Cond.code x code maxLocals ret, Jvm.Cond.code ({ cls := "relayout/RectIsEmptyPinLaw", name := "pick", desc := "(JJI)J" } : Jvm.MethodName) method_2_code (5 : Nat) (Option.some Jvm.ClassFile.FieldType.long), Jvm.Cond.code ({ cls := "relayout/Rect", name := "<init>", desc := "(JJJJ)V" } : Jvm.MethodName) prog_25_method_1_code (9 : Nat) (Option.none : Option Jvm.ClassFile.FieldType), Jvm.Cond.code ({ cls := "java/lang/Record", name := "<init>", desc := "()V" } : Jvm.MethodName) jdk_30_method_1_code (1 : Nat) (Option.none : Option Jvm.ClassFile.FieldType), Jvm.Cond.code ({ cls := "java/lang/Object", name := "<init>", desc := "()V" } : Jvm.MethodName) object_method_1_code (1 : Nat) (Option.none : Option Jvm.ClassFile.FieldType), Jvm.Cond.code ({ cls := "relayout/Rect", name := "isEmpty", desc := "()Z" } : Jvm.MethodName) prog_25_method_2_code (1 : Nat) (Option.some Jvm.ClassFile.FieldType.boolean)]
set_option maxRecDepth 65536 in
theorem codes_eq : words1.filter isCode = codes1 := rfl
theorem w_codes : ∀ c ∈ words1.filter isCode, c.before args0 about1 = true := by
  rw [codes_eq]
  intro c hc
  simp only [codes1, List.mem_cons, List.not_mem_nil, or_false] at hc
  rcases hc with rfl | rfl | rfl | rfl | rfl | rfl
  · exact w_c0
  · exact w_c1
  · exact w_c2
  · exact w_c3
  · exact w_c4
  · exact w_c5
set_option maxRecDepth 65536 in
theorem w_t1 : (words1.take 24).all (fun c => isCode c || c.before args0 about1) = true := by decide +kernel
set_option maxRecDepth 65536 in
theorem w_t2 : (words1.drop 24).all (fun c => isCode c || c.before args0 about1) = true := by decide +kernel
theorem w_tables : (allAtoms (Jvm.Cond.code x code maxLocals ret :: tables_1)).before args0 about1 = true := by
  rw [allAtoms_all]
  show words1.all (fun c => c.before args0 about1) = true
  refine all_split ?_ w_codes
  rw [← List.take_append_drop 24 words1, List.all_append, w_t1, w_t2]
  rfl
set_option maxRecDepth 65536 in
theorem w_case : (Jvm.Cond.and given_1 narrow_1).before args0 about1 = true := by decide +kernel
theorem w_applies : (headSpec (Jvm.Cond.code x code maxLocals ret :: tables_1) room_1).applies x e0.platform about1 = true :=
  (Spec.applies_iff w_frames).mpr ⟨w_running, w_runnable, w_alone, w_named, w_hears, w_ripe, w_room, w_tables⟩
theorem atStart : AtStart classFile x code maxLocals ret World_1 tables_1 room_1 Calls_1 rest_1 Pre_1 launch0 p0 e0 about1 theMethod args0 below0 :=
  ⟨lists_1, trivial, launch0.admits_env _ _ _, launch0.least_env, fairChoices_fair.cas, fairChoices_fair.clock, w_frames, w_args, w_heap, w_applies, trivial, trivial, w_case⟩
end start1
theorem witness_1 : WitnessClaimed_1 := ⟨start1.p0, start1.e0, start1.about1, start1.theMethod, start1.args0, start1.below0, start1.atStart⟩
end Jvm.Pilot.@@N@@
