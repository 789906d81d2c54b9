import JvmDerived
import JvmDerived.Pilot.@@N@@Statement
import JvmDerived.Pilot.@@N@@Code
set_option linter.unusedVariables false
set_option linter.unusedSimpArgs false
@@BLOCK:NumsL.lean.txt@@
namespace Jvm.Pilot.@@N@@
open Jvm Jvm.ClassFile Sem Op Lib Jvm.Free Jvm.Stand Jvm.LawKit Jvm.RoadKit Bundle Jvm.Pilot.@@N@@.Jvm.D
def own_shl (x y : Int32) : Int32 := x <<< (y &&& 31)
def own_shr (x y : Int32) : Int32 := x >>> (y &&& 31)
def own_ushr (x y : Int32) : Int32 := (x.toUInt32 >>> (y &&& 31).toUInt32).toInt32
def own_shlL (x : Int64) (y : Int32) : Int64 := x <<< (y &&& 0x3f).toInt64
def own_shrL (x : Int64) (y : Int32) : Int64 := x >>> (y &&& 0x3f).toInt64
def own_ushrL (x : Int64) (y : Int32) : Int64 := (x.toUInt64 >>> (y &&& 0x3f).toInt64.toUInt64).toInt64
def own_remL (x y : Int64) : Int64 := x - (x / y) * y
section OwnKit
variable {p : Program} {l : Launch} {e : Env} {R : Room} {s : State} {m : MethodId} {args : Array Value} {below : List Frame} {meth : Method} {c : Code} {T : State} {locs : List Loc} {cells slots : Nat} {Z : State} {h h' : Heap} {a b : Addr}
theorem retI (X : Stand p l e R s m args below meth c T locs cells slots) (hx : p.tables.exec = Jvm.exec) {pc : Nat} {Ls : Array Slot} {z : Int32} {rest : List Value} (hret : meth.sig.returnType = some .int) (hd : decode c.code pc = .ok (.ireturn, 1)) {fs : List Frame}
    (hl : ∀ (f : JFrame) (acts : List Action), f.method = m → f.locked = none → f.entered = [] → (doReturn e (T.setTop f) acts (some (.int z))).1 = T.setFrames fs) : Steps p.tables e below (T.setTop (mkF m pc Ls (.int z :: rest))) (T.setFrames fs) :=
  retOut X hx hret rfl (Or.inl ⟨rfl, Or.inl rfl, _, rfl⟩) hd hl
theorem own_retJ (X : Stand p l e R s m args below meth c T locs cells slots) (hx : p.tables.exec = Jvm.exec) {pc : Nat} {Ls : Array Slot} {z : Int64} {rest : List Value} (hret : meth.sig.returnType = some .long) (hd : decode c.code pc = .ok (.lreturn, 1)) {fs : List Frame}
    (hl : ∀ (f : JFrame) (acts : List Action), f.method = m → f.locked = none → f.entered = [] → (doReturn e (T.setTop f) acts (some (.long z))).1 = T.setFrames fs) : Steps p.tables e below (T.setTop (mkF m pc Ls (.long z :: rest))) (T.setFrames fs) :=
  retOut X hx hret rfl (Or.inr (Or.inl ⟨rfl, rfl, _, rfl⟩)) hd hl
end OwnKit
theorem pn_0 : plainName "java/lang/Record" = true := by first | (simp [plainName, overriddenIn]; done) | decide +kernel
theorem d2_0 : decode jdk_30_method_1_code 0 = .ok (.aload_n 0, 1) := by decide +kernel
theorem d2_1 : decode jdk_30_method_1_code 1 = .ok (.invokespecial 1, 3) := by decide +kernel
theorem d2_4 : decode jdk_30_method_1_code 4 = .ok (.return_, 1) := by decide +kernel
theorem ef_2 (m : MethodId) (x0 : Addr) : entryFrame m #[(.ref x0)] 1 = mkF m 0 #[.val (.ref x0)] [] := by first | (simp [entryFrame, mkF, argsToLocals, Value.category]; done) | rfl
abbrev R2 : Room := { frames := 1, cells := 0, slots := 0, locals := 12 }
def Q2 (Z : State) (a2_0 : Addr) (h0 : Heap) (n0 : Nat) (v : Option Value) (h : Heap) (L : List Loc) : Prop := v = none ∧ Fr n0 L ∧ h = h0
set_option maxRecDepth 65536 in
set_option maxHeartbeats 40000000 in
theorem rm2 (l : Launch) (Z : State) (a0 : Array Value) (hw : ∀ d ∈ tables_1, d.before a0 Z = true) (ws : List Jvm.Cond) (a2_0 : Addr) (h0 : Heap) (n0 : Nat) (Z0 : n0 ≤ h0.size) :
    MetFree l (⟨"java/lang/Record", "<init>", "()V"⟩ : MethodName) (head1 (Jvm.Cond.code (⟨"java/lang/Record", "<init>", "()V"⟩ : MethodName) jdk_30_method_1_code 1 none :: ws) R2) (fun a U => a = #[(.ref a2_0)] ∧ Z.Warmed39 U.vm ∧ U.heap = h0) (fun _ _ _ _ _ => True) (fun _ U o U' => ∃ v L, o = .returned v ∧ Q2 Z a2_0 h0 n0 v U'.heap L ∧ FrameEnd U o U' L R2.cells R2.slots) := by
  refine MetFree.of_bodySF (plainFor_of_name pn_0) hisR ?_
  intro p e s m args below meth c s₁ Bd hml0 hP hK
  obtain ⟨rfl, hZ, hh⟩ := hP
  have hx := Bd.exec
  have hby := Bd.bytes
  have hml : c.maxLocals = 1 := hml0
  have hown : s.vm.findClass "java/lang/Record" = some m.cls := findClass_of_methodNamed Bd.named
  have hnm := (name_of_methodNamed Bd.named Bd.method).1
  have X0 : Stand p l e R2 s m #[(.ref a2_0)] below meth c s₁ [] 0 0 := Stand.of_body Bd
  have e0 : s₁.heap = h0 := by rw [← hh, Bd.state]; rfl
  have N0 := Fr.nil n0
  have pre0 : ∀ t, Steps p.tables e below (s₁.setTop (mkF m 0 #[.val (.ref a2_0)] [])) t → Steps p.tables e below (s₁.setTop (entryFrame m #[(.ref a2_0)] 1)) t := fun t k => castTop (ef_2 m a2_0) k
  have pre1 : ∀ t, Steps p.tables e below (s₁.setTop (mkF m 1 #[.val (.ref a2_0)] [(.ref a2_0)])) t → Steps p.tables e below (s₁.setTop (entryFrame m #[(.ref a2_0)] 1)) t := fun t k => pre0 t (by
    refine XS.aloadN X0.here hx rfl (hb hby d2_0) rfl rfl ?_
    show Steps p.tables e below (s₁.setTop (mkF m 1 #[.val (.ref a2_0)] [(.ref a2_0)])) _
    exact k)
  obtain ⟨T2, X2, e2, st2⟩ := initO X0 hx hZ hown (hw _ (List.mem_of_getElem? (i := 14) rfl)) (hw _ (List.mem_of_getElem? (i := 15) rfl)) (hw _ (List.mem_of_getElem? (i := 16) rfl)) e0 (g := (mkF m 1 #[.val (.ref a2_0)] [(.ref a2_0)])) rfl (by rw [hml]; rfl) rfl (hb hby d2_1) (by decide) (W := 0) (by show 2 * 0 + _ ≤ _; exact Nat.le_of_eq rfl) (by decide)
  have pre2 : ∀ t, Steps p.tables e below (T2.setTop (mkF m 4 #[.val (.ref a2_0)] [])) t → Steps p.tables e below (s₁.setTop (entryFrame m #[(.ref a2_0)] 1)) t := fun t k => pre1 t (st2 t k)
  obtain ⟨fs, hr, hrun, hended, hW, hsame⟩ := X2.leave (v := none) (fun _ => rfl)
  refine ⟨_, _, pre2 _ ?_, hrun, hended, _, _, rfl, ?_, ⟨_, rfl⟩, hW, hsame.mono (by decide) (by decide)⟩
  · show Steps p.tables e below (T2.setTop (mkF m 4 #[.val (.ref a2_0)] [])) _
    exact X2.returnOut hx Bd.returns (hb hby d2_4) hr
  · show Q2 Z a2_0 h0 n0 _ T2.heap _
    rw [e2]
    exact ⟨rfl, N0, rfl⟩
theorem pn_1 : plainName "jdk/internal/util/Preconditions" = true := by first | (simp [plainName, overriddenIn]; done) | decide +kernel
theorem d5_0 : decode jdk_41_method_13_code 0 = .ok (.iload_n 2, 1) := by decide +kernel
theorem d5_1 : decode jdk_41_method_13_code 1 = .ok (.iload_n 0, 1) := by decide +kernel
theorem d5_2 : decode jdk_41_method_13_code 2 = .ok (.ior, 1) := by decide +kernel
theorem d5_3 : decode jdk_41_method_13_code 3 = .ok (.iload_n 1, 1) := by decide +kernel
theorem d5_4 : decode jdk_41_method_13_code 4 = .ok (.ior, 1) := by decide +kernel
theorem d5_5 : decode jdk_41_method_13_code 5 = .ok (.ifCond .lt 10, 3) := by decide +kernel
theorem d5_8 : decode jdk_41_method_13_code 8 = .ok (.iload_n 1, 1) := by decide +kernel
theorem d5_9 : decode jdk_41_method_13_code 9 = .ok (.iload_n 2, 1) := by decide +kernel
theorem d5_10 : decode jdk_41_method_13_code 10 = .ok (.iload_n 0, 1) := by decide +kernel
theorem d5_11 : decode jdk_41_method_13_code 11 = .ok (.isub, 1) := by decide +kernel
theorem d5_12 : decode jdk_41_method_13_code 12 = .ok (.if_icmp .le 11, 3) := by decide +kernel
theorem d5_23 : decode jdk_41_method_13_code 23 = .ok (.iload_n 0, 1) := by decide +kernel
theorem d5_24 : decode jdk_41_method_13_code 24 = .ok (.ireturn, 1) := by decide +kernel
theorem ef_5 (m : MethodId) (x0 : Int32) (x1 : Int32) (x2 : Int32) : entryFrame m #[(.int x0), (.int x1), (.int x2), .null] 4 = mkF m 0 #[.val (.int x0), .val (.int x1), .val (.int x2), .val .null] [] := by first | (simp [entryFrame, mkF, argsToLocals, Value.category]; done) | rfl
abbrev R5 : Room := { frames := 0, cells := 0, slots := 0, locals := 0 }
def r5 (pa : Int32) : Int32 := pa
def Q5 (Z : State) (pa : Int32) (pb : Int32) (pc : Int32) (h0 : Heap) (n0 : Nat) (v : Option Value) (h : Heap) (L : List Loc) : Prop := v = some (.int (r5 pa)) ∧ Fr n0 L ∧ h = h0
set_option maxRecDepth 65536 in
set_option maxHeartbeats 40000000 in
theorem rm5 (l : Launch) (Z : State) (a0 : Array Value) (hw : ∀ d ∈ tables_1, d.before a0 Z = true) (ws : List Jvm.Cond) (pa : Int32) (pb : Int32) (pc : Int32) (h0 : Heap) (n0 : Nat) (Z0 : n0 ≤ h0.size) (hA : ¬ (((pc ||| pa) ||| pb) < (0 : Int32))) (hB : ¬ ((pc - pa) < pb)) :
    MetFree l (⟨"jdk/internal/util/Preconditions", "checkFromIndexSize", "(IIILjava/util/function/BiFunction;)I"⟩ : MethodName) (head1 (Jvm.Cond.code (⟨"jdk/internal/util/Preconditions", "checkFromIndexSize", "(IIILjava/util/function/BiFunction;)I"⟩ : MethodName) jdk_41_method_13_code 4 (some .int) :: ws) R5) (fun a U => a = #[(.int pa), (.int pb), (.int pc), .null] ∧ Z.Warmed39 U.vm ∧ U.heap = h0) (fun _ _ _ _ _ => True) (fun _ U o U' => ∃ v L, o = .returned v ∧ Q5 Z pa pb pc h0 n0 v U'.heap L ∧ FrameEnd U o U' L R5.cells R5.slots) := by
  refine MetFree.of_bodySF (plainFor_of_name pn_1) hisR ?_
  intro p e s m args below meth c s₁ Bd hml0 hP hK
  obtain ⟨rfl, hZ, hh⟩ := hP
  have hx := Bd.exec
  have hby := Bd.bytes
  have hml : c.maxLocals = 4 := hml0
  have hown : s.vm.findClass "jdk/internal/util/Preconditions" = some m.cls := findClass_of_methodNamed Bd.named
  have hnm := (name_of_methodNamed Bd.named Bd.method).1
  have X0 : Stand p l e R5 s m #[(.int pa), (.int pb), (.int pc), .null] below meth c s₁ [] 0 0 := Stand.of_body Bd
  have e0 : s₁.heap = h0 := by rw [← hh, Bd.state]; rfl
  have N0 := Fr.nil n0
  have pre0 : ∀ t, Steps p.tables e below (s₁.setTop (mkF m 0 #[.val (.int pa), .val (.int pb), .val (.int pc), .val .null] [])) t → Steps p.tables e below (s₁.setTop (entryFrame m #[(.int pa), (.int pb), (.int pc), .null] 4)) t := fun t k => castTop (ef_5 m pa pb pc) k
  have pre3 : ∀ t, Steps p.tables e below (s₁.setTop (mkF m 24 #[.val (.int pa), .val (.int pb), .val (.int pc), .val .null] [(.int pa)])) t → Steps p.tables e below (s₁.setTop (entryFrame m #[(.int pa), (.int pb), (.int pc), .null] 4)) t := fun t k => pre0 t (by
    refine XS.iloadN X0.here hx rfl (hb hby d5_0) rfl ?_
    show Steps p.tables e below (s₁.setTop (mkF m 1 #[.val (.int pa), .val (.int pb), .val (.int pc), .val .null] [(.int pc)])) _
    refine XS.iloadN X0.here hx rfl (hb hby d5_1) rfl ?_
    show Steps p.tables e below (s₁.setTop (mkF m 2 #[.val (.int pa), .val (.int pb), .val (.int pc), .val .null] [(.int pa), (.int pc)])) _
    refine XS.ior X0.here hx rfl (hb hby d5_2) rfl ?_
    show Steps p.tables e below (s₁.setTop (mkF m 3 #[.val (.int pa), .val (.int pb), .val (.int pc), .val .null] [(.int (pc ||| pa))])) _
    refine XS.iloadN X0.here hx rfl (hb hby d5_3) rfl ?_
    show Steps p.tables e below (s₁.setTop (mkF m 4 #[.val (.int pa), .val (.int pb), .val (.int pc), .val .null] [(.int pb), (.int (pc ||| pa))])) _
    refine XS.ior X0.here hx rfl (hb hby d5_4) rfl ?_
    show Steps p.tables e below (s₁.setTop (mkF m 5 #[.val (.int pa), .val (.int pb), .val (.int pc), .val .null] [(.int ((pc ||| pa) ||| pb))])) _
    refine XS.ifNo X0.here hx rfl (hb hby d5_5) rfl ((if0 _ _).trans (flt (show ¬ (((pc ||| pa) ||| pb) < (0 : Int32)) from hA)).1) ?_
    show Steps p.tables e below (s₁.setTop (mkF m 8 #[.val (.int pa), .val (.int pb), .val (.int pc), .val .null] [])) _
    refine XS.iloadN X0.here hx rfl (hb hby d5_8) rfl ?_
    show Steps p.tables e below (s₁.setTop (mkF m 9 #[.val (.int pa), .val (.int pb), .val (.int pc), .val .null] [(.int pb)])) _
    refine XS.iloadN X0.here hx rfl (hb hby d5_9) rfl ?_
    show Steps p.tables e below (s₁.setTop (mkF m 10 #[.val (.int pa), .val (.int pb), .val (.int pc), .val .null] [(.int pc), (.int pb)])) _
    refine XS.iloadN X0.here hx rfl (hb hby d5_10) rfl ?_
    show Steps p.tables e below (s₁.setTop (mkF m 11 #[.val (.int pa), .val (.int pb), .val (.int pc), .val .null] [(.int pa), (.int pc), (.int pb)])) _
    refine XS.isub X0.here hx rfl (hb hby d5_11) rfl ?_
    show Steps p.tables e below (s₁.setTop (mkF m 12 #[.val (.int pa), .val (.int pb), .val (.int pc), .val .null] [(.int (pc - pa)), (.int pb)])) _
    refine XS.icmpYes X0.here hx rfl (pc0 := 12) (pc' := 23) rfl (hb hby d5_12) rfl (flt (show ¬ ((pc - pa) < pb) from hB)).2.2.2 (by decide) (by decide) ?_
    show Steps p.tables e below (s₁.setTop (mkF m 23 #[.val (.int pa), .val (.int pb), .val (.int pc), .val .null] [])) _
    refine XS.iloadN X0.here hx rfl (hb hby d5_23) rfl ?_
    show Steps p.tables e below (s₁.setTop (mkF m 24 #[.val (.int pa), .val (.int pb), .val (.int pc), .val .null] [(.int pa)])) _
    exact k)
  obtain ⟨fs, hr, hrun, hended, hW, hsame⟩ := X0.leave (v := some (.int pa)) (fun h => by rw [Bd.returns] at h; cases h)
  refine ⟨_, _, pre3 _ ?_, hrun, hended, _, _, rfl, ?_, ⟨_, rfl⟩, hW, hsame.mono (by decide) (by decide)⟩
  · show Steps p.tables e below (s₁.setTop (mkF m 24 #[.val (.int pa), .val (.int pb), .val (.int pc), .val .null] [(.int pa)])) _
    exact retI X0 hx Bd.returns (hb hby d5_24) hr
  · show Q5 Z pa pb pc h0 n0 _ s₁.heap _
    rw [e0]
    exact ⟨rfl, N0, rfl⟩
theorem pn_2 : plainName "java/util/Objects" = true := by first | (simp [plainName, overriddenIn]; done) | decide +kernel
theorem pd_0 : parseMethodDescriptor "(IIILjava/util/function/BiFunction;)I" = some ⟨[.int, .int, .int, (.object "java/util/function/BiFunction")], some .int⟩ := by decide +kernel
theorem d4_0 : decode jdk_31_method_19_code 0 = .ok (.iload_n 0, 1) := by decide +kernel
theorem d4_1 : decode jdk_31_method_19_code 1 = .ok (.iload_n 1, 1) := by decide +kernel
theorem d4_2 : decode jdk_31_method_19_code 2 = .ok (.iload_n 2, 1) := by decide +kernel
theorem d4_3 : decode jdk_31_method_19_code 3 = .ok (.aconst_null, 1) := by decide +kernel
theorem d4_4 : decode jdk_31_method_19_code 4 = .ok (.invokestatic 115, 3) := by decide +kernel
theorem d4_7 : decode jdk_31_method_19_code 7 = .ok (.ireturn, 1) := by decide +kernel
theorem ef_4 (m : MethodId) (x0 : Int32) (x1 : Int32) (x2 : Int32) : entryFrame m #[(.int x0), (.int x1), (.int x2)] 3 = mkF m 0 #[.val (.int x0), .val (.int x1), .val (.int x2)] [] := by first | (simp [entryFrame, mkF, argsToLocals, Value.category]; done) | rfl
abbrev R4 : Room := { frames := 1, cells := 0, slots := 0, locals := 15 }
def r4 (pa : Int32) : Int32 := (r5 pa)
def Q4 (Z : State) (pa : Int32) (pb : Int32) (pc : Int32) (h0 : Heap) (n0 : Nat) (v : Option Value) (h : Heap) (L : List Loc) : Prop := v = some (.int (r4 pa)) ∧ Fr n0 L ∧ h = h0
set_option maxRecDepth 65536 in
set_option maxHeartbeats 40000000 in
theorem rm4 (l : Launch) (Z : State) (a0 : Array Value) (hw : ∀ d ∈ tables_1, d.before a0 Z = true) (ws : List Jvm.Cond) (pa : Int32) (pb : Int32) (pc : Int32) (h0 : Heap) (n0 : Nat) (Z0 : n0 ≤ h0.size) (hA : ¬ (((pc ||| pa) ||| pb) < (0 : Int32))) (hB : ¬ ((pc - pa) < pb)) :
    MetFree l (⟨"java/util/Objects", "checkFromIndexSize", "(III)I"⟩ : MethodName) (head1 (Jvm.Cond.code (⟨"java/util/Objects", "checkFromIndexSize", "(III)I"⟩ : MethodName) jdk_31_method_19_code 3 (some .int) :: ws) R4) (fun a U => a = #[(.int pa), (.int pb), (.int pc)] ∧ Z.Warmed39 U.vm ∧ U.heap = h0) (fun _ _ _ _ _ => True) (fun _ U o U' => ∃ v L, o = .returned v ∧ Q4 Z pa pb pc h0 n0 v U'.heap L ∧ FrameEnd U o U' L R4.cells R4.slots) := by
  refine MetFree.of_bodySF (plainFor_of_name pn_2) hisR ?_
  intro p e s m args below meth c s₁ Bd hml0 hP hK
  obtain ⟨rfl, hZ, hh⟩ := hP
  have hx := Bd.exec
  have hby := Bd.bytes
  have hml : c.maxLocals = 3 := hml0
  have hown : s.vm.findClass "java/util/Objects" = some m.cls := findClass_of_methodNamed Bd.named
  have hnm := (name_of_methodNamed Bd.named Bd.method).1
  have X0 : Stand p l e R4 s m #[(.int pa), (.int pb), (.int pc)] below meth c s₁ [] 0 0 := Stand.of_body Bd
  have e0 : s₁.heap = h0 := by rw [← hh, Bd.state]; rfl
  have N0 := Fr.nil n0
  have pre0 : ∀ t, Steps p.tables e below (s₁.setTop (mkF m 0 #[.val (.int pa), .val (.int pb), .val (.int pc)] [])) t → Steps p.tables e below (s₁.setTop (entryFrame m #[(.int pa), (.int pb), (.int pc)] 3)) t := fun t k => castTop (ef_4 m pa pb pc) k
  have pre1 : ∀ t, Steps p.tables e below (s₁.setTop (mkF m 4 #[.val (.int pa), .val (.int pb), .val (.int pc)] [.null, (.int pc), (.int pb), (.int pa)])) t → Steps p.tables e below (s₁.setTop (entryFrame m #[(.int pa), (.int pb), (.int pc)] 3)) t := fun t k => pre0 t (by
    refine XS.iloadN X0.here hx rfl (hb hby d4_0) rfl ?_
    show Steps p.tables e below (s₁.setTop (mkF m 1 #[.val (.int pa), .val (.int pb), .val (.int pc)] [(.int pa)])) _
    refine XS.iloadN X0.here hx rfl (hb hby d4_1) rfl ?_
    show Steps p.tables e below (s₁.setTop (mkF m 2 #[.val (.int pa), .val (.int pb), .val (.int pc)] [(.int pb), (.int pa)])) _
    refine XS.iloadN X0.here hx rfl (hb hby d4_2) rfl ?_
    show Steps p.tables e below (s₁.setTop (mkF m 3 #[.val (.int pa), .val (.int pb), .val (.int pc)] [(.int pc), (.int pb), (.int pa)])) _
    refine XS.aconstNull X0.here hx rfl (hb hby d4_3) ?_
    show Steps p.tables e below (s₁.setTop (mkF m 4 #[.val (.int pa), .val (.int pb), .val (.int pc)] [.null, (.int pc), (.int pb), (.int pa)])) _
    exact k)
  obtain ⟨_, _, ⟨T2, L2, k2, n2⟩, -, X2, ⟨Lc2, hQ2, l2, y2, z2⟩, st2⟩ := Jvm.LawKit.callS X0 hx (y := (⟨"jdk/internal/util/Preconditions", "checkFromIndexSize", "(IIILjava/util/function/BiFunction;)I"⟩ : MethodName)) hown (mvT hZ (hw _ (List.mem_of_getElem? (i := 22) rfl))) (mvT hZ (hw _ (List.mem_of_getElem? (i := 23) rfl))) (mvT hZ (hw _ (List.mem_of_getElem? (i := 24) rfl))) (mvT hZ (hw _ (List.mem_of_getElem? (i := 25) rfl))) (by decide) (backOf (W := 0) (rm5 l Z a0 hw [] pa pb pc h0 n0 Z0 hA hB) hZ (hw _ (List.mem_of_getElem? (i := 25) rfl)) (hw _ (List.mem_of_getElem? (i := 24) rfl)) (by decide) (by decide)) (g := (mkF m 4 #[.val (.int pa), .val (.int pb), .val (.int pc)] [.null, (.int pc), (.int pb), (.int pa)])) rfl (by rw [hml]; rfl) (argsL := [(.int pa), (.int pb), (.int pc), .null]) (rest := []) (lenOf pd_0 rfl) rfl (by show 2 * 0 + _ ≤ _; exact Nat.le_of_eq rfl) (hb hby d4_4) (fun _ _ => ⟨rfl, e0, (by decide : 0 + 0 ≤ _), (by decide : 0 + 0 ≤ _)⟩)
  dsimp only [Pt.U, Pt.locs, Pt.cells, Pt.slots] at X2 l2 y2 z2 st2 hQ2
  subst l2 y2 z2
  obtain ⟨rfl, M2, e2⟩ := hQ2
  have N2 := Fr.app N0 M2
  have pre2 : ∀ t, Steps p.tables e below (T2.setTop (mkF m 7 #[.val (.int pa), .val (.int pb), .val (.int pc)] [(.int (r5 pa))])) t → Steps p.tables e below (s₁.setTop (entryFrame m #[(.int pa), (.int pb), (.int pc)] 3)) t := fun t k => pre1 t (st2 t k)
  obtain ⟨fs, hr, hrun, hended, hW, hsame⟩ := X2.leave (v := some (.int (r5 pa))) (fun h => by rw [Bd.returns] at h; cases h)
  refine ⟨_, _, pre2 _ ?_, hrun, hended, _, _, rfl, ?_, ⟨_, rfl⟩, hW, hsame.mono (by decide) (by decide)⟩
  · show Steps p.tables e below (T2.setTop (mkF m 7 #[.val (.int pa), .val (.int pb), .val (.int pc)] [(.int (r5 pa))])) _
    exact retI X2 hx Bd.returns (hb hby d4_7) hr
  · show Q4 Z pa pb pc h0 n0 _ T2.heap _
    rw [e2]
    exact ⟨rfl, N2, rfl⟩
theorem pn_3 : plainName "com/example/rowforge/rowforge/core/Notice$RangeMoved" = true := by first | (simp [plainName, overriddenIn]; done) | decide +kernel
theorem pd_1 : parseMethodDescriptor "()V" = some ⟨[], none⟩ := by decide +kernel
theorem pd_2 : parseMethodDescriptor "(III)I" = some ⟨[.int, .int, .int], some .int⟩ := by decide +kernel
theorem d1_0 : decode prog_41_method_1_code 0 = .ok (.aload_n 0, 1) := by decide +kernel
theorem d1_1 : decode prog_41_method_1_code 1 = .ok (.invokespecial 1, 3) := by decide +kernel
theorem d1_4 : decode prog_41_method_1_code 4 = .ok (.iload_n 1, 1) := by decide +kernel
theorem d1_5 : decode prog_41_method_1_code 5 = .ok (.iload_n 3, 1) := by decide +kernel
theorem d1_6 : decode prog_41_method_1_code 6 = .ok (.ldc 9, 2) := by decide +kernel
theorem d1_8 : decode prog_41_method_1_code 8 = .ok (.invokestatic 10, 3) := by decide +kernel
theorem d1_11 : decode prog_41_method_1_code 11 = .ok (.pop, 1) := by decide +kernel
theorem d1_12 : decode prog_41_method_1_code 12 = .ok (.iload_n 2, 1) := by decide +kernel
theorem d1_13 : decode prog_41_method_1_code 13 = .ok (.iload_n 3, 1) := by decide +kernel
theorem d1_14 : decode prog_41_method_1_code 14 = .ok (.ldc 9, 2) := by decide +kernel
theorem d1_16 : decode prog_41_method_1_code 16 = .ok (.invokestatic 10, 3) := by decide +kernel
theorem d1_19 : decode prog_41_method_1_code 19 = .ok (.pop, 1) := by decide +kernel
theorem d1_20 : decode prog_41_method_1_code 20 = .ok (.aload_n 0, 1) := by decide +kernel
theorem d1_21 : decode prog_41_method_1_code 21 = .ok (.iload_n 1, 1) := by decide +kernel
theorem d1_22 : decode prog_41_method_1_code 22 = .ok (.putfield 16, 3) := by decide +kernel
theorem d1_25 : decode prog_41_method_1_code 25 = .ok (.aload_n 0, 1) := by decide +kernel
theorem d1_26 : decode prog_41_method_1_code 26 = .ok (.iload_n 2, 1) := by decide +kernel
theorem d1_27 : decode prog_41_method_1_code 27 = .ok (.putfield 22, 3) := by decide +kernel
theorem d1_30 : decode prog_41_method_1_code 30 = .ok (.aload_n 0, 1) := by decide +kernel
theorem d1_31 : decode prog_41_method_1_code 31 = .ok (.iload_n 3, 1) := by decide +kernel
theorem d1_32 : decode prog_41_method_1_code 32 = .ok (.putfield 25, 3) := by decide +kernel
theorem d1_35 : decode prog_41_method_1_code 35 = .ok (.return_, 1) := by decide +kernel
theorem ef_1 (m : MethodId) (x0 : Addr) (x1 : Int32) (x2 : Int32) (x3 : Int32) : entryFrame m #[(.ref x0), (.int x1), (.int x2), (.int x3)] 4 = mkF m 0 #[.val (.ref x0), .val (.int x1), .val (.int x2), .val (.int x3)] [] := by first | (simp [entryFrame, mkF, argsToLocals, Value.category]; done) | rfl
abbrev R1 : Room := { frames := 2, cells := 0, slots := 0, locals := 29 }
def Q1 (Z : State) (a0x : Addr) (pf : Int32) (pt : Int32) (pc : Int32) (w1_from : Int32) (w1_to : Int32) (w1_count : Int32) (h0 : Heap) (n0 : Nat) (v : Option Value) (h : Heap) (L : List Loc) : Prop := v = none ∧ Fr n0 L ∧ Keep h0 h [a0x] ∧ Fld Z h a0x "com/example/rowforge/rowforge/core/Notice$RangeMoved" "from" "I" (.int pf) ∧ Fld Z h a0x "com/example/rowforge/rowforge/core/Notice$RangeMoved" "to" "I" (.int pt) ∧ Fld Z h a0x "com/example/rowforge/rowforge/core/Notice$RangeMoved" "count" "I" (.int pc)
set_option maxRecDepth 65536 in
set_option maxHeartbeats 40000000 in
theorem rm1 (l : Launch) (Z : State) (a0 : Array Value) (hw : ∀ d ∈ tables_1, d.before a0 Z = true) (ws : List Jvm.Cond) (a0x : Addr) (pf : Int32) (pt : Int32) (pc : Int32) (w1_from : Int32) (w1_to : Int32) (w1_count : Int32) (h0 : Heap) (n0 : Nat) (Z0 : n0 ≤ h0.size) (hA1 : ¬ ((((2147483647 : Int32) ||| pf) ||| pc) < (0 : Int32))) (hB1 : ¬ (((2147483647 : Int32) - pf) < pc)) (hA2 : ¬ ((((2147483647 : Int32) ||| pt) ||| pc) < (0 : Int32))) (hB2 : ¬ (((2147483647 : Int32) - pt) < pc)) (E_a0x : Exa Z h0 a0x "com/example/rowforge/rowforge/core/Notice$RangeMoved") (F_from_a0x : Fld Z h0 a0x "com/example/rowforge/rowforge/core/Notice$RangeMoved" "from" "I" (.int w1_from)) (F_to_a0x : Fld Z h0 a0x "com/example/rowforge/rowforge/core/Notice$RangeMoved" "to" "I" (.int w1_to)) (F_count_a0x : Fld Z h0 a0x "com/example/rowforge/rowforge/core/Notice$RangeMoved" "count" "I" (.int w1_count)) (g_a0x : n0 ≤ a0x) :
    MetFree l (⟨"com/example/rowforge/rowforge/core/Notice$RangeMoved", "<init>", "(III)V"⟩ : MethodName) (head1 (Jvm.Cond.code (⟨"com/example/rowforge/rowforge/core/Notice$RangeMoved", "<init>", "(III)V"⟩ : MethodName) prog_41_method_1_code 4 none :: ws) R1) (fun a U => a = #[(.ref a0x), (.int pf), (.int pt), (.int pc)] ∧ Z.Warmed39 U.vm ∧ U.heap = h0) (fun _ _ _ _ _ => True) (fun _ U o U' => ∃ v L, o = .returned v ∧ Q1 Z a0x pf pt pc w1_from w1_to w1_count h0 n0 v U'.heap L ∧ FrameEnd U o U' L R1.cells R1.slots) := by
  refine MetFree.of_bodySF (plainFor_of_name pn_3) hisR ?_
  intro p e s m args below meth c s₁ Bd hml0 hP hK
  obtain ⟨rfl, hZ, hh⟩ := hP
  have hx := Bd.exec
  have hby := Bd.bytes
  have hml : c.maxLocals = 4 := hml0
  have hown : s.vm.findClass "com/example/rowforge/rowforge/core/Notice$RangeMoved" = some m.cls := findClass_of_methodNamed Bd.named
  have hnm := (name_of_methodNamed Bd.named Bd.method).1
  have X0 : Stand p l e R1 s m #[(.ref a0x), (.int pf), (.int pt), (.int pc)] below meth c s₁ [] 0 0 := Stand.of_body Bd
  have e0 : s₁.heap = h0 := by rw [← hh, Bd.state]; rfl
  have N0 := Fr.nil n0
  have pre0 : ∀ t, Steps p.tables e below (s₁.setTop (mkF m 0 #[.val (.ref a0x), .val (.int pf), .val (.int pt), .val (.int pc)] [])) t → Steps p.tables e below (s₁.setTop (entryFrame m #[(.ref a0x), (.int pf), (.int pt), (.int pc)] 4)) t := fun t k => castTop (ef_1 m a0x pf pt pc) k
  have pre1 : ∀ t, Steps p.tables e below (s₁.setTop (mkF m 1 #[.val (.ref a0x), .val (.int pf), .val (.int pt), .val (.int pc)] [(.ref a0x)])) t → Steps p.tables e below (s₁.setTop (entryFrame m #[(.ref a0x), (.int pf), (.int pt), (.int pc)] 4)) t := fun t k => pre0 t (by
    refine XS.aloadN X0.here hx rfl (hb hby d1_0) rfl rfl ?_
    show Steps p.tables e below (s₁.setTop (mkF m 1 #[.val (.ref a0x), .val (.int pf), .val (.int pt), .val (.int pc)] [(.ref a0x)])) _
    exact k)
  obtain ⟨_, _, ⟨T2, L2, k2, n2⟩, -, X2, ⟨Lc2, hQ2, l2, y2, z2⟩, st2⟩ := X0.specialBack hx (y := (⟨"java/lang/Record", "<init>", "()V"⟩ : MethodName)) rfl hown (mvT hZ (hw _ (List.mem_of_getElem? (i := 9) rfl))) (mvT hZ (hw _ (List.mem_of_getElem? (i := 10) rfl))) (mvT hZ (hw _ (List.mem_of_getElem? (i := 13) rfl))) (by decide) (backOf (W := 0) (rm2 l Z a0 hw [] a0x h0 n0 Z0 ) hZ (hw _ (List.mem_of_getElem? (i := 13) rfl)) (hw _ (List.mem_of_getElem? (i := 12) rfl)) (by decide) (by decide)) (g := (mkF m 1 #[.val (.ref a0x), .val (.int pf), .val (.int pt), .val (.int pc)] [(.ref a0x)])) rfl (by rw [hml]; rfl) (Steps.refl _) (a := a0x) (argsL := []) (rest := []) (lenOf pd_1 rfl) rfl (by show 2 * 0 + _ ≤ _; exact Nat.le_of_eq rfl) (hb hby d1_1) (fun _ _ => ⟨rfl, e0, (by decide : 0 + 0 ≤ _), (by decide : 0 + 0 ≤ _)⟩)
  dsimp only [Pt.U, Pt.locs, Pt.cells, Pt.slots] at X2 l2 y2 z2 st2 hQ2
  subst l2 y2 z2
  obtain ⟨rfl, M2, e2⟩ := hQ2
  have N2 := Fr.app N0 M2
  have pre2 : ∀ t, Steps p.tables e below (T2.setTop (mkF m 4 #[.val (.ref a0x), .val (.int pf), .val (.int pt), .val (.int pc)] [])) t → Steps p.tables e below (s₁.setTop (entryFrame m #[(.ref a0x), (.int pf), (.int pt), (.int pc)] 4)) t := fun t k => pre1 t (st2.trans k)
  have pre3 : ∀ t, Steps p.tables e below (T2.setTop (mkF m 8 #[.val (.ref a0x), .val (.int pf), .val (.int pt), .val (.int pc)] [(.int (2147483647 : Int32)), (.int pc), (.int pf)])) t → Steps p.tables e below (s₁.setTop (entryFrame m #[(.ref a0x), (.int pf), (.int pt), (.int pc)] 4)) t := fun t k => pre2 t (by
    refine XS.iloadN X2.here hx rfl (hb hby d1_4) rfl ?_
    show Steps p.tables e below (T2.setTop (mkF m 5 #[.val (.ref a0x), .val (.int pf), .val (.int pt), .val (.int pc)] [(.int pf)])) _
    refine XS.iloadN X2.here hx rfl (hb hby d1_5) rfl ?_
    show Steps p.tables e below (T2.setTop (mkF m 6 #[.val (.ref a0x), .val (.int pf), .val (.int pt), .val (.int pc)] [(.int pc), (.int pf)])) _
    refine X2.ldcInt hx hown (mvT hZ (hw _ (List.mem_of_getElem? (i := 17) rfl))) (g := (mkF m 6 #[.val (.ref a0x), .val (.int pf), .val (.int pt), .val (.int pc)] [(.int pc), (.int pf)])) rfl (hb hby d1_6) _ ?_
    show Steps p.tables e below (T2.setTop (mkF m 8 #[.val (.ref a0x), .val (.int pf), .val (.int pt), .val (.int pc)] [(.int (2147483647 : Int32)), (.int pc), (.int pf)])) _
    exact k)
  obtain ⟨_, _, ⟨T4, L4, k4, n4⟩, -, X4, ⟨Lc4, hQ4, l4, y4, z4⟩, st4⟩ := Jvm.LawKit.callS X2 hx (y := (⟨"java/util/Objects", "checkFromIndexSize", "(III)I"⟩ : MethodName)) hown (mvT hZ (hw _ (List.mem_of_getElem? (i := 18) rfl))) (mvT hZ (hw _ (List.mem_of_getElem? (i := 19) rfl))) (mvT hZ (hw _ (List.mem_of_getElem? (i := 20) rfl))) (mvT hZ (hw _ (List.mem_of_getElem? (i := 21) rfl))) (by decide) (backOf (W := 0) (rm4 l Z a0 hw [] pf pc (2147483647 : Int32) h0 n0 Z0 hA1 hB1) hZ (hw _ (List.mem_of_getElem? (i := 21) rfl)) (hw _ (List.mem_of_getElem? (i := 20) rfl)) (by decide) (by decide)) (g := (mkF m 8 #[.val (.ref a0x), .val (.int pf), .val (.int pt), .val (.int pc)] [(.int (2147483647 : Int32)), (.int pc), (.int pf)])) rfl (by rw [hml]; rfl) (argsL := [(.int pf), (.int pc), (.int (2147483647 : Int32))]) (rest := []) (lenOf pd_2 rfl) rfl (by show 2 * 0 + _ ≤ _; exact Nat.le_of_eq rfl) (hb hby d1_8) (fun _ _ => ⟨rfl, e2, (by decide : 0 + 0 ≤ _), (by decide : 0 + 0 ≤ _)⟩)
  dsimp only [Pt.U, Pt.locs, Pt.cells, Pt.slots] at X4 l4 y4 z4 st4 hQ4
  subst l4 y4 z4
  obtain ⟨rfl, M4, e4⟩ := hQ4
  have N4 := Fr.app N2 M4
  have pre4 : ∀ t, Steps p.tables e below (T4.setTop (mkF m 11 #[.val (.ref a0x), .val (.int pf), .val (.int pt), .val (.int pc)] [(.int (r4 pf))])) t → Steps p.tables e below (s₁.setTop (entryFrame m #[(.ref a0x), (.int pf), (.int pt), (.int pc)] 4)) t := fun t k => pre3 t (st4 t k)
  have pre5 : ∀ t, Steps p.tables e below (T4.setTop (mkF m 16 #[.val (.ref a0x), .val (.int pf), .val (.int pt), .val (.int pc)] [(.int (2147483647 : Int32)), (.int pc), (.int pt)])) t → Steps p.tables e below (s₁.setTop (entryFrame m #[(.ref a0x), (.int pf), (.int pt), (.int pc)] 4)) t := fun t k => pre4 t (by
    refine XS.pop X4.here hx rfl (hb hby d1_11) rfl rfl ?_
    show Steps p.tables e below (T4.setTop (mkF m 12 #[.val (.ref a0x), .val (.int pf), .val (.int pt), .val (.int pc)] [])) _
    refine XS.iloadN X4.here hx rfl (hb hby d1_12) rfl ?_
    show Steps p.tables e below (T4.setTop (mkF m 13 #[.val (.ref a0x), .val (.int pf), .val (.int pt), .val (.int pc)] [(.int pt)])) _
    refine XS.iloadN X4.here hx rfl (hb hby d1_13) rfl ?_
    show Steps p.tables e below (T4.setTop (mkF m 14 #[.val (.ref a0x), .val (.int pf), .val (.int pt), .val (.int pc)] [(.int pc), (.int pt)])) _
    refine X4.ldcInt hx hown (mvT hZ (hw _ (List.mem_of_getElem? (i := 17) rfl))) (g := (mkF m 14 #[.val (.ref a0x), .val (.int pf), .val (.int pt), .val (.int pc)] [(.int pc), (.int pt)])) rfl (hb hby d1_14) _ ?_
    show Steps p.tables e below (T4.setTop (mkF m 16 #[.val (.ref a0x), .val (.int pf), .val (.int pt), .val (.int pc)] [(.int (2147483647 : Int32)), (.int pc), (.int pt)])) _
    exact k)
  obtain ⟨_, _, ⟨T6, L6, k6, n6⟩, -, X6, ⟨Lc6, hQ6, l6, y6, z6⟩, st6⟩ := Jvm.LawKit.callS X4 hx (y := (⟨"java/util/Objects", "checkFromIndexSize", "(III)I"⟩ : MethodName)) hown (mvT hZ (hw _ (List.mem_of_getElem? (i := 18) rfl))) (mvT hZ (hw _ (List.mem_of_getElem? (i := 19) rfl))) (mvT hZ (hw _ (List.mem_of_getElem? (i := 20) rfl))) (mvT hZ (hw _ (List.mem_of_getElem? (i := 21) rfl))) (by decide) (backOf (W := 0) (rm4 l Z a0 hw [] pt pc (2147483647 : Int32) h0 n0 Z0 hA2 hB2) hZ (hw _ (List.mem_of_getElem? (i := 21) rfl)) (hw _ (List.mem_of_getElem? (i := 20) rfl)) (by decide) (by decide)) (g := (mkF m 16 #[.val (.ref a0x), .val (.int pf), .val (.int pt), .val (.int pc)] [(.int (2147483647 : Int32)), (.int pc), (.int pt)])) rfl (by rw [hml]; rfl) (argsL := [(.int pt), (.int pc), (.int (2147483647 : Int32))]) (rest := []) (lenOf pd_2 rfl) rfl (by show 2 * 0 + _ ≤ _; exact Nat.le_of_eq rfl) (hb hby d1_16) (fun _ _ => ⟨rfl, e4, (by decide : 0 + 0 ≤ _), (by decide : 0 + 0 ≤ _)⟩)
  dsimp only [Pt.U, Pt.locs, Pt.cells, Pt.slots] at X6 l6 y6 z6 st6 hQ6
  subst l6 y6 z6
  obtain ⟨rfl, M6, e6⟩ := hQ6
  have N6 := Fr.app N4 M6
  have pre6 : ∀ t, Steps p.tables e below (T6.setTop (mkF m 19 #[.val (.ref a0x), .val (.int pf), .val (.int pt), .val (.int pc)] [(.int (r4 pt))])) t → Steps p.tables e below (s₁.setTop (entryFrame m #[(.ref a0x), (.int pf), (.int pt), (.int pc)] 4)) t := fun t k => pre5 t (st6 t k)
  have pre7 : ∀ t, Steps p.tables e below (T6.setTop (mkF m 22 #[.val (.ref a0x), .val (.int pf), .val (.int pt), .val (.int pc)] [(.int pf), (.ref a0x)])) t → Steps p.tables e below (s₁.setTop (entryFrame m #[(.ref a0x), (.int pf), (.int pt), (.int pc)] 4)) t := fun t k => pre6 t (by
    refine XS.pop X6.here hx rfl (hb hby d1_19) rfl rfl ?_
    show Steps p.tables e below (T6.setTop (mkF m 20 #[.val (.ref a0x), .val (.int pf), .val (.int pt), .val (.int pc)] [])) _
    refine XS.aloadN X6.here hx rfl (hb hby d1_20) rfl rfl ?_
    show Steps p.tables e below (T6.setTop (mkF m 21 #[.val (.ref a0x), .val (.int pf), .val (.int pt), .val (.int pc)] [(.ref a0x)])) _
    refine XS.iloadN X6.here hx rfl (hb hby d1_21) rfl ?_
    show Steps p.tables e below (T6.setTop (mkF m 22 #[.val (.ref a0x), .val (.int pf), .val (.int pt), .val (.int pc)] [(.int pf), (.ref a0x)])) _
    exact k)
  obtain ⟨T8, h8, X8, e8, W8, st8⟩ := putF X6 hx hZ hown (host := "") (Or.inl (hw _ (List.mem_of_getElem? (i := 26) rfl))) Via.refl e6 F_from_a0x E_a0x (Or.inr ⟨(hw _ (List.mem_of_getElem? (i := 27) rfl)), rfl, hnm⟩) (hw _ (List.mem_of_getElem? (i := 4) rfl)) (ty := .int) (by decide) rfl rfl (g := (mkF m 22 #[.val (.ref a0x), .val (.int pf), .val (.int pt), .val (.int pc)] [(.int pf), (.ref a0x)])) rfl rfl (hb hby d1_22)
  have Ex9 : Exa Z h8 a0x "com/example/rowforge/rowforge/core/Notice$RangeMoved" := E_a0x.wr W8
  have F10 : Fld Z h8 a0x "com/example/rowforge/rowforge/core/Notice$RangeMoved" "to" "I" (.int w1_to) := F_to_a0x.other W8 (Or.inr (slot_ne (Or.inr (hw _ (List.mem_of_getElem? (i := 29) rfl))) (Or.inr (hw _ (List.mem_of_getElem? (i := 27) rfl))) (by decide) (t := .int) (t' := .int) (by decide) (by decide)))
  have F11 : Fld Z h8 a0x "com/example/rowforge/rowforge/core/Notice$RangeMoved" "count" "I" (.int w1_count) := F_count_a0x.other W8 (Or.inr (slot_ne (Or.inr (hw _ (List.mem_of_getElem? (i := 31) rfl))) (Or.inr (hw _ (List.mem_of_getElem? (i := 27) rfl))) (by decide) (t := .int) (t' := .int) (by decide) (by decide)))
  have N8 := Fr.snoc X8 N6 g_a0x
  have Z8 : n0 ≤ h8.size := Nat.le_trans Z0 (Keep.of_wr W8).1
  have K8 : Keep h0 h8 [a0x] := (Keep.refl h0 [a0x]).wr W8 (Or.inl (by simp))
  have F12 : Fld Z h8 a0x "com/example/rowforge/rowforge/core/Notice$RangeMoved" "from" "I" (.int pf) := F_from_a0x.same W8
  have pre8 : ∀ t, Steps p.tables e below (T8.setTop (mkF m 25 #[.val (.ref a0x), .val (.int pf), .val (.int pt), .val (.int pc)] [])) t → Steps p.tables e below (s₁.setTop (entryFrame m #[(.ref a0x), (.int pf), (.int pt), (.int pc)] 4)) t := fun t k => pre7 t (st8 t k)
  have pre13 : ∀ t, Steps p.tables e below (T8.setTop (mkF m 27 #[.val (.ref a0x), .val (.int pf), .val (.int pt), .val (.int pc)] [(.int pt), (.ref a0x)])) t → Steps p.tables e below (s₁.setTop (entryFrame m #[(.ref a0x), (.int pf), (.int pt), (.int pc)] 4)) t := fun t k => pre8 t (by
    refine XS.aloadN X8.here hx rfl (hb hby d1_25) rfl rfl ?_
    show Steps p.tables e below (T8.setTop (mkF m 26 #[.val (.ref a0x), .val (.int pf), .val (.int pt), .val (.int pc)] [(.ref a0x)])) _
    refine XS.iloadN X8.here hx rfl (hb hby d1_26) rfl ?_
    show Steps p.tables e below (T8.setTop (mkF m 27 #[.val (.ref a0x), .val (.int pf), .val (.int pt), .val (.int pc)] [(.int pt), (.ref a0x)])) _
    exact k)
  obtain ⟨T14, h14, X14, e14, W14, st14⟩ := putF X8 hx hZ hown (host := "") (Or.inl (hw _ (List.mem_of_getElem? (i := 28) rfl))) Via.refl e8 F10 Ex9 (Or.inr ⟨(hw _ (List.mem_of_getElem? (i := 29) rfl)), rfl, hnm⟩) (hw _ (List.mem_of_getElem? (i := 4) rfl)) (ty := .int) (by decide) rfl rfl (g := (mkF m 27 #[.val (.ref a0x), .val (.int pf), .val (.int pt), .val (.int pc)] [(.int pt), (.ref a0x)])) rfl rfl (hb hby d1_27)
  have Ex15 : Exa Z h14 a0x "com/example/rowforge/rowforge/core/Notice$RangeMoved" := Ex9.wr W14
  have F16 : Fld Z h14 a0x "com/example/rowforge/rowforge/core/Notice$RangeMoved" "from" "I" (.int pf) := F12.other W14 (Or.inr (slot_ne (Or.inr (hw _ (List.mem_of_getElem? (i := 27) rfl))) (Or.inr (hw _ (List.mem_of_getElem? (i := 29) rfl))) (by decide) (t := .int) (t' := .int) (by decide) (by decide)))
  have F17 : Fld Z h14 a0x "com/example/rowforge/rowforge/core/Notice$RangeMoved" "count" "I" (.int w1_count) := F11.other W14 (Or.inr (slot_ne (Or.inr (hw _ (List.mem_of_getElem? (i := 31) rfl))) (Or.inr (hw _ (List.mem_of_getElem? (i := 29) rfl))) (by decide) (t := .int) (t' := .int) (by decide) (by decide)))
  have N14 := Fr.snoc X14 N8 g_a0x
  have Z14 : n0 ≤ h14.size := Nat.le_trans Z8 (Keep.of_wr W14).1
  have K14 : Keep h0 h14 [a0x] := (K8).wr W14 (Or.inl (by simp))
  have F18 : Fld Z h14 a0x "com/example/rowforge/rowforge/core/Notice$RangeMoved" "to" "I" (.int pt) := F10.same W14
  have pre14 : ∀ t, Steps p.tables e below (T14.setTop (mkF m 30 #[.val (.ref a0x), .val (.int pf), .val (.int pt), .val (.int pc)] [])) t → Steps p.tables e below (s₁.setTop (entryFrame m #[(.ref a0x), (.int pf), (.int pt), (.int pc)] 4)) t := fun t k => pre13 t (st14 t k)
  have pre19 : ∀ t, Steps p.tables e below (T14.setTop (mkF m 32 #[.val (.ref a0x), .val (.int pf), .val (.int pt), .val (.int pc)] [(.int pc), (.ref a0x)])) t → Steps p.tables e below (s₁.setTop (entryFrame m #[(.ref a0x), (.int pf), (.int pt), (.int pc)] 4)) t := fun t k => pre14 t (by
    refine XS.aloadN X14.here hx rfl (hb hby d1_30) rfl rfl ?_
    show Steps p.tables e below (T14.setTop (mkF m 31 #[.val (.ref a0x), .val (.int pf), .val (.int pt), .val (.int pc)] [(.ref a0x)])) _
    refine XS.iloadN X14.here hx rfl (hb hby d1_31) rfl ?_
    show Steps p.tables e below (T14.setTop (mkF m 32 #[.val (.ref a0x), .val (.int pf), .val (.int pt), .val (.int pc)] [(.int pc), (.ref a0x)])) _
    exact k)
  obtain ⟨T20, h20, X20, e20, W20, st20⟩ := putF X14 hx hZ hown (host := "") (Or.inl (hw _ (List.mem_of_getElem? (i := 30) rfl))) Via.refl e14 F17 Ex15 (Or.inr ⟨(hw _ (List.mem_of_getElem? (i := 31) rfl)), rfl, hnm⟩) (hw _ (List.mem_of_getElem? (i := 4) rfl)) (ty := .int) (by decide) rfl rfl (g := (mkF m 32 #[.val (.ref a0x), .val (.int pf), .val (.int pt), .val (.int pc)] [(.int pc), (.ref a0x)])) rfl rfl (hb hby d1_32)
  have Ex21 : Exa Z h20 a0x "com/example/rowforge/rowforge/core/Notice$RangeMoved" := Ex15.wr W20
  have F22 : Fld Z h20 a0x "com/example/rowforge/rowforge/core/Notice$RangeMoved" "from" "I" (.int pf) := F16.other W20 (Or.inr (slot_ne (Or.inr (hw _ (List.mem_of_getElem? (i := 27) rfl))) (Or.inr (hw _ (List.mem_of_getElem? (i := 31) rfl))) (by decide) (t := .int) (t' := .int) (by decide) (by decide)))
  have F23 : Fld Z h20 a0x "com/example/rowforge/rowforge/core/Notice$RangeMoved" "to" "I" (.int pt) := F18.other W20 (Or.inr (slot_ne (Or.inr (hw _ (List.mem_of_getElem? (i := 29) rfl))) (Or.inr (hw _ (List.mem_of_getElem? (i := 31) rfl))) (by decide) (t := .int) (t' := .int) (by decide) (by decide)))
  have N20 := Fr.snoc X20 N14 g_a0x
  have Z20 : n0 ≤ h20.size := Nat.le_trans Z14 (Keep.of_wr W20).1
  have K20 : Keep h0 h20 [a0x] := (K14).wr W20 (Or.inl (by simp))
  have F24 : Fld Z h20 a0x "com/example/rowforge/rowforge/core/Notice$RangeMoved" "count" "I" (.int pc) := F17.same W20
  have pre20 : ∀ t, Steps p.tables e below (T20.setTop (mkF m 35 #[.val (.ref a0x), .val (.int pf), .val (.int pt), .val (.int pc)] [])) t → Steps p.tables e below (s₁.setTop (entryFrame m #[(.ref a0x), (.int pf), (.int pt), (.int pc)] 4)) t := fun t k => pre19 t (st20 t k)
  obtain ⟨fs, hr, hrun, hended, hW, hsame⟩ := X20.leave (v := none) (fun _ => rfl)
  refine ⟨_, _, pre20 _ ?_, hrun, hended, _, _, rfl, ?_, ⟨_, rfl⟩, hW, hsame.mono (by decide) (by decide)⟩
  · show Steps p.tables e below (T20.setTop (mkF m 35 #[.val (.ref a0x), .val (.int pf), .val (.int pt), .val (.int pc)] [])) _
    exact X20.returnOut hx Bd.returns (hb hby d1_35) hr
  · show Q1 Z a0x pf pt pc w1_from w1_to w1_count h0 n0 _ T20.heap _
    rw [e20]
    exact ⟨rfl, N20, K20, F22, F23, F24⟩
theorem d6_0 : decode prog_41_method_4_code 0 = .ok (.iload_n 1, 1) := by decide +kernel
theorem d6_1 : decode prog_41_method_4_code 1 = .ok (.aload_n 0, 1) := by decide +kernel
theorem d6_2 : decode prog_41_method_4_code 2 = .ok (.getfield 16, 3) := by decide +kernel
theorem d6_5 : decode prog_41_method_4_code 5 = .ok (.isub, 1) := by decide +kernel
theorem d6_6 : decode prog_41_method_4_code 6 = .ok (.istore_n 2, 1) := by decide +kernel
theorem d6_7 : decode prog_41_method_4_code 7 = .ok (.iload_n 2, 1) := by decide +kernel
theorem d6_8 : decode prog_41_method_4_code 8 = .ok (.ifCond .lt 21, 3) := by decide +kernel
theorem d6_11 : decode prog_41_method_4_code 11 = .ok (.iload_n 2, 1) := by decide +kernel
theorem d6_12 : decode prog_41_method_4_code 12 = .ok (.aload_n 0, 1) := by decide +kernel
theorem d6_13 : decode prog_41_method_4_code 13 = .ok (.getfield 25, 3) := by decide +kernel
theorem d6_16 : decode prog_41_method_4_code 16 = .ok (.if_icmp .ge 13, 3) := by decide +kernel
theorem d6_19 : decode prog_41_method_4_code 19 = .ok (.aload_n 0, 1) := by decide +kernel
theorem d6_20 : decode prog_41_method_4_code 20 = .ok (.getfield 22, 3) := by decide +kernel
theorem d6_23 : decode prog_41_method_4_code 23 = .ok (.iload_n 2, 1) := by decide +kernel
theorem d6_24 : decode prog_41_method_4_code 24 = .ok (.iadd, 1) := by decide +kernel
theorem d6_25 : decode prog_41_method_4_code 25 = .ok (.istore_n 3, 1) := by decide +kernel
theorem d6_26 : decode prog_41_method_4_code 26 = .ok (.goto 45, 3) := by decide +kernel
theorem d6_29 : decode prog_41_method_4_code 29 = .ok (.iload_n 2, 1) := by decide +kernel
theorem d6_30 : decode prog_41_method_4_code 30 = .ok (.aload_n 0, 1) := by decide +kernel
theorem d6_31 : decode prog_41_method_4_code 31 = .ok (.getfield 25, 3) := by decide +kernel
theorem d6_34 : decode prog_41_method_4_code 34 = .ok (.if_icmp .lt 12, 3) := by decide +kernel
theorem d6_37 : decode prog_41_method_4_code 37 = .ok (.iload_n 1, 1) := by decide +kernel
theorem d6_38 : decode prog_41_method_4_code 38 = .ok (.aload_n 0, 1) := by decide +kernel
theorem d6_39 : decode prog_41_method_4_code 39 = .ok (.getfield 25, 3) := by decide +kernel
theorem d6_42 : decode prog_41_method_4_code 42 = .ok (.isub, 1) := by decide +kernel
theorem d6_43 : decode prog_41_method_4_code 43 = .ok (.goto 4, 3) := by decide +kernel
theorem d6_46 : decode prog_41_method_4_code 46 = .ok (.iload_n 1, 1) := by decide +kernel
theorem d6_47 : decode prog_41_method_4_code 47 = .ok (.istore 4, 2) := by decide +kernel
theorem d6_49 : decode prog_41_method_4_code 49 = .ok (.iload 4, 2) := by decide +kernel
theorem d6_51 : decode prog_41_method_4_code 51 = .ok (.aload_n 0, 1) := by decide +kernel
theorem d6_52 : decode prog_41_method_4_code 52 = .ok (.getfield 22, 3) := by decide +kernel
theorem d6_55 : decode prog_41_method_4_code 55 = .ok (.if_icmp .lt 13, 3) := by decide +kernel
theorem d6_58 : decode prog_41_method_4_code 58 = .ok (.iload 4, 2) := by decide +kernel
theorem d6_60 : decode prog_41_method_4_code 60 = .ok (.aload_n 0, 1) := by decide +kernel
theorem d6_61 : decode prog_41_method_4_code 61 = .ok (.getfield 25, 3) := by decide +kernel
theorem d6_64 : decode prog_41_method_4_code 64 = .ok (.iadd, 1) := by decide +kernel
theorem d6_65 : decode prog_41_method_4_code 65 = .ok (.goto 5, 3) := by decide +kernel
theorem d6_68 : decode prog_41_method_4_code 68 = .ok (.iload 4, 2) := by decide +kernel
theorem d6_70 : decode prog_41_method_4_code 70 = .ok (.istore_n 3, 1) := by decide +kernel
theorem d6_71 : decode prog_41_method_4_code 71 = .ok (.iload_n 3, 1) := by decide +kernel
theorem d6_72 : decode prog_41_method_4_code 72 = .ok (.ireturn, 1) := by decide +kernel
theorem ef_6 (m : MethodId) (x0 : Addr) (x1 : Int32) : entryFrame m #[(.ref x0), (.int x1)] 5 = mkF m 0 #[.val (.ref x0), .val (.int x1), .unset, .unset, .unset] [] := by first | (simp [entryFrame, mkF, argsToLocals, Value.category]; done) | rfl
abbrev R6 : Room := { frames := 0, cells := 0, slots := 0, locals := 0 }
def v6_6 (p6_1 : Int32) (w6_from : Int32) : Int32 := (p6_1 - w6_from)
def j6_47_s0 (p6_1 : Int32) (w6_from : Int32) (w6_count : Int32) : Int32 := (if (v6_6 p6_1 w6_from) < w6_count then p6_1 else (p6_1 - w6_count))
def j6_70_s0 (p6_1 : Int32) (w6_from : Int32) (w6_count : Int32) (w6_to : Int32) : Int32 := (if (j6_47_s0 p6_1 w6_from w6_count) < w6_to then (j6_47_s0 p6_1 w6_from w6_count) else ((j6_47_s0 p6_1 w6_from w6_count) + w6_count))
def v6_25 (p6_1 : Int32) (w6_from : Int32) (w6_to : Int32) : Int32 := (w6_to + (v6_6 p6_1 w6_from))
def v6_47 (p6_1 : Int32) (w6_count : Int32) : Int32 := (p6_1 - w6_count)
def j6_70_s0_1 (p6_1 : Int32) (w6_count : Int32) (w6_to : Int32) : Int32 := (if (v6_47 p6_1 w6_count) < w6_to then (v6_47 p6_1 w6_count) else ((v6_47 p6_1 w6_count) + w6_count))
def r6 (p6_1 : Int32) (w6_from : Int32) (w6_count : Int32) (w6_to : Int32) : Int32 := (if (v6_6 p6_1 w6_from) < (0 : Int32) then (j6_70_s0 p6_1 w6_from w6_count w6_to) else (if (v6_6 p6_1 w6_from) < w6_count then (v6_25 p6_1 w6_from w6_to) else (j6_70_s0_1 p6_1 w6_count w6_to)))
def Q6 (Z : State) (a6_0 : Addr) (p6_1 : Int32) (w6_from : Int32) (w6_count : Int32) (w6_to : Int32) (h0 : Heap) (n0 : Nat) (v : Option Value) (h : Heap) (L : List Loc) : Prop := v = some (.int (r6 p6_1 w6_from w6_count w6_to)) ∧ Fr n0 L ∧ h = h0
set_option maxRecDepth 65536 in
set_option maxHeartbeats 40000000 in
theorem rm6 (l : Launch) (Z : State) (a0 : Array Value) (hw : ∀ d ∈ tables_1, d.before a0 Z = true) (ws : List Jvm.Cond) (a6_0 : Addr) (p6_1 : Int32) (w6_from : Int32) (w6_count : Int32) (w6_to : Int32) (h0 : Heap) (n0 : Nat) (Z0 : n0 ≤ h0.size) (F_from_a6_0 : Fld Z h0 a6_0 "com/example/rowforge/rowforge/core/Notice$RangeMoved" "from" "I" (.int w6_from)) (F_count_a6_0 : Fld Z h0 a6_0 "com/example/rowforge/rowforge/core/Notice$RangeMoved" "count" "I" (.int w6_count)) (F_to_a6_0 : Fld Z h0 a6_0 "com/example/rowforge/rowforge/core/Notice$RangeMoved" "to" "I" (.int w6_to)) :
    MetFree l (⟨"com/example/rowforge/rowforge/core/Notice$RangeMoved", "positionAfter", "(I)I"⟩ : MethodName) (head1 (Jvm.Cond.code (⟨"com/example/rowforge/rowforge/core/Notice$RangeMoved", "positionAfter", "(I)I"⟩ : MethodName) prog_41_method_4_code 5 (some .int) :: ws) R6) (fun a U => a = #[(.ref a6_0), (.int p6_1)] ∧ Z.Warmed39 U.vm ∧ U.heap = h0) (fun _ _ _ _ _ => True) (fun _ U o U' => ∃ v L, o = .returned v ∧ Q6 Z a6_0 p6_1 w6_from w6_count w6_to h0 n0 v U'.heap L ∧ FrameEnd U o U' L R6.cells R6.slots) := by
  refine MetFree.of_bodySF (plainFor_of_name pn_3) hisR ?_
  intro p e s m args below meth c s₁ Bd hml0 hP hK
  obtain ⟨rfl, hZ, hh⟩ := hP
  have hx := Bd.exec
  have hby := Bd.bytes
  have hml : c.maxLocals = 5 := hml0
  have hown : s.vm.findClass "com/example/rowforge/rowforge/core/Notice$RangeMoved" = some m.cls := findClass_of_methodNamed Bd.named
  have hnm := (name_of_methodNamed Bd.named Bd.method).1
  have X0 : Stand p l e R6 s m #[(.ref a6_0), (.int p6_1)] below meth c s₁ [] 0 0 := Stand.of_body Bd
  have e0 : s₁.heap = h0 := by rw [← hh, Bd.state]; rfl
  have N0 := Fr.nil n0
  have pre0 : ∀ t, Steps p.tables e below (s₁.setTop (mkF m 0 #[.val (.ref a6_0), .val (.int p6_1), .unset, .unset, .unset] [])) t → Steps p.tables e below (s₁.setTop (entryFrame m #[(.ref a6_0), (.int p6_1)] 5)) t := fun t k => castTop (ef_6 m a6_0 p6_1) k
  have pre1 : ∀ t, Steps p.tables e below (s₁.setTop (mkF m 2 #[.val (.ref a6_0), .val (.int p6_1), .unset, .unset, .unset] [(.ref a6_0), (.int p6_1)])) t → Steps p.tables e below (s₁.setTop (entryFrame m #[(.ref a6_0), (.int p6_1)] 5)) t := fun t k => pre0 t (by
    refine XS.iloadN X0.here hx rfl (hb hby d6_0) rfl ?_
    show Steps p.tables e below (s₁.setTop (mkF m 1 #[.val (.ref a6_0), .val (.int p6_1), .unset, .unset, .unset] [(.int p6_1)])) _
    refine XS.aloadN X0.here hx rfl (hb hby d6_1) rfl rfl ?_
    show Steps p.tables e below (s₁.setTop (mkF m 2 #[.val (.ref a6_0), .val (.int p6_1), .unset, .unset, .unset] [(.ref a6_0), (.int p6_1)])) _
    exact k)
  obtain ⟨T2, X2, e2, st2⟩ := getF X0 hx hZ hown (host := "") (Or.inl (hw _ (List.mem_of_getElem? (i := 26) rfl))) Via.refl e0 F_from_a6_0 (g := (mkF m 2 #[.val (.ref a6_0), .val (.int p6_1), .unset, .unset, .unset] [(.ref a6_0), (.int p6_1)])) rfl rfl (hb hby d6_2)
  have pre2 : ∀ t, Steps p.tables e below (T2.setTop (mkF m 5 #[.val (.ref a6_0), .val (.int p6_1), .unset, .unset, .unset] [(.int w6_from), (.int p6_1)])) t → Steps p.tables e below (s₁.setTop (entryFrame m #[(.ref a6_0), (.int p6_1)] 5)) t := fun t k => pre1 t (st2 t k)
  have pre3 : ∀ t, Steps p.tables e below (T2.setTop (mkF m 8 #[.val (.ref a6_0), .val (.int p6_1), .val (.int (v6_6 p6_1 w6_from)), .unset, .unset] [(.int (v6_6 p6_1 w6_from))])) t → Steps p.tables e below (s₁.setTop (entryFrame m #[(.ref a6_0), (.int p6_1)] 5)) t := fun t k => pre2 t (by
    refine XS.isub X2.here hx rfl (hb hby d6_5) rfl ?_
    show Steps p.tables e below (T2.setTop (mkF m 6 #[.val (.ref a6_0), .val (.int p6_1), .unset, .unset, .unset] [(.int (p6_1 - w6_from))])) _
    show Steps p.tables e below (T2.setTop (mkF m 6 #[.val (.ref a6_0), .val (.int p6_1), .unset, .unset, .unset] [(.int (v6_6 p6_1 w6_from))])) _
    refine XS.istoreN X2.here hx rfl (hb hby d6_6) rfl (l' := #[.val (.ref a6_0), .val (.int p6_1), .val (.int (v6_6 p6_1 w6_from)), .unset, .unset]) rfl ?_
    show Steps p.tables e below (T2.setTop (mkF m 7 #[.val (.ref a6_0), .val (.int p6_1), .val (.int (v6_6 p6_1 w6_from)), .unset, .unset] [])) _
    refine XS.iloadN X2.here hx rfl (hb hby d6_7) rfl ?_
    show Steps p.tables e below (T2.setTop (mkF m 8 #[.val (.ref a6_0), .val (.int p6_1), .val (.int (v6_6 p6_1 w6_from)), .unset, .unset] [(.int (v6_6 p6_1 w6_from))])) _
    exact k)
  by_cases hc8_4 : (v6_6 p6_1 w6_from) < (0 : Int32)
  · have pre5 : ∀ t, Steps p.tables e below (T2.setTop (mkF m 31 #[.val (.ref a6_0), .val (.int p6_1), .val (.int (v6_6 p6_1 w6_from)), .unset, .unset] [(.ref a6_0), (.int (v6_6 p6_1 w6_from))])) t → Steps p.tables e below (s₁.setTop (entryFrame m #[(.ref a6_0), (.int p6_1)] 5)) t := fun t k => pre3 t (by
      refine XS.ifYes X2.here hx rfl (pc0 := 8) (pc' := 29) rfl (hb hby d6_8) rfl ((if0 _ _).trans (tlt hc8_4).1) (by decide) (by decide) ?_
      show Steps p.tables e below (T2.setTop (mkF m 29 #[.val (.ref a6_0), .val (.int p6_1), .val (.int (v6_6 p6_1 w6_from)), .unset, .unset] [])) _
      refine XS.iloadN X2.here hx rfl (hb hby d6_29) rfl ?_
      show Steps p.tables e below (T2.setTop (mkF m 30 #[.val (.ref a6_0), .val (.int p6_1), .val (.int (v6_6 p6_1 w6_from)), .unset, .unset] [(.int (v6_6 p6_1 w6_from))])) _
      refine XS.aloadN X2.here hx rfl (hb hby d6_30) rfl rfl ?_
      show Steps p.tables e below (T2.setTop (mkF m 31 #[.val (.ref a6_0), .val (.int p6_1), .val (.int (v6_6 p6_1 w6_from)), .unset, .unset] [(.ref a6_0), (.int (v6_6 p6_1 w6_from))])) _
      exact k)
    obtain ⟨T6, X6, e6, st6⟩ := getF X2 hx hZ hown (host := "") (Or.inl (hw _ (List.mem_of_getElem? (i := 30) rfl))) Via.refl e2 F_count_a6_0 (g := (mkF m 31 #[.val (.ref a6_0), .val (.int p6_1), .val (.int (v6_6 p6_1 w6_from)), .unset, .unset] [(.ref a6_0), (.int (v6_6 p6_1 w6_from))])) rfl rfl (hb hby d6_31)
    have pre6 : ∀ t, Steps p.tables e below (T6.setTop (mkF m 34 #[.val (.ref a6_0), .val (.int p6_1), .val (.int (v6_6 p6_1 w6_from)), .unset, .unset] [(.int w6_count), (.int (v6_6 p6_1 w6_from))])) t → Steps p.tables e below (s₁.setTop (entryFrame m #[(.ref a6_0), (.int p6_1)] 5)) t := fun t k => pre5 t (st6 t k)
    obtain ⟨T7, L7, X7, e7, N7, st7⟩ : ∃ (T' : State) (L' : List Loc), Stand p l e R6 s m #[(.ref a6_0), (.int p6_1)] below meth c T' L' 0 0 ∧ T'.heap = h0 ∧ Fr n0 L' ∧ ∀ t, Steps p.tables e below (T'.setTop (mkF m 47 #[.val (.ref a6_0), .val (.int p6_1), .val (.int (v6_6 p6_1 w6_from)), .unset, .unset] [(.int (j6_47_s0 p6_1 w6_from w6_count))])) t → Steps p.tables e below (T6.setTop (mkF m 34 #[.val (.ref a6_0), .val (.int p6_1), .val (.int (v6_6 p6_1 w6_from)), .unset, .unset] [(.int w6_count), (.int (v6_6 p6_1 w6_from))])) t := by
      have pre7 : ∀ t, Steps p.tables e below (T6.setTop (mkF m 34 #[.val (.ref a6_0), .val (.int p6_1), .val (.int (v6_6 p6_1 w6_from)), .unset, .unset] [(.int w6_count), (.int (v6_6 p6_1 w6_from))])) t → Steps p.tables e below (T6.setTop (mkF m 34 #[.val (.ref a6_0), .val (.int p6_1), .val (.int (v6_6 p6_1 w6_from)), .unset, .unset] [(.int w6_count), (.int (v6_6 p6_1 w6_from))])) t := fun t k => k
      by_cases hc34_8 : (v6_6 p6_1 w6_from) < w6_count
      · have pre9 : ∀ t, Steps p.tables e below (T6.setTop (mkF m 47 #[.val (.ref a6_0), .val (.int p6_1), .val (.int (v6_6 p6_1 w6_from)), .unset, .unset] [(.int p6_1)])) t → Steps p.tables e below (T6.setTop (mkF m 34 #[.val (.ref a6_0), .val (.int p6_1), .val (.int (v6_6 p6_1 w6_from)), .unset, .unset] [(.int w6_count), (.int (v6_6 p6_1 w6_from))])) t := fun t k => pre7 t (by
          refine XS.icmpYes X6.here hx rfl (pc0 := 34) (pc' := 46) rfl (hb hby d6_34) rfl (tlt hc34_8).1 (by decide) (by decide) ?_
          show Steps p.tables e below (T6.setTop (mkF m 46 #[.val (.ref a6_0), .val (.int p6_1), .val (.int (v6_6 p6_1 w6_from)), .unset, .unset] [])) _
          refine XS.iloadN X6.here hx rfl (hb hby d6_46) rfl ?_
          show Steps p.tables e below (T6.setTop (mkF m 47 #[.val (.ref a6_0), .val (.int p6_1), .val (.int (v6_6 p6_1 w6_from)), .unset, .unset] [(.int p6_1)])) _
          exact k)
        have hj13 : (j6_47_s0 p6_1 w6_from w6_count) = p6_1 := by unfold j6_47_s0; rw [if_pos hc34_8]
        exact ⟨T6, _, X6, e6, N0, fun t k => pre9 t (by rw [hj13] at k; exact k)⟩
      · have pre10 : ∀ t, Steps p.tables e below (T6.setTop (mkF m 39 #[.val (.ref a6_0), .val (.int p6_1), .val (.int (v6_6 p6_1 w6_from)), .unset, .unset] [(.ref a6_0), (.int p6_1)])) t → Steps p.tables e below (T6.setTop (mkF m 34 #[.val (.ref a6_0), .val (.int p6_1), .val (.int (v6_6 p6_1 w6_from)), .unset, .unset] [(.int w6_count), (.int (v6_6 p6_1 w6_from))])) t := fun t k => pre7 t (by
          refine XS.icmpNo X6.here hx rfl (hb hby d6_34) rfl (flt hc34_8).1 ?_
          show Steps p.tables e below (T6.setTop (mkF m 37 #[.val (.ref a6_0), .val (.int p6_1), .val (.int (v6_6 p6_1 w6_from)), .unset, .unset] [])) _
          refine XS.iloadN X6.here hx rfl (hb hby d6_37) rfl ?_
          show Steps p.tables e below (T6.setTop (mkF m 38 #[.val (.ref a6_0), .val (.int p6_1), .val (.int (v6_6 p6_1 w6_from)), .unset, .unset] [(.int p6_1)])) _
          refine XS.aloadN X6.here hx rfl (hb hby d6_38) rfl rfl ?_
          show Steps p.tables e below (T6.setTop (mkF m 39 #[.val (.ref a6_0), .val (.int p6_1), .val (.int (v6_6 p6_1 w6_from)), .unset, .unset] [(.ref a6_0), (.int p6_1)])) _
          exact k)
        obtain ⟨T11, X11, e11, st11⟩ := getF X6 hx hZ hown (host := "") (Or.inl (hw _ (List.mem_of_getElem? (i := 30) rfl))) Via.refl e6 F_count_a6_0 (g := (mkF m 39 #[.val (.ref a6_0), .val (.int p6_1), .val (.int (v6_6 p6_1 w6_from)), .unset, .unset] [(.ref a6_0), (.int p6_1)])) rfl rfl (hb hby d6_39)
        have pre11 : ∀ t, Steps p.tables e below (T11.setTop (mkF m 42 #[.val (.ref a6_0), .val (.int p6_1), .val (.int (v6_6 p6_1 w6_from)), .unset, .unset] [(.int w6_count), (.int p6_1)])) t → Steps p.tables e below (T6.setTop (mkF m 34 #[.val (.ref a6_0), .val (.int p6_1), .val (.int (v6_6 p6_1 w6_from)), .unset, .unset] [(.int w6_count), (.int (v6_6 p6_1 w6_from))])) t := fun t k => pre10 t (st11 t k)
        have pre12 : ∀ t, Steps p.tables e below (T11.setTop (mkF m 47 #[.val (.ref a6_0), .val (.int p6_1), .val (.int (v6_6 p6_1 w6_from)), .unset, .unset] [(.int (p6_1 - w6_count))])) t → Steps p.tables e below (T6.setTop (mkF m 34 #[.val (.ref a6_0), .val (.int p6_1), .val (.int (v6_6 p6_1 w6_from)), .unset, .unset] [(.int w6_count), (.int (v6_6 p6_1 w6_from))])) t := fun t k => pre11 t (by
          refine XS.isub X11.here hx rfl (hb hby d6_42) rfl ?_
          show Steps p.tables e below (T11.setTop (mkF m 43 #[.val (.ref a6_0), .val (.int p6_1), .val (.int (v6_6 p6_1 w6_from)), .unset, .unset] [(.int (p6_1 - w6_count))])) _
          refine XS.goto X11.here hx rfl (pc0 := 43) (pc' := 47) rfl (hb hby d6_43) (by decide) (by decide) ?_
          show Steps p.tables e below (T11.setTop (mkF m 47 #[.val (.ref a6_0), .val (.int p6_1), .val (.int (v6_6 p6_1 w6_from)), .unset, .unset] [(.int (p6_1 - w6_count))])) _
          exact k)
        have hj14 : (j6_47_s0 p6_1 w6_from w6_count) = (p6_1 - w6_count) := by unfold j6_47_s0; rw [if_neg hc34_8]
        exact ⟨T11, _, X11, e11, N0, fun t k => pre12 t (by rw [hj14] at k; exact k)⟩
    have pre7 : ∀ t, Steps p.tables e below (T7.setTop (mkF m 47 #[.val (.ref a6_0), .val (.int p6_1), .val (.int (v6_6 p6_1 w6_from)), .unset, .unset] [(.int (j6_47_s0 p6_1 w6_from w6_count))])) t → Steps p.tables e below (s₁.setTop (entryFrame m #[(.ref a6_0), (.int p6_1)] 5)) t := fun t k => pre6 t (st7 t k)
    have pre15 : ∀ t, Steps p.tables e below (T7.setTop (mkF m 52 #[.val (.ref a6_0), .val (.int p6_1), .val (.int (v6_6 p6_1 w6_from)), .unset, .val (.int (j6_47_s0 p6_1 w6_from w6_count))] [(.ref a6_0), (.int (j6_47_s0 p6_1 w6_from w6_count))])) t → Steps p.tables e below (s₁.setTop (entryFrame m #[(.ref a6_0), (.int p6_1)] 5)) t := fun t k => pre7 t (by
      refine XS.istore X7.here hx rfl (hb hby d6_47) rfl (l' := #[.val (.ref a6_0), .val (.int p6_1), .val (.int (v6_6 p6_1 w6_from)), .unset, .val (.int (j6_47_s0 p6_1 w6_from w6_count))]) rfl ?_
      show Steps p.tables e below (T7.setTop (mkF m 49 #[.val (.ref a6_0), .val (.int p6_1), .val (.int (v6_6 p6_1 w6_from)), .unset, .val (.int (j6_47_s0 p6_1 w6_from w6_count))] [])) _
      refine XS.iload X7.here hx rfl (hb hby d6_49) rfl ?_
      show Steps p.tables e below (T7.setTop (mkF m 51 #[.val (.ref a6_0), .val (.int p6_1), .val (.int (v6_6 p6_1 w6_from)), .unset, .val (.int (j6_47_s0 p6_1 w6_from w6_count))] [(.int (j6_47_s0 p6_1 w6_from w6_count))])) _
      refine XS.aloadN X7.here hx rfl (hb hby d6_51) rfl rfl ?_
      show Steps p.tables e below (T7.setTop (mkF m 52 #[.val (.ref a6_0), .val (.int p6_1), .val (.int (v6_6 p6_1 w6_from)), .unset, .val (.int (j6_47_s0 p6_1 w6_from w6_count))] [(.ref a6_0), (.int (j6_47_s0 p6_1 w6_from w6_count))])) _
      exact k)
    obtain ⟨T16, X16, e16, st16⟩ := getF X7 hx hZ hown (host := "") (Or.inl (hw _ (List.mem_of_getElem? (i := 28) rfl))) Via.refl e7 F_to_a6_0 (g := (mkF m 52 #[.val (.ref a6_0), .val (.int p6_1), .val (.int (v6_6 p6_1 w6_from)), .unset, .val (.int (j6_47_s0 p6_1 w6_from w6_count))] [(.ref a6_0), (.int (j6_47_s0 p6_1 w6_from w6_count))])) rfl rfl (hb hby d6_52)
    have pre16 : ∀ t, Steps p.tables e below (T16.setTop (mkF m 55 #[.val (.ref a6_0), .val (.int p6_1), .val (.int (v6_6 p6_1 w6_from)), .unset, .val (.int (j6_47_s0 p6_1 w6_from w6_count))] [(.int w6_to), (.int (j6_47_s0 p6_1 w6_from w6_count))])) t → Steps p.tables e below (s₁.setTop (entryFrame m #[(.ref a6_0), (.int p6_1)] 5)) t := fun t k => pre15 t (st16 t k)
    obtain ⟨T17, L17, X17, e17, N17, st17⟩ : ∃ (T' : State) (L' : List Loc), Stand p l e R6 s m #[(.ref a6_0), (.int p6_1)] below meth c T' L' 0 0 ∧ T'.heap = h0 ∧ Fr n0 L' ∧ ∀ t, Steps p.tables e below (T'.setTop (mkF m 70 #[.val (.ref a6_0), .val (.int p6_1), .val (.int (v6_6 p6_1 w6_from)), .unset, .val (.int (j6_47_s0 p6_1 w6_from w6_count))] [(.int (j6_70_s0 p6_1 w6_from w6_count w6_to))])) t → Steps p.tables e below (T16.setTop (mkF m 55 #[.val (.ref a6_0), .val (.int p6_1), .val (.int (v6_6 p6_1 w6_from)), .unset, .val (.int (j6_47_s0 p6_1 w6_from w6_count))] [(.int w6_to), (.int (j6_47_s0 p6_1 w6_from w6_count))])) t := by
      have pre17 : ∀ t, Steps p.tables e below (T16.setTop (mkF m 55 #[.val (.ref a6_0), .val (.int p6_1), .val (.int (v6_6 p6_1 w6_from)), .unset, .val (.int (j6_47_s0 p6_1 w6_from w6_count))] [(.int w6_to), (.int (j6_47_s0 p6_1 w6_from w6_count))])) t → Steps p.tables e below (T16.setTop (mkF m 55 #[.val (.ref a6_0), .val (.int p6_1), .val (.int (v6_6 p6_1 w6_from)), .unset, .val (.int (j6_47_s0 p6_1 w6_from w6_count))] [(.int w6_to), (.int (j6_47_s0 p6_1 w6_from w6_count))])) t := fun t k => k
      by_cases hc55_18 : (j6_47_s0 p6_1 w6_from w6_count) < w6_to
      · have pre19 : ∀ t, Steps p.tables e below (T16.setTop (mkF m 70 #[.val (.ref a6_0), .val (.int p6_1), .val (.int (v6_6 p6_1 w6_from)), .unset, .val (.int (j6_47_s0 p6_1 w6_from w6_count))] [(.int (j6_47_s0 p6_1 w6_from w6_count))])) t → Steps p.tables e below (T16.setTop (mkF m 55 #[.val (.ref a6_0), .val (.int p6_1), .val (.int (v6_6 p6_1 w6_from)), .unset, .val (.int (j6_47_s0 p6_1 w6_from w6_count))] [(.int w6_to), (.int (j6_47_s0 p6_1 w6_from w6_count))])) t := fun t k => pre17 t (by
          refine XS.icmpYes X16.here hx rfl (pc0 := 55) (pc' := 68) rfl (hb hby d6_55) rfl (tlt hc55_18).1 (by decide) (by decide) ?_
          show Steps p.tables e below (T16.setTop (mkF m 68 #[.val (.ref a6_0), .val (.int p6_1), .val (.int (v6_6 p6_1 w6_from)), .unset, .val (.int (j6_47_s0 p6_1 w6_from w6_count))] [])) _
          refine XS.iload X16.here hx rfl (hb hby d6_68) rfl ?_
          show Steps p.tables e below (T16.setTop (mkF m 70 #[.val (.ref a6_0), .val (.int p6_1), .val (.int (v6_6 p6_1 w6_from)), .unset, .val (.int (j6_47_s0 p6_1 w6_from w6_count))] [(.int (j6_47_s0 p6_1 w6_from w6_count))])) _
          exact k)
        have hj23 : (j6_70_s0 p6_1 w6_from w6_count w6_to) = (j6_47_s0 p6_1 w6_from w6_count) := by unfold j6_70_s0; rw [if_pos hc55_18]
        exact ⟨T16, _, X16, e16, N7, fun t k => pre19 t (by rw [hj23] at k; exact k)⟩
      · have pre20 : ∀ t, Steps p.tables e below (T16.setTop (mkF m 61 #[.val (.ref a6_0), .val (.int p6_1), .val (.int (v6_6 p6_1 w6_from)), .unset, .val (.int (j6_47_s0 p6_1 w6_from w6_count))] [(.ref a6_0), (.int (j6_47_s0 p6_1 w6_from w6_count))])) t → Steps p.tables e below (T16.setTop (mkF m 55 #[.val (.ref a6_0), .val (.int p6_1), .val (.int (v6_6 p6_1 w6_from)), .unset, .val (.int (j6_47_s0 p6_1 w6_from w6_count))] [(.int w6_to), (.int (j6_47_s0 p6_1 w6_from w6_count))])) t := fun t k => pre17 t (by
          refine XS.icmpNo X16.here hx rfl (hb hby d6_55) rfl (flt hc55_18).1 ?_
          show Steps p.tables e below (T16.setTop (mkF m 58 #[.val (.ref a6_0), .val (.int p6_1), .val (.int (v6_6 p6_1 w6_from)), .unset, .val (.int (j6_47_s0 p6_1 w6_from w6_count))] [])) _
          refine XS.iload X16.here hx rfl (hb hby d6_58) rfl ?_
          show Steps p.tables e below (T16.setTop (mkF m 60 #[.val (.ref a6_0), .val (.int p6_1), .val (.int (v6_6 p6_1 w6_from)), .unset, .val (.int (j6_47_s0 p6_1 w6_from w6_count))] [(.int (j6_47_s0 p6_1 w6_from w6_count))])) _
          refine XS.aloadN X16.here hx rfl (hb hby d6_60) rfl rfl ?_
          show Steps p.tables e below (T16.setTop (mkF m 61 #[.val (.ref a6_0), .val (.int p6_1), .val (.int (v6_6 p6_1 w6_from)), .unset, .val (.int (j6_47_s0 p6_1 w6_from w6_count))] [(.ref a6_0), (.int (j6_47_s0 p6_1 w6_from w6_count))])) _
          exact k)
        obtain ⟨T21, X21, e21, st21⟩ := getF X16 hx hZ hown (host := "") (Or.inl (hw _ (List.mem_of_getElem? (i := 30) rfl))) Via.refl e16 F_count_a6_0 (g := (mkF m 61 #[.val (.ref a6_0), .val (.int p6_1), .val (.int (v6_6 p6_1 w6_from)), .unset, .val (.int (j6_47_s0 p6_1 w6_from w6_count))] [(.ref a6_0), (.int (j6_47_s0 p6_1 w6_from w6_count))])) rfl rfl (hb hby d6_61)
        have pre21 : ∀ t, Steps p.tables e below (T21.setTop (mkF m 64 #[.val (.ref a6_0), .val (.int p6_1), .val (.int (v6_6 p6_1 w6_from)), .unset, .val (.int (j6_47_s0 p6_1 w6_from w6_count))] [(.int w6_count), (.int (j6_47_s0 p6_1 w6_from w6_count))])) t → Steps p.tables e below (T16.setTop (mkF m 55 #[.val (.ref a6_0), .val (.int p6_1), .val (.int (v6_6 p6_1 w6_from)), .unset, .val (.int (j6_47_s0 p6_1 w6_from w6_count))] [(.int w6_to), (.int (j6_47_s0 p6_1 w6_from w6_count))])) t := fun t k => pre20 t (st21 t k)
        have pre22 : ∀ t, Steps p.tables e below (T21.setTop (mkF m 70 #[.val (.ref a6_0), .val (.int p6_1), .val (.int (v6_6 p6_1 w6_from)), .unset, .val (.int (j6_47_s0 p6_1 w6_from w6_count))] [(.int ((j6_47_s0 p6_1 w6_from w6_count) + w6_count))])) t → Steps p.tables e below (T16.setTop (mkF m 55 #[.val (.ref a6_0), .val (.int p6_1), .val (.int (v6_6 p6_1 w6_from)), .unset, .val (.int (j6_47_s0 p6_1 w6_from w6_count))] [(.int w6_to), (.int (j6_47_s0 p6_1 w6_from w6_count))])) t := fun t k => pre21 t (by
          refine XS.iadd X21.here hx rfl (hb hby d6_64) rfl ?_
          show Steps p.tables e below (T21.setTop (mkF m 65 #[.val (.ref a6_0), .val (.int p6_1), .val (.int (v6_6 p6_1 w6_from)), .unset, .val (.int (j6_47_s0 p6_1 w6_from w6_count))] [(.int ((j6_47_s0 p6_1 w6_from w6_count) + w6_count))])) _
          refine XS.goto X21.here hx rfl (pc0 := 65) (pc' := 70) rfl (hb hby d6_65) (by decide) (by decide) ?_
          show Steps p.tables e below (T21.setTop (mkF m 70 #[.val (.ref a6_0), .val (.int p6_1), .val (.int (v6_6 p6_1 w6_from)), .unset, .val (.int (j6_47_s0 p6_1 w6_from w6_count))] [(.int ((j6_47_s0 p6_1 w6_from w6_count) + w6_count))])) _
          exact k)
        have hj24 : (j6_70_s0 p6_1 w6_from w6_count w6_to) = ((j6_47_s0 p6_1 w6_from w6_count) + w6_count) := by unfold j6_70_s0; rw [if_neg hc55_18]
        exact ⟨T21, _, X21, e21, N7, fun t k => pre22 t (by rw [hj24] at k; exact k)⟩
    have pre17 : ∀ t, Steps p.tables e below (T17.setTop (mkF m 70 #[.val (.ref a6_0), .val (.int p6_1), .val (.int (v6_6 p6_1 w6_from)), .unset, .val (.int (j6_47_s0 p6_1 w6_from w6_count))] [(.int (j6_70_s0 p6_1 w6_from w6_count w6_to))])) t → Steps p.tables e below (s₁.setTop (entryFrame m #[(.ref a6_0), (.int p6_1)] 5)) t := fun t k => pre16 t (st17 t k)
    have pre25 : ∀ t, Steps p.tables e below (T17.setTop (mkF m 72 #[.val (.ref a6_0), .val (.int p6_1), .val (.int (v6_6 p6_1 w6_from)), .val (.int (j6_70_s0 p6_1 w6_from w6_count w6_to)), .val (.int (j6_47_s0 p6_1 w6_from w6_count))] [(.int (j6_70_s0 p6_1 w6_from w6_count w6_to))])) t → Steps p.tables e below (s₁.setTop (entryFrame m #[(.ref a6_0), (.int p6_1)] 5)) t := fun t k => pre17 t (by
      refine XS.istoreN X17.here hx rfl (hb hby d6_70) rfl (l' := #[.val (.ref a6_0), .val (.int p6_1), .val (.int (v6_6 p6_1 w6_from)), .val (.int (j6_70_s0 p6_1 w6_from w6_count w6_to)), .val (.int (j6_47_s0 p6_1 w6_from w6_count))]) rfl ?_
      show Steps p.tables e below (T17.setTop (mkF m 71 #[.val (.ref a6_0), .val (.int p6_1), .val (.int (v6_6 p6_1 w6_from)), .val (.int (j6_70_s0 p6_1 w6_from w6_count w6_to)), .val (.int (j6_47_s0 p6_1 w6_from w6_count))] [])) _
      refine XS.iloadN X17.here hx rfl (hb hby d6_71) rfl ?_
      show Steps p.tables e below (T17.setTop (mkF m 72 #[.val (.ref a6_0), .val (.int p6_1), .val (.int (v6_6 p6_1 w6_from)), .val (.int (j6_70_s0 p6_1 w6_from w6_count w6_to)), .val (.int (j6_47_s0 p6_1 w6_from w6_count))] [(.int (j6_70_s0 p6_1 w6_from w6_count w6_to))])) _
      exact k)
    have hret : (r6 p6_1 w6_from w6_count w6_to) = (j6_70_s0 p6_1 w6_from w6_count w6_to) := by unfold r6; rw [if_pos hc8_4]
    obtain ⟨fs, hr, hrun, hended, hW, hsame⟩ := X17.leave (v := some (.int (j6_70_s0 p6_1 w6_from w6_count w6_to))) (fun h => by rw [Bd.returns] at h; cases h)
    refine ⟨_, _, pre25 _ ?_, hrun, hended, _, _, rfl, ?_, ⟨_, rfl⟩, hW, hsame.mono (by decide) (by decide)⟩
    · show Steps p.tables e below (T17.setTop (mkF m 72 #[.val (.ref a6_0), .val (.int p6_1), .val (.int (v6_6 p6_1 w6_from)), .val (.int (j6_70_s0 p6_1 w6_from w6_count w6_to)), .val (.int (j6_47_s0 p6_1 w6_from w6_count))] [(.int (j6_70_s0 p6_1 w6_from w6_count w6_to))])) _
      exact retI X17 hx Bd.returns (hb hby d6_72) hr
    · show Q6 Z a6_0 p6_1 w6_from w6_count w6_to h0 n0 _ T17.heap _
      rw [e17]
      exact ⟨(by rw [hret]), N17, rfl⟩
  · have pre26 : ∀ t, Steps p.tables e below (T2.setTop (mkF m 13 #[.val (.ref a6_0), .val (.int p6_1), .val (.int (v6_6 p6_1 w6_from)), .unset, .unset] [(.ref a6_0), (.int (v6_6 p6_1 w6_from))])) t → Steps p.tables e below (s₁.setTop (entryFrame m #[(.ref a6_0), (.int p6_1)] 5)) t := fun t k => pre3 t (by
      refine XS.ifNo X2.here hx rfl (hb hby d6_8) rfl ((if0 _ _).trans (flt hc8_4).1) ?_
      show Steps p.tables e below (T2.setTop (mkF m 11 #[.val (.ref a6_0), .val (.int p6_1), .val (.int (v6_6 p6_1 w6_from)), .unset, .unset] [])) _
      refine XS.iloadN X2.here hx rfl (hb hby d6_11) rfl ?_
      show Steps p.tables e below (T2.setTop (mkF m 12 #[.val (.ref a6_0), .val (.int p6_1), .val (.int (v6_6 p6_1 w6_from)), .unset, .unset] [(.int (v6_6 p6_1 w6_from))])) _
      refine XS.aloadN X2.here hx rfl (hb hby d6_12) rfl rfl ?_
      show Steps p.tables e below (T2.setTop (mkF m 13 #[.val (.ref a6_0), .val (.int p6_1), .val (.int (v6_6 p6_1 w6_from)), .unset, .unset] [(.ref a6_0), (.int (v6_6 p6_1 w6_from))])) _
      exact k)
    obtain ⟨T27, X27, e27, st27⟩ := getF X2 hx hZ hown (host := "") (Or.inl (hw _ (List.mem_of_getElem? (i := 30) rfl))) Via.refl e2 F_count_a6_0 (g := (mkF m 13 #[.val (.ref a6_0), .val (.int p6_1), .val (.int (v6_6 p6_1 w6_from)), .unset, .unset] [(.ref a6_0), (.int (v6_6 p6_1 w6_from))])) rfl rfl (hb hby d6_13)
    have pre27 : ∀ t, Steps p.tables e below (T27.setTop (mkF m 16 #[.val (.ref a6_0), .val (.int p6_1), .val (.int (v6_6 p6_1 w6_from)), .unset, .unset] [(.int w6_count), (.int (v6_6 p6_1 w6_from))])) t → Steps p.tables e below (s₁.setTop (entryFrame m #[(.ref a6_0), (.int p6_1)] 5)) t := fun t k => pre26 t (st27 t k)
    by_cases hc16_28 : (v6_6 p6_1 w6_from) < w6_count
    · have pre29 : ∀ t, Steps p.tables e below (T27.setTop (mkF m 20 #[.val (.ref a6_0), .val (.int p6_1), .val (.int (v6_6 p6_1 w6_from)), .unset, .unset] [(.ref a6_0)])) t → Steps p.tables e below (s₁.setTop (entryFrame m #[(.ref a6_0), (.int p6_1)] 5)) t := fun t k => pre27 t (by
        refine XS.icmpNo X27.here hx rfl (hb hby d6_16) rfl (tlt hc16_28).2.1 ?_
        show Steps p.tables e below (T27.setTop (mkF m 19 #[.val (.ref a6_0), .val (.int p6_1), .val (.int (v6_6 p6_1 w6_from)), .unset, .unset] [])) _
        refine XS.aloadN X27.here hx rfl (hb hby d6_19) rfl rfl ?_
        show Steps p.tables e below (T27.setTop (mkF m 20 #[.val (.ref a6_0), .val (.int p6_1), .val (.int (v6_6 p6_1 w6_from)), .unset, .unset] [(.ref a6_0)])) _
        exact k)
      obtain ⟨T30, X30, e30, st30⟩ := getF X27 hx hZ hown (host := "") (Or.inl (hw _ (List.mem_of_getElem? (i := 28) rfl))) Via.refl e27 F_to_a6_0 (g := (mkF m 20 #[.val (.ref a6_0), .val (.int p6_1), .val (.int (v6_6 p6_1 w6_from)), .unset, .unset] [(.ref a6_0)])) rfl rfl (hb hby d6_20)
      have pre30 : ∀ t, Steps p.tables e below (T30.setTop (mkF m 23 #[.val (.ref a6_0), .val (.int p6_1), .val (.int (v6_6 p6_1 w6_from)), .unset, .unset] [(.int w6_to)])) t → Steps p.tables e below (s₁.setTop (entryFrame m #[(.ref a6_0), (.int p6_1)] 5)) t := fun t k => pre29 t (st30 t k)
      have pre31 : ∀ t, Steps p.tables e below (T30.setTop (mkF m 72 #[.val (.ref a6_0), .val (.int p6_1), .val (.int (v6_6 p6_1 w6_from)), .val (.int (v6_25 p6_1 w6_from w6_to)), .unset] [(.int (v6_25 p6_1 w6_from w6_to))])) t → Steps p.tables e below (s₁.setTop (entryFrame m #[(.ref a6_0), (.int p6_1)] 5)) t := fun t k => pre30 t (by
        refine XS.iloadN X30.here hx rfl (hb hby d6_23) rfl ?_
        show Steps p.tables e below (T30.setTop (mkF m 24 #[.val (.ref a6_0), .val (.int p6_1), .val (.int (v6_6 p6_1 w6_from)), .unset, .unset] [(.int (v6_6 p6_1 w6_from)), (.int w6_to)])) _
        refine XS.iadd X30.here hx rfl (hb hby d6_24) rfl ?_
        show Steps p.tables e below (T30.setTop (mkF m 25 #[.val (.ref a6_0), .val (.int p6_1), .val (.int (v6_6 p6_1 w6_from)), .unset, .unset] [(.int (w6_to + (v6_6 p6_1 w6_from)))])) _
        show Steps p.tables e below (T30.setTop (mkF m 25 #[.val (.ref a6_0), .val (.int p6_1), .val (.int (v6_6 p6_1 w6_from)), .unset, .unset] [(.int (v6_25 p6_1 w6_from w6_to))])) _
        refine XS.istoreN X30.here hx rfl (hb hby d6_25) rfl (l' := #[.val (.ref a6_0), .val (.int p6_1), .val (.int (v6_6 p6_1 w6_from)), .val (.int (v6_25 p6_1 w6_from w6_to)), .unset]) rfl ?_
        show Steps p.tables e below (T30.setTop (mkF m 26 #[.val (.ref a6_0), .val (.int p6_1), .val (.int (v6_6 p6_1 w6_from)), .val (.int (v6_25 p6_1 w6_from w6_to)), .unset] [])) _
        refine XS.goto X30.here hx rfl (pc0 := 26) (pc' := 71) rfl (hb hby d6_26) (by decide) (by decide) ?_
        show Steps p.tables e below (T30.setTop (mkF m 71 #[.val (.ref a6_0), .val (.int p6_1), .val (.int (v6_6 p6_1 w6_from)), .val (.int (v6_25 p6_1 w6_from w6_to)), .unset] [])) _
        refine XS.iloadN X30.here hx rfl (hb hby d6_71) rfl ?_
        show Steps p.tables e below (T30.setTop (mkF m 72 #[.val (.ref a6_0), .val (.int p6_1), .val (.int (v6_6 p6_1 w6_from)), .val (.int (v6_25 p6_1 w6_from w6_to)), .unset] [(.int (v6_25 p6_1 w6_from w6_to))])) _
        exact k)
      have hret : (r6 p6_1 w6_from w6_count w6_to) = (v6_25 p6_1 w6_from w6_to) := by unfold r6; rw [if_neg hc8_4, if_pos hc16_28]
      obtain ⟨fs, hr, hrun, hended, hW, hsame⟩ := X30.leave (v := some (.int (v6_25 p6_1 w6_from w6_to))) (fun h => by rw [Bd.returns] at h; cases h)
      refine ⟨_, _, pre31 _ ?_, hrun, hended, _, _, rfl, ?_, ⟨_, rfl⟩, hW, hsame.mono (by decide) (by decide)⟩
      · show Steps p.tables e below (T30.setTop (mkF m 72 #[.val (.ref a6_0), .val (.int p6_1), .val (.int (v6_6 p6_1 w6_from)), .val (.int (v6_25 p6_1 w6_from w6_to)), .unset] [(.int (v6_25 p6_1 w6_from w6_to))])) _
        exact retI X30 hx Bd.returns (hb hby d6_72) hr
      · show Q6 Z a6_0 p6_1 w6_from w6_count w6_to h0 n0 _ T30.heap _
        rw [e30]
        exact ⟨(by rw [hret]), N0, rfl⟩
    · have pre32 : ∀ t, Steps p.tables e below (T27.setTop (mkF m 31 #[.val (.ref a6_0), .val (.int p6_1), .val (.int (v6_6 p6_1 w6_from)), .unset, .unset] [(.ref a6_0), (.int (v6_6 p6_1 w6_from))])) t → Steps p.tables e below (s₁.setTop (entryFrame m #[(.ref a6_0), (.int p6_1)] 5)) t := fun t k => pre27 t (by
        refine XS.icmpYes X27.here hx rfl (pc0 := 16) (pc' := 29) rfl (hb hby d6_16) rfl (flt hc16_28).2.1 (by decide) (by decide) ?_
        show Steps p.tables e below (T27.setTop (mkF m 29 #[.val (.ref a6_0), .val (.int p6_1), .val (.int (v6_6 p6_1 w6_from)), .unset, .unset] [])) _
        refine XS.iloadN X27.here hx rfl (hb hby d6_29) rfl ?_
        show Steps p.tables e below (T27.setTop (mkF m 30 #[.val (.ref a6_0), .val (.int p6_1), .val (.int (v6_6 p6_1 w6_from)), .unset, .unset] [(.int (v6_6 p6_1 w6_from))])) _
        refine XS.aloadN X27.here hx rfl (hb hby d6_30) rfl rfl ?_
        show Steps p.tables e below (T27.setTop (mkF m 31 #[.val (.ref a6_0), .val (.int p6_1), .val (.int (v6_6 p6_1 w6_from)), .unset, .unset] [(.ref a6_0), (.int (v6_6 p6_1 w6_from))])) _
        exact k)
      obtain ⟨T33, X33, e33, st33⟩ := getF X27 hx hZ hown (host := "") (Or.inl (hw _ (List.mem_of_getElem? (i := 30) rfl))) Via.refl e27 F_count_a6_0 (g := (mkF m 31 #[.val (.ref a6_0), .val (.int p6_1), .val (.int (v6_6 p6_1 w6_from)), .unset, .unset] [(.ref a6_0), (.int (v6_6 p6_1 w6_from))])) rfl rfl (hb hby d6_31)
      have pre33 : ∀ t, Steps p.tables e below (T33.setTop (mkF m 34 #[.val (.ref a6_0), .val (.int p6_1), .val (.int (v6_6 p6_1 w6_from)), .unset, .unset] [(.int w6_count), (.int (v6_6 p6_1 w6_from))])) t → Steps p.tables e below (s₁.setTop (entryFrame m #[(.ref a6_0), (.int p6_1)] 5)) t := fun t k => pre32 t (st33 t k)
      obtain ⟨T34, L34, X34, e34, N34, st34⟩ : ∃ (T' : State) (L' : List Loc), Stand p l e R6 s m #[(.ref a6_0), (.int p6_1)] below meth c T' L' 0 0 ∧ T'.heap = h0 ∧ Fr n0 L' ∧ ∀ t, Steps p.tables e below (T'.setTop (mkF m 47 #[.val (.ref a6_0), .val (.int p6_1), .val (.int (v6_6 p6_1 w6_from)), .unset, .unset] [(.int (p6_1 - w6_count))])) t → Steps p.tables e below (T33.setTop (mkF m 34 #[.val (.ref a6_0), .val (.int p6_1), .val (.int (v6_6 p6_1 w6_from)), .unset, .unset] [(.int w6_count), (.int (v6_6 p6_1 w6_from))])) t := by
        have pre34 : ∀ t, Steps p.tables e below (T33.setTop (mkF m 34 #[.val (.ref a6_0), .val (.int p6_1), .val (.int (v6_6 p6_1 w6_from)), .unset, .unset] [(.int w6_count), (.int (v6_6 p6_1 w6_from))])) t → Steps p.tables e below (T33.setTop (mkF m 34 #[.val (.ref a6_0), .val (.int p6_1), .val (.int (v6_6 p6_1 w6_from)), .unset, .unset] [(.int w6_count), (.int (v6_6 p6_1 w6_from))])) t := fun t k => k
        have pre35 : ∀ t, Steps p.tables e below (T33.setTop (mkF m 39 #[.val (.ref a6_0), .val (.int p6_1), .val (.int (v6_6 p6_1 w6_from)), .unset, .unset] [(.ref a6_0), (.int p6_1)])) t → Steps p.tables e below (T33.setTop (mkF m 34 #[.val (.ref a6_0), .val (.int p6_1), .val (.int (v6_6 p6_1 w6_from)), .unset, .unset] [(.int w6_count), (.int (v6_6 p6_1 w6_from))])) t := fun t k => pre34 t (by
          refine XS.icmpNo X33.here hx rfl (hb hby d6_34) rfl (flt hc16_28).1 ?_
          show Steps p.tables e below (T33.setTop (mkF m 37 #[.val (.ref a6_0), .val (.int p6_1), .val (.int (v6_6 p6_1 w6_from)), .unset, .unset] [])) _
          refine XS.iloadN X33.here hx rfl (hb hby d6_37) rfl ?_
          show Steps p.tables e below (T33.setTop (mkF m 38 #[.val (.ref a6_0), .val (.int p6_1), .val (.int (v6_6 p6_1 w6_from)), .unset, .unset] [(.int p6_1)])) _
          refine XS.aloadN X33.here hx rfl (hb hby d6_38) rfl rfl ?_
          show Steps p.tables e below (T33.setTop (mkF m 39 #[.val (.ref a6_0), .val (.int p6_1), .val (.int (v6_6 p6_1 w6_from)), .unset, .unset] [(.ref a6_0), (.int p6_1)])) _
          exact k)
        obtain ⟨T36, X36, e36, st36⟩ := getF X33 hx hZ hown (host := "") (Or.inl (hw _ (List.mem_of_getElem? (i := 30) rfl))) Via.refl e33 F_count_a6_0 (g := (mkF m 39 #[.val (.ref a6_0), .val (.int p6_1), .val (.int (v6_6 p6_1 w6_from)), .unset, .unset] [(.ref a6_0), (.int p6_1)])) rfl rfl (hb hby d6_39)
        have pre36 : ∀ t, Steps p.tables e below (T36.setTop (mkF m 42 #[.val (.ref a6_0), .val (.int p6_1), .val (.int (v6_6 p6_1 w6_from)), .unset, .unset] [(.int w6_count), (.int p6_1)])) t → Steps p.tables e below (T33.setTop (mkF m 34 #[.val (.ref a6_0), .val (.int p6_1), .val (.int (v6_6 p6_1 w6_from)), .unset, .unset] [(.int w6_count), (.int (v6_6 p6_1 w6_from))])) t := fun t k => pre35 t (st36 t k)
        have pre37 : ∀ t, Steps p.tables e below (T36.setTop (mkF m 47 #[.val (.ref a6_0), .val (.int p6_1), .val (.int (v6_6 p6_1 w6_from)), .unset, .unset] [(.int (p6_1 - w6_count))])) t → Steps p.tables e below (T33.setTop (mkF m 34 #[.val (.ref a6_0), .val (.int p6_1), .val (.int (v6_6 p6_1 w6_from)), .unset, .unset] [(.int w6_count), (.int (v6_6 p6_1 w6_from))])) t := fun t k => pre36 t (by
          refine XS.isub X36.here hx rfl (hb hby d6_42) rfl ?_
          show Steps p.tables e below (T36.setTop (mkF m 43 #[.val (.ref a6_0), .val (.int p6_1), .val (.int (v6_6 p6_1 w6_from)), .unset, .unset] [(.int (p6_1 - w6_count))])) _
          refine XS.goto X36.here hx rfl (pc0 := 43) (pc' := 47) rfl (hb hby d6_43) (by decide) (by decide) ?_
          show Steps p.tables e below (T36.setTop (mkF m 47 #[.val (.ref a6_0), .val (.int p6_1), .val (.int (v6_6 p6_1 w6_from)), .unset, .unset] [(.int (p6_1 - w6_count))])) _
          exact k)
        exact ⟨T36, _, X36, e36, N0, fun t k => pre37 t (by exact k)⟩
      have pre34 : ∀ t, Steps p.tables e below (T34.setTop (mkF m 47 #[.val (.ref a6_0), .val (.int p6_1), .val (.int (v6_6 p6_1 w6_from)), .unset, .unset] [(.int (p6_1 - w6_count))])) t → Steps p.tables e below (s₁.setTop (entryFrame m #[(.ref a6_0), (.int p6_1)] 5)) t := fun t k => pre33 t (st34 t k)
      have pre38 : ∀ t, Steps p.tables e below (T34.setTop (mkF m 52 #[.val (.ref a6_0), .val (.int p6_1), .val (.int (v6_6 p6_1 w6_from)), .unset, .val (.int (v6_47 p6_1 w6_count))] [(.ref a6_0), (.int (v6_47 p6_1 w6_count))])) t → Steps p.tables e below (s₁.setTop (entryFrame m #[(.ref a6_0), (.int p6_1)] 5)) t := fun t k => pre34 t (by
        show Steps p.tables e below (T34.setTop (mkF m 47 #[.val (.ref a6_0), .val (.int p6_1), .val (.int (v6_6 p6_1 w6_from)), .unset, .unset] [(.int (v6_47 p6_1 w6_count))])) _
        refine XS.istore X34.here hx rfl (hb hby d6_47) rfl (l' := #[.val (.ref a6_0), .val (.int p6_1), .val (.int (v6_6 p6_1 w6_from)), .unset, .val (.int (v6_47 p6_1 w6_count))]) rfl ?_
        show Steps p.tables e below (T34.setTop (mkF m 49 #[.val (.ref a6_0), .val (.int p6_1), .val (.int (v6_6 p6_1 w6_from)), .unset, .val (.int (v6_47 p6_1 w6_count))] [])) _
        refine XS.iload X34.here hx rfl (hb hby d6_49) rfl ?_
        show Steps p.tables e below (T34.setTop (mkF m 51 #[.val (.ref a6_0), .val (.int p6_1), .val (.int (v6_6 p6_1 w6_from)), .unset, .val (.int (v6_47 p6_1 w6_count))] [(.int (v6_47 p6_1 w6_count))])) _
        refine XS.aloadN X34.here hx rfl (hb hby d6_51) rfl rfl ?_
        show Steps p.tables e below (T34.setTop (mkF m 52 #[.val (.ref a6_0), .val (.int p6_1), .val (.int (v6_6 p6_1 w6_from)), .unset, .val (.int (v6_47 p6_1 w6_count))] [(.ref a6_0), (.int (v6_47 p6_1 w6_count))])) _
        exact k)
      obtain ⟨T39, X39, e39, st39⟩ := getF X34 hx hZ hown (host := "") (Or.inl (hw _ (List.mem_of_getElem? (i := 28) rfl))) Via.refl e34 F_to_a6_0 (g := (mkF m 52 #[.val (.ref a6_0), .val (.int p6_1), .val (.int (v6_6 p6_1 w6_from)), .unset, .val (.int (v6_47 p6_1 w6_count))] [(.ref a6_0), (.int (v6_47 p6_1 w6_count))])) rfl rfl (hb hby d6_52)
      have pre39 : ∀ t, Steps p.tables e below (T39.setTop (mkF m 55 #[.val (.ref a6_0), .val (.int p6_1), .val (.int (v6_6 p6_1 w6_from)), .unset, .val (.int (v6_47 p6_1 w6_count))] [(.int w6_to), (.int (v6_47 p6_1 w6_count))])) t → Steps p.tables e below (s₁.setTop (entryFrame m #[(.ref a6_0), (.int p6_1)] 5)) t := fun t k => pre38 t (st39 t k)
      obtain ⟨T40, L40, X40, e40, N40, st40⟩ : ∃ (T' : State) (L' : List Loc), Stand p l e R6 s m #[(.ref a6_0), (.int p6_1)] below meth c T' L' 0 0 ∧ T'.heap = h0 ∧ Fr n0 L' ∧ ∀ t, Steps p.tables e below (T'.setTop (mkF m 70 #[.val (.ref a6_0), .val (.int p6_1), .val (.int (v6_6 p6_1 w6_from)), .unset, .val (.int (v6_47 p6_1 w6_count))] [(.int (j6_70_s0_1 p6_1 w6_count w6_to))])) t → Steps p.tables e below (T39.setTop (mkF m 55 #[.val (.ref a6_0), .val (.int p6_1), .val (.int (v6_6 p6_1 w6_from)), .unset, .val (.int (v6_47 p6_1 w6_count))] [(.int w6_to), (.int (v6_47 p6_1 w6_count))])) t := by
        have pre40 : ∀ t, Steps p.tables e below (T39.setTop (mkF m 55 #[.val (.ref a6_0), .val (.int p6_1), .val (.int (v6_6 p6_1 w6_from)), .unset, .val (.int (v6_47 p6_1 w6_count))] [(.int w6_to), (.int (v6_47 p6_1 w6_count))])) t → Steps p.tables e below (T39.setTop (mkF m 55 #[.val (.ref a6_0), .val (.int p6_1), .val (.int (v6_6 p6_1 w6_from)), .unset, .val (.int (v6_47 p6_1 w6_count))] [(.int w6_to), (.int (v6_47 p6_1 w6_count))])) t := fun t k => k
        by_cases hc55_41 : (v6_47 p6_1 w6_count) < w6_to
        · have pre42 : ∀ t, Steps p.tables e below (T39.setTop (mkF m 70 #[.val (.ref a6_0), .val (.int p6_1), .val (.int (v6_6 p6_1 w6_from)), .unset, .val (.int (v6_47 p6_1 w6_count))] [(.int (v6_47 p6_1 w6_count))])) t → Steps p.tables e below (T39.setTop (mkF m 55 #[.val (.ref a6_0), .val (.int p6_1), .val (.int (v6_6 p6_1 w6_from)), .unset, .val (.int (v6_47 p6_1 w6_count))] [(.int w6_to), (.int (v6_47 p6_1 w6_count))])) t := fun t k => pre40 t (by
            refine XS.icmpYes X39.here hx rfl (pc0 := 55) (pc' := 68) rfl (hb hby d6_55) rfl (tlt hc55_41).1 (by decide) (by decide) ?_
            show Steps p.tables e below (T39.setTop (mkF m 68 #[.val (.ref a6_0), .val (.int p6_1), .val (.int (v6_6 p6_1 w6_from)), .unset, .val (.int (v6_47 p6_1 w6_count))] [])) _
            refine XS.iload X39.here hx rfl (hb hby d6_68) rfl ?_
            show Steps p.tables e below (T39.setTop (mkF m 70 #[.val (.ref a6_0), .val (.int p6_1), .val (.int (v6_6 p6_1 w6_from)), .unset, .val (.int (v6_47 p6_1 w6_count))] [(.int (v6_47 p6_1 w6_count))])) _
            exact k)
          have hj46 : (j6_70_s0_1 p6_1 w6_count w6_to) = (v6_47 p6_1 w6_count) := by unfold j6_70_s0_1; rw [if_pos hc55_41]
          exact ⟨T39, _, X39, e39, N34, fun t k => pre42 t (by rw [hj46] at k; exact k)⟩
        · have pre43 : ∀ t, Steps p.tables e below (T39.setTop (mkF m 61 #[.val (.ref a6_0), .val (.int p6_1), .val (.int (v6_6 p6_1 w6_from)), .unset, .val (.int (v6_47 p6_1 w6_count))] [(.ref a6_0), (.int (v6_47 p6_1 w6_count))])) t → Steps p.tables e below (T39.setTop (mkF m 55 #[.val (.ref a6_0), .val (.int p6_1), .val (.int (v6_6 p6_1 w6_from)), .unset, .val (.int (v6_47 p6_1 w6_count))] [(.int w6_to), (.int (v6_47 p6_1 w6_count))])) t := fun t k => pre40 t (by
            refine XS.icmpNo X39.here hx rfl (hb hby d6_55) rfl (flt hc55_41).1 ?_
            show Steps p.tables e below (T39.setTop (mkF m 58 #[.val (.ref a6_0), .val (.int p6_1), .val (.int (v6_6 p6_1 w6_from)), .unset, .val (.int (v6_47 p6_1 w6_count))] [])) _
            refine XS.iload X39.here hx rfl (hb hby d6_58) rfl ?_
            show Steps p.tables e below (T39.setTop (mkF m 60 #[.val (.ref a6_0), .val (.int p6_1), .val (.int (v6_6 p6_1 w6_from)), .unset, .val (.int (v6_47 p6_1 w6_count))] [(.int (v6_47 p6_1 w6_count))])) _
            refine XS.aloadN X39.here hx rfl (hb hby d6_60) rfl rfl ?_
            show Steps p.tables e below (T39.setTop (mkF m 61 #[.val (.ref a6_0), .val (.int p6_1), .val (.int (v6_6 p6_1 w6_from)), .unset, .val (.int (v6_47 p6_1 w6_count))] [(.ref a6_0), (.int (v6_47 p6_1 w6_count))])) _
            exact k)
          obtain ⟨T44, X44, e44, st44⟩ := getF X39 hx hZ hown (host := "") (Or.inl (hw _ (List.mem_of_getElem? (i := 30) rfl))) Via.refl e39 F_count_a6_0 (g := (mkF m 61 #[.val (.ref a6_0), .val (.int p6_1), .val (.int (v6_6 p6_1 w6_from)), .unset, .val (.int (v6_47 p6_1 w6_count))] [(.ref a6_0), (.int (v6_47 p6_1 w6_count))])) rfl rfl (hb hby d6_61)
          have pre44 : ∀ t, Steps p.tables e below (T44.setTop (mkF m 64 #[.val (.ref a6_0), .val (.int p6_1), .val (.int (v6_6 p6_1 w6_from)), .unset, .val (.int (v6_47 p6_1 w6_count))] [(.int w6_count), (.int (v6_47 p6_1 w6_count))])) t → Steps p.tables e below (T39.setTop (mkF m 55 #[.val (.ref a6_0), .val (.int p6_1), .val (.int (v6_6 p6_1 w6_from)), .unset, .val (.int (v6_47 p6_1 w6_count))] [(.int w6_to), (.int (v6_47 p6_1 w6_count))])) t := fun t k => pre43 t (st44 t k)
          have pre45 : ∀ t, Steps p.tables e below (T44.setTop (mkF m 70 #[.val (.ref a6_0), .val (.int p6_1), .val (.int (v6_6 p6_1 w6_from)), .unset, .val (.int (v6_47 p6_1 w6_count))] [(.int ((v6_47 p6_1 w6_count) + w6_count))])) t → Steps p.tables e below (T39.setTop (mkF m 55 #[.val (.ref a6_0), .val (.int p6_1), .val (.int (v6_6 p6_1 w6_from)), .unset, .val (.int (v6_47 p6_1 w6_count))] [(.int w6_to), (.int (v6_47 p6_1 w6_count))])) t := fun t k => pre44 t (by
            refine XS.iadd X44.here hx rfl (hb hby d6_64) rfl ?_
            show Steps p.tables e below (T44.setTop (mkF m 65 #[.val (.ref a6_0), .val (.int p6_1), .val (.int (v6_6 p6_1 w6_from)), .unset, .val (.int (v6_47 p6_1 w6_count))] [(.int ((v6_47 p6_1 w6_count) + w6_count))])) _
            refine XS.goto X44.here hx rfl (pc0 := 65) (pc' := 70) rfl (hb hby d6_65) (by decide) (by decide) ?_
            show Steps p.tables e below (T44.setTop (mkF m 70 #[.val (.ref a6_0), .val (.int p6_1), .val (.int (v6_6 p6_1 w6_from)), .unset, .val (.int (v6_47 p6_1 w6_count))] [(.int ((v6_47 p6_1 w6_count) + w6_count))])) _
            exact k)
          have hj47 : (j6_70_s0_1 p6_1 w6_count w6_to) = ((v6_47 p6_1 w6_count) + w6_count) := by unfold j6_70_s0_1; rw [if_neg hc55_41]
          exact ⟨T44, _, X44, e44, N34, fun t k => pre45 t (by rw [hj47] at k; exact k)⟩
      have pre40 : ∀ t, Steps p.tables e below (T40.setTop (mkF m 70 #[.val (.ref a6_0), .val (.int p6_1), .val (.int (v6_6 p6_1 w6_from)), .unset, .val (.int (v6_47 p6_1 w6_count))] [(.int (j6_70_s0_1 p6_1 w6_count w6_to))])) t → Steps p.tables e below (s₁.setTop (entryFrame m #[(.ref a6_0), (.int p6_1)] 5)) t := fun t k => pre39 t (st40 t k)
      have pre48 : ∀ t, Steps p.tables e below (T40.setTop (mkF m 72 #[.val (.ref a6_0), .val (.int p6_1), .val (.int (v6_6 p6_1 w6_from)), .val (.int (j6_70_s0_1 p6_1 w6_count w6_to)), .val (.int (v6_47 p6_1 w6_count))] [(.int (j6_70_s0_1 p6_1 w6_count w6_to))])) t → Steps p.tables e below (s₁.setTop (entryFrame m #[(.ref a6_0), (.int p6_1)] 5)) t := fun t k => pre40 t (by
        refine XS.istoreN X40.here hx rfl (hb hby d6_70) rfl (l' := #[.val (.ref a6_0), .val (.int p6_1), .val (.int (v6_6 p6_1 w6_from)), .val (.int (j6_70_s0_1 p6_1 w6_count w6_to)), .val (.int (v6_47 p6_1 w6_count))]) rfl ?_
        show Steps p.tables e below (T40.setTop (mkF m 71 #[.val (.ref a6_0), .val (.int p6_1), .val (.int (v6_6 p6_1 w6_from)), .val (.int (j6_70_s0_1 p6_1 w6_count w6_to)), .val (.int (v6_47 p6_1 w6_count))] [])) _
        refine XS.iloadN X40.here hx rfl (hb hby d6_71) rfl ?_
        show Steps p.tables e below (T40.setTop (mkF m 72 #[.val (.ref a6_0), .val (.int p6_1), .val (.int (v6_6 p6_1 w6_from)), .val (.int (j6_70_s0_1 p6_1 w6_count w6_to)), .val (.int (v6_47 p6_1 w6_count))] [(.int (j6_70_s0_1 p6_1 w6_count w6_to))])) _
        exact k)
      have hret : (r6 p6_1 w6_from w6_count w6_to) = (j6_70_s0_1 p6_1 w6_count w6_to) := by unfold r6; rw [if_neg hc8_4, if_neg hc16_28]
      obtain ⟨fs, hr, hrun, hended, hW, hsame⟩ := X40.leave (v := some (.int (j6_70_s0_1 p6_1 w6_count w6_to))) (fun h => by rw [Bd.returns] at h; cases h)
      refine ⟨_, _, pre48 _ ?_, hrun, hended, _, _, rfl, ?_, ⟨_, rfl⟩, hW, hsame.mono (by decide) (by decide)⟩
      · show Steps p.tables e below (T40.setTop (mkF m 72 #[.val (.ref a6_0), .val (.int p6_1), .val (.int (v6_6 p6_1 w6_from)), .val (.int (j6_70_s0_1 p6_1 w6_count w6_to)), .val (.int (v6_47 p6_1 w6_count))] [(.int (j6_70_s0_1 p6_1 w6_count w6_to))])) _
        exact retI X40 hx Bd.returns (hb hby d6_72) hr
      · show Q6 Z a6_0 p6_1 w6_from w6_count w6_to h0 n0 _ T40.heap _
        rw [e40]
        exact ⟨(by rw [hret]), N40, rfl⟩
theorem pn_4 : plainName "com/example/rowforge/rowforge/core/RangeMovedPositionAfterPinLaw" = true := by first | (simp [plainName, overriddenIn]; done) | decide +kernel
theorem d7_0 : decode method_3_code 0 = .ok (.lload 6, 2) := by decide +kernel
theorem d7_2 : decode method_3_code 2 = .ok (.lload_n 0, 1) := by decide +kernel
theorem d7_3 : decode method_3_code 3 = .ok (.lcmp, 1) := by decide +kernel
theorem d7_4 : decode method_3_code 4 = .ok (.ifCond .lt 20, 3) := by decide +kernel
theorem d7_7 : decode method_3_code 7 = .ok (.lload 6, 2) := by decide +kernel
theorem d7_9 : decode method_3_code 9 = .ok (.lload_n 0, 1) := by decide +kernel
theorem d7_10 : decode method_3_code 10 = .ok (.lload 4, 2) := by decide +kernel
theorem d7_12 : decode method_3_code 12 = .ok (.ladd, 1) := by decide +kernel
theorem d7_13 : decode method_3_code 13 = .ok (.lcmp, 1) := by decide +kernel
theorem d7_14 : decode method_3_code 14 = .ok (.ifCond .ge 10, 3) := by decide +kernel
theorem d7_17 : decode method_3_code 17 = .ok (.lload_n 2, 1) := by decide +kernel
theorem d7_18 : decode method_3_code 18 = .ok (.lload 6, 2) := by decide +kernel
theorem d7_20 : decode method_3_code 20 = .ok (.lload_n 0, 1) := by decide +kernel
theorem d7_21 : decode method_3_code 21 = .ok (.lsub, 1) := by decide +kernel
theorem d7_22 : decode method_3_code 22 = .ok (.ladd, 1) := by decide +kernel
theorem d7_23 : decode method_3_code 23 = .ok (.lreturn, 1) := by decide +kernel
theorem d7_24 : decode method_3_code 24 = .ok (.lload_n 0, 1) := by decide +kernel
theorem d7_25 : decode method_3_code 25 = .ok (.lload_n 2, 1) := by decide +kernel
theorem d7_26 : decode method_3_code 26 = .ok (.lcmp, 1) := by decide +kernel
theorem d7_27 : decode method_3_code 27 = .ok (.ifCond .ge 32, 3) := by decide +kernel
theorem d7_30 : decode method_3_code 30 = .ok (.lload 6, 2) := by decide +kernel
theorem d7_32 : decode method_3_code 32 = .ok (.lload_n 0, 1) := by decide +kernel
theorem d7_33 : decode method_3_code 33 = .ok (.lload 4, 2) := by decide +kernel
theorem d7_35 : decode method_3_code 35 = .ok (.ladd, 1) := by decide +kernel
theorem d7_36 : decode method_3_code 36 = .ok (.lcmp, 1) := by decide +kernel
theorem d7_37 : decode method_3_code 37 = .ok (.ifCond .lt 19, 3) := by decide +kernel
theorem d7_40 : decode method_3_code 40 = .ok (.lload 6, 2) := by decide +kernel
theorem d7_42 : decode method_3_code 42 = .ok (.lload_n 2, 1) := by decide +kernel
theorem d7_43 : decode method_3_code 43 = .ok (.lload 4, 2) := by decide +kernel
theorem d7_45 : decode method_3_code 45 = .ok (.ladd, 1) := by decide +kernel
theorem d7_46 : decode method_3_code 46 = .ok (.lcmp, 1) := by decide +kernel
theorem d7_47 : decode method_3_code 47 = .ok (.ifCond .ge 9, 3) := by decide +kernel
theorem d7_50 : decode method_3_code 50 = .ok (.lload 6, 2) := by decide +kernel
theorem d7_52 : decode method_3_code 52 = .ok (.lload 4, 2) := by decide +kernel
theorem d7_54 : decode method_3_code 54 = .ok (.lsub, 1) := by decide +kernel
theorem d7_55 : decode method_3_code 55 = .ok (.lreturn, 1) := by decide +kernel
theorem d7_56 : decode method_3_code 56 = .ok (.lload 6, 2) := by decide +kernel
theorem d7_58 : decode method_3_code 58 = .ok (.lreturn, 1) := by decide +kernel
theorem d7_59 : decode method_3_code 59 = .ok (.lload_n 2, 1) := by decide +kernel
theorem d7_60 : decode method_3_code 60 = .ok (.lload_n 0, 1) := by decide +kernel
theorem d7_61 : decode method_3_code 61 = .ok (.lcmp, 1) := by decide +kernel
theorem d7_62 : decode method_3_code 62 = .ok (.ifCond .ge 26, 3) := by decide +kernel
theorem d7_65 : decode method_3_code 65 = .ok (.lload 6, 2) := by decide +kernel
theorem d7_67 : decode method_3_code 67 = .ok (.lload_n 2, 1) := by decide +kernel
theorem d7_68 : decode method_3_code 68 = .ok (.lcmp, 1) := by decide +kernel
theorem d7_69 : decode method_3_code 69 = .ok (.ifCond .lt 16, 3) := by decide +kernel
theorem d7_72 : decode method_3_code 72 = .ok (.lload 6, 2) := by decide +kernel
theorem d7_74 : decode method_3_code 74 = .ok (.lload_n 0, 1) := by decide +kernel
theorem d7_75 : decode method_3_code 75 = .ok (.lcmp, 1) := by decide +kernel
theorem d7_76 : decode method_3_code 76 = .ok (.ifCond .ge 9, 3) := by decide +kernel
theorem d7_79 : decode method_3_code 79 = .ok (.lload 6, 2) := by decide +kernel
theorem d7_81 : decode method_3_code 81 = .ok (.lload 4, 2) := by decide +kernel
theorem d7_83 : decode method_3_code 83 = .ok (.ladd, 1) := by decide +kernel
theorem d7_84 : decode method_3_code 84 = .ok (.lreturn, 1) := by decide +kernel
theorem d7_85 : decode method_3_code 85 = .ok (.lload 6, 2) := by decide +kernel
theorem d7_87 : decode method_3_code 87 = .ok (.lreturn, 1) := by decide +kernel
theorem d7_88 : decode method_3_code 88 = .ok (.lload 6, 2) := by decide +kernel
theorem d7_90 : decode method_3_code 90 = .ok (.lreturn, 1) := by decide +kernel
theorem ef_7 (m : MethodId) (x0 : Int64) (x1 : Int64) (x2 : Int64) (x3 : Int64) : entryFrame m #[(.long x0), (.long x1), (.long x2), (.long x3)] 8 = mkF m 0 #[.val (.long x0), .second, .val (.long x1), .second, .val (.long x2), .second, .val (.long x3), .second] [] := by first | (simp [entryFrame, mkF, argsToLocals, Value.category]; done) | rfl
abbrev R7 : Room := { frames := 0, cells := 0, slots := 0, locals := 0 }
def r7 (p7_0 : Int64) (p7_1 : Int64) (p7_2 : Int64) (p7_3 : Int64) : Int64 := (if p7_3 < p7_0 then (if p7_0 < p7_1 then (if p7_3 < (p7_0 + p7_2) then p7_3 else (if p7_3 < (p7_1 + p7_2) then (p7_3 - p7_2) else p7_3)) else (if p7_1 < p7_0 then (if p7_3 < p7_1 then p7_3 else (p7_3 + p7_2)) else p7_3)) else (if p7_3 < (p7_0 + p7_2) then (p7_1 + (p7_3 - p7_0)) else (if p7_0 < p7_1 then (if p7_3 < (p7_1 + p7_2) then (p7_3 - p7_2) else p7_3) else (if p7_1 < p7_0 then (if p7_3 < p7_1 then p7_3 else p7_3) else p7_3))))
def Q7 (Z : State) (p7_0 : Int64) (p7_1 : Int64) (p7_2 : Int64) (p7_3 : Int64) (h0 : Heap) (n0 : Nat) (v : Option Value) (h : Heap) (L : List Loc) : Prop := v = some (.long (r7 p7_0 p7_1 p7_2 p7_3)) ∧ Fr n0 L ∧ h = h0
set_option maxRecDepth 65536 in
set_option maxHeartbeats 40000000 in
theorem rm7 (l : Launch) (Z : State) (a0 : Array Value) (hw : ∀ d ∈ tables_1, d.before a0 Z = true) (ws : List Jvm.Cond) (p7_0 : Int64) (p7_1 : Int64) (p7_2 : Int64) (p7_3 : Int64) (h0 : Heap) (n0 : Nat) (Z0 : n0 ≤ h0.size) :
    MetFree l (⟨"com/example/rowforge/rowforge/core/RangeMovedPositionAfterPinLaw", "expected", "(JJJJ)J"⟩ : MethodName) (head1 (Jvm.Cond.code (⟨"com/example/rowforge/rowforge/core/RangeMovedPositionAfterPinLaw", "expected", "(JJJJ)J"⟩ : MethodName) method_3_code 8 (some .long) :: ws) R7) (fun a U => a = #[(.long p7_0), (.long p7_1), (.long p7_2), (.long p7_3)] ∧ Z.Warmed39 U.vm ∧ U.heap = h0) (fun _ _ _ _ _ => True) (fun _ U o U' => ∃ v L, o = .returned v ∧ Q7 Z p7_0 p7_1 p7_2 p7_3 h0 n0 v U'.heap L ∧ FrameEnd U o U' L R7.cells R7.slots) := by
  refine MetFree.of_bodySF (plainFor_of_name pn_4) hisR ?_
  intro p e s m args below meth c s₁ Bd hml0 hP hK
  obtain ⟨rfl, hZ, hh⟩ := hP
  have hx := Bd.exec
  have hby := Bd.bytes
  have hml : c.maxLocals = 8 := hml0
  have hown : s.vm.findClass "com/example/rowforge/rowforge/core/RangeMovedPositionAfterPinLaw" = some m.cls := findClass_of_methodNamed Bd.named
  have hnm := (name_of_methodNamed Bd.named Bd.method).1
  have X0 : Stand p l e R7 s m #[(.long p7_0), (.long p7_1), (.long p7_2), (.long p7_3)] below meth c s₁ [] 0 0 := Stand.of_body Bd
  have e0 : s₁.heap = h0 := by rw [← hh, Bd.state]; rfl
  have N0 := Fr.nil n0
  have pre0 : ∀ t, Steps p.tables e below (s₁.setTop (mkF m 0 #[.val (.long p7_0), .second, .val (.long p7_1), .second, .val (.long p7_2), .second, .val (.long p7_3), .second] [])) t → Steps p.tables e below (s₁.setTop (entryFrame m #[(.long p7_0), (.long p7_1), (.long p7_2), (.long p7_3)] 8)) t := fun t k => castTop (ef_7 m p7_0 p7_1 p7_2 p7_3) k
  have pre1 : ∀ t, Steps p.tables e below (s₁.setTop (mkF m 4 #[.val (.long p7_0), .second, .val (.long p7_1), .second, .val (.long p7_2), .second, .val (.long p7_3), .second] [(.int (lcmpW p7_3 p7_0))])) t → Steps p.tables e below (s₁.setTop (entryFrame m #[(.long p7_0), (.long p7_1), (.long p7_2), (.long p7_3)] 8)) t := fun t k => pre0 t (by
    refine XS.lload X0.here hx rfl (hb hby d7_0) rfl ?_
    show Steps p.tables e below (s₁.setTop (mkF m 2 #[.val (.long p7_0), .second, .val (.long p7_1), .second, .val (.long p7_2), .second, .val (.long p7_3), .second] [(.long p7_3)])) _
    refine XS.lloadN X0.here hx rfl (hb hby d7_2) rfl ?_
    show Steps p.tables e below (s₁.setTop (mkF m 3 #[.val (.long p7_0), .second, .val (.long p7_1), .second, .val (.long p7_2), .second, .val (.long p7_3), .second] [(.long p7_0), (.long p7_3)])) _
    refine XS.lcmp X0.here hx rfl (hb hby d7_3) rfl ?_
    show Steps p.tables e below (s₁.setTop (mkF m 4 #[.val (.long p7_0), .second, .val (.long p7_1), .second, .val (.long p7_2), .second, .val (.long p7_3), .second] [(.int (lcmpW p7_3 p7_0))])) _
    exact k)
  by_cases hc4_2 : p7_3 < p7_0
  · have pre3 : ∀ t, Steps p.tables e below (s₁.setTop (mkF m 27 #[.val (.long p7_0), .second, .val (.long p7_1), .second, .val (.long p7_2), .second, .val (.long p7_3), .second] [(.int (lcmpW p7_0 p7_1))])) t → Steps p.tables e below (s₁.setTop (entryFrame m #[(.long p7_0), (.long p7_1), (.long p7_2), (.long p7_3)] 8)) t := fun t k => pre1 t (by
      refine XS.ifYes X0.here hx rfl (pc0 := 4) (pc' := 24) rfl (hb hby d7_4) rfl ((if0 _ _).trans (tlt ((lw_lt p7_3 p7_0).mpr hc4_2)).1) (by decide) (by decide) ?_
      show Steps p.tables e below (s₁.setTop (mkF m 24 #[.val (.long p7_0), .second, .val (.long p7_1), .second, .val (.long p7_2), .second, .val (.long p7_3), .second] [])) _
      refine XS.lloadN X0.here hx rfl (hb hby d7_24) rfl ?_
      show Steps p.tables e below (s₁.setTop (mkF m 25 #[.val (.long p7_0), .second, .val (.long p7_1), .second, .val (.long p7_2), .second, .val (.long p7_3), .second] [(.long p7_0)])) _
      refine XS.lloadN X0.here hx rfl (hb hby d7_25) rfl ?_
      show Steps p.tables e below (s₁.setTop (mkF m 26 #[.val (.long p7_0), .second, .val (.long p7_1), .second, .val (.long p7_2), .second, .val (.long p7_3), .second] [(.long p7_1), (.long p7_0)])) _
      refine XS.lcmp X0.here hx rfl (hb hby d7_26) rfl ?_
      show Steps p.tables e below (s₁.setTop (mkF m 27 #[.val (.long p7_0), .second, .val (.long p7_1), .second, .val (.long p7_2), .second, .val (.long p7_3), .second] [(.int (lcmpW p7_0 p7_1))])) _
      exact k)
    by_cases hc27_4 : p7_0 < p7_1
    · have pre5 : ∀ t, Steps p.tables e below (s₁.setTop (mkF m 37 #[.val (.long p7_0), .second, .val (.long p7_1), .second, .val (.long p7_2), .second, .val (.long p7_3), .second] [(.int (lcmpW p7_3 (p7_0 + p7_2)))])) t → Steps p.tables e below (s₁.setTop (entryFrame m #[(.long p7_0), (.long p7_1), (.long p7_2), (.long p7_3)] 8)) t := fun t k => pre3 t (by
        refine XS.ifNo X0.here hx rfl (hb hby d7_27) rfl ((if0 _ _).trans (tlt ((lw_lt p7_0 p7_1).mpr hc27_4)).2.1) ?_
        show Steps p.tables e below (s₁.setTop (mkF m 30 #[.val (.long p7_0), .second, .val (.long p7_1), .second, .val (.long p7_2), .second, .val (.long p7_3), .second] [])) _
        refine XS.lload X0.here hx rfl (hb hby d7_30) rfl ?_
        show Steps p.tables e below (s₁.setTop (mkF m 32 #[.val (.long p7_0), .second, .val (.long p7_1), .second, .val (.long p7_2), .second, .val (.long p7_3), .second] [(.long p7_3)])) _
        refine XS.lloadN X0.here hx rfl (hb hby d7_32) rfl ?_
        show Steps p.tables e below (s₁.setTop (mkF m 33 #[.val (.long p7_0), .second, .val (.long p7_1), .second, .val (.long p7_2), .second, .val (.long p7_3), .second] [(.long p7_0), (.long p7_3)])) _
        refine XS.lload X0.here hx rfl (hb hby d7_33) rfl ?_
        show Steps p.tables e below (s₁.setTop (mkF m 35 #[.val (.long p7_0), .second, .val (.long p7_1), .second, .val (.long p7_2), .second, .val (.long p7_3), .second] [(.long p7_2), (.long p7_0), (.long p7_3)])) _
        refine XS.ladd X0.here hx rfl (hb hby d7_35) rfl ?_
        show Steps p.tables e below (s₁.setTop (mkF m 36 #[.val (.long p7_0), .second, .val (.long p7_1), .second, .val (.long p7_2), .second, .val (.long p7_3), .second] [(.long (p7_0 + p7_2)), (.long p7_3)])) _
        refine XS.lcmp X0.here hx rfl (hb hby d7_36) rfl ?_
        show Steps p.tables e below (s₁.setTop (mkF m 37 #[.val (.long p7_0), .second, .val (.long p7_1), .second, .val (.long p7_2), .second, .val (.long p7_3), .second] [(.int (lcmpW p7_3 (p7_0 + p7_2)))])) _
        exact k)
      by_cases hc37_6 : p7_3 < (p7_0 + p7_2)
      · have pre7 : ∀ t, Steps p.tables e below (s₁.setTop (mkF m 58 #[.val (.long p7_0), .second, .val (.long p7_1), .second, .val (.long p7_2), .second, .val (.long p7_3), .second] [(.long p7_3)])) t → Steps p.tables e below (s₁.setTop (entryFrame m #[(.long p7_0), (.long p7_1), (.long p7_2), (.long p7_3)] 8)) t := fun t k => pre5 t (by
          refine XS.ifYes X0.here hx rfl (pc0 := 37) (pc' := 56) rfl (hb hby d7_37) rfl ((if0 _ _).trans (tlt ((lw_lt p7_3 (p7_0 + p7_2)).mpr hc37_6)).1) (by decide) (by decide) ?_
          show Steps p.tables e below (s₁.setTop (mkF m 56 #[.val (.long p7_0), .second, .val (.long p7_1), .second, .val (.long p7_2), .second, .val (.long p7_3), .second] [])) _
          refine XS.lload X0.here hx rfl (hb hby d7_56) rfl ?_
          show Steps p.tables e below (s₁.setTop (mkF m 58 #[.val (.long p7_0), .second, .val (.long p7_1), .second, .val (.long p7_2), .second, .val (.long p7_3), .second] [(.long p7_3)])) _
          exact k)
        have hret : (r7 p7_0 p7_1 p7_2 p7_3) = p7_3 := by unfold r7; rw [if_pos hc4_2, if_pos hc27_4, if_pos hc37_6]
        obtain ⟨fs, hr, hrun, hended, hW, hsame⟩ := X0.leave (v := some (.long p7_3)) (fun h => by rw [Bd.returns] at h; cases h)
        refine ⟨_, _, pre7 _ ?_, hrun, hended, _, _, rfl, ?_, ⟨_, rfl⟩, hW, hsame.mono (by decide) (by decide)⟩
        · show Steps p.tables e below (s₁.setTop (mkF m 58 #[.val (.long p7_0), .second, .val (.long p7_1), .second, .val (.long p7_2), .second, .val (.long p7_3), .second] [(.long p7_3)])) _
          exact own_retJ X0 hx Bd.returns (hb hby d7_58) hr
        · show Q7 Z p7_0 p7_1 p7_2 p7_3 h0 n0 _ s₁.heap _
          rw [e0]
          exact ⟨(by rw [hret]), N0, rfl⟩
      · have pre8 : ∀ t, Steps p.tables e below (s₁.setTop (mkF m 47 #[.val (.long p7_0), .second, .val (.long p7_1), .second, .val (.long p7_2), .second, .val (.long p7_3), .second] [(.int (lcmpW p7_3 (p7_1 + p7_2)))])) t → Steps p.tables e below (s₁.setTop (entryFrame m #[(.long p7_0), (.long p7_1), (.long p7_2), (.long p7_3)] 8)) t := fun t k => pre5 t (by
          refine XS.ifNo X0.here hx rfl (hb hby d7_37) rfl ((if0 _ _).trans (flt (fun q => hc37_6 ((lw_lt p7_3 (p7_0 + p7_2)).mp q))).1) ?_
          show Steps p.tables e below (s₁.setTop (mkF m 40 #[.val (.long p7_0), .second, .val (.long p7_1), .second, .val (.long p7_2), .second, .val (.long p7_3), .second] [])) _
          refine XS.lload X0.here hx rfl (hb hby d7_40) rfl ?_
          show Steps p.tables e below (s₁.setTop (mkF m 42 #[.val (.long p7_0), .second, .val (.long p7_1), .second, .val (.long p7_2), .second, .val (.long p7_3), .second] [(.long p7_3)])) _
          refine XS.lloadN X0.here hx rfl (hb hby d7_42) rfl ?_
          show Steps p.tables e below (s₁.setTop (mkF m 43 #[.val (.long p7_0), .second, .val (.long p7_1), .second, .val (.long p7_2), .second, .val (.long p7_3), .second] [(.long p7_1), (.long p7_3)])) _
          refine XS.lload X0.here hx rfl (hb hby d7_43) rfl ?_
          show Steps p.tables e below (s₁.setTop (mkF m 45 #[.val (.long p7_0), .second, .val (.long p7_1), .second, .val (.long p7_2), .second, .val (.long p7_3), .second] [(.long p7_2), (.long p7_1), (.long p7_3)])) _
          refine XS.ladd X0.here hx rfl (hb hby d7_45) rfl ?_
          show Steps p.tables e below (s₁.setTop (mkF m 46 #[.val (.long p7_0), .second, .val (.long p7_1), .second, .val (.long p7_2), .second, .val (.long p7_3), .second] [(.long (p7_1 + p7_2)), (.long p7_3)])) _
          refine XS.lcmp X0.here hx rfl (hb hby d7_46) rfl ?_
          show Steps p.tables e below (s₁.setTop (mkF m 47 #[.val (.long p7_0), .second, .val (.long p7_1), .second, .val (.long p7_2), .second, .val (.long p7_3), .second] [(.int (lcmpW p7_3 (p7_1 + p7_2)))])) _
          exact k)
        by_cases hc47_9 : p7_3 < (p7_1 + p7_2)
        · have pre10 : ∀ t, Steps p.tables e below (s₁.setTop (mkF m 55 #[.val (.long p7_0), .second, .val (.long p7_1), .second, .val (.long p7_2), .second, .val (.long p7_3), .second] [(.long (p7_3 - p7_2))])) t → Steps p.tables e below (s₁.setTop (entryFrame m #[(.long p7_0), (.long p7_1), (.long p7_2), (.long p7_3)] 8)) t := fun t k => pre8 t (by
            refine XS.ifNo X0.here hx rfl (hb hby d7_47) rfl ((if0 _ _).trans (tlt ((lw_lt p7_3 (p7_1 + p7_2)).mpr hc47_9)).2.1) ?_
            show Steps p.tables e below (s₁.setTop (mkF m 50 #[.val (.long p7_0), .second, .val (.long p7_1), .second, .val (.long p7_2), .second, .val (.long p7_3), .second] [])) _
            refine XS.lload X0.here hx rfl (hb hby d7_50) rfl ?_
            show Steps p.tables e below (s₁.setTop (mkF m 52 #[.val (.long p7_0), .second, .val (.long p7_1), .second, .val (.long p7_2), .second, .val (.long p7_3), .second] [(.long p7_3)])) _
            refine XS.lload X0.here hx rfl (hb hby d7_52) rfl ?_
            show Steps p.tables e below (s₁.setTop (mkF m 54 #[.val (.long p7_0), .second, .val (.long p7_1), .second, .val (.long p7_2), .second, .val (.long p7_3), .second] [(.long p7_2), (.long p7_3)])) _
            refine XS.lsub X0.here hx rfl (hb hby d7_54) rfl ?_
            show Steps p.tables e below (s₁.setTop (mkF m 55 #[.val (.long p7_0), .second, .val (.long p7_1), .second, .val (.long p7_2), .second, .val (.long p7_3), .second] [(.long (p7_3 - p7_2))])) _
            exact k)
          have hret : (r7 p7_0 p7_1 p7_2 p7_3) = (p7_3 - p7_2) := by unfold r7; rw [if_pos hc4_2, if_pos hc27_4, if_neg hc37_6, if_pos hc47_9]
          obtain ⟨fs, hr, hrun, hended, hW, hsame⟩ := X0.leave (v := some (.long (p7_3 - p7_2))) (fun h => by rw [Bd.returns] at h; cases h)
          refine ⟨_, _, pre10 _ ?_, hrun, hended, _, _, rfl, ?_, ⟨_, rfl⟩, hW, hsame.mono (by decide) (by decide)⟩
          · show Steps p.tables e below (s₁.setTop (mkF m 55 #[.val (.long p7_0), .second, .val (.long p7_1), .second, .val (.long p7_2), .second, .val (.long p7_3), .second] [(.long (p7_3 - p7_2))])) _
            exact own_retJ X0 hx Bd.returns (hb hby d7_55) hr
          · show Q7 Z p7_0 p7_1 p7_2 p7_3 h0 n0 _ s₁.heap _
            rw [e0]
            exact ⟨(by rw [hret]), N0, rfl⟩
        · have pre11 : ∀ t, Steps p.tables e below (s₁.setTop (mkF m 58 #[.val (.long p7_0), .second, .val (.long p7_1), .second, .val (.long p7_2), .second, .val (.long p7_3), .second] [(.long p7_3)])) t → Steps p.tables e below (s₁.setTop (entryFrame m #[(.long p7_0), (.long p7_1), (.long p7_2), (.long p7_3)] 8)) t := fun t k => pre8 t (by
            refine XS.ifYes X0.here hx rfl (pc0 := 47) (pc' := 56) rfl (hb hby d7_47) rfl ((if0 _ _).trans (flt (fun q => hc47_9 ((lw_lt p7_3 (p7_1 + p7_2)).mp q))).2.1) (by decide) (by decide) ?_
            show Steps p.tables e below (s₁.setTop (mkF m 56 #[.val (.long p7_0), .second, .val (.long p7_1), .second, .val (.long p7_2), .second, .val (.long p7_3), .second] [])) _
            refine XS.lload X0.here hx rfl (hb hby d7_56) rfl ?_
            show Steps p.tables e below (s₁.setTop (mkF m 58 #[.val (.long p7_0), .second, .val (.long p7_1), .second, .val (.long p7_2), .second, .val (.long p7_3), .second] [(.long p7_3)])) _
            exact k)
          have hret : (r7 p7_0 p7_1 p7_2 p7_3) = p7_3 := by unfold r7; rw [if_pos hc4_2, if_pos hc27_4, if_neg hc37_6, if_neg hc47_9]
          obtain ⟨fs, hr, hrun, hended, hW, hsame⟩ := X0.leave (v := some (.long p7_3)) (fun h => by rw [Bd.returns] at h; cases h)
          refine ⟨_, _, pre11 _ ?_, hrun, hended, _, _, rfl, ?_, ⟨_, rfl⟩, hW, hsame.mono (by decide) (by decide)⟩
          · show Steps p.tables e below (s₁.setTop (mkF m 58 #[.val (.long p7_0), .second, .val (.long p7_1), .second, .val (.long p7_2), .second, .val (.long p7_3), .second] [(.long p7_3)])) _
            exact own_retJ X0 hx Bd.returns (hb hby d7_58) hr
          · show Q7 Z p7_0 p7_1 p7_2 p7_3 h0 n0 _ s₁.heap _
            rw [e0]
            exact ⟨(by rw [hret]), N0, rfl⟩
    · have pre12 : ∀ t, Steps p.tables e below (s₁.setTop (mkF m 62 #[.val (.long p7_0), .second, .val (.long p7_1), .second, .val (.long p7_2), .second, .val (.long p7_3), .second] [(.int (lcmpW p7_1 p7_0))])) t → Steps p.tables e below (s₁.setTop (entryFrame m #[(.long p7_0), (.long p7_1), (.long p7_2), (.long p7_3)] 8)) t := fun t k => pre3 t (by
        refine XS.ifYes X0.here hx rfl (pc0 := 27) (pc' := 59) rfl (hb hby d7_27) rfl ((if0 _ _).trans (flt (fun q => hc27_4 ((lw_lt p7_0 p7_1).mp q))).2.1) (by decide) (by decide) ?_
        show Steps p.tables e below (s₁.setTop (mkF m 59 #[.val (.long p7_0), .second, .val (.long p7_1), .second, .val (.long p7_2), .second, .val (.long p7_3), .second] [])) _
        refine XS.lloadN X0.here hx rfl (hb hby d7_59) rfl ?_
        show Steps p.tables e below (s₁.setTop (mkF m 60 #[.val (.long p7_0), .second, .val (.long p7_1), .second, .val (.long p7_2), .second, .val (.long p7_3), .second] [(.long p7_1)])) _
        refine XS.lloadN X0.here hx rfl (hb hby d7_60) rfl ?_
        show Steps p.tables e below (s₁.setTop (mkF m 61 #[.val (.long p7_0), .second, .val (.long p7_1), .second, .val (.long p7_2), .second, .val (.long p7_3), .second] [(.long p7_0), (.long p7_1)])) _
        refine XS.lcmp X0.here hx rfl (hb hby d7_61) rfl ?_
        show Steps p.tables e below (s₁.setTop (mkF m 62 #[.val (.long p7_0), .second, .val (.long p7_1), .second, .val (.long p7_2), .second, .val (.long p7_3), .second] [(.int (lcmpW p7_1 p7_0))])) _
        exact k)
      by_cases hc62_13 : p7_1 < p7_0
      · have pre14 : ∀ t, Steps p.tables e below (s₁.setTop (mkF m 69 #[.val (.long p7_0), .second, .val (.long p7_1), .second, .val (.long p7_2), .second, .val (.long p7_3), .second] [(.int (lcmpW p7_3 p7_1))])) t → Steps p.tables e below (s₁.setTop (entryFrame m #[(.long p7_0), (.long p7_1), (.long p7_2), (.long p7_3)] 8)) t := fun t k => pre12 t (by
          refine XS.ifNo X0.here hx rfl (hb hby d7_62) rfl ((if0 _ _).trans (tlt ((lw_lt p7_1 p7_0).mpr hc62_13)).2.1) ?_
          show Steps p.tables e below (s₁.setTop (mkF m 65 #[.val (.long p7_0), .second, .val (.long p7_1), .second, .val (.long p7_2), .second, .val (.long p7_3), .second] [])) _
          refine XS.lload X0.here hx rfl (hb hby d7_65) rfl ?_
          show Steps p.tables e below (s₁.setTop (mkF m 67 #[.val (.long p7_0), .second, .val (.long p7_1), .second, .val (.long p7_2), .second, .val (.long p7_3), .second] [(.long p7_3)])) _
          refine XS.lloadN X0.here hx rfl (hb hby d7_67) rfl ?_
          show Steps p.tables e below (s₁.setTop (mkF m 68 #[.val (.long p7_0), .second, .val (.long p7_1), .second, .val (.long p7_2), .second, .val (.long p7_3), .second] [(.long p7_1), (.long p7_3)])) _
          refine XS.lcmp X0.here hx rfl (hb hby d7_68) rfl ?_
          show Steps p.tables e below (s₁.setTop (mkF m 69 #[.val (.long p7_0), .second, .val (.long p7_1), .second, .val (.long p7_2), .second, .val (.long p7_3), .second] [(.int (lcmpW p7_3 p7_1))])) _
          exact k)
        by_cases hc69_15 : p7_3 < p7_1
        · have pre16 : ∀ t, Steps p.tables e below (s₁.setTop (mkF m 87 #[.val (.long p7_0), .second, .val (.long p7_1), .second, .val (.long p7_2), .second, .val (.long p7_3), .second] [(.long p7_3)])) t → Steps p.tables e below (s₁.setTop (entryFrame m #[(.long p7_0), (.long p7_1), (.long p7_2), (.long p7_3)] 8)) t := fun t k => pre14 t (by
            refine XS.ifYes X0.here hx rfl (pc0 := 69) (pc' := 85) rfl (hb hby d7_69) rfl ((if0 _ _).trans (tlt ((lw_lt p7_3 p7_1).mpr hc69_15)).1) (by decide) (by decide) ?_
            show Steps p.tables e below (s₁.setTop (mkF m 85 #[.val (.long p7_0), .second, .val (.long p7_1), .second, .val (.long p7_2), .second, .val (.long p7_3), .second] [])) _
            refine XS.lload X0.here hx rfl (hb hby d7_85) rfl ?_
            show Steps p.tables e below (s₁.setTop (mkF m 87 #[.val (.long p7_0), .second, .val (.long p7_1), .second, .val (.long p7_2), .second, .val (.long p7_3), .second] [(.long p7_3)])) _
            exact k)
          have hret : (r7 p7_0 p7_1 p7_2 p7_3) = p7_3 := by unfold r7; rw [if_pos hc4_2, if_neg hc27_4, if_pos hc62_13, if_pos hc69_15]
          obtain ⟨fs, hr, hrun, hended, hW, hsame⟩ := X0.leave (v := some (.long p7_3)) (fun h => by rw [Bd.returns] at h; cases h)
          refine ⟨_, _, pre16 _ ?_, hrun, hended, _, _, rfl, ?_, ⟨_, rfl⟩, hW, hsame.mono (by decide) (by decide)⟩
          · show Steps p.tables e below (s₁.setTop (mkF m 87 #[.val (.long p7_0), .second, .val (.long p7_1), .second, .val (.long p7_2), .second, .val (.long p7_3), .second] [(.long p7_3)])) _
            exact own_retJ X0 hx Bd.returns (hb hby d7_87) hr
          · show Q7 Z p7_0 p7_1 p7_2 p7_3 h0 n0 _ s₁.heap _
            rw [e0]
            exact ⟨(by rw [hret]), N0, rfl⟩
        · have pre17 : ∀ t, Steps p.tables e below (s₁.setTop (mkF m 84 #[.val (.long p7_0), .second, .val (.long p7_1), .second, .val (.long p7_2), .second, .val (.long p7_3), .second] [(.long (p7_3 + p7_2))])) t → Steps p.tables e below (s₁.setTop (entryFrame m #[(.long p7_0), (.long p7_1), (.long p7_2), (.long p7_3)] 8)) t := fun t k => pre14 t (by
            refine XS.ifNo X0.here hx rfl (hb hby d7_69) rfl ((if0 _ _).trans (flt (fun q => hc69_15 ((lw_lt p7_3 p7_1).mp q))).1) ?_
            show Steps p.tables e below (s₁.setTop (mkF m 72 #[.val (.long p7_0), .second, .val (.long p7_1), .second, .val (.long p7_2), .second, .val (.long p7_3), .second] [])) _
            refine XS.lload X0.here hx rfl (hb hby d7_72) rfl ?_
            show Steps p.tables e below (s₁.setTop (mkF m 74 #[.val (.long p7_0), .second, .val (.long p7_1), .second, .val (.long p7_2), .second, .val (.long p7_3), .second] [(.long p7_3)])) _
            refine XS.lloadN X0.here hx rfl (hb hby d7_74) rfl ?_
            show Steps p.tables e below (s₁.setTop (mkF m 75 #[.val (.long p7_0), .second, .val (.long p7_1), .second, .val (.long p7_2), .second, .val (.long p7_3), .second] [(.long p7_0), (.long p7_3)])) _
            refine XS.lcmp X0.here hx rfl (hb hby d7_75) rfl ?_
            show Steps p.tables e below (s₁.setTop (mkF m 76 #[.val (.long p7_0), .second, .val (.long p7_1), .second, .val (.long p7_2), .second, .val (.long p7_3), .second] [(.int (lcmpW p7_3 p7_0))])) _
            refine XS.ifNo X0.here hx rfl (hb hby d7_76) rfl ((if0 _ _).trans (tlt ((lw_lt p7_3 p7_0).mpr hc4_2)).2.1) ?_
            show Steps p.tables e below (s₁.setTop (mkF m 79 #[.val (.long p7_0), .second, .val (.long p7_1), .second, .val (.long p7_2), .second, .val (.long p7_3), .second] [])) _
            refine XS.lload X0.here hx rfl (hb hby d7_79) rfl ?_
            show Steps p.tables e below (s₁.setTop (mkF m 81 #[.val (.long p7_0), .second, .val (.long p7_1), .second, .val (.long p7_2), .second, .val (.long p7_3), .second] [(.long p7_3)])) _
            refine XS.lload X0.here hx rfl (hb hby d7_81) rfl ?_
            show Steps p.tables e below (s₁.setTop (mkF m 83 #[.val (.long p7_0), .second, .val (.long p7_1), .second, .val (.long p7_2), .second, .val (.long p7_3), .second] [(.long p7_2), (.long p7_3)])) _
            refine XS.ladd X0.here hx rfl (hb hby d7_83) rfl ?_
            show Steps p.tables e below (s₁.setTop (mkF m 84 #[.val (.long p7_0), .second, .val (.long p7_1), .second, .val (.long p7_2), .second, .val (.long p7_3), .second] [(.long (p7_3 + p7_2))])) _
            exact k)
          have hret : (r7 p7_0 p7_1 p7_2 p7_3) = (p7_3 + p7_2) := by unfold r7; rw [if_pos hc4_2, if_neg hc27_4, if_pos hc62_13, if_neg hc69_15]
          obtain ⟨fs, hr, hrun, hended, hW, hsame⟩ := X0.leave (v := some (.long (p7_3 + p7_2))) (fun h => by rw [Bd.returns] at h; cases h)
          refine ⟨_, _, pre17 _ ?_, hrun, hended, _, _, rfl, ?_, ⟨_, rfl⟩, hW, hsame.mono (by decide) (by decide)⟩
          · show Steps p.tables e below (s₁.setTop (mkF m 84 #[.val (.long p7_0), .second, .val (.long p7_1), .second, .val (.long p7_2), .second, .val (.long p7_3), .second] [(.long (p7_3 + p7_2))])) _
            exact own_retJ X0 hx Bd.returns (hb hby d7_84) hr
          · show Q7 Z p7_0 p7_1 p7_2 p7_3 h0 n0 _ s₁.heap _
            rw [e0]
            exact ⟨(by rw [hret]), N0, rfl⟩
      · have pre18 : ∀ t, Steps p.tables e below (s₁.setTop (mkF m 90 #[.val (.long p7_0), .second, .val (.long p7_1), .second, .val (.long p7_2), .second, .val (.long p7_3), .second] [(.long p7_3)])) t → Steps p.tables e below (s₁.setTop (entryFrame m #[(.long p7_0), (.long p7_1), (.long p7_2), (.long p7_3)] 8)) t := fun t k => pre12 t (by
          refine XS.ifYes X0.here hx rfl (pc0 := 62) (pc' := 88) rfl (hb hby d7_62) rfl ((if0 _ _).trans (flt (fun q => hc62_13 ((lw_lt p7_1 p7_0).mp q))).2.1) (by decide) (by decide) ?_
          show Steps p.tables e below (s₁.setTop (mkF m 88 #[.val (.long p7_0), .second, .val (.long p7_1), .second, .val (.long p7_2), .second, .val (.long p7_3), .second] [])) _
          refine XS.lload X0.here hx rfl (hb hby d7_88) rfl ?_
          show Steps p.tables e below (s₁.setTop (mkF m 90 #[.val (.long p7_0), .second, .val (.long p7_1), .second, .val (.long p7_2), .second, .val (.long p7_3), .second] [(.long p7_3)])) _
          exact k)
        have hret : (r7 p7_0 p7_1 p7_2 p7_3) = p7_3 := by unfold r7; rw [if_pos hc4_2, if_neg hc27_4, if_neg hc62_13]
        obtain ⟨fs, hr, hrun, hended, hW, hsame⟩ := X0.leave (v := some (.long p7_3)) (fun h => by rw [Bd.returns] at h; cases h)
        refine ⟨_, _, pre18 _ ?_, hrun, hended, _, _, rfl, ?_, ⟨_, rfl⟩, hW, hsame.mono (by decide) (by decide)⟩
        · show Steps p.tables e below (s₁.setTop (mkF m 90 #[.val (.long p7_0), .second, .val (.long p7_1), .second, .val (.long p7_2), .second, .val (.long p7_3), .second] [(.long p7_3)])) _
          exact own_retJ X0 hx Bd.returns (hb hby d7_90) hr
        · show Q7 Z p7_0 p7_1 p7_2 p7_3 h0 n0 _ s₁.heap _
          rw [e0]
          exact ⟨(by rw [hret]), N0, rfl⟩
  · have pre19 : ∀ t, Steps p.tables e below (s₁.setTop (mkF m 14 #[.val (.long p7_0), .second, .val (.long p7_1), .second, .val (.long p7_2), .second, .val (.long p7_3), .second] [(.int (lcmpW p7_3 (p7_0 + p7_2)))])) t → Steps p.tables e below (s₁.setTop (entryFrame m #[(.long p7_0), (.long p7_1), (.long p7_2), (.long p7_3)] 8)) t := fun t k => pre1 t (by
      refine XS.ifNo X0.here hx rfl (hb hby d7_4) rfl ((if0 _ _).trans (flt (fun q => hc4_2 ((lw_lt p7_3 p7_0).mp q))).1) ?_
      show Steps p.tables e below (s₁.setTop (mkF m 7 #[.val (.long p7_0), .second, .val (.long p7_1), .second, .val (.long p7_2), .second, .val (.long p7_3), .second] [])) _
      refine XS.lload X0.here hx rfl (hb hby d7_7) rfl ?_
      show Steps p.tables e below (s₁.setTop (mkF m 9 #[.val (.long p7_0), .second, .val (.long p7_1), .second, .val (.long p7_2), .second, .val (.long p7_3), .second] [(.long p7_3)])) _
      refine XS.lloadN X0.here hx rfl (hb hby d7_9) rfl ?_
      show Steps p.tables e below (s₁.setTop (mkF m 10 #[.val (.long p7_0), .second, .val (.long p7_1), .second, .val (.long p7_2), .second, .val (.long p7_3), .second] [(.long p7_0), (.long p7_3)])) _
      refine XS.lload X0.here hx rfl (hb hby d7_10) rfl ?_
      show Steps p.tables e below (s₁.setTop (mkF m 12 #[.val (.long p7_0), .second, .val (.long p7_1), .second, .val (.long p7_2), .second, .val (.long p7_3), .second] [(.long p7_2), (.long p7_0), (.long p7_3)])) _
      refine XS.ladd X0.here hx rfl (hb hby d7_12) rfl ?_
      show Steps p.tables e below (s₁.setTop (mkF m 13 #[.val (.long p7_0), .second, .val (.long p7_1), .second, .val (.long p7_2), .second, .val (.long p7_3), .second] [(.long (p7_0 + p7_2)), (.long p7_3)])) _
      refine XS.lcmp X0.here hx rfl (hb hby d7_13) rfl ?_
      show Steps p.tables e below (s₁.setTop (mkF m 14 #[.val (.long p7_0), .second, .val (.long p7_1), .second, .val (.long p7_2), .second, .val (.long p7_3), .second] [(.int (lcmpW p7_3 (p7_0 + p7_2)))])) _
      exact k)
    by_cases hc14_20 : p7_3 < (p7_0 + p7_2)
    · have pre21 : ∀ t, Steps p.tables e below (s₁.setTop (mkF m 23 #[.val (.long p7_0), .second, .val (.long p7_1), .second, .val (.long p7_2), .second, .val (.long p7_3), .second] [(.long (p7_1 + (p7_3 - p7_0)))])) t → Steps p.tables e below (s₁.setTop (entryFrame m #[(.long p7_0), (.long p7_1), (.long p7_2), (.long p7_3)] 8)) t := fun t k => pre19 t (by
        refine XS.ifNo X0.here hx rfl (hb hby d7_14) rfl ((if0 _ _).trans (tlt ((lw_lt p7_3 (p7_0 + p7_2)).mpr hc14_20)).2.1) ?_
        show Steps p.tables e below (s₁.setTop (mkF m 17 #[.val (.long p7_0), .second, .val (.long p7_1), .second, .val (.long p7_2), .second, .val (.long p7_3), .second] [])) _
        refine XS.lloadN X0.here hx rfl (hb hby d7_17) rfl ?_
        show Steps p.tables e below (s₁.setTop (mkF m 18 #[.val (.long p7_0), .second, .val (.long p7_1), .second, .val (.long p7_2), .second, .val (.long p7_3), .second] [(.long p7_1)])) _
        refine XS.lload X0.here hx rfl (hb hby d7_18) rfl ?_
        show Steps p.tables e below (s₁.setTop (mkF m 20 #[.val (.long p7_0), .second, .val (.long p7_1), .second, .val (.long p7_2), .second, .val (.long p7_3), .second] [(.long p7_3), (.long p7_1)])) _
        refine XS.lloadN X0.here hx rfl (hb hby d7_20) rfl ?_
        show Steps p.tables e below (s₁.setTop (mkF m 21 #[.val (.long p7_0), .second, .val (.long p7_1), .second, .val (.long p7_2), .second, .val (.long p7_3), .second] [(.long p7_0), (.long p7_3), (.long p7_1)])) _
        refine XS.lsub X0.here hx rfl (hb hby d7_21) rfl ?_
        show Steps p.tables e below (s₁.setTop (mkF m 22 #[.val (.long p7_0), .second, .val (.long p7_1), .second, .val (.long p7_2), .second, .val (.long p7_3), .second] [(.long (p7_3 - p7_0)), (.long p7_1)])) _
        refine XS.ladd X0.here hx rfl (hb hby d7_22) rfl ?_
        show Steps p.tables e below (s₁.setTop (mkF m 23 #[.val (.long p7_0), .second, .val (.long p7_1), .second, .val (.long p7_2), .second, .val (.long p7_3), .second] [(.long (p7_1 + (p7_3 - p7_0)))])) _
        exact k)
      have hret : (r7 p7_0 p7_1 p7_2 p7_3) = (p7_1 + (p7_3 - p7_0)) := by unfold r7; rw [if_neg hc4_2, if_pos hc14_20]
      obtain ⟨fs, hr, hrun, hended, hW, hsame⟩ := X0.leave (v := some (.long (p7_1 + (p7_3 - p7_0)))) (fun h => by rw [Bd.returns] at h; cases h)
      refine ⟨_, _, pre21 _ ?_, hrun, hended, _, _, rfl, ?_, ⟨_, rfl⟩, hW, hsame.mono (by decide) (by decide)⟩
      · show Steps p.tables e below (s₁.setTop (mkF m 23 #[.val (.long p7_0), .second, .val (.long p7_1), .second, .val (.long p7_2), .second, .val (.long p7_3), .second] [(.long (p7_1 + (p7_3 - p7_0)))])) _
        exact own_retJ X0 hx Bd.returns (hb hby d7_23) hr
      · show Q7 Z p7_0 p7_1 p7_2 p7_3 h0 n0 _ s₁.heap _
        rw [e0]
        exact ⟨(by rw [hret]), N0, rfl⟩
    · have pre22 : ∀ t, Steps p.tables e below (s₁.setTop (mkF m 27 #[.val (.long p7_0), .second, .val (.long p7_1), .second, .val (.long p7_2), .second, .val (.long p7_3), .second] [(.int (lcmpW p7_0 p7_1))])) t → Steps p.tables e below (s₁.setTop (entryFrame m #[(.long p7_0), (.long p7_1), (.long p7_2), (.long p7_3)] 8)) t := fun t k => pre19 t (by
        refine XS.ifYes X0.here hx rfl (pc0 := 14) (pc' := 24) rfl (hb hby d7_14) rfl ((if0 _ _).trans (flt (fun q => hc14_20 ((lw_lt p7_3 (p7_0 + p7_2)).mp q))).2.1) (by decide) (by decide) ?_
        show Steps p.tables e below (s₁.setTop (mkF m 24 #[.val (.long p7_0), .second, .val (.long p7_1), .second, .val (.long p7_2), .second, .val (.long p7_3), .second] [])) _
        refine XS.lloadN X0.here hx rfl (hb hby d7_24) rfl ?_
        show Steps p.tables e below (s₁.setTop (mkF m 25 #[.val (.long p7_0), .second, .val (.long p7_1), .second, .val (.long p7_2), .second, .val (.long p7_3), .second] [(.long p7_0)])) _
        refine XS.lloadN X0.here hx rfl (hb hby d7_25) rfl ?_
        show Steps p.tables e below (s₁.setTop (mkF m 26 #[.val (.long p7_0), .second, .val (.long p7_1), .second, .val (.long p7_2), .second, .val (.long p7_3), .second] [(.long p7_1), (.long p7_0)])) _
        refine XS.lcmp X0.here hx rfl (hb hby d7_26) rfl ?_
        show Steps p.tables e below (s₁.setTop (mkF m 27 #[.val (.long p7_0), .second, .val (.long p7_1), .second, .val (.long p7_2), .second, .val (.long p7_3), .second] [(.int (lcmpW p7_0 p7_1))])) _
        exact k)
      by_cases hc27_23 : p7_0 < p7_1
      · have pre24 : ∀ t, Steps p.tables e below (s₁.setTop (mkF m 47 #[.val (.long p7_0), .second, .val (.long p7_1), .second, .val (.long p7_2), .second, .val (.long p7_3), .second] [(.int (lcmpW p7_3 (p7_1 + p7_2)))])) t → Steps p.tables e below (s₁.setTop (entryFrame m #[(.long p7_0), (.long p7_1), (.long p7_2), (.long p7_3)] 8)) t := fun t k => pre22 t (by
          refine XS.ifNo X0.here hx rfl (hb hby d7_27) rfl ((if0 _ _).trans (tlt ((lw_lt p7_0 p7_1).mpr hc27_23)).2.1) ?_
          show Steps p.tables e below (s₁.setTop (mkF m 30 #[.val (.long p7_0), .second, .val (.long p7_1), .second, .val (.long p7_2), .second, .val (.long p7_3), .second] [])) _
          refine XS.lload X0.here hx rfl (hb hby d7_30) rfl ?_
          show Steps p.tables e below (s₁.setTop (mkF m 32 #[.val (.long p7_0), .second, .val (.long p7_1), .second, .val (.long p7_2), .second, .val (.long p7_3), .second] [(.long p7_3)])) _
          refine XS.lloadN X0.here hx rfl (hb hby d7_32) rfl ?_
          show Steps p.tables e below (s₁.setTop (mkF m 33 #[.val (.long p7_0), .second, .val (.long p7_1), .second, .val (.long p7_2), .second, .val (.long p7_3), .second] [(.long p7_0), (.long p7_3)])) _
          refine XS.lload X0.here hx rfl (hb hby d7_33) rfl ?_
          show Steps p.tables e below (s₁.setTop (mkF m 35 #[.val (.long p7_0), .second, .val (.long p7_1), .second, .val (.long p7_2), .second, .val (.long p7_3), .second] [(.long p7_2), (.long p7_0), (.long p7_3)])) _
          refine XS.ladd X0.here hx rfl (hb hby d7_35) rfl ?_
          show Steps p.tables e below (s₁.setTop (mkF m 36 #[.val (.long p7_0), .second, .val (.long p7_1), .second, .val (.long p7_2), .second, .val (.long p7_3), .second] [(.long (p7_0 + p7_2)), (.long p7_3)])) _
          refine XS.lcmp X0.here hx rfl (hb hby d7_36) rfl ?_
          show Steps p.tables e below (s₁.setTop (mkF m 37 #[.val (.long p7_0), .second, .val (.long p7_1), .second, .val (.long p7_2), .second, .val (.long p7_3), .second] [(.int (lcmpW p7_3 (p7_0 + p7_2)))])) _
          refine XS.ifNo X0.here hx rfl (hb hby d7_37) rfl ((if0 _ _).trans (flt (fun q => hc14_20 ((lw_lt p7_3 (p7_0 + p7_2)).mp q))).1) ?_
          show Steps p.tables e below (s₁.setTop (mkF m 40 #[.val (.long p7_0), .second, .val (.long p7_1), .second, .val (.long p7_2), .second, .val (.long p7_3), .second] [])) _
          refine XS.lload X0.here hx rfl (hb hby d7_40) rfl ?_
          show Steps p.tables e below (s₁.setTop (mkF m 42 #[.val (.long p7_0), .second, .val (.long p7_1), .second, .val (.long p7_2), .second, .val (.long p7_3), .second] [(.long p7_3)])) _
          refine XS.lloadN X0.here hx rfl (hb hby d7_42) rfl ?_
          show Steps p.tables e below (s₁.setTop (mkF m 43 #[.val (.long p7_0), .second, .val (.long p7_1), .second, .val (.long p7_2), .second, .val (.long p7_3), .second] [(.long p7_1), (.long p7_3)])) _
          refine XS.lload X0.here hx rfl (hb hby d7_43) rfl ?_
          show Steps p.tables e below (s₁.setTop (mkF m 45 #[.val (.long p7_0), .second, .val (.long p7_1), .second, .val (.long p7_2), .second, .val (.long p7_3), .second] [(.long p7_2), (.long p7_1), (.long p7_3)])) _
          refine XS.ladd X0.here hx rfl (hb hby d7_45) rfl ?_
          show Steps p.tables e below (s₁.setTop (mkF m 46 #[.val (.long p7_0), .second, .val (.long p7_1), .second, .val (.long p7_2), .second, .val (.long p7_3), .second] [(.long (p7_1 + p7_2)), (.long p7_3)])) _
          refine XS.lcmp X0.here hx rfl (hb hby d7_46) rfl ?_
          show Steps p.tables e below (s₁.setTop (mkF m 47 #[.val (.long p7_0), .second, .val (.long p7_1), .second, .val (.long p7_2), .second, .val (.long p7_3), .second] [(.int (lcmpW p7_3 (p7_1 + p7_2)))])) _
          exact k)
        by_cases hc47_25 : p7_3 < (p7_1 + p7_2)
        · have pre26 : ∀ t, Steps p.tables e below (s₁.setTop (mkF m 55 #[.val (.long p7_0), .second, .val (.long p7_1), .second, .val (.long p7_2), .second, .val (.long p7_3), .second] [(.long (p7_3 - p7_2))])) t → Steps p.tables e below (s₁.setTop (entryFrame m #[(.long p7_0), (.long p7_1), (.long p7_2), (.long p7_3)] 8)) t := fun t k => pre24 t (by
            refine XS.ifNo X0.here hx rfl (hb hby d7_47) rfl ((if0 _ _).trans (tlt ((lw_lt p7_3 (p7_1 + p7_2)).mpr hc47_25)).2.1) ?_
            show Steps p.tables e below (s₁.setTop (mkF m 50 #[.val (.long p7_0), .second, .val (.long p7_1), .second, .val (.long p7_2), .second, .val (.long p7_3), .second] [])) _
            refine XS.lload X0.here hx rfl (hb hby d7_50) rfl ?_
            show Steps p.tables e below (s₁.setTop (mkF m 52 #[.val (.long p7_0), .second, .val (.long p7_1), .second, .val (.long p7_2), .second, .val (.long p7_3), .second] [(.long p7_3)])) _
            refine XS.lload X0.here hx rfl (hb hby d7_52) rfl ?_
            show Steps p.tables e below (s₁.setTop (mkF m 54 #[.val (.long p7_0), .second, .val (.long p7_1), .second, .val (.long p7_2), .second, .val (.long p7_3), .second] [(.long p7_2), (.long p7_3)])) _
            refine XS.lsub X0.here hx rfl (hb hby d7_54) rfl ?_
            show Steps p.tables e below (s₁.setTop (mkF m 55 #[.val (.long p7_0), .second, .val (.long p7_1), .second, .val (.long p7_2), .second, .val (.long p7_3), .second] [(.long (p7_3 - p7_2))])) _
            exact k)
          have hret : (r7 p7_0 p7_1 p7_2 p7_3) = (p7_3 - p7_2) := by unfold r7; rw [if_neg hc4_2, if_neg hc14_20, if_pos hc27_23, if_pos hc47_25]
          obtain ⟨fs, hr, hrun, hended, hW, hsame⟩ := X0.leave (v := some (.long (p7_3 - p7_2))) (fun h => by rw [Bd.returns] at h; cases h)
          refine ⟨_, _, pre26 _ ?_, hrun, hended, _, _, rfl, ?_, ⟨_, rfl⟩, hW, hsame.mono (by decide) (by decide)⟩
          · show Steps p.tables e below (s₁.setTop (mkF m 55 #[.val (.long p7_0), .second, .val (.long p7_1), .second, .val (.long p7_2), .second, .val (.long p7_3), .second] [(.long (p7_3 - p7_2))])) _
            exact own_retJ X0 hx Bd.returns (hb hby d7_55) hr
          · show Q7 Z p7_0 p7_1 p7_2 p7_3 h0 n0 _ s₁.heap _
            rw [e0]
            exact ⟨(by rw [hret]), N0, rfl⟩
        · have pre27 : ∀ t, Steps p.tables e below (s₁.setTop (mkF m 58 #[.val (.long p7_0), .second, .val (.long p7_1), .second, .val (.long p7_2), .second, .val (.long p7_3), .second] [(.long p7_3)])) t → Steps p.tables e below (s₁.setTop (entryFrame m #[(.long p7_0), (.long p7_1), (.long p7_2), (.long p7_3)] 8)) t := fun t k => pre24 t (by
            refine XS.ifYes X0.here hx rfl (pc0 := 47) (pc' := 56) rfl (hb hby d7_47) rfl ((if0 _ _).trans (flt (fun q => hc47_25 ((lw_lt p7_3 (p7_1 + p7_2)).mp q))).2.1) (by decide) (by decide) ?_
            show Steps p.tables e below (s₁.setTop (mkF m 56 #[.val (.long p7_0), .second, .val (.long p7_1), .second, .val (.long p7_2), .second, .val (.long p7_3), .second] [])) _
            refine XS.lload X0.here hx rfl (hb hby d7_56) rfl ?_
            show Steps p.tables e below (s₁.setTop (mkF m 58 #[.val (.long p7_0), .second, .val (.long p7_1), .second, .val (.long p7_2), .second, .val (.long p7_3), .second] [(.long p7_3)])) _
            exact k)
          have hret : (r7 p7_0 p7_1 p7_2 p7_3) = p7_3 := by unfold r7; rw [if_neg hc4_2, if_neg hc14_20, if_pos hc27_23, if_neg hc47_25]
          obtain ⟨fs, hr, hrun, hended, hW, hsame⟩ := X0.leave (v := some (.long p7_3)) (fun h => by rw [Bd.returns] at h; cases h)
          refine ⟨_, _, pre27 _ ?_, hrun, hended, _, _, rfl, ?_, ⟨_, rfl⟩, hW, hsame.mono (by decide) (by decide)⟩
          · show Steps p.tables e below (s₁.setTop (mkF m 58 #[.val (.long p7_0), .second, .val (.long p7_1), .second, .val (.long p7_2), .second, .val (.long p7_3), .second] [(.long p7_3)])) _
            exact own_retJ X0 hx Bd.returns (hb hby d7_58) hr
          · show Q7 Z p7_0 p7_1 p7_2 p7_3 h0 n0 _ s₁.heap _
            rw [e0]
            exact ⟨(by rw [hret]), N0, rfl⟩
      · have pre28 : ∀ t, Steps p.tables e below (s₁.setTop (mkF m 62 #[.val (.long p7_0), .second, .val (.long p7_1), .second, .val (.long p7_2), .second, .val (.long p7_3), .second] [(.int (lcmpW p7_1 p7_0))])) t → Steps p.tables e below (s₁.setTop (entryFrame m #[(.long p7_0), (.long p7_1), (.long p7_2), (.long p7_3)] 8)) t := fun t k => pre22 t (by
          refine XS.ifYes X0.here hx rfl (pc0 := 27) (pc' := 59) rfl (hb hby d7_27) rfl ((if0 _ _).trans (flt (fun q => hc27_23 ((lw_lt p7_0 p7_1).mp q))).2.1) (by decide) (by decide) ?_
          show Steps p.tables e below (s₁.setTop (mkF m 59 #[.val (.long p7_0), .second, .val (.long p7_1), .second, .val (.long p7_2), .second, .val (.long p7_3), .second] [])) _
          refine XS.lloadN X0.here hx rfl (hb hby d7_59) rfl ?_
          show Steps p.tables e below (s₁.setTop (mkF m 60 #[.val (.long p7_0), .second, .val (.long p7_1), .second, .val (.long p7_2), .second, .val (.long p7_3), .second] [(.long p7_1)])) _
          refine XS.lloadN X0.here hx rfl (hb hby d7_60) rfl ?_
          show Steps p.tables e below (s₁.setTop (mkF m 61 #[.val (.long p7_0), .second, .val (.long p7_1), .second, .val (.long p7_2), .second, .val (.long p7_3), .second] [(.long p7_0), (.long p7_1)])) _
          refine XS.lcmp X0.here hx rfl (hb hby d7_61) rfl ?_
          show Steps p.tables e below (s₁.setTop (mkF m 62 #[.val (.long p7_0), .second, .val (.long p7_1), .second, .val (.long p7_2), .second, .val (.long p7_3), .second] [(.int (lcmpW p7_1 p7_0))])) _
          exact k)
        by_cases hc62_29 : p7_1 < p7_0
        · have pre30 : ∀ t, Steps p.tables e below (s₁.setTop (mkF m 69 #[.val (.long p7_0), .second, .val (.long p7_1), .second, .val (.long p7_2), .second, .val (.long p7_3), .second] [(.int (lcmpW p7_3 p7_1))])) t → Steps p.tables e below (s₁.setTop (entryFrame m #[(.long p7_0), (.long p7_1), (.long p7_2), (.long p7_3)] 8)) t := fun t k => pre28 t (by
            refine XS.ifNo X0.here hx rfl (hb hby d7_62) rfl ((if0 _ _).trans (tlt ((lw_lt p7_1 p7_0).mpr hc62_29)).2.1) ?_
            show Steps p.tables e below (s₁.setTop (mkF m 65 #[.val (.long p7_0), .second, .val (.long p7_1), .second, .val (.long p7_2), .second, .val (.long p7_3), .second] [])) _
            refine XS.lload X0.here hx rfl (hb hby d7_65) rfl ?_
            show Steps p.tables e below (s₁.setTop (mkF m 67 #[.val (.long p7_0), .second, .val (.long p7_1), .second, .val (.long p7_2), .second, .val (.long p7_3), .second] [(.long p7_3)])) _
            refine XS.lloadN X0.here hx rfl (hb hby d7_67) rfl ?_
            show Steps p.tables e below (s₁.setTop (mkF m 68 #[.val (.long p7_0), .second, .val (.long p7_1), .second, .val (.long p7_2), .second, .val (.long p7_3), .second] [(.long p7_1), (.long p7_3)])) _
            refine XS.lcmp X0.here hx rfl (hb hby d7_68) rfl ?_
            show Steps p.tables e below (s₁.setTop (mkF m 69 #[.val (.long p7_0), .second, .val (.long p7_1), .second, .val (.long p7_2), .second, .val (.long p7_3), .second] [(.int (lcmpW p7_3 p7_1))])) _
            exact k)
          by_cases hc69_31 : p7_3 < p7_1
          · have pre32 : ∀ t, Steps p.tables e below (s₁.setTop (mkF m 87 #[.val (.long p7_0), .second, .val (.long p7_1), .second, .val (.long p7_2), .second, .val (.long p7_3), .second] [(.long p7_3)])) t → Steps p.tables e below (s₁.setTop (entryFrame m #[(.long p7_0), (.long p7_1), (.long p7_2), (.long p7_3)] 8)) t := fun t k => pre30 t (by
              refine XS.ifYes X0.here hx rfl (pc0 := 69) (pc' := 85) rfl (hb hby d7_69) rfl ((if0 _ _).trans (tlt ((lw_lt p7_3 p7_1).mpr hc69_31)).1) (by decide) (by decide) ?_
              show Steps p.tables e below (s₁.setTop (mkF m 85 #[.val (.long p7_0), .second, .val (.long p7_1), .second, .val (.long p7_2), .second, .val (.long p7_3), .second] [])) _
              refine XS.lload X0.here hx rfl (hb hby d7_85) rfl ?_
              show Steps p.tables e below (s₁.setTop (mkF m 87 #[.val (.long p7_0), .second, .val (.long p7_1), .second, .val (.long p7_2), .second, .val (.long p7_3), .second] [(.long p7_3)])) _
              exact k)
            have hret : (r7 p7_0 p7_1 p7_2 p7_3) = p7_3 := by unfold r7; rw [if_neg hc4_2, if_neg hc14_20, if_neg hc27_23, if_pos hc62_29, if_pos hc69_31]
            obtain ⟨fs, hr, hrun, hended, hW, hsame⟩ := X0.leave (v := some (.long p7_3)) (fun h => by rw [Bd.returns] at h; cases h)
            refine ⟨_, _, pre32 _ ?_, hrun, hended, _, _, rfl, ?_, ⟨_, rfl⟩, hW, hsame.mono (by decide) (by decide)⟩
            · show Steps p.tables e below (s₁.setTop (mkF m 87 #[.val (.long p7_0), .second, .val (.long p7_1), .second, .val (.long p7_2), .second, .val (.long p7_3), .second] [(.long p7_3)])) _
              exact own_retJ X0 hx Bd.returns (hb hby d7_87) hr
            · show Q7 Z p7_0 p7_1 p7_2 p7_3 h0 n0 _ s₁.heap _
              rw [e0]
              exact ⟨(by rw [hret]), N0, rfl⟩
          · have pre33 : ∀ t, Steps p.tables e below (s₁.setTop (mkF m 87 #[.val (.long p7_0), .second, .val (.long p7_1), .second, .val (.long p7_2), .second, .val (.long p7_3), .second] [(.long p7_3)])) t → Steps p.tables e below (s₁.setTop (entryFrame m #[(.long p7_0), (.long p7_1), (.long p7_2), (.long p7_3)] 8)) t := fun t k => pre30 t (by
              refine XS.ifNo X0.here hx rfl (hb hby d7_69) rfl ((if0 _ _).trans (flt (fun q => hc69_31 ((lw_lt p7_3 p7_1).mp q))).1) ?_
              show Steps p.tables e below (s₁.setTop (mkF m 72 #[.val (.long p7_0), .second, .val (.long p7_1), .second, .val (.long p7_2), .second, .val (.long p7_3), .second] [])) _
              refine XS.lload X0.here hx rfl (hb hby d7_72) rfl ?_
              show Steps p.tables e below (s₁.setTop (mkF m 74 #[.val (.long p7_0), .second, .val (.long p7_1), .second, .val (.long p7_2), .second, .val (.long p7_3), .second] [(.long p7_3)])) _
              refine XS.lloadN X0.here hx rfl (hb hby d7_74) rfl ?_
              show Steps p.tables e below (s₁.setTop (mkF m 75 #[.val (.long p7_0), .second, .val (.long p7_1), .second, .val (.long p7_2), .second, .val (.long p7_3), .second] [(.long p7_0), (.long p7_3)])) _
              refine XS.lcmp X0.here hx rfl (hb hby d7_75) rfl ?_
              show Steps p.tables e below (s₁.setTop (mkF m 76 #[.val (.long p7_0), .second, .val (.long p7_1), .second, .val (.long p7_2), .second, .val (.long p7_3), .second] [(.int (lcmpW p7_3 p7_0))])) _
              refine XS.ifYes X0.here hx rfl (pc0 := 76) (pc' := 85) rfl (hb hby d7_76) rfl ((if0 _ _).trans (flt (fun q => hc4_2 ((lw_lt p7_3 p7_0).mp q))).2.1) (by decide) (by decide) ?_
              show Steps p.tables e below (s₁.setTop (mkF m 85 #[.val (.long p7_0), .second, .val (.long p7_1), .second, .val (.long p7_2), .second, .val (.long p7_3), .second] [])) _
              refine XS.lload X0.here hx rfl (hb hby d7_85) rfl ?_
              show Steps p.tables e below (s₁.setTop (mkF m 87 #[.val (.long p7_0), .second, .val (.long p7_1), .second, .val (.long p7_2), .second, .val (.long p7_3), .second] [(.long p7_3)])) _
              exact k)
            have hret : (r7 p7_0 p7_1 p7_2 p7_3) = p7_3 := by unfold r7; rw [if_neg hc4_2, if_neg hc14_20, if_neg hc27_23, if_pos hc62_29, if_neg hc69_31]
            obtain ⟨fs, hr, hrun, hended, hW, hsame⟩ := X0.leave (v := some (.long p7_3)) (fun h => by rw [Bd.returns] at h; cases h)
            refine ⟨_, _, pre33 _ ?_, hrun, hended, _, _, rfl, ?_, ⟨_, rfl⟩, hW, hsame.mono (by decide) (by decide)⟩
            · show Steps p.tables e below (s₁.setTop (mkF m 87 #[.val (.long p7_0), .second, .val (.long p7_1), .second, .val (.long p7_2), .second, .val (.long p7_3), .second] [(.long p7_3)])) _
              exact own_retJ X0 hx Bd.returns (hb hby d7_87) hr
            · show Q7 Z p7_0 p7_1 p7_2 p7_3 h0 n0 _ s₁.heap _
              rw [e0]
              exact ⟨(by rw [hret]), N0, rfl⟩
        · have pre34 : ∀ t, Steps p.tables e below (s₁.setTop (mkF m 90 #[.val (.long p7_0), .second, .val (.long p7_1), .second, .val (.long p7_2), .second, .val (.long p7_3), .second] [(.long p7_3)])) t → Steps p.tables e below (s₁.setTop (entryFrame m #[(.long p7_0), (.long p7_1), (.long p7_2), (.long p7_3)] 8)) t := fun t k => pre28 t (by
            refine XS.ifYes X0.here hx rfl (pc0 := 62) (pc' := 88) rfl (hb hby d7_62) rfl ((if0 _ _).trans (flt (fun q => hc62_29 ((lw_lt p7_1 p7_0).mp q))).2.1) (by decide) (by decide) ?_
            show Steps p.tables e below (s₁.setTop (mkF m 88 #[.val (.long p7_0), .second, .val (.long p7_1), .second, .val (.long p7_2), .second, .val (.long p7_3), .second] [])) _
            refine XS.lload X0.here hx rfl (hb hby d7_88) rfl ?_
            show Steps p.tables e below (s₁.setTop (mkF m 90 #[.val (.long p7_0), .second, .val (.long p7_1), .second, .val (.long p7_2), .second, .val (.long p7_3), .second] [(.long p7_3)])) _
            exact k)
          have hret : (r7 p7_0 p7_1 p7_2 p7_3) = p7_3 := by unfold r7; rw [if_neg hc4_2, if_neg hc14_20, if_neg hc27_23, if_neg hc62_29]
          obtain ⟨fs, hr, hrun, hended, hW, hsame⟩ := X0.leave (v := some (.long p7_3)) (fun h => by rw [Bd.returns] at h; cases h)
          refine ⟨_, _, pre34 _ ?_, hrun, hended, _, _, rfl, ?_, ⟨_, rfl⟩, hW, hsame.mono (by decide) (by decide)⟩
          · show Steps p.tables e below (s₁.setTop (mkF m 90 #[.val (.long p7_0), .second, .val (.long p7_1), .second, .val (.long p7_2), .second, .val (.long p7_3), .second] [(.long p7_3)])) _
            exact own_retJ X0 hx Bd.returns (hb hby d7_90) hr
          · show Q7 Z p7_0 p7_1 p7_2 p7_3 h0 n0 _ s₁.heap _
            rw [e0]
            exact ⟨(by rw [hret]), N0, rfl⟩
theorem pd_3 : parseMethodDescriptor "(III)V" = some ⟨[.int, .int, .int], none⟩ := by decide +kernel
theorem pd_4 : parseMethodDescriptor "(I)I" = some ⟨[.int], some .int⟩ := by decide +kernel
theorem pd_5 : parseMethodDescriptor "(JJJJ)J" = some ⟨[.long, .long, .long, .long], some .long⟩ := by decide +kernel
theorem ef_0 (m : MethodId) (x0 : Int32) (x1 : Int32) (x2 : Int32) (x3 : Int32) (x4 : Int32) : entryFrame m #[(.int x0), (.int x1), (.int x2), (.int x3), (.int x4)] maxLocals = mkF m 0 #[.val (.int x0), .val (.int x1), .val (.int x2), .val (.int x3), .val (.int x4), .unset, .unset, .unset, .unset, .unset, .unset, .unset, .unset, .unset, .unset] [] := by first | (simp [entryFrame, mkF, argsToLocals, Value.category, maxLocals]; done) | rfl
def v0_4 (p0_2 : Int32) : Int32 := (p0_2 &&& (2147483647 : Int32))
def v0_13 (p0_2 : Int32) : Int64 := ((2147483648 : Int64) - (((v0_4 p0_2)).toInt64))
def v0_25 (p0_0 : Int32) (p0_2 : Int32) : Int32 := (((own_remL (((p0_0).toInt64) &&& (2147483647 : Int64)) (v0_13 p0_2))).toInt32)
def v0_37 (p0_1 : Int32) (p0_2 : Int32) : Int32 := (((own_remL (((p0_1).toInt64) &&& (2147483647 : Int64)) (v0_13 p0_2))).toInt32)
def v0_52 (p0_3 : Int32) : Int64 := (((p0_3).toInt64) &&& (2147483647 : Int64))
def c0_177 (p0_0 : Int32) (p0_1 : Int32) (p0_2 : Int32) (p0_3 : Int32) : Int32 := (r6 (((v0_52 p0_3)).toInt32) (v0_25 p0_0 p0_2) (v0_4 p0_2) (v0_37 p0_1 p0_2))
def c0_196 (p0_0 : Int32) (p0_1 : Int32) (p0_2 : Int32) (p0_3 : Int32) : Int64 := (r7 (((v0_25 p0_0 p0_2)).toInt64) (((v0_37 p0_1 p0_2)).toInt64) (((v0_4 p0_2)).toInt64) (v0_52 p0_3))
def v0_63 (p0_4 : Int32) : Int32 := ((own_shr p0_4 (1 : Int32)) &&& (3 : Int32))
def v0_73 (p0_0 : Int32) (p0_2 : Int32) : Int64 := (((v0_25 p0_0 p0_2)).toInt64)
def v0_91 (p0_0 : Int32) (p0_2 : Int32) : Int64 := ((((v0_25 p0_0 p0_2)).toInt64) + (((v0_4 p0_2)).toInt64))
def v0_105 (p0_1 : Int32) (p0_2 : Int32) : Int64 := (((v0_37 p0_1 p0_2)).toInt64)
def v0_117 (p0_1 : Int32) (p0_2 : Int32) : Int64 := ((((v0_37 p0_1 p0_2)).toInt64) + (((v0_4 p0_2)).toInt64))
def j0_119_13 (p0_0 : Int32) (p0_1 : Int32) (p0_2 : Int32) (p0_4 : Int32) : Int64 := (if (v0_63 p0_4) = (0 : Int32) then (v0_73 p0_0 p0_2) else (if (v0_63 p0_4) = (1 : Int32) then (v0_91 p0_0 p0_2) else (if (v0_63 p0_4) = (2 : Int32) then (v0_105 p0_1 p0_2) else (v0_117 p0_1 p0_2))))
def v0_131 (p0_0 : Int32) (p0_1 : Int32) (p0_2 : Int32) (p0_3 : Int32) (p0_4 : Int32) : Int64 := (((j0_119_13 p0_0 p0_1 p0_2 p0_4) + ((((p0_3 &&& (2147483647 : Int32)) % (3 : Int32))).toInt64)) - (1 : Int64))
def j0_143_10 (p0_0 : Int32) (p0_1 : Int32) (p0_2 : Int32) (p0_3 : Int32) (p0_4 : Int32) : Int64 := (if (v0_131 p0_0 p0_1 p0_2 p0_3 p0_4) < (0 : Int64) then (0 : Int64) else (v0_131 p0_0 p0_1 p0_2 p0_3 p0_4))
def j0_157_10 (p0_0 : Int32) (p0_1 : Int32) (p0_2 : Int32) (p0_3 : Int32) (p0_4 : Int32) : Int64 := (if (2147483647 : Int64) < (j0_143_10 p0_0 p0_1 p0_2 p0_3 p0_4) then (2147483647 : Int64) else (j0_143_10 p0_0 p0_1 p0_2 p0_3 p0_4))
def c0_177_1 (p0_0 : Int32) (p0_1 : Int32) (p0_2 : Int32) (p0_3 : Int32) (p0_4 : Int32) : Int32 := (r6 (((j0_157_10 p0_0 p0_1 p0_2 p0_3 p0_4)).toInt32) (v0_25 p0_0 p0_2) (v0_4 p0_2) (v0_37 p0_1 p0_2))
def c0_196_1 (p0_0 : Int32) (p0_1 : Int32) (p0_2 : Int32) (p0_3 : Int32) (p0_4 : Int32) : Int64 := (r7 (((v0_25 p0_0 p0_2)).toInt64) (((v0_37 p0_1 p0_2)).toInt64) (((v0_4 p0_2)).toInt64) (j0_157_10 p0_0 p0_1 p0_2 p0_3 p0_4))
theorem own_bm32 (n : Int) : n.bmod 4294967296 = if n % 4294967296 < 2147483648 then n % 4294967296 else n % 4294967296 - 4294967296 := by
  rw [Int.bmod_def]; omega
theorem own_bm64 (n : Int) : n.bmod 18446744073709551616 = if n % 18446744073709551616 < 9223372036854775808 then n % 18446744073709551616 else n % 18446744073709551616 - 18446744073709551616 := by
  rw [Int.bmod_def]; omega
theorem own_nn (x : Int32) : (x < 0) ↔ x.toBitVec.msb = true := by
  rw [Int32.lt_iff_toInt_lt, BitVec.msb_eq_toInt, decide_eq_true_iff]; rfl
theorem own_or2 {x y : Int32} (hx : ¬ x < 0) (hy : ¬ y < 0) : ¬ (x ||| y) < 0 := by
  rw [own_nn] at *
  rw [Int32.toBitVec_or, BitVec.msb_or]
  simp_all
theorem own_nonneg {x : Int32} (h : 0 ≤ x.toInt) : ¬ x < 0 := by
  rw [Int32.lt_iff_toInt_lt, show (0 : Int32).toInt = 0 from rfl]; omega
set_option maxHeartbeats 4000000 in
theorem own_core (F T C : Int32) (P : Int64) (hF : 0 ≤ F.toInt) (hT : 0 ≤ T.toInt) (hC : 0 ≤ C.toInt) (hFC : F.toInt + C.toInt < 2147483648) (hTC : T.toInt + C.toInt < 2147483648) (hP : 0 ≤ P.toInt) (hP' : P.toInt < 2147483648) :
    (r6 P.toInt32 F C T).toInt64 = r7 F.toInt64 T.toInt64 C.toInt64 P := by
  have ep : P.toInt32.toInt = P.toInt := Jvm.Kit.i32_of_i64 (by omega) (by omega)
  generalize P.toInt32 = p at *
  have e1 : (v6_6 p F).toInt = P.toInt - F.toInt := by unfold v6_6; rw [Jvm.Kit.i32_sub (by omega) (by omega), ep]
  have e2 : (v6_47 p C).toInt = P.toInt - C.toInt := by unfold v6_47; rw [Jvm.Kit.i32_sub (by omega) (by omega), ep]
  have e2' : (p - C).toInt = P.toInt - C.toInt := by rw [Jvm.Kit.i32_sub (by omega) (by omega), ep]
  have f1 : (F.toInt64 + C.toInt64).toInt = F.toInt + C.toInt := by rw [Jvm.Kit.i64_add (by rw [Jvm.Kit.i64_of_i32, Jvm.Kit.i64_of_i32]; omega) (by rw [Jvm.Kit.i64_of_i32, Jvm.Kit.i64_of_i32]; omega), Jvm.Kit.i64_of_i32, Jvm.Kit.i64_of_i32]
  have f2 : (T.toInt64 + C.toInt64).toInt = T.toInt + C.toInt := by rw [Jvm.Kit.i64_add (by rw [Jvm.Kit.i64_of_i32, Jvm.Kit.i64_of_i32]; omega) (by rw [Jvm.Kit.i64_of_i32, Jvm.Kit.i64_of_i32]; omega), Jvm.Kit.i64_of_i32, Jvm.Kit.i64_of_i32]
  have f3 : (P - C.toInt64).toInt = P.toInt - C.toInt := by rw [Jvm.Kit.i64_sub (by rw [Jvm.Kit.i64_of_i32]; omega) (by rw [Jvm.Kit.i64_of_i32]; omega), Jvm.Kit.i64_of_i32]
  have f4 : (P + C.toInt64).toInt = P.toInt + C.toInt := by rw [Jvm.Kit.i64_add (by rw [Jvm.Kit.i64_of_i32]; omega) (by rw [Jvm.Kit.i64_of_i32]; omega), Jvm.Kit.i64_of_i32]
  have f5 : (P - F.toInt64).toInt = P.toInt - F.toInt := by rw [Jvm.Kit.i64_sub (by rw [Jvm.Kit.i64_of_i32]; omega) (by rw [Jvm.Kit.i64_of_i32]; omega), Jvm.Kit.i64_of_i32]
  have f6 : (T.toInt64 + (P - F.toInt64)).toInt = T.toInt + (P.toInt - F.toInt) := by rw [Jvm.Kit.i64_add (by rw [Jvm.Kit.i64_of_i32, f5]; omega) (by rw [Jvm.Kit.i64_of_i32, f5]; omega), Jvm.Kit.i64_of_i32, f5]
  have z32 : (0 : Int32).toInt = 0 := rfl
  have key : ∀ x : Int32, ∀ y : Int64, x.toInt = y.toInt → x.toInt64 = y := fun x y h => Int64.toInt_inj.mp (by rw [Jvm.Kit.i64_of_i32, h])
  unfold r6 r7 j6_70_s0 j6_70_s0_1 j6_47_s0 v6_25
  simp only [Int32.lt_iff_toInt_lt, Int64.lt_iff_toInt_lt, e1, e2, e2', f1, f2, Jvm.Kit.i64_of_i32, z32]
  by_cases h1 : P.toInt - F.toInt < 0
  · have h1' : P.toInt < F.toInt := by omega
    have h2 : P.toInt - F.toInt < C.toInt := by omega
    rw [if_pos h1, if_pos h1', if_pos h2, ep]
    by_cases h3 : P.toInt < T.toInt
    · rw [if_pos h3]
      by_cases h4 : F.toInt < T.toInt
      · rw [if_pos h4, if_pos (by omega)]; exact key _ _ ep
      · rw [if_neg h4]
        by_cases h5 : T.toInt < F.toInt
        · rw [if_pos h5, if_pos h3]; exact key _ _ ep
        · rw [if_neg h5]; exact key _ _ ep
    · rw [if_neg h3, if_neg (by omega), if_pos (by omega), if_neg h3]
      refine key _ _ ?_
      rw [f4, Jvm.Kit.i32_add (by omega) (by omega), ep]
  · have h1' : ¬ P.toInt < F.toInt := by omega
    rw [if_neg h1, if_neg h1']
    by_cases h2 : P.toInt - F.toInt < C.toInt
    · have h2' : P.toInt < F.toInt + C.toInt := by omega
      rw [if_pos h2, if_pos h2']
      refine key _ _ ?_
      rw [f6, Jvm.Kit.i32_add (by omega) (by omega), e1]
    · have h2' : ¬ P.toInt < F.toInt + C.toInt := by omega
      rw [if_neg h2, if_neg h2']
      by_cases h3 : P.toInt - C.toInt < T.toInt
      · rw [if_pos h3, if_pos (by omega), if_pos (by omega)]
        exact key _ _ (by rw [e2, f3])
      · rw [if_neg h3]
        have w : (v6_47 p C + C).toInt = P.toInt := by rw [Jvm.Kit.i32_add (by omega) (by omega), e2]; omega
        by_cases h4 : F.toInt < T.toInt
        · rw [if_pos h4, if_neg (by omega)]; exact key _ _ w
        · rw [if_neg h4]
          by_cases h5 : T.toInt < F.toInt
          · rw [if_pos h5, if_neg (by omega)]; exact key _ _ w
          · rw [if_neg h5]; exact key _ _ w
theorem own_C (c : Int32) : (v0_4 c).toInt = c.toInt % 2147483648 := by unfold v0_4; exact Jvm.Kit.i32_mask c _ (k := 31) (by decide) (by decide)
theorem own_room (c : Int32) : (v0_13 c).toInt = 2147483648 - c.toInt % 2147483648 := by
  unfold v0_13
  rw [Jvm.Kit.i64_sub (by rw [Jvm.Kit.i64_of_i32, own_C, show (2147483648 : Int64).toInt = 2147483648 from rfl]; omega) (by rw [Jvm.Kit.i64_of_i32, own_C, show (2147483648 : Int64).toInt = 2147483648 from rfl]; omega), Jvm.Kit.i64_of_i32, own_C]; rfl
theorem own_nz (c : Int32) : v0_13 c ≠ 0 := fun h => by
  have q := own_room c
  rw [h, show (0 : Int64).toInt = 0 from rfl] at q; omega
theorem own_pl (f : Int32) : ((f.toInt64) &&& (2147483647 : Int64)).toInt = f.toInt % 2147483648 := by rw [Jvm.Kit.i64_mask _ _ (k := 31) (by decide) (by decide), Jvm.Kit.i64_of_i32]; rfl
theorem own_rem (f c : Int32) : 0 ≤ (own_remL ((f.toInt64) &&& (2147483647 : Int64)) (v0_13 c)).toInt ∧ (own_remL ((f.toInt64) &&& (2147483647 : Int64)) (v0_13 c)).toInt < 2147483648 - c.toInt % 2147483648 := by
  unfold own_remL
  rw [Jvm.Kit.i64_rem_nonneg (by rw [own_pl]; omega), own_room]
  exact ⟨Int.emod_nonneg _ (by omega), Int.emod_lt_of_pos _ (by omega)⟩
theorem own_F (f c : Int32) : 0 ≤ (v0_25 f c).toInt ∧ (v0_25 f c).toInt + (v0_4 c).toInt < 2147483648 := by
  have h := own_rem f c
  unfold v0_25
  rw [Jvm.Kit.i32_of_i64 (by omega) (by omega), own_C]; omega
theorem own_T (t c : Int32) : 0 ≤ (v0_37 t c).toInt ∧ (v0_37 t c).toInt + (v0_4 c).toInt < 2147483648 := own_F t c
theorem own_C0 (c : Int32) : 0 ≤ (v0_4 c).toInt ∧ (v0_4 c).toInt < 2147483648 := by rw [own_C]; omega
theorem own_A {x y : Int32} (hx : 0 ≤ x.toInt) (hy : 0 ≤ y.toInt) : ¬ ((((2147483647 : Int32) ||| x) ||| y) < (0 : Int32)) := own_or2 (own_or2 (by decide) (own_nonneg hx)) (own_nonneg hy)
theorem own_B {x y : Int32} (hx : 0 ≤ x.toInt) (h : x.toInt + y.toInt < 2147483648) : ¬ (((2147483647 : Int32) - x) < y) := by
  have b := x.toInt_lt
  rw [Int32.lt_iff_toInt_lt, Jvm.Kit.i32_sub (by rw [show (2147483647 : Int32).toInt = 2147483647 from rfl]; omega) (by rw [show (2147483647 : Int32).toInt = 2147483647 from rfl]; omega), show (2147483647 : Int32).toInt = 2147483647 from rfl]; omega
theorem own_A1 (f t c : Int32) : ¬ ((((2147483647 : Int32) ||| (v0_25 f c)) ||| (v0_4 c)) < (0 : Int32)) := own_A (own_F f c).1 (own_C0 c).1
theorem own_B1 (f t c : Int32) : ¬ (((2147483647 : Int32) - (v0_25 f c)) < (v0_4 c)) := own_B (own_F f c).1 (own_F f c).2
theorem own_A2 (f t c : Int32) : ¬ ((((2147483647 : Int32) ||| (v0_37 t c)) ||| (v0_4 c)) < (0 : Int32)) := own_A (own_T t c).1 (own_C0 c).1
theorem own_B2 (f t c : Int32) : ¬ (((2147483647 : Int32) - (v0_37 t c)) < (v0_4 c)) := own_B (own_T t c).1 (own_T t c).2
theorem own_mainA (f t c p s : Int32) : ((c0_177 f t c p)).toInt64 = c0_196 f t c p := by
  have h : (v0_52 p).toInt = p.toInt % 2147483648 := own_pl p
  unfold c0_177 c0_196
  exact own_core _ _ _ _ (own_F f c).1 (own_T t c).1 (own_C0 c).1 (own_F f c).2 (own_T t c).2 (by omega) (by omega)
theorem own_pos (f t c p s : Int32) : 0 ≤ (j0_157_10 f t c p s).toInt ∧ (j0_157_10 f t c p s).toInt < 2147483648 := by
  have z : (0 : Int64).toInt = 0 := rfl
  have m : (2147483647 : Int64).toInt = 2147483647 := rfl
  unfold j0_157_10
  simp only [Int64.lt_iff_toInt_lt, m]
  have h : 0 ≤ (j0_143_10 f t c p s).toInt := by
    unfold j0_143_10
    simp only [Int64.lt_iff_toInt_lt, z]
    split
    · decide
    · omega
  split
  · rw [m]; omega
  · omega
theorem own_mainB (f t c p s : Int32) : ((c0_177_1 f t c p s)).toInt64 = c0_196_1 f t c p s := by
  unfold c0_177_1 c0_196_1
  exact own_core _ _ _ _ (own_F f c).1 (own_T t c).1 (own_C0 c).1 (own_F f c).2 (own_T t c).2 (own_pos f t c p s).1 (own_pos f t c p s).2
def Q0 (Z : State) (p0_0 : Int32) (p0_1 : Int32) (p0_2 : Int32) (p0_3 : Int32) (p0_4 : Int32) (h0 : Heap) (n0 : Nat) (v : Option Value) (h : Heap) (L : List Loc) : Prop := v = some (.int (1 : Int32)) ∧ Fr n0 L
set_option maxRecDepth 65536 in
set_option maxHeartbeats 40000000 in
theorem rm0 (l : Launch) (Z : State) (a0 : Array Value) (hw : ∀ d ∈ tables_1, d.before a0 Z = true) (ws : List Jvm.Cond) (p0_0 : Int32) (p0_1 : Int32) (p0_2 : Int32) (p0_3 : Int32) (p0_4 : Int32) (h0 : Heap) (n0 : Nat) (Z0 : n0 ≤ h0.size) :
    MetFree l x (head1 (Jvm.Cond.code x code maxLocals ret :: ws) room_1) (fun a U => a = #[(.int p0_0), (.int p0_1), (.int p0_2), (.int p0_3), (.int p0_4)] ∧ Z.Warmed39 U.vm ∧ U.heap = h0) (fun _ _ _ _ _ => True) (fun _ U o U' => ∃ v L, o = .returned v ∧ Q0 Z p0_0 p0_1 p0_2 p0_3 p0_4 h0 n0 v U'.heap L ∧ FrameEnd U o U' L room_1.cells room_1.slots) := by
  refine MetFree.of_bodySF (plainFor_of_name pn_4) hisR ?_
  intro p e s m args below meth c s₁ Bd hml0 hP hK
  obtain ⟨rfl, hZ, hh⟩ := hP
  have hx := Bd.exec
  have hby := Bd.bytes
  have hml : c.maxLocals = 15 := hml0
  have hown : s.vm.findClass "com/example/rowforge/rowforge/core/RangeMovedPositionAfterPinLaw" = some m.cls := findClass_of_methodNamed Bd.named
  have hnm := (name_of_methodNamed Bd.named Bd.method).1
  have X0 : Stand p l e room_1 s m #[(.int p0_0), (.int p0_1), (.int p0_2), (.int p0_3), (.int p0_4)] below meth c s₁ [] 0 0 := Stand.of_body Bd
  have e0 : s₁.heap = h0 := by rw [← hh, Bd.state]; rfl
  have N0 := Fr.nil n0
  have pre0 : ∀ t, Steps p.tables e below (s₁.setTop (mkF m 0 #[.val (.int p0_0), .val (.int p0_1), .val (.int p0_2), .val (.int p0_3), .val (.int p0_4), .unset, .unset, .unset, .unset, .unset, .unset, .unset, .unset, .unset, .unset] [])) t → Steps p.tables e below (s₁.setTop (entryFrame m #[(.int p0_0), (.int p0_1), (.int p0_2), (.int p0_3), (.int p0_4)] maxLocals)) t := fun t k => castTop (ef_0 m p0_0 p0_1 p0_2 p0_3 p0_4) k
  have pre1 : ∀ t, Steps p.tables e below (s₁.setTop (mkF m 43 #[.val (.int p0_0), .val (.int p0_1), .val (.int p0_2), .val (.int p0_3), .val (.int p0_4), .val (.int (v0_4 p0_2)), .val (.long (v0_13 p0_2)), .second, .val (.int (v0_25 p0_0 p0_2)), .val (.int (v0_37 p0_1 p0_2)), .unset, .unset, .unset, .unset, .unset] [(.int (p0_4 &&& (1 : Int32)))])) t → Steps p.tables e below (s₁.setTop (entryFrame m #[(.int p0_0), (.int p0_1), (.int p0_2), (.int p0_3), (.int p0_4)] maxLocals)) t := fun t k => pre0 t (by
    refine XS.iloadN X0.here hx rfl (hb hby at_0) rfl ?_
    show Steps p.tables e below (s₁.setTop (mkF m 1 #[.val (.int p0_0), .val (.int p0_1), .val (.int p0_2), .val (.int p0_3), .val (.int p0_4), .unset, .unset, .unset, .unset, .unset, .unset, .unset, .unset, .unset, .unset] [(.int p0_2)])) _
    refine X0.ldcInt hx hown (mvT hZ (hw _ (List.mem_of_getElem? (i := 0) rfl))) (g := (mkF m 1 #[.val (.int p0_0), .val (.int p0_1), .val (.int p0_2), .val (.int p0_3), .val (.int p0_4), .unset, .unset, .unset, .unset, .unset, .unset, .unset, .unset, .unset, .unset] [(.int p0_2)])) rfl (hb hby at_1) _ ?_
    show Steps p.tables e below (s₁.setTop (mkF m 3 #[.val (.int p0_0), .val (.int p0_1), .val (.int p0_2), .val (.int p0_3), .val (.int p0_4), .unset, .unset, .unset, .unset, .unset, .unset, .unset, .unset, .unset, .unset] [(.int (2147483647 : Int32)), (.int p0_2)])) _
    refine XS.iand X0.here hx rfl (hb hby at_3) rfl ?_
    show Steps p.tables e below (s₁.setTop (mkF m 4 #[.val (.int p0_0), .val (.int p0_1), .val (.int p0_2), .val (.int p0_3), .val (.int p0_4), .unset, .unset, .unset, .unset, .unset, .unset, .unset, .unset, .unset, .unset] [(.int (p0_2 &&& (2147483647 : Int32)))])) _
    show Steps p.tables e below (s₁.setTop (mkF m 4 #[.val (.int p0_0), .val (.int p0_1), .val (.int p0_2), .val (.int p0_3), .val (.int p0_4), .unset, .unset, .unset, .unset, .unset, .unset, .unset, .unset, .unset, .unset] [(.int (v0_4 p0_2))])) _
    refine XS.istore X0.here hx rfl (hb hby at_4) rfl (l' := #[.val (.int p0_0), .val (.int p0_1), .val (.int p0_2), .val (.int p0_3), .val (.int p0_4), .val (.int (v0_4 p0_2)), .unset, .unset, .unset, .unset, .unset, .unset, .unset, .unset, .unset]) rfl ?_
    show Steps p.tables e below (s₁.setTop (mkF m 6 #[.val (.int p0_0), .val (.int p0_1), .val (.int p0_2), .val (.int p0_3), .val (.int p0_4), .val (.int (v0_4 p0_2)), .unset, .unset, .unset, .unset, .unset, .unset, .unset, .unset, .unset] [])) _
    refine X0.ldc2Long hx hown (mvT hZ (hw _ (List.mem_of_getElem? (i := 1) rfl))) (g := (mkF m 6 #[.val (.int p0_0), .val (.int p0_1), .val (.int p0_2), .val (.int p0_3), .val (.int p0_4), .val (.int (v0_4 p0_2)), .unset, .unset, .unset, .unset, .unset, .unset, .unset, .unset, .unset] [])) rfl (hb hby at_6) _ ?_
    show Steps p.tables e below (s₁.setTop (mkF m 9 #[.val (.int p0_0), .val (.int p0_1), .val (.int p0_2), .val (.int p0_3), .val (.int p0_4), .val (.int (v0_4 p0_2)), .unset, .unset, .unset, .unset, .unset, .unset, .unset, .unset, .unset] [(.long (2147483648 : Int64))])) _
    refine XS.iload X0.here hx rfl (hb hby at_9) rfl ?_
    show Steps p.tables e below (s₁.setTop (mkF m 11 #[.val (.int p0_0), .val (.int p0_1), .val (.int p0_2), .val (.int p0_3), .val (.int p0_4), .val (.int (v0_4 p0_2)), .unset, .unset, .unset, .unset, .unset, .unset, .unset, .unset, .unset] [(.int (v0_4 p0_2)), (.long (2147483648 : Int64))])) _
    refine XS.i2l X0.here hx rfl (hb hby at_11) rfl ?_
    show Steps p.tables e below (s₁.setTop (mkF m 12 #[.val (.int p0_0), .val (.int p0_1), .val (.int p0_2), .val (.int p0_3), .val (.int p0_4), .val (.int (v0_4 p0_2)), .unset, .unset, .unset, .unset, .unset, .unset, .unset, .unset, .unset] [(.long (((v0_4 p0_2)).toInt64)), (.long (2147483648 : Int64))])) _
    refine XS.lsub X0.here hx rfl (hb hby at_12) rfl ?_
    show Steps p.tables e below (s₁.setTop (mkF m 13 #[.val (.int p0_0), .val (.int p0_1), .val (.int p0_2), .val (.int p0_3), .val (.int p0_4), .val (.int (v0_4 p0_2)), .unset, .unset, .unset, .unset, .unset, .unset, .unset, .unset, .unset] [(.long ((2147483648 : Int64) - (((v0_4 p0_2)).toInt64)))])) _
    show Steps p.tables e below (s₁.setTop (mkF m 13 #[.val (.int p0_0), .val (.int p0_1), .val (.int p0_2), .val (.int p0_3), .val (.int p0_4), .val (.int (v0_4 p0_2)), .unset, .unset, .unset, .unset, .unset, .unset, .unset, .unset, .unset] [(.long (v0_13 p0_2))])) _
    refine XS.lstore X0.here hx rfl (hb hby at_13) rfl (l' := #[.val (.int p0_0), .val (.int p0_1), .val (.int p0_2), .val (.int p0_3), .val (.int p0_4), .val (.int (v0_4 p0_2)), .val (.long (v0_13 p0_2)), .second, .unset, .unset, .unset, .unset, .unset, .unset, .unset]) rfl ?_
    show Steps p.tables e below (s₁.setTop (mkF m 15 #[.val (.int p0_0), .val (.int p0_1), .val (.int p0_2), .val (.int p0_3), .val (.int p0_4), .val (.int (v0_4 p0_2)), .val (.long (v0_13 p0_2)), .second, .unset, .unset, .unset, .unset, .unset, .unset, .unset] [])) _
    refine XS.iloadN X0.here hx rfl (hb hby at_15) rfl ?_
    show Steps p.tables e below (s₁.setTop (mkF m 16 #[.val (.int p0_0), .val (.int p0_1), .val (.int p0_2), .val (.int p0_3), .val (.int p0_4), .val (.int (v0_4 p0_2)), .val (.long (v0_13 p0_2)), .second, .unset, .unset, .unset, .unset, .unset, .unset, .unset] [(.int p0_0)])) _
    refine XS.i2l X0.here hx rfl (hb hby at_16) rfl ?_
    show Steps p.tables e below (s₁.setTop (mkF m 17 #[.val (.int p0_0), .val (.int p0_1), .val (.int p0_2), .val (.int p0_3), .val (.int p0_4), .val (.int (v0_4 p0_2)), .val (.long (v0_13 p0_2)), .second, .unset, .unset, .unset, .unset, .unset, .unset, .unset] [(.long ((p0_0).toInt64))])) _
    refine X0.ldc2Long hx hown (mvT hZ (hw _ (List.mem_of_getElem? (i := 2) rfl))) (g := (mkF m 17 #[.val (.int p0_0), .val (.int p0_1), .val (.int p0_2), .val (.int p0_3), .val (.int p0_4), .val (.int (v0_4 p0_2)), .val (.long (v0_13 p0_2)), .second, .unset, .unset, .unset, .unset, .unset, .unset, .unset] [(.long ((p0_0).toInt64))])) rfl (hb hby at_17) _ ?_
    show Steps p.tables e below (s₁.setTop (mkF m 20 #[.val (.int p0_0), .val (.int p0_1), .val (.int p0_2), .val (.int p0_3), .val (.int p0_4), .val (.int (v0_4 p0_2)), .val (.long (v0_13 p0_2)), .second, .unset, .unset, .unset, .unset, .unset, .unset, .unset] [(.long (2147483647 : Int64)), (.long ((p0_0).toInt64))])) _
    refine XS.land X0.here hx rfl (hb hby at_20) rfl ?_
    show Steps p.tables e below (s₁.setTop (mkF m 21 #[.val (.int p0_0), .val (.int p0_1), .val (.int p0_2), .val (.int p0_3), .val (.int p0_4), .val (.int (v0_4 p0_2)), .val (.long (v0_13 p0_2)), .second, .unset, .unset, .unset, .unset, .unset, .unset, .unset] [(.long (((p0_0).toInt64) &&& (2147483647 : Int64)))])) _
    refine XS.lload X0.here hx rfl (hb hby at_21) rfl ?_
    show Steps p.tables e below (s₁.setTop (mkF m 23 #[.val (.int p0_0), .val (.int p0_1), .val (.int p0_2), .val (.int p0_3), .val (.int p0_4), .val (.int (v0_4 p0_2)), .val (.long (v0_13 p0_2)), .second, .unset, .unset, .unset, .unset, .unset, .unset, .unset] [(.long (v0_13 p0_2)), (.long (((p0_0).toInt64) &&& (2147483647 : Int64)))])) _
    refine XS.lrem X0.here hx rfl (hb hby at_23) rfl (own_nz p0_2) ?_
    show Steps p.tables e below (s₁.setTop (mkF m 24 #[.val (.int p0_0), .val (.int p0_1), .val (.int p0_2), .val (.int p0_3), .val (.int p0_4), .val (.int (v0_4 p0_2)), .val (.long (v0_13 p0_2)), .second, .unset, .unset, .unset, .unset, .unset, .unset, .unset] [(.long (own_remL (((p0_0).toInt64) &&& (2147483647 : Int64)) (v0_13 p0_2)))])) _
    refine XS.l2i X0.here hx rfl (hb hby at_24) rfl ?_
    show Steps p.tables e below (s₁.setTop (mkF m 25 #[.val (.int p0_0), .val (.int p0_1), .val (.int p0_2), .val (.int p0_3), .val (.int p0_4), .val (.int (v0_4 p0_2)), .val (.long (v0_13 p0_2)), .second, .unset, .unset, .unset, .unset, .unset, .unset, .unset] [(.int (((own_remL (((p0_0).toInt64) &&& (2147483647 : Int64)) (v0_13 p0_2))).toInt32))])) _
    show Steps p.tables e below (s₁.setTop (mkF m 25 #[.val (.int p0_0), .val (.int p0_1), .val (.int p0_2), .val (.int p0_3), .val (.int p0_4), .val (.int (v0_4 p0_2)), .val (.long (v0_13 p0_2)), .second, .unset, .unset, .unset, .unset, .unset, .unset, .unset] [(.int (v0_25 p0_0 p0_2))])) _
    refine XS.istore X0.here hx rfl (hb hby at_25) rfl (l' := #[.val (.int p0_0), .val (.int p0_1), .val (.int p0_2), .val (.int p0_3), .val (.int p0_4), .val (.int (v0_4 p0_2)), .val (.long (v0_13 p0_2)), .second, .val (.int (v0_25 p0_0 p0_2)), .unset, .unset, .unset, .unset, .unset, .unset]) rfl ?_
    show Steps p.tables e below (s₁.setTop (mkF m 27 #[.val (.int p0_0), .val (.int p0_1), .val (.int p0_2), .val (.int p0_3), .val (.int p0_4), .val (.int (v0_4 p0_2)), .val (.long (v0_13 p0_2)), .second, .val (.int (v0_25 p0_0 p0_2)), .unset, .unset, .unset, .unset, .unset, .unset] [])) _
    refine XS.iloadN X0.here hx rfl (hb hby at_27) rfl ?_
    show Steps p.tables e below (s₁.setTop (mkF m 28 #[.val (.int p0_0), .val (.int p0_1), .val (.int p0_2), .val (.int p0_3), .val (.int p0_4), .val (.int (v0_4 p0_2)), .val (.long (v0_13 p0_2)), .second, .val (.int (v0_25 p0_0 p0_2)), .unset, .unset, .unset, .unset, .unset, .unset] [(.int p0_1)])) _
    refine XS.i2l X0.here hx rfl (hb hby at_28) rfl ?_
    show Steps p.tables e below (s₁.setTop (mkF m 29 #[.val (.int p0_0), .val (.int p0_1), .val (.int p0_2), .val (.int p0_3), .val (.int p0_4), .val (.int (v0_4 p0_2)), .val (.long (v0_13 p0_2)), .second, .val (.int (v0_25 p0_0 p0_2)), .unset, .unset, .unset, .unset, .unset, .unset] [(.long ((p0_1).toInt64))])) _
    refine X0.ldc2Long hx hown (mvT hZ (hw _ (List.mem_of_getElem? (i := 2) rfl))) (g := (mkF m 29 #[.val (.int p0_0), .val (.int p0_1), .val (.int p0_2), .val (.int p0_3), .val (.int p0_4), .val (.int (v0_4 p0_2)), .val (.long (v0_13 p0_2)), .second, .val (.int (v0_25 p0_0 p0_2)), .unset, .unset, .unset, .unset, .unset, .unset] [(.long ((p0_1).toInt64))])) rfl (hb hby at_29) _ ?_
    show Steps p.tables e below (s₁.setTop (mkF m 32 #[.val (.int p0_0), .val (.int p0_1), .val (.int p0_2), .val (.int p0_3), .val (.int p0_4), .val (.int (v0_4 p0_2)), .val (.long (v0_13 p0_2)), .second, .val (.int (v0_25 p0_0 p0_2)), .unset, .unset, .unset, .unset, .unset, .unset] [(.long (2147483647 : Int64)), (.long ((p0_1).toInt64))])) _
    refine XS.land X0.here hx rfl (hb hby at_32) rfl ?_
    show Steps p.tables e below (s₁.setTop (mkF m 33 #[.val (.int p0_0), .val (.int p0_1), .val (.int p0_2), .val (.int p0_3), .val (.int p0_4), .val (.int (v0_4 p0_2)), .val (.long (v0_13 p0_2)), .second, .val (.int (v0_25 p0_0 p0_2)), .unset, .unset, .unset, .unset, .unset, .unset] [(.long (((p0_1).toInt64) &&& (2147483647 : Int64)))])) _
    refine XS.lload X0.here hx rfl (hb hby at_33) rfl ?_
    show Steps p.tables e below (s₁.setTop (mkF m 35 #[.val (.int p0_0), .val (.int p0_1), .val (.int p0_2), .val (.int p0_3), .val (.int p0_4), .val (.int (v0_4 p0_2)), .val (.long (v0_13 p0_2)), .second, .val (.int (v0_25 p0_0 p0_2)), .unset, .unset, .unset, .unset, .unset, .unset] [(.long (v0_13 p0_2)), (.long (((p0_1).toInt64) &&& (2147483647 : Int64)))])) _
    refine XS.lrem X0.here hx rfl (hb hby at_35) rfl (own_nz p0_2) ?_
    show Steps p.tables e below (s₁.setTop (mkF m 36 #[.val (.int p0_0), .val (.int p0_1), .val (.int p0_2), .val (.int p0_3), .val (.int p0_4), .val (.int (v0_4 p0_2)), .val (.long (v0_13 p0_2)), .second, .val (.int (v0_25 p0_0 p0_2)), .unset, .unset, .unset, .unset, .unset, .unset] [(.long (own_remL (((p0_1).toInt64) &&& (2147483647 : Int64)) (v0_13 p0_2)))])) _
    refine XS.l2i X0.here hx rfl (hb hby at_36) rfl ?_
    show Steps p.tables e below (s₁.setTop (mkF m 37 #[.val (.int p0_0), .val (.int p0_1), .val (.int p0_2), .val (.int p0_3), .val (.int p0_4), .val (.int (v0_4 p0_2)), .val (.long (v0_13 p0_2)), .second, .val (.int (v0_25 p0_0 p0_2)), .unset, .unset, .unset, .unset, .unset, .unset] [(.int (((own_remL (((p0_1).toInt64) &&& (2147483647 : Int64)) (v0_13 p0_2))).toInt32))])) _
    show Steps p.tables e below (s₁.setTop (mkF m 37 #[.val (.int p0_0), .val (.int p0_1), .val (.int p0_2), .val (.int p0_3), .val (.int p0_4), .val (.int (v0_4 p0_2)), .val (.long (v0_13 p0_2)), .second, .val (.int (v0_25 p0_0 p0_2)), .unset, .unset, .unset, .unset, .unset, .unset] [(.int (v0_37 p0_1 p0_2))])) _
    refine XS.istore X0.here hx rfl (hb hby at_37) rfl (l' := #[.val (.int p0_0), .val (.int p0_1), .val (.int p0_2), .val (.int p0_3), .val (.int p0_4), .val (.int (v0_4 p0_2)), .val (.long (v0_13 p0_2)), .second, .val (.int (v0_25 p0_0 p0_2)), .val (.int (v0_37 p0_1 p0_2)), .unset, .unset, .unset, .unset, .unset]) rfl ?_
    show Steps p.tables e below (s₁.setTop (mkF m 39 #[.val (.int p0_0), .val (.int p0_1), .val (.int p0_2), .val (.int p0_3), .val (.int p0_4), .val (.int (v0_4 p0_2)), .val (.long (v0_13 p0_2)), .second, .val (.int (v0_25 p0_0 p0_2)), .val (.int (v0_37 p0_1 p0_2)), .unset, .unset, .unset, .unset, .unset] [])) _
    refine XS.iload X0.here hx rfl (hb hby at_39) rfl ?_
    show Steps p.tables e below (s₁.setTop (mkF m 41 #[.val (.int p0_0), .val (.int p0_1), .val (.int p0_2), .val (.int p0_3), .val (.int p0_4), .val (.int (v0_4 p0_2)), .val (.long (v0_13 p0_2)), .second, .val (.int (v0_25 p0_0 p0_2)), .val (.int (v0_37 p0_1 p0_2)), .unset, .unset, .unset, .unset, .unset] [(.int p0_4)])) _
    refine XS.iconst X0.here hx rfl (hb hby at_41) ?_
    show Steps p.tables e below (s₁.setTop (mkF m 42 #[.val (.int p0_0), .val (.int p0_1), .val (.int p0_2), .val (.int p0_3), .val (.int p0_4), .val (.int (v0_4 p0_2)), .val (.long (v0_13 p0_2)), .second, .val (.int (v0_25 p0_0 p0_2)), .val (.int (v0_37 p0_1 p0_2)), .unset, .unset, .unset, .unset, .unset] [(.int (1 : Int32)), (.int p0_4)])) _
    refine XS.iand X0.here hx rfl (hb hby at_42) rfl ?_
    show Steps p.tables e below (s₁.setTop (mkF m 43 #[.val (.int p0_0), .val (.int p0_1), .val (.int p0_2), .val (.int p0_3), .val (.int p0_4), .val (.int (v0_4 p0_2)), .val (.long (v0_13 p0_2)), .second, .val (.int (v0_25 p0_0 p0_2)), .val (.int (v0_37 p0_1 p0_2)), .unset, .unset, .unset, .unset, .unset] [(.int (p0_4 &&& (1 : Int32)))])) _
    exact k)
  by_cases hc43_2 : (p0_4 &&& (1 : Int32)) = (0 : Int32)
  · have pre3 : ∀ t, Steps p.tables e below (s₁.setTop (mkF m 157 #[.val (.int p0_0), .val (.int p0_1), .val (.int p0_2), .val (.int p0_3), .val (.int p0_4), .val (.int (v0_4 p0_2)), .val (.long (v0_13 p0_2)), .second, .val (.int (v0_25 p0_0 p0_2)), .val (.int (v0_37 p0_1 p0_2)), .val (.long (v0_52 p0_3)), .second, .unset, .unset, .unset] [])) t → Steps p.tables e below (s₁.setTop (entryFrame m #[(.int p0_0), (.int p0_1), (.int p0_2), (.int p0_3), (.int p0_4)] maxLocals)) t := fun t k => pre1 t (by
      refine XS.ifNo X0.here hx rfl (hb hby at_43) rfl ((if0 _ _).trans (teq hc43_2).2) ?_
      show Steps p.tables e below (s₁.setTop (mkF m 46 #[.val (.int p0_0), .val (.int p0_1), .val (.int p0_2), .val (.int p0_3), .val (.int p0_4), .val (.int (v0_4 p0_2)), .val (.long (v0_13 p0_2)), .second, .val (.int (v0_25 p0_0 p0_2)), .val (.int (v0_37 p0_1 p0_2)), .unset, .unset, .unset, .unset, .unset] [])) _
      refine XS.iloadN X0.here hx rfl (hb hby at_46) rfl ?_
      show Steps p.tables e below (s₁.setTop (mkF m 47 #[.val (.int p0_0), .val (.int p0_1), .val (.int p0_2), .val (.int p0_3), .val (.int p0_4), .val (.int (v0_4 p0_2)), .val (.long (v0_13 p0_2)), .second, .val (.int (v0_25 p0_0 p0_2)), .val (.int (v0_37 p0_1 p0_2)), .unset, .unset, .unset, .unset, .unset] [(.int p0_3)])) _
      refine XS.i2l X0.here hx rfl (hb hby at_47) rfl ?_
      show Steps p.tables e below (s₁.setTop (mkF m 48 #[.val (.int p0_0), .val (.int p0_1), .val (.int p0_2), .val (.int p0_3), .val (.int p0_4), .val (.int (v0_4 p0_2)), .val (.long (v0_13 p0_2)), .second, .val (.int (v0_25 p0_0 p0_2)), .val (.int (v0_37 p0_1 p0_2)), .unset, .unset, .unset, .unset, .unset] [(.long ((p0_3).toInt64))])) _
      refine X0.ldc2Long hx hown (mvT hZ (hw _ (List.mem_of_getElem? (i := 2) rfl))) (g := (mkF m 48 #[.val (.int p0_0), .val (.int p0_1), .val (.int p0_2), .val (.int p0_3), .val (.int p0_4), .val (.int (v0_4 p0_2)), .val (.long (v0_13 p0_2)), .second, .val (.int (v0_25 p0_0 p0_2)), .val (.int (v0_37 p0_1 p0_2)), .unset, .unset, .unset, .unset, .unset] [(.long ((p0_3).toInt64))])) rfl (hb hby at_48) _ ?_
      show Steps p.tables e below (s₁.setTop (mkF m 51 #[.val (.int p0_0), .val (.int p0_1), .val (.int p0_2), .val (.int p0_3), .val (.int p0_4), .val (.int (v0_4 p0_2)), .val (.long (v0_13 p0_2)), .second, .val (.int (v0_25 p0_0 p0_2)), .val (.int (v0_37 p0_1 p0_2)), .unset, .unset, .unset, .unset, .unset] [(.long (2147483647 : Int64)), (.long ((p0_3).toInt64))])) _
      refine XS.land X0.here hx rfl (hb hby at_51) rfl ?_
      show Steps p.tables e below (s₁.setTop (mkF m 52 #[.val (.int p0_0), .val (.int p0_1), .val (.int p0_2), .val (.int p0_3), .val (.int p0_4), .val (.int (v0_4 p0_2)), .val (.long (v0_13 p0_2)), .second, .val (.int (v0_25 p0_0 p0_2)), .val (.int (v0_37 p0_1 p0_2)), .unset, .unset, .unset, .unset, .unset] [(.long (((p0_3).toInt64) &&& (2147483647 : Int64)))])) _
      show Steps p.tables e below (s₁.setTop (mkF m 52 #[.val (.int p0_0), .val (.int p0_1), .val (.int p0_2), .val (.int p0_3), .val (.int p0_4), .val (.int (v0_4 p0_2)), .val (.long (v0_13 p0_2)), .second, .val (.int (v0_25 p0_0 p0_2)), .val (.int (v0_37 p0_1 p0_2)), .unset, .unset, .unset, .unset, .unset] [(.long (v0_52 p0_3))])) _
      refine XS.lstore X0.here hx rfl (hb hby at_52) rfl (l' := #[.val (.int p0_0), .val (.int p0_1), .val (.int p0_2), .val (.int p0_3), .val (.int p0_4), .val (.int (v0_4 p0_2)), .val (.long (v0_13 p0_2)), .second, .val (.int (v0_25 p0_0 p0_2)), .val (.int (v0_37 p0_1 p0_2)), .val (.long (v0_52 p0_3)), .second, .unset, .unset, .unset]) rfl ?_
      show Steps p.tables e below (s₁.setTop (mkF m 54 #[.val (.int p0_0), .val (.int p0_1), .val (.int p0_2), .val (.int p0_3), .val (.int p0_4), .val (.int (v0_4 p0_2)), .val (.long (v0_13 p0_2)), .second, .val (.int (v0_25 p0_0 p0_2)), .val (.int (v0_37 p0_1 p0_2)), .val (.long (v0_52 p0_3)), .second, .unset, .unset, .unset] [])) _
      refine XS.goto X0.here hx rfl (pc0 := 54) (pc' := 157) rfl (hb hby at_54) (by decide) (by decide) ?_
      show Steps p.tables e below (s₁.setTop (mkF m 157 #[.val (.int p0_0), .val (.int p0_1), .val (.int p0_2), .val (.int p0_3), .val (.int p0_4), .val (.int (v0_4 p0_2)), .val (.long (v0_13 p0_2)), .second, .val (.int (v0_25 p0_0 p0_2)), .val (.int (v0_37 p0_1 p0_2)), .val (.long (v0_52 p0_3)), .second, .unset, .unset, .unset] [])) _
      exact k)
    obtain ⟨T4, h4, X4, e4, E4, A4, D4, -, st4⟩ := newO X0 hx hZ hown (hw _ (List.mem_of_getElem? (i := 3) rfl)) (hw _ (List.mem_of_getElem? (i := 4) rfl)) (hw _ (List.mem_of_getElem? (i := 5) rfl)) e0 (g := (mkF m 157 #[.val (.int p0_0), .val (.int p0_1), .val (.int p0_2), .val (.int p0_3), .val (.int p0_4), .val (.int (v0_4 p0_2)), .val (.long (v0_13 p0_2)), .second, .val (.int (v0_25 p0_0 p0_2)), .val (.int (v0_37 p0_1 p0_2)), .val (.long (v0_52 p0_3)), .second, .unset, .unset, .unset] [])) rfl (hb hby at_157) (by decide) (by decide)
    obtain ⟨b4, q4⟩ : ∃ z, z = h0.size := ⟨_, rfl⟩
    rw [← q4] at A4 D4 st4
    have g_b4 : n0 ≤ b4 := Nat.le_trans Z0 (Nat.le_of_eq q4.symm)
    have Z4 : n0 ≤ h4.size := Nat.le_trans Z0 E4.1
    have F5 : Fld Z h4 b4 "com/example/rowforge/rowforge/core/Notice$RangeMoved" "from" "I" (.int (0 : Int32)) := D4 (Or.inr (hw _ (List.mem_of_getElem? (i := 27) rfl))) (ty := .int) (by decide)
    have F6 : Fld Z h4 b4 "com/example/rowforge/rowforge/core/Notice$RangeMoved" "to" "I" (.int (0 : Int32)) := D4 (Or.inr (hw _ (List.mem_of_getElem? (i := 29) rfl))) (ty := .int) (by decide)
    have F7 : Fld Z h4 b4 "com/example/rowforge/rowforge/core/Notice$RangeMoved" "count" "I" (.int (0 : Int32)) := D4 (Or.inr (hw _ (List.mem_of_getElem? (i := 31) rfl))) (ty := .int) (by decide)
    have pre4 : ∀ t, Steps p.tables e below (T4.setTop (mkF m 160 #[.val (.int p0_0), .val (.int p0_1), .val (.int p0_2), .val (.int p0_3), .val (.int p0_4), .val (.int (v0_4 p0_2)), .val (.long (v0_13 p0_2)), .second, .val (.int (v0_25 p0_0 p0_2)), .val (.int (v0_37 p0_1 p0_2)), .val (.long (v0_52 p0_3)), .second, .unset, .unset, .unset] [(.ref b4)])) t → Steps p.tables e below (s₁.setTop (entryFrame m #[(.int p0_0), (.int p0_1), (.int p0_2), (.int p0_3), (.int p0_4)] maxLocals)) t := fun t k => pre3 t (st4 t k)
    have pre8 : ∀ t, Steps p.tables e below (T4.setTop (mkF m 167 #[.val (.int p0_0), .val (.int p0_1), .val (.int p0_2), .val (.int p0_3), .val (.int p0_4), .val (.int (v0_4 p0_2)), .val (.long (v0_13 p0_2)), .second, .val (.int (v0_25 p0_0 p0_2)), .val (.int (v0_37 p0_1 p0_2)), .val (.long (v0_52 p0_3)), .second, .unset, .unset, .unset] [(.int (v0_4 p0_2)), (.int (v0_37 p0_1 p0_2)), (.int (v0_25 p0_0 p0_2)), (.ref b4), (.ref b4)])) t → Steps p.tables e below (s₁.setTop (entryFrame m #[(.int p0_0), (.int p0_1), (.int p0_2), (.int p0_3), (.int p0_4)] maxLocals)) t := fun t k => pre4 t (by
      refine XS.dup X4.here hx rfl (hb hby at_160) rfl rfl ?_
      show Steps p.tables e below (T4.setTop (mkF m 161 #[.val (.int p0_0), .val (.int p0_1), .val (.int p0_2), .val (.int p0_3), .val (.int p0_4), .val (.int (v0_4 p0_2)), .val (.long (v0_13 p0_2)), .second, .val (.int (v0_25 p0_0 p0_2)), .val (.int (v0_37 p0_1 p0_2)), .val (.long (v0_52 p0_3)), .second, .unset, .unset, .unset] [(.ref b4), (.ref b4)])) _
      refine XS.iload X4.here hx rfl (hb hby at_161) rfl ?_
      show Steps p.tables e below (T4.setTop (mkF m 163 #[.val (.int p0_0), .val (.int p0_1), .val (.int p0_2), .val (.int p0_3), .val (.int p0_4), .val (.int (v0_4 p0_2)), .val (.long (v0_13 p0_2)), .second, .val (.int (v0_25 p0_0 p0_2)), .val (.int (v0_37 p0_1 p0_2)), .val (.long (v0_52 p0_3)), .second, .unset, .unset, .unset] [(.int (v0_25 p0_0 p0_2)), (.ref b4), (.ref b4)])) _
      refine XS.iload X4.here hx rfl (hb hby at_163) rfl ?_
      show Steps p.tables e below (T4.setTop (mkF m 165 #[.val (.int p0_0), .val (.int p0_1), .val (.int p0_2), .val (.int p0_3), .val (.int p0_4), .val (.int (v0_4 p0_2)), .val (.long (v0_13 p0_2)), .second, .val (.int (v0_25 p0_0 p0_2)), .val (.int (v0_37 p0_1 p0_2)), .val (.long (v0_52 p0_3)), .second, .unset, .unset, .unset] [(.int (v0_37 p0_1 p0_2)), (.int (v0_25 p0_0 p0_2)), (.ref b4), (.ref b4)])) _
      refine XS.iload X4.here hx rfl (hb hby at_165) rfl ?_
      show Steps p.tables e below (T4.setTop (mkF m 167 #[.val (.int p0_0), .val (.int p0_1), .val (.int p0_2), .val (.int p0_3), .val (.int p0_4), .val (.int (v0_4 p0_2)), .val (.long (v0_13 p0_2)), .second, .val (.int (v0_25 p0_0 p0_2)), .val (.int (v0_37 p0_1 p0_2)), .val (.long (v0_52 p0_3)), .second, .unset, .unset, .unset] [(.int (v0_4 p0_2)), (.int (v0_37 p0_1 p0_2)), (.int (v0_25 p0_0 p0_2)), (.ref b4), (.ref b4)])) _
      exact k)
    obtain ⟨_, _, ⟨T9, L9, k9, n9⟩, -, X9, ⟨Lc9, hQ9, l9, y9, z9⟩, st9⟩ := X4.specialBack hx (y := (⟨"com/example/rowforge/rowforge/core/Notice$RangeMoved", "<init>", "(III)V"⟩ : MethodName)) rfl hown (mvT hZ (hw _ (List.mem_of_getElem? (i := 6) rfl))) (mvT hZ (hw _ (List.mem_of_getElem? (i := 7) rfl))) (mvT hZ (hw _ (List.mem_of_getElem? (i := 8) rfl))) (by decide) (backOf (W := 1) (rm1 l Z a0 hw [] b4 (v0_25 p0_0 p0_2) (v0_37 p0_1 p0_2) (v0_4 p0_2) (0 : Int32) (0 : Int32) (0 : Int32) h4 n0 Z4 (own_A1 p0_0 p0_1 p0_2) (own_B1 p0_0 p0_1 p0_2) (own_A2 p0_0 p0_1 p0_2) (own_B2 p0_0 p0_1 p0_2) A4 F5 F6 F7 g_b4) hZ (hw _ (List.mem_of_getElem? (i := 8) rfl)) (hw _ (List.mem_of_getElem? (i := 5) rfl)) (by decide) (by decide)) (g := (mkF m 167 #[.val (.int p0_0), .val (.int p0_1), .val (.int p0_2), .val (.int p0_3), .val (.int p0_4), .val (.int (v0_4 p0_2)), .val (.long (v0_13 p0_2)), .second, .val (.int (v0_25 p0_0 p0_2)), .val (.int (v0_37 p0_1 p0_2)), .val (.long (v0_52 p0_3)), .second, .unset, .unset, .unset] [(.int (v0_4 p0_2)), (.int (v0_37 p0_1 p0_2)), (.int (v0_25 p0_0 p0_2)), (.ref b4), (.ref b4)])) rfl (by rw [hml]; rfl) (Steps.refl _) (a := b4) (argsL := [(.int (v0_25 p0_0 p0_2)), (.int (v0_37 p0_1 p0_2)), (.int (v0_4 p0_2))]) (rest := [(.ref b4)]) (lenOf pd_3 rfl) rfl (by show 2 * 0 + _ ≤ _; exact Nat.le_of_eq rfl) (hb hby at_167) (fun _ _ => ⟨rfl, e4, (by decide : 1 + 0 ≤ _), (by decide : 3 + 0 ≤ _)⟩)
    dsimp only [Pt.U, Pt.locs, Pt.cells, Pt.slots] at X9 l9 y9 z9 st9 hQ9
    subst l9 y9 z9
    obtain ⟨rfl, M9, K9c, P9_0, P9_1, P9_2⟩ := hQ9
    have N9 := Fr.app N0 M9
    have K9 : Keep h4 T9.heap [b4] := K9c
    have Z9 : n0 ≤ T9.heap.size := Nat.le_trans Z4 K9.1
    have Ex10 : Exa Z T9.heap b4 "com/example/rowforge/rowforge/core/Notice$RangeMoved" := A4.keep K9
    have F11 : Fld Z T9.heap b4 "com/example/rowforge/rowforge/core/Notice$RangeMoved" "from" "I" (.int (v0_25 p0_0 p0_2)) := P9_0
    have F12 : Fld Z T9.heap b4 "com/example/rowforge/rowforge/core/Notice$RangeMoved" "to" "I" (.int (v0_37 p0_1 p0_2)) := P9_1
    have F13 : Fld Z T9.heap b4 "com/example/rowforge/rowforge/core/Notice$RangeMoved" "count" "I" (.int (v0_4 p0_2)) := P9_2
    have pre9 : ∀ t, Steps p.tables e below (T9.setTop (mkF m 170 #[.val (.int p0_0), .val (.int p0_1), .val (.int p0_2), .val (.int p0_3), .val (.int p0_4), .val (.int (v0_4 p0_2)), .val (.long (v0_13 p0_2)), .second, .val (.int (v0_25 p0_0 p0_2)), .val (.int (v0_37 p0_1 p0_2)), .val (.long (v0_52 p0_3)), .second, .unset, .unset, .unset] [(.ref b4)])) t → Steps p.tables e below (s₁.setTop (entryFrame m #[(.int p0_0), (.int p0_1), (.int p0_2), (.int p0_3), (.int p0_4)] maxLocals)) t := fun t k => pre8 t (st9.trans k)
    have pre14 : ∀ t, Steps p.tables e below (T9.setTop (mkF m 177 #[.val (.int p0_0), .val (.int p0_1), .val (.int p0_2), .val (.int p0_3), .val (.int p0_4), .val (.int (v0_4 p0_2)), .val (.long (v0_13 p0_2)), .second, .val (.int (v0_25 p0_0 p0_2)), .val (.int (v0_37 p0_1 p0_2)), .val (.long (v0_52 p0_3)), .second, .val (.ref b4), .unset, .unset] [(.int (((v0_52 p0_3)).toInt32)), (.ref b4)])) t → Steps p.tables e below (s₁.setTop (entryFrame m #[(.int p0_0), (.int p0_1), (.int p0_2), (.int p0_3), (.int p0_4)] maxLocals)) t := fun t k => pre9 t (by
      refine XS.astore X9.here hx rfl (hb hby at_170) rfl rfl (l' := #[.val (.int p0_0), .val (.int p0_1), .val (.int p0_2), .val (.int p0_3), .val (.int p0_4), .val (.int (v0_4 p0_2)), .val (.long (v0_13 p0_2)), .second, .val (.int (v0_25 p0_0 p0_2)), .val (.int (v0_37 p0_1 p0_2)), .val (.long (v0_52 p0_3)), .second, .val (.ref b4), .unset, .unset]) rfl ?_
      show Steps p.tables e below (T9.setTop (mkF m 172 #[.val (.int p0_0), .val (.int p0_1), .val (.int p0_2), .val (.int p0_3), .val (.int p0_4), .val (.int (v0_4 p0_2)), .val (.long (v0_13 p0_2)), .second, .val (.int (v0_25 p0_0 p0_2)), .val (.int (v0_37 p0_1 p0_2)), .val (.long (v0_52 p0_3)), .second, .val (.ref b4), .unset, .unset] [])) _
      refine XS.aload X9.here hx rfl (hb hby at_172) rfl rfl ?_
      show Steps p.tables e below (T9.setTop (mkF m 174 #[.val (.int p0_0), .val (.int p0_1), .val (.int p0_2), .val (.int p0_3), .val (.int p0_4), .val (.int (v0_4 p0_2)), .val (.long (v0_13 p0_2)), .second, .val (.int (v0_25 p0_0 p0_2)), .val (.int (v0_37 p0_1 p0_2)), .val (.long (v0_52 p0_3)), .second, .val (.ref b4), .unset, .unset] [(.ref b4)])) _
      refine XS.lload X9.here hx rfl (hb hby at_174) rfl ?_
      show Steps p.tables e below (T9.setTop (mkF m 176 #[.val (.int p0_0), .val (.int p0_1), .val (.int p0_2), .val (.int p0_3), .val (.int p0_4), .val (.int (v0_4 p0_2)), .val (.long (v0_13 p0_2)), .second, .val (.int (v0_25 p0_0 p0_2)), .val (.int (v0_37 p0_1 p0_2)), .val (.long (v0_52 p0_3)), .second, .val (.ref b4), .unset, .unset] [(.long (v0_52 p0_3)), (.ref b4)])) _
      refine XS.l2i X9.here hx rfl (hb hby at_176) rfl ?_
      show Steps p.tables e below (T9.setTop (mkF m 177 #[.val (.int p0_0), .val (.int p0_1), .val (.int p0_2), .val (.int p0_3), .val (.int p0_4), .val (.int (v0_4 p0_2)), .val (.long (v0_13 p0_2)), .second, .val (.int (v0_25 p0_0 p0_2)), .val (.int (v0_37 p0_1 p0_2)), .val (.long (v0_52 p0_3)), .second, .val (.ref b4), .unset, .unset] [(.int (((v0_52 p0_3)).toInt32)), (.ref b4)])) _
      exact k)
    obtain ⟨cq15, kq15, qa15, qb15, qc15⟩ := isOf hZ rfl Ex10
    obtain ⟨_, _, ⟨T15, L15, k15, n15⟩, -, X15, ⟨Lc15, hQ15, l15, y15, z15⟩, st15⟩ := X9.virtualBack hx (y := (⟨"com/example/rowforge/rowforge/core/Notice$RangeMoved", "positionAfter", "(I)I"⟩ : MethodName)) (z := (⟨"com/example/rowforge/rowforge/core/Notice$RangeMoved", "positionAfter", "(I)I"⟩ : MethodName)) hown (mvT hZ (hw _ (List.mem_of_getElem? (i := 32) rfl))) (mvT hZ (hw _ (List.mem_of_getElem? (i := 33) rfl))) (notFace_of_selects (args := #[]) (mvT hZ (hw _ (List.mem_of_getElem? (i := 35) rfl)))) (mvT hZ (hw _ (List.mem_of_getElem? (i := 35) rfl))) (mvT hZ (hw _ (List.mem_of_getElem? (i := 34) rfl))) (by decide) (backOf (W := 0) (rm6 l Z a0 hw [] b4 (((v0_52 p0_3)).toInt32) (v0_25 p0_0 p0_2) (v0_4 p0_2) (v0_37 p0_1 p0_2) T9.heap n0 Z9 F11 F13 F12) hZ (hw _ (List.mem_of_getElem? (i := 36) rfl)) (hw _ (List.mem_of_getElem? (i := 5) rfl)) (by decide) (by decide)) qa15 qc15 (g := (mkF m 177 #[.val (.int p0_0), .val (.int p0_1), .val (.int p0_2), .val (.int p0_3), .val (.int p0_4), .val (.int (v0_4 p0_2)), .val (.long (v0_13 p0_2)), .second, .val (.int (v0_25 p0_0 p0_2)), .val (.int (v0_37 p0_1 p0_2)), .val (.long (v0_52 p0_3)), .second, .val (.ref b4), .unset, .unset] [(.int (((v0_52 p0_3)).toInt32)), (.ref b4)])) rfl (by rw [hml]; rfl) (Steps.refl _) (argsL := [(.int (((v0_52 p0_3)).toInt32))]) (rest := []) (lenOf pd_4 rfl) rfl (by show 2 * 0 + _ ≤ _; exact Nat.le_of_eq rfl) (hb hby at_177) (fun _ _ => ⟨rfl, rfl, (by decide : 1 + 0 ≤ _), (by decide : 3 + 0 ≤ _)⟩)
    dsimp only [Pt.U, Pt.locs, Pt.cells, Pt.slots] at X15 l15 y15 z15 st15 hQ15
    subst l15 y15 z15
    obtain ⟨rfl, M15, e15⟩ := hQ15
    have N15 := Fr.app N9 M15
    have pre15 : ∀ t, Steps p.tables e below (T15.setTop (mkF m 180 #[.val (.int p0_0), .val (.int p0_1), .val (.int p0_2), .val (.int p0_3), .val (.int p0_4), .val (.int (v0_4 p0_2)), .val (.long (v0_13 p0_2)), .second, .val (.int (v0_25 p0_0 p0_2)), .val (.int (v0_37 p0_1 p0_2)), .val (.long (v0_52 p0_3)), .second, .val (.ref b4), .unset, .unset] [(.int (c0_177 p0_0 p0_1 p0_2 p0_3))])) t → Steps p.tables e below (s₁.setTop (entryFrame m #[(.int p0_0), (.int p0_1), (.int p0_2), (.int p0_3), (.int p0_4)] maxLocals)) t := fun t k => pre14 t (st15.trans k)
    have pre16 : ∀ t, Steps p.tables e below (T15.setTop (mkF m 196 #[.val (.int p0_0), .val (.int p0_1), .val (.int p0_2), .val (.int p0_3), .val (.int p0_4), .val (.int (v0_4 p0_2)), .val (.long (v0_13 p0_2)), .second, .val (.int (v0_25 p0_0 p0_2)), .val (.int (v0_37 p0_1 p0_2)), .val (.long (v0_52 p0_3)), .second, .val (.ref b4), .val (.int (c0_177 p0_0 p0_1 p0_2 p0_3)), .unset] [(.long (v0_52 p0_3)), (.long (((v0_4 p0_2)).toInt64)), (.long (((v0_37 p0_1 p0_2)).toInt64)), (.long (((v0_25 p0_0 p0_2)).toInt64)), (.long (((c0_177 p0_0 p0_1 p0_2 p0_3)).toInt64))])) t → Steps p.tables e below (s₁.setTop (entryFrame m #[(.int p0_0), (.int p0_1), (.int p0_2), (.int p0_3), (.int p0_4)] maxLocals)) t := fun t k => pre15 t (by
      refine XS.istore X15.here hx rfl (hb hby at_180) rfl (l' := #[.val (.int p0_0), .val (.int p0_1), .val (.int p0_2), .val (.int p0_3), .val (.int p0_4), .val (.int (v0_4 p0_2)), .val (.long (v0_13 p0_2)), .second, .val (.int (v0_25 p0_0 p0_2)), .val (.int (v0_37 p0_1 p0_2)), .val (.long (v0_52 p0_3)), .second, .val (.ref b4), .val (.int (c0_177 p0_0 p0_1 p0_2 p0_3)), .unset]) rfl ?_
      show Steps p.tables e below (T15.setTop (mkF m 182 #[.val (.int p0_0), .val (.int p0_1), .val (.int p0_2), .val (.int p0_3), .val (.int p0_4), .val (.int (v0_4 p0_2)), .val (.long (v0_13 p0_2)), .second, .val (.int (v0_25 p0_0 p0_2)), .val (.int (v0_37 p0_1 p0_2)), .val (.long (v0_52 p0_3)), .second, .val (.ref b4), .val (.int (c0_177 p0_0 p0_1 p0_2 p0_3)), .unset] [])) _
      refine XS.iload X15.here hx rfl (hb hby at_182) rfl ?_
      show Steps p.tables e below (T15.setTop (mkF m 184 #[.val (.int p0_0), .val (.int p0_1), .val (.int p0_2), .val (.int p0_3), .val (.int p0_4), .val (.int (v0_4 p0_2)), .val (.long (v0_13 p0_2)), .second, .val (.int (v0_25 p0_0 p0_2)), .val (.int (v0_37 p0_1 p0_2)), .val (.long (v0_52 p0_3)), .second, .val (.ref b4), .val (.int (c0_177 p0_0 p0_1 p0_2 p0_3)), .unset] [(.int (c0_177 p0_0 p0_1 p0_2 p0_3))])) _
      refine XS.i2l X15.here hx rfl (hb hby at_184) rfl ?_
      show Steps p.tables e below (T15.setTop (mkF m 185 #[.val (.int p0_0), .val (.int p0_1), .val (.int p0_2), .val (.int p0_3), .val (.int p0_4), .val (.int (v0_4 p0_2)), .val (.long (v0_13 p0_2)), .second, .val (.int (v0_25 p0_0 p0_2)), .val (.int (v0_37 p0_1 p0_2)), .val (.long (v0_52 p0_3)), .second, .val (.ref b4), .val (.int (c0_177 p0_0 p0_1 p0_2 p0_3)), .unset] [(.long (((c0_177 p0_0 p0_1 p0_2 p0_3)).toInt64))])) _
      refine XS.iload X15.here hx rfl (hb hby at_185) rfl ?_
      show Steps p.tables e below (T15.setTop (mkF m 187 #[.val (.int p0_0), .val (.int p0_1), .val (.int p0_2), .val (.int p0_3), .val (.int p0_4), .val (.int (v0_4 p0_2)), .val (.long (v0_13 p0_2)), .second, .val (.int (v0_25 p0_0 p0_2)), .val (.int (v0_37 p0_1 p0_2)), .val (.long (v0_52 p0_3)), .second, .val (.ref b4), .val (.int (c0_177 p0_0 p0_1 p0_2 p0_3)), .unset] [(.int (v0_25 p0_0 p0_2)), (.long (((c0_177 p0_0 p0_1 p0_2 p0_3)).toInt64))])) _
      refine XS.i2l X15.here hx rfl (hb hby at_187) rfl ?_
      show Steps p.tables e below (T15.setTop (mkF m 188 #[.val (.int p0_0), .val (.int p0_1), .val (.int p0_2), .val (.int p0_3), .val (.int p0_4), .val (.int (v0_4 p0_2)), .val (.long (v0_13 p0_2)), .second, .val (.int (v0_25 p0_0 p0_2)), .val (.int (v0_37 p0_1 p0_2)), .val (.long (v0_52 p0_3)), .second, .val (.ref b4), .val (.int (c0_177 p0_0 p0_1 p0_2 p0_3)), .unset] [(.long (((v0_25 p0_0 p0_2)).toInt64)), (.long (((c0_177 p0_0 p0_1 p0_2 p0_3)).toInt64))])) _
      refine XS.iload X15.here hx rfl (hb hby at_188) rfl ?_
      show Steps p.tables e below (T15.setTop (mkF m 190 #[.val (.int p0_0), .val (.int p0_1), .val (.int p0_2), .val (.int p0_3), .val (.int p0_4), .val (.int (v0_4 p0_2)), .val (.long (v0_13 p0_2)), .second, .val (.int (v0_25 p0_0 p0_2)), .val (.int (v0_37 p0_1 p0_2)), .val (.long (v0_52 p0_3)), .second, .val (.ref b4), .val (.int (c0_177 p0_0 p0_1 p0_2 p0_3)), .unset] [(.int (v0_37 p0_1 p0_2)), (.long (((v0_25 p0_0 p0_2)).toInt64)), (.long (((c0_177 p0_0 p0_1 p0_2 p0_3)).toInt64))])) _
      refine XS.i2l X15.here hx rfl (hb hby at_190) rfl ?_
      show Steps p.tables e below (T15.setTop (mkF m 191 #[.val (.int p0_0), .val (.int p0_1), .val (.int p0_2), .val (.int p0_3), .val (.int p0_4), .val (.int (v0_4 p0_2)), .val (.long (v0_13 p0_2)), .second, .val (.int (v0_25 p0_0 p0_2)), .val (.int (v0_37 p0_1 p0_2)), .val (.long (v0_52 p0_3)), .second, .val (.ref b4), .val (.int (c0_177 p0_0 p0_1 p0_2 p0_3)), .unset] [(.long (((v0_37 p0_1 p0_2)).toInt64)), (.long (((v0_25 p0_0 p0_2)).toInt64)), (.long (((c0_177 p0_0 p0_1 p0_2 p0_3)).toInt64))])) _
      refine XS.iload X15.here hx rfl (hb hby at_191) rfl ?_
      show Steps p.tables e below (T15.setTop (mkF m 193 #[.val (.int p0_0), .val (.int p0_1), .val (.int p0_2), .val (.int p0_3), .val (.int p0_4), .val (.int (v0_4 p0_2)), .val (.long (v0_13 p0_2)), .second, .val (.int (v0_25 p0_0 p0_2)), .val (.int (v0_37 p0_1 p0_2)), .val (.long (v0_52 p0_3)), .second, .val (.ref b4), .val (.int (c0_177 p0_0 p0_1 p0_2 p0_3)), .unset] [(.int (v0_4 p0_2)), (.long (((v0_37 p0_1 p0_2)).toInt64)), (.long (((v0_25 p0_0 p0_2)).toInt64)), (.long (((c0_177 p0_0 p0_1 p0_2 p0_3)).toInt64))])) _
      refine XS.i2l X15.here hx rfl (hb hby at_193) rfl ?_
      show Steps p.tables e below (T15.setTop (mkF m 194 #[.val (.int p0_0), .val (.int p0_1), .val (.int p0_2), .val (.int p0_3), .val (.int p0_4), .val (.int (v0_4 p0_2)), .val (.long (v0_13 p0_2)), .second, .val (.int (v0_25 p0_0 p0_2)), .val (.int (v0_37 p0_1 p0_2)), .val (.long (v0_52 p0_3)), .second, .val (.ref b4), .val (.int (c0_177 p0_0 p0_1 p0_2 p0_3)), .unset] [(.long (((v0_4 p0_2)).toInt64)), (.long (((v0_37 p0_1 p0_2)).toInt64)), (.long (((v0_25 p0_0 p0_2)).toInt64)), (.long (((c0_177 p0_0 p0_1 p0_2 p0_3)).toInt64))])) _
      refine XS.lload X15.here hx rfl (hb hby at_194) rfl ?_
      show Steps p.tables e below (T15.setTop (mkF m 196 #[.val (.int p0_0), .val (.int p0_1), .val (.int p0_2), .val (.int p0_3), .val (.int p0_4), .val (.int (v0_4 p0_2)), .val (.long (v0_13 p0_2)), .second, .val (.int (v0_25 p0_0 p0_2)), .val (.int (v0_37 p0_1 p0_2)), .val (.long (v0_52 p0_3)), .second, .val (.ref b4), .val (.int (c0_177 p0_0 p0_1 p0_2 p0_3)), .unset] [(.long (v0_52 p0_3)), (.long (((v0_4 p0_2)).toInt64)), (.long (((v0_37 p0_1 p0_2)).toInt64)), (.long (((v0_25 p0_0 p0_2)).toInt64)), (.long (((c0_177 p0_0 p0_1 p0_2 p0_3)).toInt64))])) _
      exact k)
    obtain ⟨_, _, ⟨T17, L17, k17, n17⟩, -, X17, ⟨Lc17, hQ17, l17, y17, z17⟩, st17⟩ := Jvm.LawKit.callS X15 hx (y := (⟨"com/example/rowforge/rowforge/core/RangeMovedPositionAfterPinLaw", "expected", "(JJJJ)J"⟩ : MethodName)) hown (mvT hZ (hw _ (List.mem_of_getElem? (i := 37) rfl))) (mvT hZ (hw _ (List.mem_of_getElem? (i := 38) rfl))) (mvT hZ (hw _ (List.mem_of_getElem? (i := 39) rfl))) (mvT hZ (hw _ (List.mem_of_getElem? (i := 40) rfl))) (by decide) (backOf (W := 2) (rm7 l Z a0 hw [] (((v0_25 p0_0 p0_2)).toInt64) (((v0_37 p0_1 p0_2)).toInt64) (((v0_4 p0_2)).toInt64) (v0_52 p0_3) T9.heap n0 Z9 ) hZ (hw _ (List.mem_of_getElem? (i := 40) rfl)) (hw _ (List.mem_of_getElem? (i := 39) rfl)) (by decide) (by decide)) (g := (mkF m 196 #[.val (.int p0_0), .val (.int p0_1), .val (.int p0_2), .val (.int p0_3), .val (.int p0_4), .val (.int (v0_4 p0_2)), .val (.long (v0_13 p0_2)), .second, .val (.int (v0_25 p0_0 p0_2)), .val (.int (v0_37 p0_1 p0_2)), .val (.long (v0_52 p0_3)), .second, .val (.ref b4), .val (.int (c0_177 p0_0 p0_1 p0_2 p0_3)), .unset] [(.long (v0_52 p0_3)), (.long (((v0_4 p0_2)).toInt64)), (.long (((v0_37 p0_1 p0_2)).toInt64)), (.long (((v0_25 p0_0 p0_2)).toInt64)), (.long (((c0_177 p0_0 p0_1 p0_2 p0_3)).toInt64))])) rfl (by rw [hml]; rfl) (argsL := [(.long (((v0_25 p0_0 p0_2)).toInt64)), (.long (((v0_37 p0_1 p0_2)).toInt64)), (.long (((v0_4 p0_2)).toInt64)), (.long (v0_52 p0_3))]) (rest := [(.long (((c0_177 p0_0 p0_1 p0_2 p0_3)).toInt64))]) (lenOf pd_5 rfl) rfl (by show 2 * 0 + _ ≤ _; exact Nat.le_of_eq rfl) (hb hby at_196) (fun _ _ => ⟨rfl, e15, (by decide : 1 + 0 ≤ _), (by decide : 3 + 0 ≤ _)⟩)
    dsimp only [Pt.U, Pt.locs, Pt.cells, Pt.slots] at X17 l17 y17 z17 st17 hQ17
    subst l17 y17 z17
    obtain ⟨rfl, M17, e17⟩ := hQ17
    have N17 := Fr.app N15 M17
    have pre17 : ∀ t, Steps p.tables e below (T17.setTop (mkF m 199 #[.val (.int p0_0), .val (.int p0_1), .val (.int p0_2), .val (.int p0_3), .val (.int p0_4), .val (.int (v0_4 p0_2)), .val (.long (v0_13 p0_2)), .second, .val (.int (v0_25 p0_0 p0_2)), .val (.int (v0_37 p0_1 p0_2)), .val (.long (v0_52 p0_3)), .second, .val (.ref b4), .val (.int (c0_177 p0_0 p0_1 p0_2 p0_3)), .unset] [(.long (c0_196 p0_0 p0_1 p0_2 p0_3)), (.long (((c0_177 p0_0 p0_1 p0_2 p0_3)).toInt64))])) t → Steps p.tables e below (s₁.setTop (entryFrame m #[(.int p0_0), (.int p0_1), (.int p0_2), (.int p0_3), (.int p0_4)] maxLocals)) t := fun t k => pre16 t (st17 t k)
    have pre19 : ∀ t, Steps p.tables e below (T17.setTop (mkF m 208 #[.val (.int p0_0), .val (.int p0_1), .val (.int p0_2), .val (.int p0_3), .val (.int p0_4), .val (.int (v0_4 p0_2)), .val (.long (v0_13 p0_2)), .second, .val (.int (v0_25 p0_0 p0_2)), .val (.int (v0_37 p0_1 p0_2)), .val (.long (v0_52 p0_3)), .second, .val (.ref b4), .val (.int (c0_177 p0_0 p0_1 p0_2 p0_3)), .unset] [(.int (1 : Int32))])) t → Steps p.tables e below (s₁.setTop (entryFrame m #[(.int p0_0), (.int p0_1), (.int p0_2), (.int p0_3), (.int p0_4)] maxLocals)) t := fun t k => pre17 t (by
      refine XS.lcmp X17.here hx rfl (hb hby at_199) rfl ?_
      show Steps p.tables e below (T17.setTop (mkF m 200 #[.val (.int p0_0), .val (.int p0_1), .val (.int p0_2), .val (.int p0_3), .val (.int p0_4), .val (.int (v0_4 p0_2)), .val (.long (v0_13 p0_2)), .second, .val (.int (v0_25 p0_0 p0_2)), .val (.int (v0_37 p0_1 p0_2)), .val (.long (v0_52 p0_3)), .second, .val (.ref b4), .val (.int (c0_177 p0_0 p0_1 p0_2 p0_3)), .unset] [(.int (lcmpW (((c0_177 p0_0 p0_1 p0_2 p0_3)).toInt64) (c0_196 p0_0 p0_1 p0_2 p0_3)))])) _
      refine XS.ifNo X17.here hx rfl (hb hby at_200) rfl ((if0 _ _).trans (teq ((lw_eq (((c0_177 p0_0 p0_1 p0_2 p0_3)).toInt64) (c0_196 p0_0 p0_1 p0_2 p0_3)).mpr (show (((c0_177 p0_0 p0_1 p0_2 p0_3)).toInt64) = (c0_196 p0_0 p0_1 p0_2 p0_3) from (own_mainA p0_0 p0_1 p0_2 p0_3 p0_4)))).2) ?_
      show Steps p.tables e below (T17.setTop (mkF m 203 #[.val (.int p0_0), .val (.int p0_1), .val (.int p0_2), .val (.int p0_3), .val (.int p0_4), .val (.int (v0_4 p0_2)), .val (.long (v0_13 p0_2)), .second, .val (.int (v0_25 p0_0 p0_2)), .val (.int (v0_37 p0_1 p0_2)), .val (.long (v0_52 p0_3)), .second, .val (.ref b4), .val (.int (c0_177 p0_0 p0_1 p0_2 p0_3)), .unset] [])) _
      refine XS.iconst X17.here hx rfl (hb hby at_203) ?_
      show Steps p.tables e below (T17.setTop (mkF m 204 #[.val (.int p0_0), .val (.int p0_1), .val (.int p0_2), .val (.int p0_3), .val (.int p0_4), .val (.int (v0_4 p0_2)), .val (.long (v0_13 p0_2)), .second, .val (.int (v0_25 p0_0 p0_2)), .val (.int (v0_37 p0_1 p0_2)), .val (.long (v0_52 p0_3)), .second, .val (.ref b4), .val (.int (c0_177 p0_0 p0_1 p0_2 p0_3)), .unset] [(.int (1 : Int32))])) _
      refine XS.goto X17.here hx rfl (pc0 := 204) (pc' := 208) rfl (hb hby at_204) (by decide) (by decide) ?_
      show Steps p.tables e below (T17.setTop (mkF m 208 #[.val (.int p0_0), .val (.int p0_1), .val (.int p0_2), .val (.int p0_3), .val (.int p0_4), .val (.int (v0_4 p0_2)), .val (.long (v0_13 p0_2)), .second, .val (.int (v0_25 p0_0 p0_2)), .val (.int (v0_37 p0_1 p0_2)), .val (.long (v0_52 p0_3)), .second, .val (.ref b4), .val (.int (c0_177 p0_0 p0_1 p0_2 p0_3)), .unset] [(.int (1 : Int32))])) _
      exact k)
    obtain ⟨fs, hr, hrun, hended, hW, hsame⟩ := X17.leave (v := some (.int (1 : Int32))) (fun h => by rw [Bd.returns] at h; cases h)
    refine ⟨_, _, pre19 _ ?_, hrun, hended, _, _, rfl, ?_, ⟨_, rfl⟩, hW, hsame.mono (by decide) (by decide)⟩
    · show Steps p.tables e below (T17.setTop (mkF m 208 #[.val (.int p0_0), .val (.int p0_1), .val (.int p0_2), .val (.int p0_3), .val (.int p0_4), .val (.int (v0_4 p0_2)), .val (.long (v0_13 p0_2)), .second, .val (.int (v0_25 p0_0 p0_2)), .val (.int (v0_37 p0_1 p0_2)), .val (.long (v0_52 p0_3)), .second, .val (.ref b4), .val (.int (c0_177 p0_0 p0_1 p0_2 p0_3)), .unset] [(.int (1 : Int32))])) _
      exact retN X17 hx (t := .boolean) Bd.returns (by simp) (hb hby at_208) hr
    · show Q0 Z p0_0 p0_1 p0_2 p0_3 p0_4 h0 n0 _ T17.heap _
      rw [e17]
      exact ⟨rfl, N17⟩
  · have pre20 : ∀ t, Steps p.tables e below (s₁.setTop (mkF m 67 #[.val (.int p0_0), .val (.int p0_1), .val (.int p0_2), .val (.int p0_3), .val (.int p0_4), .val (.int (v0_4 p0_2)), .val (.long (v0_13 p0_2)), .second, .val (.int (v0_25 p0_0 p0_2)), .val (.int (v0_37 p0_1 p0_2)), .unset, .unset, .val (.int (v0_63 p0_4)), .unset, .unset] [(.int (v0_63 p0_4))])) t → Steps p.tables e below (s₁.setTop (entryFrame m #[(.int p0_0), (.int p0_1), (.int p0_2), (.int p0_3), (.int p0_4)] maxLocals)) t := fun t k => pre1 t (by
      refine XS.ifYes X0.here hx rfl (pc0 := 43) (pc' := 57) rfl (hb hby at_43) rfl ((if0 _ _).trans (feq hc43_2).2) (by decide) (by decide) ?_
      show Steps p.tables e below (s₁.setTop (mkF m 57 #[.val (.int p0_0), .val (.int p0_1), .val (.int p0_2), .val (.int p0_3), .val (.int p0_4), .val (.int (v0_4 p0_2)), .val (.long (v0_13 p0_2)), .second, .val (.int (v0_25 p0_0 p0_2)), .val (.int (v0_37 p0_1 p0_2)), .unset, .unset, .unset, .unset, .unset] [])) _
      refine XS.iload X0.here hx rfl (hb hby at_57) rfl ?_
      show Steps p.tables e below (s₁.setTop (mkF m 59 #[.val (.int p0_0), .val (.int p0_1), .val (.int p0_2), .val (.int p0_3), .val (.int p0_4), .val (.int (v0_4 p0_2)), .val (.long (v0_13 p0_2)), .second, .val (.int (v0_25 p0_0 p0_2)), .val (.int (v0_37 p0_1 p0_2)), .unset, .unset, .unset, .unset, .unset] [(.int p0_4)])) _
      refine XS.iconst X0.here hx rfl (hb hby at_59) ?_
      show Steps p.tables e below (s₁.setTop (mkF m 60 #[.val (.int p0_0), .val (.int p0_1), .val (.int p0_2), .val (.int p0_3), .val (.int p0_4), .val (.int (v0_4 p0_2)), .val (.long (v0_13 p0_2)), .second, .val (.int (v0_25 p0_0 p0_2)), .val (.int (v0_37 p0_1 p0_2)), .unset, .unset, .unset, .unset, .unset] [(.int (1 : Int32)), (.int p0_4)])) _
      refine XS.ishr X0.here hx rfl (hb hby at_60) rfl ?_
      show Steps p.tables e below (s₁.setTop (mkF m 61 #[.val (.int p0_0), .val (.int p0_1), .val (.int p0_2), .val (.int p0_3), .val (.int p0_4), .val (.int (v0_4 p0_2)), .val (.long (v0_13 p0_2)), .second, .val (.int (v0_25 p0_0 p0_2)), .val (.int (v0_37 p0_1 p0_2)), .unset, .unset, .unset, .unset, .unset] [(.int (own_shr p0_4 (1 : Int32)))])) _
      refine XS.iconst X0.here hx rfl (hb hby at_61) ?_
      show Steps p.tables e below (s₁.setTop (mkF m 62 #[.val (.int p0_0), .val (.int p0_1), .val (.int p0_2), .val (.int p0_3), .val (.int p0_4), .val (.int (v0_4 p0_2)), .val (.long (v0_13 p0_2)), .second, .val (.int (v0_25 p0_0 p0_2)), .val (.int (v0_37 p0_1 p0_2)), .unset, .unset, .unset, .unset, .unset] [(.int (3 : Int32)), (.int (own_shr p0_4 (1 : Int32)))])) _
      refine XS.iand X0.here hx rfl (hb hby at_62) rfl ?_
      show Steps p.tables e below (s₁.setTop (mkF m 63 #[.val (.int p0_0), .val (.int p0_1), .val (.int p0_2), .val (.int p0_3), .val (.int p0_4), .val (.int (v0_4 p0_2)), .val (.long (v0_13 p0_2)), .second, .val (.int (v0_25 p0_0 p0_2)), .val (.int (v0_37 p0_1 p0_2)), .unset, .unset, .unset, .unset, .unset] [(.int ((own_shr p0_4 (1 : Int32)) &&& (3 : Int32)))])) _
      show Steps p.tables e below (s₁.setTop (mkF m 63 #[.val (.int p0_0), .val (.int p0_1), .val (.int p0_2), .val (.int p0_3), .val (.int p0_4), .val (.int (v0_4 p0_2)), .val (.long (v0_13 p0_2)), .second, .val (.int (v0_25 p0_0 p0_2)), .val (.int (v0_37 p0_1 p0_2)), .unset, .unset, .unset, .unset, .unset] [(.int (v0_63 p0_4))])) _
      refine XS.istore X0.here hx rfl (hb hby at_63) rfl (l' := #[.val (.int p0_0), .val (.int p0_1), .val (.int p0_2), .val (.int p0_3), .val (.int p0_4), .val (.int (v0_4 p0_2)), .val (.long (v0_13 p0_2)), .second, .val (.int (v0_25 p0_0 p0_2)), .val (.int (v0_37 p0_1 p0_2)), .unset, .unset, .val (.int (v0_63 p0_4)), .unset, .unset]) rfl ?_
      show Steps p.tables e below (s₁.setTop (mkF m 65 #[.val (.int p0_0), .val (.int p0_1), .val (.int p0_2), .val (.int p0_3), .val (.int p0_4), .val (.int (v0_4 p0_2)), .val (.long (v0_13 p0_2)), .second, .val (.int (v0_25 p0_0 p0_2)), .val (.int (v0_37 p0_1 p0_2)), .unset, .unset, .val (.int (v0_63 p0_4)), .unset, .unset] [])) _
      refine XS.iload X0.here hx rfl (hb hby at_65) rfl ?_
      show Steps p.tables e below (s₁.setTop (mkF m 67 #[.val (.int p0_0), .val (.int p0_1), .val (.int p0_2), .val (.int p0_3), .val (.int p0_4), .val (.int (v0_4 p0_2)), .val (.long (v0_13 p0_2)), .second, .val (.int (v0_25 p0_0 p0_2)), .val (.int (v0_37 p0_1 p0_2)), .unset, .unset, .val (.int (v0_63 p0_4)), .unset, .unset] [(.int (v0_63 p0_4))])) _
      exact k)
    obtain ⟨T21, L21, X21, e21, N21, st21⟩ : ∃ (T' : State) (L' : List Loc), Stand p l e room_1 s m #[(.int p0_0), (.int p0_1), (.int p0_2), (.int p0_3), (.int p0_4)] below meth c T' L' 0 0 ∧ T'.heap = h0 ∧ Fr n0 L' ∧ ∀ t, Steps p.tables e below (T'.setTop (mkF m 119 #[.val (.int p0_0), .val (.int p0_1), .val (.int p0_2), .val (.int p0_3), .val (.int p0_4), .val (.int (v0_4 p0_2)), .val (.long (v0_13 p0_2)), .second, .val (.int (v0_25 p0_0 p0_2)), .val (.int (v0_37 p0_1 p0_2)), .unset, .unset, .val (.int (v0_63 p0_4)), .val (.long (j0_119_13 p0_0 p0_1 p0_2 p0_4)), .second] [])) t → Steps p.tables e below (s₁.setTop (mkF m 67 #[.val (.int p0_0), .val (.int p0_1), .val (.int p0_2), .val (.int p0_3), .val (.int p0_4), .val (.int (v0_4 p0_2)), .val (.long (v0_13 p0_2)), .second, .val (.int (v0_25 p0_0 p0_2)), .val (.int (v0_37 p0_1 p0_2)), .unset, .unset, .val (.int (v0_63 p0_4)), .unset, .unset] [(.int (v0_63 p0_4))])) t := by
      have pre21 : ∀ t, Steps p.tables e below (s₁.setTop (mkF m 67 #[.val (.int p0_0), .val (.int p0_1), .val (.int p0_2), .val (.int p0_3), .val (.int p0_4), .val (.int (v0_4 p0_2)), .val (.long (v0_13 p0_2)), .second, .val (.int (v0_25 p0_0 p0_2)), .val (.int (v0_37 p0_1 p0_2)), .unset, .unset, .val (.int (v0_63 p0_4)), .unset, .unset] [(.int (v0_63 p0_4))])) t → Steps p.tables e below (s₁.setTop (mkF m 67 #[.val (.int p0_0), .val (.int p0_1), .val (.int p0_2), .val (.int p0_3), .val (.int p0_4), .val (.int (v0_4 p0_2)), .val (.long (v0_13 p0_2)), .second, .val (.int (v0_25 p0_0 p0_2)), .val (.int (v0_37 p0_1 p0_2)), .unset, .unset, .val (.int (v0_63 p0_4)), .unset, .unset] [(.int (v0_63 p0_4))])) t := fun t k => k
      by_cases hc67_22 : (v0_63 p0_4) = (0 : Int32)
      · have pre23 : ∀ t, Steps p.tables e below (s₁.setTop (mkF m 119 #[.val (.int p0_0), .val (.int p0_1), .val (.int p0_2), .val (.int p0_3), .val (.int p0_4), .val (.int (v0_4 p0_2)), .val (.long (v0_13 p0_2)), .second, .val (.int (v0_25 p0_0 p0_2)), .val (.int (v0_37 p0_1 p0_2)), .unset, .unset, .val (.int (v0_63 p0_4)), .val (.long (v0_73 p0_0 p0_2)), .second] [])) t → Steps p.tables e below (s₁.setTop (mkF m 67 #[.val (.int p0_0), .val (.int p0_1), .val (.int p0_2), .val (.int p0_3), .val (.int p0_4), .val (.int (v0_4 p0_2)), .val (.long (v0_13 p0_2)), .second, .val (.int (v0_25 p0_0 p0_2)), .val (.int (v0_37 p0_1 p0_2)), .unset, .unset, .val (.int (v0_63 p0_4)), .unset, .unset] [(.int (v0_63 p0_4))])) t := fun t k => pre21 t (by
          refine XS.ifNo X0.here hx rfl (hb hby at_67) rfl ((if0 _ _).trans (teq hc67_22).2) ?_
          show Steps p.tables e below (s₁.setTop (mkF m 70 #[.val (.int p0_0), .val (.int p0_1), .val (.int p0_2), .val (.int p0_3), .val (.int p0_4), .val (.int (v0_4 p0_2)), .val (.long (v0_13 p0_2)), .second, .val (.int (v0_25 p0_0 p0_2)), .val (.int (v0_37 p0_1 p0_2)), .unset, .unset, .val (.int (v0_63 p0_4)), .unset, .unset] [])) _
          refine XS.iload X0.here hx rfl (hb hby at_70) rfl ?_
          show Steps p.tables e below (s₁.setTop (mkF m 72 #[.val (.int p0_0), .val (.int p0_1), .val (.int p0_2), .val (.int p0_3), .val (.int p0_4), .val (.int (v0_4 p0_2)), .val (.long (v0_13 p0_2)), .second, .val (.int (v0_25 p0_0 p0_2)), .val (.int (v0_37 p0_1 p0_2)), .unset, .unset, .val (.int (v0_63 p0_4)), .unset, .unset] [(.int (v0_25 p0_0 p0_2))])) _
          refine XS.i2l X0.here hx rfl (hb hby at_72) rfl ?_
          show Steps p.tables e below (s₁.setTop (mkF m 73 #[.val (.int p0_0), .val (.int p0_1), .val (.int p0_2), .val (.int p0_3), .val (.int p0_4), .val (.int (v0_4 p0_2)), .val (.long (v0_13 p0_2)), .second, .val (.int (v0_25 p0_0 p0_2)), .val (.int (v0_37 p0_1 p0_2)), .unset, .unset, .val (.int (v0_63 p0_4)), .unset, .unset] [(.long (((v0_25 p0_0 p0_2)).toInt64))])) _
          show Steps p.tables e below (s₁.setTop (mkF m 73 #[.val (.int p0_0), .val (.int p0_1), .val (.int p0_2), .val (.int p0_3), .val (.int p0_4), .val (.int (v0_4 p0_2)), .val (.long (v0_13 p0_2)), .second, .val (.int (v0_25 p0_0 p0_2)), .val (.int (v0_37 p0_1 p0_2)), .unset, .unset, .val (.int (v0_63 p0_4)), .unset, .unset] [(.long (v0_73 p0_0 p0_2))])) _
          refine XS.lstore X0.here hx rfl (hb hby at_73) rfl (l' := #[.val (.int p0_0), .val (.int p0_1), .val (.int p0_2), .val (.int p0_3), .val (.int p0_4), .val (.int (v0_4 p0_2)), .val (.long (v0_13 p0_2)), .second, .val (.int (v0_25 p0_0 p0_2)), .val (.int (v0_37 p0_1 p0_2)), .unset, .unset, .val (.int (v0_63 p0_4)), .val (.long (v0_73 p0_0 p0_2)), .second]) rfl ?_
          show Steps p.tables e below (s₁.setTop (mkF m 75 #[.val (.int p0_0), .val (.int p0_1), .val (.int p0_2), .val (.int p0_3), .val (.int p0_4), .val (.int (v0_4 p0_2)), .val (.long (v0_13 p0_2)), .second, .val (.int (v0_25 p0_0 p0_2)), .val (.int (v0_37 p0_1 p0_2)), .unset, .unset, .val (.int (v0_63 p0_4)), .val (.long (v0_73 p0_0 p0_2)), .second] [])) _
          refine XS.goto X0.here hx rfl (pc0 := 75) (pc' := 119) rfl (hb hby at_75) (by decide) (by decide) ?_
          show Steps p.tables e below (s₁.setTop (mkF m 119 #[.val (.int p0_0), .val (.int p0_1), .val (.int p0_2), .val (.int p0_3), .val (.int p0_4), .val (.int (v0_4 p0_2)), .val (.long (v0_13 p0_2)), .second, .val (.int (v0_25 p0_0 p0_2)), .val (.int (v0_37 p0_1 p0_2)), .unset, .unset, .val (.int (v0_63 p0_4)), .val (.long (v0_73 p0_0 p0_2)), .second] [])) _
          exact k)
        have hj31 : (j0_119_13 p0_0 p0_1 p0_2 p0_4) = (v0_73 p0_0 p0_2) := by unfold j0_119_13; rw [if_pos hc67_22]
        exact ⟨s₁, _, X0, e0, N0, fun t k => pre23 t (by rw [hj31] at k; exact k)⟩
      · have pre24 : ∀ t, Steps p.tables e below (s₁.setTop (mkF m 81 #[.val (.int p0_0), .val (.int p0_1), .val (.int p0_2), .val (.int p0_3), .val (.int p0_4), .val (.int (v0_4 p0_2)), .val (.long (v0_13 p0_2)), .second, .val (.int (v0_25 p0_0 p0_2)), .val (.int (v0_37 p0_1 p0_2)), .unset, .unset, .val (.int (v0_63 p0_4)), .unset, .unset] [(.int (1 : Int32)), (.int (v0_63 p0_4))])) t → Steps p.tables e below (s₁.setTop (mkF m 67 #[.val (.int p0_0), .val (.int p0_1), .val (.int p0_2), .val (.int p0_3), .val (.int p0_4), .val (.int (v0_4 p0_2)), .val (.long (v0_13 p0_2)), .second, .val (.int (v0_25 p0_0 p0_2)), .val (.int (v0_37 p0_1 p0_2)), .unset, .unset, .val (.int (v0_63 p0_4)), .unset, .unset] [(.int (v0_63 p0_4))])) t := fun t k => pre21 t (by
          refine XS.ifYes X0.here hx rfl (pc0 := 67) (pc' := 78) rfl (hb hby at_67) rfl ((if0 _ _).trans (feq hc67_22).2) (by decide) (by decide) ?_
          show Steps p.tables e below (s₁.setTop (mkF m 78 #[.val (.int p0_0), .val (.int p0_1), .val (.int p0_2), .val (.int p0_3), .val (.int p0_4), .val (.int (v0_4 p0_2)), .val (.long (v0_13 p0_2)), .second, .val (.int (v0_25 p0_0 p0_2)), .val (.int (v0_37 p0_1 p0_2)), .unset, .unset, .val (.int (v0_63 p0_4)), .unset, .unset] [])) _
          refine XS.iload X0.here hx rfl (hb hby at_78) rfl ?_
          show Steps p.tables e below (s₁.setTop (mkF m 80 #[.val (.int p0_0), .val (.int p0_1), .val (.int p0_2), .val (.int p0_3), .val (.int p0_4), .val (.int (v0_4 p0_2)), .val (.long (v0_13 p0_2)), .second, .val (.int (v0_25 p0_0 p0_2)), .val (.int (v0_37 p0_1 p0_2)), .unset, .unset, .val (.int (v0_63 p0_4)), .unset, .unset] [(.int (v0_63 p0_4))])) _
          refine XS.iconst X0.here hx rfl (hb hby at_80) ?_
          show Steps p.tables e below (s₁.setTop (mkF m 81 #[.val (.int p0_0), .val (.int p0_1), .val (.int p0_2), .val (.int p0_3), .val (.int p0_4), .val (.int (v0_4 p0_2)), .val (.long (v0_13 p0_2)), .second, .val (.int (v0_25 p0_0 p0_2)), .val (.int (v0_37 p0_1 p0_2)), .unset, .unset, .val (.int (v0_63 p0_4)), .unset, .unset] [(.int (1 : Int32)), (.int (v0_63 p0_4))])) _
          exact k)
        by_cases hc81_25 : (v0_63 p0_4) = (1 : Int32)
        · have pre26 : ∀ t, Steps p.tables e below (s₁.setTop (mkF m 119 #[.val (.int p0_0), .val (.int p0_1), .val (.int p0_2), .val (.int p0_3), .val (.int p0_4), .val (.int (v0_4 p0_2)), .val (.long (v0_13 p0_2)), .second, .val (.int (v0_25 p0_0 p0_2)), .val (.int (v0_37 p0_1 p0_2)), .unset, .unset, .val (.int (v0_63 p0_4)), .val (.long (v0_91 p0_0 p0_2)), .second] [])) t → Steps p.tables e below (s₁.setTop (mkF m 67 #[.val (.int p0_0), .val (.int p0_1), .val (.int p0_2), .val (.int p0_3), .val (.int p0_4), .val (.int (v0_4 p0_2)), .val (.long (v0_13 p0_2)), .second, .val (.int (v0_25 p0_0 p0_2)), .val (.int (v0_37 p0_1 p0_2)), .unset, .unset, .val (.int (v0_63 p0_4)), .unset, .unset] [(.int (v0_63 p0_4))])) t := fun t k => pre24 t (by
            refine XS.icmpNo X0.here hx rfl (hb hby at_81) rfl (teq hc81_25).2 ?_
            show Steps p.tables e below (s₁.setTop (mkF m 84 #[.val (.int p0_0), .val (.int p0_1), .val (.int p0_2), .val (.int p0_3), .val (.int p0_4), .val (.int (v0_4 p0_2)), .val (.long (v0_13 p0_2)), .second, .val (.int (v0_25 p0_0 p0_2)), .val (.int (v0_37 p0_1 p0_2)), .unset, .unset, .val (.int (v0_63 p0_4)), .unset, .unset] [])) _
            refine XS.iload X0.here hx rfl (hb hby at_84) rfl ?_
            show Steps p.tables e below (s₁.setTop (mkF m 86 #[.val (.int p0_0), .val (.int p0_1), .val (.int p0_2), .val (.int p0_3), .val (.int p0_4), .val (.int (v0_4 p0_2)), .val (.long (v0_13 p0_2)), .second, .val (.int (v0_25 p0_0 p0_2)), .val (.int (v0_37 p0_1 p0_2)), .unset, .unset, .val (.int (v0_63 p0_4)), .unset, .unset] [(.int (v0_25 p0_0 p0_2))])) _
            refine XS.i2l X0.here hx rfl (hb hby at_86) rfl ?_
            show Steps p.tables e below (s₁.setTop (mkF m 87 #[.val (.int p0_0), .val (.int p0_1), .val (.int p0_2), .val (.int p0_3), .val (.int p0_4), .val (.int (v0_4 p0_2)), .val (.long (v0_13 p0_2)), .second, .val (.int (v0_25 p0_0 p0_2)), .val (.int (v0_37 p0_1 p0_2)), .unset, .unset, .val (.int (v0_63 p0_4)), .unset, .unset] [(.long (((v0_25 p0_0 p0_2)).toInt64))])) _
            refine XS.iload X0.here hx rfl (hb hby at_87) rfl ?_
            show Steps p.tables e below (s₁.setTop (mkF m 89 #[.val (.int p0_0), .val (.int p0_1), .val (.int p0_2), .val (.int p0_3), .val (.int p0_4), .val (.int (v0_4 p0_2)), .val (.long (v0_13 p0_2)), .second, .val (.int (v0_25 p0_0 p0_2)), .val (.int (v0_37 p0_1 p0_2)), .unset, .unset, .val (.int (v0_63 p0_4)), .unset, .unset] [(.int (v0_4 p0_2)), (.long (((v0_25 p0_0 p0_2)).toInt64))])) _
            refine XS.i2l X0.here hx rfl (hb hby at_89) rfl ?_
            show Steps p.tables e below (s₁.setTop (mkF m 90 #[.val (.int p0_0), .val (.int p0_1), .val (.int p0_2), .val (.int p0_3), .val (.int p0_4), .val (.int (v0_4 p0_2)), .val (.long (v0_13 p0_2)), .second, .val (.int (v0_25 p0_0 p0_2)), .val (.int (v0_37 p0_1 p0_2)), .unset, .unset, .val (.int (v0_63 p0_4)), .unset, .unset] [(.long (((v0_4 p0_2)).toInt64)), (.long (((v0_25 p0_0 p0_2)).toInt64))])) _
            refine XS.ladd X0.here hx rfl (hb hby at_90) rfl ?_
            show Steps p.tables e below (s₁.setTop (mkF m 91 #[.val (.int p0_0), .val (.int p0_1), .val (.int p0_2), .val (.int p0_3), .val (.int p0_4), .val (.int (v0_4 p0_2)), .val (.long (v0_13 p0_2)), .second, .val (.int (v0_25 p0_0 p0_2)), .val (.int (v0_37 p0_1 p0_2)), .unset, .unset, .val (.int (v0_63 p0_4)), .unset, .unset] [(.long ((((v0_25 p0_0 p0_2)).toInt64) + (((v0_4 p0_2)).toInt64)))])) _
            show Steps p.tables e below (s₁.setTop (mkF m 91 #[.val (.int p0_0), .val (.int p0_1), .val (.int p0_2), .val (.int p0_3), .val (.int p0_4), .val (.int (v0_4 p0_2)), .val (.long (v0_13 p0_2)), .second, .val (.int (v0_25 p0_0 p0_2)), .val (.int (v0_37 p0_1 p0_2)), .unset, .unset, .val (.int (v0_63 p0_4)), .unset, .unset] [(.long (v0_91 p0_0 p0_2))])) _
            refine XS.lstore X0.here hx rfl (hb hby at_91) rfl (l' := #[.val (.int p0_0), .val (.int p0_1), .val (.int p0_2), .val (.int p0_3), .val (.int p0_4), .val (.int (v0_4 p0_2)), .val (.long (v0_13 p0_2)), .second, .val (.int (v0_25 p0_0 p0_2)), .val (.int (v0_37 p0_1 p0_2)), .unset, .unset, .val (.int (v0_63 p0_4)), .val (.long (v0_91 p0_0 p0_2)), .second]) rfl ?_
            show Steps p.tables e below (s₁.setTop (mkF m 93 #[.val (.int p0_0), .val (.int p0_1), .val (.int p0_2), .val (.int p0_3), .val (.int p0_4), .val (.int (v0_4 p0_2)), .val (.long (v0_13 p0_2)), .second, .val (.int (v0_25 p0_0 p0_2)), .val (.int (v0_37 p0_1 p0_2)), .unset, .unset, .val (.int (v0_63 p0_4)), .val (.long (v0_91 p0_0 p0_2)), .second] [])) _
            refine XS.goto X0.here hx rfl (pc0 := 93) (pc' := 119) rfl (hb hby at_93) (by decide) (by decide) ?_
            show Steps p.tables e below (s₁.setTop (mkF m 119 #[.val (.int p0_0), .val (.int p0_1), .val (.int p0_2), .val (.int p0_3), .val (.int p0_4), .val (.int (v0_4 p0_2)), .val (.long (v0_13 p0_2)), .second, .val (.int (v0_25 p0_0 p0_2)), .val (.int (v0_37 p0_1 p0_2)), .unset, .unset, .val (.int (v0_63 p0_4)), .val (.long (v0_91 p0_0 p0_2)), .second] [])) _
            exact k)
          have hj32 : (j0_119_13 p0_0 p0_1 p0_2 p0_4) = (v0_91 p0_0 p0_2) := by unfold j0_119_13; rw [if_neg hc67_22, if_pos hc81_25]
          exact ⟨s₁, _, X0, e0, N0, fun t k => pre26 t (by rw [hj32] at k; exact k)⟩
        · have pre27 : ∀ t, Steps p.tables e below (s₁.setTop (mkF m 99 #[.val (.int p0_0), .val (.int p0_1), .val (.int p0_2), .val (.int p0_3), .val (.int p0_4), .val (.int (v0_4 p0_2)), .val (.long (v0_13 p0_2)), .second, .val (.int (v0_25 p0_0 p0_2)), .val (.int (v0_37 p0_1 p0_2)), .unset, .unset, .val (.int (v0_63 p0_4)), .unset, .unset] [(.int (2 : Int32)), (.int (v0_63 p0_4))])) t → Steps p.tables e below (s₁.setTop (mkF m 67 #[.val (.int p0_0), .val (.int p0_1), .val (.int p0_2), .val (.int p0_3), .val (.int p0_4), .val (.int (v0_4 p0_2)), .val (.long (v0_13 p0_2)), .second, .val (.int (v0_25 p0_0 p0_2)), .val (.int (v0_37 p0_1 p0_2)), .unset, .unset, .val (.int (v0_63 p0_4)), .unset, .unset] [(.int (v0_63 p0_4))])) t := fun t k => pre24 t (by
            refine XS.icmpYes X0.here hx rfl (pc0 := 81) (pc' := 96) rfl (hb hby at_81) rfl (feq hc81_25).2 (by decide) (by decide) ?_
            show Steps p.tables e below (s₁.setTop (mkF m 96 #[.val (.int p0_0), .val (.int p0_1), .val (.int p0_2), .val (.int p0_3), .val (.int p0_4), .val (.int (v0_4 p0_2)), .val (.long (v0_13 p0_2)), .second, .val (.int (v0_25 p0_0 p0_2)), .val (.int (v0_37 p0_1 p0_2)), .unset, .unset, .val (.int (v0_63 p0_4)), .unset, .unset] [])) _
            refine XS.iload X0.here hx rfl (hb hby at_96) rfl ?_
            show Steps p.tables e below (s₁.setTop (mkF m 98 #[.val (.int p0_0), .val (.int p0_1), .val (.int p0_2), .val (.int p0_3), .val (.int p0_4), .val (.int (v0_4 p0_2)), .val (.long (v0_13 p0_2)), .second, .val (.int (v0_25 p0_0 p0_2)), .val (.int (v0_37 p0_1 p0_2)), .unset, .unset, .val (.int (v0_63 p0_4)), .unset, .unset] [(.int (v0_63 p0_4))])) _
            refine XS.iconst X0.here hx rfl (hb hby at_98) ?_
            show Steps p.tables e below (s₁.setTop (mkF m 99 #[.val (.int p0_0), .val (.int p0_1), .val (.int p0_2), .val (.int p0_3), .val (.int p0_4), .val (.int (v0_4 p0_2)), .val (.long (v0_13 p0_2)), .second, .val (.int (v0_25 p0_0 p0_2)), .val (.int (v0_37 p0_1 p0_2)), .unset, .unset, .val (.int (v0_63 p0_4)), .unset, .unset] [(.int (2 : Int32)), (.int (v0_63 p0_4))])) _
            exact k)
          by_cases hc99_28 : (v0_63 p0_4) = (2 : Int32)
          · have pre29 : ∀ t, Steps p.tables e below (s₁.setTop (mkF m 119 #[.val (.int p0_0), .val (.int p0_1), .val (.int p0_2), .val (.int p0_3), .val (.int p0_4), .val (.int (v0_4 p0_2)), .val (.long (v0_13 p0_2)), .second, .val (.int (v0_25 p0_0 p0_2)), .val (.int (v0_37 p0_1 p0_2)), .unset, .unset, .val (.int (v0_63 p0_4)), .val (.long (v0_105 p0_1 p0_2)), .second] [])) t → Steps p.tables e below (s₁.setTop (mkF m 67 #[.val (.int p0_0), .val (.int p0_1), .val (.int p0_2), .val (.int p0_3), .val (.int p0_4), .val (.int (v0_4 p0_2)), .val (.long (v0_13 p0_2)), .second, .val (.int (v0_25 p0_0 p0_2)), .val (.int (v0_37 p0_1 p0_2)), .unset, .unset, .val (.int (v0_63 p0_4)), .unset, .unset] [(.int (v0_63 p0_4))])) t := fun t k => pre27 t (by
              refine XS.icmpNo X0.here hx rfl (hb hby at_99) rfl (teq hc99_28).2 ?_
              show Steps p.tables e below (s₁.setTop (mkF m 102 #[.val (.int p0_0), .val (.int p0_1), .val (.int p0_2), .val (.int p0_3), .val (.int p0_4), .val (.int (v0_4 p0_2)), .val (.long (v0_13 p0_2)), .second, .val (.int (v0_25 p0_0 p0_2)), .val (.int (v0_37 p0_1 p0_2)), .unset, .unset, .val (.int (v0_63 p0_4)), .unset, .unset] [])) _
              refine XS.iload X0.here hx rfl (hb hby at_102) rfl ?_
              show Steps p.tables e below (s₁.setTop (mkF m 104 #[.val (.int p0_0), .val (.int p0_1), .val (.int p0_2), .val (.int p0_3), .val (.int p0_4), .val (.int (v0_4 p0_2)), .val (.long (v0_13 p0_2)), .second, .val (.int (v0_25 p0_0 p0_2)), .val (.int (v0_37 p0_1 p0_2)), .unset, .unset, .val (.int (v0_63 p0_4)), .unset, .unset] [(.int (v0_37 p0_1 p0_2))])) _
              refine XS.i2l X0.here hx rfl (hb hby at_104) rfl ?_
              show Steps p.tables e below (s₁.setTop (mkF m 105 #[.val (.int p0_0), .val (.int p0_1), .val (.int p0_2), .val (.int p0_3), .val (.int p0_4), .val (.int (v0_4 p0_2)), .val (.long (v0_13 p0_2)), .second, .val (.int (v0_25 p0_0 p0_2)), .val (.int (v0_37 p0_1 p0_2)), .unset, .unset, .val (.int (v0_63 p0_4)), .unset, .unset] [(.long (((v0_37 p0_1 p0_2)).toInt64))])) _
              show Steps p.tables e below (s₁.setTop (mkF m 105 #[.val (.int p0_0), .val (.int p0_1), .val (.int p0_2), .val (.int p0_3), .val (.int p0_4), .val (.int (v0_4 p0_2)), .val (.long (v0_13 p0_2)), .second, .val (.int (v0_25 p0_0 p0_2)), .val (.int (v0_37 p0_1 p0_2)), .unset, .unset, .val (.int (v0_63 p0_4)), .unset, .unset] [(.long (v0_105 p0_1 p0_2))])) _
              refine XS.lstore X0.here hx rfl (hb hby at_105) rfl (l' := #[.val (.int p0_0), .val (.int p0_1), .val (.int p0_2), .val (.int p0_3), .val (.int p0_4), .val (.int (v0_4 p0_2)), .val (.long (v0_13 p0_2)), .second, .val (.int (v0_25 p0_0 p0_2)), .val (.int (v0_37 p0_1 p0_2)), .unset, .unset, .val (.int (v0_63 p0_4)), .val (.long (v0_105 p0_1 p0_2)), .second]) rfl ?_
              show Steps p.tables e below (s₁.setTop (mkF m 107 #[.val (.int p0_0), .val (.int p0_1), .val (.int p0_2), .val (.int p0_3), .val (.int p0_4), .val (.int (v0_4 p0_2)), .val (.long (v0_13 p0_2)), .second, .val (.int (v0_25 p0_0 p0_2)), .val (.int (v0_37 p0_1 p0_2)), .unset, .unset, .val (.int (v0_63 p0_4)), .val (.long (v0_105 p0_1 p0_2)), .second] [])) _
              refine XS.goto X0.here hx rfl (pc0 := 107) (pc' := 119) rfl (hb hby at_107) (by decide) (by decide) ?_
              show Steps p.tables e below (s₁.setTop (mkF m 119 #[.val (.int p0_0), .val (.int p0_1), .val (.int p0_2), .val (.int p0_3), .val (.int p0_4), .val (.int (v0_4 p0_2)), .val (.long (v0_13 p0_2)), .second, .val (.int (v0_25 p0_0 p0_2)), .val (.int (v0_37 p0_1 p0_2)), .unset, .unset, .val (.int (v0_63 p0_4)), .val (.long (v0_105 p0_1 p0_2)), .second] [])) _
              exact k)
            have hj33 : (j0_119_13 p0_0 p0_1 p0_2 p0_4) = (v0_105 p0_1 p0_2) := by unfold j0_119_13; rw [if_neg hc67_22, if_neg hc81_25, if_pos hc99_28]
            exact ⟨s₁, _, X0, e0, N0, fun t k => pre29 t (by rw [hj33] at k; exact k)⟩
          · have pre30 : ∀ t, Steps p.tables e below (s₁.setTop (mkF m 119 #[.val (.int p0_0), .val (.int p0_1), .val (.int p0_2), .val (.int p0_3), .val (.int p0_4), .val (.int (v0_4 p0_2)), .val (.long (v0_13 p0_2)), .second, .val (.int (v0_25 p0_0 p0_2)), .val (.int (v0_37 p0_1 p0_2)), .unset, .unset, .val (.int (v0_63 p0_4)), .val (.long (v0_117 p0_1 p0_2)), .second] [])) t → Steps p.tables e below (s₁.setTop (mkF m 67 #[.val (.int p0_0), .val (.int p0_1), .val (.int p0_2), .val (.int p0_3), .val (.int p0_4), .val (.int (v0_4 p0_2)), .val (.long (v0_13 p0_2)), .second, .val (.int (v0_25 p0_0 p0_2)), .val (.int (v0_37 p0_1 p0_2)), .unset, .unset, .val (.int (v0_63 p0_4)), .unset, .unset] [(.int (v0_63 p0_4))])) t := fun t k => pre27 t (by
              refine XS.icmpYes X0.here hx rfl (pc0 := 99) (pc' := 110) rfl (hb hby at_99) rfl (feq hc99_28).2 (by decide) (by decide) ?_
              show Steps p.tables e below (s₁.setTop (mkF m 110 #[.val (.int p0_0), .val (.int p0_1), .val (.int p0_2), .val (.int p0_3), .val (.int p0_4), .val (.int (v0_4 p0_2)), .val (.long (v0_13 p0_2)), .second, .val (.int (v0_25 p0_0 p0_2)), .val (.int (v0_37 p0_1 p0_2)), .unset, .unset, .val (.int (v0_63 p0_4)), .unset, .unset] [])) _
              refine XS.iload X0.here hx rfl (hb hby at_110) rfl ?_
              show Steps p.tables e below (s₁.setTop (mkF m 112 #[.val (.int p0_0), .val (.int p0_1), .val (.int p0_2), .val (.int p0_3), .val (.int p0_4), .val (.int (v0_4 p0_2)), .val (.long (v0_13 p0_2)), .second, .val (.int (v0_25 p0_0 p0_2)), .val (.int (v0_37 p0_1 p0_2)), .unset, .unset, .val (.int (v0_63 p0_4)), .unset, .unset] [(.int (v0_37 p0_1 p0_2))])) _
              refine XS.i2l X0.here hx rfl (hb hby at_112) rfl ?_
              show Steps p.tables e below (s₁.setTop (mkF m 113 #[.val (.int p0_0), .val (.int p0_1), .val (.int p0_2), .val (.int p0_3), .val (.int p0_4), .val (.int (v0_4 p0_2)), .val (.long (v0_13 p0_2)), .second, .val (.int (v0_25 p0_0 p0_2)), .val (.int (v0_37 p0_1 p0_2)), .unset, .unset, .val (.int (v0_63 p0_4)), .unset, .unset] [(.long (((v0_37 p0_1 p0_2)).toInt64))])) _
              refine XS.iload X0.here hx rfl (hb hby at_113) rfl ?_
              show Steps p.tables e below (s₁.setTop (mkF m 115 #[.val (.int p0_0), .val (.int p0_1), .val (.int p0_2), .val (.int p0_3), .val (.int p0_4), .val (.int (v0_4 p0_2)), .val (.long (v0_13 p0_2)), .second, .val (.int (v0_25 p0_0 p0_2)), .val (.int (v0_37 p0_1 p0_2)), .unset, .unset, .val (.int (v0_63 p0_4)), .unset, .unset] [(.int (v0_4 p0_2)), (.long (((v0_37 p0_1 p0_2)).toInt64))])) _
              refine XS.i2l X0.here hx rfl (hb hby at_115) rfl ?_
              show Steps p.tables e below (s₁.setTop (mkF m 116 #[.val (.int p0_0), .val (.int p0_1), .val (.int p0_2), .val (.int p0_3), .val (.int p0_4), .val (.int (v0_4 p0_2)), .val (.long (v0_13 p0_2)), .second, .val (.int (v0_25 p0_0 p0_2)), .val (.int (v0_37 p0_1 p0_2)), .unset, .unset, .val (.int (v0_63 p0_4)), .unset, .unset] [(.long (((v0_4 p0_2)).toInt64)), (.long (((v0_37 p0_1 p0_2)).toInt64))])) _
              refine XS.ladd X0.here hx rfl (hb hby at_116) rfl ?_
              show Steps p.tables e below (s₁.setTop (mkF m 117 #[.val (.int p0_0), .val (.int p0_1), .val (.int p0_2), .val (.int p0_3), .val (.int p0_4), .val (.int (v0_4 p0_2)), .val (.long (v0_13 p0_2)), .second, .val (.int (v0_25 p0_0 p0_2)), .val (.int (v0_37 p0_1 p0_2)), .unset, .unset, .val (.int (v0_63 p0_4)), .unset, .unset] [(.long ((((v0_37 p0_1 p0_2)).toInt64) + (((v0_4 p0_2)).toInt64)))])) _
              show Steps p.tables e below (s₁.setTop (mkF m 117 #[.val (.int p0_0), .val (.int p0_1), .val (.int p0_2), .val (.int p0_3), .val (.int p0_4), .val (.int (v0_4 p0_2)), .val (.long (v0_13 p0_2)), .second, .val (.int (v0_25 p0_0 p0_2)), .val (.int (v0_37 p0_1 p0_2)), .unset, .unset, .val (.int (v0_63 p0_4)), .unset, .unset] [(.long (v0_117 p0_1 p0_2))])) _
              refine XS.lstore X0.here hx rfl (hb hby at_117) rfl (l' := #[.val (.int p0_0), .val (.int p0_1), .val (.int p0_2), .val (.int p0_3), .val (.int p0_4), .val (.int (v0_4 p0_2)), .val (.long (v0_13 p0_2)), .second, .val (.int (v0_25 p0_0 p0_2)), .val (.int (v0_37 p0_1 p0_2)), .unset, .unset, .val (.int (v0_63 p0_4)), .val (.long (v0_117 p0_1 p0_2)), .second]) rfl ?_
              show Steps p.tables e below (s₁.setTop (mkF m 119 #[.val (.int p0_0), .val (.int p0_1), .val (.int p0_2), .val (.int p0_3), .val (.int p0_4), .val (.int (v0_4 p0_2)), .val (.long (v0_13 p0_2)), .second, .val (.int (v0_25 p0_0 p0_2)), .val (.int (v0_37 p0_1 p0_2)), .unset, .unset, .val (.int (v0_63 p0_4)), .val (.long (v0_117 p0_1 p0_2)), .second] [])) _
              exact k)
            have hj34 : (j0_119_13 p0_0 p0_1 p0_2 p0_4) = (v0_117 p0_1 p0_2) := by unfold j0_119_13; rw [if_neg hc67_22, if_neg hc81_25, if_neg hc99_28]
            exact ⟨s₁, _, X0, e0, N0, fun t k => pre30 t (by rw [hj34] at k; exact k)⟩
    have pre21 : ∀ t, Steps p.tables e below (T21.setTop (mkF m 119 #[.val (.int p0_0), .val (.int p0_1), .val (.int p0_2), .val (.int p0_3), .val (.int p0_4), .val (.int (v0_4 p0_2)), .val (.long (v0_13 p0_2)), .second, .val (.int (v0_25 p0_0 p0_2)), .val (.int (v0_37 p0_1 p0_2)), .unset, .unset, .val (.int (v0_63 p0_4)), .val (.long (j0_119_13 p0_0 p0_1 p0_2 p0_4)), .second] [])) t → Steps p.tables e below (s₁.setTop (entryFrame m #[(.int p0_0), (.int p0_1), (.int p0_2), (.int p0_3), (.int p0_4)] maxLocals)) t := fun t k => pre20 t (st21 t k)
    have pre35 : ∀ t, Steps p.tables e below (T21.setTop (mkF m 137 #[.val (.int p0_0), .val (.int p0_1), .val (.int p0_2), .val (.int p0_3), .val (.int p0_4), .val (.int (v0_4 p0_2)), .val (.long (v0_13 p0_2)), .second, .val (.int (v0_25 p0_0 p0_2)), .val (.int (v0_37 p0_1 p0_2)), .val (.long (v0_131 p0_0 p0_1 p0_2 p0_3 p0_4)), .second, .val (.int (v0_63 p0_4)), .val (.long (j0_119_13 p0_0 p0_1 p0_2 p0_4)), .second] [(.int (lcmpW (v0_131 p0_0 p0_1 p0_2 p0_3 p0_4) (0 : Int64)))])) t → Steps p.tables e below (s₁.setTop (entryFrame m #[(.int p0_0), (.int p0_1), (.int p0_2), (.int p0_3), (.int p0_4)] maxLocals)) t := fun t k => pre21 t (by
      refine XS.lload X21.here hx rfl (hb hby at_119) rfl ?_
      show Steps p.tables e below (T21.setTop (mkF m 121 #[.val (.int p0_0), .val (.int p0_1), .val (.int p0_2), .val (.int p0_3), .val (.int p0_4), .val (.int (v0_4 p0_2)), .val (.long (v0_13 p0_2)), .second, .val (.int (v0_25 p0_0 p0_2)), .val (.int (v0_37 p0_1 p0_2)), .unset, .unset, .val (.int (v0_63 p0_4)), .val (.long (j0_119_13 p0_0 p0_1 p0_2 p0_4)), .second] [(.long (j0_119_13 p0_0 p0_1 p0_2 p0_4))])) _
      refine XS.iloadN X21.here hx rfl (hb hby at_121) rfl ?_
      show Steps p.tables e below (T21.setTop (mkF m 122 #[.val (.int p0_0), .val (.int p0_1), .val (.int p0_2), .val (.int p0_3), .val (.int p0_4), .val (.int (v0_4 p0_2)), .val (.long (v0_13 p0_2)), .second, .val (.int (v0_25 p0_0 p0_2)), .val (.int (v0_37 p0_1 p0_2)), .unset, .unset, .val (.int (v0_63 p0_4)), .val (.long (j0_119_13 p0_0 p0_1 p0_2 p0_4)), .second] [(.int p0_3), (.long (j0_119_13 p0_0 p0_1 p0_2 p0_4))])) _
      refine X21.ldcInt hx hown (mvT hZ (hw _ (List.mem_of_getElem? (i := 0) rfl))) (g := (mkF m 122 #[.val (.int p0_0), .val (.int p0_1), .val (.int p0_2), .val (.int p0_3), .val (.int p0_4), .val (.int (v0_4 p0_2)), .val (.long (v0_13 p0_2)), .second, .val (.int (v0_25 p0_0 p0_2)), .val (.int (v0_37 p0_1 p0_2)), .unset, .unset, .val (.int (v0_63 p0_4)), .val (.long (j0_119_13 p0_0 p0_1 p0_2 p0_4)), .second] [(.int p0_3), (.long (j0_119_13 p0_0 p0_1 p0_2 p0_4))])) rfl (hb hby at_122) _ ?_
      show Steps p.tables e below (T21.setTop (mkF m 124 #[.val (.int p0_0), .val (.int p0_1), .val (.int p0_2), .val (.int p0_3), .val (.int p0_4), .val (.int (v0_4 p0_2)), .val (.long (v0_13 p0_2)), .second, .val (.int (v0_25 p0_0 p0_2)), .val (.int (v0_37 p0_1 p0_2)), .unset, .unset, .val (.int (v0_63 p0_4)), .val (.long (j0_119_13 p0_0 p0_1 p0_2 p0_4)), .second] [(.int (2147483647 : Int32)), (.int p0_3), (.long (j0_119_13 p0_0 p0_1 p0_2 p0_4))])) _
      refine XS.iand X21.here hx rfl (hb hby at_124) rfl ?_
      show Steps p.tables e below (T21.setTop (mkF m 125 #[.val (.int p0_0), .val (.int p0_1), .val (.int p0_2), .val (.int p0_3), .val (.int p0_4), .val (.int (v0_4 p0_2)), .val (.long (v0_13 p0_2)), .second, .val (.int (v0_25 p0_0 p0_2)), .val (.int (v0_37 p0_1 p0_2)), .unset, .unset, .val (.int (v0_63 p0_4)), .val (.long (j0_119_13 p0_0 p0_1 p0_2 p0_4)), .second] [(.int (p0_3 &&& (2147483647 : Int32))), (.long (j0_119_13 p0_0 p0_1 p0_2 p0_4))])) _
      refine XS.iconst X21.here hx rfl (hb hby at_125) ?_
      show Steps p.tables e below (T21.setTop (mkF m 126 #[.val (.int p0_0), .val (.int p0_1), .val (.int p0_2), .val (.int p0_3), .val (.int p0_4), .val (.int (v0_4 p0_2)), .val (.long (v0_13 p0_2)), .second, .val (.int (v0_25 p0_0 p0_2)), .val (.int (v0_37 p0_1 p0_2)), .unset, .unset, .val (.int (v0_63 p0_4)), .val (.long (j0_119_13 p0_0 p0_1 p0_2 p0_4)), .second] [(.int (3 : Int32)), (.int (p0_3 &&& (2147483647 : Int32))), (.long (j0_119_13 p0_0 p0_1 p0_2 p0_4))])) _
      refine iremM (g := (mkF m 126 #[.val (.int p0_0), .val (.int p0_1), .val (.int p0_2), .val (.int p0_3), .val (.int p0_4), .val (.int (v0_4 p0_2)), .val (.long (v0_13 p0_2)), .second, .val (.int (v0_25 p0_0 p0_2)), .val (.int (v0_37 p0_1 p0_2)), .unset, .unset, .val (.int (v0_63 p0_4)), .val (.long (j0_119_13 p0_0 p0_1 p0_2 p0_4)), .second] [(.int (3 : Int32)), (.int (p0_3 &&& (2147483647 : Int32))), (.long (j0_119_13 p0_0 p0_1 p0_2 p0_4))])) X21 hx rfl (hb hby at_126) rfl (by decide) ?_
      show Steps p.tables e below (T21.setTop (mkF m 127 #[.val (.int p0_0), .val (.int p0_1), .val (.int p0_2), .val (.int p0_3), .val (.int p0_4), .val (.int (v0_4 p0_2)), .val (.long (v0_13 p0_2)), .second, .val (.int (v0_25 p0_0 p0_2)), .val (.int (v0_37 p0_1 p0_2)), .unset, .unset, .val (.int (v0_63 p0_4)), .val (.long (j0_119_13 p0_0 p0_1 p0_2 p0_4)), .second] [(.int ((p0_3 &&& (2147483647 : Int32)) % (3 : Int32))), (.long (j0_119_13 p0_0 p0_1 p0_2 p0_4))])) _
      refine XS.i2l X21.here hx rfl (hb hby at_127) rfl ?_
      show Steps p.tables e below (T21.setTop (mkF m 128 #[.val (.int p0_0), .val (.int p0_1), .val (.int p0_2), .val (.int p0_3), .val (.int p0_4), .val (.int (v0_4 p0_2)), .val (.long (v0_13 p0_2)), .second, .val (.int (v0_25 p0_0 p0_2)), .val (.int (v0_37 p0_1 p0_2)), .unset, .unset, .val (.int (v0_63 p0_4)), .val (.long (j0_119_13 p0_0 p0_1 p0_2 p0_4)), .second] [(.long ((((p0_3 &&& (2147483647 : Int32)) % (3 : Int32))).toInt64)), (.long (j0_119_13 p0_0 p0_1 p0_2 p0_4))])) _
      refine XS.ladd X21.here hx rfl (hb hby at_128) rfl ?_
      show Steps p.tables e below (T21.setTop (mkF m 129 #[.val (.int p0_0), .val (.int p0_1), .val (.int p0_2), .val (.int p0_3), .val (.int p0_4), .val (.int (v0_4 p0_2)), .val (.long (v0_13 p0_2)), .second, .val (.int (v0_25 p0_0 p0_2)), .val (.int (v0_37 p0_1 p0_2)), .unset, .unset, .val (.int (v0_63 p0_4)), .val (.long (j0_119_13 p0_0 p0_1 p0_2 p0_4)), .second] [(.long ((j0_119_13 p0_0 p0_1 p0_2 p0_4) + ((((p0_3 &&& (2147483647 : Int32)) % (3 : Int32))).toInt64)))])) _
      refine XS.lconst X21.here hx rfl (hb hby at_129) ?_
      show Steps p.tables e below (T21.setTop (mkF m 130 #[.val (.int p0_0), .val (.int p0_1), .val (.int p0_2), .val (.int p0_3), .val (.int p0_4), .val (.int (v0_4 p0_2)), .val (.long (v0_13 p0_2)), .second, .val (.int (v0_25 p0_0 p0_2)), .val (.int (v0_37 p0_1 p0_2)), .unset, .unset, .val (.int (v0_63 p0_4)), .val (.long (j0_119_13 p0_0 p0_1 p0_2 p0_4)), .second] [(.long (1 : Int64)), (.long ((j0_119_13 p0_0 p0_1 p0_2 p0_4) + ((((p0_3 &&& (2147483647 : Int32)) % (3 : Int32))).toInt64)))])) _
      refine XS.lsub X21.here hx rfl (hb hby at_130) rfl ?_
      show Steps p.tables e below (T21.setTop (mkF m 131 #[.val (.int p0_0), .val (.int p0_1), .val (.int p0_2), .val (.int p0_3), .val (.int p0_4), .val (.int (v0_4 p0_2)), .val (.long (v0_13 p0_2)), .second, .val (.int (v0_25 p0_0 p0_2)), .val (.int (v0_37 p0_1 p0_2)), .unset, .unset, .val (.int (v0_63 p0_4)), .val (.long (j0_119_13 p0_0 p0_1 p0_2 p0_4)), .second] [(.long (((j0_119_13 p0_0 p0_1 p0_2 p0_4) + ((((p0_3 &&& (2147483647 : Int32)) % (3 : Int32))).toInt64)) - (1 : Int64)))])) _
      show Steps p.tables e below (T21.setTop (mkF m 131 #[.val (.int p0_0), .val (.int p0_1), .val (.int p0_2), .val (.int p0_3), .val (.int p0_4), .val (.int (v0_4 p0_2)), .val (.long (v0_13 p0_2)), .second, .val (.int (v0_25 p0_0 p0_2)), .val (.int (v0_37 p0_1 p0_2)), .unset, .unset, .val (.int (v0_63 p0_4)), .val (.long (j0_119_13 p0_0 p0_1 p0_2 p0_4)), .second] [(.long (v0_131 p0_0 p0_1 p0_2 p0_3 p0_4))])) _
      refine XS.lstore X21.here hx rfl (hb hby at_131) rfl (l' := #[.val (.int p0_0), .val (.int p0_1), .val (.int p0_2), .val (.int p0_3), .val (.int p0_4), .val (.int (v0_4 p0_2)), .val (.long (v0_13 p0_2)), .second, .val (.int (v0_25 p0_0 p0_2)), .val (.int (v0_37 p0_1 p0_2)), .val (.long (v0_131 p0_0 p0_1 p0_2 p0_3 p0_4)), .second, .val (.int (v0_63 p0_4)), .val (.long (j0_119_13 p0_0 p0_1 p0_2 p0_4)), .second]) rfl ?_
      show Steps p.tables e below (T21.setTop (mkF m 133 #[.val (.int p0_0), .val (.int p0_1), .val (.int p0_2), .val (.int p0_3), .val (.int p0_4), .val (.int (v0_4 p0_2)), .val (.long (v0_13 p0_2)), .second, .val (.int (v0_25 p0_0 p0_2)), .val (.int (v0_37 p0_1 p0_2)), .val (.long (v0_131 p0_0 p0_1 p0_2 p0_3 p0_4)), .second, .val (.int (v0_63 p0_4)), .val (.long (j0_119_13 p0_0 p0_1 p0_2 p0_4)), .second] [])) _
      refine XS.lload X21.here hx rfl (hb hby at_133) rfl ?_
      show Steps p.tables e below (T21.setTop (mkF m 135 #[.val (.int p0_0), .val (.int p0_1), .val (.int p0_2), .val (.int p0_3), .val (.int p0_4), .val (.int (v0_4 p0_2)), .val (.long (v0_13 p0_2)), .second, .val (.int (v0_25 p0_0 p0_2)), .val (.int (v0_37 p0_1 p0_2)), .val (.long (v0_131 p0_0 p0_1 p0_2 p0_3 p0_4)), .second, .val (.int (v0_63 p0_4)), .val (.long (j0_119_13 p0_0 p0_1 p0_2 p0_4)), .second] [(.long (v0_131 p0_0 p0_1 p0_2 p0_3 p0_4))])) _
      refine XS.lconst X21.here hx rfl (hb hby at_135) ?_
      show Steps p.tables e below (T21.setTop (mkF m 136 #[.val (.int p0_0), .val (.int p0_1), .val (.int p0_2), .val (.int p0_3), .val (.int p0_4), .val (.int (v0_4 p0_2)), .val (.long (v0_13 p0_2)), .second, .val (.int (v0_25 p0_0 p0_2)), .val (.int (v0_37 p0_1 p0_2)), .val (.long (v0_131 p0_0 p0_1 p0_2 p0_3 p0_4)), .second, .val (.int (v0_63 p0_4)), .val (.long (j0_119_13 p0_0 p0_1 p0_2 p0_4)), .second] [(.long (0 : Int64)), (.long (v0_131 p0_0 p0_1 p0_2 p0_3 p0_4))])) _
      refine XS.lcmp X21.here hx rfl (hb hby at_136) rfl ?_
      show Steps p.tables e below (T21.setTop (mkF m 137 #[.val (.int p0_0), .val (.int p0_1), .val (.int p0_2), .val (.int p0_3), .val (.int p0_4), .val (.int (v0_4 p0_2)), .val (.long (v0_13 p0_2)), .second, .val (.int (v0_25 p0_0 p0_2)), .val (.int (v0_37 p0_1 p0_2)), .val (.long (v0_131 p0_0 p0_1 p0_2 p0_3 p0_4)), .second, .val (.int (v0_63 p0_4)), .val (.long (j0_119_13 p0_0 p0_1 p0_2 p0_4)), .second] [(.int (lcmpW (v0_131 p0_0 p0_1 p0_2 p0_3 p0_4) (0 : Int64)))])) _
      exact k)
    obtain ⟨T36, L36, X36, e36, N36, st36⟩ : ∃ (T' : State) (L' : List Loc), Stand p l e room_1 s m #[(.int p0_0), (.int p0_1), (.int p0_2), (.int p0_3), (.int p0_4)] below meth c T' L' 0 0 ∧ T'.heap = h0 ∧ Fr n0 L' ∧ ∀ t, Steps p.tables e below (T'.setTop (mkF m 143 #[.val (.int p0_0), .val (.int p0_1), .val (.int p0_2), .val (.int p0_3), .val (.int p0_4), .val (.int (v0_4 p0_2)), .val (.long (v0_13 p0_2)), .second, .val (.int (v0_25 p0_0 p0_2)), .val (.int (v0_37 p0_1 p0_2)), .val (.long (j0_143_10 p0_0 p0_1 p0_2 p0_3 p0_4)), .second, .val (.int (v0_63 p0_4)), .val (.long (j0_119_13 p0_0 p0_1 p0_2 p0_4)), .second] [])) t → Steps p.tables e below (T21.setTop (mkF m 137 #[.val (.int p0_0), .val (.int p0_1), .val (.int p0_2), .val (.int p0_3), .val (.int p0_4), .val (.int (v0_4 p0_2)), .val (.long (v0_13 p0_2)), .second, .val (.int (v0_25 p0_0 p0_2)), .val (.int (v0_37 p0_1 p0_2)), .val (.long (v0_131 p0_0 p0_1 p0_2 p0_3 p0_4)), .second, .val (.int (v0_63 p0_4)), .val (.long (j0_119_13 p0_0 p0_1 p0_2 p0_4)), .second] [(.int (lcmpW (v0_131 p0_0 p0_1 p0_2 p0_3 p0_4) (0 : Int64)))])) t := by
      have pre36 : ∀ t, Steps p.tables e below (T21.setTop (mkF m 137 #[.val (.int p0_0), .val (.int p0_1), .val (.int p0_2), .val (.int p0_3), .val (.int p0_4), .val (.int (v0_4 p0_2)), .val (.long (v0_13 p0_2)), .second, .val (.int (v0_25 p0_0 p0_2)), .val (.int (v0_37 p0_1 p0_2)), .val (.long (v0_131 p0_0 p0_1 p0_2 p0_3 p0_4)), .second, .val (.int (v0_63 p0_4)), .val (.long (j0_119_13 p0_0 p0_1 p0_2 p0_4)), .second] [(.int (lcmpW (v0_131 p0_0 p0_1 p0_2 p0_3 p0_4) (0 : Int64)))])) t → Steps p.tables e below (T21.setTop (mkF m 137 #[.val (.int p0_0), .val (.int p0_1), .val (.int p0_2), .val (.int p0_3), .val (.int p0_4), .val (.int (v0_4 p0_2)), .val (.long (v0_13 p0_2)), .second, .val (.int (v0_25 p0_0 p0_2)), .val (.int (v0_37 p0_1 p0_2)), .val (.long (v0_131 p0_0 p0_1 p0_2 p0_3 p0_4)), .second, .val (.int (v0_63 p0_4)), .val (.long (j0_119_13 p0_0 p0_1 p0_2 p0_4)), .second] [(.int (lcmpW (v0_131 p0_0 p0_1 p0_2 p0_3 p0_4) (0 : Int64)))])) t := fun t k => k
      by_cases hc137_37 : (v0_131 p0_0 p0_1 p0_2 p0_3 p0_4) < (0 : Int64)
      · have pre38 : ∀ t, Steps p.tables e below (T21.setTop (mkF m 143 #[.val (.int p0_0), .val (.int p0_1), .val (.int p0_2), .val (.int p0_3), .val (.int p0_4), .val (.int (v0_4 p0_2)), .val (.long (v0_13 p0_2)), .second, .val (.int (v0_25 p0_0 p0_2)), .val (.int (v0_37 p0_1 p0_2)), .val (.long (0 : Int64)), .second, .val (.int (v0_63 p0_4)), .val (.long (j0_119_13 p0_0 p0_1 p0_2 p0_4)), .second] [])) t → Steps p.tables e below (T21.setTop (mkF m 137 #[.val (.int p0_0), .val (.int p0_1), .val (.int p0_2), .val (.int p0_3), .val (.int p0_4), .val (.int (v0_4 p0_2)), .val (.long (v0_13 p0_2)), .second, .val (.int (v0_25 p0_0 p0_2)), .val (.int (v0_37 p0_1 p0_2)), .val (.long (v0_131 p0_0 p0_1 p0_2 p0_3 p0_4)), .second, .val (.int (v0_63 p0_4)), .val (.long (j0_119_13 p0_0 p0_1 p0_2 p0_4)), .second] [(.int (lcmpW (v0_131 p0_0 p0_1 p0_2 p0_3 p0_4) (0 : Int64)))])) t := fun t k => pre36 t (by
          refine XS.ifNo X21.here hx rfl (hb hby at_137) rfl ((if0 _ _).trans (tlt ((lw_lt (v0_131 p0_0 p0_1 p0_2 p0_3 p0_4) (0 : Int64)).mpr hc137_37)).2.1) ?_
          show Steps p.tables e below (T21.setTop (mkF m 140 #[.val (.int p0_0), .val (.int p0_1), .val (.int p0_2), .val (.int p0_3), .val (.int p0_4), .val (.int (v0_4 p0_2)), .val (.long (v0_13 p0_2)), .second, .val (.int (v0_25 p0_0 p0_2)), .val (.int (v0_37 p0_1 p0_2)), .val (.long (v0_131 p0_0 p0_1 p0_2 p0_3 p0_4)), .second, .val (.int (v0_63 p0_4)), .val (.long (j0_119_13 p0_0 p0_1 p0_2 p0_4)), .second] [])) _
          refine XS.lconst X21.here hx rfl (hb hby at_140) ?_
          show Steps p.tables e below (T21.setTop (mkF m 141 #[.val (.int p0_0), .val (.int p0_1), .val (.int p0_2), .val (.int p0_3), .val (.int p0_4), .val (.int (v0_4 p0_2)), .val (.long (v0_13 p0_2)), .second, .val (.int (v0_25 p0_0 p0_2)), .val (.int (v0_37 p0_1 p0_2)), .val (.long (v0_131 p0_0 p0_1 p0_2 p0_3 p0_4)), .second, .val (.int (v0_63 p0_4)), .val (.long (j0_119_13 p0_0 p0_1 p0_2 p0_4)), .second] [(.long (0 : Int64))])) _
          refine XS.lstore X21.here hx rfl (hb hby at_141) rfl (l' := #[.val (.int p0_0), .val (.int p0_1), .val (.int p0_2), .val (.int p0_3), .val (.int p0_4), .val (.int (v0_4 p0_2)), .val (.long (v0_13 p0_2)), .second, .val (.int (v0_25 p0_0 p0_2)), .val (.int (v0_37 p0_1 p0_2)), .val (.long (0 : Int64)), .second, .val (.int (v0_63 p0_4)), .val (.long (j0_119_13 p0_0 p0_1 p0_2 p0_4)), .second]) rfl ?_
          show Steps p.tables e below (T21.setTop (mkF m 143 #[.val (.int p0_0), .val (.int p0_1), .val (.int p0_2), .val (.int p0_3), .val (.int p0_4), .val (.int (v0_4 p0_2)), .val (.long (v0_13 p0_2)), .second, .val (.int (v0_25 p0_0 p0_2)), .val (.int (v0_37 p0_1 p0_2)), .val (.long (0 : Int64)), .second, .val (.int (v0_63 p0_4)), .val (.long (j0_119_13 p0_0 p0_1 p0_2 p0_4)), .second] [])) _
          exact k)
        have hj40 : (j0_143_10 p0_0 p0_1 p0_2 p0_3 p0_4) = (0 : Int64) := by unfold j0_143_10; rw [if_pos hc137_37]
        exact ⟨T21, _, X21, e21, N21, fun t k => pre38 t (by rw [hj40] at k; exact k)⟩
      · have pre39 : ∀ t, Steps p.tables e below (T21.setTop (mkF m 143 #[.val (.int p0_0), .val (.int p0_1), .val (.int p0_2), .val (.int p0_3), .val (.int p0_4), .val (.int (v0_4 p0_2)), .val (.long (v0_13 p0_2)), .second, .val (.int (v0_25 p0_0 p0_2)), .val (.int (v0_37 p0_1 p0_2)), .val (.long (v0_131 p0_0 p0_1 p0_2 p0_3 p0_4)), .second, .val (.int (v0_63 p0_4)), .val (.long (j0_119_13 p0_0 p0_1 p0_2 p0_4)), .second] [])) t → Steps p.tables e below (T21.setTop (mkF m 137 #[.val (.int p0_0), .val (.int p0_1), .val (.int p0_2), .val (.int p0_3), .val (.int p0_4), .val (.int (v0_4 p0_2)), .val (.long (v0_13 p0_2)), .second, .val (.int (v0_25 p0_0 p0_2)), .val (.int (v0_37 p0_1 p0_2)), .val (.long (v0_131 p0_0 p0_1 p0_2 p0_3 p0_4)), .second, .val (.int (v0_63 p0_4)), .val (.long (j0_119_13 p0_0 p0_1 p0_2 p0_4)), .second] [(.int (lcmpW (v0_131 p0_0 p0_1 p0_2 p0_3 p0_4) (0 : Int64)))])) t := fun t k => pre36 t (by
          refine XS.ifYes X21.here hx rfl (pc0 := 137) (pc' := 143) rfl (hb hby at_137) rfl ((if0 _ _).trans (flt (fun q => hc137_37 ((lw_lt (v0_131 p0_0 p0_1 p0_2 p0_3 p0_4) (0 : Int64)).mp q))).2.1) (by decide) (by decide) ?_
          show Steps p.tables e below (T21.setTop (mkF m 143 #[.val (.int p0_0), .val (.int p0_1), .val (.int p0_2), .val (.int p0_3), .val (.int p0_4), .val (.int (v0_4 p0_2)), .val (.long (v0_13 p0_2)), .second, .val (.int (v0_25 p0_0 p0_2)), .val (.int (v0_37 p0_1 p0_2)), .val (.long (v0_131 p0_0 p0_1 p0_2 p0_3 p0_4)), .second, .val (.int (v0_63 p0_4)), .val (.long (j0_119_13 p0_0 p0_1 p0_2 p0_4)), .second] [])) _
          exact k)
        have hj41 : (j0_143_10 p0_0 p0_1 p0_2 p0_3 p0_4) = (v0_131 p0_0 p0_1 p0_2 p0_3 p0_4) := by unfold j0_143_10; rw [if_neg hc137_37]
        exact ⟨T21, _, X21, e21, N21, fun t k => pre39 t (by rw [hj41] at k; exact k)⟩
    have pre36 : ∀ t, Steps p.tables e below (T36.setTop (mkF m 143 #[.val (.int p0_0), .val (.int p0_1), .val (.int p0_2), .val (.int p0_3), .val (.int p0_4), .val (.int (v0_4 p0_2)), .val (.long (v0_13 p0_2)), .second, .val (.int (v0_25 p0_0 p0_2)), .val (.int (v0_37 p0_1 p0_2)), .val (.long (j0_143_10 p0_0 p0_1 p0_2 p0_3 p0_4)), .second, .val (.int (v0_63 p0_4)), .val (.long (j0_119_13 p0_0 p0_1 p0_2 p0_4)), .second] [])) t → Steps p.tables e below (s₁.setTop (entryFrame m #[(.int p0_0), (.int p0_1), (.int p0_2), (.int p0_3), (.int p0_4)] maxLocals)) t := fun t k => pre35 t (st36 t k)
    have pre42 : ∀ t, Steps p.tables e below (T36.setTop (mkF m 149 #[.val (.int p0_0), .val (.int p0_1), .val (.int p0_2), .val (.int p0_3), .val (.int p0_4), .val (.int (v0_4 p0_2)), .val (.long (v0_13 p0_2)), .second, .val (.int (v0_25 p0_0 p0_2)), .val (.int (v0_37 p0_1 p0_2)), .val (.long (j0_143_10 p0_0 p0_1 p0_2 p0_3 p0_4)), .second, .val (.int (v0_63 p0_4)), .val (.long (j0_119_13 p0_0 p0_1 p0_2 p0_4)), .second] [(.int (lcmpW (j0_143_10 p0_0 p0_1 p0_2 p0_3 p0_4) (2147483647 : Int64)))])) t → Steps p.tables e below (s₁.setTop (entryFrame m #[(.int p0_0), (.int p0_1), (.int p0_2), (.int p0_3), (.int p0_4)] maxLocals)) t := fun t k => pre36 t (by
      refine XS.lload X36.here hx rfl (hb hby at_143) rfl ?_
      show Steps p.tables e below (T36.setTop (mkF m 145 #[.val (.int p0_0), .val (.int p0_1), .val (.int p0_2), .val (.int p0_3), .val (.int p0_4), .val (.int (v0_4 p0_2)), .val (.long (v0_13 p0_2)), .second, .val (.int (v0_25 p0_0 p0_2)), .val (.int (v0_37 p0_1 p0_2)), .val (.long (j0_143_10 p0_0 p0_1 p0_2 p0_3 p0_4)), .second, .val (.int (v0_63 p0_4)), .val (.long (j0_119_13 p0_0 p0_1 p0_2 p0_4)), .second] [(.long (j0_143_10 p0_0 p0_1 p0_2 p0_3 p0_4))])) _
      refine X36.ldc2Long hx hown (mvT hZ (hw _ (List.mem_of_getElem? (i := 2) rfl))) (g := (mkF m 145 #[.val (.int p0_0), .val (.int p0_1), .val (.int p0_2), .val (.int p0_3), .val (.int p0_4), .val (.int (v0_4 p0_2)), .val (.long (v0_13 p0_2)), .second, .val (.int (v0_25 p0_0 p0_2)), .val (.int (v0_37 p0_1 p0_2)), .val (.long (j0_143_10 p0_0 p0_1 p0_2 p0_3 p0_4)), .second, .val (.int (v0_63 p0_4)), .val (.long (j0_119_13 p0_0 p0_1 p0_2 p0_4)), .second] [(.long (j0_143_10 p0_0 p0_1 p0_2 p0_3 p0_4))])) rfl (hb hby at_145) _ ?_
      show Steps p.tables e below (T36.setTop (mkF m 148 #[.val (.int p0_0), .val (.int p0_1), .val (.int p0_2), .val (.int p0_3), .val (.int p0_4), .val (.int (v0_4 p0_2)), .val (.long (v0_13 p0_2)), .second, .val (.int (v0_25 p0_0 p0_2)), .val (.int (v0_37 p0_1 p0_2)), .val (.long (j0_143_10 p0_0 p0_1 p0_2 p0_3 p0_4)), .second, .val (.int (v0_63 p0_4)), .val (.long (j0_119_13 p0_0 p0_1 p0_2 p0_4)), .second] [(.long (2147483647 : Int64)), (.long (j0_143_10 p0_0 p0_1 p0_2 p0_3 p0_4))])) _
      refine XS.lcmp X36.here hx rfl (hb hby at_148) rfl ?_
      show Steps p.tables e below (T36.setTop (mkF m 149 #[.val (.int p0_0), .val (.int p0_1), .val (.int p0_2), .val (.int p0_3), .val (.int p0_4), .val (.int (v0_4 p0_2)), .val (.long (v0_13 p0_2)), .second, .val (.int (v0_25 p0_0 p0_2)), .val (.int (v0_37 p0_1 p0_2)), .val (.long (j0_143_10 p0_0 p0_1 p0_2 p0_3 p0_4)), .second, .val (.int (v0_63 p0_4)), .val (.long (j0_119_13 p0_0 p0_1 p0_2 p0_4)), .second] [(.int (lcmpW (j0_143_10 p0_0 p0_1 p0_2 p0_3 p0_4) (2147483647 : Int64)))])) _
      exact k)
    obtain ⟨T43, L43, X43, e43, N43, st43⟩ : ∃ (T' : State) (L' : List Loc), Stand p l e room_1 s m #[(.int p0_0), (.int p0_1), (.int p0_2), (.int p0_3), (.int p0_4)] below meth c T' L' 0 0 ∧ T'.heap = h0 ∧ Fr n0 L' ∧ ∀ t, Steps p.tables e below (T'.setTop (mkF m 157 #[.val (.int p0_0), .val (.int p0_1), .val (.int p0_2), .val (.int p0_3), .val (.int p0_4), .val (.int (v0_4 p0_2)), .val (.long (v0_13 p0_2)), .second, .val (.int (v0_25 p0_0 p0_2)), .val (.int (v0_37 p0_1 p0_2)), .val (.long (j0_157_10 p0_0 p0_1 p0_2 p0_3 p0_4)), .second, .val (.int (v0_63 p0_4)), .val (.long (j0_119_13 p0_0 p0_1 p0_2 p0_4)), .second] [])) t → Steps p.tables e below (T36.setTop (mkF m 149 #[.val (.int p0_0), .val (.int p0_1), .val (.int p0_2), .val (.int p0_3), .val (.int p0_4), .val (.int (v0_4 p0_2)), .val (.long (v0_13 p0_2)), .second, .val (.int (v0_25 p0_0 p0_2)), .val (.int (v0_37 p0_1 p0_2)), .val (.long (j0_143_10 p0_0 p0_1 p0_2 p0_3 p0_4)), .second, .val (.int (v0_63 p0_4)), .val (.long (j0_119_13 p0_0 p0_1 p0_2 p0_4)), .second] [(.int (lcmpW (j0_143_10 p0_0 p0_1 p0_2 p0_3 p0_4) (2147483647 : Int64)))])) t := by
      have pre43 : ∀ t, Steps p.tables e below (T36.setTop (mkF m 149 #[.val (.int p0_0), .val (.int p0_1), .val (.int p0_2), .val (.int p0_3), .val (.int p0_4), .val (.int (v0_4 p0_2)), .val (.long (v0_13 p0_2)), .second, .val (.int (v0_25 p0_0 p0_2)), .val (.int (v0_37 p0_1 p0_2)), .val (.long (j0_143_10 p0_0 p0_1 p0_2 p0_3 p0_4)), .second, .val (.int (v0_63 p0_4)), .val (.long (j0_119_13 p0_0 p0_1 p0_2 p0_4)), .second] [(.int (lcmpW (j0_143_10 p0_0 p0_1 p0_2 p0_3 p0_4) (2147483647 : Int64)))])) t → Steps p.tables e below (T36.setTop (mkF m 149 #[.val (.int p0_0), .val (.int p0_1), .val (.int p0_2), .val (.int p0_3), .val (.int p0_4), .val (.int (v0_4 p0_2)), .val (.long (v0_13 p0_2)), .second, .val (.int (v0_25 p0_0 p0_2)), .val (.int (v0_37 p0_1 p0_2)), .val (.long (j0_143_10 p0_0 p0_1 p0_2 p0_3 p0_4)), .second, .val (.int (v0_63 p0_4)), .val (.long (j0_119_13 p0_0 p0_1 p0_2 p0_4)), .second] [(.int (lcmpW (j0_143_10 p0_0 p0_1 p0_2 p0_3 p0_4) (2147483647 : Int64)))])) t := fun t k => k
      by_cases hc149_44 : (2147483647 : Int64) < (j0_143_10 p0_0 p0_1 p0_2 p0_3 p0_4)
      · have pre45 : ∀ t, Steps p.tables e below (T36.setTop (mkF m 157 #[.val (.int p0_0), .val (.int p0_1), .val (.int p0_2), .val (.int p0_3), .val (.int p0_4), .val (.int (v0_4 p0_2)), .val (.long (v0_13 p0_2)), .second, .val (.int (v0_25 p0_0 p0_2)), .val (.int (v0_37 p0_1 p0_2)), .val (.long (2147483647 : Int64)), .second, .val (.int (v0_63 p0_4)), .val (.long (j0_119_13 p0_0 p0_1 p0_2 p0_4)), .second] [])) t → Steps p.tables e below (T36.setTop (mkF m 149 #[.val (.int p0_0), .val (.int p0_1), .val (.int p0_2), .val (.int p0_3), .val (.int p0_4), .val (.int (v0_4 p0_2)), .val (.long (v0_13 p0_2)), .second, .val (.int (v0_25 p0_0 p0_2)), .val (.int (v0_37 p0_1 p0_2)), .val (.long (j0_143_10 p0_0 p0_1 p0_2 p0_3 p0_4)), .second, .val (.int (v0_63 p0_4)), .val (.long (j0_119_13 p0_0 p0_1 p0_2 p0_4)), .second] [(.int (lcmpW (j0_143_10 p0_0 p0_1 p0_2 p0_3 p0_4) (2147483647 : Int64)))])) t := fun t k => pre43 t (by
          refine XS.ifNo X36.here hx rfl (hb hby at_149) rfl ((if0 _ _).trans (tlt ((lw_gt (j0_143_10 p0_0 p0_1 p0_2 p0_3 p0_4) (2147483647 : Int64)).mpr hc149_44)).2.2.2) ?_
          show Steps p.tables e below (T36.setTop (mkF m 152 #[.val (.int p0_0), .val (.int p0_1), .val (.int p0_2), .val (.int p0_3), .val (.int p0_4), .val (.int (v0_4 p0_2)), .val (.long (v0_13 p0_2)), .second, .val (.int (v0_25 p0_0 p0_2)), .val (.int (v0_37 p0_1 p0_2)), .val (.long (j0_143_10 p0_0 p0_1 p0_2 p0_3 p0_4)), .second, .val (.int (v0_63 p0_4)), .val (.long (j0_119_13 p0_0 p0_1 p0_2 p0_4)), .second] [])) _
          refine X36.ldc2Long hx hown (mvT hZ (hw _ (List.mem_of_getElem? (i := 2) rfl))) (g := (mkF m 152 #[.val (.int p0_0), .val (.int p0_1), .val (.int p0_2), .val (.int p0_3), .val (.int p0_4), .val (.int (v0_4 p0_2)), .val (.long (v0_13 p0_2)), .second, .val (.int (v0_25 p0_0 p0_2)), .val (.int (v0_37 p0_1 p0_2)), .val (.long (j0_143_10 p0_0 p0_1 p0_2 p0_3 p0_4)), .second, .val (.int (v0_63 p0_4)), .val (.long (j0_119_13 p0_0 p0_1 p0_2 p0_4)), .second] [])) rfl (hb hby at_152) _ ?_
          show Steps p.tables e below (T36.setTop (mkF m 155 #[.val (.int p0_0), .val (.int p0_1), .val (.int p0_2), .val (.int p0_3), .val (.int p0_4), .val (.int (v0_4 p0_2)), .val (.long (v0_13 p0_2)), .second, .val (.int (v0_25 p0_0 p0_2)), .val (.int (v0_37 p0_1 p0_2)), .val (.long (j0_143_10 p0_0 p0_1 p0_2 p0_3 p0_4)), .second, .val (.int (v0_63 p0_4)), .val (.long (j0_119_13 p0_0 p0_1 p0_2 p0_4)), .second] [(.long (2147483647 : Int64))])) _
          refine XS.lstore X36.here hx rfl (hb hby at_155) rfl (l' := #[.val (.int p0_0), .val (.int p0_1), .val (.int p0_2), .val (.int p0_3), .val (.int p0_4), .val (.int (v0_4 p0_2)), .val (.long (v0_13 p0_2)), .second, .val (.int (v0_25 p0_0 p0_2)), .val (.int (v0_37 p0_1 p0_2)), .val (.long (2147483647 : Int64)), .second, .val (.int (v0_63 p0_4)), .val (.long (j0_119_13 p0_0 p0_1 p0_2 p0_4)), .second]) rfl ?_
          show Steps p.tables e below (T36.setTop (mkF m 157 #[.val (.int p0_0), .val (.int p0_1), .val (.int p0_2), .val (.int p0_3), .val (.int p0_4), .val (.int (v0_4 p0_2)), .val (.long (v0_13 p0_2)), .second, .val (.int (v0_25 p0_0 p0_2)), .val (.int (v0_37 p0_1 p0_2)), .val (.long (2147483647 : Int64)), .second, .val (.int (v0_63 p0_4)), .val (.long (j0_119_13 p0_0 p0_1 p0_2 p0_4)), .second] [])) _
          exact k)
        have hj47 : (j0_157_10 p0_0 p0_1 p0_2 p0_3 p0_4) = (2147483647 : Int64) := by unfold j0_157_10; rw [if_pos hc149_44]
        exact ⟨T36, _, X36, e36, N36, fun t k => pre45 t (by rw [hj47] at k; exact k)⟩
      · have pre46 : ∀ t, Steps p.tables e below (T36.setTop (mkF m 157 #[.val (.int p0_0), .val (.int p0_1), .val (.int p0_2), .val (.int p0_3), .val (.int p0_4), .val (.int (v0_4 p0_2)), .val (.long (v0_13 p0_2)), .second, .val (.int (v0_25 p0_0 p0_2)), .val (.int (v0_37 p0_1 p0_2)), .val (.long (j0_143_10 p0_0 p0_1 p0_2 p0_3 p0_4)), .second, .val (.int (v0_63 p0_4)), .val (.long (j0_119_13 p0_0 p0_1 p0_2 p0_4)), .second] [])) t → Steps p.tables e below (T36.setTop (mkF m 149 #[.val (.int p0_0), .val (.int p0_1), .val (.int p0_2), .val (.int p0_3), .val (.int p0_4), .val (.int (v0_4 p0_2)), .val (.long (v0_13 p0_2)), .second, .val (.int (v0_25 p0_0 p0_2)), .val (.int (v0_37 p0_1 p0_2)), .val (.long (j0_143_10 p0_0 p0_1 p0_2 p0_3 p0_4)), .second, .val (.int (v0_63 p0_4)), .val (.long (j0_119_13 p0_0 p0_1 p0_2 p0_4)), .second] [(.int (lcmpW (j0_143_10 p0_0 p0_1 p0_2 p0_3 p0_4) (2147483647 : Int64)))])) t := fun t k => pre43 t (by
          refine XS.ifYes X36.here hx rfl (pc0 := 149) (pc' := 157) rfl (hb hby at_149) rfl ((if0 _ _).trans (flt (fun q => hc149_44 ((lw_gt (j0_143_10 p0_0 p0_1 p0_2 p0_3 p0_4) (2147483647 : Int64)).mp q))).2.2.2) (by decide) (by decide) ?_
          show Steps p.tables e below (T36.setTop (mkF m 157 #[.val (.int p0_0), .val (.int p0_1), .val (.int p0_2), .val (.int p0_3), .val (.int p0_4), .val (.int (v0_4 p0_2)), .val (.long (v0_13 p0_2)), .second, .val (.int (v0_25 p0_0 p0_2)), .val (.int (v0_37 p0_1 p0_2)), .val (.long (j0_143_10 p0_0 p0_1 p0_2 p0_3 p0_4)), .second, .val (.int (v0_63 p0_4)), .val (.long (j0_119_13 p0_0 p0_1 p0_2 p0_4)), .second] [])) _
          exact k)
        have hj48 : (j0_157_10 p0_0 p0_1 p0_2 p0_3 p0_4) = (j0_143_10 p0_0 p0_1 p0_2 p0_3 p0_4) := by unfold j0_157_10; rw [if_neg hc149_44]
        exact ⟨T36, _, X36, e36, N36, fun t k => pre46 t (by rw [hj48] at k; exact k)⟩
    have pre43 : ∀ t, Steps p.tables e below (T43.setTop (mkF m 157 #[.val (.int p0_0), .val (.int p0_1), .val (.int p0_2), .val (.int p0_3), .val (.int p0_4), .val (.int (v0_4 p0_2)), .val (.long (v0_13 p0_2)), .second, .val (.int (v0_25 p0_0 p0_2)), .val (.int (v0_37 p0_1 p0_2)), .val (.long (j0_157_10 p0_0 p0_1 p0_2 p0_3 p0_4)), .second, .val (.int (v0_63 p0_4)), .val (.long (j0_119_13 p0_0 p0_1 p0_2 p0_4)), .second] [])) t → Steps p.tables e below (s₁.setTop (entryFrame m #[(.int p0_0), (.int p0_1), (.int p0_2), (.int p0_3), (.int p0_4)] maxLocals)) t := fun t k => pre42 t (st43 t k)
    obtain ⟨T49, h49, X49, e49, E49, A49, D49, -, st49⟩ := newO X43 hx hZ hown (hw _ (List.mem_of_getElem? (i := 3) rfl)) (hw _ (List.mem_of_getElem? (i := 4) rfl)) (hw _ (List.mem_of_getElem? (i := 5) rfl)) e43 (g := (mkF m 157 #[.val (.int p0_0), .val (.int p0_1), .val (.int p0_2), .val (.int p0_3), .val (.int p0_4), .val (.int (v0_4 p0_2)), .val (.long (v0_13 p0_2)), .second, .val (.int (v0_25 p0_0 p0_2)), .val (.int (v0_37 p0_1 p0_2)), .val (.long (j0_157_10 p0_0 p0_1 p0_2 p0_3 p0_4)), .second, .val (.int (v0_63 p0_4)), .val (.long (j0_119_13 p0_0 p0_1 p0_2 p0_4)), .second] [])) rfl (hb hby at_157) (by decide) (by decide)
    obtain ⟨b49, q49⟩ : ∃ z, z = h0.size := ⟨_, rfl⟩
    rw [← q49] at A49 D49 st49
    have g_b49 : n0 ≤ b49 := Nat.le_trans Z0 (Nat.le_of_eq q49.symm)
    have Z49 : n0 ≤ h49.size := Nat.le_trans Z0 E49.1
    have F50 : Fld Z h49 b49 "com/example/rowforge/rowforge/core/Notice$RangeMoved" "from" "I" (.int (0 : Int32)) := D49 (Or.inr (hw _ (List.mem_of_getElem? (i := 27) rfl))) (ty := .int) (by decide)
    have F51 : Fld Z h49 b49 "com/example/rowforge/rowforge/core/Notice$RangeMoved" "to" "I" (.int (0 : Int32)) := D49 (Or.inr (hw _ (List.mem_of_getElem? (i := 29) rfl))) (ty := .int) (by decide)
    have F52 : Fld Z h49 b49 "com/example/rowforge/rowforge/core/Notice$RangeMoved" "count" "I" (.int (0 : Int32)) := D49 (Or.inr (hw _ (List.mem_of_getElem? (i := 31) rfl))) (ty := .int) (by decide)
    have pre49 : ∀ t, Steps p.tables e below (T49.setTop (mkF m 160 #[.val (.int p0_0), .val (.int p0_1), .val (.int p0_2), .val (.int p0_3), .val (.int p0_4), .val (.int (v0_4 p0_2)), .val (.long (v0_13 p0_2)), .second, .val (.int (v0_25 p0_0 p0_2)), .val (.int (v0_37 p0_1 p0_2)), .val (.long (j0_157_10 p0_0 p0_1 p0_2 p0_3 p0_4)), .second, .val (.int (v0_63 p0_4)), .val (.long (j0_119_13 p0_0 p0_1 p0_2 p0_4)), .second] [(.ref b49)])) t → Steps p.tables e below (s₁.setTop (entryFrame m #[(.int p0_0), (.int p0_1), (.int p0_2), (.int p0_3), (.int p0_4)] maxLocals)) t := fun t k => pre43 t (st49 t k)
    have pre53 : ∀ t, Steps p.tables e below (T49.setTop (mkF m 167 #[.val (.int p0_0), .val (.int p0_1), .val (.int p0_2), .val (.int p0_3), .val (.int p0_4), .val (.int (v0_4 p0_2)), .val (.long (v0_13 p0_2)), .second, .val (.int (v0_25 p0_0 p0_2)), .val (.int (v0_37 p0_1 p0_2)), .val (.long (j0_157_10 p0_0 p0_1 p0_2 p0_3 p0_4)), .second, .val (.int (v0_63 p0_4)), .val (.long (j0_119_13 p0_0 p0_1 p0_2 p0_4)), .second] [(.int (v0_4 p0_2)), (.int (v0_37 p0_1 p0_2)), (.int (v0_25 p0_0 p0_2)), (.ref b49), (.ref b49)])) t → Steps p.tables e below (s₁.setTop (entryFrame m #[(.int p0_0), (.int p0_1), (.int p0_2), (.int p0_3), (.int p0_4)] maxLocals)) t := fun t k => pre49 t (by
      refine XS.dup X49.here hx rfl (hb hby at_160) rfl rfl ?_
      show Steps p.tables e below (T49.setTop (mkF m 161 #[.val (.int p0_0), .val (.int p0_1), .val (.int p0_2), .val (.int p0_3), .val (.int p0_4), .val (.int (v0_4 p0_2)), .val (.long (v0_13 p0_2)), .second, .val (.int (v0_25 p0_0 p0_2)), .val (.int (v0_37 p0_1 p0_2)), .val (.long (j0_157_10 p0_0 p0_1 p0_2 p0_3 p0_4)), .second, .val (.int (v0_63 p0_4)), .val (.long (j0_119_13 p0_0 p0_1 p0_2 p0_4)), .second] [(.ref b49), (.ref b49)])) _
      refine XS.iload X49.here hx rfl (hb hby at_161) rfl ?_
      show Steps p.tables e below (T49.setTop (mkF m 163 #[.val (.int p0_0), .val (.int p0_1), .val (.int p0_2), .val (.int p0_3), .val (.int p0_4), .val (.int (v0_4 p0_2)), .val (.long (v0_13 p0_2)), .second, .val (.int (v0_25 p0_0 p0_2)), .val (.int (v0_37 p0_1 p0_2)), .val (.long (j0_157_10 p0_0 p0_1 p0_2 p0_3 p0_4)), .second, .val (.int (v0_63 p0_4)), .val (.long (j0_119_13 p0_0 p0_1 p0_2 p0_4)), .second] [(.int (v0_25 p0_0 p0_2)), (.ref b49), (.ref b49)])) _
      refine XS.iload X49.here hx rfl (hb hby at_163) rfl ?_
      show Steps p.tables e below (T49.setTop (mkF m 165 #[.val (.int p0_0), .val (.int p0_1), .val (.int p0_2), .val (.int p0_3), .val (.int p0_4), .val (.int (v0_4 p0_2)), .val (.long (v0_13 p0_2)), .second, .val (.int (v0_25 p0_0 p0_2)), .val (.int (v0_37 p0_1 p0_2)), .val (.long (j0_157_10 p0_0 p0_1 p0_2 p0_3 p0_4)), .second, .val (.int (v0_63 p0_4)), .val (.long (j0_119_13 p0_0 p0_1 p0_2 p0_4)), .second] [(.int (v0_37 p0_1 p0_2)), (.int (v0_25 p0_0 p0_2)), (.ref b49), (.ref b49)])) _
      refine XS.iload X49.here hx rfl (hb hby at_165) rfl ?_
      show Steps p.tables e below (T49.setTop (mkF m 167 #[.val (.int p0_0), .val (.int p0_1), .val (.int p0_2), .val (.int p0_3), .val (.int p0_4), .val (.int (v0_4 p0_2)), .val (.long (v0_13 p0_2)), .second, .val (.int (v0_25 p0_0 p0_2)), .val (.int (v0_37 p0_1 p0_2)), .val (.long (j0_157_10 p0_0 p0_1 p0_2 p0_3 p0_4)), .second, .val (.int (v0_63 p0_4)), .val (.long (j0_119_13 p0_0 p0_1 p0_2 p0_4)), .second] [(.int (v0_4 p0_2)), (.int (v0_37 p0_1 p0_2)), (.int (v0_25 p0_0 p0_2)), (.ref b49), (.ref b49)])) _
      exact k)
    obtain ⟨_, _, ⟨T54, L54, k54, n54⟩, -, X54, ⟨Lc54, hQ54, l54, y54, z54⟩, st54⟩ := X49.specialBack hx (y := (⟨"com/example/rowforge/rowforge/core/Notice$RangeMoved", "<init>", "(III)V"⟩ : MethodName)) rfl hown (mvT hZ (hw _ (List.mem_of_getElem? (i := 6) rfl))) (mvT hZ (hw _ (List.mem_of_getElem? (i := 7) rfl))) (mvT hZ (hw _ (List.mem_of_getElem? (i := 8) rfl))) (by decide) (backOf (W := 1) (rm1 l Z a0 hw [] b49 (v0_25 p0_0 p0_2) (v0_37 p0_1 p0_2) (v0_4 p0_2) (0 : Int32) (0 : Int32) (0 : Int32) h49 n0 Z49 (own_A1 p0_0 p0_1 p0_2) (own_B1 p0_0 p0_1 p0_2) (own_A2 p0_0 p0_1 p0_2) (own_B2 p0_0 p0_1 p0_2) A49 F50 F51 F52 g_b49) hZ (hw _ (List.mem_of_getElem? (i := 8) rfl)) (hw _ (List.mem_of_getElem? (i := 5) rfl)) (by decide) (by decide)) (g := (mkF m 167 #[.val (.int p0_0), .val (.int p0_1), .val (.int p0_2), .val (.int p0_3), .val (.int p0_4), .val (.int (v0_4 p0_2)), .val (.long (v0_13 p0_2)), .second, .val (.int (v0_25 p0_0 p0_2)), .val (.int (v0_37 p0_1 p0_2)), .val (.long (j0_157_10 p0_0 p0_1 p0_2 p0_3 p0_4)), .second, .val (.int (v0_63 p0_4)), .val (.long (j0_119_13 p0_0 p0_1 p0_2 p0_4)), .second] [(.int (v0_4 p0_2)), (.int (v0_37 p0_1 p0_2)), (.int (v0_25 p0_0 p0_2)), (.ref b49), (.ref b49)])) rfl (by rw [hml]; rfl) (Steps.refl _) (a := b49) (argsL := [(.int (v0_25 p0_0 p0_2)), (.int (v0_37 p0_1 p0_2)), (.int (v0_4 p0_2))]) (rest := [(.ref b49)]) (lenOf pd_3 rfl) rfl (by show 2 * 0 + _ ≤ _; exact Nat.le_of_eq rfl) (hb hby at_167) (fun _ _ => ⟨rfl, e49, (by decide : 1 + 0 ≤ _), (by decide : 3 + 0 ≤ _)⟩)
    dsimp only [Pt.U, Pt.locs, Pt.cells, Pt.slots] at X54 l54 y54 z54 st54 hQ54
    subst l54 y54 z54
    obtain ⟨rfl, M54, K54c, P54_0, P54_1, P54_2⟩ := hQ54
    have N54 := Fr.app N43 M54
    have K54 : Keep h49 T54.heap [b49] := K54c
    have Z54 : n0 ≤ T54.heap.size := Nat.le_trans Z49 K54.1
    have Ex55 : Exa Z T54.heap b49 "com/example/rowforge/rowforge/core/Notice$RangeMoved" := A49.keep K54
    have F56 : Fld Z T54.heap b49 "com/example/rowforge/rowforge/core/Notice$RangeMoved" "from" "I" (.int (v0_25 p0_0 p0_2)) := P54_0
    have F57 : Fld Z T54.heap b49 "com/example/rowforge/rowforge/core/Notice$RangeMoved" "to" "I" (.int (v0_37 p0_1 p0_2)) := P54_1
    have F58 : Fld Z T54.heap b49 "com/example/rowforge/rowforge/core/Notice$RangeMoved" "count" "I" (.int (v0_4 p0_2)) := P54_2
    have pre54 : ∀ t, Steps p.tables e below (T54.setTop (mkF m 170 #[.val (.int p0_0), .val (.int p0_1), .val (.int p0_2), .val (.int p0_3), .val (.int p0_4), .val (.int (v0_4 p0_2)), .val (.long (v0_13 p0_2)), .second, .val (.int (v0_25 p0_0 p0_2)), .val (.int (v0_37 p0_1 p0_2)), .val (.long (j0_157_10 p0_0 p0_1 p0_2 p0_3 p0_4)), .second, .val (.int (v0_63 p0_4)), .val (.long (j0_119_13 p0_0 p0_1 p0_2 p0_4)), .second] [(.ref b49)])) t → Steps p.tables e below (s₁.setTop (entryFrame m #[(.int p0_0), (.int p0_1), (.int p0_2), (.int p0_3), (.int p0_4)] maxLocals)) t := fun t k => pre53 t (st54.trans k)
    have pre59 : ∀ t, Steps p.tables e below (T54.setTop (mkF m 177 #[.val (.int p0_0), .val (.int p0_1), .val (.int p0_2), .val (.int p0_3), .val (.int p0_4), .val (.int (v0_4 p0_2)), .val (.long (v0_13 p0_2)), .second, .val (.int (v0_25 p0_0 p0_2)), .val (.int (v0_37 p0_1 p0_2)), .val (.long (j0_157_10 p0_0 p0_1 p0_2 p0_3 p0_4)), .second, .val (.ref b49), .val (.long (j0_119_13 p0_0 p0_1 p0_2 p0_4)), .second] [(.int (((j0_157_10 p0_0 p0_1 p0_2 p0_3 p0_4)).toInt32)), (.ref b49)])) t → Steps p.tables e below (s₁.setTop (entryFrame m #[(.int p0_0), (.int p0_1), (.int p0_2), (.int p0_3), (.int p0_4)] maxLocals)) t := fun t k => pre54 t (by
      refine XS.astore X54.here hx rfl (hb hby at_170) rfl rfl (l' := #[.val (.int p0_0), .val (.int p0_1), .val (.int p0_2), .val (.int p0_3), .val (.int p0_4), .val (.int (v0_4 p0_2)), .val (.long (v0_13 p0_2)), .second, .val (.int (v0_25 p0_0 p0_2)), .val (.int (v0_37 p0_1 p0_2)), .val (.long (j0_157_10 p0_0 p0_1 p0_2 p0_3 p0_4)), .second, .val (.ref b49), .val (.long (j0_119_13 p0_0 p0_1 p0_2 p0_4)), .second]) rfl ?_
      show Steps p.tables e below (T54.setTop (mkF m 172 #[.val (.int p0_0), .val (.int p0_1), .val (.int p0_2), .val (.int p0_3), .val (.int p0_4), .val (.int (v0_4 p0_2)), .val (.long (v0_13 p0_2)), .second, .val (.int (v0_25 p0_0 p0_2)), .val (.int (v0_37 p0_1 p0_2)), .val (.long (j0_157_10 p0_0 p0_1 p0_2 p0_3 p0_4)), .second, .val (.ref b49), .val (.long (j0_119_13 p0_0 p0_1 p0_2 p0_4)), .second] [])) _
      refine XS.aload X54.here hx rfl (hb hby at_172) rfl rfl ?_
      show Steps p.tables e below (T54.setTop (mkF m 174 #[.val (.int p0_0), .val (.int p0_1), .val (.int p0_2), .val (.int p0_3), .val (.int p0_4), .val (.int (v0_4 p0_2)), .val (.long (v0_13 p0_2)), .second, .val (.int (v0_25 p0_0 p0_2)), .val (.int (v0_37 p0_1 p0_2)), .val (.long (j0_157_10 p0_0 p0_1 p0_2 p0_3 p0_4)), .second, .val (.ref b49), .val (.long (j0_119_13 p0_0 p0_1 p0_2 p0_4)), .second] [(.ref b49)])) _
      refine XS.lload X54.here hx rfl (hb hby at_174) rfl ?_
      show Steps p.tables e below (T54.setTop (mkF m 176 #[.val (.int p0_0), .val (.int p0_1), .val (.int p0_2), .val (.int p0_3), .val (.int p0_4), .val (.int (v0_4 p0_2)), .val (.long (v0_13 p0_2)), .second, .val (.int (v0_25 p0_0 p0_2)), .val (.int (v0_37 p0_1 p0_2)), .val (.long (j0_157_10 p0_0 p0_1 p0_2 p0_3 p0_4)), .second, .val (.ref b49), .val (.long (j0_119_13 p0_0 p0_1 p0_2 p0_4)), .second] [(.long (j0_157_10 p0_0 p0_1 p0_2 p0_3 p0_4)), (.ref b49)])) _
      refine XS.l2i X54.here hx rfl (hb hby at_176) rfl ?_
      show Steps p.tables e below (T54.setTop (mkF m 177 #[.val (.int p0_0), .val (.int p0_1), .val (.int p0_2), .val (.int p0_3), .val (.int p0_4), .val (.int (v0_4 p0_2)), .val (.long (v0_13 p0_2)), .second, .val (.int (v0_25 p0_0 p0_2)), .val (.int (v0_37 p0_1 p0_2)), .val (.long (j0_157_10 p0_0 p0_1 p0_2 p0_3 p0_4)), .second, .val (.ref b49), .val (.long (j0_119_13 p0_0 p0_1 p0_2 p0_4)), .second] [(.int (((j0_157_10 p0_0 p0_1 p0_2 p0_3 p0_4)).toInt32)), (.ref b49)])) _
      exact k)
    obtain ⟨cq60, kq60, qa60, qb60, qc60⟩ := isOf hZ rfl Ex55
    obtain ⟨_, _, ⟨T60, L60, k60, n60⟩, -, X60, ⟨Lc60, hQ60, l60, y60, z60⟩, st60⟩ := X54.virtualBack hx (y := (⟨"com/example/rowforge/rowforge/core/Notice$RangeMoved", "positionAfter", "(I)I"⟩ : MethodName)) (z := (⟨"com/example/rowforge/rowforge/core/Notice$RangeMoved", "positionAfter", "(I)I"⟩ : MethodName)) hown (mvT hZ (hw _ (List.mem_of_getElem? (i := 32) rfl))) (mvT hZ (hw _ (List.mem_of_getElem? (i := 33) rfl))) (notFace_of_selects (args := #[]) (mvT hZ (hw _ (List.mem_of_getElem? (i := 35) rfl)))) (mvT hZ (hw _ (List.mem_of_getElem? (i := 35) rfl))) (mvT hZ (hw _ (List.mem_of_getElem? (i := 34) rfl))) (by decide) (backOf (W := 0) (rm6 l Z a0 hw [] b49 (((j0_157_10 p0_0 p0_1 p0_2 p0_3 p0_4)).toInt32) (v0_25 p0_0 p0_2) (v0_4 p0_2) (v0_37 p0_1 p0_2) T54.heap n0 Z54 F56 F58 F57) hZ (hw _ (List.mem_of_getElem? (i := 36) rfl)) (hw _ (List.mem_of_getElem? (i := 5) rfl)) (by decide) (by decide)) qa60 qc60 (g := (mkF m 177 #[.val (.int p0_0), .val (.int p0_1), .val (.int p0_2), .val (.int p0_3), .val (.int p0_4), .val (.int (v0_4 p0_2)), .val (.long (v0_13 p0_2)), .second, .val (.int (v0_25 p0_0 p0_2)), .val (.int (v0_37 p0_1 p0_2)), .val (.long (j0_157_10 p0_0 p0_1 p0_2 p0_3 p0_4)), .second, .val (.ref b49), .val (.long (j0_119_13 p0_0 p0_1 p0_2 p0_4)), .second] [(.int (((j0_157_10 p0_0 p0_1 p0_2 p0_3 p0_4)).toInt32)), (.ref b49)])) rfl (by rw [hml]; rfl) (Steps.refl _) (argsL := [(.int (((j0_157_10 p0_0 p0_1 p0_2 p0_3 p0_4)).toInt32))]) (rest := []) (lenOf pd_4 rfl) rfl (by show 2 * 0 + _ ≤ _; exact Nat.le_of_eq rfl) (hb hby at_177) (fun _ _ => ⟨rfl, rfl, (by decide : 1 + 0 ≤ _), (by decide : 3 + 0 ≤ _)⟩)
    dsimp only [Pt.U, Pt.locs, Pt.cells, Pt.slots] at X60 l60 y60 z60 st60 hQ60
    subst l60 y60 z60
    obtain ⟨rfl, M60, e60⟩ := hQ60
    have N60 := Fr.app N54 M60
    have pre60 : ∀ t, Steps p.tables e below (T60.setTop (mkF m 180 #[.val (.int p0_0), .val (.int p0_1), .val (.int p0_2), .val (.int p0_3), .val (.int p0_4), .val (.int (v0_4 p0_2)), .val (.long (v0_13 p0_2)), .second, .val (.int (v0_25 p0_0 p0_2)), .val (.int (v0_37 p0_1 p0_2)), .val (.long (j0_157_10 p0_0 p0_1 p0_2 p0_3 p0_4)), .second, .val (.ref b49), .val (.long (j0_119_13 p0_0 p0_1 p0_2 p0_4)), .second] [(.int (c0_177_1 p0_0 p0_1 p0_2 p0_3 p0_4))])) t → Steps p.tables e below (s₁.setTop (entryFrame m #[(.int p0_0), (.int p0_1), (.int p0_2), (.int p0_3), (.int p0_4)] maxLocals)) t := fun t k => pre59 t (st60.trans k)
    have pre61 : ∀ t, Steps p.tables e below (T60.setTop (mkF m 196 #[.val (.int p0_0), .val (.int p0_1), .val (.int p0_2), .val (.int p0_3), .val (.int p0_4), .val (.int (v0_4 p0_2)), .val (.long (v0_13 p0_2)), .second, .val (.int (v0_25 p0_0 p0_2)), .val (.int (v0_37 p0_1 p0_2)), .val (.long (j0_157_10 p0_0 p0_1 p0_2 p0_3 p0_4)), .second, .val (.ref b49), .val (.int (c0_177_1 p0_0 p0_1 p0_2 p0_3 p0_4)), .unset] [(.long (j0_157_10 p0_0 p0_1 p0_2 p0_3 p0_4)), (.long (((v0_4 p0_2)).toInt64)), (.long (((v0_37 p0_1 p0_2)).toInt64)), (.long (((v0_25 p0_0 p0_2)).toInt64)), (.long (((c0_177_1 p0_0 p0_1 p0_2 p0_3 p0_4)).toInt64))])) t → Steps p.tables e below (s₁.setTop (entryFrame m #[(.int p0_0), (.int p0_1), (.int p0_2), (.int p0_3), (.int p0_4)] maxLocals)) t := fun t k => pre60 t (by
      refine XS.istore X60.here hx rfl (hb hby at_180) rfl (l' := #[.val (.int p0_0), .val (.int p0_1), .val (.int p0_2), .val (.int p0_3), .val (.int p0_4), .val (.int (v0_4 p0_2)), .val (.long (v0_13 p0_2)), .second, .val (.int (v0_25 p0_0 p0_2)), .val (.int (v0_37 p0_1 p0_2)), .val (.long (j0_157_10 p0_0 p0_1 p0_2 p0_3 p0_4)), .second, .val (.ref b49), .val (.int (c0_177_1 p0_0 p0_1 p0_2 p0_3 p0_4)), .unset]) rfl ?_
      show Steps p.tables e below (T60.setTop (mkF m 182 #[.val (.int p0_0), .val (.int p0_1), .val (.int p0_2), .val (.int p0_3), .val (.int p0_4), .val (.int (v0_4 p0_2)), .val (.long (v0_13 p0_2)), .second, .val (.int (v0_25 p0_0 p0_2)), .val (.int (v0_37 p0_1 p0_2)), .val (.long (j0_157_10 p0_0 p0_1 p0_2 p0_3 p0_4)), .second, .val (.ref b49), .val (.int (c0_177_1 p0_0 p0_1 p0_2 p0_3 p0_4)), .unset] [])) _
      refine XS.iload X60.here hx rfl (hb hby at_182) rfl ?_
      show Steps p.tables e below (T60.setTop (mkF m 184 #[.val (.int p0_0), .val (.int p0_1), .val (.int p0_2), .val (.int p0_3), .val (.int p0_4), .val (.int (v0_4 p0_2)), .val (.long (v0_13 p0_2)), .second, .val (.int (v0_25 p0_0 p0_2)), .val (.int (v0_37 p0_1 p0_2)), .val (.long (j0_157_10 p0_0 p0_1 p0_2 p0_3 p0_4)), .second, .val (.ref b49), .val (.int (c0_177_1 p0_0 p0_1 p0_2 p0_3 p0_4)), .unset] [(.int (c0_177_1 p0_0 p0_1 p0_2 p0_3 p0_4))])) _
      refine XS.i2l X60.here hx rfl (hb hby at_184) rfl ?_
      show Steps p.tables e below (T60.setTop (mkF m 185 #[.val (.int p0_0), .val (.int p0_1), .val (.int p0_2), .val (.int p0_3), .val (.int p0_4), .val (.int (v0_4 p0_2)), .val (.long (v0_13 p0_2)), .second, .val (.int (v0_25 p0_0 p0_2)), .val (.int (v0_37 p0_1 p0_2)), .val (.long (j0_157_10 p0_0 p0_1 p0_2 p0_3 p0_4)), .second, .val (.ref b49), .val (.int (c0_177_1 p0_0 p0_1 p0_2 p0_3 p0_4)), .unset] [(.long (((c0_177_1 p0_0 p0_1 p0_2 p0_3 p0_4)).toInt64))])) _
      refine XS.iload X60.here hx rfl (hb hby at_185) rfl ?_
      show Steps p.tables e below (T60.setTop (mkF m 187 #[.val (.int p0_0), .val (.int p0_1), .val (.int p0_2), .val (.int p0_3), .val (.int p0_4), .val (.int (v0_4 p0_2)), .val (.long (v0_13 p0_2)), .second, .val (.int (v0_25 p0_0 p0_2)), .val (.int (v0_37 p0_1 p0_2)), .val (.long (j0_157_10 p0_0 p0_1 p0_2 p0_3 p0_4)), .second, .val (.ref b49), .val (.int (c0_177_1 p0_0 p0_1 p0_2 p0_3 p0_4)), .unset] [(.int (v0_25 p0_0 p0_2)), (.long (((c0_177_1 p0_0 p0_1 p0_2 p0_3 p0_4)).toInt64))])) _
      refine XS.i2l X60.here hx rfl (hb hby at_187) rfl ?_
      show Steps p.tables e below (T60.setTop (mkF m 188 #[.val (.int p0_0), .val (.int p0_1), .val (.int p0_2), .val (.int p0_3), .val (.int p0_4), .val (.int (v0_4 p0_2)), .val (.long (v0_13 p0_2)), .second, .val (.int (v0_25 p0_0 p0_2)), .val (.int (v0_37 p0_1 p0_2)), .val (.long (j0_157_10 p0_0 p0_1 p0_2 p0_3 p0_4)), .second, .val (.ref b49), .val (.int (c0_177_1 p0_0 p0_1 p0_2 p0_3 p0_4)), .unset] [(.long (((v0_25 p0_0 p0_2)).toInt64)), (.long (((c0_177_1 p0_0 p0_1 p0_2 p0_3 p0_4)).toInt64))])) _
      refine XS.iload X60.here hx rfl (hb hby at_188) rfl ?_
      show Steps p.tables e below (T60.setTop (mkF m 190 #[.val (.int p0_0), .val (.int p0_1), .val (.int p0_2), .val (.int p0_3), .val (.int p0_4), .val (.int (v0_4 p0_2)), .val (.long (v0_13 p0_2)), .second, .val (.int (v0_25 p0_0 p0_2)), .val (.int (v0_37 p0_1 p0_2)), .val (.long (j0_157_10 p0_0 p0_1 p0_2 p0_3 p0_4)), .second, .val (.ref b49), .val (.int (c0_177_1 p0_0 p0_1 p0_2 p0_3 p0_4)), .unset] [(.int (v0_37 p0_1 p0_2)), (.long (((v0_25 p0_0 p0_2)).toInt64)), (.long (((c0_177_1 p0_0 p0_1 p0_2 p0_3 p0_4)).toInt64))])) _
      refine XS.i2l X60.here hx rfl (hb hby at_190) rfl ?_
      show Steps p.tables e below (T60.setTop (mkF m 191 #[.val (.int p0_0), .val (.int p0_1), .val (.int p0_2), .val (.int p0_3), .val (.int p0_4), .val (.int (v0_4 p0_2)), .val (.long (v0_13 p0_2)), .second, .val (.int (v0_25 p0_0 p0_2)), .val (.int (v0_37 p0_1 p0_2)), .val (.long (j0_157_10 p0_0 p0_1 p0_2 p0_3 p0_4)), .second, .val (.ref b49), .val (.int (c0_177_1 p0_0 p0_1 p0_2 p0_3 p0_4)), .unset] [(.long (((v0_37 p0_1 p0_2)).toInt64)), (.long (((v0_25 p0_0 p0_2)).toInt64)), (.long (((c0_177_1 p0_0 p0_1 p0_2 p0_3 p0_4)).toInt64))])) _
      refine XS.iload X60.here hx rfl (hb hby at_191) rfl ?_
      show Steps p.tables e below (T60.setTop (mkF m 193 #[.val (.int p0_0), .val (.int p0_1), .val (.int p0_2), .val (.int p0_3), .val (.int p0_4), .val (.int (v0_4 p0_2)), .val (.long (v0_13 p0_2)), .second, .val (.int (v0_25 p0_0 p0_2)), .val (.int (v0_37 p0_1 p0_2)), .val (.long (j0_157_10 p0_0 p0_1 p0_2 p0_3 p0_4)), .second, .val (.ref b49), .val (.int (c0_177_1 p0_0 p0_1 p0_2 p0_3 p0_4)), .unset] [(.int (v0_4 p0_2)), (.long (((v0_37 p0_1 p0_2)).toInt64)), (.long (((v0_25 p0_0 p0_2)).toInt64)), (.long (((c0_177_1 p0_0 p0_1 p0_2 p0_3 p0_4)).toInt64))])) _
      refine XS.i2l X60.here hx rfl (hb hby at_193) rfl ?_
      show Steps p.tables e below (T60.setTop (mkF m 194 #[.val (.int p0_0), .val (.int p0_1), .val (.int p0_2), .val (.int p0_3), .val (.int p0_4), .val (.int (v0_4 p0_2)), .val (.long (v0_13 p0_2)), .second, .val (.int (v0_25 p0_0 p0_2)), .val (.int (v0_37 p0_1 p0_2)), .val (.long (j0_157_10 p0_0 p0_1 p0_2 p0_3 p0_4)), .second, .val (.ref b49), .val (.int (c0_177_1 p0_0 p0_1 p0_2 p0_3 p0_4)), .unset] [(.long (((v0_4 p0_2)).toInt64)), (.long (((v0_37 p0_1 p0_2)).toInt64)), (.long (((v0_25 p0_0 p0_2)).toInt64)), (.long (((c0_177_1 p0_0 p0_1 p0_2 p0_3 p0_4)).toInt64))])) _
      refine XS.lload X60.here hx rfl (hb hby at_194) rfl ?_
      show Steps p.tables e below (T60.setTop (mkF m 196 #[.val (.int p0_0), .val (.int p0_1), .val (.int p0_2), .val (.int p0_3), .val (.int p0_4), .val (.int (v0_4 p0_2)), .val (.long (v0_13 p0_2)), .second, .val (.int (v0_25 p0_0 p0_2)), .val (.int (v0_37 p0_1 p0_2)), .val (.long (j0_157_10 p0_0 p0_1 p0_2 p0_3 p0_4)), .second, .val (.ref b49), .val (.int (c0_177_1 p0_0 p0_1 p0_2 p0_3 p0_4)), .unset] [(.long (j0_157_10 p0_0 p0_1 p0_2 p0_3 p0_4)), (.long (((v0_4 p0_2)).toInt64)), (.long (((v0_37 p0_1 p0_2)).toInt64)), (.long (((v0_25 p0_0 p0_2)).toInt64)), (.long (((c0_177_1 p0_0 p0_1 p0_2 p0_3 p0_4)).toInt64))])) _
      exact k)
    obtain ⟨_, _, ⟨T62, L62, k62, n62⟩, -, X62, ⟨Lc62, hQ62, l62, y62, z62⟩, st62⟩ := Jvm.LawKit.callS X60 hx (y := (⟨"com/example/rowforge/rowforge/core/RangeMovedPositionAfterPinLaw", "expected", "(JJJJ)J"⟩ : MethodName)) hown (mvT hZ (hw _ (List.mem_of_getElem? (i := 37) rfl))) (mvT hZ (hw _ (List.mem_of_getElem? (i := 38) rfl))) (mvT hZ (hw _ (List.mem_of_getElem? (i := 39) rfl))) (mvT hZ (hw _ (List.mem_of_getElem? (i := 40) rfl))) (by decide) (backOf (W := 2) (rm7 l Z a0 hw [] (((v0_25 p0_0 p0_2)).toInt64) (((v0_37 p0_1 p0_2)).toInt64) (((v0_4 p0_2)).toInt64) (j0_157_10 p0_0 p0_1 p0_2 p0_3 p0_4) T54.heap n0 Z54 ) hZ (hw _ (List.mem_of_getElem? (i := 40) rfl)) (hw _ (List.mem_of_getElem? (i := 39) rfl)) (by decide) (by decide)) (g := (mkF m 196 #[.val (.int p0_0), .val (.int p0_1), .val (.int p0_2), .val (.int p0_3), .val (.int p0_4), .val (.int (v0_4 p0_2)), .val (.long (v0_13 p0_2)), .second, .val (.int (v0_25 p0_0 p0_2)), .val (.int (v0_37 p0_1 p0_2)), .val (.long (j0_157_10 p0_0 p0_1 p0_2 p0_3 p0_4)), .second, .val (.ref b49), .val (.int (c0_177_1 p0_0 p0_1 p0_2 p0_3 p0_4)), .unset] [(.long (j0_157_10 p0_0 p0_1 p0_2 p0_3 p0_4)), (.long (((v0_4 p0_2)).toInt64)), (.long (((v0_37 p0_1 p0_2)).toInt64)), (.long (((v0_25 p0_0 p0_2)).toInt64)), (.long (((c0_177_1 p0_0 p0_1 p0_2 p0_3 p0_4)).toInt64))])) rfl (by rw [hml]; rfl) (argsL := [(.long (((v0_25 p0_0 p0_2)).toInt64)), (.long (((v0_37 p0_1 p0_2)).toInt64)), (.long (((v0_4 p0_2)).toInt64)), (.long (j0_157_10 p0_0 p0_1 p0_2 p0_3 p0_4))]) (rest := [(.long (((c0_177_1 p0_0 p0_1 p0_2 p0_3 p0_4)).toInt64))]) (lenOf pd_5 rfl) rfl (by show 2 * 0 + _ ≤ _; exact Nat.le_of_eq rfl) (hb hby at_196) (fun _ _ => ⟨rfl, e60, (by decide : 1 + 0 ≤ _), (by decide : 3 + 0 ≤ _)⟩)
    dsimp only [Pt.U, Pt.locs, Pt.cells, Pt.slots] at X62 l62 y62 z62 st62 hQ62
    subst l62 y62 z62
    obtain ⟨rfl, M62, e62⟩ := hQ62
    have N62 := Fr.app N60 M62
    have pre62 : ∀ t, Steps p.tables e below (T62.setTop (mkF m 199 #[.val (.int p0_0), .val (.int p0_1), .val (.int p0_2), .val (.int p0_3), .val (.int p0_4), .val (.int (v0_4 p0_2)), .val (.long (v0_13 p0_2)), .second, .val (.int (v0_25 p0_0 p0_2)), .val (.int (v0_37 p0_1 p0_2)), .val (.long (j0_157_10 p0_0 p0_1 p0_2 p0_3 p0_4)), .second, .val (.ref b49), .val (.int (c0_177_1 p0_0 p0_1 p0_2 p0_3 p0_4)), .unset] [(.long (c0_196_1 p0_0 p0_1 p0_2 p0_3 p0_4)), (.long (((c0_177_1 p0_0 p0_1 p0_2 p0_3 p0_4)).toInt64))])) t → Steps p.tables e below (s₁.setTop (entryFrame m #[(.int p0_0), (.int p0_1), (.int p0_2), (.int p0_3), (.int p0_4)] maxLocals)) t := fun t k => pre61 t (st62 t k)
    have pre64 : ∀ t, Steps p.tables e below (T62.setTop (mkF m 208 #[.val (.int p0_0), .val (.int p0_1), .val (.int p0_2), .val (.int p0_3), .val (.int p0_4), .val (.int (v0_4 p0_2)), .val (.long (v0_13 p0_2)), .second, .val (.int (v0_25 p0_0 p0_2)), .val (.int (v0_37 p0_1 p0_2)), .val (.long (j0_157_10 p0_0 p0_1 p0_2 p0_3 p0_4)), .second, .val (.ref b49), .val (.int (c0_177_1 p0_0 p0_1 p0_2 p0_3 p0_4)), .unset] [(.int (1 : Int32))])) t → Steps p.tables e below (s₁.setTop (entryFrame m #[(.int p0_0), (.int p0_1), (.int p0_2), (.int p0_3), (.int p0_4)] maxLocals)) t := fun t k => pre62 t (by
      refine XS.lcmp X62.here hx rfl (hb hby at_199) rfl ?_
      show Steps p.tables e below (T62.setTop (mkF m 200 #[.val (.int p0_0), .val (.int p0_1), .val (.int p0_2), .val (.int p0_3), .val (.int p0_4), .val (.int (v0_4 p0_2)), .val (.long (v0_13 p0_2)), .second, .val (.int (v0_25 p0_0 p0_2)), .val (.int (v0_37 p0_1 p0_2)), .val (.long (j0_157_10 p0_0 p0_1 p0_2 p0_3 p0_4)), .second, .val (.ref b49), .val (.int (c0_177_1 p0_0 p0_1 p0_2 p0_3 p0_4)), .unset] [(.int (lcmpW (((c0_177_1 p0_0 p0_1 p0_2 p0_3 p0_4)).toInt64) (c0_196_1 p0_0 p0_1 p0_2 p0_3 p0_4)))])) _
      refine XS.ifNo X62.here hx rfl (hb hby at_200) rfl ((if0 _ _).trans (teq ((lw_eq (((c0_177_1 p0_0 p0_1 p0_2 p0_3 p0_4)).toInt64) (c0_196_1 p0_0 p0_1 p0_2 p0_3 p0_4)).mpr (show (((c0_177_1 p0_0 p0_1 p0_2 p0_3 p0_4)).toInt64) = (c0_196_1 p0_0 p0_1 p0_2 p0_3 p0_4) from (own_mainB p0_0 p0_1 p0_2 p0_3 p0_4)))).2) ?_
      show Steps p.tables e below (T62.setTop (mkF m 203 #[.val (.int p0_0), .val (.int p0_1), .val (.int p0_2), .val (.int p0_3), .val (.int p0_4), .val (.int (v0_4 p0_2)), .val (.long (v0_13 p0_2)), .second, .val (.int (v0_25 p0_0 p0_2)), .val (.int (v0_37 p0_1 p0_2)), .val (.long (j0_157_10 p0_0 p0_1 p0_2 p0_3 p0_4)), .second, .val (.ref b49), .val (.int (c0_177_1 p0_0 p0_1 p0_2 p0_3 p0_4)), .unset] [])) _
      refine XS.iconst X62.here hx rfl (hb hby at_203) ?_
      show Steps p.tables e below (T62.setTop (mkF m 204 #[.val (.int p0_0), .val (.int p0_1), .val (.int p0_2), .val (.int p0_3), .val (.int p0_4), .val (.int (v0_4 p0_2)), .val (.long (v0_13 p0_2)), .second, .val (.int (v0_25 p0_0 p0_2)), .val (.int (v0_37 p0_1 p0_2)), .val (.long (j0_157_10 p0_0 p0_1 p0_2 p0_3 p0_4)), .second, .val (.ref b49), .val (.int (c0_177_1 p0_0 p0_1 p0_2 p0_3 p0_4)), .unset] [(.int (1 : Int32))])) _
      refine XS.goto X62.here hx rfl (pc0 := 204) (pc' := 208) rfl (hb hby at_204) (by decide) (by decide) ?_
      show Steps p.tables e below (T62.setTop (mkF m 208 #[.val (.int p0_0), .val (.int p0_1), .val (.int p0_2), .val (.int p0_3), .val (.int p0_4), .val (.int (v0_4 p0_2)), .val (.long (v0_13 p0_2)), .second, .val (.int (v0_25 p0_0 p0_2)), .val (.int (v0_37 p0_1 p0_2)), .val (.long (j0_157_10 p0_0 p0_1 p0_2 p0_3 p0_4)), .second, .val (.ref b49), .val (.int (c0_177_1 p0_0 p0_1 p0_2 p0_3 p0_4)), .unset] [(.int (1 : Int32))])) _
      exact k)
    obtain ⟨fs, hr, hrun, hended, hW, hsame⟩ := X62.leave (v := some (.int (1 : Int32))) (fun h => by rw [Bd.returns] at h; cases h)
    refine ⟨_, _, pre64 _ ?_, hrun, hended, _, _, rfl, ?_, ⟨_, rfl⟩, hW, hsame.mono (by decide) (by decide)⟩
    · show Steps p.tables e below (T62.setTop (mkF m 208 #[.val (.int p0_0), .val (.int p0_1), .val (.int p0_2), .val (.int p0_3), .val (.int p0_4), .val (.int (v0_4 p0_2)), .val (.long (v0_13 p0_2)), .second, .val (.int (v0_25 p0_0 p0_2)), .val (.int (v0_37 p0_1 p0_2)), .val (.long (j0_157_10 p0_0 p0_1 p0_2 p0_3 p0_4)), .second, .val (.ref b49), .val (.int (c0_177_1 p0_0 p0_1 p0_2 p0_3 p0_4)), .unset] [(.int (1 : Int32))])) _
      exact retN X62 hx (t := .boolean) Bd.returns (by simp) (hb hby at_208) hr
    · show Q0 Z p0_0 p0_1 p0_2 p0_3 p0_4 h0 n0 _ T62.heap _
      rw [e62]
      exact ⟨rfl, N62⟩
set_option maxRecDepth 65536 in
set_option maxHeartbeats 40000000 in
theorem comes_1 {Post : Tables → Env → Array Value → State → Outcome → State → Prop} (hpost : ∀ tb e args s v u, (limb_1_1.after args s (.returned v) u = true ∧ limb_1_2.after args s (.returned v) u = true ∧ True) → FrameEnd s (.returned v) u (Jvm.fieldLocs frame_1_writes args s ++ Jvm.arrayLocs frame_1_arrays args s ++ Jvm.staticLocs frame_1_statics s) 16 128 → Post tb e args s (.returned v) u) :
    ArmFor flags0 classFile x code maxLocals ret World_1 tables_1 room_1 Calls_1 rest_1 Pre_1 Post := by
  intro l hfl _ _ p e ha hc hk s m args below hf hA hF happ hP
  obtain ⟨hcalls, hrest, hpre⟩ := hP
  obtain ⟨-, -, -, hnamed, -, -, -, hat⟩ := (Spec.applies_iff hf).mp happ
  obtain ⟨hg, hn⟩ := and_e (Cond.before_iff.mp (show (Jvm.Cond.and given_1 narrow_1).before args s = true from hpre))
  obtain ⟨gc, g0⟩ := and_e hg
  obtain ⟨ga0, g1⟩ := and_e g0
  obtain ⟨ga1, g2⟩ := and_e g1
  obtain ⟨ga2, g3⟩ := and_e g2
  obtain ⟨ga3, g4⟩ := and_e g3
  obtain ⟨w0, w1, w2, w3, w4, rfl⟩ : ∃ w0 w1 w2 w3 w4 : Value, args = #[w0, w1, w2, w3, w4] := by
    have hs : args.size = 5 := by simpa [Cond.value, given_1] using gc
    obtain ⟨L⟩ := args
    match L, hs with
    | [w0, w1, w2, w3, w4], _ => exact ⟨w0, w1, w2, w3, w4, rfl⟩
  have hw := fun d (hd : d ∈ tables_1) => atoms_spec (ws := Jvm.Cond.code x code maxLocals ret :: tables_1) hat d (List.mem_cons_of_mem _ hd)
  obtain ⟨i0, ei0⟩ := is_v ga0
  obtain rfl : w0 = (.int i0) := Option.some.inj ei0
  obtain ⟨i1, ei1⟩ := is_v ga1
  obtain rfl : w1 = (.int i1) := Option.some.inj ei1
  obtain ⟨i2, ei2⟩ := is_v ga2
  obtain rfl : w2 = (.int i2) := Option.some.inj ei2
  obtain ⟨i3, ei3⟩ := is_v ga3
  obtain rfl : w3 = (.int i3) := Option.some.inj ei3
  obtain ⟨i4, ei4⟩ := is_v g4
  obtain rfl : w4 = (.int i4) := Option.some.inj ei4
  obtain ⟨n, o, h1, h2, h3, _, L, rfl, ⟨rfl, N⟩, hq⟩ := rm0 l s _ hw tables_1 i0 i1 i2 i3 i4  s.heap s.heap.size (Nat.le_refl _)  p e ha hc hk s m _ below hf ((Spec.applies_iff_loose hf).mp happ).1 ⟨rfl, State.Warmed39.refl s, rfl⟩ trivial
  refine ⟨n, _, h1, h2, h3, hpost _ _ _ _ _ _ ⟨Cond.after_iff.mpr rfl, Cond.after_iff.mpr (eq_i res_at (Term.int_eval (1)) rfl), trivial⟩ ⟨hq.1, hq.2.1, (hq.2.2.sift fun y hy => Or.inr (N y hy)).mono (by decide) (by decide)⟩⟩
theorem main_1_1 : Claimed_1_1 := comes_1 fun _ _ _ _ _ _ h hF => ⟨h.1, hF⟩
theorem main_1_2 : Claimed_1_2 := comes_1 fun _ _ _ _ _ _ h hF => ⟨h.2.1, hF⟩
end Jvm.Pilot.@@N@@
namespace Jvm.Pilot.@@N@@
open Jvm Jvm.ClassFile Sem Op Lib Jvm.Free Jvm.Stand Jvm.Pilot.@@N@@.Jvm.D
/-! MADE BY PROGRAM (witnessworld.py) out of the Statement's table words and the real class files: 13 classes; the members and pool entries that the words name. The judged class is class 1, her method 1. -/
namespace start1
open Jvm.ClassFile
def u (s : String) : CpInfo := .utf8 (stringToUtf16 s)
/-- a pool by its gaps: so many unusable entries, then the entry; so many at the end -/
def gap : Nat → List CpInfo → List CpInfo
  | 0, r => r
  | n + 1, r => .unusable :: gap n r
def poolList (es : List (Nat × CpInfo)) (last : Nat) : List CpInfo := es.foldr (fun e r => gap e.1 (e.2 :: r)) (gap last [])
def pool (es : List (Nat × CpInfo)) (last : Nat) : Array CpInfo := ⟨poolList es last⟩
def fileOf (pool : Array CpInfo) (this : Nat) (attrs : Array Attribute := #[]) (ms : Array MethodInfo := #[]) (fl : Nat := 33) (sup : Nat := 0) (ifs : Array Nat := #[]) (fds : Array FieldInfo := #[]) : ClassFile where
  minorVersion := 0
  majorVersion := 65
  constantPool := pool
  accessFlags := fl
  thisClass := this
  superClass := sup
  interfaces := ifs
  fields := fds
  methods := ms
  attributes := attrs
def plain (name : String) (sup : Option ClassId) : Class where
  name := name
  kind := .ordinary
  loader := none
  accessFlags := 33
  super := sup
  interfaces := #[]
  cf := none
  fields := #[]
  methods := #[]
  instanceTypes := #[]
  staticTypes := #[]
  resolved := #[]
  callSites := []
  init := .initialized
  statics := none
  mirror := none

def pool0 : Array CpInfo := pool [(5, u "<init>"), (0, u "()V"), (1, .class_ 10), (1, u "java/lang/Object")] 113

def k0c0 : Code := { maxStack := 0, maxLocals := 1, code := object_method_1_code, exceptionTable := #[], attributes := #[] }
def k0m0 : Method := { name := "<init>", desc := "()V", sig := { parameters := [], returnType := none }, accessFlags := 1, code := some k0c0 }
/-- java/lang/Object -/
def k0 : Class := { plain "java/lang/Object" none with
  accessFlags := 33
  interfaces := #[]
  cf := some (fileOf pool0 8 #[] #[{ accessFlags := 1, nameIndex := 5, descriptorIndex := 6, attributes := #[] }] 33 0 #[] #[])
  fields := #[]
  methods := #[k0m0]
  instanceTypes := #[]
  staticTypes := #[]
  resolved := Array.replicate 124 none
  statics := none }

def pool1 : Array CpInfo := pool [(2, .class_ 4), (1, u "java/lang/Object"), (0, u "<init>"), (0, u "()V"), (0, .integer 2147483647), (0, .long 2147483648), (1, .long 2147483647), (3, .class_ 15), (0, u "com/example/rowforge/rowforge/core/Notice$RangeMoved"), (0, .methodref 14 17), (0, .nameAndType 5 18), (0, u "(III)V"), (0, .methodref 14 20), (0, .nameAndType 21 22), (0, u "positionAfter"), (0, u "(I)I"), (0, .methodref 24 25), (0, .class_ 26), (0, .nameAndType 27 28), (0, u "com/example/rowforge/rowforge/core/RangeMovedPositionAfterPinLaw"), (0, u "expected"), (0, u "(JJJJ)J"), (2, u "law"), (0, u "(IIIII)Z")] 7

def k1m0 : Method := { name := "<init>", desc := "()V", sig := { parameters := [], returnType := none }, accessFlags := 1, code := none }
def k1c1 : Code := { maxStack := 10, maxLocals := 15, code := code, exceptionTable := #[], attributes := #[] }
def k1m1 : Method := { name := "law", desc := "(IIIII)Z", sig := { parameters := [.int, .int, .int, .int, .int], returnType := some .boolean }, accessFlags := 9, code := some k1c1 }
def k1c2 : Code := { maxStack := 6, maxLocals := 8, code := method_3_code, exceptionTable := #[], attributes := #[] }
def k1m2 : Method := { name := "expected", desc := "(JJJJ)J", sig := { parameters := [.long, .long, .long, .long], returnType := some .long }, accessFlags := 10, code := some k1c2 }
/-- com/example/rowforge/rowforge/core/RangeMovedPositionAfterPinLaw -/
def k1 : Class := { plain "com/example/rowforge/rowforge/core/RangeMovedPositionAfterPinLaw" (some 0) with
  accessFlags := 49
  interfaces := #[]
  cf := some (fileOf pool1 24 #[] #[{ accessFlags := 1, nameIndex := 5, descriptorIndex := 6, attributes := #[] }, { accessFlags := 9, nameIndex := 31, descriptorIndex := 32, attributes := #[] }, { accessFlags := 10, nameIndex := 27, descriptorIndex := 28, attributes := #[] }] 49 2 #[] #[])
  fields := #[]
  methods := #[k1m0, k1m1, k1m2]
  instanceTypes := #[]
  staticTypes := #[]
  resolved := Array.replicate 40 none
  statics := none }

def pool2 : Array CpInfo := pool [(1, .methodref 2 3), (0, .class_ 4), (0, .nameAndType 5 6), (0, u "java/lang/Object"), (0, u "<init>"), (0, u "()V"), (0, .class_ 8), (0, u "java/lang/Record")] 13

def k2c0 : Code := { maxStack := 1, maxLocals := 1, code := jdk_30_method_1_code, exceptionTable := #[], attributes := #[] }
def k2m0 : Method := { name := "<init>", desc := "()V", sig := { parameters := [], returnType := none }, accessFlags := 4, code := some k2c0 }
/-- java/lang/Record -/
def k2 : Class := { plain "java/lang/Record" (some 0) with
  accessFlags := 1057
  interfaces := #[]
  cf := some (fileOf pool2 7 #[] #[{ accessFlags := 4, nameIndex := 5, descriptorIndex := 6, attributes := #[] }] 1057 2 #[] #[])
  fields := #[]
  methods := #[k2m0]
  instanceTypes := #[]
  staticTypes := #[]
  resolved := Array.replicate 22 none
  statics := none }

def pool3 : Array CpInfo := pool [(1, .class_ 2), (0, u "com/example/rowforge/rowforge/core/Notice"), (0, .class_ 4), (0, u "java/lang/Object"), (10, .class_ 16), (0, u "com/example/rowforge/rowforge/core/Notice$RangeMoved"), (0, .class_ 18), (0, u "com/example/rowforge/rowforge/core/Notice$RangeRemoved"), (0, .class_ 20), (0, u "com/example/rowforge/rowforge/core/Notice$RangeInserted"), (0, .class_ 22), (0, u "com/example/rowforge/rowforge/core/Notice$RangeChanged"), (0, .class_ 24), (0, u "com/example/rowforge/rowforge/core/Notice$DataSetChanged")] 7

/-- com/example/rowforge/rowforge/core/Notice -/
def k3 : Class := { plain "com/example/rowforge/rowforge/core/Notice" (some 0) with
  accessFlags := 1537
  interfaces := #[]
  cf := some (fileOf pool3 1 #[.nestMembers #[15, 17, 19, 21, 23]] #[] 1537 3 #[] #[])
  fields := #[]
  methods := #[]
  instanceTypes := #[]
  staticTypes := #[]
  resolved := Array.replicate 32 none
  statics := none }

def pool4 : Array CpInfo := pool [(1, .methodref 2 3), (0, .class_ 4), (0, .nameAndType 5 6), (0, u "java/lang/Record"), (0, u "<init>"), (0, u "()V"), (2, .integer 2147483647), (0, .methodref 11 12), (0, .class_ 13), (0, .nameAndType 14 15), (0, u "java/util/Objects"), (0, u "checkFromIndexSize"), (0, u "(III)I"), (0, .fieldref 17 18), (0, .class_ 19), (0, .nameAndType 20 21), (0, u "com/example/rowforge/rowforge/core/Notice$RangeMoved"), (0, u "from"), (0, u "I"), (0, .fieldref 17 23), (0, .nameAndType 24 21), (0, u "to"), (0, .fieldref 17 26), (0, .nameAndType 27 21), (0, u "count"), (5, u "(III)V"), (12, .class_ 47), (0, u "com/example/rowforge/rowforge/core/Notice"), (8, u "positionAfter"), (0, u "(I)I")] 28

def k4c0 : Code := { maxStack := 3, maxLocals := 4, code := prog_41_method_1_code, exceptionTable := #[], attributes := #[] }
def k4m0 : Method := { name := "<init>", desc := "(III)V", sig := { parameters := [.int, .int, .int], returnType := none }, accessFlags := 1, code := some k4c0 }
def k4c1 : Code := { maxStack := 2, maxLocals := 5, code := prog_41_method_4_code, exceptionTable := #[], attributes := #[] }
def k4m1 : Method := { name := "positionAfter", desc := "(I)I", sig := { parameters := [.int], returnType := some .int }, accessFlags := 1, code := some k4c1 }
/-- com/example/rowforge/rowforge/core/Notice$RangeMoved -/
def k4 : Class := { plain "com/example/rowforge/rowforge/core/Notice$RangeMoved" (some 2) with
  accessFlags := 49
  interfaces := #[3]
  cf := some (fileOf pool4 17 #[.nestHost 46] #[{ accessFlags := 1, nameIndex := 5, descriptorIndex := 33, attributes := #[] }, { accessFlags := 1, nameIndex := 56, descriptorIndex := 57, attributes := #[] }] 49 2 #[46] #[{ accessFlags := 18, nameIndex := 20, descriptorIndex := 21, attributes := #[] }, { accessFlags := 18, nameIndex := 24, descriptorIndex := 21, attributes := #[] }, { accessFlags := 18, nameIndex := 27, descriptorIndex := 21, attributes := #[] }])
  fields := #[{ name := "from", type := .int, accessFlags := 18, slot := 0, constantValue := 0 }, { name := "to", type := .int, accessFlags := 18, slot := 1, constantValue := 0 }, { name := "count", type := .int, accessFlags := 18, slot := 2, constantValue := 0 }]
  methods := #[k4m0, k4m1]
  instanceTypes := #[.int, .int, .int]
  staticTypes := #[]
  resolved := Array.replicate 86 none
  statics := none }

def pool5 : Array CpInfo := pool [(2, .class_ 4), (1, u "java/lang/Object"), (0, u "<init>"), (0, u "()V"), (35, .class_ 44), (1, u "java/util/Objects"), (61, .class_ 108), (1, u "jdk/internal/util/Preconditions"), (5, u "(IIILjava/util/function/BiFunction;)I"), (0, .methodref 106 116), (0, .nameAndType 117 114), (0, u "checkFromIndexSize"), (57, u "(III)I")] 8

def k5m0 : Method := { name := "<init>", desc := "()V", sig := { parameters := [], returnType := none }, accessFlags := 2, code := none }
def k5c1 : Code := { maxStack := 4, maxLocals := 3, code := jdk_31_method_19_code, exceptionTable := #[], attributes := #[] }
def k5m1 : Method := { name := "checkFromIndexSize", desc := "(III)I", sig := { parameters := [.int, .int, .int], returnType := some .int }, accessFlags := 9, code := some k5c1 }
/-- java/util/Objects -/
def k5 : Class := { plain "java/util/Objects" (some 0) with
  accessFlags := 49
  interfaces := #[]
  cf := some (fileOf pool5 42 #[] #[{ accessFlags := 2, nameIndex := 5, descriptorIndex := 6, attributes := #[] }, { accessFlags := 9, nameIndex := 117, descriptorIndex := 175, attributes := #[] }] 49 2 #[] #[])
  fields := #[]
  methods := #[k5m0, k5m1]
  instanceTypes := #[]
  staticTypes := #[]
  resolved := Array.replicate 184 none
  statics := none }

def pool6 : Array CpInfo := pool [(2, .class_ 4), (1, u "java/lang/Object"), (0, u "<init>"), (0, u "()V"), (17, .class_ 26), (1, u "jdk/internal/util/Preconditions"), (22, u "checkFromIndexSize"), (5, .class_ 56), (0, u "jdk/internal/util/Preconditions$4"), (57, .class_ 115), (0, u "jdk/internal/util/Preconditions$1"), (7, u "SIOOBE_FORMATTER"), (0, u "Ljava/util/function/BiFunction;"), (0, .class_ 126), (0, u "jdk/internal/util/Preconditions$2"), (3, u "AIOOBE_FORMATTER"), (0, .class_ 132), (0, u "jdk/internal/util/Preconditions$3"), (3, u "IOOBE_FORMATTER"), (46, u "(IIILjava/util/function/BiFunction;)I")] 10

def k6m0 : Method := { name := "<init>", desc := "()V", sig := { parameters := [], returnType := none }, accessFlags := 1, code := none }
def k6c1 : Code := { maxStack := 4, maxLocals := 4, code := jdk_41_method_13_code, exceptionTable := #[], attributes := #[] }
def k6m1 : Method := { name := "checkFromIndexSize", desc := "(IIILjava/util/function/BiFunction;)I", sig := { parameters := [.int, .int, .int, (.object "java/util/function/BiFunction")], returnType := some .int }, accessFlags := 9, code := some k6c1 }
/-- jdk/internal/util/Preconditions -/
def k6 : Class := { plain "jdk/internal/util/Preconditions" (some 0) with
  accessFlags := 33
  interfaces := #[]
  cf := some (fileOf pool6 24 #[.nestMembers #[55, 131, 125, 114]] #[{ accessFlags := 1, nameIndex := 5, descriptorIndex := 6, attributes := #[] }, { accessFlags := 9, nameIndex := 49, descriptorIndex := 183, attributes := #[] }] 33 2 #[] #[{ accessFlags := 25, nameIndex := 123, descriptorIndex := 124, attributes := #[] }, { accessFlags := 25, nameIndex := 130, descriptorIndex := 124, attributes := #[] }, { accessFlags := 25, nameIndex := 136, descriptorIndex := 124, attributes := #[] }])
  fields := #[{ name := "SIOOBE_FORMATTER", type := (.object "java/util/function/BiFunction"), accessFlags := 25, slot := 0, constantValue := 0 }, { name := "AIOOBE_FORMATTER", type := (.object "java/util/function/BiFunction"), accessFlags := 25, slot := 1, constantValue := 0 }, { name := "IOOBE_FORMATTER", type := (.object "java/util/function/BiFunction"), accessFlags := 25, slot := 2, constantValue := 0 }]
  methods := #[k6m0, k6m1]
  instanceTypes := #[]
  staticTypes := #[(.object "java/util/function/BiFunction"), (.object "java/util/function/BiFunction"), (.object "java/util/function/BiFunction")]
  resolved := Array.replicate 194 none
  statics := none }

def pool7 : Array CpInfo := pool [(1, u "java/lang/Cloneable"), (0, .class_ 1), (0, u "java/lang/Object"), (0, .class_ 3)] 3

/-- java/lang/Cloneable -/
def k7 : Class := { plain "java/lang/Cloneable" (some 0) with
  accessFlags := 1537
  interfaces := #[]
  cf := some (fileOf pool7 2 #[] #[] 1537 4 #[] #[])
  fields := #[]
  methods := #[]
  instanceTypes := #[]
  staticTypes := #[]
  resolved := Array.replicate 8 none
  statics := none }

def pool8 : Array CpInfo := pool [(1, u "java/io/Serializable"), (0, .class_ 1), (0, u "java/lang/Object"), (0, .class_ 3)] 3

/-- java/io/Serializable -/
def k8 : Class := { plain "java/io/Serializable" (some 0) with
  accessFlags := 1537
  interfaces := #[]
  cf := some (fileOf pool8 2 #[] #[] 1537 4 #[] #[])
  fields := #[]
  methods := #[]
  instanceTypes := #[]
  staticTypes := #[]
  resolved := Array.replicate 8 none
  statics := none }

/-- the primitive byte -/
def k9 : Class := { plain "byte" none with kind := .primitive 'B', accessFlags := 0x411 }
/-- [B -/
def k10 : Class := { plain "[B" (some 0) with kind := .array 9 .byte, interfaces := #[7, 8], accessFlags := 1041 }

/-- the primitive int -/
def k11 : Class := { plain "int" none with kind := .primitive 'I', accessFlags := 0x411 }
/-- [I -/
def k12 : Class := { plain "[I" (some 0) with kind := .array 11 .int, interfaces := #[7, 8], accessFlags := 1041 }

def heap : Heap := #[]
def classes : Array Class := #[k0, k1, k2, k3, k4, k5, k6, k7, k8, k9, k10, k11, k12]
def interned : List (Array UInt16 × Addr) := []
def slotsUsed : Nat := 0
def theMethod : MethodId := ⟨1, 1⟩
def args0 : Array Value := #[.int 5, .int 6, .int 7, .int 8, .int 5]
def aboutOver (below : List Frame) : State where
  vm := { classes := classes, interned := interned.toArray }
  heap := heap
  slotsUsed := slotsUsed
  threads := #[{ frames := .invoking theMethod args0 :: below }]
def below0 : List Frame := [.native { method := ⟨0, 0⟩, args := #[] }]
def about1 : State := aboutOver below0
def p0 : Program := .bare "" "" ""
def e0 : Env := launch0.env 0 0 0
theorem w_frames : about1.frames = Frame.invoking theMethod args0 :: below0 := rfl
set_option maxRecDepth 65536 in
theorem w_args : argsFit about1.vm theMethod args0 = true := by decide +kernel
set_option maxRecDepth 65536 in
theorem w_heap : heapFits about1 = true := by decide +kernel
set_option maxRecDepth 65536 in
theorem w_runnable : about1.curStatus? = some .runnable := by decide +kernel
set_option maxRecDepth 65536 in
theorem w_alone : about1.alone = true := by decide +kernel
set_option maxRecDepth 65536 in
theorem w_named : about1.methodNamed? x = some theMethod := by decide +kernel
set_option maxRecDepth 65536 in
theorem w_hears : about1.hears theMethod below0 = true := by decide +kernel
set_option maxRecDepth 65536 in
theorem w_ripe : about1.ripe theMethod args0 below0 = true := by decide +kernel
theorem w_running : about1.status = .running := rfl
set_option maxRecDepth 65536 in
theorem w_room : about1.hasRoom e0.platform room_1 = true :=
  launch0.hasRoom_least _ room_1 (by decide +kernel) (by decide +kernel) (by decide +kernel) (by decide +kernel) (by decide +kernel) (by decide +kernel)
theorem allAtoms_all (ts : List Jvm.Cond) (a : Array Jvm.Value) (st : Jvm.State) : (allAtoms ts).before a st = ts.all (fun c => c.before a st) := by
  induction ts with
  | nil => rfl
  | cons c t ih =>
    show (Jvm.Cond.and c (allAtoms t)).before a st = _
    rw [Jvm.Cond.before_and, ih, List.all_cons]
def words1 : List Jvm.Cond := Jvm.Cond.code x code maxLocals ret :: tables_1
/-- a 'code' word, met by the world's own term for the bytes: nothing is compared byte by byte -/
theorem code_word {y : MethodName} {bytes : ByteArray} {mx : Nat} {rt : Option FieldType} {a : Array Value} {s : State} {m : MethodId} {meth : Method} {c : Code} (h1 : s.methodNamed? y = some m) (h2 : s.vm.method? m = some meth) (h3 : meth.code = some c) (h4 : c.code = bytes)
    (h5 : (c.maxLocals == mx && c.exceptionTable.isEmpty && decide (c.maxStack ≤ mostOperands) && decide (meth.sig.returnType = rt) && !meth.locks && decide (parseMethodDescriptor y.desc = some meth.sig)) = true) : (Jvm.Cond.code y bytes mx rt).before a s = true := by
  simp only [Bool.and_eq_true, beq_iff_eq, Bool.not_eq_true', decide_eq_true_eq] at h5
  obtain ⟨⟨⟨⟨⟨g1, g2⟩, g3⟩, g4⟩, g5⟩, g6⟩ := h5
  simp [Cond.before, Cond.holds, Cond.value, h1, h2, h3, h4, g1, g2, g3, g4, g5, g6]
def isCode : Jvm.Cond → Bool
  | .code _ _ _ _ => true
  | _ => false
theorem all_split {L : List Jvm.Cond} {P : Jvm.Cond → Bool} (h1 : L.all (fun c => isCode c || P c) = true) (h2 : ∀ c ∈ L.filter isCode, P c = true) : L.all P = true := by
  refine List.all_eq_true.mpr fun c hc => ?_
  have h := List.all_eq_true.mp h1 c hc
  rcases Bool.eq_false_or_eq_true (isCode c) with hi | hi
  · exact h2 c (List.mem_filter.mpr ⟨hc, hi⟩)
  · simpa [hi] using h
set_option maxRecDepth 65536 in
theorem w_c0 : (Jvm.Cond.code x code maxLocals ret).before args0 about1 = true := code_word (m := ⟨1, 1⟩) (meth := k1m1) (c := k1c1) (by decide +kernel) rfl rfl rfl (by decide +kernel)
set_option maxRecDepth 65536 in
theorem w_c1 : (Jvm.Cond.code ({ cls := "com/example/rowforge/rowforge/core/Notice$RangeMoved", name := "<init>", desc := "(III)V" } : Jvm.MethodName) prog_41_method_1_code (4 : Nat) (Option.none : Option Jvm.ClassFile.FieldType)).before args0 about1 = true := code_word (m := ⟨4, 0⟩) (meth := k4m0) (c := k4c0) (by decide +kernel) rfl rfl rfl (by decide +kernel)
set_option maxRecDepth 65536 in
theorem w_c2 : (Jvm.Cond.code ({ cls := "java/lang/Record", name := "<init>", desc := "()V" } : Jvm.MethodName) jdk_30_method_1_code (1 : Nat) (Option.none : Option Jvm.ClassFile.FieldType)).before args0 about1 = true := code_word (m := ⟨2, 0⟩) (meth := k2m0) (c := k2c0) (by decide +kernel) rfl rfl rfl (by decide +kernel)
set_option maxRecDepth 65536 in
theorem w_c3 : (Jvm.Cond.code ({ cls := "java/lang/Object", name := "<init>", desc := "()V" } : Jvm.MethodName) object_method_1_code (1 : Nat) (Option.none : Option Jvm.ClassFile.FieldType)).before args0 about1 = true := code_word (m := ⟨0, 0⟩) (meth := k0m0) (c := k0c0) (by decide +kernel) rfl rfl rfl (by decide +kernel)
set_option maxRecDepth 65536 in
theorem w_c4 : (Jvm.Cond.code ({ cls := "java/util/Objects", name := "checkFromIndexSize", desc := "(III)I" } : Jvm.MethodName) jdk_31_method_19_code (3 : Nat) (Option.some Jvm.ClassFile.FieldType.int)).before args0 about1 = true := code_word (m := ⟨5, 1⟩) (meth := k5m1) (c := k5c1) (by decide +kernel) rfl rfl rfl (by decide +kernel)
set_option maxRecDepth 65536 in
theorem w_c5 : (Jvm.Cond.code ({ cls := "jdk/internal/util/Preconditions", name := "checkFromIndexSize", desc := "(IIILjava/util/function/BiFunction;)I" } : Jvm.MethodName) jdk_41_method_13_code (4 : Nat) (Option.some Jvm.ClassFile.FieldType.int)).before args0 about1 = true := code_word (m := ⟨6, 1⟩) (meth := k6m1) (c := k6c1) (by decide +kernel) rfl rfl rfl (by decide +kernel)
set_option maxRecDepth 65536 in
theorem w_c6 : (Jvm.Cond.code ({ cls := "com/example/rowforge/rowforge/core/Notice$RangeMoved", name := "positionAfter", desc := "(I)I" } : Jvm.MethodName) prog_41_method_4_code (5 : Nat) (Option.some Jvm.ClassFile.FieldType.int)).before args0 about1 = true := code_word (m := ⟨4, 1⟩) (meth := k4m1) (c := k4c1) (by decide +kernel) rfl rfl rfl (by decide +kernel)
set_option maxRecDepth 65536 in
theorem w_c7 : (Jvm.Cond.code ({ cls := "com/example/rowforge/rowforge/core/RangeMovedPositionAfterPinLaw", name := "expected", desc := "(JJJJ)J" } : Jvm.MethodName) method_3_code (8 : Nat) (Option.some Jvm.ClassFile.FieldType.long)).before args0 about1 = true := code_word (m := ⟨1, 2⟩) (meth := k1m2) (c := k1c2) (by decide +kernel) rfl rfl rfl (by decide +kernel)
def codes1 : List Jvm.Cond := [Jvm.Cond.code x code maxLocals ret, Jvm.Cond.code ({ cls := "com/example/rowforge/rowforge/core/Notice$RangeMoved", name := "<init>", desc := "(III)V" } : Jvm.MethodName) prog_41_method_1_code (4 : Nat) (Option.none : Option Jvm.ClassFile.FieldType), Jvm.Cond.code ({ cls := "java/lang/Record", name := "<init>", desc := "()V" } : Jvm.MethodName) jdk_30_method_1_code (1 : Nat) (Option.none : Option Jvm.ClassFile.FieldType), Jvm.Cond.code ({ cls := "java/lang/Object", name := "<init>", desc := "()V" } : Jvm.MethodName) object_method_1_code (1 : Nat) (Option.none : Option Jvm.ClassFile.FieldType), Jvm.Cond.code ({ cls := "java/util/Objects", name := "checkFromIndexSize", desc := "(III)I" } : Jvm.MethodName) jdk_31_method_19_code (3 : Nat) (Option.some Jvm.ClassFile.FieldType.int), Jvm.Cond.code ({ cls := "jdk/internal/util/Preconditions", name := "checkFromIndexSize", desc := "(IIILjava/util/function/BiFunction;)I" } : Jvm.MethodName) jdk_41_method_13_code (4 : Nat) (Option.some Jvm.ClassFile.FieldType.int), Jvm.Cond.code ({ cls := "com/example/rowforge/rowforge/core/Notice$RangeMoved", name := "positionAfter", desc := "(I)I" } : Jvm.MethodName) prog_41_method_4_code (5 : Nat) (Option.some Jvm.ClassFile.FieldType.int), Jvm.Cond.code ({ cls := "com/example/rowforge/rowforge/core/RangeMovedPositionAfterPinLaw", name := "expected", desc := "(JJJJ)J" } : Jvm.MethodName) method_3_code (8 : Nat) (Option.some Jvm.ClassFile.FieldType.long)]
set_option maxRecDepth 65536 in
theorem codes_eq : words1.filter isCode = codes1 := rfl
theorem w_codes : ∀ c ∈ words1.filter isCode, c.before args0 about1 = true := by
  rw [codes_eq]
  intro c hc
  simp only [codes1, List.mem_cons, List.not_mem_nil, or_false] at hc
  rcases hc with rfl | rfl | rfl | rfl | rfl | rfl | rfl | rfl
  · exact w_c0
  · exact w_c1
  · exact w_c2
  · exact w_c3
  · exact w_c4
  · exact w_c5
  · exact w_c6
  · exact w_c7
set_option maxRecDepth 65536 in
theorem w_t1 : (words1.take 24).all (fun c => isCode c || c.before args0 about1) = true := by decide +kernel
set_option maxRecDepth 65536 in
theorem w_t2 : (words1.drop 24).all (fun c => isCode c || c.before args0 about1) = true := by decide +kernel
theorem w_tables : (allAtoms (Jvm.Cond.code x code maxLocals ret :: tables_1)).before args0 about1 = true := by
  rw [allAtoms_all]
  show words1.all (fun c => c.before args0 about1) = true
  refine all_split ?_ w_codes
  rw [← List.take_append_drop 24 words1, List.all_append, w_t1, w_t2]
  rfl
set_option maxRecDepth 65536 in
theorem w_case : (Jvm.Cond.and given_1 narrow_1).before args0 about1 = true := by decide +kernel
theorem w_applies : (headSpec (Jvm.Cond.code x code maxLocals ret :: tables_1) room_1).applies x e0.platform about1 = true :=
  (Spec.applies_iff w_frames).mpr ⟨w_running, w_runnable, w_alone, w_named, w_hears, w_ripe, w_room, w_tables⟩
theorem atStart : AtStart classFile x code maxLocals ret World_1 tables_1 room_1 Calls_1 rest_1 Pre_1 launch0 p0 e0 about1 theMethod args0 below0 :=
  ⟨lists_1, trivial, launch0.admits_env _ _ _, launch0.least_env, fairChoices_fair.cas, fairChoices_fair.clock, w_frames, w_args, w_heap, w_applies, trivial, trivial, w_case⟩
end start1
theorem witness_1 : WitnessClaimed_1 := ⟨start1.p0, start1.e0, start1.about1, start1.theMethod, start1.args0, start1.below0, start1.atStart⟩
end Jvm.Pilot.@@N@@
