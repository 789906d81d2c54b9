import JvmDerived
import JvmDerived.Pilot.@@N@@Statement
import JvmDerived.Pilot.@@N@@Code
set_option linter.unusedVariables false
set_option linter.unusedSimpArgs false
@@BLOCK:NumsL.lean.txt@@
namespace Jvm.Pilot.@@N@@
open Jvm Jvm.ClassFile Sem Op Lib Jvm.Free Jvm.Stand Jvm.LawKit Jvm.RoadKit Bundle Jvm.Pilot.@@N@@.Jvm.D
def own_shl (x y : Int32) : Int32 := x <<< (y &&& 31)
def own_shr (x y : Int32) : Int32 := x >>> (y &&& 31)
def own_ushr (x y : Int32) : Int32 := (x.toUInt32 >>> (y &&& 31).toUInt32).toInt32
def own_shlL (x : Int64) (y : Int32) : Int64 := x <<< (y &&& 0x3f).toInt64
def own_shrL (x : Int64) (y : Int32) : Int64 := x >>> (y &&& 0x3f).toInt64
def own_ushrL (x : Int64) (y : Int32) : Int64 := (x.toUInt64 >>> (y &&& 0x3f).toInt64.toUInt64).toInt64
def own_remL (x y : Int64) : Int64 := x - (x / y) * y
section OwnKit
variable {p : Program} {l : Launch} {e : Env} {R : Room} {s : State} {m : MethodId} {args : Array Value} {below : List Frame} {meth : Method} {c : Code} {T : State} {locs : List Loc} {cells slots : Nat} {Z : State} {h h' : Heap} {a b : Addr}
theorem retI (X : Stand p l e R s m args below meth c T locs cells slots) (hx : p.tables.exec = Jvm.exec) {pc : Nat} {Ls : Array Slot} {z : Int32} {rest : List Value} (hret : meth.sig.returnType = some .int) (hd : decode c.code pc = .ok (.ireturn, 1)) {fs : List Frame}
    (hl : ∀ (f : JFrame) (acts : List Action), f.method = m → f.locked = none → f.entered = [] → (doReturn e (T.setTop f) acts (some (.int z))).1 = T.setFrames fs) : Steps p.tables e below (T.setTop (mkF m pc Ls (.int z :: rest))) (T.setFrames fs) :=
  retOut X hx hret rfl (Or.inl ⟨rfl, Or.inl rfl, _, rfl⟩) hd hl
theorem own_retJ (X : Stand p l e R s m args below meth c T locs cells slots) (hx : p.tables.exec = Jvm.exec) {pc : Nat} {Ls : Array Slot} {z : Int64} {rest : List Value} (hret : meth.sig.returnType = some .long) (hd : decode c.code pc = .ok (.lreturn, 1)) {fs : List Frame}
    (hl : ∀ (f : JFrame) (acts : List Action), f.method = m → f.locked = none → f.entered = [] → (doReturn e (T.setTop f) acts (some (.long z))).1 = T.setFrames fs) : Steps p.tables e below (T.setTop (mkF m pc Ls (.long z :: rest))) (T.setFrames fs) :=
  retOut X hx hret rfl (Or.inr (Or.inl ⟨rfl, rfl, _, rfl⟩)) hd hl
end OwnKit
theorem pn_0 : plainName "java/lang/Record" = true := by first | (simp [plainName, overriddenIn]; done) | decide +kernel
theorem d3_0 : decode jdk_30_method_1_code 0 = .ok (.aload_n 0, 1) := by decide +kernel
theorem d3_1 : decode jdk_30_method_1_code 1 = .ok (.invokespecial 1, 3) := by decide +kernel
theorem d3_4 : decode jdk_30_method_1_code 4 = .ok (.return_, 1) := by decide +kernel
theorem ef_3 (m : MethodId) (x0 : Addr) : entryFrame m #[(.ref x0)] 1 = mkF m 0 #[.val (.ref x0)] [] := by first | (simp [entryFrame, mkF, argsToLocals, Value.category]; done) | rfl
abbrev R3 : Room := { frames := 1, cells := 0, slots := 0, locals := 12 }
def Q3 (Z : State) (a3_0 : Addr) (h0 : Heap) (n0 : Nat) (v : Option Value) (h : Heap) (L : List Loc) : Prop := v = none ∧ Fr n0 L ∧ h = h0
set_option maxRecDepth 65536 in
set_option maxHeartbeats 40000000 in
theorem rm3 (l : Launch) (Z : State) (a0 : Array Value) (hw : ∀ d ∈ tables_1, d.before a0 Z = true) (ws : List Jvm.Cond) (a3_0 : Addr) (h0 : Heap) (n0 : Nat) (Z0 : n0 ≤ h0.size) :
    MetFree l (⟨"java/lang/Record", "<init>", "()V"⟩ : MethodName) (head1 (Jvm.Cond.code (⟨"java/lang/Record", "<init>", "()V"⟩ : MethodName) jdk_30_method_1_code 1 none :: ws) R3) (fun a U => a = #[(.ref a3_0)] ∧ Z.Warmed39 U.vm ∧ U.heap = h0) (fun _ _ _ _ _ => True) (fun _ U o U' => ∃ v L, o = .returned v ∧ Q3 Z a3_0 h0 n0 v U'.heap L ∧ FrameEnd U o U' L R3.cells R3.slots) := by
  refine MetFree.of_bodySF (plainFor_of_name pn_0) hisR ?_
  intro p e s m args below meth c s₁ Bd hml0 hP hK
  obtain ⟨rfl, hZ, hh⟩ := hP
  have hx := Bd.exec
  have hby := Bd.bytes
  have hml : c.maxLocals = 1 := hml0
  have hown : s.vm.findClass "java/lang/Record" = some m.cls := findClass_of_methodNamed Bd.named
  have hnm := (name_of_methodNamed Bd.named Bd.method).1
  have X0 : Stand p l e R3 s m #[(.ref a3_0)] below meth c s₁ [] 0 0 := Stand.of_body Bd
  have e0 : s₁.heap = h0 := by rw [← hh, Bd.state]; rfl
  have N0 := Fr.nil n0
  have pre0 : ∀ t, Steps p.tables e below (s₁.setTop (mkF m 0 #[.val (.ref a3_0)] [])) t → Steps p.tables e below (s₁.setTop (entryFrame m #[(.ref a3_0)] 1)) t := fun t k => castTop (ef_3 m a3_0) k
  have pre1 : ∀ t, Steps p.tables e below (s₁.setTop (mkF m 1 #[.val (.ref a3_0)] [(.ref a3_0)])) t → Steps p.tables e below (s₁.setTop (entryFrame m #[(.ref a3_0)] 1)) t := fun t k => pre0 t (by
    refine XS.aloadN X0.here hx rfl (hb hby d3_0) rfl rfl ?_
    show Steps p.tables e below (s₁.setTop (mkF m 1 #[.val (.ref a3_0)] [(.ref a3_0)])) _
    exact k)
  obtain ⟨T2, X2, e2, st2⟩ := initO X0 hx hZ hown (hw _ (List.mem_of_getElem? (i := 17) rfl)) (hw _ (List.mem_of_getElem? (i := 18) rfl)) (hw _ (List.mem_of_getElem? (i := 19) rfl)) e0 (g := (mkF m 1 #[.val (.ref a3_0)] [(.ref a3_0)])) rfl (by rw [hml]; rfl) rfl (hb hby d3_1) (by decide) (W := 0) (by show 2 * 0 + _ ≤ _; exact Nat.le_of_eq rfl) (by decide)
  have pre2 : ∀ t, Steps p.tables e below (T2.setTop (mkF m 4 #[.val (.ref a3_0)] [])) t → Steps p.tables e below (s₁.setTop (entryFrame m #[(.ref a3_0)] 1)) t := fun t k => pre1 t (st2 t k)
  obtain ⟨fs, hr, hrun, hended, hW, hsame⟩ := X2.leave (v := none) (fun _ => rfl)
  refine ⟨_, _, pre2 _ ?_, hrun, hended, _, _, rfl, ?_, ⟨_, rfl⟩, hW, hsame.mono (by decide) (by decide)⟩
  · show Steps p.tables e below (T2.setTop (mkF m 4 #[.val (.ref a3_0)] [])) _
    exact X2.returnOut hx Bd.returns (hb hby d3_4) hr
  · show Q3 Z a3_0 h0 n0 _ T2.heap _
    rw [e2]
    exact ⟨rfl, N0, rfl⟩
theorem pn_1 : plainName "jdk/internal/util/Preconditions" = true := by first | (simp [plainName, overriddenIn]; done) | decide +kernel
theorem d6_0 : decode jdk_41_method_13_code 0 = .ok (.iload_n 2, 1) := by decide +kernel
theorem d6_1 : decode jdk_41_method_13_code 1 = .ok (.iload_n 0, 1) := by decide +kernel
theorem d6_2 : decode jdk_41_method_13_code 2 = .ok (.ior, 1) := by decide +kernel
theorem d6_3 : decode jdk_41_method_13_code 3 = .ok (.iload_n 1, 1) := by decide +kernel
theorem d6_4 : decode jdk_41_method_13_code 4 = .ok (.ior, 1) := by decide +kernel
theorem d6_5 : decode jdk_41_method_13_code 5 = .ok (.ifCond .lt 10, 3) := by decide +kernel
theorem d6_8 : decode jdk_41_method_13_code 8 = .ok (.iload_n 1, 1) := by decide +kernel
theorem d6_9 : decode jdk_41_method_13_code 9 = .ok (.iload_n 2, 1) := by decide +kernel
theorem d6_10 : decode jdk_41_method_13_code 10 = .ok (.iload_n 0, 1) := by decide +kernel
theorem d6_11 : decode jdk_41_method_13_code 11 = .ok (.isub, 1) := by decide +kernel
theorem d6_12 : decode jdk_41_method_13_code 12 = .ok (.if_icmp .le 11, 3) := by decide +kernel
theorem d6_23 : decode jdk_41_method_13_code 23 = .ok (.iload_n 0, 1) := by decide +kernel
theorem d6_24 : decode jdk_41_method_13_code 24 = .ok (.ireturn, 1) := by decide +kernel
theorem ef_6 (m : MethodId) (x0 : Int32) (x1 : Int32) (x2 : Int32) : entryFrame m #[(.int x0), (.int x1), (.int x2), .null] 4 = mkF m 0 #[.val (.int x0), .val (.int x1), .val (.int x2), .val .null] [] := by first | (simp [entryFrame, mkF, argsToLocals, Value.category]; done) | rfl
abbrev R6 : Room := { frames := 0, cells := 0, slots := 0, locals := 0 }
def r6 (pa : Int32) : Int32 := pa
def Q6 (Z : State) (pa : Int32) (pb : Int32) (pc : Int32) (h0 : Heap) (n0 : Nat) (v : Option Value) (h : Heap) (L : List Loc) : Prop := v = some (.int (r6 pa)) ∧ Fr n0 L ∧ h = h0
set_option maxRecDepth 65536 in
set_option maxHeartbeats 40000000 in
theorem rm6 (l : Launch) (Z : State) (a0 : Array Value) (hw : ∀ d ∈ tables_1, d.before a0 Z = true) (ws : List Jvm.Cond) (pa : Int32) (pb : Int32) (pc : Int32) (h0 : Heap) (n0 : Nat) (Z0 : n0 ≤ h0.size) (hA : ¬ (((pc ||| pa) ||| pb) < (0 : Int32))) (hB : ¬ ((pc - pa) < pb)) :
    MetFree l (⟨"jdk/internal/util/Preconditions", "checkFromIndexSize", "(IIILjava/util/function/BiFunction;)I"⟩ : MethodName) (head1 (Jvm.Cond.code (⟨"jdk/internal/util/Preconditions", "checkFromIndexSize", "(IIILjava/util/function/BiFunction;)I"⟩ : MethodName) jdk_41_method_13_code 4 (some .int) :: ws) R6) (fun a U => a = #[(.int pa), (.int pb), (.int pc), .null] ∧ Z.Warmed39 U.vm ∧ U.heap = h0) (fun _ _ _ _ _ => True) (fun _ U o U' => ∃ v L, o = .returned v ∧ Q6 Z pa pb pc h0 n0 v U'.heap L ∧ FrameEnd U o U' L R6.cells R6.slots) := by
  refine MetFree.of_bodySF (plainFor_of_name pn_1) hisR ?_
  intro p e s m args below meth c s₁ Bd hml0 hP hK
  obtain ⟨rfl, hZ, hh⟩ := hP
  have hx := Bd.exec
  have hby := Bd.bytes
  have hml : c.maxLocals = 4 := hml0
  have hown : s.vm.findClass "jdk/internal/util/Preconditions" = some m.cls := findClass_of_methodNamed Bd.named
  have hnm := (name_of_methodNamed Bd.named Bd.method).1
  have X0 : Stand p l e R6 s m #[(.int pa), (.int pb), (.int pc), .null] below meth c s₁ [] 0 0 := Stand.of_body Bd
  have e0 : s₁.heap = h0 := by rw [← hh, Bd.state]; rfl
  have N0 := Fr.nil n0
  have pre0 : ∀ t, Steps p.tables e below (s₁.setTop (mkF m 0 #[.val (.int pa), .val (.int pb), .val (.int pc), .val .null] [])) t → Steps p.tables e below (s₁.setTop (entryFrame m #[(.int pa), (.int pb), (.int pc), .null] 4)) t := fun t k => castTop (ef_6 m pa pb pc) k
  have pre3 : ∀ t, Steps p.tables e below (s₁.setTop (mkF m 24 #[.val (.int pa), .val (.int pb), .val (.int pc), .val .null] [(.int pa)])) t → Steps p.tables e below (s₁.setTop (entryFrame m #[(.int pa), (.int pb), (.int pc), .null] 4)) t := fun t k => pre0 t (by
    refine XS.iloadN X0.here hx rfl (hb hby d6_0) rfl ?_
    show Steps p.tables e below (s₁.setTop (mkF m 1 #[.val (.int pa), .val (.int pb), .val (.int pc), .val .null] [(.int pc)])) _
    refine XS.iloadN X0.here hx rfl (hb hby d6_1) rfl ?_
    show Steps p.tables e below (s₁.setTop (mkF m 2 #[.val (.int pa), .val (.int pb), .val (.int pc), .val .null] [(.int pa), (.int pc)])) _
    refine XS.ior X0.here hx rfl (hb hby d6_2) rfl ?_
    show Steps p.tables e below (s₁.setTop (mkF m 3 #[.val (.int pa), .val (.int pb), .val (.int pc), .val .null] [(.int (pc ||| pa))])) _
    refine XS.iloadN X0.here hx rfl (hb hby d6_3) rfl ?_
    show Steps p.tables e below (s₁.setTop (mkF m 4 #[.val (.int pa), .val (.int pb), .val (.int pc), .val .null] [(.int pb), (.int (pc ||| pa))])) _
    refine XS.ior X0.here hx rfl (hb hby d6_4) rfl ?_
    show Steps p.tables e below (s₁.setTop (mkF m 5 #[.val (.int pa), .val (.int pb), .val (.int pc), .val .null] [(.int ((pc ||| pa) ||| pb))])) _
    refine XS.ifNo X0.here hx rfl (hb hby d6_5) rfl ((if0 _ _).trans (flt (show ¬ (((pc ||| pa) ||| pb) < (0 : Int32)) from hA)).1) ?_
    show Steps p.tables e below (s₁.setTop (mkF m 8 #[.val (.int pa), .val (.int pb), .val (.int pc), .val .null] [])) _
    refine XS.iloadN X0.here hx rfl (hb hby d6_8) rfl ?_
    show Steps p.tables e below (s₁.setTop (mkF m 9 #[.val (.int pa), .val (.int pb), .val (.int pc), .val .null] [(.int pb)])) _
    refine XS.iloadN X0.here hx rfl (hb hby d6_9) rfl ?_
    show Steps p.tables e below (s₁.setTop (mkF m 10 #[.val (.int pa), .val (.int pb), .val (.int pc), .val .null] [(.int pc), (.int pb)])) _
    refine XS.iloadN X0.here hx rfl (hb hby d6_10) rfl ?_
    show Steps p.tables e below (s₁.setTop (mkF m 11 #[.val (.int pa), .val (.int pb), .val (.int pc), .val .null] [(.int pa), (.int pc), (.int pb)])) _
    refine XS.isub X0.here hx rfl (hb hby d6_11) rfl ?_
    show Steps p.tables e below (s₁.setTop (mkF m 12 #[.val (.int pa), .val (.int pb), .val (.int pc), .val .null] [(.int (pc - pa)), (.int pb)])) _
    refine XS.icmpYes X0.here hx rfl (pc0 := 12) (pc' := 23) rfl (hb hby d6_12) rfl (flt (show ¬ ((pc - pa) < pb) from hB)).2.2.2 (by decide) (by decide) ?_
    show Steps p.tables e below (s₁.setTop (mkF m 23 #[.val (.int pa), .val (.int pb), .val (.int pc), .val .null] [])) _
    refine XS.iloadN X0.here hx rfl (hb hby d6_23) rfl ?_
    show Steps p.tables e below (s₁.setTop (mkF m 24 #[.val (.int pa), .val (.int pb), .val (.int pc), .val .null] [(.int pa)])) _
    exact k)
  obtain ⟨fs, hr, hrun, hended, hW, hsame⟩ := X0.leave (v := some (.int pa)) (fun h => by rw [Bd.returns] at h; cases h)
  refine ⟨_, _, pre3 _ ?_, hrun, hended, _, _, rfl, ?_, ⟨_, rfl⟩, hW, hsame.mono (by decide) (by decide)⟩
  · show Steps p.tables e below (s₁.setTop (mkF m 24 #[.val (.int pa), .val (.int pb), .val (.int pc), .val .null] [(.int pa)])) _
    exact retI X0 hx Bd.returns (hb hby d6_24) hr
  · show Q6 Z pa pb pc h0 n0 _ s₁.heap _
    rw [e0]
    exact ⟨rfl, N0, rfl⟩
theorem pn_2 : plainName "java/util/Objects" = true := by first | (simp [plainName, overriddenIn]; done) | decide +kernel
theorem pd_0 : parseMethodDescriptor "(IIILjava/util/function/BiFunction;)I" = some ⟨[.int, .int, .int, (.object "java/util/function/BiFunction")], some .int⟩ := by decide +kernel
theorem d5_0 : decode jdk_31_method_19_code 0 = .ok (.iload_n 0, 1) := by decide +kernel
theorem d5_1 : decode jdk_31_method_19_code 1 = .ok (.iload_n 1, 1) := by decide +kernel
theorem d5_2 : decode jdk_31_method_19_code 2 = .ok (.iload_n 2, 1) := by decide +kernel
theorem d5_3 : decode jdk_31_method_19_code 3 = .ok (.aconst_null, 1) := by decide +kernel
theorem d5_4 : decode jdk_31_method_19_code 4 = .ok (.invokestatic 115, 3) := by decide +kernel
theorem d5_7 : decode jdk_31_method_19_code 7 = .ok (.ireturn, 1) := by decide +kernel
theorem ef_5 (m : MethodId) (x0 : Int32) (x1 : Int32) (x2 : Int32) : entryFrame m #[(.int x0), (.int x1), (.int x2)] 3 = mkF m 0 #[.val (.int x0), .val (.int x1), .val (.int x2)] [] := by first | (simp [entryFrame, mkF, argsToLocals, Value.category]; done) | rfl
abbrev R5 : Room := { frames := 1, cells := 0, slots := 0, locals := 15 }
def r5 (pa : Int32) : Int32 := (r6 pa)
def Q5 (Z : State) (pa : Int32) (pb : Int32) (pc : Int32) (h0 : Heap) (n0 : Nat) (v : Option Value) (h : Heap) (L : List Loc) : Prop := v = some (.int (r5 pa)) ∧ Fr n0 L ∧ h = h0
set_option maxRecDepth 65536 in
set_option maxHeartbeats 40000000 in
theorem rm5 (l : Launch) (Z : State) (a0 : Array Value) (hw : ∀ d ∈ tables_1, d.before a0 Z = true) (ws : List Jvm.Cond) (pa : Int32) (pb : Int32) (pc : Int32) (h0 : Heap) (n0 : Nat) (Z0 : n0 ≤ h0.size) (hA : ¬ (((pc ||| pa) ||| pb) < (0 : Int32))) (hB : ¬ ((pc - pa) < pb)) :
    MetFree l (⟨"java/util/Objects", "checkFromIndexSize", "(III)I"⟩ : MethodName) (head1 (Jvm.Cond.code (⟨"java/util/Objects", "checkFromIndexSize", "(III)I"⟩ : MethodName) jdk_31_method_19_code 3 (some .int) :: ws) R5) (fun a U => a = #[(.int pa), (.int pb), (.int pc)] ∧ Z.Warmed39 U.vm ∧ U.heap = h0) (fun _ _ _ _ _ => True) (fun _ U o U' => ∃ v L, o = .returned v ∧ Q5 Z pa pb pc h0 n0 v U'.heap L ∧ FrameEnd U o U' L R5.cells R5.slots) := by
  refine MetFree.of_bodySF (plainFor_of_name pn_2) hisR ?_
  intro p e s m args below meth c s₁ Bd hml0 hP hK
  obtain ⟨rfl, hZ, hh⟩ := hP
  have hx := Bd.exec
  have hby := Bd.bytes
  have hml : c.maxLocals = 3 := hml0
  have hown : s.vm.findClass "java/util/Objects" = some m.cls := findClass_of_methodNamed Bd.named
  have hnm := (name_of_methodNamed Bd.named Bd.method).1
  have X0 : Stand p l e R5 s m #[(.int pa), (.int pb), (.int pc)] below meth c s₁ [] 0 0 := Stand.of_body Bd
  have e0 : s₁.heap = h0 := by rw [← hh, Bd.state]; rfl
  have N0 := Fr.nil n0
  have pre0 : ∀ t, Steps p.tables e below (s₁.setTop (mkF m 0 #[.val (.int pa), .val (.int pb), .val (.int pc)] [])) t → Steps p.tables e below (s₁.setTop (entryFrame m #[(.int pa), (.int pb), (.int pc)] 3)) t := fun t k => castTop (ef_5 m pa pb pc) k
  have pre1 : ∀ t, Steps p.tables e below (s₁.setTop (mkF m 4 #[.val (.int pa), .val (.int pb), .val (.int pc)] [.null, (.int pc), (.int pb), (.int pa)])) t → Steps p.tables e below (s₁.setTop (entryFrame m #[(.int pa), (.int pb), (.int pc)] 3)) t := fun t k => pre0 t (by
    refine XS.iloadN X0.here hx rfl (hb hby d5_0) rfl ?_
    show Steps p.tables e below (s₁.setTop (mkF m 1 #[.val (.int pa), .val (.int pb), .val (.int pc)] [(.int pa)])) _
    refine XS.iloadN X0.here hx rfl (hb hby d5_1) rfl ?_
    show Steps p.tables e below (s₁.setTop (mkF m 2 #[.val (.int pa), .val (.int pb), .val (.int pc)] [(.int pb), (.int pa)])) _
    refine XS.iloadN X0.here hx rfl (hb hby d5_2) rfl ?_
    show Steps p.tables e below (s₁.setTop (mkF m 3 #[.val (.int pa), .val (.int pb), .val (.int pc)] [(.int pc), (.int pb), (.int pa)])) _
    refine XS.aconstNull X0.here hx rfl (hb hby d5_3) ?_
    show Steps p.tables e below (s₁.setTop (mkF m 4 #[.val (.int pa), .val (.int pb), .val (.int pc)] [.null, (.int pc), (.int pb), (.int pa)])) _
    exact k)
  obtain ⟨_, _, ⟨T2, L2, k2, n2⟩, -, X2, ⟨Lc2, hQ2, l2, y2, z2⟩, st2⟩ := Jvm.LawKit.callS X0 hx (y := (⟨"jdk/internal/util/Preconditions", "checkFromIndexSize", "(IIILjava/util/function/BiFunction;)I"⟩ : MethodName)) hown (mvT hZ (hw _ (List.mem_of_getElem? (i := 25) rfl))) (mvT hZ (hw _ (List.mem_of_getElem? (i := 26) rfl))) (mvT hZ (hw _ (List.mem_of_getElem? (i := 27) rfl))) (mvT hZ (hw _ (List.mem_of_getElem? (i := 28) rfl))) (by decide) (backOf (W := 0) (rm6 l Z a0 hw [] pa pb pc h0 n0 Z0 hA hB) hZ (hw _ (List.mem_of_getElem? (i := 28) rfl)) (hw _ (List.mem_of_getElem? (i := 27) rfl)) (by decide) (by decide)) (g := (mkF m 4 #[.val (.int pa), .val (.int pb), .val (.int pc)] [.null, (.int pc), (.int pb), (.int pa)])) rfl (by rw [hml]; rfl) (argsL := [(.int pa), (.int pb), (.int pc), .null]) (rest := []) (lenOf pd_0 rfl) rfl (by show 2 * 0 + _ ≤ _; exact Nat.le_of_eq rfl) (hb hby d5_4) (fun _ _ => ⟨rfl, e0, (by decide : 0 + 0 ≤ _), (by decide : 0 + 0 ≤ _)⟩)
  dsimp only [Pt.U, Pt.locs, Pt.cells, Pt.slots] at X2 l2 y2 z2 st2 hQ2
  subst l2 y2 z2
  obtain ⟨rfl, M2, e2⟩ := hQ2
  have N2 := Fr.app N0 M2
  have pre2 : ∀ t, Steps p.tables e below (T2.setTop (mkF m 7 #[.val (.int pa), .val (.int pb), .val (.int pc)] [(.int (r6 pa))])) t → Steps p.tables e below (s₁.setTop (entryFrame m #[(.int pa), (.int pb), (.int pc)] 3)) t := fun t k => pre1 t (st2 t k)
  obtain ⟨fs, hr, hrun, hended, hW, hsame⟩ := X2.leave (v := some (.int (r6 pa))) (fun h => by rw [Bd.returns] at h; cases h)
  refine ⟨_, _, pre2 _ ?_, hrun, hended, _, _, rfl, ?_, ⟨_, rfl⟩, hW, hsame.mono (by decide) (by decide)⟩
  · show Steps p.tables e below (T2.setTop (mkF m 7 #[.val (.int pa), .val (.int pb), .val (.int pc)] [(.int (r6 pa))])) _
    exact retI X2 hx Bd.returns (hb hby d5_7) hr
  · show Q5 Z pa pb pc h0 n0 _ T2.heap _
    rw [e2]
    exact ⟨rfl, N2, rfl⟩
theorem d1_0 : decode jdk_29_method_65_code 0 = .ok (.iload_n 0, 1) := by decide +kernel
theorem d1_1 : decode jdk_29_method_65_code 1 = .ok (.iload_n 1, 1) := by decide +kernel
theorem d1_2 : decode jdk_29_method_65_code 2 = .ok (.if_icmp .lt 7, 3) := by decide +kernel
theorem d1_5 : decode jdk_29_method_65_code 5 = .ok (.iload_n 0, 1) := by decide +kernel
theorem d1_6 : decode jdk_29_method_65_code 6 = .ok (.goto 4, 3) := by decide +kernel
theorem d1_9 : decode jdk_29_method_65_code 9 = .ok (.iload_n 1, 1) := by decide +kernel
theorem d1_10 : decode jdk_29_method_65_code 10 = .ok (.ireturn, 1) := by decide +kernel
theorem ef_1 (m : MethodId) (x0 : Int32) (x1 : Int32) : entryFrame m #[(.int x0), (.int x1)] 2 = mkF m 0 #[.val (.int x0), .val (.int x1)] [] := by first | (simp [entryFrame, mkF, argsToLocals, Value.category]; done) | rfl
abbrev R1 : Room := { frames := 0, cells := 0, slots := 0, locals := 0 }
def r1 (p1_0 : Int32) (p1_1 : Int32) : Int32 := (if p1_0 < p1_1 then p1_1 else p1_0)
def Q1 (Z : State) (p1_0 : Int32) (p1_1 : Int32) (h0 : Heap) (n0 : Nat) (v : Option Value) (h : Heap) (L : List Loc) : Prop := v = some (.int (r1 p1_0 p1_1)) ∧ Fr n0 L ∧ h = h0
set_option maxRecDepth 65536 in
set_option maxHeartbeats 40000000 in
theorem rm1 (l : Launch) (Z : State) (a0 : Array Value) (hw : ∀ d ∈ tables_1, d.before a0 Z = true) (ws : List Jvm.Cond) (p1_0 : Int32) (p1_1 : Int32) (h0 : Heap) (n0 : Nat) (Z0 : n0 ≤ h0.size) :
    MetFree l (⟨"java/lang/Math", "max", "(II)I"⟩ : MethodName) (head1 (Jvm.Cond.code (⟨"java/lang/Math", "max", "(II)I"⟩ : MethodName) jdk_29_method_65_code 2 (some .int) :: ws) R1) (fun a U => a = #[(.int p1_0), (.int p1_1)] ∧ Z.Warmed39 U.vm ∧ U.heap = h0) (fun _ _ _ _ _ => True) (fun _ U o U' => ∃ v L, o = .returned v ∧ Q1 Z p1_0 p1_1 h0 n0 v U'.heap L ∧ FrameEnd U o U' L R1.cells R1.slots) := by
  refine MetFree.of_bodySF (Jvm.Free.JP.mathPlain rfl (by decide +kernel)) hisR ?_
  intro p e s m args below meth c s₁ Bd hml0 hP hK
  obtain ⟨rfl, hZ, hh⟩ := hP
  have hx := Bd.exec
  have hby := Bd.bytes
  have hml : c.maxLocals = 2 := hml0
  have hown : s.vm.findClass "java/lang/Math" = some m.cls := findClass_of_methodNamed Bd.named
  have hnm := (name_of_methodNamed Bd.named Bd.method).1
  have X0 : Stand p l e R1 s m #[(.int p1_0), (.int p1_1)] below meth c s₁ [] 0 0 := Stand.of_body Bd
  have e0 : s₁.heap = h0 := by rw [← hh, Bd.state]; rfl
  have N0 := Fr.nil n0
  have pre0 : ∀ t, Steps p.tables e below (s₁.setTop (mkF m 0 #[.val (.int p1_0), .val (.int p1_1)] [])) t → Steps p.tables e below (s₁.setTop (entryFrame m #[(.int p1_0), (.int p1_1)] 2)) t := fun t k => castTop (ef_1 m p1_0 p1_1) k
  have pre1 : ∀ t, Steps p.tables e below (s₁.setTop (mkF m 2 #[.val (.int p1_0), .val (.int p1_1)] [(.int p1_1), (.int p1_0)])) t → Steps p.tables e below (s₁.setTop (entryFrame m #[(.int p1_0), (.int p1_1)] 2)) t := fun t k => pre0 t (by
    refine XS.iloadN X0.here hx rfl (hb hby d1_0) rfl ?_
    show Steps p.tables e below (s₁.setTop (mkF m 1 #[.val (.int p1_0), .val (.int p1_1)] [(.int p1_0)])) _
    refine XS.iloadN X0.here hx rfl (hb hby d1_1) rfl ?_
    show Steps p.tables e below (s₁.setTop (mkF m 2 #[.val (.int p1_0), .val (.int p1_1)] [(.int p1_1), (.int p1_0)])) _
    exact k)
  by_cases hc2_2 : p1_0 < p1_1
  · have pre3 : ∀ t, Steps p.tables e below (s₁.setTop (mkF m 10 #[.val (.int p1_0), .val (.int p1_1)] [(.int p1_1)])) t → Steps p.tables e below (s₁.setTop (entryFrame m #[(.int p1_0), (.int p1_1)] 2)) t := fun t k => pre1 t (by
      refine XS.icmpYes X0.here hx rfl (pc0 := 2) (pc' := 9) rfl (hb hby d1_2) rfl (tlt hc2_2).1 (by decide) (by decide) ?_
      show Steps p.tables e below (s₁.setTop (mkF m 9 #[.val (.int p1_0), .val (.int p1_1)] [])) _
      refine XS.iloadN X0.here hx rfl (hb hby d1_9) rfl ?_
      show Steps p.tables e below (s₁.setTop (mkF m 10 #[.val (.int p1_0), .val (.int p1_1)] [(.int p1_1)])) _
      exact k)
    have hret : (r1 p1_0 p1_1) = p1_1 := by unfold r1; rw [if_pos hc2_2]
    obtain ⟨fs, hr, hrun, hended, hW, hsame⟩ := X0.leave (v := some (.int p1_1)) (fun h => by rw [Bd.returns] at h; cases h)
    refine ⟨_, _, pre3 _ ?_, hrun, hended, _, _, rfl, ?_, ⟨_, rfl⟩, hW, hsame.mono (by decide) (by decide)⟩
    · show Steps p.tables e below (s₁.setTop (mkF m 10 #[.val (.int p1_0), .val (.int p1_1)] [(.int p1_1)])) _
      exact retI X0 hx Bd.returns (hb hby d1_10) hr
    · show Q1 Z p1_0 p1_1 h0 n0 _ s₁.heap _
      rw [e0]
      exact ⟨(by rw [hret]), N0, rfl⟩
  · have pre4 : ∀ t, Steps p.tables e below (s₁.setTop (mkF m 10 #[.val (.int p1_0), .val (.int p1_1)] [(.int p1_0)])) t → Steps p.tables e below (s₁.setTop (entryFrame m #[(.int p1_0), (.int p1_1)] 2)) t := fun t k => pre1 t (by
      refine XS.icmpNo X0.here hx rfl (hb hby d1_2) rfl (flt hc2_2).1 ?_
      show Steps p.tables e below (s₁.setTop (mkF m 5 #[.val (.int p1_0), .val (.int p1_1)] [])) _
      refine XS.iloadN X0.here hx rfl (hb hby d1_5) rfl ?_
      show Steps p.tables e below (s₁.setTop (mkF m 6 #[.val (.int p1_0), .val (.int p1_1)] [(.int p1_0)])) _
      refine XS.goto X0.here hx rfl (pc0 := 6) (pc' := 10) rfl (hb hby d1_6) (by decide) (by decide) ?_
      show Steps p.tables e below (s₁.setTop (mkF m 10 #[.val (.int p1_0), .val (.int p1_1)] [(.int p1_0)])) _
      exact k)
    have hret : (r1 p1_0 p1_1) = p1_0 := by unfold r1; rw [if_neg hc2_2]
    obtain ⟨fs, hr, hrun, hended, hW, hsame⟩ := X0.leave (v := some (.int p1_0)) (fun h => by rw [Bd.returns] at h; cases h)
    refine ⟨_, _, pre4 _ ?_, hrun, hended, _, _, rfl, ?_, ⟨_, rfl⟩, hW, hsame.mono (by decide) (by decide)⟩
    · show Steps p.tables e below (s₁.setTop (mkF m 10 #[.val (.int p1_0), .val (.int p1_1)] [(.int p1_0)])) _
      exact retI X0 hx Bd.returns (hb hby d1_10) hr
    · show Q1 Z p1_0 p1_1 h0 n0 _ s₁.heap _
      rw [e0]
      exact ⟨(by rw [hret]), N0, rfl⟩
theorem d8_0 : decode jdk_29_method_66_code 0 = .ok (.lload_n 0, 1) := by decide +kernel
theorem d8_1 : decode jdk_29_method_66_code 1 = .ok (.lload_n 2, 1) := by decide +kernel
theorem d8_2 : decode jdk_29_method_66_code 2 = .ok (.lcmp, 1) := by decide +kernel
theorem d8_3 : decode jdk_29_method_66_code 3 = .ok (.ifCond .lt 7, 3) := by decide +kernel
theorem d8_6 : decode jdk_29_method_66_code 6 = .ok (.lload_n 0, 1) := by decide +kernel
theorem d8_7 : decode jdk_29_method_66_code 7 = .ok (.goto 4, 3) := by decide +kernel
theorem d8_10 : decode jdk_29_method_66_code 10 = .ok (.lload_n 2, 1) := by decide +kernel
theorem d8_11 : decode jdk_29_method_66_code 11 = .ok (.lreturn, 1) := by decide +kernel
theorem ef_8 (m : MethodId) (x0 : Int64) (x1 : Int64) : entryFrame m #[(.long x0), (.long x1)] 4 = mkF m 0 #[.val (.long x0), .second, .val (.long x1), .second] [] := by first | (simp [entryFrame, mkF, argsToLocals, Value.category]; done) | rfl
abbrev R8 : Room := { frames := 0, cells := 0, slots := 0, locals := 0 }
def r8 (p8_0 : Int64) (p8_1 : Int64) : Int64 := (if p8_0 < p8_1 then p8_1 else p8_0)
def Q8 (Z : State) (p8_0 : Int64) (p8_1 : Int64) (h0 : Heap) (n0 : Nat) (v : Option Value) (h : Heap) (L : List Loc) : Prop := v = some (.long (r8 p8_0 p8_1)) ∧ Fr n0 L ∧ h = h0
set_option maxRecDepth 65536 in
set_option maxHeartbeats 40000000 in
theorem rm8 (l : Launch) (Z : State) (a0 : Array Value) (hw : ∀ d ∈ tables_1, d.before a0 Z = true) (ws : List Jvm.Cond) (p8_0 : Int64) (p8_1 : Int64) (h0 : Heap) (n0 : Nat) (Z0 : n0 ≤ h0.size) :
    MetFree l (⟨"java/lang/Math", "max", "(JJ)J"⟩ : MethodName) (head1 (Jvm.Cond.code (⟨"java/lang/Math", "max", "(JJ)J"⟩ : MethodName) jdk_29_method_66_code 4 (some .long) :: ws) R8) (fun a U => a = #[(.long p8_0), (.long p8_1)] ∧ Z.Warmed39 U.vm ∧ U.heap = h0) (fun _ _ _ _ _ => True) (fun _ U o U' => ∃ v L, o = .returned v ∧ Q8 Z p8_0 p8_1 h0 n0 v U'.heap L ∧ FrameEnd U o U' L R8.cells R8.slots) := by
  refine MetFree.of_bodySF (Jvm.Free.JP.mathPlain rfl (by decide +kernel)) hisR ?_
  intro p e s m args below meth c s₁ Bd hml0 hP hK
  obtain ⟨rfl, hZ, hh⟩ := hP
  have hx := Bd.exec
  have hby := Bd.bytes
  have hml : c.maxLocals = 4 := hml0
  have hown : s.vm.findClass "java/lang/Math" = some m.cls := findClass_of_methodNamed Bd.named
  have hnm := (name_of_methodNamed Bd.named Bd.method).1
  have X0 : Stand p l e R8 s m #[(.long p8_0), (.long p8_1)] below meth c s₁ [] 0 0 := Stand.of_body Bd
  have e0 : s₁.heap = h0 := by rw [← hh, Bd.state]; rfl
  have N0 := Fr.nil n0
  have pre0 : ∀ t, Steps p.tables e below (s₁.setTop (mkF m 0 #[.val (.long p8_0), .second, .val (.long p8_1), .second] [])) t → Steps p.tables e below (s₁.setTop (entryFrame m #[(.long p8_0), (.long p8_1)] 4)) t := fun t k => castTop (ef_8 m p8_0 p8_1) k
  have pre1 : ∀ t, Steps p.tables e below (s₁.setTop (mkF m 3 #[.val (.long p8_0), .second, .val (.long p8_1), .second] [(.int (lcmpW p8_0 p8_1))])) t → Steps p.tables e below (s₁.setTop (entryFrame m #[(.long p8_0), (.long p8_1)] 4)) t := fun t k => pre0 t (by
    refine XS.lloadN X0.here hx rfl (hb hby d8_0) rfl ?_
    show Steps p.tables e below (s₁.setTop (mkF m 1 #[.val (.long p8_0), .second, .val (.long p8_1), .second] [(.long p8_0)])) _
    refine XS.lloadN X0.here hx rfl (hb hby d8_1) rfl ?_
    show Steps p.tables e below (s₁.setTop (mkF m 2 #[.val (.long p8_0), .second, .val (.long p8_1), .second] [(.long p8_1), (.long p8_0)])) _
    refine XS.lcmp X0.here hx rfl (hb hby d8_2) rfl ?_
    show Steps p.tables e below (s₁.setTop (mkF m 3 #[.val (.long p8_0), .second, .val (.long p8_1), .second] [(.int (lcmpW p8_0 p8_1))])) _
    exact k)
  by_cases hc3_2 : p8_0 < p8_1
  · have pre3 : ∀ t, Steps p.tables e below (s₁.setTop (mkF m 11 #[.val (.long p8_0), .second, .val (.long p8_1), .second] [(.long p8_1)])) t → Steps p.tables e below (s₁.setTop (entryFrame m #[(.long p8_0), (.long p8_1)] 4)) t := fun t k => pre1 t (by
      refine XS.ifYes X0.here hx rfl (pc0 := 3) (pc' := 10) rfl (hb hby d8_3) rfl ((if0 _ _).trans (tlt ((lw_lt p8_0 p8_1).mpr hc3_2)).1) (by decide) (by decide) ?_
      show Steps p.tables e below (s₁.setTop (mkF m 10 #[.val (.long p8_0), .second, .val (.long p8_1), .second] [])) _
      refine XS.lloadN X0.here hx rfl (hb hby d8_10) rfl ?_
      show Steps p.tables e below (s₁.setTop (mkF m 11 #[.val (.long p8_0), .second, .val (.long p8_1), .second] [(.long p8_1)])) _
      exact k)
    have hret : (r8 p8_0 p8_1) = p8_1 := by unfold r8; rw [if_pos hc3_2]
    obtain ⟨fs, hr, hrun, hended, hW, hsame⟩ := X0.leave (v := some (.long p8_1)) (fun h => by rw [Bd.returns] at h; cases h)
    refine ⟨_, _, pre3 _ ?_, hrun, hended, _, _, rfl, ?_, ⟨_, rfl⟩, hW, hsame.mono (by decide) (by decide)⟩
    · show Steps p.tables e below (s₁.setTop (mkF m 11 #[.val (.long p8_0), .second, .val (.long p8_1), .second] [(.long p8_1)])) _
      exact own_retJ X0 hx Bd.returns (hb hby d8_11) hr
    · show Q8 Z p8_0 p8_1 h0 n0 _ s₁.heap _
      rw [e0]
      exact ⟨(by rw [hret]), N0, rfl⟩
  · have pre4 : ∀ t, Steps p.tables e below (s₁.setTop (mkF m 11 #[.val (.long p8_0), .second, .val (.long p8_1), .second] [(.long p8_0)])) t → Steps p.tables e below (s₁.setTop (entryFrame m #[(.long p8_0), (.long p8_1)] 4)) t := fun t k => pre1 t (by
      refine XS.ifNo X0.here hx rfl (hb hby d8_3) rfl ((if0 _ _).trans (flt (fun q => hc3_2 ((lw_lt p8_0 p8_1).mp q))).1) ?_
      show Steps p.tables e below (s₁.setTop (mkF m 6 #[.val (.long p8_0), .second, .val (.long p8_1), .second] [])) _
      refine XS.lloadN X0.here hx rfl (hb hby d8_6) rfl ?_
      show Steps p.tables e below (s₁.setTop (mkF m 7 #[.val (.long p8_0), .second, .val (.long p8_1), .second] [(.long p8_0)])) _
      refine XS.goto X0.here hx rfl (pc0 := 7) (pc' := 11) rfl (hb hby d8_7) (by decide) (by decide) ?_
      show Steps p.tables e below (s₁.setTop (mkF m 11 #[.val (.long p8_0), .second, .val (.long p8_1), .second] [(.long p8_0)])) _
      exact k)
    have hret : (r8 p8_0 p8_1) = p8_0 := by unfold r8; rw [if_neg hc3_2]
    obtain ⟨fs, hr, hrun, hended, hW, hsame⟩ := X0.leave (v := some (.long p8_0)) (fun h => by rw [Bd.returns] at h; cases h)
    refine ⟨_, _, pre4 _ ?_, hrun, hended, _, _, rfl, ?_, ⟨_, rfl⟩, hW, hsame.mono (by decide) (by decide)⟩
    · show Steps p.tables e below (s₁.setTop (mkF m 11 #[.val (.long p8_0), .second, .val (.long p8_1), .second] [(.long p8_0)])) _
      exact own_retJ X0 hx Bd.returns (hb hby d8_11) hr
    · show Q8 Z p8_0 p8_1 h0 n0 _ s₁.heap _
      rw [e0]
      exact ⟨(by rw [hret]), N0, rfl⟩
theorem pn_3 : plainName "com/example/rowforge/rowforge/core/Notice$RangeRemoved" = true := by first | (simp [plainName, overriddenIn]; done) | decide +kernel
theorem pd_1 : parseMethodDescriptor "()V" = some ⟨[], none⟩ := by decide +kernel
theorem pd_2 : parseMethodDescriptor "(III)I" = some ⟨[.int, .int, .int], some .int⟩ := by decide +kernel
theorem d2_0 : decode prog_42_method_1_code 0 = .ok (.aload_n 0, 1) := by decide +kernel
theorem d2_1 : decode prog_42_method_1_code 1 = .ok (.invokespecial 1, 3) := by decide +kernel
theorem d2_4 : decode prog_42_method_1_code 4 = .ok (.iload_n 1, 1) := by decide +kernel
theorem d2_5 : decode prog_42_method_1_code 5 = .ok (.iload_n 2, 1) := by decide +kernel
theorem d2_6 : decode prog_42_method_1_code 6 = .ok (.ldc 9, 2) := by decide +kernel
theorem d2_8 : decode prog_42_method_1_code 8 = .ok (.invokestatic 10, 3) := by decide +kernel
theorem d2_11 : decode prog_42_method_1_code 11 = .ok (.pop, 1) := by decide +kernel
theorem d2_12 : decode prog_42_method_1_code 12 = .ok (.aload_n 0, 1) := by decide +kernel
theorem d2_13 : decode prog_42_method_1_code 13 = .ok (.iload_n 1, 1) := by decide +kernel
theorem d2_14 : decode prog_42_method_1_code 14 = .ok (.putfield 16, 3) := by decide +kernel
theorem d2_17 : decode prog_42_method_1_code 17 = .ok (.aload_n 0, 1) := by decide +kernel
theorem d2_18 : decode prog_42_method_1_code 18 = .ok (.iload_n 2, 1) := by decide +kernel
theorem d2_19 : decode prog_42_method_1_code 19 = .ok (.putfield 22, 3) := by decide +kernel
theorem d2_22 : decode prog_42_method_1_code 22 = .ok (.return_, 1) := by decide +kernel
theorem ef_2 (m : MethodId) (x0 : Addr) (x1 : Int32) (x2 : Int32) : entryFrame m #[(.ref x0), (.int x1), (.int x2)] 3 = mkF m 0 #[.val (.ref x0), .val (.int x1), .val (.int x2)] [] := by first | (simp [entryFrame, mkF, argsToLocals, Value.category]; done) | rfl
abbrev R2 : Room := { frames := 2, cells := 0, slots := 0, locals := 29 }
def Q2 (Z : State) (a0x : Addr) (pf : Int32) (pc : Int32) (w2_start : Int32) (w2_count : Int32) (h0 : Heap) (n0 : Nat) (v : Option Value) (h : Heap) (L : List Loc) : Prop := v = none ∧ Fr n0 L ∧ Keep h0 h [a0x] ∧ Fld Z h a0x "com/example/rowforge/rowforge/core/Notice$RangeRemoved" "start" "I" (.int pf) ∧ Fld Z h a0x "com/example/rowforge/rowforge/core/Notice$RangeRemoved" "count" "I" (.int pc)
set_option maxRecDepth 65536 in
set_option maxHeartbeats 40000000 in
theorem rm2 (l : Launch) (Z : State) (a0 : Array Value) (hw : ∀ d ∈ tables_1, d.before a0 Z = true) (ws : List Jvm.Cond) (a0x : Addr) (pf : Int32) (pc : Int32) (w2_start : Int32) (w2_count : Int32) (h0 : Heap) (n0 : Nat) (Z0 : n0 ≤ h0.size) (hA1 : ¬ ((((2147483647 : Int32) ||| pf) ||| pc) < (0 : Int32))) (hB1 : ¬ (((2147483647 : Int32) - pf) < pc)) (E_a0x : Exa Z h0 a0x "com/example/rowforge/rowforge/core/Notice$RangeRemoved") (F_start_a0x : Fld Z h0 a0x "com/example/rowforge/rowforge/core/Notice$RangeRemoved" "start" "I" (.int w2_start)) (F_count_a0x : Fld Z h0 a0x "com/example/rowforge/rowforge/core/Notice$RangeRemoved" "count" "I" (.int w2_count)) (g_a0x : n0 ≤ a0x) :
    MetFree l (⟨"com/example/rowforge/rowforge/core/Notice$RangeRemoved", "<init>", "(II)V"⟩ : MethodName) (head1 (Jvm.Cond.code (⟨"com/example/rowforge/rowforge/core/Notice$RangeRemoved", "<init>", "(II)V"⟩ : MethodName) prog_42_method_1_code 3 none :: ws) R2) (fun a U => a = #[(.ref a0x), (.int pf), (.int pc)] ∧ Z.Warmed39 U.vm ∧ U.heap = h0) (fun _ _ _ _ _ => True) (fun _ U o U' => ∃ v L, o = .returned v ∧ Q2 Z a0x pf pc w2_start w2_count h0 n0 v U'.heap L ∧ FrameEnd U o U' L R2.cells R2.slots) := by
  refine MetFree.of_bodySF (plainFor_of_name pn_3) hisR ?_
  intro p e s m args below meth c s₁ Bd hml0 hP hK
  obtain ⟨rfl, hZ, hh⟩ := hP
  have hx := Bd.exec
  have hby := Bd.bytes
  have hml : c.maxLocals = 3 := hml0
  have hown : s.vm.findClass "com/example/rowforge/rowforge/core/Notice$RangeRemoved" = some m.cls := findClass_of_methodNamed Bd.named
  have hnm := (name_of_methodNamed Bd.named Bd.method).1
  have X0 : Stand p l e R2 s m #[(.ref a0x), (.int pf), (.int pc)] below meth c s₁ [] 0 0 := Stand.of_body Bd
  have e0 : s₁.heap = h0 := by rw [← hh, Bd.state]; rfl
  have N0 := Fr.nil n0
  have pre0 : ∀ t, Steps p.tables e below (s₁.setTop (mkF m 0 #[.val (.ref a0x), .val (.int pf), .val (.int pc)] [])) t → Steps p.tables e below (s₁.setTop (entryFrame m #[(.ref a0x), (.int pf), (.int pc)] 3)) t := fun t k => castTop (ef_2 m a0x pf pc) k
  have pre1 : ∀ t, Steps p.tables e below (s₁.setTop (mkF m 1 #[.val (.ref a0x), .val (.int pf), .val (.int pc)] [(.ref a0x)])) t → Steps p.tables e below (s₁.setTop (entryFrame m #[(.ref a0x), (.int pf), (.int pc)] 3)) t := fun t k => pre0 t (by
    refine XS.aloadN X0.here hx rfl (hb hby d2_0) rfl rfl ?_
    show Steps p.tables e below (s₁.setTop (mkF m 1 #[.val (.ref a0x), .val (.int pf), .val (.int pc)] [(.ref a0x)])) _
    exact k)
  obtain ⟨_, _, ⟨T2, L2, k2, n2⟩, -, X2, ⟨Lc2, hQ2, l2, y2, z2⟩, st2⟩ := X0.specialBack hx (y := (⟨"java/lang/Record", "<init>", "()V"⟩ : MethodName)) rfl hown (mvT hZ (hw _ (List.mem_of_getElem? (i := 12) rfl))) (mvT hZ (hw _ (List.mem_of_getElem? (i := 13) rfl))) (mvT hZ (hw _ (List.mem_of_getElem? (i := 16) rfl))) (by decide) (backOf (W := 0) (rm3 l Z a0 hw [] a0x h0 n0 Z0 ) hZ (hw _ (List.mem_of_getElem? (i := 16) rfl)) (hw _ (List.mem_of_getElem? (i := 15) rfl)) (by decide) (by decide)) (g := (mkF m 1 #[.val (.ref a0x), .val (.int pf), .val (.int pc)] [(.ref a0x)])) rfl (by rw [hml]; rfl) (Steps.refl _) (a := a0x) (argsL := []) (rest := []) (lenOf pd_1 rfl) rfl (by show 2 * 0 + _ ≤ _; exact Nat.le_of_eq rfl) (hb hby d2_1) (fun _ _ => ⟨rfl, e0, (by decide : 0 + 0 ≤ _), (by decide : 0 + 0 ≤ _)⟩)
  dsimp only [Pt.U, Pt.locs, Pt.cells, Pt.slots] at X2 l2 y2 z2 st2 hQ2
  subst l2 y2 z2
  obtain ⟨rfl, M2, e2⟩ := hQ2
  have N2 := Fr.app N0 M2
  have pre2 : ∀ t, Steps p.tables e below (T2.setTop (mkF m 4 #[.val (.ref a0x), .val (.int pf), .val (.int pc)] [])) t → Steps p.tables e below (s₁.setTop (entryFrame m #[(.ref a0x), (.int pf), (.int pc)] 3)) t := fun t k => pre1 t (st2.trans k)
  have pre3 : ∀ t, Steps p.tables e below (T2.setTop (mkF m 8 #[.val (.ref a0x), .val (.int pf), .val (.int pc)] [(.int (2147483647 : Int32)), (.int pc), (.int pf)])) t → Steps p.tables e below (s₁.setTop (entryFrame m #[(.ref a0x), (.int pf), (.int pc)] 3)) t := fun t k => pre2 t (by
    refine XS.iloadN X2.here hx rfl (hb hby d2_4) rfl ?_
    show Steps p.tables e below (T2.setTop (mkF m 5 #[.val (.ref a0x), .val (.int pf), .val (.int pc)] [(.int pf)])) _
    refine XS.iloadN X2.here hx rfl (hb hby d2_5) rfl ?_
    show Steps p.tables e below (T2.setTop (mkF m 6 #[.val (.ref a0x), .val (.int pf), .val (.int pc)] [(.int pc), (.int pf)])) _
    refine X2.ldcInt hx hown (mvT hZ (hw _ (List.mem_of_getElem? (i := 20) rfl))) (g := (mkF m 6 #[.val (.ref a0x), .val (.int pf), .val (.int pc)] [(.int pc), (.int pf)])) rfl (hb hby d2_6) _ ?_
    show Steps p.tables e below (T2.setTop (mkF m 8 #[.val (.ref a0x), .val (.int pf), .val (.int pc)] [(.int (2147483647 : Int32)), (.int pc), (.int pf)])) _
    exact k)
  obtain ⟨_, _, ⟨T4, L4, k4, n4⟩, -, X4, ⟨Lc4, hQ4, l4, y4, z4⟩, st4⟩ := Jvm.LawKit.callS X2 hx (y := (⟨"java/util/Objects", "checkFromIndexSize", "(III)I"⟩ : MethodName)) hown (mvT hZ (hw _ (List.mem_of_getElem? (i := 21) rfl))) (mvT hZ (hw _ (List.mem_of_getElem? (i := 22) rfl))) (mvT hZ (hw _ (List.mem_of_getElem? (i := 23) rfl))) (mvT hZ (hw _ (List.mem_of_getElem? (i := 24) rfl))) (by decide) (backOf (W := 0) (rm5 l Z a0 hw [] pf pc (2147483647 : Int32) h0 n0 Z0 hA1 hB1) hZ (hw _ (List.mem_of_getElem? (i := 24) rfl)) (hw _ (List.mem_of_getElem? (i := 23) rfl)) (by decide) (by decide)) (g := (mkF m 8 #[.val (.ref a0x), .val (.int pf), .val (.int pc)] [(.int (2147483647 : Int32)), (.int pc), (.int pf)])) rfl (by rw [hml]; rfl) (argsL := [(.int pf), (.int pc), (.int (2147483647 : Int32))]) (rest := []) (lenOf pd_2 rfl) rfl (by show 2 * 0 + _ ≤ _; exact Nat.le_of_eq rfl) (hb hby d2_8) (fun _ _ => ⟨rfl, e2, (by decide : 0 + 0 ≤ _), (by decide : 0 + 0 ≤ _)⟩)
  dsimp only [Pt.U, Pt.locs, Pt.cells, Pt.slots] at X4 l4 y4 z4 st4 hQ4
  subst l4 y4 z4
  obtain ⟨rfl, M4, e4⟩ := hQ4
  have N4 := Fr.app N2 M4
  have pre4 : ∀ t, Steps p.tables e below (T4.setTop (mkF m 11 #[.val (.ref a0x), .val (.int pf), .val (.int pc)] [(.int (r5 pf))])) t → Steps p.tables e below (s₁.setTop (entryFrame m #[(.ref a0x), (.int pf), (.int pc)] 3)) t := fun t k => pre3 t (st4 t k)
  have pre5 : ∀ t, Steps p.tables e below (T4.setTop (mkF m 14 #[.val (.ref a0x), .val (.int pf), .val (.int pc)] [(.int pf), (.ref a0x)])) t → Steps p.tables e below (s₁.setTop (entryFrame m #[(.ref a0x), (.int pf), (.int pc)] 3)) t := fun t k => pre4 t (by
    refine XS.pop X4.here hx rfl (hb hby d2_11) rfl rfl ?_
    show Steps p.tables e below (T4.setTop (mkF m 12 #[.val (.ref a0x), .val (.int pf), .val (.int pc)] [])) _
    refine XS.aloadN X4.here hx rfl (hb hby d2_12) rfl rfl ?_
    show Steps p.tables e below (T4.setTop (mkF m 13 #[.val (.ref a0x), .val (.int pf), .val (.int pc)] [(.ref a0x)])) _
    refine XS.iloadN X4.here hx rfl (hb hby d2_13) rfl ?_
    show Steps p.tables e below (T4.setTop (mkF m 14 #[.val (.ref a0x), .val (.int pf), .val (.int pc)] [(.int pf), (.ref a0x)])) _
    exact k)
  obtain ⟨T6, h6, X6, e6, W6, st6⟩ := putF X4 hx hZ hown (host := "") (Or.inl (hw _ (List.mem_of_getElem? (i := 29) rfl))) Via.refl e4 F_start_a0x E_a0x (Or.inr ⟨(hw _ (List.mem_of_getElem? (i := 30) rfl)), rfl, hnm⟩) (hw _ (List.mem_of_getElem? (i := 7) rfl)) (ty := .int) (by decide) rfl rfl (g := (mkF m 14 #[.val (.ref a0x), .val (.int pf), .val (.int pc)] [(.int pf), (.ref a0x)])) rfl rfl (hb hby d2_14)
  have Ex7 : Exa Z h6 a0x "com/example/rowforge/rowforge/core/Notice$RangeRemoved" := E_a0x.wr W6
  have F8 : Fld Z h6 a0x "com/example/rowforge/rowforge/core/Notice$RangeRemoved" "count" "I" (.int w2_count) := F_count_a0x.other W6 (Or.inr (slot_ne (Or.inr (hw _ (List.mem_of_getElem? (i := 32) rfl))) (Or.inr (hw _ (List.mem_of_getElem? (i := 30) rfl))) (by decide) (t := .int) (t' := .int) (by decide) (by decide)))
  have N6 := Fr.snoc X6 N4 g_a0x
  have Z6 : n0 ≤ h6.size := Nat.le_trans Z0 (Keep.of_wr W6).1
  have K6 : Keep h0 h6 [a0x] := (Keep.refl h0 [a0x]).wr W6 (Or.inl (by simp))
  have F9 : Fld Z h6 a0x "com/example/rowforge/rowforge/core/Notice$RangeRemoved" "start" "I" (.int pf) := F_start_a0x.same W6
  have pre6 : ∀ t, Steps p.tables e below (T6.setTop (mkF m 17 #[.val (.ref a0x), .val (.int pf), .val (.int pc)] [])) t → Steps p.tables e below (s₁.setTop (entryFrame m #[(.ref a0x), (.int pf), (.int pc)] 3)) t := fun t k => pre5 t (st6 t k)
  have pre10 : ∀ t, Steps p.tables e below (T6.setTop (mkF m 19 #[.val (.ref a0x), .val (.int pf), .val (.int pc)] [(.int pc), (.ref a0x)])) t → Steps p.tables e below (s₁.setTop (entryFrame m #[(.ref a0x), (.int pf), (.int pc)] 3)) t := fun t k => pre6 t (by
    refine XS.aloadN X6.here hx rfl (hb hby d2_17) rfl rfl ?_
    show Steps p.tables e below (T6.setTop (mkF m 18 #[.val (.ref a0x), .val (.int pf), .val (.int pc)] [(.ref a0x)])) _
    refine XS.iloadN X6.here hx rfl (hb hby d2_18) rfl ?_
    show Steps p.tables e below (T6.setTop (mkF m 19 #[.val (.ref a0x), .val (.int pf), .val (.int pc)] [(.int pc), (.ref a0x)])) _
    exact k)
  obtain ⟨T11, h11, X11, e11, W11, st11⟩ := putF X6 hx hZ hown (host := "") (Or.inl (hw _ (List.mem_of_getElem? (i := 31) rfl))) Via.refl e6 F8 Ex7 (Or.inr ⟨(hw _ (List.mem_of_getElem? (i := 32) rfl)), rfl, hnm⟩) (hw _ (List.mem_of_getElem? (i := 7) rfl)) (ty := .int) (by decide) rfl rfl (g := (mkF m 19 #[.val (.ref a0x), .val (.int pf), .val (.int pc)] [(.int pc), (.ref a0x)])) rfl rfl (hb hby d2_19)
  have Ex12 : Exa Z h11 a0x "com/example/rowforge/rowforge/core/Notice$RangeRemoved" := Ex7.wr W11
  have F13 : Fld Z h11 a0x "com/example/rowforge/rowforge/core/Notice$RangeRemoved" "start" "I" (.int pf) := F9.other W11 (Or.inr (slot_ne (Or.inr (hw _ (List.mem_of_getElem? (i := 30) rfl))) (Or.inr (hw _ (List.mem_of_getElem? (i := 32) rfl))) (by decide) (t := .int) (t' := .int) (by decide) (by decide)))
  have N11 := Fr.snoc X11 N6 g_a0x
  have Z11 : n0 ≤ h11.size := Nat.le_trans Z6 (Keep.of_wr W11).1
  have K11 : Keep h0 h11 [a0x] := (K6).wr W11 (Or.inl (by simp))
  have F14 : Fld Z h11 a0x "com/example/rowforge/rowforge/core/Notice$RangeRemoved" "count" "I" (.int pc) := F8.same W11
  have pre11 : ∀ t, Steps p.tables e below (T11.setTop (mkF m 22 #[.val (.ref a0x), .val (.int pf), .val (.int pc)] [])) t → Steps p.tables e below (s₁.setTop (entryFrame m #[(.ref a0x), (.int pf), (.int pc)] 3)) t := fun t k => pre10 t (st11 t k)
  obtain ⟨fs, hr, hrun, hended, hW, hsame⟩ := X11.leave (v := none) (fun _ => rfl)
  refine ⟨_, _, pre11 _ ?_, hrun, hended, _, _, rfl, ?_, ⟨_, rfl⟩, hW, hsame.mono (by decide) (by decide)⟩
  · show Steps p.tables e below (T11.setTop (mkF m 22 #[.val (.ref a0x), .val (.int pf), .val (.int pc)] [])) _
    exact X11.returnOut hx Bd.returns (hb hby d2_22) hr
  · show Q2 Z a0x pf pc w2_start w2_count h0 n0 _ T11.heap _
    rw [e11]
    exact ⟨rfl, N11, K11, F13, F14⟩
theorem d7_0 : decode prog_42_method_4_code 0 = .ok (.iload_n 1, 1) := by decide +kernel
theorem d7_1 : decode prog_42_method_4_code 1 = .ok (.aload_n 0, 1) := by decide +kernel
theorem d7_2 : decode prog_42_method_4_code 2 = .ok (.getfield 16, 3) := by decide +kernel
theorem d7_5 : decode prog_42_method_4_code 5 = .ok (.if_icmp .ge 8, 3) := by decide +kernel
theorem d7_8 : decode prog_42_method_4_code 8 = .ok (.iload_n 1, 1) := by decide +kernel
theorem d7_9 : decode prog_42_method_4_code 9 = .ok (.istore_n 2, 1) := by decide +kernel
theorem d7_10 : decode prog_42_method_4_code 10 = .ok (.goto 28, 3) := by decide +kernel
theorem d7_13 : decode prog_42_method_4_code 13 = .ok (.iload_n 1, 1) := by decide +kernel
theorem d7_14 : decode prog_42_method_4_code 14 = .ok (.aload_n 0, 1) := by decide +kernel
theorem d7_15 : decode prog_42_method_4_code 15 = .ok (.getfield 16, 3) := by decide +kernel
theorem d7_18 : decode prog_42_method_4_code 18 = .ok (.isub, 1) := by decide +kernel
theorem d7_19 : decode prog_42_method_4_code 19 = .ok (.aload_n 0, 1) := by decide +kernel
theorem d7_20 : decode prog_42_method_4_code 20 = .ok (.getfield 22, 3) := by decide +kernel
theorem d7_23 : decode prog_42_method_4_code 23 = .ok (.if_icmp .ge 8, 3) := by decide +kernel
theorem d7_26 : decode prog_42_method_4_code 26 = .ok (.iconst (-1), 1) := by decide +kernel
theorem d7_27 : decode prog_42_method_4_code 27 = .ok (.istore_n 2, 1) := by decide +kernel
theorem d7_28 : decode prog_42_method_4_code 28 = .ok (.goto 10, 3) := by decide +kernel
theorem d7_31 : decode prog_42_method_4_code 31 = .ok (.iload_n 1, 1) := by decide +kernel
theorem d7_32 : decode prog_42_method_4_code 32 = .ok (.aload_n 0, 1) := by decide +kernel
theorem d7_33 : decode prog_42_method_4_code 33 = .ok (.getfield 22, 3) := by decide +kernel
theorem d7_36 : decode prog_42_method_4_code 36 = .ok (.isub, 1) := by decide +kernel
theorem d7_37 : decode prog_42_method_4_code 37 = .ok (.istore_n 2, 1) := by decide +kernel
theorem d7_38 : decode prog_42_method_4_code 38 = .ok (.iload_n 2, 1) := by decide +kernel
theorem d7_39 : decode prog_42_method_4_code 39 = .ok (.ireturn, 1) := by decide +kernel
theorem ef_7 (m : MethodId) (x0 : Addr) (x1 : Int32) : entryFrame m #[(.ref x0), (.int x1)] 3 = mkF m 0 #[.val (.ref x0), .val (.int x1), .unset] [] := by first | (simp [entryFrame, mkF, argsToLocals, Value.category]; done) | rfl
abbrev R7 : Room := { frames := 0, cells := 0, slots := 0, locals := 0 }
def v7_37 (p7_1 : Int32) (w7_count : Int32) : Int32 := (p7_1 - w7_count)
def r7 (p7_1 : Int32) (w7_start : Int32) (w7_count : Int32) : Int32 := (if p7_1 < w7_start then p7_1 else (if (p7_1 - w7_start) < w7_count then (-1 : Int32) else (v7_37 p7_1 w7_count)))
def Q7 (Z : State) (a7_0 : Addr) (p7_1 : Int32) (w7_start : Int32) (w7_count : Int32) (h0 : Heap) (n0 : Nat) (v : Option Value) (h : Heap) (L : List Loc) : Prop := v = some (.int (r7 p7_1 w7_start w7_count)) ∧ Fr n0 L ∧ h = h0
set_option maxRecDepth 65536 in
set_option maxHeartbeats 40000000 in
theorem rm7 (l : Launch) (Z : State) (a0 : Array Value) (hw : ∀ d ∈ tables_1, d.before a0 Z = true) (ws : List Jvm.Cond) (a7_0 : Addr) (p7_1 : Int32) (w7_start : Int32) (w7_count : Int32) (h0 : Heap) (n0 : Nat) (Z0 : n0 ≤ h0.size) (F_start_a7_0 : Fld Z h0 a7_0 "com/example/rowforge/rowforge/core/Notice$RangeRemoved" "start" "I" (.int w7_start)) (F_count_a7_0 : Fld Z h0 a7_0 "com/example/rowforge/rowforge/core/Notice$RangeRemoved" "count" "I" (.int w7_count)) :
    MetFree l (⟨"com/example/rowforge/rowforge/core/Notice$RangeRemoved", "positionAfter", "(I)I"⟩ : MethodName) (head1 (Jvm.Cond.code (⟨"com/example/rowforge/rowforge/core/Notice$RangeRemoved", "positionAfter", "(I)I"⟩ : MethodName) prog_42_method_4_code 3 (some .int) :: ws) R7) (fun a U => a = #[(.ref a7_0), (.int p7_1)] ∧ Z.Warmed39 U.vm ∧ U.heap = h0) (fun _ _ _ _ _ => True) (fun _ U o U' => ∃ v L, o = .returned v ∧ Q7 Z a7_0 p7_1 w7_start w7_count h0 n0 v U'.heap L ∧ FrameEnd U o U' L R7.cells R7.slots) := by
  refine MetFree.of_bodySF (plainFor_of_name pn_3) hisR ?_
  intro p e s m args below meth c s₁ Bd hml0 hP hK
  obtain ⟨rfl, hZ, hh⟩ := hP
  have hx := Bd.exec
  have hby := Bd.bytes
  have hml : c.maxLocals = 3 := hml0
  have hown : s.vm.findClass "com/example/rowforge/rowforge/core/Notice$RangeRemoved" = some m.cls := findClass_of_methodNamed Bd.named
  have hnm := (name_of_methodNamed Bd.named Bd.method).1
  have X0 : Stand p l e R7 s m #[(.ref a7_0), (.int p7_1)] below meth c s₁ [] 0 0 := Stand.of_body Bd
  have e0 : s₁.heap = h0 := by rw [← hh, Bd.state]; rfl
  have N0 := Fr.nil n0
  have pre0 : ∀ t, Steps p.tables e below (s₁.setTop (mkF m 0 #[.val (.ref a7_0), .val (.int p7_1), .unset] [])) t → Steps p.tables e below (s₁.setTop (entryFrame m #[(.ref a7_0), (.int p7_1)] 3)) t := fun t k => castTop (ef_7 m a7_0 p7_1) k
  have pre1 : ∀ t, Steps p.tables e below (s₁.setTop (mkF m 2 #[.val (.ref a7_0), .val (.int p7_1), .unset] [(.ref a7_0), (.int p7_1)])) t → Steps p.tables e below (s₁.setTop (entryFrame m #[(.ref a7_0), (.int p7_1)] 3)) t := fun t k => pre0 t (by
    refine XS.iloadN X0.here hx rfl (hb hby d7_0) rfl ?_
    show Steps p.tables e below (s₁.setTop (mkF m 1 #[.val (.ref a7_0), .val (.int p7_1), .unset] [(.int p7_1)])) _
    refine XS.aloadN X0.here hx rfl (hb hby d7_1) rfl rfl ?_
    show Steps p.tables e below (s₁.setTop (mkF m 2 #[.val (.ref a7_0), .val (.int p7_1), .unset] [(.ref a7_0), (.int p7_1)])) _
    exact k)
  obtain ⟨T2, X2, e2, st2⟩ := getF X0 hx hZ hown (host := "") (Or.inl (hw _ (List.mem_of_getElem? (i := 29) rfl))) Via.refl e0 F_start_a7_0 (g := (mkF m 2 #[.val (.ref a7_0), .val (.int p7_1), .unset] [(.ref a7_0), (.int p7_1)])) rfl rfl (hb hby d7_2)
  have pre2 : ∀ t, Steps p.tables e below (T2.setTop (mkF m 5 #[.val (.ref a7_0), .val (.int p7_1), .unset] [(.int w7_start), (.int p7_1)])) t → Steps p.tables e below (s₁.setTop (entryFrame m #[(.ref a7_0), (.int p7_1)] 3)) t := fun t k => pre1 t (st2 t k)
  by_cases hc5_3 : p7_1 < w7_start
  · have pre4 : ∀ t, Steps p.tables e below (T2.setTop (mkF m 39 #[.val (.ref a7_0), .val (.int p7_1), .val (.int p7_1)] [(.int p7_1)])) t → Steps p.tables e below (s₁.setTop (entryFrame m #[(.ref a7_0), (.int p7_1)] 3)) t := fun t k => pre2 t (by
      refine XS.icmpNo X2.here hx rfl (hb hby d7_5) rfl (tlt hc5_3).2.1 ?_
      show Steps p.tables e below (T2.setTop (mkF m 8 #[.val (.ref a7_0), .val (.int p7_1), .unset] [])) _
      refine XS.iloadN X2.here hx rfl (hb hby d7_8) rfl ?_
      show Steps p.tables e below (T2.setTop (mkF m 9 #[.val (.ref a7_0), .val (.int p7_1), .unset] [(.int p7_1)])) _
      refine XS.istoreN X2.here hx rfl (hb hby d7_9) rfl (l' := #[.val (.ref a7_0), .val (.int p7_1), .val (.int p7_1)]) rfl ?_
      show Steps p.tables e below (T2.setTop (mkF m 10 #[.val (.ref a7_0), .val (.int p7_1), .val (.int p7_1)] [])) _
      refine XS.goto X2.here hx rfl (pc0 := 10) (pc' := 38) rfl (hb hby d7_10) (by decide) (by decide) ?_
      show Steps p.tables e below (T2.setTop (mkF m 38 #[.val (.ref a7_0), .val (.int p7_1), .val (.int p7_1)] [])) _
      refine XS.iloadN X2.here hx rfl (hb hby d7_38) rfl ?_
      show Steps p.tables e below (T2.setTop (mkF m 39 #[.val (.ref a7_0), .val (.int p7_1), .val (.int p7_1)] [(.int p7_1)])) _
      exact k)
    have hret : (r7 p7_1 w7_start w7_count) = p7_1 := by unfold r7; rw [if_pos hc5_3]
    obtain ⟨fs, hr, hrun, hended, hW, hsame⟩ := X2.leave (v := some (.int p7_1)) (fun h => by rw [Bd.returns] at h; cases h)
    refine ⟨_, _, pre4 _ ?_, hrun, hended, _, _, rfl, ?_, ⟨_, rfl⟩, hW, hsame.mono (by decide) (by decide)⟩
    · show Steps p.tables e below (T2.setTop (mkF m 39 #[.val (.ref a7_0), .val (.int p7_1), .val (.int p7_1)] [(.int p7_1)])) _
      exact retI X2 hx Bd.returns (hb hby d7_39) hr
    · show Q7 Z a7_0 p7_1 w7_start w7_count h0 n0 _ T2.heap _
      rw [e2]
      exact ⟨(by rw [hret]), N0, rfl⟩
  · have pre5 : ∀ t, Steps p.tables e below (T2.setTop (mkF m 15 #[.val (.ref a7_0), .val (.int p7_1), .unset] [(.ref a7_0), (.int p7_1)])) t → Steps p.tables e below (s₁.setTop (entryFrame m #[(.ref a7_0), (.int p7_1)] 3)) t := fun t k => pre2 t (by
      refine XS.icmpYes X2.here hx rfl (pc0 := 5) (pc' := 13) rfl (hb hby d7_5) rfl (flt hc5_3).2.1 (by decide) (by decide) ?_
      show Steps p.tables e below (T2.setTop (mkF m 13 #[.val (.ref a7_0), .val (.int p7_1), .unset] [])) _
      refine XS.iloadN X2.here hx rfl (hb hby d7_13) rfl ?_
      show Steps p.tables e below (T2.setTop (mkF m 14 #[.val (.ref a7_0), .val (.int p7_1), .unset] [(.int p7_1)])) _
      refine XS.aloadN X2.here hx rfl (hb hby d7_14) rfl rfl ?_
      show Steps p.tables e below (T2.setTop (mkF m 15 #[.val (.ref a7_0), .val (.int p7_1), .unset] [(.ref a7_0), (.int p7_1)])) _
      exact k)
    obtain ⟨T6, X6, e6, st6⟩ := getF X2 hx hZ hown (host := "") (Or.inl (hw _ (List.mem_of_getElem? (i := 29) rfl))) Via.refl e2 F_start_a7_0 (g := (mkF m 15 #[.val (.ref a7_0), .val (.int p7_1), .unset] [(.ref a7_0), (.int p7_1)])) rfl rfl (hb hby d7_15)
    have pre6 : ∀ t, Steps p.tables e below (T6.setTop (mkF m 18 #[.val (.ref a7_0), .val (.int p7_1), .unset] [(.int w7_start), (.int p7_1)])) t → Steps p.tables e below (s₁.setTop (entryFrame m #[(.ref a7_0), (.int p7_1)] 3)) t := fun t k => pre5 t (st6 t k)
    have pre7 : ∀ t, Steps p.tables e below (T6.setTop (mkF m 20 #[.val (.ref a7_0), .val (.int p7_1), .unset] [(.ref a7_0), (.int (p7_1 - w7_start))])) t → Steps p.tables e below (s₁.setTop (entryFrame m #[(.ref a7_0), (.int p7_1)] 3)) t := fun t k => pre6 t (by
      refine XS.isub X6.here hx rfl (hb hby d7_18) rfl ?_
      show Steps p.tables e below (T6.setTop (mkF m 19 #[.val (.ref a7_0), .val (.int p7_1), .unset] [(.int (p7_1 - w7_start))])) _
      refine XS.aloadN X6.here hx rfl (hb hby d7_19) rfl rfl ?_
      show Steps p.tables e below (T6.setTop (mkF m 20 #[.val (.ref a7_0), .val (.int p7_1), .unset] [(.ref a7_0), (.int (p7_1 - w7_start))])) _
      exact k)
    obtain ⟨T8, X8, e8, st8⟩ := getF X6 hx hZ hown (host := "") (Or.inl (hw _ (List.mem_of_getElem? (i := 31) rfl))) Via.refl e6 F_count_a7_0 (g := (mkF m 20 #[.val (.ref a7_0), .val (.int p7_1), .unset] [(.ref a7_0), (.int (p7_1 - w7_start))])) rfl rfl (hb hby d7_20)
    have pre8 : ∀ t, Steps p.tables e below (T8.setTop (mkF m 23 #[.val (.ref a7_0), .val (.int p7_1), .unset] [(.int w7_count), (.int (p7_1 - w7_start))])) t → Steps p.tables e below (s₁.setTop (entryFrame m #[(.ref a7_0), (.int p7_1)] 3)) t := fun t k => pre7 t (st8 t k)
    by_cases hc23_9 : (p7_1 - w7_start) < w7_count
    · have pre10 : ∀ t, Steps p.tables e below (T8.setTop (mkF m 39 #[.val (.ref a7_0), .val (.int p7_1), .val (.int (-1 : Int32))] [(.int (-1 : Int32))])) t → Steps p.tables e below (s₁.setTop (entryFrame m #[(.ref a7_0), (.int p7_1)] 3)) t := fun t k => pre8 t (by
        refine XS.icmpNo X8.here hx rfl (hb hby d7_23) rfl (tlt hc23_9).2.1 ?_
        show Steps p.tables e below (T8.setTop (mkF m 26 #[.val (.ref a7_0), .val (.int p7_1), .unset] [])) _
        refine XS.iconst X8.here hx rfl (hb hby d7_26) ?_
        show Steps p.tables e below (T8.setTop (mkF m 27 #[.val (.ref a7_0), .val (.int p7_1), .unset] [(.int (-1 : Int32))])) _
        refine XS.istoreN X8.here hx rfl (hb hby d7_27) rfl (l' := #[.val (.ref a7_0), .val (.int p7_1), .val (.int (-1 : Int32))]) rfl ?_
        show Steps p.tables e below (T8.setTop (mkF m 28 #[.val (.ref a7_0), .val (.int p7_1), .val (.int (-1 : Int32))] [])) _
        refine XS.goto X8.here hx rfl (pc0 := 28) (pc' := 38) rfl (hb hby d7_28) (by decide) (by decide) ?_
        show Steps p.tables e below (T8.setTop (mkF m 38 #[.val (.ref a7_0), .val (.int p7_1), .val (.int (-1 : Int32))] [])) _
        refine XS.iloadN X8.here hx rfl (hb hby d7_38) rfl ?_
        show Steps p.tables e below (T8.setTop (mkF m 39 #[.val (.ref a7_0), .val (.int p7_1), .val (.int (-1 : Int32))] [(.int (-1 : Int32))])) _
        exact k)
      have hret : (r7 p7_1 w7_start w7_count) = (-1 : Int32) := by unfold r7; rw [if_neg hc5_3, if_pos hc23_9]
      obtain ⟨fs, hr, hrun, hended, hW, hsame⟩ := X8.leave (v := some (.int (-1 : Int32))) (fun h => by rw [Bd.returns] at h; cases h)
      refine ⟨_, _, pre10 _ ?_, hrun, hended, _, _, rfl, ?_, ⟨_, rfl⟩, hW, hsame.mono (by decide) (by decide)⟩
      · show Steps p.tables e below (T8.setTop (mkF m 39 #[.val (.ref a7_0), .val (.int p7_1), .val (.int (-1 : Int32))] [(.int (-1 : Int32))])) _
        exact retI X8 hx Bd.returns (hb hby d7_39) hr
      · show Q7 Z a7_0 p7_1 w7_start w7_count h0 n0 _ T8.heap _
        rw [e8]
        exact ⟨(by rw [hret]), N0, rfl⟩
    · have pre11 : ∀ t, Steps p.tables e below (T8.setTop (mkF m 33 #[.val (.ref a7_0), .val (.int p7_1), .unset] [(.ref a7_0), (.int p7_1)])) t → Steps p.tables e below (s₁.setTop (entryFrame m #[(.ref a7_0), (.int p7_1)] 3)) t := fun t k => pre8 t (by
        refine XS.icmpYes X8.here hx rfl (pc0 := 23) (pc' := 31) rfl (hb hby d7_23) rfl (flt hc23_9).2.1 (by decide) (by decide) ?_
        show Steps p.tables e below (T8.setTop (mkF m 31 #[.val (.ref a7_0), .val (.int p7_1), .unset] [])) _
        refine XS.iloadN X8.here hx rfl (hb hby d7_31) rfl ?_
        show Steps p.tables e below (T8.setTop (mkF m 32 #[.val (.ref a7_0), .val (.int p7_1), .unset] [(.int p7_1)])) _
        refine XS.aloadN X8.here hx rfl (hb hby d7_32) rfl rfl ?_
        show Steps p.tables e below (T8.setTop (mkF m 33 #[.val (.ref a7_0), .val (.int p7_1), .unset] [(.ref a7_0), (.int p7_1)])) _
        exact k)
      obtain ⟨T12, X12, e12, st12⟩ := getF X8 hx hZ hown (host := "") (Or.inl (hw _ (List.mem_of_getElem? (i := 31) rfl))) Via.refl e8 F_count_a7_0 (g := (mkF m 33 #[.val (.ref a7_0), .val (.int p7_1), .unset] [(.ref a7_0), (.int p7_1)])) rfl rfl (hb hby d7_33)
      have pre12 : ∀ t, Steps p.tables e below (T12.setTop (mkF m 36 #[.val (.ref a7_0), .val (.int p7_1), .unset] [(.int w7_count), (.int p7_1)])) t → Steps p.tables e below (s₁.setTop (entryFrame m #[(.ref a7_0), (.int p7_1)] 3)) t := fun t k => pre11 t (st12 t k)
      have pre13 : ∀ t, Steps p.tables e below (T12.setTop (mkF m 39 #[.val (.ref a7_0), .val (.int p7_1), .val (.int (v7_37 p7_1 w7_count))] [(.int (v7_37 p7_1 w7_count))])) t → Steps p.tables e below (s₁.setTop (entryFrame m #[(.ref a7_0), (.int p7_1)] 3)) t := fun t k => pre12 t (by
        refine XS.isub X12.here hx rfl (hb hby d7_36) rfl ?_
        show Steps p.tables e below (T12.setTop (mkF m 37 #[.val (.ref a7_0), .val (.int p7_1), .unset] [(.int (p7_1 - w7_count))])) _
        show Steps p.tables e below (T12.setTop (mkF m 37 #[.val (.ref a7_0), .val (.int p7_1), .unset] [(.int (v7_37 p7_1 w7_count))])) _
        refine XS.istoreN X12.here hx rfl (hb hby d7_37) rfl (l' := #[.val (.ref a7_0), .val (.int p7_1), .val (.int (v7_37 p7_1 w7_count))]) rfl ?_
        show Steps p.tables e below (T12.setTop (mkF m 38 #[.val (.ref a7_0), .val (.int p7_1), .val (.int (v7_37 p7_1 w7_count))] [])) _
        refine XS.iloadN X12.here hx rfl (hb hby d7_38) rfl ?_
        show Steps p.tables e below (T12.setTop (mkF m 39 #[.val (.ref a7_0), .val (.int p7_1), .val (.int (v7_37 p7_1 w7_count))] [(.int (v7_37 p7_1 w7_count))])) _
        exact k)
      have hret : (r7 p7_1 w7_start w7_count) = (v7_37 p7_1 w7_count) := by unfold r7; rw [if_neg hc5_3, if_neg hc23_9]
      obtain ⟨fs, hr, hrun, hended, hW, hsame⟩ := X12.leave (v := some (.int (v7_37 p7_1 w7_count))) (fun h => by rw [Bd.returns] at h; cases h)
      refine ⟨_, _, pre13 _ ?_, hrun, hended, _, _, rfl, ?_, ⟨_, rfl⟩, hW, hsame.mono (by decide) (by decide)⟩
      · show Steps p.tables e below (T12.setTop (mkF m 39 #[.val (.ref a7_0), .val (.int p7_1), .val (.int (v7_37 p7_1 w7_count))] [(.int (v7_37 p7_1 w7_count))])) _
        exact retI X12 hx Bd.returns (hb hby d7_39) hr
      · show Q7 Z a7_0 p7_1 w7_start w7_count h0 n0 _ T12.heap _
        rw [e12]
        exact ⟨(by rw [hret]), N0, rfl⟩
theorem pn_4 : plainName "com/example/rowforge/rowforge/core/RangeRemovedPositionAfterPinLaw" = true := by first | (simp [plainName, overriddenIn]; done) | decide +kernel
theorem pd_3 : parseMethodDescriptor "(II)I" = some ⟨[.int, .int], some .int⟩ := by decide +kernel
theorem pd_4 : parseMethodDescriptor "(JJ)J" = some ⟨[.long, .long], some .long⟩ := by decide +kernel
theorem pd_5 : parseMethodDescriptor "(II)V" = some ⟨[.int, .int], none⟩ := by decide +kernel
theorem pd_6 : parseMethodDescriptor "(I)I" = some ⟨[.int], some .int⟩ := by decide +kernel
theorem ef_0 (m : MethodId) (x0 : Int32) (x1 : Int32) (x2 : Int32) (x3 : Int32) : entryFrame m #[(.int x0), (.int x1), (.int x2), (.int x3)] maxLocals = mkF m 0 #[.val (.int x0), .val (.int x1), .val (.int x2), .val (.int x3), .unset, .unset, .unset, .unset, .unset, .unset, .unset, .unset, .unset, .unset, .unset, .unset, .unset, .unset, .unset, .unset] [] := by first | (simp [entryFrame, mkF, argsToLocals, Value.category, maxLocals]; done) | rfl
def v0_4 (p0_0 : Int32) : Int32 := (p0_0 &&& (2147483647 : Int32))
def v0_13 (p0_0 : Int32) : Int64 := ((2147483647 : Int64) - (((v0_4 p0_0)).toInt64))
def v0_27 (p0_0 : Int32) (p0_1 : Int32) : Int32 := (((own_remL (((p0_1).toInt64) &&& (2147483647 : Int64)) ((v0_13 p0_0) + (1 : Int64)))).toInt32)
def v0_35 (p0_3 : Int32) : Int32 := ((p0_3 &&& (2147483647 : Int32)) % (5 : Int32))
def v0_46 (p0_2 : Int32) : Int32 := (p0_2 &&& (2147483647 : Int32))
def v0_65 (p0_0 : Int32) : Int32 := (r1 (0 : Int32) ((v0_4 p0_0) - (1 : Int32)))
def c0_99 (p0_0 : Int32) (p0_1 : Int32) : Int64 := (r8 (0 : Int64) (((((v0_4 p0_0)).toInt64) + (((v0_27 p0_0 p0_1)).toInt64)) - (1 : Int64)))
def v0_103 (p0_0 : Int32) (p0_1 : Int32) : Int32 := (((c0_99 p0_0 p0_1)).toInt32)
def v0_113 (p0_0 : Int32) (p0_1 : Int32) : Int32 := ((v0_4 p0_0) + (v0_27 p0_0 p0_1))
def j0_115_9 (p0_0 : Int32) (p0_1 : Int32) (p0_2 : Int32) (p0_3 : Int32) : Int32 := (if (v0_35 p0_3) = (0 : Int32) then (v0_46 p0_2) else (if (v0_35 p0_3) = (1 : Int32) then (v0_65 p0_0) else (if (v0_35 p0_3) = (2 : Int32) then (v0_4 p0_0) else (if (v0_35 p0_3) = (3 : Int32) then (v0_103 p0_0 p0_1) else (v0_113 p0_0 p0_1)))))
def c0_132 (p0_0 : Int32) (p0_1 : Int32) (p0_2 : Int32) (p0_3 : Int32) : Int32 := (r7 (j0_115_9 p0_0 p0_1 p0_2 p0_3) (v0_4 p0_0) (v0_27 p0_0 p0_1))
def v0_140 (p0_0 : Int32) (p0_1 : Int32) (p0_2 : Int32) (p0_3 : Int32) : Int64 := (((j0_115_9 p0_0 p0_1 p0_2 p0_3)).toInt64)
def v0_145 (p0_0 : Int32) : Int64 := (((v0_4 p0_0)).toInt64)
def v0_150 (p0_0 : Int32) (p0_1 : Int32) : Int64 := (((v0_27 p0_0 p0_1)).toInt64)
def v0_191 (p0_0 : Int32) (p0_1 : Int32) (p0_2 : Int32) (p0_3 : Int32) : Int64 := ((v0_140 p0_0 p0_1 p0_2 p0_3) - (v0_150 p0_0 p0_1))
def j0_193_18 (p0_0 : Int32) (p0_1 : Int32) (p0_2 : Int32) (p0_3 : Int32) : Int64 := (if (v0_140 p0_0 p0_1 p0_2 p0_3) < (v0_145 p0_0) then (v0_140 p0_0 p0_1 p0_2 p0_3) else (if (v0_140 p0_0 p0_1 p0_2 p0_3) < ((v0_145 p0_0) + (v0_150 p0_0 p0_1)) then (-1 : Int64) else (v0_191 p0_0 p0_1 p0_2 p0_3)))
theorem own_bm32 (n : Int) : n.bmod 4294967296 = if n % 4294967296 < 2147483648 then n % 4294967296 else n % 4294967296 - 4294967296 := by
  rw [Int.bmod_def]; omega
theorem own_bm64 (n : Int) : n.bmod 18446744073709551616 = if n % 18446744073709551616 < 9223372036854775808 then n % 18446744073709551616 else n % 18446744073709551616 - 18446744073709551616 := by
  rw [Int.bmod_def]; omega
theorem own_nn (x : Int32) : (x < 0) ↔ x.toBitVec.msb = true := by
  rw [Int32.lt_iff_toInt_lt, BitVec.msb_eq_toInt, decide_eq_true_iff]; rfl
theorem own_or2 {x y : Int32} (hx : ¬ x < 0) (hy : ¬ y < 0) : ¬ (x ||| y) < 0 := by
  rw [own_nn] at *
  rw [Int32.toBitVec_or, BitVec.msb_or]
  simp_all
theorem own_nonneg {x : Int32} (h : 0 ≤ x.toInt) : ¬ x < 0 := by
  rw [Int32.lt_iff_toInt_lt, show (0 : Int32).toInt = 0 from rfl]; omega
theorem own_S (s : Int32) : (v0_4 s).toInt = s.toInt % 2147483648 := by unfold v0_4; exact Jvm.Kit.i32_mask s _ (k := 31) (by decide) (by decide)
theorem own_room (s : Int32) : ((v0_13 s) + (1 : Int64)).toInt = 2147483648 - s.toInt % 2147483648 := by
  have m : (2147483647 : Int64).toInt = 2147483647 := rfl
  have o : (1 : Int64).toInt = 1 := rfl
  have h : (v0_13 s).toInt = 2147483647 - s.toInt % 2147483648 := by
    unfold v0_13
    rw [Jvm.Kit.i64_sub (by rw [Jvm.Kit.i64_of_i32, own_S, m]; omega) (by rw [Jvm.Kit.i64_of_i32, own_S, m]; omega), Jvm.Kit.i64_of_i32, own_S, m]
  rw [Jvm.Kit.i64_add (by rw [h, o]; omega) (by rw [h, o]; omega), h, o]; omega
theorem own_nz (s : Int32) : (v0_13 s) + (1 : Int64) ≠ 0 := fun h => by
  have q := own_room s
  rw [h, show (0 : Int64).toInt = 0 from rfl] at q; omega
theorem own_pl (f : Int32) : ((f.toInt64) &&& (2147483647 : Int64)).toInt = f.toInt % 2147483648 := by rw [Jvm.Kit.i64_mask _ _ (k := 31) (by decide) (by decide), Jvm.Kit.i64_of_i32]; rfl
theorem own_Cc (s c : Int32) : 0 ≤ (v0_27 s c).toInt ∧ (v0_4 s).toInt + (v0_27 s c).toInt < 2147483648 := by
  have h : 0 ≤ (own_remL ((c.toInt64) &&& (2147483647 : Int64)) (v0_13 s + (1 : Int64))).toInt ∧ (own_remL ((c.toInt64) &&& (2147483647 : Int64)) (v0_13 s + (1 : Int64))).toInt < 2147483648 - s.toInt % 2147483648 := by
    unfold own_remL
    rw [Jvm.Kit.i64_rem_nonneg (by rw [own_pl]; omega), own_room]
    exact ⟨Int.emod_nonneg _ (by omega), Int.emod_lt_of_pos _ (by omega)⟩
  unfold v0_27
  rw [Jvm.Kit.i32_of_i64 (by omega) (by omega), own_S]; omega
theorem own_S0 (s : Int32) : 0 ≤ (v0_4 s).toInt ∧ (v0_4 s).toInt < 2147483648 := by rw [own_S]; omega
theorem own_A {x y : Int32} (hx : 0 ≤ x.toInt) (hy : 0 ≤ y.toInt) : ¬ ((((2147483647 : Int32) ||| x) ||| y) < (0 : Int32)) := own_or2 (own_or2 (by decide) (own_nonneg hx)) (own_nonneg hy)
theorem own_B {x y : Int32} (hx : 0 ≤ x.toInt) (h : x.toInt + y.toInt < 2147483648) : ¬ (((2147483647 : Int32) - x) < y) := by
  have b := x.toInt_lt
  rw [Int32.lt_iff_toInt_lt, Jvm.Kit.i32_sub (by rw [show (2147483647 : Int32).toInt = 2147483647 from rfl]; omega) (by rw [show (2147483647 : Int32).toInt = 2147483647 from rfl]; omega), show (2147483647 : Int32).toInt = 2147483647 from rfl]; omega
theorem own_A1 (s c : Int32) : ¬ ((((2147483647 : Int32) ||| (v0_4 s)) ||| (v0_27 s c)) < (0 : Int32)) := own_A (own_S0 s).1 (own_Cc s c).1
theorem own_B1 (s c : Int32) : ¬ (((2147483647 : Int32) - (v0_4 s)) < (v0_27 s c)) := own_B (own_S0 s).1 (own_Cc s c).2
theorem own_P2 (S : Int32) : 0 ≤ (r1 (0 : Int32) S).toInt := by
  have z : (0 : Int32).toInt = 0 := rfl
  unfold r1
  by_cases h : (0 : Int32) < S
  · rw [if_pos h]; rw [Int32.lt_iff_toInt_lt, z] at h; exact Int.le_of_lt h
  · rw [if_neg h, z]; exact Int.le_refl 0
theorem own_P3 (S C : Int32) (h1 : 0 ≤ S.toInt) (h2 : 0 ≤ C.toInt) (h3 : S.toInt + C.toInt < 2147483648) : 0 ≤ ((r8 (0 : Int64) ((S.toInt64 + C.toInt64) - (1 : Int64))).toInt32).toInt := by
  have zL : (0 : Int64).toInt = 0 := rfl
  have oL : (1 : Int64).toInt = 1 := rfl
  have q1 : (S.toInt64 + C.toInt64).toInt = S.toInt + C.toInt := by rw [Jvm.Kit.i64_add (by rw [Jvm.Kit.i64_of_i32, Jvm.Kit.i64_of_i32]; omega) (by rw [Jvm.Kit.i64_of_i32, Jvm.Kit.i64_of_i32]; omega), Jvm.Kit.i64_of_i32, Jvm.Kit.i64_of_i32]
  have q2 : (S.toInt64 + C.toInt64 - (1 : Int64)).toInt = S.toInt + C.toInt - 1 := by rw [Jvm.Kit.i64_sub (by rw [q1, oL]; omega) (by rw [q1, oL]; omega), q1, oL]
  generalize S.toInt64 + C.toInt64 - (1 : Int64) = x at *
  unfold r8
  by_cases h : (0 : Int64) < x
  · rw [if_pos h]
    rw [Int64.lt_iff_toInt_lt, zL] at h
    rw [Jvm.Kit.i32_of_i64 (by omega) (by omega)]; omega
  · rw [if_neg h]; decide
theorem own_P (s c p m : Int32) : 0 ≤ (j0_115_9 s c p m).toInt := by
  have h1 := own_S0 s
  have h2 := own_Cc s c
  have a1 : 0 ≤ (v0_46 p).toInt := (own_S0 p).1
  have a2 : 0 ≤ (v0_65 s).toInt := own_P2 _
  have a3 : 0 ≤ (v0_103 s c).toInt := own_P3 _ _ h1.1 h2.1 h2.2
  have a4 : 0 ≤ (v0_113 s c).toInt := by
    unfold v0_113
    generalize v0_4 s = S at *
    generalize v0_27 s c = C at *
    rw [Jvm.Kit.i32_add (by omega) (by omega)]; omega
  unfold j0_115_9
  by_cases c0 : (v0_35 m) = (0 : Int32)
  · rw [if_pos c0]; exact a1
  · rw [if_neg c0]
    by_cases c1 : (v0_35 m) = (1 : Int32)
    · rw [if_pos c1]; exact a2
    · rw [if_neg c1]
      by_cases c2 : (v0_35 m) = (2 : Int32)
      · rw [if_pos c2]; exact h1.1
      · rw [if_neg c2]
        by_cases c3 : (v0_35 m) = (3 : Int32)
        · rw [if_pos c3]; exact a3
        · rw [if_neg c3]; exact a4
set_option maxHeartbeats 4000000 in
theorem own_main (s c p m : Int32) : ((c0_132 s c p m)).toInt64 = j0_193_18 s c p m := by
  have hP := own_P s c p m
  have hS := own_S0 s
  have hC := own_Cc s c
  unfold c0_132 j0_193_18 v0_191 v0_140 v0_145 v0_150 r7
  generalize j0_115_9 s c p m = P at *
  generalize v0_4 s = S at *
  generalize v0_27 s c = C at *
  have b := P.toInt_lt
  have e1 : (P - S).toInt = P.toInt - S.toInt := Jvm.Kit.i32_sub (by omega) (by omega)
  have e2 : (v7_37 P C).toInt = P.toInt - C.toInt := by unfold v7_37; exact Jvm.Kit.i32_sub (by omega) (by omega)
  have e3 : (S.toInt64 + C.toInt64).toInt = S.toInt + C.toInt := by rw [Jvm.Kit.i64_add (by rw [Jvm.Kit.i64_of_i32, Jvm.Kit.i64_of_i32]; omega) (by rw [Jvm.Kit.i64_of_i32, Jvm.Kit.i64_of_i32]; omega), Jvm.Kit.i64_of_i32, Jvm.Kit.i64_of_i32]
  have e4 : (P.toInt64 - C.toInt64).toInt = P.toInt - C.toInt := by rw [Jvm.Kit.i64_sub (by rw [Jvm.Kit.i64_of_i32, Jvm.Kit.i64_of_i32]; omega) (by rw [Jvm.Kit.i64_of_i32, Jvm.Kit.i64_of_i32]; omega), Jvm.Kit.i64_of_i32, Jvm.Kit.i64_of_i32]
  simp only [Int32.lt_iff_toInt_lt, Int64.lt_iff_toInt_lt, e1, e3, Jvm.Kit.i64_of_i32]
  by_cases h1 : P.toInt < S.toInt
  · rw [if_pos h1, if_pos h1]
  · rw [if_neg h1, if_neg h1]
    by_cases h2 : P.toInt - S.toInt < C.toInt
    · rw [if_pos h2, if_pos (by omega)]; rfl
    · rw [if_neg h2, if_neg (by omega)]
      exact Int64.toInt_inj.mp (by rw [Jvm.Kit.i64_of_i32, e2, e4])
def Q0 (Z : State) (p0_0 : Int32) (p0_1 : Int32) (p0_2 : Int32) (p0_3 : Int32) (h0 : Heap) (n0 : Nat) (v : Option Value) (h : Heap) (L : List Loc) : Prop := v = some (.int (1 : Int32)) ∧ Fr n0 L
set_option maxRecDepth 65536 in
set_option maxHeartbeats 40000000 in
theorem rm0 (l : Launch) (Z : State) (a0 : Array Value) (hw : ∀ d ∈ tables_1, d.before a0 Z = true) (ws : List Jvm.Cond) (p0_0 : Int32) (p0_1 : Int32) (p0_2 : Int32) (p0_3 : Int32) (h0 : Heap) (n0 : Nat) (Z0 : n0 ≤ h0.size) :
    MetFree l x (head1 (Jvm.Cond.code x code maxLocals ret :: ws) room_1) (fun a U => a = #[(.int p0_0), (.int p0_1), (.int p0_2), (.int p0_3)] ∧ Z.Warmed39 U.vm ∧ U.heap = h0) (fun _ _ _ _ _ => True) (fun _ U o U' => ∃ v L, o = .returned v ∧ Q0 Z p0_0 p0_1 p0_2 p0_3 h0 n0 v U'.heap L ∧ FrameEnd U o U' L room_1.cells room_1.slots) := by
  refine MetFree.of_bodySF (plainFor_of_name pn_4) hisR ?_
  intro p e s m args below meth c s₁ Bd hml0 hP hK
  obtain ⟨rfl, hZ, hh⟩ := hP
  have hx := Bd.exec
  have hby := Bd.bytes
  have hml : c.maxLocals = 20 := hml0
  have hown : s.vm.findClass "com/example/rowforge/rowforge/core/RangeRemovedPositionAfterPinLaw" = some m.cls := findClass_of_methodNamed Bd.named
  have hnm := (name_of_methodNamed Bd.named Bd.method).1
  have X0 : Stand p l e room_1 s m #[(.int p0_0), (.int p0_1), (.int p0_2), (.int p0_3)] below meth c s₁ [] 0 0 := Stand.of_body Bd
  have e0 : s₁.heap = h0 := by rw [← hh, Bd.state]; rfl
  have N0 := Fr.nil n0
  have pre0 : ∀ t, Steps p.tables e below (s₁.setTop (mkF m 0 #[.val (.int p0_0), .val (.int p0_1), .val (.int p0_2), .val (.int p0_3), .unset, .unset, .unset, .unset, .unset, .unset, .unset, .unset, .unset, .unset, .unset, .unset, .unset, .unset, .unset, .unset] [])) t → Steps p.tables e below (s₁.setTop (entryFrame m #[(.int p0_0), (.int p0_1), (.int p0_2), (.int p0_3)] maxLocals)) t := fun t k => castTop (ef_0 m p0_0 p0_1 p0_2 p0_3) k
  have pre1 : ∀ t, Steps p.tables e below (s₁.setTop (mkF m 39 #[.val (.int p0_0), .val (.int p0_1), .val (.int p0_2), .val (.int p0_3), .val (.int (v0_4 p0_0)), .val (.long (v0_13 p0_0)), .second, .val (.int (v0_27 p0_0 p0_1)), .val (.int (v0_35 p0_3)), .unset, .unset, .unset, .unset, .unset, .unset, .unset, .unset, .unset, .unset, .unset] [(.int (v0_35 p0_3))])) t → Steps p.tables e below (s₁.setTop (entryFrame m #[(.int p0_0), (.int p0_1), (.int p0_2), (.int p0_3)] maxLocals)) t := fun t k => pre0 t (by
    refine XS.iloadN X0.here hx rfl (hb hby at_0) rfl ?_
    show Steps p.tables e below (s₁.setTop (mkF m 1 #[.val (.int p0_0), .val (.int p0_1), .val (.int p0_2), .val (.int p0_3), .unset, .unset, .unset, .unset, .unset, .unset, .unset, .unset, .unset, .unset, .unset, .unset, .unset, .unset, .unset, .unset] [(.int p0_0)])) _
    refine X0.ldcInt hx hown (mvT hZ (hw _ (List.mem_of_getElem? (i := 0) rfl))) (g := (mkF m 1 #[.val (.int p0_0), .val (.int p0_1), .val (.int p0_2), .val (.int p0_3), .unset, .unset, .unset, .unset, .unset, .unset, .unset, .unset, .unset, .unset, .unset, .unset, .unset, .unset, .unset, .unset] [(.int p0_0)])) rfl (hb hby at_1) _ ?_
    show Steps p.tables e below (s₁.setTop (mkF m 3 #[.val (.int p0_0), .val (.int p0_1), .val (.int p0_2), .val (.int p0_3), .unset, .unset, .unset, .unset, .unset, .unset, .unset, .unset, .unset, .unset, .unset, .unset, .unset, .unset, .unset, .unset] [(.int (2147483647 : Int32)), (.int p0_0)])) _
    refine XS.iand X0.here hx rfl (hb hby at_3) rfl ?_
    show Steps p.tables e below (s₁.setTop (mkF m 4 #[.val (.int p0_0), .val (.int p0_1), .val (.int p0_2), .val (.int p0_3), .unset, .unset, .unset, .unset, .unset, .unset, .unset, .unset, .unset, .unset, .unset, .unset, .unset, .unset, .unset, .unset] [(.int (p0_0 &&& (2147483647 : Int32)))])) _
    show Steps p.tables e below (s₁.setTop (mkF m 4 #[.val (.int p0_0), .val (.int p0_1), .val (.int p0_2), .val (.int p0_3), .unset, .unset, .unset, .unset, .unset, .unset, .unset, .unset, .unset, .unset, .unset, .unset, .unset, .unset, .unset, .unset] [(.int (v0_4 p0_0))])) _
    refine XS.istore X0.here hx rfl (hb hby at_4) rfl (l' := #[.val (.int p0_0), .val (.int p0_1), .val (.int p0_2), .val (.int p0_3), .val (.int (v0_4 p0_0)), .unset, .unset, .unset, .unset, .unset, .unset, .unset, .unset, .unset, .unset, .unset, .unset, .unset, .unset, .unset]) rfl ?_
    show Steps p.tables e below (s₁.setTop (mkF m 6 #[.val (.int p0_0), .val (.int p0_1), .val (.int p0_2), .val (.int p0_3), .val (.int (v0_4 p0_0)), .unset, .unset, .unset, .unset, .unset, .unset, .unset, .unset, .unset, .unset, .unset, .unset, .unset, .unset, .unset] [])) _
    refine X0.ldc2Long hx hown (mvT hZ (hw _ (List.mem_of_getElem? (i := 1) rfl))) (g := (mkF m 6 #[.val (.int p0_0), .val (.int p0_1), .val (.int p0_2), .val (.int p0_3), .val (.int (v0_4 p0_0)), .unset, .unset, .unset, .unset, .unset, .unset, .unset, .unset, .unset, .unset, .unset, .unset, .unset, .unset, .unset] [])) rfl (hb hby at_6) _ ?_
    show Steps p.tables e below (s₁.setTop (mkF m 9 #[.val (.int p0_0), .val (.int p0_1), .val (.int p0_2), .val (.int p0_3), .val (.int (v0_4 p0_0)), .unset, .unset, .unset, .unset, .unset, .unset, .unset, .unset, .unset, .unset, .unset, .unset, .unset, .unset, .unset] [(.long (2147483647 : Int64))])) _
    refine XS.iload X0.here hx rfl (hb hby at_9) rfl ?_
    show Steps p.tables e below (s₁.setTop (mkF m 11 #[.val (.int p0_0), .val (.int p0_1), .val (.int p0_2), .val (.int p0_3), .val (.int (v0_4 p0_0)), .unset, .unset, .unset, .unset, .unset, .unset, .unset, .unset, .unset, .unset, .unset, .unset, .unset, .unset, .unset] [(.int (v0_4 p0_0)), (.long (2147483647 : Int64))])) _
    refine XS.i2l X0.here hx rfl (hb hby at_11) rfl ?_
    show Steps p.tables e below (s₁.setTop (mkF m 12 #[.val (.int p0_0), .val (.int p0_1), .val (.int p0_2), .val (.int p0_3), .val (.int (v0_4 p0_0)), .unset, .unset, .unset, .unset, .unset, .unset, .unset, .unset, .unset, .unset, .unset, .unset, .unset, .unset, .unset] [(.long (((v0_4 p0_0)).toInt64)), (.long (2147483647 : Int64))])) _
    refine XS.lsub X0.here hx rfl (hb hby at_12) rfl ?_
    show Steps p.tables e below (s₁.setTop (mkF m 13 #[.val (.int p0_0), .val (.int p0_1), .val (.int p0_2), .val (.int p0_3), .val (.int (v0_4 p0_0)), .unset, .unset, .unset, .unset, .unset, .unset, .unset, .unset, .unset, .unset, .unset, .unset, .unset, .unset, .unset] [(.long ((2147483647 : Int64) - (((v0_4 p0_0)).toInt64)))])) _
    show Steps p.tables e below (s₁.setTop (mkF m 13 #[.val (.int p0_0), .val (.int p0_1), .val (.int p0_2), .val (.int p0_3), .val (.int (v0_4 p0_0)), .unset, .unset, .unset, .unset, .unset, .unset, .unset, .unset, .unset, .unset, .unset, .unset, .unset, .unset, .unset] [(.long (v0_13 p0_0))])) _
    refine XS.lstore X0.here hx rfl (hb hby at_13) rfl (l' := #[.val (.int p0_0), .val (.int p0_1), .val (.int p0_2), .val (.int p0_3), .val (.int (v0_4 p0_0)), .val (.long (v0_13 p0_0)), .second, .unset, .unset, .unset, .unset, .unset, .unset, .unset, .unset, .unset, .unset, .unset, .unset, .unset]) rfl ?_
    show Steps p.tables e below (s₁.setTop (mkF m 15 #[.val (.int p0_0), .val (.int p0_1), .val (.int p0_2), .val (.int p0_3), .val (.int (v0_4 p0_0)), .val (.long (v0_13 p0_0)), .second, .unset, .unset, .unset, .unset, .unset, .unset, .unset, .unset, .unset, .unset, .unset, .unset, .unset] [])) _
    refine XS.iloadN X0.here hx rfl (hb hby at_15) rfl ?_
    show Steps p.tables e below (s₁.setTop (mkF m 16 #[.val (.int p0_0), .val (.int p0_1), .val (.int p0_2), .val (.int p0_3), .val (.int (v0_4 p0_0)), .val (.long (v0_13 p0_0)), .second, .unset, .unset, .unset, .unset, .unset, .unset, .unset, .unset, .unset, .unset, .unset, .unset, .unset] [(.int p0_1)])) _
    refine XS.i2l X0.here hx rfl (hb hby at_16) rfl ?_
    show Steps p.tables e below (s₁.setTop (mkF m 17 #[.val (.int p0_0), .val (.int p0_1), .val (.int p0_2), .val (.int p0_3), .val (.int (v0_4 p0_0)), .val (.long (v0_13 p0_0)), .second, .unset, .unset, .unset, .unset, .unset, .unset, .unset, .unset, .unset, .unset, .unset, .unset, .unset] [(.long ((p0_1).toInt64))])) _
    refine X0.ldc2Long hx hown (mvT hZ (hw _ (List.mem_of_getElem? (i := 1) rfl))) (g := (mkF m 17 #[.val (.int p0_0), .val (.int p0_1), .val (.int p0_2), .val (.int p0_3), .val (.int (v0_4 p0_0)), .val (.long (v0_13 p0_0)), .second, .unset, .unset, .unset, .unset, .unset, .unset, .unset, .unset, .unset, .unset, .unset, .unset, .unset] [(.long ((p0_1).toInt64))])) rfl (hb hby at_17) _ ?_
    show Steps p.tables e below (s₁.setTop (mkF m 20 #[.val (.int p0_0), .val (.int p0_1), .val (.int p0_2), .val (.int p0_3), .val (.int (v0_4 p0_0)), .val (.long (v0_13 p0_0)), .second, .unset, .unset, .unset, .unset, .unset, .unset, .unset, .unset, .unset, .unset, .unset, .unset, .unset] [(.long (2147483647 : Int64)), (.long ((p0_1).toInt64))])) _
    refine XS.land X0.here hx rfl (hb hby at_20) rfl ?_
    show Steps p.tables e below (s₁.setTop (mkF m 21 #[.val (.int p0_0), .val (.int p0_1), .val (.int p0_2), .val (.int p0_3), .val (.int (v0_4 p0_0)), .val (.long (v0_13 p0_0)), .second, .unset, .unset, .unset, .unset, .unset, .unset, .unset, .unset, .unset, .unset, .unset, .unset, .unset] [(.long (((p0_1).toInt64) &&& (2147483647 : Int64)))])) _
    refine XS.lload X0.here hx rfl (hb hby at_21) rfl ?_
    show Steps p.tables e below (s₁.setTop (mkF m 23 #[.val (.int p0_0), .val (.int p0_1), .val (.int p0_2), .val (.int p0_3), .val (.int (v0_4 p0_0)), .val (.long (v0_13 p0_0)), .second, .unset, .unset, .unset, .unset, .unset, .unset, .unset, .unset, .unset, .unset, .unset, .unset, .unset] [(.long (v0_13 p0_0)), (.long (((p0_1).toInt64) &&& (2147483647 : Int64)))])) _
    refine XS.lconst X0.here hx rfl (hb hby at_23) ?_
    show Steps p.tables e below (s₁.setTop (mkF m 24 #[.val (.int p0_0), .val (.int p0_1), .val (.int p0_2), .val (.int p0_3), .val (.int (v0_4 p0_0)), .val (.long (v0_13 p0_0)), .second, .unset, .unset, .unset, .unset, .unset, .unset, .unset, .unset, .unset, .unset, .unset, .unset, .unset] [(.long (1 : Int64)), (.long (v0_13 p0_0)), (.long (((p0_1).toInt64) &&& (2147483647 : Int64)))])) _
    refine XS.ladd X0.here hx rfl (hb hby at_24) rfl ?_
    show Steps p.tables e below (s₁.setTop (mkF m 25 #[.val (.int p0_0), .val (.int p0_1), .val (.int p0_2), .val (.int p0_3), .val (.int (v0_4 p0_0)), .val (.long (v0_13 p0_0)), .second, .unset, .unset, .unset, .unset, .unset, .unset, .unset, .unset, .unset, .unset, .unset, .unset, .unset] [(.long ((v0_13 p0_0) + (1 : Int64))), (.long (((p0_1).toInt64) &&& (2147483647 : Int64)))])) _
    refine XS.lrem X0.here hx rfl (hb hby at_25) rfl (own_nz p0_0) ?_
    show Steps p.tables e below (s₁.setTop (mkF m 26 #[.val (.int p0_0), .val (.int p0_1), .val (.int p0_2), .val (.int p0_3), .val (.int (v0_4 p0_0)), .val (.long (v0_13 p0_0)), .second, .unset, .unset, .unset, .unset, .unset, .unset, .unset, .unset, .unset, .unset, .unset, .unset, .unset] [(.long (own_remL (((p0_1).toInt64) &&& (2147483647 : Int64)) ((v0_13 p0_0) + (1 : Int64))))])) _
    refine XS.l2i X0.here hx rfl (hb hby at_26) rfl ?_
    show Steps p.tables e below (s₁.setTop (mkF m 27 #[.val (.int p0_0), .val (.int p0_1), .val (.int p0_2), .val (.int p0_3), .val (.int (v0_4 p0_0)), .val (.long (v0_13 p0_0)), .second, .unset, .unset, .unset, .unset, .unset, .unset, .unset, .unset, .unset, .unset, .unset, .unset, .unset] [(.int (((own_remL (((p0_1).toInt64) &&& (2147483647 : Int64)) ((v0_13 p0_0) + (1 : Int64)))).toInt32))])) _
    show Steps p.tables e below (s₁.setTop (mkF m 27 #[.val (.int p0_0), .val (.int p0_1), .val (.int p0_2), .val (.int p0_3), .val (.int (v0_4 p0_0)), .val (.long (v0_13 p0_0)), .second, .unset, .unset, .unset, .unset, .unset, .unset, .unset, .unset, .unset, .unset, .unset, .unset, .unset] [(.int (v0_27 p0_0 p0_1))])) _
    refine XS.istore X0.here hx rfl (hb hby at_27) rfl (l' := #[.val (.int p0_0), .val (.int p0_1), .val (.int p0_2), .val (.int p0_3), .val (.int (v0_4 p0_0)), .val (.long (v0_13 p0_0)), .second, .val (.int (v0_27 p0_0 p0_1)), .unset, .unset, .unset, .unset, .unset, .unset, .unset, .unset, .unset, .unset, .unset, .unset]) rfl ?_
    show Steps p.tables e below (s₁.setTop (mkF m 29 #[.val (.int p0_0), .val (.int p0_1), .val (.int p0_2), .val (.int p0_3), .val (.int (v0_4 p0_0)), .val (.long (v0_13 p0_0)), .second, .val (.int (v0_27 p0_0 p0_1)), .unset, .unset, .unset, .unset, .unset, .unset, .unset, .unset, .unset, .unset, .unset, .unset] [])) _
    refine XS.iloadN X0.here hx rfl (hb hby at_29) rfl ?_
    show Steps p.tables e below (s₁.setTop (mkF m 30 #[.val (.int p0_0), .val (.int p0_1), .val (.int p0_2), .val (.int p0_3), .val (.int (v0_4 p0_0)), .val (.long (v0_13 p0_0)), .second, .val (.int (v0_27 p0_0 p0_1)), .unset, .unset, .unset, .unset, .unset, .unset, .unset, .unset, .unset, .unset, .unset, .unset] [(.int p0_3)])) _
    refine X0.ldcInt hx hown (mvT hZ (hw _ (List.mem_of_getElem? (i := 0) rfl))) (g := (mkF m 30 #[.val (.int p0_0), .val (.int p0_1), .val (.int p0_2), .val (.int p0_3), .val (.int (v0_4 p0_0)), .val (.long (v0_13 p0_0)), .second, .val (.int (v0_27 p0_0 p0_1)), .unset, .unset, .unset, .unset, .unset, .unset, .unset, .unset, .unset, .unset, .unset, .unset] [(.int p0_3)])) rfl (hb hby at_30) _ ?_
    show Steps p.tables e below (s₁.setTop (mkF m 32 #[.val (.int p0_0), .val (.int p0_1), .val (.int p0_2), .val (.int p0_3), .val (.int (v0_4 p0_0)), .val (.long (v0_13 p0_0)), .second, .val (.int (v0_27 p0_0 p0_1)), .unset, .unset, .unset, .unset, .unset, .unset, .unset, .unset, .unset, .unset, .unset, .unset] [(.int (2147483647 : Int32)), (.int p0_3)])) _
    refine XS.iand X0.here hx rfl (hb hby at_32) rfl ?_
    show Steps p.tables e below (s₁.setTop (mkF m 33 #[.val (.int p0_0), .val (.int p0_1), .val (.int p0_2), .val (.int p0_3), .val (.int (v0_4 p0_0)), .val (.long (v0_13 p0_0)), .second, .val (.int (v0_27 p0_0 p0_1)), .unset, .unset, .unset, .unset, .unset, .unset, .unset, .unset, .unset, .unset, .unset, .unset] [(.int (p0_3 &&& (2147483647 : Int32)))])) _
    refine XS.iconst X0.here hx rfl (hb hby at_33) ?_
    show Steps p.tables e below (s₁.setTop (mkF m 34 #[.val (.int p0_0), .val (.int p0_1), .val (.int p0_2), .val (.int p0_3), .val (.int (v0_4 p0_0)), .val (.long (v0_13 p0_0)), .second, .val (.int (v0_27 p0_0 p0_1)), .unset, .unset, .unset, .unset, .unset, .unset, .unset, .unset, .unset, .unset, .unset, .unset] [(.int (5 : Int32)), (.int (p0_3 &&& (2147483647 : Int32)))])) _
    refine iremM (g := (mkF m 34 #[.val (.int p0_0), .val (.int p0_1), .val (.int p0_2), .val (.int p0_3), .val (.int (v0_4 p0_0)), .val (.long (v0_13 p0_0)), .second, .val (.int (v0_27 p0_0 p0_1)), .unset, .unset, .unset, .unset, .unset, .unset, .unset, .unset, .unset, .unset, .unset, .unset] [(.int (5 : Int32)), (.int (p0_3 &&& (2147483647 : Int32)))])) X0 hx rfl (hb hby at_34) rfl (by decide) ?_
    show Steps p.tables e below (s₁.setTop (mkF m 35 #[.val (.int p0_0), .val (.int p0_1), .val (.int p0_2), .val (.int p0_3), .val (.int (v0_4 p0_0)), .val (.long (v0_13 p0_0)), .second, .val (.int (v0_27 p0_0 p0_1)), .unset, .unset, .unset, .unset, .unset, .unset, .unset, .unset, .unset, .unset, .unset, .unset] [(.int ((p0_3 &&& (2147483647 : Int32)) % (5 : Int32)))])) _
    show Steps p.tables e below (s₁.setTop (mkF m 35 #[.val (.int p0_0), .val (.int p0_1), .val (.int p0_2), .val (.int p0_3), .val (.int (v0_4 p0_0)), .val (.long (v0_13 p0_0)), .second, .val (.int (v0_27 p0_0 p0_1)), .unset, .unset, .unset, .unset, .unset, .unset, .unset, .unset, .unset, .unset, .unset, .unset] [(.int (v0_35 p0_3))])) _
    refine XS.istore X0.here hx rfl (hb hby at_35) rfl (l' := #[.val (.int p0_0), .val (.int p0_1), .val (.int p0_2), .val (.int p0_3), .val (.int (v0_4 p0_0)), .val (.long (v0_13 p0_0)), .second, .val (.int (v0_27 p0_0 p0_1)), .val (.int (v0_35 p0_3)), .unset, .unset, .unset, .unset, .unset, .unset, .unset, .unset, .unset, .unset, .unset]) rfl ?_
    show Steps p.tables e below (s₁.setTop (mkF m 37 #[.val (.int p0_0), .val (.int p0_1), .val (.int p0_2), .val (.int p0_3), .val (.int (v0_4 p0_0)), .val (.long (v0_13 p0_0)), .second, .val (.int (v0_27 p0_0 p0_1)), .val (.int (v0_35 p0_3)), .unset, .unset, .unset, .unset, .unset, .unset, .unset, .unset, .unset, .unset, .unset] [])) _
    refine XS.iload X0.here hx rfl (hb hby at_37) rfl ?_
    show Steps p.tables e below (s₁.setTop (mkF m 39 #[.val (.int p0_0), .val (.int p0_1), .val (.int p0_2), .val (.int p0_3), .val (.int (v0_4 p0_0)), .val (.long (v0_13 p0_0)), .second, .val (.int (v0_27 p0_0 p0_1)), .val (.int (v0_35 p0_3)), .unset, .unset, .unset, .unset, .unset, .unset, .unset, .unset, .unset, .unset, .unset] [(.int (v0_35 p0_3))])) _
    exact k)
  obtain ⟨T2, L2, X2, e2, N2, st2⟩ : ∃ (T' : State) (L' : List Loc), Stand p l e room_1 s m #[(.int p0_0), (.int p0_1), (.int p0_2), (.int p0_3)] below meth c T' L' 0 0 ∧ T'.heap = h0 ∧ Fr n0 L' ∧ ∀ t, Steps p.tables e below (T'.setTop (mkF m 115 #[.val (.int p0_0), .val (.int p0_1), .val (.int p0_2), .val (.int p0_3), .val (.int (v0_4 p0_0)), .val (.long (v0_13 p0_0)), .second, .val (.int (v0_27 p0_0 p0_1)), .val (.int (v0_35 p0_3)), .val (.int (j0_115_9 p0_0 p0_1 p0_2 p0_3)), .unset, .unset, .unset, .unset, .unset, .unset, .unset, .unset, .unset, .unset] [])) t → Steps p.tables e below (s₁.setTop (mkF m 39 #[.val (.int p0_0), .val (.int p0_1), .val (.int p0_2), .val (.int p0_3), .val (.int (v0_4 p0_0)), .val (.long (v0_13 p0_0)), .second, .val (.int (v0_27 p0_0 p0_1)), .val (.int (v0_35 p0_3)), .unset, .unset, .unset, .unset, .unset, .unset, .unset, .unset, .unset, .unset, .unset] [(.int (v0_35 p0_3))])) t := by
    have pre2 : ∀ t, Steps p.tables e below (s₁.setTop (mkF m 39 #[.val (.int p0_0), .val (.int p0_1), .val (.int p0_2), .val (.int p0_3), .val (.int (v0_4 p0_0)), .val (.long (v0_13 p0_0)), .second, .val (.int (v0_27 p0_0 p0_1)), .val (.int (v0_35 p0_3)), .unset, .unset, .unset, .unset, .unset, .unset, .unset, .unset, .unset, .unset, .unset] [(.int (v0_35 p0_3))])) t → Steps p.tables e below (s₁.setTop (mkF m 39 #[.val (.int p0_0), .val (.int p0_1), .val (.int p0_2), .val (.int p0_3), .val (.int (v0_4 p0_0)), .val (.long (v0_13 p0_0)), .second, .val (.int (v0_27 p0_0 p0_1)), .val (.int (v0_35 p0_3)), .unset, .unset, .unset, .unset, .unset, .unset, .unset, .unset, .unset, .unset, .unset] [(.int (v0_35 p0_3))])) t := fun t k => k
    by_cases hc39_3 : (v0_35 p0_3) = (0 : Int32)
    · have pre4 : ∀ t, Steps p.tables e below (s₁.setTop (mkF m 115 #[.val (.int p0_0), .val (.int p0_1), .val (.int p0_2), .val (.int p0_3), .val (.int (v0_4 p0_0)), .val (.long (v0_13 p0_0)), .second, .val (.int (v0_27 p0_0 p0_1)), .val (.int (v0_35 p0_3)), .val (.int (v0_46 p0_2)), .unset, .unset, .unset, .unset, .unset, .unset, .unset, .unset, .unset, .unset] [])) t → Steps p.tables e below (s₁.setTop (mkF m 39 #[.val (.int p0_0), .val (.int p0_1), .val (.int p0_2), .val (.int p0_3), .val (.int (v0_4 p0_0)), .val (.long (v0_13 p0_0)), .second, .val (.int (v0_27 p0_0 p0_1)), .val (.int (v0_35 p0_3)), .unset, .unset, .unset, .unset, .unset, .unset, .unset, .unset, .unset, .unset, .unset] [(.int (v0_35 p0_3))])) t := fun t k => pre2 t (by
        refine XS.ifNo X0.here hx rfl (hb hby at_39) rfl ((if0 _ _).trans (teq hc39_3).2) ?_
        show Steps p.tables e below (s₁.setTop (mkF m 42 #[.val (.int p0_0), .val (.int p0_1), .val (.int p0_2), .val (.int p0_3), .val (.int (v0_4 p0_0)), .val (.long (v0_13 p0_0)), .second, .val (.int (v0_27 p0_0 p0_1)), .val (.int (v0_35 p0_3)), .unset, .unset, .unset, .unset, .unset, .unset, .unset, .unset, .unset, .unset, .unset] [])) _
        refine XS.iloadN X0.here hx rfl (hb hby at_42) rfl ?_
        show Steps p.tables e below (s₁.setTop (mkF m 43 #[.val (.int p0_0), .val (.int p0_1), .val (.int p0_2), .val (.int p0_3), .val (.int (v0_4 p0_0)), .val (.long (v0_13 p0_0)), .second, .val (.int (v0_27 p0_0 p0_1)), .val (.int (v0_35 p0_3)), .unset, .unset, .unset, .unset, .unset, .unset, .unset, .unset, .unset, .unset, .unset] [(.int p0_2)])) _
        refine X0.ldcInt hx hown (mvT hZ (hw _ (List.mem_of_getElem? (i := 0) rfl))) (g := (mkF m 43 #[.val (.int p0_0), .val (.int p0_1), .val (.int p0_2), .val (.int p0_3), .val (.int (v0_4 p0_0)), .val (.long (v0_13 p0_0)), .second, .val (.int (v0_27 p0_0 p0_1)), .val (.int (v0_35 p0_3)), .unset, .unset, .unset, .unset, .unset, .unset, .unset, .unset, .unset, .unset, .unset] [(.int p0_2)])) rfl (hb hby at_43) _ ?_
        show Steps p.tables e below (s₁.setTop (mkF m 45 #[.val (.int p0_0), .val (.int p0_1), .val (.int p0_2), .val (.int p0_3), .val (.int (v0_4 p0_0)), .val (.long (v0_13 p0_0)), .second, .val (.int (v0_27 p0_0 p0_1)), .val (.int (v0_35 p0_3)), .unset, .unset, .unset, .unset, .unset, .unset, .unset, .unset, .unset, .unset, .unset] [(.int (2147483647 : Int32)), (.int p0_2)])) _
        refine XS.iand X0.here hx rfl (hb hby at_45) rfl ?_
        show Steps p.tables e below (s₁.setTop (mkF m 46 #[.val (.int p0_0), .val (.int p0_1), .val (.int p0_2), .val (.int p0_3), .val (.int (v0_4 p0_0)), .val (.long (v0_13 p0_0)), .second, .val (.int (v0_27 p0_0 p0_1)), .val (.int (v0_35 p0_3)), .unset, .unset, .unset, .unset, .unset, .unset, .unset, .unset, .unset, .unset, .unset] [(.int (p0_2 &&& (2147483647 : Int32)))])) _
        show Steps p.tables e below (s₁.setTop (mkF m 46 #[.val (.int p0_0), .val (.int p0_1), .val (.int p0_2), .val (.int p0_3), .val (.int (v0_4 p0_0)), .val (.long (v0_13 p0_0)), .second, .val (.int (v0_27 p0_0 p0_1)), .val (.int (v0_35 p0_3)), .unset, .unset, .unset, .unset, .unset, .unset, .unset, .unset, .unset, .unset, .unset] [(.int (v0_46 p0_2))])) _
        refine XS.istore X0.here hx rfl (hb hby at_46) rfl (l' := #[.val (.int p0_0), .val (.int p0_1), .val (.int p0_2), .val (.int p0_3), .val (.int (v0_4 p0_0)), .val (.long (v0_13 p0_0)), .second, .val (.int (v0_27 p0_0 p0_1)), .val (.int (v0_35 p0_3)), .val (.int (v0_46 p0_2)), .unset, .unset, .unset, .unset, .unset, .unset, .unset, .unset, .unset, .unset]) rfl ?_
        show Steps p.tables e below (s₁.setTop (mkF m 48 #[.val (.int p0_0), .val (.int p0_1), .val (.int p0_2), .val (.int p0_3), .val (.int (v0_4 p0_0)), .val (.long (v0_13 p0_0)), .second, .val (.int (v0_27 p0_0 p0_1)), .val (.int (v0_35 p0_3)), .val (.int (v0_46 p0_2)), .unset, .unset, .unset, .unset, .unset, .unset, .unset, .unset, .unset, .unset] [])) _
        refine XS.goto X0.here hx rfl (pc0 := 48) (pc' := 115) rfl (hb hby at_48) (by decide) (by decide) ?_
        show Steps p.tables e below (s₁.setTop (mkF m 115 #[.val (.int p0_0), .val (.int p0_1), .val (.int p0_2), .val (.int p0_3), .val (.int (v0_4 p0_0)), .val (.long (v0_13 p0_0)), .second, .val (.int (v0_27 p0_0 p0_1)), .val (.int (v0_35 p0_3)), .val (.int (v0_46 p0_2)), .unset, .unset, .unset, .unset, .unset, .unset, .unset, .unset, .unset, .unset] [])) _
        exact k)
      have hj19 : (j0_115_9 p0_0 p0_1 p0_2 p0_3) = (v0_46 p0_2) := by unfold j0_115_9; rw [if_pos hc39_3]
      exact ⟨s₁, _, X0, e0, N0, fun t k => pre4 t (by rw [hj19] at k; exact k)⟩
    · have pre5 : ∀ t, Steps p.tables e below (s₁.setTop (mkF m 54 #[.val (.int p0_0), .val (.int p0_1), .val (.int p0_2), .val (.int p0_3), .val (.int (v0_4 p0_0)), .val (.long (v0_13 p0_0)), .second, .val (.int (v0_27 p0_0 p0_1)), .val (.int (v0_35 p0_3)), .unset, .unset, .unset, .unset, .unset, .unset, .unset, .unset, .unset, .unset, .unset] [(.int (1 : Int32)), (.int (v0_35 p0_3))])) t → Steps p.tables e below (s₁.setTop (mkF m 39 #[.val (.int p0_0), .val (.int p0_1), .val (.int p0_2), .val (.int p0_3), .val (.int (v0_4 p0_0)), .val (.long (v0_13 p0_0)), .second, .val (.int (v0_27 p0_0 p0_1)), .val (.int (v0_35 p0_3)), .unset, .unset, .unset, .unset, .unset, .unset, .unset, .unset, .unset, .unset, .unset] [(.int (v0_35 p0_3))])) t := fun t k => pre2 t (by
        refine XS.ifYes X0.here hx rfl (pc0 := 39) (pc' := 51) rfl (hb hby at_39) rfl ((if0 _ _).trans (feq hc39_3).2) (by decide) (by decide) ?_
        show Steps p.tables e below (s₁.setTop (mkF m 51 #[.val (.int p0_0), .val (.int p0_1), .val (.int p0_2), .val (.int p0_3), .val (.int (v0_4 p0_0)), .val (.long (v0_13 p0_0)), .second, .val (.int (v0_27 p0_0 p0_1)), .val (.int (v0_35 p0_3)), .unset, .unset, .unset, .unset, .unset, .unset, .unset, .unset, .unset, .unset, .unset] [])) _
        refine XS.iload X0.here hx rfl (hb hby at_51) rfl ?_
        show Steps p.tables e below (s₁.setTop (mkF m 53 #[.val (.int p0_0), .val (.int p0_1), .val (.int p0_2), .val (.int p0_3), .val (.int (v0_4 p0_0)), .val (.long (v0_13 p0_0)), .second, .val (.int (v0_27 p0_0 p0_1)), .val (.int (v0_35 p0_3)), .unset, .unset, .unset, .unset, .unset, .unset, .unset, .unset, .unset, .unset, .unset] [(.int (v0_35 p0_3))])) _
        refine XS.iconst X0.here hx rfl (hb hby at_53) ?_
        show Steps p.tables e below (s₁.setTop (mkF m 54 #[.val (.int p0_0), .val (.int p0_1), .val (.int p0_2), .val (.int p0_3), .val (.int (v0_4 p0_0)), .val (.long (v0_13 p0_0)), .second, .val (.int (v0_27 p0_0 p0_1)), .val (.int (v0_35 p0_3)), .unset, .unset, .unset, .unset, .unset, .unset, .unset, .unset, .unset, .unset, .unset] [(.int (1 : Int32)), (.int (v0_35 p0_3))])) _
        exact k)
      by_cases hc54_6 : (v0_35 p0_3) = (1 : Int32)
      · have pre7 : ∀ t, Steps p.tables e below (s₁.setTop (mkF m 62 #[.val (.int p0_0), .val (.int p0_1), .val (.int p0_2), .val (.int p0_3), .val (.int (v0_4 p0_0)), .val (.long (v0_13 p0_0)), .second, .val (.int (v0_27 p0_0 p0_1)), .val (.int (v0_35 p0_3)), .unset, .unset, .unset, .unset, .unset, .unset, .unset, .unset, .unset, .unset, .unset] [(.int ((v0_4 p0_0) - (1 : Int32))), (.int (0 : Int32))])) t → Steps p.tables e below (s₁.setTop (mkF m 39 #[.val (.int p0_0), .val (.int p0_1), .val (.int p0_2), .val (.int p0_3), .val (.int (v0_4 p0_0)), .val (.long (v0_13 p0_0)), .second, .val (.int (v0_27 p0_0 p0_1)), .val (.int (v0_35 p0_3)), .unset, .unset, .unset, .unset, .unset, .unset, .unset, .unset, .unset, .unset, .unset] [(.int (v0_35 p0_3))])) t := fun t k => pre5 t (by
          refine XS.icmpNo X0.here hx rfl (hb hby at_54) rfl (teq hc54_6).2 ?_
          show Steps p.tables e below (s₁.setTop (mkF m 57 #[.val (.int p0_0), .val (.int p0_1), .val (.int p0_2), .val (.int p0_3), .val (.int (v0_4 p0_0)), .val (.long (v0_13 p0_0)), .second, .val (.int (v0_27 p0_0 p0_1)), .val (.int (v0_35 p0_3)), .unset, .unset, .unset, .unset, .unset, .unset, .unset, .unset, .unset, .unset, .unset] [])) _
          refine XS.iconst X0.here hx rfl (hb hby at_57) ?_
          show Steps p.tables e below (s₁.setTop (mkF m 58 #[.val (.int p0_0), .val (.int p0_1), .val (.int p0_2), .val (.int p0_3), .val (.int (v0_4 p0_0)), .val (.long (v0_13 p0_0)), .second, .val (.int (v0_27 p0_0 p0_1)), .val (.int (v0_35 p0_3)), .unset, .unset, .unset, .unset, .unset, .unset, .unset, .unset, .unset, .unset, .unset] [(.int (0 : Int32))])) _
          refine XS.iload X0.here hx rfl (hb hby at_58) rfl ?_
          show Steps p.tables e below (s₁.setTop (mkF m 60 #[.val (.int p0_0), .val (.int p0_1), .val (.int p0_2), .val (.int p0_3), .val (.int (v0_4 p0_0)), .val (.long (v0_13 p0_0)), .second, .val (.int (v0_27 p0_0 p0_1)), .val (.int (v0_35 p0_3)), .unset, .unset, .unset, .unset, .unset, .unset, .unset, .unset, .unset, .unset, .unset] [(.int (v0_4 p0_0)), (.int (0 : Int32))])) _
          refine XS.iconst X0.here hx rfl (hb hby at_60) ?_
          show Steps p.tables e below (s₁.setTop (mkF m 61 #[.val (.int p0_0), .val (.int p0_1), .val (.int p0_2), .val (.int p0_3), .val (.int (v0_4 p0_0)), .val (.long (v0_13 p0_0)), .second, .val (.int (v0_27 p0_0 p0_1)), .val (.int (v0_35 p0_3)), .unset, .unset, .unset, .unset, .unset, .unset, .unset, .unset, .unset, .unset, .unset] [(.int (1 : Int32)), (.int (v0_4 p0_0)), (.int (0 : Int32))])) _
          refine XS.isub X0.here hx rfl (hb hby at_61) rfl ?_
          show Steps p.tables e below (s₁.setTop (mkF m 62 #[.val (.int p0_0), .val (.int p0_1), .val (.int p0_2), .val (.int p0_3), .val (.int (v0_4 p0_0)), .val (.long (v0_13 p0_0)), .second, .val (.int (v0_27 p0_0 p0_1)), .val (.int (v0_35 p0_3)), .unset, .unset, .unset, .unset, .unset, .unset, .unset, .unset, .unset, .unset, .unset] [(.int ((v0_4 p0_0) - (1 : Int32))), (.int (0 : Int32))])) _
          exact k)
        obtain ⟨_, _, ⟨T8, L8, k8, n8⟩, -, X8, ⟨Lc8, hQ8, l8, y8, z8⟩, st8⟩ := Jvm.LawKit.callS X0 hx (y := (⟨"java/lang/Math", "max", "(II)I"⟩ : MethodName)) hown (mvT hZ (hw _ (List.mem_of_getElem? (i := 2) rfl))) (mvT hZ (hw _ (List.mem_of_getElem? (i := 3) rfl))) (mvT hZ (hw _ (List.mem_of_getElem? (i := 4) rfl))) (mvT hZ (hw _ (List.mem_of_getElem? (i := 5) rfl))) (by decide) (backOf (W := 0) (rm1 l Z a0 hw [] (0 : Int32) ((v0_4 p0_0) - (1 : Int32)) h0 n0 Z0 ) hZ (hw _ (List.mem_of_getElem? (i := 5) rfl)) (hw _ (List.mem_of_getElem? (i := 4) rfl)) (by decide) (by decide)) (g := (mkF m 62 #[.val (.int p0_0), .val (.int p0_1), .val (.int p0_2), .val (.int p0_3), .val (.int (v0_4 p0_0)), .val (.long (v0_13 p0_0)), .second, .val (.int (v0_27 p0_0 p0_1)), .val (.int (v0_35 p0_3)), .unset, .unset, .unset, .unset, .unset, .unset, .unset, .unset, .unset, .unset, .unset] [(.int ((v0_4 p0_0) - (1 : Int32))), (.int (0 : Int32))])) rfl (by rw [hml]; rfl) (argsL := [(.int (0 : Int32)), (.int ((v0_4 p0_0) - (1 : Int32)))]) (rest := []) (lenOf pd_3 rfl) rfl (by show 2 * 0 + _ ≤ _; exact Nat.le_of_eq rfl) (hb hby at_62) (fun _ _ => ⟨rfl, e0, (by decide : 0 + 0 ≤ _), (by decide : 0 + 0 ≤ _)⟩)
        dsimp only [Pt.U, Pt.locs, Pt.cells, Pt.slots] at X8 l8 y8 z8 st8 hQ8
        subst l8 y8 z8
        obtain ⟨rfl, M8, e8⟩ := hQ8
        have N8 := Fr.app N0 M8
        have pre8 : ∀ t, Steps p.tables e below (T8.setTop (mkF m 65 #[.val (.int p0_0), .val (.int p0_1), .val (.int p0_2), .val (.int p0_3), .val (.int (v0_4 p0_0)), .val (.long (v0_13 p0_0)), .second, .val (.int (v0_27 p0_0 p0_1)), .val (.int (v0_35 p0_3)), .unset, .unset, .unset, .unset, .unset, .unset, .unset, .unset, .unset, .unset, .unset] [(.int (r1 (0 : Int32) ((v0_4 p0_0) - (1 : Int32))))])) t → Steps p.tables e below (s₁.setTop (mkF m 39 #[.val (.int p0_0), .val (.int p0_1), .val (.int p0_2), .val (.int p0_3), .val (.int (v0_4 p0_0)), .val (.long (v0_13 p0_0)), .second, .val (.int (v0_27 p0_0 p0_1)), .val (.int (v0_35 p0_3)), .unset, .unset, .unset, .unset, .unset, .unset, .unset, .unset, .unset, .unset, .unset] [(.int (v0_35 p0_3))])) t := fun t k => pre7 t (st8 t k)
        have pre9 : ∀ t, Steps p.tables e below (T8.setTop (mkF m 115 #[.val (.int p0_0), .val (.int p0_1), .val (.int p0_2), .val (.int p0_3), .val (.int (v0_4 p0_0)), .val (.long (v0_13 p0_0)), .second, .val (.int (v0_27 p0_0 p0_1)), .val (.int (v0_35 p0_3)), .val (.int (v0_65 p0_0)), .unset, .unset, .unset, .unset, .unset, .unset, .unset, .unset, .unset, .unset] [])) t → Steps p.tables e below (s₁.setTop (mkF m 39 #[.val (.int p0_0), .val (.int p0_1), .val (.int p0_2), .val (.int p0_3), .val (.int (v0_4 p0_0)), .val (.long (v0_13 p0_0)), .second, .val (.int (v0_27 p0_0 p0_1)), .val (.int (v0_35 p0_3)), .unset, .unset, .unset, .unset, .unset, .unset, .unset, .unset, .unset, .unset, .unset] [(.int (v0_35 p0_3))])) t := fun t k => pre8 t (by
          show Steps p.tables e below (T8.setTop (mkF m 65 #[.val (.int p0_0), .val (.int p0_1), .val (.int p0_2), .val (.int p0_3), .val (.int (v0_4 p0_0)), .val (.long (v0_13 p0_0)), .second, .val (.int (v0_27 p0_0 p0_1)), .val (.int (v0_35 p0_3)), .unset, .unset, .unset, .unset, .unset, .unset, .unset, .unset, .unset, .unset, .unset] [(.int (v0_65 p0_0))])) _
          refine XS.istore X8.here hx rfl (hb hby at_65) rfl (l' := #[.val (.int p0_0), .val (.int p0_1), .val (.int p0_2), .val (.int p0_3), .val (.int (v0_4 p0_0)), .val (.long (v0_13 p0_0)), .second, .val (.int (v0_27 p0_0 p0_1)), .val (.int (v0_35 p0_3)), .val (.int (v0_65 p0_0)), .unset, .unset, .unset, .unset, .unset, .unset, .unset, .unset, .unset, .unset]) rfl ?_
          show Steps p.tables e below (T8.setTop (mkF m 67 #[.val (.int p0_0), .val (.int p0_1), .val (.int p0_2), .val (.int p0_3), .val (.int (v0_4 p0_0)), .val (.long (v0_13 p0_0)), .second, .val (.int (v0_27 p0_0 p0_1)), .val (.int (v0_35 p0_3)), .val (.int (v0_65 p0_0)), .unset, .unset, .unset, .unset, .unset, .unset, .unset, .unset, .unset, .unset] [])) _
          refine XS.goto X8.here hx rfl (pc0 := 67) (pc' := 115) rfl (hb hby at_67) (by decide) (by decide) ?_
          show Steps p.tables e below (T8.setTop (mkF m 115 #[.val (.int p0_0), .val (.int p0_1), .val (.int p0_2), .val (.int p0_3), .val (.int (v0_4 p0_0)), .val (.long (v0_13 p0_0)), .second, .val (.int (v0_27 p0_0 p0_1)), .val (.int (v0_35 p0_3)), .val (.int (v0_65 p0_0)), .unset, .unset, .unset, .unset, .unset, .unset, .unset, .unset, .unset, .unset] [])) _
          exact k)
        have hj20 : (j0_115_9 p0_0 p0_1 p0_2 p0_3) = (v0_65 p0_0) := by unfold j0_115_9; rw [if_neg hc39_3, if_pos hc54_6]
        exact ⟨T8, _, X8, e8, N8, fun t k => pre9 t (by rw [hj20] at k; exact k)⟩
      · have pre10 : ∀ t, Steps p.tables e below (s₁.setTop (mkF m 73 #[.val (.int p0_0), .val (.int p0_1), .val (.int p0_2), .val (.int p0_3), .val (.int (v0_4 p0_0)), .val (.long (v0_13 p0_0)), .second, .val (.int (v0_27 p0_0 p0_1)), .val (.int (v0_35 p0_3)), .unset, .unset, .unset, .unset, .unset, .unset, .unset, .unset, .unset, .unset, .unset] [(.int (2 : Int32)), (.int (v0_35 p0_3))])) t → Steps p.tables e below (s₁.setTop (mkF m 39 #[.val (.int p0_0), .val (.int p0_1), .val (.int p0_2), .val (.int p0_3), .val (.int (v0_4 p0_0)), .val (.long (v0_13 p0_0)), .second, .val (.int (v0_27 p0_0 p0_1)), .val (.int (v0_35 p0_3)), .unset, .unset, .unset, .unset, .unset, .unset, .unset, .unset, .unset, .unset, .unset] [(.int (v0_35 p0_3))])) t := fun t k => pre5 t (by
          refine XS.icmpYes X0.here hx rfl (pc0 := 54) (pc' := 70) rfl (hb hby at_54) rfl (feq hc54_6).2 (by decide) (by decide) ?_
          show Steps p.tables e below (s₁.setTop (mkF m 70 #[.val (.int p0_0), .val (.int p0_1), .val (.int p0_2), .val (.int p0_3), .val (.int (v0_4 p0_0)), .val (.long (v0_13 p0_0)), .second, .val (.int (v0_27 p0_0 p0_1)), .val (.int (v0_35 p0_3)), .unset, .unset, .unset, .unset, .unset, .unset, .unset, .unset, .unset, .unset, .unset] [])) _
          refine XS.iload X0.here hx rfl (hb hby at_70) rfl ?_
          show Steps p.tables e below (s₁.setTop (mkF m 72 #[.val (.int p0_0), .val (.int p0_1), .val (.int p0_2), .val (.int p0_3), .val (.int (v0_4 p0_0)), .val (.long (v0_13 p0_0)), .second, .val (.int (v0_27 p0_0 p0_1)), .val (.int (v0_35 p0_3)), .unset, .unset, .unset, .unset, .unset, .unset, .unset, .unset, .unset, .unset, .unset] [(.int (v0_35 p0_3))])) _
          refine XS.iconst X0.here hx rfl (hb hby at_72) ?_
          show Steps p.tables e below (s₁.setTop (mkF m 73 #[.val (.int p0_0), .val (.int p0_1), .val (.int p0_2), .val (.int p0_3), .val (.int (v0_4 p0_0)), .val (.long (v0_13 p0_0)), .second, .val (.int (v0_27 p0_0 p0_1)), .val (.int (v0_35 p0_3)), .unset, .unset, .unset, .unset, .unset, .unset, .unset, .unset, .unset, .unset, .unset] [(.int (2 : Int32)), (.int (v0_35 p0_3))])) _
          exact k)
        by_cases hc73_11 : (v0_35 p0_3) = (2 : Int32)
        · have pre12 : ∀ t, Steps p.tables e below (s₁.setTop (mkF m 115 #[.val (.int p0_0), .val (.int p0_1), .val (.int p0_2), .val (.int p0_3), .val (.int (v0_4 p0_0)), .val (.long (v0_13 p0_0)), .second, .val (.int (v0_27 p0_0 p0_1)), .val (.int (v0_35 p0_3)), .val (.int (v0_4 p0_0)), .unset, .unset, .unset, .unset, .unset, .unset, .unset, .unset, .unset, .unset] [])) t → Steps p.tables e below (s₁.setTop (mkF m 39 #[.val (.int p0_0), .val (.int p0_1), .val (.int p0_2), .val (.int p0_3), .val (.int (v0_4 p0_0)), .val (.long (v0_13 p0_0)), .second, .val (.int (v0_27 p0_0 p0_1)), .val (.int (v0_35 p0_3)), .unset, .unset, .unset, .unset, .unset, .unset, .unset, .unset, .unset, .unset, .unset] [(.int (v0_35 p0_3))])) t := fun t k => pre10 t (by
            refine XS.icmpNo X0.here hx rfl (hb hby at_73) rfl (teq hc73_11).2 ?_
            show Steps p.tables e below (s₁.setTop (mkF m 76 #[.val (.int p0_0), .val (.int p0_1), .val (.int p0_2), .val (.int p0_3), .val (.int (v0_4 p0_0)), .val (.long (v0_13 p0_0)), .second, .val (.int (v0_27 p0_0 p0_1)), .val (.int (v0_35 p0_3)), .unset, .unset, .unset, .unset, .unset, .unset, .unset, .unset, .unset, .unset, .unset] [])) _
            refine XS.iload X0.here hx rfl (hb hby at_76) rfl ?_
            show Steps p.tables e below (s₁.setTop (mkF m 78 #[.val (.int p0_0), .val (.int p0_1), .val (.int p0_2), .val (.int p0_3), .val (.int (v0_4 p0_0)), .val (.long (v0_13 p0_0)), .second, .val (.int (v0_27 p0_0 p0_1)), .val (.int (v0_35 p0_3)), .unset, .unset, .unset, .unset, .unset, .unset, .unset, .unset, .unset, .unset, .unset] [(.int (v0_4 p0_0))])) _
            refine XS.istore X0.here hx rfl (hb hby at_78) rfl (l' := #[.val (.int p0_0), .val (.int p0_1), .val (.int p0_2), .val (.int p0_3), .val (.int (v0_4 p0_0)), .val (.long (v0_13 p0_0)), .second, .val (.int (v0_27 p0_0 p0_1)), .val (.int (v0_35 p0_3)), .val (.int (v0_4 p0_0)), .unset, .unset, .unset, .unset, .unset, .unset, .unset, .unset, .unset, .unset]) rfl ?_
            show Steps p.tables e below (s₁.setTop (mkF m 80 #[.val (.int p0_0), .val (.int p0_1), .val (.int p0_2), .val (.int p0_3), .val (.int (v0_4 p0_0)), .val (.long (v0_13 p0_0)), .second, .val (.int (v0_27 p0_0 p0_1)), .val (.int (v0_35 p0_3)), .val (.int (v0_4 p0_0)), .unset, .unset, .unset, .unset, .unset, .unset, .unset, .unset, .unset, .unset] [])) _
            refine XS.goto X0.here hx rfl (pc0 := 80) (pc' := 115) rfl (hb hby at_80) (by decide) (by decide) ?_
            show Steps p.tables e below (s₁.setTop (mkF m 115 #[.val (.int p0_0), .val (.int p0_1), .val (.int p0_2), .val (.int p0_3), .val (.int (v0_4 p0_0)), .val (.long (v0_13 p0_0)), .second, .val (.int (v0_27 p0_0 p0_1)), .val (.int (v0_35 p0_3)), .val (.int (v0_4 p0_0)), .unset, .unset, .unset, .unset, .unset, .unset, .unset, .unset, .unset, .unset] [])) _
            exact k)
          have hj21 : (j0_115_9 p0_0 p0_1 p0_2 p0_3) = (v0_4 p0_0) := by unfold j0_115_9; rw [if_neg hc39_3, if_neg hc54_6, if_pos hc73_11]
          exact ⟨s₁, _, X0, e0, N0, fun t k => pre12 t (by rw [hj21] at k; exact k)⟩
        · have pre13 : ∀ t, Steps p.tables e below (s₁.setTop (mkF m 86 #[.val (.int p0_0), .val (.int p0_1), .val (.int p0_2), .val (.int p0_3), .val (.int (v0_4 p0_0)), .val (.long (v0_13 p0_0)), .second, .val (.int (v0_27 p0_0 p0_1)), .val (.int (v0_35 p0_3)), .unset, .unset, .unset, .unset, .unset, .unset, .unset, .unset, .unset, .unset, .unset] [(.int (3 : Int32)), (.int (v0_35 p0_3))])) t → Steps p.tables e below (s₁.setTop (mkF m 39 #[.val (.int p0_0), .val (.int p0_1), .val (.int p0_2), .val (.int p0_3), .val (.int (v0_4 p0_0)), .val (.long (v0_13 p0_0)), .second, .val (.int (v0_27 p0_0 p0_1)), .val (.int (v0_35 p0_3)), .unset, .unset, .unset, .unset, .unset, .unset, .unset, .unset, .unset, .unset, .unset] [(.int (v0_35 p0_3))])) t := fun t k => pre10 t (by
            refine XS.icmpYes X0.here hx rfl (pc0 := 73) (pc' := 83) rfl (hb hby at_73) rfl (feq hc73_11).2 (by decide) (by decide) ?_
            show Steps p.tables e below (s₁.setTop (mkF m 83 #[.val (.int p0_0), .val (.int p0_1), .val (.int p0_2), .val (.int p0_3), .val (.int (v0_4 p0_0)), .val (.long (v0_13 p0_0)), .second, .val (.int (v0_27 p0_0 p0_1)), .val (.int (v0_35 p0_3)), .unset, .unset, .unset, .unset, .unset, .unset, .unset, .unset, .unset, .unset, .unset] [])) _
            refine XS.iload X0.here hx rfl (hb hby at_83) rfl ?_
            show Steps p.tables e below (s₁.setTop (mkF m 85 #[.val (.int p0_0), .val (.int p0_1), .val (.int p0_2), .val (.int p0_3), .val (.int (v0_4 p0_0)), .val (.long (v0_13 p0_0)), .second, .val (.int (v0_27 p0_0 p0_1)), .val (.int (v0_35 p0_3)), .unset, .unset, .unset, .unset, .unset, .unset, .unset, .unset, .unset, .unset, .unset] [(.int (v0_35 p0_3))])) _
            refine XS.iconst X0.here hx rfl (hb hby at_85) ?_
            show Steps p.tables e below (s₁.setTop (mkF m 86 #[.val (.int p0_0), .val (.int p0_1), .val (.int p0_2), .val (.int p0_3), .val (.int (v0_4 p0_0)), .val (.long (v0_13 p0_0)), .second, .val (.int (v0_27 p0_0 p0_1)), .val (.int (v0_35 p0_3)), .unset, .unset, .unset, .unset, .unset, .unset, .unset, .unset, .unset, .unset, .unset] [(.int (3 : Int32)), (.int (v0_35 p0_3))])) _
            exact k)
          by_cases hc86_14 : (v0_35 p0_3) = (3 : Int32)
          · have pre15 : ∀ t, Steps p.tables e below (s₁.setTop (mkF m 99 #[.val (.int p0_0), .val (.int p0_1), .val (.int p0_2), .val (.int p0_3), .val (.int (v0_4 p0_0)), .val (.long (v0_13 p0_0)), .second, .val (.int (v0_27 p0_0 p0_1)), .val (.int (v0_35 p0_3)), .unset, .unset, .unset, .unset, .unset, .unset, .unset, .unset, .unset, .unset, .unset] [(.long (((((v0_4 p0_0)).toInt64) + (((v0_27 p0_0 p0_1)).toInt64)) - (1 : Int64))), (.long (0 : Int64))])) t → Steps p.tables e below (s₁.setTop (mkF m 39 #[.val (.int p0_0), .val (.int p0_1), .val (.int p0_2), .val (.int p0_3), .val (.int (v0_4 p0_0)), .val (.long (v0_13 p0_0)), .second, .val (.int (v0_27 p0_0 p0_1)), .val (.int (v0_35 p0_3)), .unset, .unset, .unset, .unset, .unset, .unset, .unset, .unset, .unset, .unset, .unset] [(.int (v0_35 p0_3))])) t := fun t k => pre13 t (by
              refine XS.icmpNo X0.here hx rfl (hb hby at_86) rfl (teq hc86_14).2 ?_
              show Steps p.tables e below (s₁.setTop (mkF m 89 #[.val (.int p0_0), .val (.int p0_1), .val (.int p0_2), .val (.int p0_3), .val (.int (v0_4 p0_0)), .val (.long (v0_13 p0_0)), .second, .val (.int (v0_27 p0_0 p0_1)), .val (.int (v0_35 p0_3)), .unset, .unset, .unset, .unset, .unset, .unset, .unset, .unset, .unset, .unset, .unset] [])) _
              refine XS.lconst X0.here hx rfl (hb hby at_89) ?_
              show Steps p.tables e below (s₁.setTop (mkF m 90 #[.val (.int p0_0), .val (.int p0_1), .val (.int p0_2), .val (.int p0_3), .val (.int (v0_4 p0_0)), .val (.long (v0_13 p0_0)), .second, .val (.int (v0_27 p0_0 p0_1)), .val (.int (v0_35 p0_3)), .unset, .unset, .unset, .unset, .unset, .unset, .unset, .unset, .unset, .unset, .unset] [(.long (0 : Int64))])) _
              refine XS.iload X0.here hx rfl (hb hby at_90) rfl ?_
              show Steps p.tables e below (s₁.setTop (mkF m 92 #[.val (.int p0_0), .val (.int p0_1), .val (.int p0_2), .val (.int p0_3), .val (.int (v0_4 p0_0)), .val (.long (v0_13 p0_0)), .second, .val (.int (v0_27 p0_0 p0_1)), .val (.int (v0_35 p0_3)), .unset, .unset, .unset, .unset, .unset, .unset, .unset, .unset, .unset, .unset, .unset] [(.int (v0_4 p0_0)), (.long (0 : Int64))])) _
              refine XS.i2l X0.here hx rfl (hb hby at_92) rfl ?_
              show Steps p.tables e below (s₁.setTop (mkF m 93 #[.val (.int p0_0), .val (.int p0_1), .val (.int p0_2), .val (.int p0_3), .val (.int (v0_4 p0_0)), .val (.long (v0_13 p0_0)), .second, .val (.int (v0_27 p0_0 p0_1)), .val (.int (v0_35 p0_3)), .unset, .unset, .unset, .unset, .unset, .unset, .unset, .unset, .unset, .unset, .unset] [(.long (((v0_4 p0_0)).toInt64)), (.long (0 : Int64))])) _
              refine XS.iload X0.here hx rfl (hb hby at_93) rfl ?_
              show Steps p.tables e below (s₁.setTop (mkF m 95 #[.val (.int p0_0), .val (.int p0_1), .val (.int p0_2), .val (.int p0_3), .val (.int (v0_4 p0_0)), .val (.long (v0_13 p0_0)), .second, .val (.int (v0_27 p0_0 p0_1)), .val (.int (v0_35 p0_3)), .unset, .unset, .unset, .unset, .unset, .unset, .unset, .unset, .unset, .unset, .unset] [(.int (v0_27 p0_0 p0_1)), (.long (((v0_4 p0_0)).toInt64)), (.long (0 : Int64))])) _
              refine XS.i2l X0.here hx rfl (hb hby at_95) rfl ?_
              show Steps p.tables e below (s₁.setTop (mkF m 96 #[.val (.int p0_0), .val (.int p0_1), .val (.int p0_2), .val (.int p0_3), .val (.int (v0_4 p0_0)), .val (.long (v0_13 p0_0)), .second, .val (.int (v0_27 p0_0 p0_1)), .val (.int (v0_35 p0_3)), .unset, .unset, .unset, .unset, .unset, .unset, .unset, .unset, .unset, .unset, .unset] [(.long (((v0_27 p0_0 p0_1)).toInt64)), (.long (((v0_4 p0_0)).toInt64)), (.long (0 : Int64))])) _
              refine XS.ladd X0.here hx rfl (hb hby at_96) rfl ?_
              show Steps p.tables e below (s₁.setTop (mkF m 97 #[.val (.int p0_0), .val (.int p0_1), .val (.int p0_2), .val (.int p0_3), .val (.int (v0_4 p0_0)), .val (.long (v0_13 p0_0)), .second, .val (.int (v0_27 p0_0 p0_1)), .val (.int (v0_35 p0_3)), .unset, .unset, .unset, .unset, .unset, .unset, .unset, .unset, .unset, .unset, .unset] [(.long ((((v0_4 p0_0)).toInt64) + (((v0_27 p0_0 p0_1)).toInt64))), (.long (0 : Int64))])) _
              refine XS.lconst X0.here hx rfl (hb hby at_97) ?_
              show Steps p.tables e below (s₁.setTop (mkF m 98 #[.val (.int p0_0), .val (.int p0_1), .val (.int p0_2), .val (.int p0_3), .val (.int (v0_4 p0_0)), .val (.long (v0_13 p0_0)), .second, .val (.int (v0_27 p0_0 p0_1)), .val (.int (v0_35 p0_3)), .unset, .unset, .unset, .unset, .unset, .unset, .unset, .unset, .unset, .unset, .unset] [(.long (1 : Int64)), (.long ((((v0_4 p0_0)).toInt64) + (((v0_27 p0_0 p0_1)).toInt64))), (.long (0 : Int64))])) _
              refine XS.lsub X0.here hx rfl (hb hby at_98) rfl ?_
              show Steps p.tables e below (s₁.setTop (mkF m 99 #[.val (.int p0_0), .val (.int p0_1), .val (.int p0_2), .val (.int p0_3), .val (.int (v0_4 p0_0)), .val (.long (v0_13 p0_0)), .second, .val (.int (v0_27 p0_0 p0_1)), .val (.int (v0_35 p0_3)), .unset, .unset, .unset, .unset, .unset, .unset, .unset, .unset, .unset, .unset, .unset] [(.long (((((v0_4 p0_0)).toInt64) + (((v0_27 p0_0 p0_1)).toInt64)) - (1 : Int64))), (.long (0 : Int64))])) _
              exact k)
            obtain ⟨_, _, ⟨T16, L16, k16, n16⟩, -, X16, ⟨Lc16, hQ16, l16, y16, z16⟩, st16⟩ := Jvm.LawKit.callS X0 hx (y := (⟨"java/lang/Math", "max", "(JJ)J"⟩ : MethodName)) hown (mvT hZ (hw _ (List.mem_of_getElem? (i := 39) rfl))) (mvT hZ (hw _ (List.mem_of_getElem? (i := 40) rfl))) (mvT hZ (hw _ (List.mem_of_getElem? (i := 4) rfl))) (mvT hZ (hw _ (List.mem_of_getElem? (i := 41) rfl))) (by decide) (backOf (W := 0) (rm8 l Z a0 hw [] (0 : Int64) (((((v0_4 p0_0)).toInt64) + (((v0_27 p0_0 p0_1)).toInt64)) - (1 : Int64)) h0 n0 Z0 ) hZ (hw _ (List.mem_of_getElem? (i := 41) rfl)) (hw _ (List.mem_of_getElem? (i := 4) rfl)) (by decide) (by decide)) (g := (mkF m 99 #[.val (.int p0_0), .val (.int p0_1), .val (.int p0_2), .val (.int p0_3), .val (.int (v0_4 p0_0)), .val (.long (v0_13 p0_0)), .second, .val (.int (v0_27 p0_0 p0_1)), .val (.int (v0_35 p0_3)), .unset, .unset, .unset, .unset, .unset, .unset, .unset, .unset, .unset, .unset, .unset] [(.long (((((v0_4 p0_0)).toInt64) + (((v0_27 p0_0 p0_1)).toInt64)) - (1 : Int64))), (.long (0 : Int64))])) rfl (by rw [hml]; rfl) (argsL := [(.long (0 : Int64)), (.long (((((v0_4 p0_0)).toInt64) + (((v0_27 p0_0 p0_1)).toInt64)) - (1 : Int64)))]) (rest := []) (lenOf pd_4 rfl) rfl (by show 2 * 0 + _ ≤ _; exact Nat.le_of_eq rfl) (hb hby at_99) (fun _ _ => ⟨rfl, e0, (by decide : 0 + 0 ≤ _), (by decide : 0 + 0 ≤ _)⟩)
            dsimp only [Pt.U, Pt.locs, Pt.cells, Pt.slots] at X16 l16 y16 z16 st16 hQ16
            subst l16 y16 z16
            obtain ⟨rfl, M16, e16⟩ := hQ16
            have N16 := Fr.app N0 M16
            have pre16 : ∀ t, Steps p.tables e below (T16.setTop (mkF m 102 #[.val (.int p0_0), .val (.int p0_1), .val (.int p0_2), .val (.int p0_3), .val (.int (v0_4 p0_0)), .val (.long (v0_13 p0_0)), .second, .val (.int (v0_27 p0_0 p0_1)), .val (.int (v0_35 p0_3)), .unset, .unset, .unset, .unset, .unset, .unset, .unset, .unset, .unset, .unset, .unset] [(.long (c0_99 p0_0 p0_1))])) t → Steps p.tables e below (s₁.setTop (mkF m 39 #[.val (.int p0_0), .val (.int p0_1), .val (.int p0_2), .val (.int p0_3), .val (.int (v0_4 p0_0)), .val (.long (v0_13 p0_0)), .second, .val (.int (v0_27 p0_0 p0_1)), .val (.int (v0_35 p0_3)), .unset, .unset, .unset, .unset, .unset, .unset, .unset, .unset, .unset, .unset, .unset] [(.int (v0_35 p0_3))])) t := fun t k => pre15 t (st16 t k)
            have pre17 : ∀ t, Steps p.tables e below (T16.setTop (mkF m 115 #[.val (.int p0_0), .val (.int p0_1), .val (.int p0_2), .val (.int p0_3), .val (.int (v0_4 p0_0)), .val (.long (v0_13 p0_0)), .second, .val (.int (v0_27 p0_0 p0_1)), .val (.int (v0_35 p0_3)), .val (.int (v0_103 p0_0 p0_1)), .unset, .unset, .unset, .unset, .unset, .unset, .unset, .unset, .unset, .unset] [])) t → Steps p.tables e below (s₁.setTop (mkF m 39 #[.val (.int p0_0), .val (.int p0_1), .val (.int p0_2), .val (.int p0_3), .val (.int (v0_4 p0_0)), .val (.long (v0_13 p0_0)), .second, .val (.int (v0_27 p0_0 p0_1)), .val (.int (v0_35 p0_3)), .unset, .unset, .unset, .unset, .unset, .unset, .unset, .unset, .unset, .unset, .unset] [(.int (v0_35 p0_3))])) t := fun t k => pre16 t (by
              refine XS.l2i X16.here hx rfl (hb hby at_102) rfl ?_
              show Steps p.tables e below (T16.setTop (mkF m 103 #[.val (.int p0_0), .val (.int p0_1), .val (.int p0_2), .val (.int p0_3), .val (.int (v0_4 p0_0)), .val (.long (v0_13 p0_0)), .second, .val (.int (v0_27 p0_0 p0_1)), .val (.int (v0_35 p0_3)), .unset, .unset, .unset, .unset, .unset, .unset, .unset, .unset, .unset, .unset, .unset] [(.int (((c0_99 p0_0 p0_1)).toInt32))])) _
              show Steps p.tables e below (T16.setTop (mkF m 103 #[.val (.int p0_0), .val (.int p0_1), .val (.int p0_2), .val (.int p0_3), .val (.int (v0_4 p0_0)), .val (.long (v0_13 p0_0)), .second, .val (.int (v0_27 p0_0 p0_1)), .val (.int (v0_35 p0_3)), .unset, .unset, .unset, .unset, .unset, .unset, .unset, .unset, .unset, .unset, .unset] [(.int (v0_103 p0_0 p0_1))])) _
              refine XS.istore X16.here hx rfl (hb hby at_103) rfl (l' := #[.val (.int p0_0), .val (.int p0_1), .val (.int p0_2), .val (.int p0_3), .val (.int (v0_4 p0_0)), .val (.long (v0_13 p0_0)), .second, .val (.int (v0_27 p0_0 p0_1)), .val (.int (v0_35 p0_3)), .val (.int (v0_103 p0_0 p0_1)), .unset, .unset, .unset, .unset, .unset, .unset, .unset, .unset, .unset, .unset]) rfl ?_
              show Steps p.tables e below (T16.setTop (mkF m 105 #[.val (.int p0_0), .val (.int p0_1), .val (.int p0_2), .val (.int p0_3), .val (.int (v0_4 p0_0)), .val (.long (v0_13 p0_0)), .second, .val (.int (v0_27 p0_0 p0_1)), .val (.int (v0_35 p0_3)), .val (.int (v0_103 p0_0 p0_1)), .unset, .unset, .unset, .unset, .unset, .unset, .unset, .unset, .unset, .unset] [])) _
              refine XS.goto X16.here hx rfl (pc0 := 105) (pc' := 115) rfl (hb hby at_105) (by decide) (by decide) ?_
              show Steps p.tables e below (T16.setTop (mkF m 115 #[.val (.int p0_0), .val (.int p0_1), .val (.int p0_2), .val (.int p0_3), .val (.int (v0_4 p0_0)), .val (.long (v0_13 p0_0)), .second, .val (.int (v0_27 p0_0 p0_1)), .val (.int (v0_35 p0_3)), .val (.int (v0_103 p0_0 p0_1)), .unset, .unset, .unset, .unset, .unset, .unset, .unset, .unset, .unset, .unset] [])) _
              exact k)
            have hj22 : (j0_115_9 p0_0 p0_1 p0_2 p0_3) = (v0_103 p0_0 p0_1) := by unfold j0_115_9; rw [if_neg hc39_3, if_neg hc54_6, if_neg hc73_11, if_pos hc86_14]
            exact ⟨T16, _, X16, e16, N16, fun t k => pre17 t (by rw [hj22] at k; exact k)⟩
          · have pre18 : ∀ t, Steps p.tables e below (s₁.setTop (mkF m 115 #[.val (.int p0_0), .val (.int p0_1), .val (.int p0_2), .val (.int p0_3), .val (.int (v0_4 p0_0)), .val (.long (v0_13 p0_0)), .second, .val (.int (v0_27 p0_0 p0_1)), .val (.int (v0_35 p0_3)), .val (.int (v0_113 p0_0 p0_1)), .unset, .unset, .unset, .unset, .unset, .unset, .unset, .unset, .unset, .unset] [])) t → Steps p.tables e below (s₁.setTop (mkF m 39 #[.val (.int p0_0), .val (.int p0_1), .val (.int p0_2), .val (.int p0_3), .val (.int (v0_4 p0_0)), .val (.long (v0_13 p0_0)), .second, .val (.int (v0_27 p0_0 p0_1)), .val (.int (v0_35 p0_3)), .unset, .unset, .unset, .unset, .unset, .unset, .unset, .unset, .unset, .unset, .unset] [(.int (v0_35 p0_3))])) t := fun t k => pre13 t (by
              refine XS.icmpYes X0.here hx rfl (pc0 := 86) (pc' := 108) rfl (hb hby at_86) rfl (feq hc86_14).2 (by decide) (by decide) ?_
              show Steps p.tables e below (s₁.setTop (mkF m 108 #[.val (.int p0_0), .val (.int p0_1), .val (.int p0_2), .val (.int p0_3), .val (.int (v0_4 p0_0)), .val (.long (v0_13 p0_0)), .second, .val (.int (v0_27 p0_0 p0_1)), .val (.int (v0_35 p0_3)), .unset, .unset, .unset, .unset, .unset, .unset, .unset, .unset, .unset, .unset, .unset] [])) _
              refine XS.iload X0.here hx rfl (hb hby at_108) rfl ?_
              show Steps p.tables e below (s₁.setTop (mkF m 110 #[.val (.int p0_0), .val (.int p0_1), .val (.int p0_2), .val (.int p0_3), .val (.int (v0_4 p0_0)), .val (.long (v0_13 p0_0)), .second, .val (.int (v0_27 p0_0 p0_1)), .val (.int (v0_35 p0_3)), .unset, .unset, .unset, .unset, .unset, .unset, .unset, .unset, .unset, .unset, .unset] [(.int (v0_4 p0_0))])) _
              refine XS.iload X0.here hx rfl (hb hby at_110) rfl ?_
              show Steps p.tables e below (s₁.setTop (mkF m 112 #[.val (.int p0_0), .val (.int p0_1), .val (.int p0_2), .val (.int p0_3), .val (.int (v0_4 p0_0)), .val (.long (v0_13 p0_0)), .second, .val (.int (v0_27 p0_0 p0_1)), .val (.int (v0_35 p0_3)), .unset, .unset, .unset, .unset, .unset, .unset, .unset, .unset, .unset, .unset, .unset] [(.int (v0_27 p0_0 p0_1)), (.int (v0_4 p0_0))])) _
              refine XS.iadd X0.here hx rfl (hb hby at_112) rfl ?_
              show Steps p.tables e below (s₁.setTop (mkF m 113 #[.val (.int p0_0), .val (.int p0_1), .val (.int p0_2), .val (.int p0_3), .val (.int (v0_4 p0_0)), .val (.long (v0_13 p0_0)), .second, .val (.int (v0_27 p0_0 p0_1)), .val (.int (v0_35 p0_3)), .unset, .unset, .unset, .unset, .unset, .unset, .unset, .unset, .unset, .unset, .unset] [(.int ((v0_4 p0_0) + (v0_27 p0_0 p0_1)))])) _
              show Steps p.tables e below (s₁.setTop (mkF m 113 #[.val (.int p0_0), .val (.int p0_1), .val (.int p0_2), .val (.int p0_3), .val (.int (v0_4 p0_0)), .val (.long (v0_13 p0_0)), .second, .val (.int (v0_27 p0_0 p0_1)), .val (.int (v0_35 p0_3)), .unset, .unset, .unset, .unset, .unset, .unset, .unset, .unset, .unset, .unset, .unset] [(.int (v0_113 p0_0 p0_1))])) _
              refine XS.istore X0.here hx rfl (hb hby at_113) rfl (l' := #[.val (.int p0_0), .val (.int p0_1), .val (.int p0_2), .val (.int p0_3), .val (.int (v0_4 p0_0)), .val (.long (v0_13 p0_0)), .second, .val (.int (v0_27 p0_0 p0_1)), .val (.int (v0_35 p0_3)), .val (.int (v0_113 p0_0 p0_1)), .unset, .unset, .unset, .unset, .unset, .unset, .unset, .unset, .unset, .unset]) rfl ?_
              show Steps p.tables e below (s₁.setTop (mkF m 115 #[.val (.int p0_0), .val (.int p0_1), .val (.int p0_2), .val (.int p0_3), .val (.int (v0_4 p0_0)), .val (.long (v0_13 p0_0)), .second, .val (.int (v0_27 p0_0 p0_1)), .val (.int (v0_35 p0_3)), .val (.int (v0_113 p0_0 p0_1)), .unset, .unset, .unset, .unset, .unset, .unset, .unset, .unset, .unset, .unset] [])) _
              exact k)
            have hj23 : (j0_115_9 p0_0 p0_1 p0_2 p0_3) = (v0_113 p0_0 p0_1) := by unfold j0_115_9; rw [if_neg hc39_3, if_neg hc54_6, if_neg hc73_11, if_neg hc86_14]
            exact ⟨s₁, _, X0, e0, N0, fun t k => pre18 t (by rw [hj23] at k; exact k)⟩
  have pre2 : ∀ t, Steps p.tables e below (T2.setTop (mkF m 115 #[.val (.int p0_0), .val (.int p0_1), .val (.int p0_2), .val (.int p0_3), .val (.int (v0_4 p0_0)), .val (.long (v0_13 p0_0)), .second, .val (.int (v0_27 p0_0 p0_1)), .val (.int (v0_35 p0_3)), .val (.int (j0_115_9 p0_0 p0_1 p0_2 p0_3)), .unset, .unset, .unset, .unset, .unset, .unset, .unset, .unset, .unset, .unset] [])) t → Steps p.tables e below (s₁.setTop (entryFrame m #[(.int p0_0), (.int p0_1), (.int p0_2), (.int p0_3)] maxLocals)) t := fun t k => pre1 t (st2 t k)
  obtain ⟨T24, h24, X24, e24, E24, A24, D24, -, st24⟩ := newO X2 hx hZ hown (hw _ (List.mem_of_getElem? (i := 6) rfl)) (hw _ (List.mem_of_getElem? (i := 7) rfl)) (hw _ (List.mem_of_getElem? (i := 8) rfl)) e2 (g := (mkF m 115 #[.val (.int p0_0), .val (.int p0_1), .val (.int p0_2), .val (.int p0_3), .val (.int (v0_4 p0_0)), .val (.long (v0_13 p0_0)), .second, .val (.int (v0_27 p0_0 p0_1)), .val (.int (v0_35 p0_3)), .val (.int (j0_115_9 p0_0 p0_1 p0_2 p0_3)), .unset, .unset, .unset, .unset, .unset, .unset, .unset, .unset, .unset, .unset] [])) rfl (hb hby at_115) (by decide) (by decide)
  obtain ⟨b24, q24⟩ : ∃ z, z = h0.size := ⟨_, rfl⟩
  rw [← q24] at A24 D24 st24
  have g_b24 : n0 ≤ b24 := Nat.le_trans Z0 (Nat.le_of_eq q24.symm)
  have Z24 : n0 ≤ h24.size := Nat.le_trans Z0 E24.1
  have F25 : Fld Z h24 b24 "com/example/rowforge/rowforge/core/Notice$RangeRemoved" "start" "I" (.int (0 : Int32)) := D24 (Or.inr (hw _ (List.mem_of_getElem? (i := 30) rfl))) (ty := .int) (by decide)
  have F26 : Fld Z h24 b24 "com/example/rowforge/rowforge/core/Notice$RangeRemoved" "count" "I" (.int (0 : Int32)) := D24 (Or.inr (hw _ (List.mem_of_getElem? (i := 32) rfl))) (ty := .int) (by decide)
  have pre24 : ∀ t, Steps p.tables e below (T24.setTop (mkF m 118 #[.val (.int p0_0), .val (.int p0_1), .val (.int p0_2), .val (.int p0_3), .val (.int (v0_4 p0_0)), .val (.long (v0_13 p0_0)), .second, .val (.int (v0_27 p0_0 p0_1)), .val (.int (v0_35 p0_3)), .val (.int (j0_115_9 p0_0 p0_1 p0_2 p0_3)), .unset, .unset, .unset, .unset, .unset, .unset, .unset, .unset, .unset, .unset] [(.ref b24)])) t → Steps p.tables e below (s₁.setTop (entryFrame m #[(.int p0_0), (.int p0_1), (.int p0_2), (.int p0_3)] maxLocals)) t := fun t k => pre2 t (st24 t k)
  have pre27 : ∀ t, Steps p.tables e below (T24.setTop (mkF m 123 #[.val (.int p0_0), .val (.int p0_1), .val (.int p0_2), .val (.int p0_3), .val (.int (v0_4 p0_0)), .val (.long (v0_13 p0_0)), .second, .val (.int (v0_27 p0_0 p0_1)), .val (.int (v0_35 p0_3)), .val (.int (j0_115_9 p0_0 p0_1 p0_2 p0_3)), .unset, .unset, .unset, .unset, .unset, .unset, .unset, .unset, .unset, .unset] [(.int (v0_27 p0_0 p0_1)), (.int (v0_4 p0_0)), (.ref b24), (.ref b24)])) t → Steps p.tables e below (s₁.setTop (entryFrame m #[(.int p0_0), (.int p0_1), (.int p0_2), (.int p0_3)] maxLocals)) t := fun t k => pre24 t (by
    refine XS.dup X24.here hx rfl (hb hby at_118) rfl rfl ?_
    show Steps p.tables e below (T24.setTop (mkF m 119 #[.val (.int p0_0), .val (.int p0_1), .val (.int p0_2), .val (.int p0_3), .val (.int (v0_4 p0_0)), .val (.long (v0_13 p0_0)), .second, .val (.int (v0_27 p0_0 p0_1)), .val (.int (v0_35 p0_3)), .val (.int (j0_115_9 p0_0 p0_1 p0_2 p0_3)), .unset, .unset, .unset, .unset, .unset, .unset, .unset, .unset, .unset, .unset] [(.ref b24), (.ref b24)])) _
    refine XS.iload X24.here hx rfl (hb hby at_119) rfl ?_
    show Steps p.tables e below (T24.setTop (mkF m 121 #[.val (.int p0_0), .val (.int p0_1), .val (.int p0_2), .val (.int p0_3), .val (.int (v0_4 p0_0)), .val (.long (v0_13 p0_0)), .second, .val (.int (v0_27 p0_0 p0_1)), .val (.int (v0_35 p0_3)), .val (.int (j0_115_9 p0_0 p0_1 p0_2 p0_3)), .unset, .unset, .unset, .unset, .unset, .unset, .unset, .unset, .unset, .unset] [(.int (v0_4 p0_0)), (.ref b24), (.ref b24)])) _
    refine XS.iload X24.here hx rfl (hb hby at_121) rfl ?_
    show Steps p.tables e below (T24.setTop (mkF m 123 #[.val (.int p0_0), .val (.int p0_1), .val (.int p0_2), .val (.int p0_3), .val (.int (v0_4 p0_0)), .val (.long (v0_13 p0_0)), .second, .val (.int (v0_27 p0_0 p0_1)), .val (.int (v0_35 p0_3)), .val (.int (j0_115_9 p0_0 p0_1 p0_2 p0_3)), .unset, .unset, .unset, .unset, .unset, .unset, .unset, .unset, .unset, .unset] [(.int (v0_27 p0_0 p0_1)), (.int (v0_4 p0_0)), (.ref b24), (.ref b24)])) _
    exact k)
  obtain ⟨_, _, ⟨T28, L28, k28, n28⟩, -, X28, ⟨Lc28, hQ28, l28, y28, z28⟩, st28⟩ := X24.specialBack hx (y := (⟨"com/example/rowforge/rowforge/core/Notice$RangeRemoved", "<init>", "(II)V"⟩ : MethodName)) rfl hown (mvT hZ (hw _ (List.mem_of_getElem? (i := 9) rfl))) (mvT hZ (hw _ (List.mem_of_getElem? (i := 10) rfl))) (mvT hZ (hw _ (List.mem_of_getElem? (i := 11) rfl))) (by decide) (backOf (W := 1) (rm2 l Z a0 hw [] b24 (v0_4 p0_0) (v0_27 p0_0 p0_1) (0 : Int32) (0 : Int32) h24 n0 Z24 (own_A1 p0_0 p0_1) (own_B1 p0_0 p0_1) A24 F25 F26 g_b24) hZ (hw _ (List.mem_of_getElem? (i := 11) rfl)) (hw _ (List.mem_of_getElem? (i := 8) rfl)) (by decide) (by decide)) (g := (mkF m 123 #[.val (.int p0_0), .val (.int p0_1), .val (.int p0_2), .val (.int p0_3), .val (.int (v0_4 p0_0)), .val (.long (v0_13 p0_0)), .second, .val (.int (v0_27 p0_0 p0_1)), .val (.int (v0_35 p0_3)), .val (.int (j0_115_9 p0_0 p0_1 p0_2 p0_3)), .unset, .unset, .unset, .unset, .unset, .unset, .unset, .unset, .unset, .unset] [(.int (v0_27 p0_0 p0_1)), (.int (v0_4 p0_0)), (.ref b24), (.ref b24)])) rfl (by rw [hml]; rfl) (Steps.refl _) (a := b24) (argsL := [(.int (v0_4 p0_0)), (.int (v0_27 p0_0 p0_1))]) (rest := [(.ref b24)]) (lenOf pd_5 rfl) rfl (by show 2 * 0 + _ ≤ _; exact Nat.le_of_eq rfl) (hb hby at_123) (fun _ _ => ⟨rfl, e24, (by decide : 1 + 0 ≤ _), (by decide : 2 + 0 ≤ _)⟩)
  dsimp only [Pt.U, Pt.locs, Pt.cells, Pt.slots] at X28 l28 y28 z28 st28 hQ28
  subst l28 y28 z28
  obtain ⟨rfl, M28, K28c, P28_0, P28_1⟩ := hQ28
  have N28 := Fr.app N2 M28
  have K28 : Keep h24 T28.heap [b24] := K28c
  have Z28 : n0 ≤ T28.heap.size := Nat.le_trans Z24 K28.1
  have Ex29 : Exa Z T28.heap b24 "com/example/rowforge/rowforge/core/Notice$RangeRemoved" := A24.keep K28
  have F30 : Fld Z T28.heap b24 "com/example/rowforge/rowforge/core/Notice$RangeRemoved" "start" "I" (.int (v0_4 p0_0)) := P28_0
  have F31 : Fld Z T28.heap b24 "com/example/rowforge/rowforge/core/Notice$RangeRemoved" "count" "I" (.int (v0_27 p0_0 p0_1)) := P28_1
  have pre28 : ∀ t, Steps p.tables e below (T28.setTop (mkF m 126 #[.val (.int p0_0), .val (.int p0_1), .val (.int p0_2), .val (.int p0_3), .val (.int (v0_4 p0_0)), .val (.long (v0_13 p0_0)), .second, .val (.int (v0_27 p0_0 p0_1)), .val (.int (v0_35 p0_3)), .val (.int (j0_115_9 p0_0 p0_1 p0_2 p0_3)), .unset, .unset, .unset, .unset, .unset, .unset, .unset, .unset, .unset, .unset] [(.ref b24)])) t → Steps p.tables e below (s₁.setTop (entryFrame m #[(.int p0_0), (.int p0_1), (.int p0_2), (.int p0_3)] maxLocals)) t := fun t k => pre27 t (st28.trans k)
  have pre32 : ∀ t, Steps p.tables e below (T28.setTop (mkF m 132 #[.val (.int p0_0), .val (.int p0_1), .val (.int p0_2), .val (.int p0_3), .val (.int (v0_4 p0_0)), .val (.long (v0_13 p0_0)), .second, .val (.int (v0_27 p0_0 p0_1)), .val (.int (v0_35 p0_3)), .val (.int (j0_115_9 p0_0 p0_1 p0_2 p0_3)), .val (.ref b24), .unset, .unset, .unset, .unset, .unset, .unset, .unset, .unset, .unset] [(.int (j0_115_9 p0_0 p0_1 p0_2 p0_3)), (.ref b24)])) t → Steps p.tables e below (s₁.setTop (entryFrame m #[(.int p0_0), (.int p0_1), (.int p0_2), (.int p0_3)] maxLocals)) t := fun t k => pre28 t (by
    refine XS.astore X28.here hx rfl (hb hby at_126) rfl rfl (l' := #[.val (.int p0_0), .val (.int p0_1), .val (.int p0_2), .val (.int p0_3), .val (.int (v0_4 p0_0)), .val (.long (v0_13 p0_0)), .second, .val (.int (v0_27 p0_0 p0_1)), .val (.int (v0_35 p0_3)), .val (.int (j0_115_9 p0_0 p0_1 p0_2 p0_3)), .val (.ref b24), .unset, .unset, .unset, .unset, .unset, .unset, .unset, .unset, .unset]) rfl ?_
    show Steps p.tables e below (T28.setTop (mkF m 128 #[.val (.int p0_0), .val (.int p0_1), .val (.int p0_2), .val (.int p0_3), .val (.int (v0_4 p0_0)), .val (.long (v0_13 p0_0)), .second, .val (.int (v0_27 p0_0 p0_1)), .val (.int (v0_35 p0_3)), .val (.int (j0_115_9 p0_0 p0_1 p0_2 p0_3)), .val (.ref b24), .unset, .unset, .unset, .unset, .unset, .unset, .unset, .unset, .unset] [])) _
    refine XS.aload X28.here hx rfl (hb hby at_128) rfl rfl ?_
    show Steps p.tables e below (T28.setTop (mkF m 130 #[.val (.int p0_0), .val (.int p0_1), .val (.int p0_2), .val (.int p0_3), .val (.int (v0_4 p0_0)), .val (.long (v0_13 p0_0)), .second, .val (.int (v0_27 p0_0 p0_1)), .val (.int (v0_35 p0_3)), .val (.int (j0_115_9 p0_0 p0_1 p0_2 p0_3)), .val (.ref b24), .unset, .unset, .unset, .unset, .unset, .unset, .unset, .unset, .unset] [(.ref b24)])) _
    refine XS.iload X28.here hx rfl (hb hby at_130) rfl ?_
    show Steps p.tables e below (T28.setTop (mkF m 132 #[.val (.int p0_0), .val (.int p0_1), .val (.int p0_2), .val (.int p0_3), .val (.int (v0_4 p0_0)), .val (.long (v0_13 p0_0)), .second, .val (.int (v0_27 p0_0 p0_1)), .val (.int (v0_35 p0_3)), .val (.int (j0_115_9 p0_0 p0_1 p0_2 p0_3)), .val (.ref b24), .unset, .unset, .unset, .unset, .unset, .unset, .unset, .unset, .unset] [(.int (j0_115_9 p0_0 p0_1 p0_2 p0_3)), (.ref b24)])) _
    exact k)
  obtain ⟨cq33, kq33, qa33, qb33, qc33⟩ := isOf hZ rfl Ex29
  obtain ⟨_, _, ⟨T33, L33, k33, n33⟩, -, X33, ⟨Lc33, hQ33, l33, y33, z33⟩, st33⟩ := X28.virtualBack hx (y := (⟨"com/example/rowforge/rowforge/core/Notice$RangeRemoved", "positionAfter", "(I)I"⟩ : MethodName)) (z := (⟨"com/example/rowforge/rowforge/core/Notice$RangeRemoved", "positionAfter", "(I)I"⟩ : MethodName)) hown (mvT hZ (hw _ (List.mem_of_getElem? (i := 33) rfl))) (mvT hZ (hw _ (List.mem_of_getElem? (i := 34) rfl))) (notFace_of_selects (args := #[]) (mvT hZ (hw _ (List.mem_of_getElem? (i := 36) rfl)))) (mvT hZ (hw _ (List.mem_of_getElem? (i := 36) rfl))) (mvT hZ (hw _ (List.mem_of_getElem? (i := 35) rfl))) (by decide) (backOf (W := 0) (rm7 l Z a0 hw [] b24 (j0_115_9 p0_0 p0_1 p0_2 p0_3) (v0_4 p0_0) (v0_27 p0_0 p0_1) T28.heap n0 Z28 F30 F31) hZ (hw _ (List.mem_of_getElem? (i := 37) rfl)) (hw _ (List.mem_of_getElem? (i := 8) rfl)) (by decide) (by decide)) qa33 qc33 (g := (mkF m 132 #[.val (.int p0_0), .val (.int p0_1), .val (.int p0_2), .val (.int p0_3), .val (.int (v0_4 p0_0)), .val (.long (v0_13 p0_0)), .second, .val (.int (v0_27 p0_0 p0_1)), .val (.int (v0_35 p0_3)), .val (.int (j0_115_9 p0_0 p0_1 p0_2 p0_3)), .val (.ref b24), .unset, .unset, .unset, .unset, .unset, .unset, .unset, .unset, .unset] [(.int (j0_115_9 p0_0 p0_1 p0_2 p0_3)), (.ref b24)])) rfl (by rw [hml]; rfl) (Steps.refl _) (argsL := [(.int (j0_115_9 p0_0 p0_1 p0_2 p0_3))]) (rest := []) (lenOf pd_6 rfl) rfl (by show 2 * 0 + _ ≤ _; exact Nat.le_of_eq rfl) (hb hby at_132) (fun _ _ => ⟨rfl, rfl, (by decide : 1 + 0 ≤ _), (by decide : 2 + 0 ≤ _)⟩)
  dsimp only [Pt.U, Pt.locs, Pt.cells, Pt.slots] at X33 l33 y33 z33 st33 hQ33
  subst l33 y33 z33
  obtain ⟨rfl, M33, e33⟩ := hQ33
  have N33 := Fr.app N28 M33
  have pre33 : ∀ t, Steps p.tables e below (T33.setTop (mkF m 135 #[.val (.int p0_0), .val (.int p0_1), .val (.int p0_2), .val (.int p0_3), .val (.int (v0_4 p0_0)), .val (.long (v0_13 p0_0)), .second, .val (.int (v0_27 p0_0 p0_1)), .val (.int (v0_35 p0_3)), .val (.int (j0_115_9 p0_0 p0_1 p0_2 p0_3)), .val (.ref b24), .unset, .unset, .unset, .unset, .unset, .unset, .unset, .unset, .unset] [(.int (c0_132 p0_0 p0_1 p0_2 p0_3))])) t → Steps p.tables e below (s₁.setTop (entryFrame m #[(.int p0_0), (.int p0_1), (.int p0_2), (.int p0_3)] maxLocals)) t := fun t k => pre32 t (st33.trans k)
  have pre34 : ∀ t, Steps p.tables e below (T33.setTop (mkF m 157 #[.val (.int p0_0), .val (.int p0_1), .val (.int p0_2), .val (.int p0_3), .val (.int (v0_4 p0_0)), .val (.long (v0_13 p0_0)), .second, .val (.int (v0_27 p0_0 p0_1)), .val (.int (v0_35 p0_3)), .val (.int (j0_115_9 p0_0 p0_1 p0_2 p0_3)), .val (.ref b24), .val (.int (c0_132 p0_0 p0_1 p0_2 p0_3)), .val (.long (v0_140 p0_0 p0_1 p0_2 p0_3)), .second, .val (.long (v0_145 p0_0)), .second, .val (.long (v0_150 p0_0 p0_1)), .second, .unset, .unset] [(.int (lcmpW (v0_140 p0_0 p0_1 p0_2 p0_3) (v0_145 p0_0)))])) t → Steps p.tables e below (s₁.setTop (entryFrame m #[(.int p0_0), (.int p0_1), (.int p0_2), (.int p0_3)] maxLocals)) t := fun t k => pre33 t (by
    refine XS.istore X33.here hx rfl (hb hby at_135) rfl (l' := #[.val (.int p0_0), .val (.int p0_1), .val (.int p0_2), .val (.int p0_3), .val (.int (v0_4 p0_0)), .val (.long (v0_13 p0_0)), .second, .val (.int (v0_27 p0_0 p0_1)), .val (.int (v0_35 p0_3)), .val (.int (j0_115_9 p0_0 p0_1 p0_2 p0_3)), .val (.ref b24), .val (.int (c0_132 p0_0 p0_1 p0_2 p0_3)), .unset, .unset, .unset, .unset, .unset, .unset, .unset, .unset]) rfl ?_
    show Steps p.tables e below (T33.setTop (mkF m 137 #[.val (.int p0_0), .val (.int p0_1), .val (.int p0_2), .val (.int p0_3), .val (.int (v0_4 p0_0)), .val (.long (v0_13 p0_0)), .second, .val (.int (v0_27 p0_0 p0_1)), .val (.int (v0_35 p0_3)), .val (.int (j0_115_9 p0_0 p0_1 p0_2 p0_3)), .val (.ref b24), .val (.int (c0_132 p0_0 p0_1 p0_2 p0_3)), .unset, .unset, .unset, .unset, .unset, .unset, .unset, .unset] [])) _
    refine XS.iload X33.here hx rfl (hb hby at_137) rfl ?_
    show Steps p.tables e below (T33.setTop (mkF m 139 #[.val (.int p0_0), .val (.int p0_1), .val (.int p0_2), .val (.int p0_3), .val (.int (v0_4 p0_0)), .val (.long (v0_13 p0_0)), .second, .val (.int (v0_27 p0_0 p0_1)), .val (.int (v0_35 p0_3)), .val (.int (j0_115_9 p0_0 p0_1 p0_2 p0_3)), .val (.ref b24), .val (.int (c0_132 p0_0 p0_1 p0_2 p0_3)), .unset, .unset, .unset, .unset, .unset, .unset, .unset, .unset] [(.int (j0_115_9 p0_0 p0_1 p0_2 p0_3))])) _
    refine XS.i2l X33.here hx rfl (hb hby at_139) rfl ?_
    show Steps p.tables e below (T33.setTop (mkF m 140 #[.val (.int p0_0), .val (.int p0_1), .val (.int p0_2), .val (.int p0_3), .val (.int (v0_4 p0_0)), .val (.long (v0_13 p0_0)), .second, .val (.int (v0_27 p0_0 p0_1)), .val (.int (v0_35 p0_3)), .val (.int (j0_115_9 p0_0 p0_1 p0_2 p0_3)), .val (.ref b24), .val (.int (c0_132 p0_0 p0_1 p0_2 p0_3)), .unset, .unset, .unset, .unset, .unset, .unset, .unset, .unset] [(.long (((j0_115_9 p0_0 p0_1 p0_2 p0_3)).toInt64))])) _
    show Steps p.tables e below (T33.setTop (mkF m 140 #[.val (.int p0_0), .val (.int p0_1), .val (.int p0_2), .val (.int p0_3), .val (.int (v0_4 p0_0)), .val (.long (v0_13 p0_0)), .second, .val (.int (v0_27 p0_0 p0_1)), .val (.int (v0_35 p0_3)), .val (.int (j0_115_9 p0_0 p0_1 p0_2 p0_3)), .val (.ref b24), .val (.int (c0_132 p0_0 p0_1 p0_2 p0_3)), .unset, .unset, .unset, .unset, .unset, .unset, .unset, .unset] [(.long (v0_140 p0_0 p0_1 p0_2 p0_3))])) _
    refine XS.lstore X33.here hx rfl (hb hby at_140) rfl (l' := #[.val (.int p0_0), .val (.int p0_1), .val (.int p0_2), .val (.int p0_3), .val (.int (v0_4 p0_0)), .val (.long (v0_13 p0_0)), .second, .val (.int (v0_27 p0_0 p0_1)), .val (.int (v0_35 p0_3)), .val (.int (j0_115_9 p0_0 p0_1 p0_2 p0_3)), .val (.ref b24), .val (.int (c0_132 p0_0 p0_1 p0_2 p0_3)), .val (.long (v0_140 p0_0 p0_1 p0_2 p0_3)), .second, .unset, .unset, .unset, .unset, .unset, .unset]) rfl ?_
    show Steps p.tables e below (T33.setTop (mkF m 142 #[.val (.int p0_0), .val (.int p0_1), .val (.int p0_2), .val (.int p0_3), .val (.int (v0_4 p0_0)), .val (.long (v0_13 p0_0)), .second, .val (.int (v0_27 p0_0 p0_1)), .val (.int (v0_35 p0_3)), .val (.int (j0_115_9 p0_0 p0_1 p0_2 p0_3)), .val (.ref b24), .val (.int (c0_132 p0_0 p0_1 p0_2 p0_3)), .val (.long (v0_140 p0_0 p0_1 p0_2 p0_3)), .second, .unset, .unset, .unset, .unset, .unset, .unset] [])) _
    refine XS.iload X33.here hx rfl (hb hby at_142) rfl ?_
    show Steps p.tables e below (T33.setTop (mkF m 144 #[.val (.int p0_0), .val (.int p0_1), .val (.int p0_2), .val (.int p0_3), .val (.int (v0_4 p0_0)), .val (.long (v0_13 p0_0)), .second, .val (.int (v0_27 p0_0 p0_1)), .val (.int (v0_35 p0_3)), .val (.int (j0_115_9 p0_0 p0_1 p0_2 p0_3)), .val (.ref b24), .val (.int (c0_132 p0_0 p0_1 p0_2 p0_3)), .val (.long (v0_140 p0_0 p0_1 p0_2 p0_3)), .second, .unset, .unset, .unset, .unset, .unset, .unset] [(.int (v0_4 p0_0))])) _
    refine XS.i2l X33.here hx rfl (hb hby at_144) rfl ?_
    show Steps p.tables e below (T33.setTop (mkF m 145 #[.val (.int p0_0), .val (.int p0_1), .val (.int p0_2), .val (.int p0_3), .val (.int (v0_4 p0_0)), .val (.long (v0_13 p0_0)), .second, .val (.int (v0_27 p0_0 p0_1)), .val (.int (v0_35 p0_3)), .val (.int (j0_115_9 p0_0 p0_1 p0_2 p0_3)), .val (.ref b24), .val (.int (c0_132 p0_0 p0_1 p0_2 p0_3)), .val (.long (v0_140 p0_0 p0_1 p0_2 p0_3)), .second, .unset, .unset, .unset, .unset, .unset, .unset] [(.long (((v0_4 p0_0)).toInt64))])) _
    show Steps p.tables e below (T33.setTop (mkF m 145 #[.val (.int p0_0), .val (.int p0_1), .val (.int p0_2), .val (.int p0_3), .val (.int (v0_4 p0_0)), .val (.long (v0_13 p0_0)), .second, .val (.int (v0_27 p0_0 p0_1)), .val (.int (v0_35 p0_3)), .val (.int (j0_115_9 p0_0 p0_1 p0_2 p0_3)), .val (.ref b24), .val (.int (c0_132 p0_0 p0_1 p0_2 p0_3)), .val (.long (v0_140 p0_0 p0_1 p0_2 p0_3)), .second, .unset, .unset, .unset, .unset, .unset, .unset] [(.long (v0_145 p0_0))])) _
    refine XS.lstore X33.here hx rfl (hb hby at_145) rfl (l' := #[.val (.int p0_0), .val (.int p0_1), .val (.int p0_2), .val (.int p0_3), .val (.int (v0_4 p0_0)), .val (.long (v0_13 p0_0)), .second, .val (.int (v0_27 p0_0 p0_1)), .val (.int (v0_35 p0_3)), .val (.int (j0_115_9 p0_0 p0_1 p0_2 p0_3)), .val (.ref b24), .val (.int (c0_132 p0_0 p0_1 p0_2 p0_3)), .val (.long (v0_140 p0_0 p0_1 p0_2 p0_3)), .second, .val (.long (v0_145 p0_0)), .second, .unset, .unset, .unset, .unset]) rfl ?_
    show Steps p.tables e below (T33.setTop (mkF m 147 #[.val (.int p0_0), .val (.int p0_1), .val (.int p0_2), .val (.int p0_3), .val (.int (v0_4 p0_0)), .val (.long (v0_13 p0_0)), .second, .val (.int (v0_27 p0_0 p0_1)), .val (.int (v0_35 p0_3)), .val (.int (j0_115_9 p0_0 p0_1 p0_2 p0_3)), .val (.ref b24), .val (.int (c0_132 p0_0 p0_1 p0_2 p0_3)), .val (.long (v0_140 p0_0 p0_1 p0_2 p0_3)), .second, .val (.long (v0_145 p0_0)), .second, .unset, .unset, .unset, .unset] [])) _
    refine XS.iload X33.here hx rfl (hb hby at_147) rfl ?_
    show Steps p.tables e below (T33.setTop (mkF m 149 #[.val (.int p0_0), .val (.int p0_1), .val (.int p0_2), .val (.int p0_3), .val (.int (v0_4 p0_0)), .val (.long (v0_13 p0_0)), .second, .val (.int (v0_27 p0_0 p0_1)), .val (.int (v0_35 p0_3)), .val (.int (j0_115_9 p0_0 p0_1 p0_2 p0_3)), .val (.ref b24), .val (.int (c0_132 p0_0 p0_1 p0_2 p0_3)), .val (.long (v0_140 p0_0 p0_1 p0_2 p0_3)), .second, .val (.long (v0_145 p0_0)), .second, .unset, .unset, .unset, .unset] [(.int (v0_27 p0_0 p0_1))])) _
    refine XS.i2l X33.here hx rfl (hb hby at_149) rfl ?_
    show Steps p.tables e below (T33.setTop (mkF m 150 #[.val (.int p0_0), .val (.int p0_1), .val (.int p0_2), .val (.int p0_3), .val (.int (v0_4 p0_0)), .val (.long (v0_13 p0_0)), .second, .val (.int (v0_27 p0_0 p0_1)), .val (.int (v0_35 p0_3)), .val (.int (j0_115_9 p0_0 p0_1 p0_2 p0_3)), .val (.ref b24), .val (.int (c0_132 p0_0 p0_1 p0_2 p0_3)), .val (.long (v0_140 p0_0 p0_1 p0_2 p0_3)), .second, .val (.long (v0_145 p0_0)), .second, .unset, .unset, .unset, .unset] [(.long (((v0_27 p0_0 p0_1)).toInt64))])) _
    show Steps p.tables e below (T33.setTop (mkF m 150 #[.val (.int p0_0), .val (.int p0_1), .val (.int p0_2), .val (.int p0_3), .val (.int (v0_4 p0_0)), .val (.long (v0_13 p0_0)), .second, .val (.int (v0_27 p0_0 p0_1)), .val (.int (v0_35 p0_3)), .val (.int (j0_115_9 p0_0 p0_1 p0_2 p0_3)), .val (.ref b24), .val (.int (c0_132 p0_0 p0_1 p0_2 p0_3)), .val (.long (v0_140 p0_0 p0_1 p0_2 p0_3)), .second, .val (.long (v0_145 p0_0)), .second, .unset, .unset, .unset, .unset] [(.long (v0_150 p0_0 p0_1))])) _
    refine XS.lstore X33.here hx rfl (hb hby at_150) rfl (l' := #[.val (.int p0_0), .val (.int p0_1), .val (.int p0_2), .val (.int p0_3), .val (.int (v0_4 p0_0)), .val (.long (v0_13 p0_0)), .second, .val (.int (v0_27 p0_0 p0_1)), .val (.int (v0_35 p0_3)), .val (.int (j0_115_9 p0_0 p0_1 p0_2 p0_3)), .val (.ref b24), .val (.int (c0_132 p0_0 p0_1 p0_2 p0_3)), .val (.long (v0_140 p0_0 p0_1 p0_2 p0_3)), .second, .val (.long (v0_145 p0_0)), .second, .val (.long (v0_150 p0_0 p0_1)), .second, .unset, .unset]) rfl ?_
    show Steps p.tables e below (T33.setTop (mkF m 152 #[.val (.int p0_0), .val (.int p0_1), .val (.int p0_2), .val (.int p0_3), .val (.int (v0_4 p0_0)), .val (.long (v0_13 p0_0)), .second, .val (.int (v0_27 p0_0 p0_1)), .val (.int (v0_35 p0_3)), .val (.int (j0_115_9 p0_0 p0_1 p0_2 p0_3)), .val (.ref b24), .val (.int (c0_132 p0_0 p0_1 p0_2 p0_3)), .val (.long (v0_140 p0_0 p0_1 p0_2 p0_3)), .second, .val (.long (v0_145 p0_0)), .second, .val (.long (v0_150 p0_0 p0_1)), .second, .unset, .unset] [])) _
    refine XS.lload X33.here hx rfl (hb hby at_152) rfl ?_
    show Steps p.tables e below (T33.setTop (mkF m 154 #[.val (.int p0_0), .val (.int p0_1), .val (.int p0_2), .val (.int p0_3), .val (.int (v0_4 p0_0)), .val (.long (v0_13 p0_0)), .second, .val (.int (v0_27 p0_0 p0_1)), .val (.int (v0_35 p0_3)), .val (.int (j0_115_9 p0_0 p0_1 p0_2 p0_3)), .val (.ref b24), .val (.int (c0_132 p0_0 p0_1 p0_2 p0_3)), .val (.long (v0_140 p0_0 p0_1 p0_2 p0_3)), .second, .val (.long (v0_145 p0_0)), .second, .val (.long (v0_150 p0_0 p0_1)), .second, .unset, .unset] [(.long (v0_140 p0_0 p0_1 p0_2 p0_3))])) _
    refine XS.lload X33.here hx rfl (hb hby at_154) rfl ?_
    show Steps p.tables e below (T33.setTop (mkF m 156 #[.val (.int p0_0), .val (.int p0_1), .val (.int p0_2), .val (.int p0_3), .val (.int (v0_4 p0_0)), .val (.long (v0_13 p0_0)), .second, .val (.int (v0_27 p0_0 p0_1)), .val (.int (v0_35 p0_3)), .val (.int (j0_115_9 p0_0 p0_1 p0_2 p0_3)), .val (.ref b24), .val (.int (c0_132 p0_0 p0_1 p0_2 p0_3)), .val (.long (v0_140 p0_0 p0_1 p0_2 p0_3)), .second, .val (.long (v0_145 p0_0)), .second, .val (.long (v0_150 p0_0 p0_1)), .second, .unset, .unset] [(.long (v0_145 p0_0)), (.long (v0_140 p0_0 p0_1 p0_2 p0_3))])) _
    refine XS.lcmp X33.here hx rfl (hb hby at_156) rfl ?_
    show Steps p.tables e below (T33.setTop (mkF m 157 #[.val (.int p0_0), .val (.int p0_1), .val (.int p0_2), .val (.int p0_3), .val (.int (v0_4 p0_0)), .val (.long (v0_13 p0_0)), .second, .val (.int (v0_27 p0_0 p0_1)), .val (.int (v0_35 p0_3)), .val (.int (j0_115_9 p0_0 p0_1 p0_2 p0_3)), .val (.ref b24), .val (.int (c0_132 p0_0 p0_1 p0_2 p0_3)), .val (.long (v0_140 p0_0 p0_1 p0_2 p0_3)), .second, .val (.long (v0_145 p0_0)), .second, .val (.long (v0_150 p0_0 p0_1)), .second, .unset, .unset] [(.int (lcmpW (v0_140 p0_0 p0_1 p0_2 p0_3) (v0_145 p0_0)))])) _
    exact k)
  obtain ⟨T35, L35, X35, e35, N35, st35⟩ : ∃ (T' : State) (L' : List Loc), Stand p l e room_1 s m #[(.int p0_0), (.int p0_1), (.int p0_2), (.int p0_3)] below meth c T' L' 1 2 ∧ T'.heap = T28.heap ∧ Fr n0 L' ∧ ∀ t, Steps p.tables e below (T'.setTop (mkF m 193 #[.val (.int p0_0), .val (.int p0_1), .val (.int p0_2), .val (.int p0_3), .val (.int (v0_4 p0_0)), .val (.long (v0_13 p0_0)), .second, .val (.int (v0_27 p0_0 p0_1)), .val (.int (v0_35 p0_3)), .val (.int (j0_115_9 p0_0 p0_1 p0_2 p0_3)), .val (.ref b24), .val (.int (c0_132 p0_0 p0_1 p0_2 p0_3)), .val (.long (v0_140 p0_0 p0_1 p0_2 p0_3)), .second, .val (.long (v0_145 p0_0)), .second, .val (.long (v0_150 p0_0 p0_1)), .second, .val (.long (j0_193_18 p0_0 p0_1 p0_2 p0_3)), .second] [])) t → Steps p.tables e below (T33.setTop (mkF m 157 #[.val (.int p0_0), .val (.int p0_1), .val (.int p0_2), .val (.int p0_3), .val (.int (v0_4 p0_0)), .val (.long (v0_13 p0_0)), .second, .val (.int (v0_27 p0_0 p0_1)), .val (.int (v0_35 p0_3)), .val (.int (j0_115_9 p0_0 p0_1 p0_2 p0_3)), .val (.ref b24), .val (.int (c0_132 p0_0 p0_1 p0_2 p0_3)), .val (.long (v0_140 p0_0 p0_1 p0_2 p0_3)), .second, .val (.long (v0_145 p0_0)), .second, .val (.long (v0_150 p0_0 p0_1)), .second, .unset, .unset] [(.int (lcmpW (v0_140 p0_0 p0_1 p0_2 p0_3) (v0_145 p0_0)))])) t := by
    have pre35 : ∀ t, Steps p.tables e below (T33.setTop (mkF m 157 #[.val (.int p0_0), .val (.int p0_1), .val (.int p0_2), .val (.int p0_3), .val (.int (v0_4 p0_0)), .val (.long (v0_13 p0_0)), .second, .val (.int (v0_27 p0_0 p0_1)), .val (.int (v0_35 p0_3)), .val (.int (j0_115_9 p0_0 p0_1 p0_2 p0_3)), .val (.ref b24), .val (.int (c0_132 p0_0 p0_1 p0_2 p0_3)), .val (.long (v0_140 p0_0 p0_1 p0_2 p0_3)), .second, .val (.long (v0_145 p0_0)), .second, .val (.long (v0_150 p0_0 p0_1)), .second, .unset, .unset] [(.int (lcmpW (v0_140 p0_0 p0_1 p0_2 p0_3) (v0_145 p0_0)))])) t → Steps p.tables e below (T33.setTop (mkF m 157 #[.val (.int p0_0), .val (.int p0_1), .val (.int p0_2), .val (.int p0_3), .val (.int (v0_4 p0_0)), .val (.long (v0_13 p0_0)), .second, .val (.int (v0_27 p0_0 p0_1)), .val (.int (v0_35 p0_3)), .val (.int (j0_115_9 p0_0 p0_1 p0_2 p0_3)), .val (.ref b24), .val (.int (c0_132 p0_0 p0_1 p0_2 p0_3)), .val (.long (v0_140 p0_0 p0_1 p0_2 p0_3)), .second, .val (.long (v0_145 p0_0)), .second, .val (.long (v0_150 p0_0 p0_1)), .second, .unset, .unset] [(.int (lcmpW (v0_140 p0_0 p0_1 p0_2 p0_3) (v0_145 p0_0)))])) t := fun t k => k
    by_cases hc157_36 : (v0_140 p0_0 p0_1 p0_2 p0_3) < (v0_145 p0_0)
    · have pre37 : ∀ t, Steps p.tables e below (T33.setTop (mkF m 193 #[.val (.int p0_0), .val (.int p0_1), .val (.int p0_2), .val (.int p0_3), .val (.int (v0_4 p0_0)), .val (.long (v0_13 p0_0)), .second, .val (.int (v0_27 p0_0 p0_1)), .val (.int (v0_35 p0_3)), .val (.int (j0_115_9 p0_0 p0_1 p0_2 p0_3)), .val (.ref b24), .val (.int (c0_132 p0_0 p0_1 p0_2 p0_3)), .val (.long (v0_140 p0_0 p0_1 p0_2 p0_3)), .second, .val (.long (v0_145 p0_0)), .second, .val (.long (v0_150 p0_0 p0_1)), .second, .val (.long (v0_140 p0_0 p0_1 p0_2 p0_3)), .second] [])) t → Steps p.tables e below (T33.setTop (mkF m 157 #[.val (.int p0_0), .val (.int p0_1), .val (.int p0_2), .val (.int p0_3), .val (.int (v0_4 p0_0)), .val (.long (v0_13 p0_0)), .second, .val (.int (v0_27 p0_0 p0_1)), .val (.int (v0_35 p0_3)), .val (.int (j0_115_9 p0_0 p0_1 p0_2 p0_3)), .val (.ref b24), .val (.int (c0_132 p0_0 p0_1 p0_2 p0_3)), .val (.long (v0_140 p0_0 p0_1 p0_2 p0_3)), .second, .val (.long (v0_145 p0_0)), .second, .val (.long (v0_150 p0_0 p0_1)), .second, .unset, .unset] [(.int (lcmpW (v0_140 p0_0 p0_1 p0_2 p0_3) (v0_145 p0_0)))])) t := fun t k => pre35 t (by
        refine XS.ifNo X33.here hx rfl (hb hby at_157) rfl ((if0 _ _).trans (tlt ((lw_lt (v0_140 p0_0 p0_1 p0_2 p0_3) (v0_145 p0_0)).mpr hc157_36)).2.1) ?_
        show Steps p.tables e below (T33.setTop (mkF m 160 #[.val (.int p0_0), .val (.int p0_1), .val (.int p0_2), .val (.int p0_3), .val (.int (v0_4 p0_0)), .val (.long (v0_13 p0_0)), .second, .val (.int (v0_27 p0_0 p0_1)), .val (.int (v0_35 p0_3)), .val (.int (j0_115_9 p0_0 p0_1 p0_2 p0_3)), .val (.ref b24), .val (.int (c0_132 p0_0 p0_1 p0_2 p0_3)), .val (.long (v0_140 p0_0 p0_1 p0_2 p0_3)), .second, .val (.long (v0_145 p0_0)), .second, .val (.long (v0_150 p0_0 p0_1)), .second, .unset, .unset] [])) _
        refine XS.lload X33.here hx rfl (hb hby at_160) rfl ?_
        show Steps p.tables e below (T33.setTop (mkF m 162 #[.val (.int p0_0), .val (.int p0_1), .val (.int p0_2), .val (.int p0_3), .val (.int (v0_4 p0_0)), .val (.long (v0_13 p0_0)), .second, .val (.int (v0_27 p0_0 p0_1)), .val (.int (v0_35 p0_3)), .val (.int (j0_115_9 p0_0 p0_1 p0_2 p0_3)), .val (.ref b24), .val (.int (c0_132 p0_0 p0_1 p0_2 p0_3)), .val (.long (v0_140 p0_0 p0_1 p0_2 p0_3)), .second, .val (.long (v0_145 p0_0)), .second, .val (.long (v0_150 p0_0 p0_1)), .second, .unset, .unset] [(.long (v0_140 p0_0 p0_1 p0_2 p0_3))])) _
        refine XS.lstore X33.here hx rfl (hb hby at_162) rfl (l' := #[.val (.int p0_0), .val (.int p0_1), .val (.int p0_2), .val (.int p0_3), .val (.int (v0_4 p0_0)), .val (.long (v0_13 p0_0)), .second, .val (.int (v0_27 p0_0 p0_1)), .val (.int (v0_35 p0_3)), .val (.int (j0_115_9 p0_0 p0_1 p0_2 p0_3)), .val (.ref b24), .val (.int (c0_132 p0_0 p0_1 p0_2 p0_3)), .val (.long (v0_140 p0_0 p0_1 p0_2 p0_3)), .second, .val (.long (v0_145 p0_0)), .second, .val (.long (v0_150 p0_0 p0_1)), .second, .val (.long (v0_140 p0_0 p0_1 p0_2 p0_3)), .second]) rfl ?_
        show Steps p.tables e below (T33.setTop (mkF m 164 #[.val (.int p0_0), .val (.int p0_1), .val (.int p0_2), .val (.int p0_3), .val (.int (v0_4 p0_0)), .val (.long (v0_13 p0_0)), .second, .val (.int (v0_27 p0_0 p0_1)), .val (.int (v0_35 p0_3)), .val (.int (j0_115_9 p0_0 p0_1 p0_2 p0_3)), .val (.ref b24), .val (.int (c0_132 p0_0 p0_1 p0_2 p0_3)), .val (.long (v0_140 p0_0 p0_1 p0_2 p0_3)), .second, .val (.long (v0_145 p0_0)), .second, .val (.long (v0_150 p0_0 p0_1)), .second, .val (.long (v0_140 p0_0 p0_1 p0_2 p0_3)), .second] [])) _
        refine XS.goto X33.here hx rfl (pc0 := 164) (pc' := 193) rfl (hb hby at_164) (by decide) (by decide) ?_
        show Steps p.tables e below (T33.setTop (mkF m 193 #[.val (.int p0_0), .val (.int p0_1), .val (.int p0_2), .val (.int p0_3), .val (.int (v0_4 p0_0)), .val (.long (v0_13 p0_0)), .second, .val (.int (v0_27 p0_0 p0_1)), .val (.int (v0_35 p0_3)), .val (.int (j0_115_9 p0_0 p0_1 p0_2 p0_3)), .val (.ref b24), .val (.int (c0_132 p0_0 p0_1 p0_2 p0_3)), .val (.long (v0_140 p0_0 p0_1 p0_2 p0_3)), .second, .val (.long (v0_145 p0_0)), .second, .val (.long (v0_150 p0_0 p0_1)), .second, .val (.long (v0_140 p0_0 p0_1 p0_2 p0_3)), .second] [])) _
        exact k)
      have hj42 : (j0_193_18 p0_0 p0_1 p0_2 p0_3) = (v0_140 p0_0 p0_1 p0_2 p0_3) := by unfold j0_193_18; rw [if_pos hc157_36]
      exact ⟨T33, _, X33, e33, N33, fun t k => pre37 t (by rw [hj42] at k; exact k)⟩
    · have pre38 : ∀ t, Steps p.tables e below (T33.setTop (mkF m 175 #[.val (.int p0_0), .val (.int p0_1), .val (.int p0_2), .val (.int p0_3), .val (.int (v0_4 p0_0)), .val (.long (v0_13 p0_0)), .second, .val (.int (v0_27 p0_0 p0_1)), .val (.int (v0_35 p0_3)), .val (.int (j0_115_9 p0_0 p0_1 p0_2 p0_3)), .val (.ref b24), .val (.int (c0_132 p0_0 p0_1 p0_2 p0_3)), .val (.long (v0_140 p0_0 p0_1 p0_2 p0_3)), .second, .val (.long (v0_145 p0_0)), .second, .val (.long (v0_150 p0_0 p0_1)), .second, .unset, .unset] [(.int (lcmpW (v0_140 p0_0 p0_1 p0_2 p0_3) ((v0_145 p0_0) + (v0_150 p0_0 p0_1))))])) t → Steps p.tables e below (T33.setTop (mkF m 157 #[.val (.int p0_0), .val (.int p0_1), .val (.int p0_2), .val (.int p0_3), .val (.int (v0_4 p0_0)), .val (.long (v0_13 p0_0)), .second, .val (.int (v0_27 p0_0 p0_1)), .val (.int (v0_35 p0_3)), .val (.int (j0_115_9 p0_0 p0_1 p0_2 p0_3)), .val (.ref b24), .val (.int (c0_132 p0_0 p0_1 p0_2 p0_3)), .val (.long (v0_140 p0_0 p0_1 p0_2 p0_3)), .second, .val (.long (v0_145 p0_0)), .second, .val (.long (v0_150 p0_0 p0_1)), .second, .unset, .unset] [(.int (lcmpW (v0_140 p0_0 p0_1 p0_2 p0_3) (v0_145 p0_0)))])) t := fun t k => pre35 t (by
        refine XS.ifYes X33.here hx rfl (pc0 := 157) (pc' := 167) rfl (hb hby at_157) rfl ((if0 _ _).trans (flt (fun q => hc157_36 ((lw_lt (v0_140 p0_0 p0_1 p0_2 p0_3) (v0_145 p0_0)).mp q))).2.1) (by decide) (by decide) ?_
        show Steps p.tables e below (T33.setTop (mkF m 167 #[.val (.int p0_0), .val (.int p0_1), .val (.int p0_2), .val (.int p0_3), .val (.int (v0_4 p0_0)), .val (.long (v0_13 p0_0)), .second, .val (.int (v0_27 p0_0 p0_1)), .val (.int (v0_35 p0_3)), .val (.int (j0_115_9 p0_0 p0_1 p0_2 p0_3)), .val (.ref b24), .val (.int (c0_132 p0_0 p0_1 p0_2 p0_3)), .val (.long (v0_140 p0_0 p0_1 p0_2 p0_3)), .second, .val (.long (v0_145 p0_0)), .second, .val (.long (v0_150 p0_0 p0_1)), .second, .unset, .unset] [])) _
        refine XS.lload X33.here hx rfl (hb hby at_167) rfl ?_
        show Steps p.tables e below (T33.setTop (mkF m 169 #[.val (.int p0_0), .val (.int p0_1), .val (.int p0_2), .val (.int p0_3), .val (.int (v0_4 p0_0)), .val (.long (v0_13 p0_0)), .second, .val (.int (v0_27 p0_0 p0_1)), .val (.int (v0_35 p0_3)), .val (.int (j0_115_9 p0_0 p0_1 p0_2 p0_3)), .val (.ref b24), .val (.int (c0_132 p0_0 p0_1 p0_2 p0_3)), .val (.long (v0_140 p0_0 p0_1 p0_2 p0_3)), .second, .val (.long (v0_145 p0_0)), .second, .val (.long (v0_150 p0_0 p0_1)), .second, .unset, .unset] [(.long (v0_140 p0_0 p0_1 p0_2 p0_3))])) _
        refine XS.lload X33.here hx rfl (hb hby at_169) rfl ?_
        show Steps p.tables e below (T33.setTop (mkF m 171 #[.val (.int p0_0), .val (.int p0_1), .val (.int p0_2), .val (.int p0_3), .val (.int (v0_4 p0_0)), .val (.long (v0_13 p0_0)), .second, .val (.int (v0_27 p0_0 p0_1)), .val (.int (v0_35 p0_3)), .val (.int (j0_115_9 p0_0 p0_1 p0_2 p0_3)), .val (.ref b24), .val (.int (c0_132 p0_0 p0_1 p0_2 p0_3)), .val (.long (v0_140 p0_0 p0_1 p0_2 p0_3)), .second, .val (.long (v0_145 p0_0)), .second, .val (.long (v0_150 p0_0 p0_1)), .second, .unset, .unset] [(.long (v0_145 p0_0)), (.long (v0_140 p0_0 p0_1 p0_2 p0_3))])) _
        refine XS.lload X33.here hx rfl (hb hby at_171) rfl ?_
        show Steps p.tables e below (T33.setTop (mkF m 173 #[.val (.int p0_0), .val (.int p0_1), .val (.int p0_2), .val (.int p0_3), .val (.int (v0_4 p0_0)), .val (.long (v0_13 p0_0)), .second, .val (.int (v0_27 p0_0 p0_1)), .val (.int (v0_35 p0_3)), .val (.int (j0_115_9 p0_0 p0_1 p0_2 p0_3)), .val (.ref b24), .val (.int (c0_132 p0_0 p0_1 p0_2 p0_3)), .val (.long (v0_140 p0_0 p0_1 p0_2 p0_3)), .second, .val (.long (v0_145 p0_0)), .second, .val (.long (v0_150 p0_0 p0_1)), .second, .unset, .unset] [(.long (v0_150 p0_0 p0_1)), (.long (v0_145 p0_0)), (.long (v0_140 p0_0 p0_1 p0_2 p0_3))])) _
        refine XS.ladd X33.here hx rfl (hb hby at_173) rfl ?_
        show Steps p.tables e below (T33.setTop (mkF m 174 #[.val (.int p0_0), .val (.int p0_1), .val (.int p0_2), .val (.int p0_3), .val (.int (v0_4 p0_0)), .val (.long (v0_13 p0_0)), .second, .val (.int (v0_27 p0_0 p0_1)), .val (.int (v0_35 p0_3)), .val (.int (j0_115_9 p0_0 p0_1 p0_2 p0_3)), .val (.ref b24), .val (.int (c0_132 p0_0 p0_1 p0_2 p0_3)), .val (.long (v0_140 p0_0 p0_1 p0_2 p0_3)), .second, .val (.long (v0_145 p0_0)), .second, .val (.long (v0_150 p0_0 p0_1)), .second, .unset, .unset] [(.long ((v0_145 p0_0) + (v0_150 p0_0 p0_1))), (.long (v0_140 p0_0 p0_1 p0_2 p0_3))])) _
        refine XS.lcmp X33.here hx rfl (hb hby at_174) rfl ?_
        show Steps p.tables e below (T33.setTop (mkF m 175 #[.val (.int p0_0), .val (.int p0_1), .val (.int p0_2), .val (.int p0_3), .val (.int (v0_4 p0_0)), .val (.long (v0_13 p0_0)), .second, .val (.int (v0_27 p0_0 p0_1)), .val (.int (v0_35 p0_3)), .val (.int (j0_115_9 p0_0 p0_1 p0_2 p0_3)), .val (.ref b24), .val (.int (c0_132 p0_0 p0_1 p0_2 p0_3)), .val (.long (v0_140 p0_0 p0_1 p0_2 p0_3)), .second, .val (.long (v0_145 p0_0)), .second, .val (.long (v0_150 p0_0 p0_1)), .second, .unset, .unset] [(.int (lcmpW (v0_140 p0_0 p0_1 p0_2 p0_3) ((v0_145 p0_0) + (v0_150 p0_0 p0_1))))])) _
        exact k)
      by_cases hc175_39 : (v0_140 p0_0 p0_1 p0_2 p0_3) < ((v0_145 p0_0) + (v0_150 p0_0 p0_1))
      · have pre40 : ∀ t, Steps p.tables e below (T33.setTop (mkF m 193 #[.val (.int p0_0), .val (.int p0_1), .val (.int p0_2), .val (.int p0_3), .val (.int (v0_4 p0_0)), .val (.long (v0_13 p0_0)), .second, .val (.int (v0_27 p0_0 p0_1)), .val (.int (v0_35 p0_3)), .val (.int (j0_115_9 p0_0 p0_1 p0_2 p0_3)), .val (.ref b24), .val (.int (c0_132 p0_0 p0_1 p0_2 p0_3)), .val (.long (v0_140 p0_0 p0_1 p0_2 p0_3)), .second, .val (.long (v0_145 p0_0)), .second, .val (.long (v0_150 p0_0 p0_1)), .second, .val (.long (-1 : Int64)), .second] [])) t → Steps p.tables e below (T33.setTop (mkF m 157 #[.val (.int p0_0), .val (.int p0_1), .val (.int p0_2), .val (.int p0_3), .val (.int (v0_4 p0_0)), .val (.long (v0_13 p0_0)), .second, .val (.int (v0_27 p0_0 p0_1)), .val (.int (v0_35 p0_3)), .val (.int (j0_115_9 p0_0 p0_1 p0_2 p0_3)), .val (.ref b24), .val (.int (c0_132 p0_0 p0_1 p0_2 p0_3)), .val (.long (v0_140 p0_0 p0_1 p0_2 p0_3)), .second, .val (.long (v0_145 p0_0)), .second, .val (.long (v0_150 p0_0 p0_1)), .second, .unset, .unset] [(.int (lcmpW (v0_140 p0_0 p0_1 p0_2 p0_3) (v0_145 p0_0)))])) t := fun t k => pre38 t (by
          refine XS.ifNo X33.here hx rfl (hb hby at_175) rfl ((if0 _ _).trans (tlt ((lw_lt (v0_140 p0_0 p0_1 p0_2 p0_3) ((v0_145 p0_0) + (v0_150 p0_0 p0_1))).mpr hc175_39)).2.1) ?_
          show Steps p.tables e below (T33.setTop (mkF m 178 #[.val (.int p0_0), .val (.int p0_1), .val (.int p0_2), .val (.int p0_3), .val (.int (v0_4 p0_0)), .val (.long (v0_13 p0_0)), .second, .val (.int (v0_27 p0_0 p0_1)), .val (.int (v0_35 p0_3)), .val (.int (j0_115_9 p0_0 p0_1 p0_2 p0_3)), .val (.ref b24), .val (.int (c0_132 p0_0 p0_1 p0_2 p0_3)), .val (.long (v0_140 p0_0 p0_1 p0_2 p0_3)), .second, .val (.long (v0_145 p0_0)), .second, .val (.long (v0_150 p0_0 p0_1)), .second, .unset, .unset] [])) _
          refine X33.ldc2Long hx hown (mvT hZ (hw _ (List.mem_of_getElem? (i := 38) rfl))) (g := (mkF m 178 #[.val (.int p0_0), .val (.int p0_1), .val (.int p0_2), .val (.int p0_3), .val (.int (v0_4 p0_0)), .val (.long (v0_13 p0_0)), .second, .val (.int (v0_27 p0_0 p0_1)), .val (.int (v0_35 p0_3)), .val (.int (j0_115_9 p0_0 p0_1 p0_2 p0_3)), .val (.ref b24), .val (.int (c0_132 p0_0 p0_1 p0_2 p0_3)), .val (.long (v0_140 p0_0 p0_1 p0_2 p0_3)), .second, .val (.long (v0_145 p0_0)), .second, .val (.long (v0_150 p0_0 p0_1)), .second, .unset, .unset] [])) rfl (hb hby at_178) _ ?_
          show Steps p.tables e below (T33.setTop (mkF m 181 #[.val (.int p0_0), .val (.int p0_1), .val (.int p0_2), .val (.int p0_3), .val (.int (v0_4 p0_0)), .val (.long (v0_13 p0_0)), .second, .val (.int (v0_27 p0_0 p0_1)), .val (.int (v0_35 p0_3)), .val (.int (j0_115_9 p0_0 p0_1 p0_2 p0_3)), .val (.ref b24), .val (.int (c0_132 p0_0 p0_1 p0_2 p0_3)), .val (.long (v0_140 p0_0 p0_1 p0_2 p0_3)), .second, .val (.long (v0_145 p0_0)), .second, .val (.long (v0_150 p0_0 p0_1)), .second, .unset, .unset] [(.long (-1 : Int64))])) _
          refine XS.lstore X33.here hx rfl (hb hby at_181) rfl (l' := #[.val (.int p0_0), .val (.int p0_1), .val (.int p0_2), .val (.int p0_3), .val (.int (v0_4 p0_0)), .val (.long (v0_13 p0_0)), .second, .val (.int (v0_27 p0_0 p0_1)), .val (.int (v0_35 p0_3)), .val (.int (j0_115_9 p0_0 p0_1 p0_2 p0_3)), .val (.ref b24), .val (.int (c0_132 p0_0 p0_1 p0_2 p0_3)), .val (.long (v0_140 p0_0 p0_1 p0_2 p0_3)), .second, .val (.long (v0_145 p0_0)), .second, .val (.long (v0_150 p0_0 p0_1)), .second, .val (.long (-1 : Int64)), .second]) rfl ?_
          show Steps p.tables e below (T33.setTop (mkF m 183 #[.val (.int p0_0), .val (.int p0_1), .val (.int p0_2), .val (.int p0_3), .val (.int (v0_4 p0_0)), .val (.long (v0_13 p0_0)), .second, .val (.int (v0_27 p0_0 p0_1)), .val (.int (v0_35 p0_3)), .val (.int (j0_115_9 p0_0 p0_1 p0_2 p0_3)), .val (.ref b24), .val (.int (c0_132 p0_0 p0_1 p0_2 p0_3)), .val (.long (v0_140 p0_0 p0_1 p0_2 p0_3)), .second, .val (.long (v0_145 p0_0)), .second, .val (.long (v0_150 p0_0 p0_1)), .second, .val (.long (-1 : Int64)), .second] [])) _
          refine XS.goto X33.here hx rfl (pc0 := 183) (pc' := 193) rfl (hb hby at_183) (by decide) (by decide) ?_
          show Steps p.tables e below (T33.setTop (mkF m 193 #[.val (.int p0_0), .val (.int p0_1), .val (.int p0_2), .val (.int p0_3), .val (.int (v0_4 p0_0)), .val (.long (v0_13 p0_0)), .second, .val (.int (v0_27 p0_0 p0_1)), .val (.int (v0_35 p0_3)), .val (.int (j0_115_9 p0_0 p0_1 p0_2 p0_3)), .val (.ref b24), .val (.int (c0_132 p0_0 p0_1 p0_2 p0_3)), .val (.long (v0_140 p0_0 p0_1 p0_2 p0_3)), .second, .val (.long (v0_145 p0_0)), .second, .val (.long (v0_150 p0_0 p0_1)), .second, .val (.long (-1 : Int64)), .second] [])) _
          exact k)
        have hj43 : (j0_193_18 p0_0 p0_1 p0_2 p0_3) = (-1 : Int64) := by unfold j0_193_18; rw [if_neg hc157_36, if_pos hc175_39]
        exact ⟨T33, _, X33, e33, N33, fun t k => pre40 t (by rw [hj43] at k; exact k)⟩
      · have pre41 : ∀ t, Steps p.tables e below (T33.setTop (mkF m 193 #[.val (.int p0_0), .val (.int p0_1), .val (.int p0_2), .val (.int p0_3), .val (.int (v0_4 p0_0)), .val (.long (v0_13 p0_0)), .second, .val (.int (v0_27 p0_0 p0_1)), .val (.int (v0_35 p0_3)), .val (.int (j0_115_9 p0_0 p0_1 p0_2 p0_3)), .val (.ref b24), .val (.int (c0_132 p0_0 p0_1 p0_2 p0_3)), .val (.long (v0_140 p0_0 p0_1 p0_2 p0_3)), .second, .val (.long (v0_145 p0_0)), .second, .val (.long (v0_150 p0_0 p0_1)), .second, .val (.long (v0_191 p0_0 p0_1 p0_2 p0_3)), .second] [])) t → Steps p.tables e below (T33.setTop (mkF m 157 #[.val (.int p0_0), .val (.int p0_1), .val (.int p0_2), .val (.int p0_3), .val (.int (v0_4 p0_0)), .val (.long (v0_13 p0_0)), .second, .val (.int (v0_27 p0_0 p0_1)), .val (.int (v0_35 p0_3)), .val (.int (j0_115_9 p0_0 p0_1 p0_2 p0_3)), .val (.ref b24), .val (.int (c0_132 p0_0 p0_1 p0_2 p0_3)), .val (.long (v0_140 p0_0 p0_1 p0_2 p0_3)), .second, .val (.long (v0_145 p0_0)), .second, .val (.long (v0_150 p0_0 p0_1)), .second, .unset, .unset] [(.int (lcmpW (v0_140 p0_0 p0_1 p0_2 p0_3) (v0_145 p0_0)))])) t := fun t k => pre38 t (by
          refine XS.ifYes X33.here hx rfl (pc0 := 175) (pc' := 186) rfl (hb hby at_175) rfl ((if0 _ _).trans (flt (fun q => hc175_39 ((lw_lt (v0_140 p0_0 p0_1 p0_2 p0_3) ((v0_145 p0_0) + (v0_150 p0_0 p0_1))).mp q))).2.1) (by decide) (by decide) ?_
          show Steps p.tables e below (T33.setTop (mkF m 186 #[.val (.int p0_0), .val (.int p0_1), .val (.int p0_2), .val (.int p0_3), .val (.int (v0_4 p0_0)), .val (.long (v0_13 p0_0)), .second, .val (.int (v0_27 p0_0 p0_1)), .val (.int (v0_35 p0_3)), .val (.int (j0_115_9 p0_0 p0_1 p0_2 p0_3)), .val (.ref b24), .val (.int (c0_132 p0_0 p0_1 p0_2 p0_3)), .val (.long (v0_140 p0_0 p0_1 p0_2 p0_3)), .second, .val (.long (v0_145 p0_0)), .second, .val (.long (v0_150 p0_0 p0_1)), .second, .unset, .unset] [])) _
          refine XS.lload X33.here hx rfl (hb hby at_186) rfl ?_
          show Steps p.tables e below (T33.setTop (mkF m 188 #[.val (.int p0_0), .val (.int p0_1), .val (.int p0_2), .val (.int p0_3), .val (.int (v0_4 p0_0)), .val (.long (v0_13 p0_0)), .second, .val (.int (v0_27 p0_0 p0_1)), .val (.int (v0_35 p0_3)), .val (.int (j0_115_9 p0_0 p0_1 p0_2 p0_3)), .val (.ref b24), .val (.int (c0_132 p0_0 p0_1 p0_2 p0_3)), .val (.long (v0_140 p0_0 p0_1 p0_2 p0_3)), .second, .val (.long (v0_145 p0_0)), .second, .val (.long (v0_150 p0_0 p0_1)), .second, .unset, .unset] [(.long (v0_140 p0_0 p0_1 p0_2 p0_3))])) _
          refine XS.lload X33.here hx rfl (hb hby at_188) rfl ?_
          show Steps p.tables e below (T33.setTop (mkF m 190 #[.val (.int p0_0), .val (.int p0_1), .val (.int p0_2), .val (.int p0_3), .val (.int (v0_4 p0_0)), .val (.long (v0_13 p0_0)), .second, .val (.int (v0_27 p0_0 p0_1)), .val (.int (v0_35 p0_3)), .val (.int (j0_115_9 p0_0 p0_1 p0_2 p0_3)), .val (.ref b24), .val (.int (c0_132 p0_0 p0_1 p0_2 p0_3)), .val (.long (v0_140 p0_0 p0_1 p0_2 p0_3)), .second, .val (.long (v0_145 p0_0)), .second, .val (.long (v0_150 p0_0 p0_1)), .second, .unset, .unset] [(.long (v0_150 p0_0 p0_1)), (.long (v0_140 p0_0 p0_1 p0_2 p0_3))])) _
          refine XS.lsub X33.here hx rfl (hb hby at_190) rfl ?_
          show Steps p.tables e below (T33.setTop (mkF m 191 #[.val (.int p0_0), .val (.int p0_1), .val (.int p0_2), .val (.int p0_3), .val (.int (v0_4 p0_0)), .val (.long (v0_13 p0_0)), .second, .val (.int (v0_27 p0_0 p0_1)), .val (.int (v0_35 p0_3)), .val (.int (j0_115_9 p0_0 p0_1 p0_2 p0_3)), .val (.ref b24), .val (.int (c0_132 p0_0 p0_1 p0_2 p0_3)), .val (.long (v0_140 p0_0 p0_1 p0_2 p0_3)), .second, .val (.long (v0_145 p0_0)), .second, .val (.long (v0_150 p0_0 p0_1)), .second, .unset, .unset] [(.long ((v0_140 p0_0 p0_1 p0_2 p0_3) - (v0_150 p0_0 p0_1)))])) _
          show Steps p.tables e below (T33.setTop (mkF m 191 #[.val (.int p0_0), .val (.int p0_1), .val (.int p0_2), .val (.int p0_3), .val (.int (v0_4 p0_0)), .val (.long (v0_13 p0_0)), .second, .val (.int (v0_27 p0_0 p0_1)), .val (.int (v0_35 p0_3)), .val (.int (j0_115_9 p0_0 p0_1 p0_2 p0_3)), .val (.ref b24), .val (.int (c0_132 p0_0 p0_1 p0_2 p0_3)), .val (.long (v0_140 p0_0 p0_1 p0_2 p0_3)), .second, .val (.long (v0_145 p0_0)), .second, .val (.long (v0_150 p0_0 p0_1)), .second, .unset, .unset] [(.long (v0_191 p0_0 p0_1 p0_2 p0_3))])) _
          refine XS.lstore X33.here hx rfl (hb hby at_191) rfl (l' := #[.val (.int p0_0), .val (.int p0_1), .val (.int p0_2), .val (.int p0_3), .val (.int (v0_4 p0_0)), .val (.long (v0_13 p0_0)), .second, .val (.int (v0_27 p0_0 p0_1)), .val (.int (v0_35 p0_3)), .val (.int (j0_115_9 p0_0 p0_1 p0_2 p0_3)), .val (.ref b24), .val (.int (c0_132 p0_0 p0_1 p0_2 p0_3)), .val (.long (v0_140 p0_0 p0_1 p0_2 p0_3)), .second, .val (.long (v0_145 p0_0)), .second, .val (.long (v0_150 p0_0 p0_1)), .second, .val (.long (v0_191 p0_0 p0_1 p0_2 p0_3)), .second]) rfl ?_
          show Steps p.tables e below (T33.setTop (mkF m 193 #[.val (.int p0_0), .val (.int p0_1), .val (.int p0_2), .val (.int p0_3), .val (.int (v0_4 p0_0)), .val (.long (v0_13 p0_0)), .second, .val (.int (v0_27 p0_0 p0_1)), .val (.int (v0_35 p0_3)), .val (.int (j0_115_9 p0_0 p0_1 p0_2 p0_3)), .val (.ref b24), .val (.int (c0_132 p0_0 p0_1 p0_2 p0_3)), .val (.long (v0_140 p0_0 p0_1 p0_2 p0_3)), .second, .val (.long (v0_145 p0_0)), .second, .val (.long (v0_150 p0_0 p0_1)), .second, .val (.long (v0_191 p0_0 p0_1 p0_2 p0_3)), .second] [])) _
          exact k)
        have hj44 : (j0_193_18 p0_0 p0_1 p0_2 p0_3) = (v0_191 p0_0 p0_1 p0_2 p0_3) := by unfold j0_193_18; rw [if_neg hc157_36, if_neg hc175_39]
        exact ⟨T33, _, X33, e33, N33, fun t k => pre41 t (by rw [hj44] at k; exact k)⟩
  have pre35 : ∀ t, Steps p.tables e below (T35.setTop (mkF m 193 #[.val (.int p0_0), .val (.int p0_1), .val (.int p0_2), .val (.int p0_3), .val (.int (v0_4 p0_0)), .val (.long (v0_13 p0_0)), .second, .val (.int (v0_27 p0_0 p0_1)), .val (.int (v0_35 p0_3)), .val (.int (j0_115_9 p0_0 p0_1 p0_2 p0_3)), .val (.ref b24), .val (.int (c0_132 p0_0 p0_1 p0_2 p0_3)), .val (.long (v0_140 p0_0 p0_1 p0_2 p0_3)), .second, .val (.long (v0_145 p0_0)), .second, .val (.long (v0_150 p0_0 p0_1)), .second, .val (.long (j0_193_18 p0_0 p0_1 p0_2 p0_3)), .second] [])) t → Steps p.tables e below (s₁.setTop (entryFrame m #[(.int p0_0), (.int p0_1), (.int p0_2), (.int p0_3)] maxLocals)) t := fun t k => pre34 t (st35 t k)
  have pre46 : ∀ t, Steps p.tables e below (T35.setTop (mkF m 207 #[.val (.int p0_0), .val (.int p0_1), .val (.int p0_2), .val (.int p0_3), .val (.int (v0_4 p0_0)), .val (.long (v0_13 p0_0)), .second, .val (.int (v0_27 p0_0 p0_1)), .val (.int (v0_35 p0_3)), .val (.int (j0_115_9 p0_0 p0_1 p0_2 p0_3)), .val (.ref b24), .val (.int (c0_132 p0_0 p0_1 p0_2 p0_3)), .val (.long (v0_140 p0_0 p0_1 p0_2 p0_3)), .second, .val (.long (v0_145 p0_0)), .second, .val (.long (v0_150 p0_0 p0_1)), .second, .val (.long (j0_193_18 p0_0 p0_1 p0_2 p0_3)), .second] [(.int (1 : Int32))])) t → Steps p.tables e below (s₁.setTop (entryFrame m #[(.int p0_0), (.int p0_1), (.int p0_2), (.int p0_3)] maxLocals)) t := fun t k => pre35 t (by
    refine XS.iload X35.here hx rfl (hb hby at_193) rfl ?_
    show Steps p.tables e below (T35.setTop (mkF m 195 #[.val (.int p0_0), .val (.int p0_1), .val (.int p0_2), .val (.int p0_3), .val (.int (v0_4 p0_0)), .val (.long (v0_13 p0_0)), .second, .val (.int (v0_27 p0_0 p0_1)), .val (.int (v0_35 p0_3)), .val (.int (j0_115_9 p0_0 p0_1 p0_2 p0_3)), .val (.ref b24), .val (.int (c0_132 p0_0 p0_1 p0_2 p0_3)), .val (.long (v0_140 p0_0 p0_1 p0_2 p0_3)), .second, .val (.long (v0_145 p0_0)), .second, .val (.long (v0_150 p0_0 p0_1)), .second, .val (.long (j0_193_18 p0_0 p0_1 p0_2 p0_3)), .second] [(.int (c0_132 p0_0 p0_1 p0_2 p0_3))])) _
    refine XS.i2l X35.here hx rfl (hb hby at_195) rfl ?_
    show Steps p.tables e below (T35.setTop (mkF m 196 #[.val (.int p0_0), .val (.int p0_1), .val (.int p0_2), .val (.int p0_3), .val (.int (v0_4 p0_0)), .val (.long (v0_13 p0_0)), .second, .val (.int (v0_27 p0_0 p0_1)), .val (.int (v0_35 p0_3)), .val (.int (j0_115_9 p0_0 p0_1 p0_2 p0_3)), .val (.ref b24), .val (.int (c0_132 p0_0 p0_1 p0_2 p0_3)), .val (.long (v0_140 p0_0 p0_1 p0_2 p0_3)), .second, .val (.long (v0_145 p0_0)), .second, .val (.long (v0_150 p0_0 p0_1)), .second, .val (.long (j0_193_18 p0_0 p0_1 p0_2 p0_3)), .second] [(.long (((c0_132 p0_0 p0_1 p0_2 p0_3)).toInt64))])) _
    refine XS.lload X35.here hx rfl (hb hby at_196) rfl ?_
    show Steps p.tables e below (T35.setTop (mkF m 198 #[.val (.int p0_0), .val (.int p0_1), .val (.int p0_2), .val (.int p0_3), .val (.int (v0_4 p0_0)), .val (.long (v0_13 p0_0)), .second, .val (.int (v0_27 p0_0 p0_1)), .val (.int (v0_35 p0_3)), .val (.int (j0_115_9 p0_0 p0_1 p0_2 p0_3)), .val (.ref b24), .val (.int (c0_132 p0_0 p0_1 p0_2 p0_3)), .val (.long (v0_140 p0_0 p0_1 p0_2 p0_3)), .second, .val (.long (v0_145 p0_0)), .second, .val (.long (v0_150 p0_0 p0_1)), .second, .val (.long (j0_193_18 p0_0 p0_1 p0_2 p0_3)), .second] [(.long (j0_193_18 p0_0 p0_1 p0_2 p0_3)), (.long (((c0_132 p0_0 p0_1 p0_2 p0_3)).toInt64))])) _
    refine XS.lcmp X35.here hx rfl (hb hby at_198) rfl ?_
    show Steps p.tables e below (T35.setTop (mkF m 199 #[.val (.int p0_0), .val (.int p0_1), .val (.int p0_2), .val (.int p0_3), .val (.int (v0_4 p0_0)), .val (.long (v0_13 p0_0)), .second, .val (.int (v0_27 p0_0 p0_1)), .val (.int (v0_35 p0_3)), .val (.int (j0_115_9 p0_0 p0_1 p0_2 p0_3)), .val (.ref b24), .val (.int (c0_132 p0_0 p0_1 p0_2 p0_3)), .val (.long (v0_140 p0_0 p0_1 p0_2 p0_3)), .second, .val (.long (v0_145 p0_0)), .second, .val (.long (v0_150 p0_0 p0_1)), .second, .val (.long (j0_193_18 p0_0 p0_1 p0_2 p0_3)), .second] [(.int (lcmpW (((c0_132 p0_0 p0_1 p0_2 p0_3)).toInt64) (j0_193_18 p0_0 p0_1 p0_2 p0_3)))])) _
    refine XS.ifNo X35.here hx rfl (hb hby at_199) rfl ((if0 _ _).trans (teq ((lw_eq (((c0_132 p0_0 p0_1 p0_2 p0_3)).toInt64) (j0_193_18 p0_0 p0_1 p0_2 p0_3)).mpr (show (((c0_132 p0_0 p0_1 p0_2 p0_3)).toInt64) = (j0_193_18 p0_0 p0_1 p0_2 p0_3) from (own_main p0_0 p0_1 p0_2 p0_3)))).2) ?_
    show Steps p.tables e below (T35.setTop (mkF m 202 #[.val (.int p0_0), .val (.int p0_1), .val (.int p0_2), .val (.int p0_3), .val (.int (v0_4 p0_0)), .val (.long (v0_13 p0_0)), .second, .val (.int (v0_27 p0_0 p0_1)), .val (.int (v0_35 p0_3)), .val (.int (j0_115_9 p0_0 p0_1 p0_2 p0_3)), .val (.ref b24), .val (.int (c0_132 p0_0 p0_1 p0_2 p0_3)), .val (.long (v0_140 p0_0 p0_1 p0_2 p0_3)), .second, .val (.long (v0_145 p0_0)), .second, .val (.long (v0_150 p0_0 p0_1)), .second, .val (.long (j0_193_18 p0_0 p0_1 p0_2 p0_3)), .second] [])) _
    refine XS.iconst X35.here hx rfl (hb hby at_202) ?_
    show Steps p.tables e below (T35.setTop (mkF m 203 #[.val (.int p0_0), .val (.int p0_1), .val (.int p0_2), .val (.int p0_3), .val (.int (v0_4 p0_0)), .val (.long (v0_13 p0_0)), .second, .val (.int (v0_27 p0_0 p0_1)), .val (.int (v0_35 p0_3)), .val (.int (j0_115_9 p0_0 p0_1 p0_2 p0_3)), .val (.ref b24), .val (.int (c0_132 p0_0 p0_1 p0_2 p0_3)), .val (.long (v0_140 p0_0 p0_1 p0_2 p0_3)), .second, .val (.long (v0_145 p0_0)), .second, .val (.long (v0_150 p0_0 p0_1)), .second, .val (.long (j0_193_18 p0_0 p0_1 p0_2 p0_3)), .second] [(.int (1 : Int32))])) _
    refine XS.goto X35.here hx rfl (pc0 := 203) (pc' := 207) rfl (hb hby at_203) (by decide) (by decide) ?_
    show Steps p.tables e below (T35.setTop (mkF m 207 #[.val (.int p0_0), .val (.int p0_1), .val (.int p0_2), .val (.int p0_3), .val (.int (v0_4 p0_0)), .val (.long (v0_13 p0_0)), .second, .val (.int (v0_27 p0_0 p0_1)), .val (.int (v0_35 p0_3)), .val (.int (j0_115_9 p0_0 p0_1 p0_2 p0_3)), .val (.ref b24), .val (.int (c0_132 p0_0 p0_1 p0_2 p0_3)), .val (.long (v0_140 p0_0 p0_1 p0_2 p0_3)), .second, .val (.long (v0_145 p0_0)), .second, .val (.long (v0_150 p0_0 p0_1)), .second, .val (.long (j0_193_18 p0_0 p0_1 p0_2 p0_3)), .second] [(.int (1 : Int32))])) _
    exact k)
  obtain ⟨fs, hr, hrun, hended, hW, hsame⟩ := X35.leave (v := some (.int (1 : Int32))) (fun h => by rw [Bd.returns] at h; cases h)
  refine ⟨_, _, pre46 _ ?_, hrun, hended, _, _, rfl, ?_, ⟨_, rfl⟩, hW, hsame.mono (by decide) (by decide)⟩
  · show Steps p.tables e below (T35.setTop (mkF m 207 #[.val (.int p0_0), .val (.int p0_1), .val (.int p0_2), .val (.int p0_3), .val (.int (v0_4 p0_0)), .val (.long (v0_13 p0_0)), .second, .val (.int (v0_27 p0_0 p0_1)), .val (.int (v0_35 p0_3)), .val (.int (j0_115_9 p0_0 p0_1 p0_2 p0_3)), .val (.ref b24), .val (.int (c0_132 p0_0 p0_1 p0_2 p0_3)), .val (.long (v0_140 p0_0 p0_1 p0_2 p0_3)), .second, .val (.long (v0_145 p0_0)), .second, .val (.long (v0_150 p0_0 p0_1)), .second, .val (.long (j0_193_18 p0_0 p0_1 p0_2 p0_3)), .second] [(.int (1 : Int32))])) _
    exact retN X35 hx (t := .boolean) Bd.returns (by simp) (hb hby at_207) hr
  · show Q0 Z p0_0 p0_1 p0_2 p0_3 h0 n0 _ T35.heap _
    rw [e35]
    exact ⟨rfl, N35⟩
set_option maxRecDepth 65536 in
set_option maxHeartbeats 40000000 in
theorem comes_1 {Post : Tables → Env → Array Value → State → Outcome → State → Prop} (hpost : ∀ tb e args s v u, (limb_1_1.after args s (.returned v) u = true ∧ limb_1_2.after args s (.returned v) u = true ∧ True) → FrameEnd s (.returned v) u (Jvm.fieldLocs frame_1_writes args s ++ Jvm.arrayLocs frame_1_arrays args s ++ Jvm.staticLocs frame_1_statics s) 16 128 → Post tb e args s (.returned v) u) :
    ArmFor flags0 classFile x code maxLocals ret World_1 tables_1 room_1 Calls_1 rest_1 Pre_1 Post := by
  intro l hfl _ _ p e ha hc hk s m args below hf hA hF happ hP
  obtain ⟨hcalls, hrest, hpre⟩ := hP
  obtain ⟨-, -, -, hnamed, -, -, -, hat⟩ := (Spec.applies_iff hf).mp happ
  obtain ⟨hg, hn⟩ := and_e (Cond.before_iff.mp (show (Jvm.Cond.and given_1 narrow_1).before args s = true from hpre))
  obtain ⟨gc, g0⟩ := and_e hg
  obtain ⟨ga0, g1⟩ := and_e g0
  obtain ⟨ga1, g2⟩ := and_e g1
  obtain ⟨ga2, g3⟩ := and_e g2
  obtain ⟨w0, w1, w2, w3, rfl⟩ : ∃ w0 w1 w2 w3 : Value, args = #[w0, w1, w2, w3] := by
    have hs : args.size = 4 := by simpa [Cond.value, given_1] using gc
    obtain ⟨L⟩ := args
    match L, hs with
    | [w0, w1, w2, w3], _ => exact ⟨w0, w1, w2, w3, rfl⟩
  have hw := fun d (hd : d ∈ tables_1) => atoms_spec (ws := Jvm.Cond.code x code maxLocals ret :: tables_1) hat d (List.mem_cons_of_mem _ hd)
  obtain ⟨i0, ei0⟩ := is_v ga0
  obtain rfl : w0 = (.int i0) := Option.some.inj ei0
  obtain ⟨i1, ei1⟩ := is_v ga1
  obtain rfl : w1 = (.int i1) := Option.some.inj ei1
  obtain ⟨i2, ei2⟩ := is_v ga2
  obtain rfl : w2 = (.int i2) := Option.some.inj ei2
  obtain ⟨i3, ei3⟩ := is_v g3
  obtain rfl : w3 = (.int i3) := Option.some.inj ei3
  obtain ⟨n, o, h1, h2, h3, _, L, rfl, ⟨rfl, N⟩, hq⟩ := rm0 l s _ hw tables_1 i0 i1 i2 i3  s.heap s.heap.size (Nat.le_refl _)  p e ha hc hk s m _ below hf ((Spec.applies_iff_loose hf).mp happ).1 ⟨rfl, State.Warmed39.refl s, rfl⟩ trivial
  refine ⟨n, _, h1, h2, h3, hpost _ _ _ _ _ _ ⟨Cond.after_iff.mpr rfl, Cond.after_iff.mpr (eq_i res_at (Term.int_eval (1)) rfl), trivial⟩ ⟨hq.1, hq.2.1, (hq.2.2.sift fun y hy => Or.inr (N y hy)).mono (by decide) (by decide)⟩⟩
theorem main_1_1 : Claimed_1_1 := comes_1 fun _ _ _ _ _ _ h hF => ⟨h.1, hF⟩
theorem main_1_2 : Claimed_1_2 := comes_1 fun _ _ _ _ _ _ h hF => ⟨h.2.1, hF⟩
end Jvm.Pilot.@@N@@
namespace Jvm.Pilot.@@N@@
open Jvm Jvm.ClassFile Sem Op Lib Jvm.Free Jvm.Stand Jvm.Pilot.@@N@@.Jvm.D
/-! MADE BY PROGRAM (witnessworld.py) out of the Statement's table words and the real class files: 14 classes; the members and pool entries that the words name. The judged class is class 1, her method 1. -/
namespace start1
open Jvm.ClassFile
def u (s : String) : CpInfo := .utf8 (stringToUtf16 s)
/-- a pool by its gaps: so many unusable entries, then the entry; so many at the end -/
def gap : Nat → List CpInfo → List CpInfo
  | 0, r => r
  | n + 1, r => .unusable :: gap n r
def poolList (es : List (Nat × CpInfo)) (last : Nat) : List CpInfo := es.foldr (fun e r => gap e.1 (e.2 :: r)) (gap last [])
def pool (es : List (Nat × CpInfo)) (last : Nat) : Array CpInfo := ⟨poolList es last⟩
def fileOf (pool : Array CpInfo) (this : Nat) (attrs : Array Attribute := #[]) (ms : Array MethodInfo := #[]) (fl : Nat := 33) (sup : Nat := 0) (ifs : Array Nat := #[]) (fds : Array FieldInfo := #[]) : ClassFile where
  minorVersion := 0
  majorVersion := 65
  constantPool := pool
  accessFlags := fl
  thisClass := this
  superClass := sup
  interfaces := ifs
  fields := fds
  methods := ms
  attributes := attrs
def plain (name : String) (sup : Option ClassId) : Class where
  name := name
  kind := .ordinary
  loader := none
  accessFlags := 33
  super := sup
  interfaces := #[]
  cf := none
  fields := #[]
  methods := #[]
  instanceTypes := #[]
  staticTypes := #[]
  resolved := #[]
  callSites := []
  init := .initialized
  statics := none
  mirror := none

def pool0 : Array CpInfo := pool [(5, u "<init>"), (0, u "()V"), (1, .class_ 10), (1, u "java/lang/Object")] 113

def k0c0 : Code := { maxStack := 0, maxLocals := 1, code := object_method_1_code, exceptionTable := #[], attributes := #[] }
def k0m0 : Method := { name := "<init>", desc := "()V", sig := { parameters := [], returnType := none }, accessFlags := 1, code := some k0c0 }
/-- java/lang/Object -/
def k0 : Class := { plain "java/lang/Object" none with
  accessFlags := 33
  interfaces := #[]
  cf := some (fileOf pool0 8 #[] #[{ accessFlags := 1, nameIndex := 5, descriptorIndex := 6, attributes := #[] }] 33 0 #[] #[])
  fields := #[]
  methods := #[k0m0]
  instanceTypes := #[]
  staticTypes := #[]
  resolved := Array.replicate 124 none
  statics := none }

def pool1 : Array CpInfo := pool [(2, .class_ 4), (1, u "java/lang/Object"), (0, u "<init>"), (0, u "()V"), (0, .integer 2147483647), (2, .long 2147483647), (1, .methodref 13 14), (0, .class_ 15), (0, .nameAndType 16 17), (0, u "java/lang/Math"), (0, u "max"), (0, u "(II)I"), (0, .methodref 13 19), (0, .nameAndType 16 20), (0, u "(JJ)J"), (0, .class_ 22), (0, u "com/example/rowforge/rowforge/core/Notice$RangeRemoved"), (0, .methodref 21 24), (0, .nameAndType 5 25), (0, u "(II)V"), (0, .methodref 21 27), (0, .nameAndType 28 29), (0, u "positionAfter"), (0, u "(I)I"), (0, .long 18446744073709551615), (1, .class_ 33), (0, u "com/example/rowforge/rowforge/core/RangeRemovedPositionAfterPinLaw"), (2, u "law"), (0, u "(IIII)Z")] 7

def k1m0 : Method := { name := "<init>", desc := "()V", sig := { parameters := [], returnType := none }, accessFlags := 1, code := none }
def k1c1 : Code := { maxStack := 6, maxLocals := 20, code := code, exceptionTable := #[], attributes := #[] }
def k1m1 : Method := { name := "law", desc := "(IIII)Z", sig := { parameters := [.int, .int, .int, .int], returnType := some .boolean }, accessFlags := 9, code := some k1c1 }
/-- com/example/rowforge/rowforge/core/RangeRemovedPositionAfterPinLaw -/
def k1 : Class := { plain "com/example/rowforge/rowforge/core/RangeRemovedPositionAfterPinLaw" (some 0) with
  accessFlags := 49
  interfaces := #[]
  cf := some (fileOf pool1 32 #[] #[{ accessFlags := 1, nameIndex := 5, descriptorIndex := 6, attributes := #[] }, { accessFlags := 9, nameIndex := 36, descriptorIndex := 37, attributes := #[] }] 49 2 #[] #[])
  fields := #[]
  methods := #[k1m0, k1m1]
  instanceTypes := #[]
  staticTypes := #[]
  resolved := Array.replicate 45 none
  statics := none }

def pool2 : Array CpInfo := pool [(1, .class_ 2), (0, u "java/lang/Math"), (1, .class_ 6), (1, u "java/lang/Object"), (0, u "<init>"), (0, u "()V"), (89, .class_ 100), (1, u "java/lang/Math$RandomNumberGeneratorHolder"), (20, u "(JJ)J"), (50, u "negativeZeroFloatBits"), (0, u "J"), (2, u "negativeZeroDoubleBits"), (21, u "max"), (46, u "$assertionsDisabled"), (0, u "Z"), (88, u "(II)I"), (2, u "twoToTheDoubleScaleDown"), (0, u "D"), (4, u "twoToTheDoubleScaleUp"), (9, u "E"), (3, u "PI"), (2, u "TAU"), (2, u "DEGREES_TO_RADIANS"), (0, u "RADIANS_TO_DEGREES")] 94

def k2m0 : Method := { name := "<init>", desc := "()V", sig := { parameters := [], returnType := none }, accessFlags := 2, code := none }
def k2c1 : Code := { maxStack := 2, maxLocals := 2, code := jdk_29_method_65_code, exceptionTable := #[], attributes := #[] }
def k2m1 : Method := { name := "max", desc := "(II)I", sig := { parameters := [.int, .int], returnType := some .int }, accessFlags := 9, code := some k2c1 }
def k2c2 : Code := { maxStack := 4, maxLocals := 4, code := jdk_29_method_66_code, exceptionTable := #[], attributes := #[] }
def k2m2 : Method := { name := "max", desc := "(JJ)J", sig := { parameters := [.long, .long], returnType := some .long }, accessFlags := 9, code := some k2c2 }
/-- java/lang/Math -/
def k2 : Class := { plain "java/lang/Math" (some 0) with
  accessFlags := 49
  interfaces := #[]
  cf := some (fileOf pool2 1 #[.nestMembers #[98]] #[{ accessFlags := 2, nameIndex := 7, descriptorIndex := 8, attributes := #[] }, { accessFlags := 9, nameIndex := 198, descriptorIndex := 335, attributes := #[] }, { accessFlags := 9, nameIndex := 198, descriptorIndex := 121, attributes := #[] }] 49 4 #[] #[{ accessFlags := 25, nameIndex := 354, descriptorIndex := 339, attributes := #[] }, { accessFlags := 25, nameIndex := 358, descriptorIndex := 339, attributes := #[] }, { accessFlags := 25, nameIndex := 361, descriptorIndex := 339, attributes := #[] }, { accessFlags := 26, nameIndex := 364, descriptorIndex := 339, attributes := #[] }, { accessFlags := 26, nameIndex := 365, descriptorIndex := 339, attributes := #[] }, { accessFlags := 26, nameIndex := 172, descriptorIndex := 173, attributes := #[] }, { accessFlags := 26, nameIndex := 176, descriptorIndex := 173, attributes := #[] }, { accessFlags := 8, nameIndex := 344, descriptorIndex := 339, attributes := #[] }, { accessFlags := 8, nameIndex := 338, descriptorIndex := 339, attributes := #[] }, { accessFlags := 4120, nameIndex := 245, descriptorIndex := 246, attributes := #[] }])
  fields := #[{ name := "E", type := .double, accessFlags := 25, slot := 0, constantValue := 0 }, { name := "PI", type := .double, accessFlags := 25, slot := 1, constantValue := 0 }, { name := "TAU", type := .double, accessFlags := 25, slot := 2, constantValue := 0 }, { name := "DEGREES_TO_RADIANS", type := .double, accessFlags := 26, slot := 3, constantValue := 0 }, { name := "RADIANS_TO_DEGREES", type := .double, accessFlags := 26, slot := 4, constantValue := 0 }, { name := "negativeZeroFloatBits", type := .long, accessFlags := 26, slot := 5, constantValue := 0 }, { name := "negativeZeroDoubleBits", type := .long, accessFlags := 26, slot := 6, constantValue := 0 }, { name := "twoToTheDoubleScaleUp", type := .double, accessFlags := 8, slot := 7, constantValue := 0 }, { name := "twoToTheDoubleScaleDown", type := .double, accessFlags := 8, slot := 8, constantValue := 0 }, { name := "$assertionsDisabled", type := .boolean, accessFlags := 4120, slot := 9, constantValue := 0 }]
  methods := #[k2m0, k2m1, k2m2]
  instanceTypes := #[]
  staticTypes := #[.double, .double, .double, .double, .double, .long, .long, .double, .double, .boolean]
  resolved := Array.replicate 460 none
  statics := none }

def pool3 : Array CpInfo := pool [(1, .methodref 2 3), (0, .class_ 4), (0, .nameAndType 5 6), (0, u "java/lang/Object"), (0, u "<init>"), (0, u "()V"), (0, .class_ 8), (0, u "java/lang/Record")] 13

def k3c0 : Code := { maxStack := 1, maxLocals := 1, code := jdk_30_method_1_code, exceptionTable := #[], attributes := #[] }
def k3m0 : Method := { name := "<init>", desc := "()V", sig := { parameters := [], returnType := none }, accessFlags := 4, code := some k3c0 }
/-- java/lang/Record -/
def k3 : Class := { plain "java/lang/Record" (some 0) with
  accessFlags := 1057
  interfaces := #[]
  cf := some (fileOf pool3 7 #[] #[{ accessFlags := 4, nameIndex := 5, descriptorIndex := 6, attributes := #[] }] 1057 2 #[] #[])
  fields := #[]
  methods := #[k3m0]
  instanceTypes := #[]
  staticTypes := #[]
  resolved := Array.replicate 22 none
  statics := none }

def pool4 : Array CpInfo := pool [(1, .class_ 2), (0, u "com/example/rowforge/rowforge/core/Notice"), (0, .class_ 4), (0, u "java/lang/Object"), (10, .class_ 16), (0, u "com/example/rowforge/rowforge/core/Notice$RangeMoved"), (0, .class_ 18), (0, u "com/example/rowforge/rowforge/core/Notice$RangeRemoved"), (0, .class_ 20), (0, u "com/example/rowforge/rowforge/core/Notice$RangeInserted"), (0, .class_ 22), (0, u "com/example/rowforge/rowforge/core/Notice$RangeChanged"), (0, .class_ 24), (0, u "com/example/rowforge/rowforge/core/Notice$DataSetChanged")] 7

/-- com/example/rowforge/rowforge/core/Notice -/
def k4 : Class := { plain "com/example/rowforge/rowforge/core/Notice" (some 0) with
  accessFlags := 1537
  interfaces := #[]
  cf := some (fileOf pool4 1 #[.nestMembers #[15, 17, 19, 21, 23]] #[] 1537 3 #[] #[])
  fields := #[]
  methods := #[]
  instanceTypes := #[]
  staticTypes := #[]
  resolved := Array.replicate 32 none
  statics := none }

def pool5 : Array CpInfo := pool [(1, .methodref 2 3), (0, .class_ 4), (0, .nameAndType 5 6), (0, u "java/lang/Record"), (0, u "<init>"), (0, u "()V"), (2, .integer 2147483647), (0, .methodref 11 12), (0, .class_ 13), (0, .nameAndType 14 15), (0, u "java/util/Objects"), (0, u "checkFromIndexSize"), (0, u "(III)I"), (0, .fieldref 17 18), (0, .class_ 19), (0, .nameAndType 20 21), (0, u "com/example/rowforge/rowforge/core/Notice$RangeRemoved"), (0, u "start"), (0, u "I"), (0, .fieldref 17 23), (0, .nameAndType 24 21), (0, u "count"), (5, u "(II)V"), (12, .class_ 44), (0, u "com/example/rowforge/rowforge/core/Notice"), (8, u "positionAfter"), (0, u "(I)I")] 27

def k5c0 : Code := { maxStack := 3, maxLocals := 3, code := prog_42_method_1_code, exceptionTable := #[], attributes := #[] }
def k5m0 : Method := { name := "<init>", desc := "(II)V", sig := { parameters := [.int, .int], returnType := none }, accessFlags := 1, code := some k5c0 }
def k5c1 : Code := { maxStack := 2, maxLocals := 3, code := prog_42_method_4_code, exceptionTable := #[], attributes := #[] }
def k5m1 : Method := { name := "positionAfter", desc := "(I)I", sig := { parameters := [.int], returnType := some .int }, accessFlags := 1, code := some k5c1 }
/-- com/example/rowforge/rowforge/core/Notice$RangeRemoved -/
def k5 : Class := { plain "com/example/rowforge/rowforge/core/Notice$RangeRemoved" (some 3) with
  accessFlags := 49
  interfaces := #[4]
  cf := some (fileOf pool5 17 #[.nestHost 43] #[{ accessFlags := 1, nameIndex := 5, descriptorIndex := 30, attributes := #[] }, { accessFlags := 1, nameIndex := 53, descriptorIndex := 54, attributes := #[] }] 49 2 #[43] #[{ accessFlags := 18, nameIndex := 20, descriptorIndex := 21, attributes := #[] }, { accessFlags := 18, nameIndex := 24, descriptorIndex := 21, attributes := #[] }])
  fields := #[{ name := "start", type := .int, accessFlags := 18, slot := 0, constantValue := 0 }, { name := "count", type := .int, accessFlags := 18, slot := 1, constantValue := 0 }]
  methods := #[k5m0, k5m1]
  instanceTypes := #[.int, .int]
  staticTypes := #[]
  resolved := Array.replicate 82 none
  statics := none }

def pool6 : Array CpInfo := pool [(2, .class_ 4), (1, u "java/lang/Object"), (0, u "<init>"), (0, u "()V"), (35, .class_ 44), (1, u "java/util/Objects"), (61, .class_ 108), (1, u "jdk/internal/util/Preconditions"), (5, u "(IIILjava/util/function/BiFunction;)I"), (0, .methodref 106 116), (0, .nameAndType 117 114), (0, u "checkFromIndexSize"), (57, u "(III)I")] 8

def k6m0 : Method := { name := "<init>", desc := "()V", sig := { parameters := [], returnType := none }, accessFlags := 2, code := none }
def k6c1 : Code := { maxStack := 4, maxLocals := 3, code := jdk_31_method_19_code, exceptionTable := #[], attributes := #[] }
def k6m1 : Method := { name := "checkFromIndexSize", desc := "(III)I", sig := { parameters := [.int, .int, .int], returnType := some .int }, accessFlags := 9, code := some k6c1 }
/-- java/util/Objects -/
def k6 : Class := { plain "java/util/Objects" (some 0) with
  accessFlags := 49
  interfaces := #[]
  cf := some (fileOf pool6 42 #[] #[{ accessFlags := 2, nameIndex := 5, descriptorIndex := 6, attributes := #[] }, { accessFlags := 9, nameIndex := 117, descriptorIndex := 175, attributes := #[] }] 49 2 #[] #[])
  fields := #[]
  methods := #[k6m0, k6m1]
  instanceTypes := #[]
  staticTypes := #[]
  resolved := Array.replicate 184 none
  statics := none }

def pool7 : Array CpInfo := pool [(2, .class_ 4), (1, u "java/lang/Object"), (0, u "<init>"), (0, u "()V"), (17, .class_ 26), (1, u "jdk/internal/util/Preconditions"), (22, u "checkFromIndexSize"), (5, .class_ 56), (0, u "jdk/internal/util/Preconditions$4"), (57, .class_ 115), (0, u "jdk/internal/util/Preconditions$1"), (7, u "SIOOBE_FORMATTER"), (0, u "Ljava/util/function/BiFunction;"), (0, .class_ 126), (0, u "jdk/internal/util/Preconditions$2"), (3, u "AIOOBE_FORMATTER"), (0, .class_ 132), (0, u "jdk/internal/util/Preconditions$3"), (3, u "IOOBE_FORMATTER"), (46, u "(IIILjava/util/function/BiFunction;)I")] 10

def k7m0 : Method := { name := "<init>", desc := "()V", sig := { parameters := [], returnType := none }, accessFlags := 1, code := none }
def k7c1 : Code := { maxStack := 4, maxLocals := 4, code := jdk_41_method_13_code, exceptionTable := #[], attributes := #[] }
def k7m1 : Method := { name := "checkFromIndexSize", desc := "(IIILjava/util/function/BiFunction;)I", sig := { parameters := [.int, .int, .int, (.object "java/util/function/BiFunction")], returnType := some .int }, accessFlags := 9, code := some k7c1 }
/-- jdk/internal/util/Preconditions -/
def k7 : Class := { plain "jdk/internal/util/Preconditions" (some 0) with
  accessFlags := 33
  interfaces := #[]
  cf := some (fileOf pool7 24 #[.nestMembers #[55, 131, 125, 114]] #[{ accessFlags := 1, nameIndex := 5, descriptorIndex := 6, attributes := #[] }, { accessFlags := 9, nameIndex := 49, descriptorIndex := 183, attributes := #[] }] 33 2 #[] #[{ accessFlags := 25, nameIndex := 123, descriptorIndex := 124, attributes := #[] }, { accessFlags := 25, nameIndex := 130, descriptorIndex := 124, attributes := #[] }, { accessFlags := 25, nameIndex := 136, descriptorIndex := 124, attributes := #[] }])
  fields := #[{ name := "SIOOBE_FORMATTER", type := (.object "java/util/function/BiFunction"), accessFlags := 25, slot := 0, constantValue := 0 }, { name := "AIOOBE_FORMATTER", type := (.object "java/util/function/BiFunction"), accessFlags := 25, slot := 1, constantValue := 0 }, { name := "IOOBE_FORMATTER", type := (.object "java/util/function/BiFunction"), accessFlags := 25, slot := 2, constantValue := 0 }]
  methods := #[k7m0, k7m1]
  instanceTypes := #[]
  staticTypes := #[(.object "java/util/function/BiFunction"), (.object "java/util/function/BiFunction"), (.object "java/util/function/BiFunction")]
  resolved := Array.replicate 194 none
  statics := none }

def pool8 : Array CpInfo := pool [(1, u "java/lang/Cloneable"), (0, .class_ 1), (0, u "java/lang/Object"), (0, .class_ 3)] 3

/-- java/lang/Cloneable -/
def k8 : Class := { plain "java/lang/Cloneable" (some 0) with
  accessFlags := 1537
  interfaces := #[]
  cf := some (fileOf pool8 2 #[] #[] 1537 4 #[] #[])
  fields := #[]
  methods := #[]
  instanceTypes := #[]
  staticTypes := #[]
  resolved := Array.replicate 8 none
  statics := none }

def pool9 : Array CpInfo := pool [(1, u "java/io/Serializable"), (0, .class_ 1), (0, u "java/lang/Object"), (0, .class_ 3)] 3

/-- java/io/Serializable -/
def k9 : Class := { plain "java/io/Serializable" (some 0) with
  accessFlags := 1537
  interfaces := #[]
  cf := some (fileOf pool9 2 #[] #[] 1537 4 #[] #[])
  fields := #[]
  methods := #[]
  instanceTypes := #[]
  staticTypes := #[]
  resolved := Array.replicate 8 none
  statics := none }

/-- the primitive byte -/
def k10 : Class := { plain "byte" none with kind := .primitive 'B', accessFlags := 0x411 }
/-- [B -/
def k11 : Class := { plain "[B" (some 0) with kind := .array 10 .byte, interfaces := #[8, 9], accessFlags := 1041 }

/-- the primitive int -/
def k12 : Class := { plain "int" none with kind := .primitive 'I', accessFlags := 0x411 }
/-- [I -/
def k13 : Class := { plain "[I" (some 0) with kind := .array 12 .int, interfaces := #[8, 9], accessFlags := 1041 }

def heap : Heap := #[]
def classes : Array Class := #[k0, k1, k2, k3, k4, k5, k6, k7, k8, k9, k10, k11, k12, k13]
def interned : List (Array UInt16 × Addr) := []
def slotsUsed : Nat := 0
def theMethod : MethodId := ⟨1, 1⟩
def args0 : Array Value := #[.int 5, .int 6, .int 7, .int 8]
def aboutOver (below : List Frame) : State where
  vm := { classes := classes, interned := interned.toArray }
  heap := heap
  slotsUsed := slotsUsed
  threads := #[{ frames := .invoking theMethod args0 :: below }]
def below0 : List Frame := [.native { method := ⟨0, 0⟩, args := #[] }]
def about1 : State := aboutOver below0
def p0 : Program := .bare "" "" ""
def e0 : Env := launch0.env 0 0 0
theorem w_frames : about1.frames = Frame.invoking theMethod args0 :: below0 := rfl
set_option maxRecDepth 65536 in
theorem w_args : argsFit about1.vm theMethod args0 = true := by decide +kernel
set_option maxRecDepth 65536 in
theorem w_heap : heapFits about1 = true := by decide +kernel
set_option maxRecDepth 65536 in
theorem w_runnable : about1.curStatus? = some .runnable := by decide +kernel
set_option maxRecDepth 65536 in
theorem w_alone : about1.alone = true := by decide +kernel
set_option maxRecDepth 65536 in
theorem w_named : about1.methodNamed? x = some theMethod := by decide +kernel
set_option maxRecDepth 65536 in
theorem w_hears : about1.hears theMethod below0 = true := by decide +kernel
set_option maxRecDepth 65536 in
theorem w_ripe : about1.ripe theMethod args0 below0 = true := by decide +kernel
theorem w_running : about1.status = .running := rfl
set_option maxRecDepth 65536 in
theorem w_room : about1.hasRoom e0.platform room_1 = true :=
  launch0.hasRoom_least _ room_1 (by decide +kernel) (by decide +kernel) (by decide +kernel) (by decide +kernel) (by decide +kernel) (by decide +kernel)
theorem allAtoms_all (ts : List Jvm.Cond) (a : Array Jvm.Value) (st : Jvm.State) : (allAtoms ts).before a st = ts.all (fun c => c.before a st) := by
  induction ts with
  | nil => rfl
  | cons c t ih =>
    show (Jvm.Cond.and c (allAtoms t)).before a st = _
    rw [Jvm.Cond.before_and, ih, List.all_cons]
def words1 : List Jvm.Cond := Jvm.Cond.code x code maxLocals ret :: tables_1
/-- a 'code' word, met by the world's own term for the bytes: nothing is compared byte by byte -/
theorem code_word {y : MethodName} {bytes : ByteArray} {mx : Nat} {rt : Option FieldType} {a : Array Value} {s : State} {m : MethodId} {meth : Method} {c : Code} (h1 : s.methodNamed? y = some m) (h2 : s.vm.method? m = some meth) (h3 : meth.code = some c) (h4 : c.code = bytes)
    (h5 : (c.maxLocals == mx && c.exceptionTable.isEmpty && decide (c.maxStack ≤ mostOperands) && decide (meth.sig.returnType = rt) && !meth.locks && decide (parseMethodDescriptor y.desc = some meth.sig)) = true) : (Jvm.Cond.code y bytes mx rt).before a s = true := by
  simp only [Bool.and_eq_true, beq_iff_eq, Bool.not_eq_true', decide_eq_true_eq] at h5
  obtain ⟨⟨⟨⟨⟨g1, g2⟩, g3⟩, g4⟩, g5⟩, g6⟩ := h5
  simp [Cond.before, Cond.holds, Cond.value, h1, h2, h3, h4, g1, g2, g3, g4, g5, g6]
def isCode : Jvm.Cond → Bool
  | .code _ _ _ _ => true
  | _ => false
theorem all_split {L : List Jvm.Cond} {P : Jvm.Cond → Bool} (h1 : L.all (fun c => isCode c || P c) = true) (h2 : ∀ c ∈ L.filter isCode, P c = true) : L.all P = true := by
  refine List.all_eq_true.mpr fun c hc => ?_
  have h := List.all_eq_true.mp h1 c hc
  rcases Bool.eq_false_or_eq_true (isCode c) with hi | hi
  · exact h2 c (List.mem_filter.mpr ⟨hc, hi⟩)
  · simpa [hi] using h
set_option maxRecDepth 65536 in
theorem w_c0 : (Jvm.Cond.code x code maxLocals ret).before args0 about1 = true := code_word (m := ⟨1, 1⟩) (meth := k1m1) (c := k1c1) (by decide +kernel) rfl rfl rfl (by decide +kernel)
set_option maxRecDepth 65536 in
theorem w_c1 : (Jvm.Cond.code ({ cls := "java/lang/Math", name := "max", desc := "(II)I" } : Jvm.MethodName) jdk_29_method_65_code (2 : Nat) (Option.some Jvm.ClassFile.FieldType.int)).before args0 about1 = true := code_word (m := ⟨2, 1⟩) (meth := k2m1) (c := k2c1) (by decide +kernel) rfl rfl rfl (by decide +kernel)
set_option maxRecDepth 65536 in
theorem w_c2 : (Jvm.Cond.code ({ cls := "com/example/rowforge/rowforge/core/Notice$RangeRemoved", name := "<init>", desc := "(II)V" } : Jvm.MethodName) prog_42_method_1_code (3 : Nat) (Option.none : Option Jvm.ClassFile.FieldType)).before args0 about1 = true := code_word (m := ⟨5, 0⟩) (meth := k5m0) (c := k5c0) (by decide +kernel) rfl rfl rfl (by decide +kernel)
set_option maxRecDepth 65536 in
theorem w_c3 : (Jvm.Cond.code ({ cls := "java/lang/Record", name := "<init>", desc := "()V" } : Jvm.MethodName) jdk_30_method_1_code (1 : Nat) (Option.none : Option Jvm.ClassFile.FieldType)).before args0 about1 = true := code_word (m := ⟨3, 0⟩) (meth := k3m0) (c := k3c0) (by decide +kernel) rfl rfl rfl (by decide +kernel)
set_option maxRecDepth 65536 in
theorem w_c4 : (Jvm.Cond.code ({ cls := "java/lang/Object", name := "<init>", desc := "()V" } : Jvm.MethodName) object_method_1_code (1 : Nat) (Option.none : Option Jvm.ClassFile.FieldType)).before args0 about1 = true := code_word (m := ⟨0, 0⟩) (meth := k0m0) (c := k0c0) (by decide +kernel) rfl rfl rfl (by decide +kernel)
set_option maxRecDepth 65536 in
theorem w_c5 : (Jvm.Cond.code ({ cls := "java/util/Objects", name := "checkFromIndexSize", desc := "(III)I" } : Jvm.MethodName) jdk_31_method_19_code (3 : Nat) (Option.some Jvm.ClassFile.FieldType.int)).before args0 about1 = true := code_word (m := ⟨6, 1⟩) (meth := k6m1) (c := k6c1) (by decide +kernel) rfl rfl rfl (by decide +kernel)
set_option maxRecDepth 65536 in
theorem w_c6 : (Jvm.Cond.code ({ cls := "jdk/internal/util/Preconditions", name := "checkFromIndexSize", desc := "(IIILjava/util/function/BiFunction;)I" } : Jvm.MethodName) jdk_41_method_13_code (4 : Nat) (Option.some Jvm.ClassFile.FieldType.int)).before args0 about1 = true := code_word (m := ⟨7, 1⟩) (meth := k7m1) (c := k7c1) (by decide +kernel) rfl rfl rfl (by decide +kernel)
set_option maxRecDepth 65536 in
theorem w_c7 : (Jvm.Cond.code ({ cls := "com/example/rowforge/rowforge/core/Notice$RangeRemoved", name := "positionAfter", desc := "(I)I" } : Jvm.MethodName) prog_42_method_4_code (3 : Nat) (Option.some Jvm.ClassFile.FieldType.int)).before args0 about1 = true := code_word (m := ⟨5, 1⟩) (meth := k5m1) (c := k5c1) (by decide +kernel) rfl rfl rfl (by decide +kernel)
set_option maxRecDepth 65536 in
theorem w_c8 : (Jvm.Cond.code ({ cls := "java/lang/Math", name := "max", desc := "(JJ)J" } : Jvm.MethodName) jdk_29_method_66_code (4 : Nat) (Option.some Jvm.ClassFile.FieldType.long)).before args0 about1 = true := code_word (m := ⟨2, 2⟩) (meth := k2m2) (c := k2c2) (by decide +kernel) rfl rfl rfl (by decide +kernel)
def codes1 : List Jvm.Cond := [Jvm.Cond.code x code maxLocals ret, Jvm.Cond.code ({ cls := "java/lang/Math", name := "max", desc := "(II)I" } : Jvm.MethodName) jdk_29_method_65_code (2 : Nat) (Option.some Jvm.ClassFile.FieldType.int), Jvm.Cond.code ({ cls := "com/example/rowforge/rowforge/core/Notice$RangeRemoved", name := "<init>", desc := "(II)V" } : Jvm.MethodName) prog_42_method_1_code (3 : Nat) (Option.none : Option Jvm.ClassFile.FieldType), Jvm.Cond.code ({ cls := "java/lang/Record", name := "<init>", desc := "()V" } : Jvm.MethodName) jdk_30_method_1_code (1 : Nat) (Option.none : Option Jvm.ClassFile.FieldType), Jvm.Cond.code ({ cls := "java/lang/Object", name := "<init>", desc := "()V" } : Jvm.MethodName) object_method_1_code (1 : Nat) (Option.none : Option Jvm.ClassFile.FieldType), Jvm.Cond.code ({ cls := "java/util/Objects", name := "checkFromIndexSize", desc := "(III)I" } : Jvm.MethodName) jdk_31_method_19_code (3 : Nat) (Option.some Jvm.ClassFile.FieldType.int), Jvm.Cond.code ({ cls := "jdk/internal/util/Preconditions", name := "checkFromIndexSize", desc := "(IIILjava/util/function/BiFunction;)I" } : Jvm.MethodName) jdk_41_method_13_code (4 : Nat) (Option.some Jvm.ClassFile.FieldType.int), Jvm.Cond.code ({ cls := "com/example/rowforge/rowforge/core/Notice$RangeRemoved", name := "positionAfter", desc := "(I)I" } : Jvm.MethodName) prog_42_method_4_code (3 : Nat) (Option.some Jvm.ClassFile.FieldType.int), Jvm.Cond.code ({ cls := "java/lang/Math", name := "max", desc := "(JJ)J" } : Jvm.MethodName) jdk_29_method_66_code (4 : Nat) (Option.some Jvm.ClassFile.FieldType.long)]
set_option maxRecDepth 65536 in
theorem codes_eq : words1.filter isCode = codes1 := rfl
theorem w_codes : ∀ c ∈ words1.filter isCode, c.before args0 about1 = true := by
  rw [codes_eq]
  intro c hc
  simp only [codes1, List.mem_cons, List.not_mem_nil, or_false] at hc
  rcases hc with rfl | rfl | rfl | rfl | rfl | rfl | rfl | rfl | rfl
  · exact w_c0
  · exact w_c1
  · exact w_c2
  · exact w_c3
  · exact w_c4
  · exact w_c5
  · exact w_c6
  · exact w_c7
  · exact w_c8
set_option maxRecDepth 65536 in
theorem w_t1 : (words1.take 24).all (fun c => isCode c || c.before args0 about1) = true := by decide +kernel
set_option maxRecDepth 65536 in
theorem w_t2 : (words1.drop 24).all (fun c => isCode c || c.before args0 about1) = true := by decide +kernel
theorem w_tables : (allAtoms (Jvm.Cond.code x code maxLocals ret :: tables_1)).before args0 about1 = true := by
  rw [allAtoms_all]
  show words1.all (fun c => c.before args0 about1) = true
  refine all_split ?_ w_codes
  rw [← List.take_append_drop 24 words1, List.all_append, w_t1, w_t2]
  rfl
set_option maxRecDepth 65536 in
theorem w_case : (Jvm.Cond.and given_1 narrow_1).before args0 about1 = true := by decide +kernel
theorem w_applies : (headSpec (Jvm.Cond.code x code maxLocals ret :: tables_1) room_1).applies x e0.platform about1 = true :=
  (Spec.applies_iff w_frames).mpr ⟨w_running, w_runnable, w_alone, w_named, w_hears, w_ripe, w_room, w_tables⟩
theorem atStart : AtStart classFile x code maxLocals ret World_1 tables_1 room_1 Calls_1 rest_1 Pre_1 launch0 p0 e0 about1 theMethod args0 below0 :=
  ⟨lists_1, trivial, launch0.admits_env _ _ _, launch0.least_env, fairChoices_fair.cas, fairChoices_fair.clock, w_frames, w_args, w_heap, w_applies, trivial, trivial, w_case⟩
end start1
theorem witness_1 : WitnessClaimed_1 := ⟨start1.p0, start1.e0, start1.about1, start1.theMethod, start1.args0, start1.below0, start1.atStart⟩
end Jvm.Pilot.@@N@@
