import JvmDerived
import JvmDerived.Pilot.@@N@@Statement
import JvmDerived.Pilot.@@N@@Code
set_option linter.unusedVariables false
set_option linter.unusedSimpArgs false
@@BLOCK:NumsL.lean.txt@@
namespace Jvm.Pilot.@@N@@
open Jvm Jvm.ClassFile Sem Op Lib Jvm.Free Jvm.Stand Jvm.LawKit Jvm.RoadKit Bundle Jvm.Pilot.@@N@@.Jvm.D
def own_shl (x y : Int32) : Int32 := x <<< (y &&& 31)
def own_shr (x y : Int32) : Int32 := x >>> (y &&& 31)
def own_ushr (x y : Int32) : Int32 := (x.toUInt32 >>> (y &&& 31).toUInt32).toInt32
def own_shlL (x : Int64) (y : Int32) : Int64 := x <<< (y &&& 0x3f).toInt64
def own_shrL (x : Int64) (y : Int32) : Int64 := x >>> (y &&& 0x3f).toInt64
def own_ushrL (x : Int64) (y : Int32) : Int64 := (x.toUInt64 >>> (y &&& 0x3f).toInt64.toUInt64).toInt64
def own_remL (x y : Int64) : Int64 := x - (x / y) * y
section OwnKit
variable {p : Program} {l : Launch} {e : Env} {R : Room} {s : State} {m : MethodId} {args : Array Value} {below : List Frame} {meth : Method} {c : Code} {T : State} {locs : List Loc} {cells slots : Nat} {Z : State} {h h' : Heap} {a b : Addr}
theorem retI (X : Stand p l e R s m args below meth c T locs cells slots) (hx : p.tables.exec = Jvm.exec) {pc : Nat} {Ls : Array Slot} {z : Int32} {rest : List Value} (hret : meth.sig.returnType = some .int) (hd : decode c.code pc = .ok (.ireturn, 1)) {fs : List Frame}
    (hl : ∀ (f : JFrame) (acts : List Action), f.method = m → f.locked = none → f.entered = [] → (doReturn e (T.setTop f) acts (some (.int z))).1 = T.setFrames fs) : Steps p.tables e below (T.setTop (mkF m pc Ls (.int z :: rest))) (T.setFrames fs) :=
  retOut X hx hret rfl (Or.inl ⟨rfl, Or.inl rfl, _, rfl⟩) hd hl
theorem own_retJ (X : Stand p l e R s m args below meth c T locs cells slots) (hx : p.tables.exec = Jvm.exec) {pc : Nat} {Ls : Array Slot} {z : Int64} {rest : List Value} (hret : meth.sig.returnType = some .long) (hd : decode c.code pc = .ok (.lreturn, 1)) {fs : List Frame}
    (hl : ∀ (f : JFrame) (acts : List Action), f.method = m → f.locked = none → f.entered = [] → (doReturn e (T.setTop f) acts (some (.long z))).1 = T.setFrames fs) : Steps p.tables e below (T.setTop (mkF m pc Ls (.long z :: rest))) (T.setFrames fs) :=
  retOut X hx hret rfl (Or.inr (Or.inl ⟨rfl, rfl, _, rfl⟩)) hd hl
end OwnKit
theorem pn_0 : plainName "com/example/chronofield/chronofield/TimeField" = true := by first | (simp [plainName, overriddenIn]; done) | decide +kernel
theorem d1_0 : decode prog_8_method_5_code 0 = .ok (.iload_n 0, 1) := by decide +kernel
theorem d1_1 : decode prog_8_method_5_code 1 = .ok (.sipush 3600, 3) := by decide +kernel
theorem d1_4 : decode prog_8_method_5_code 4 = .ok (.idiv, 1) := by decide +kernel
theorem d1_5 : decode prog_8_method_5_code 5 = .ok (.istore_n 1, 1) := by decide +kernel
theorem d1_6 : decode prog_8_method_5_code 6 = .ok (.iload_n 0, 1) := by decide +kernel
theorem d1_7 : decode prog_8_method_5_code 7 = .ok (.sipush 3600, 3) := by decide +kernel
theorem d1_10 : decode prog_8_method_5_code 10 = .ok (.irem, 1) := by decide +kernel
theorem d1_11 : decode prog_8_method_5_code 11 = .ok (.bipush 60, 2) := by decide +kernel
theorem d1_13 : decode prog_8_method_5_code 13 = .ok (.idiv, 1) := by decide +kernel
theorem d1_14 : decode prog_8_method_5_code 14 = .ok (.istore_n 2, 1) := by decide +kernel
theorem d1_15 : decode prog_8_method_5_code 15 = .ok (.iload_n 0, 1) := by decide +kernel
theorem d1_16 : decode prog_8_method_5_code 16 = .ok (.bipush 60, 2) := by decide +kernel
theorem d1_18 : decode prog_8_method_5_code 18 = .ok (.irem, 1) := by decide +kernel
theorem d1_19 : decode prog_8_method_5_code 19 = .ok (.istore_n 3, 1) := by decide +kernel
theorem d1_20 : decode prog_8_method_5_code 20 = .ok (.iload_n 1, 1) := by decide +kernel
theorem d1_21 : decode prog_8_method_5_code 21 = .ok (.sipush 10000, 3) := by decide +kernel
theorem d1_24 : decode prog_8_method_5_code 24 = .ok (.imul, 1) := by decide +kernel
theorem d1_25 : decode prog_8_method_5_code 25 = .ok (.iload_n 2, 1) := by decide +kernel
theorem d1_26 : decode prog_8_method_5_code 26 = .ok (.bipush 100, 2) := by decide +kernel
theorem d1_28 : decode prog_8_method_5_code 28 = .ok (.imul, 1) := by decide +kernel
theorem d1_29 : decode prog_8_method_5_code 29 = .ok (.iadd, 1) := by decide +kernel
theorem d1_30 : decode prog_8_method_5_code 30 = .ok (.iload_n 3, 1) := by decide +kernel
theorem d1_31 : decode prog_8_method_5_code 31 = .ok (.iadd, 1) := by decide +kernel
theorem d1_32 : decode prog_8_method_5_code 32 = .ok (.ireturn, 1) := by decide +kernel
theorem ef_1 (m : MethodId) (x0 : Int32) : entryFrame m #[(.int x0)] 4 = mkF m 0 #[.val (.int x0), .unset, .unset, .unset] [] := by first | (simp [entryFrame, mkF, argsToLocals, Value.category]; done) | rfl
abbrev R1 : Room := { frames := 0, cells := 0, slots := 0, locals := 0 }
def v1_5 (p1_0 : Int32) : Int32 := (p1_0 / (3600 : Int32))
def v1_14 (p1_0 : Int32) : Int32 := ((p1_0 % (3600 : Int32)) / (60 : Int32))
def v1_19 (p1_0 : Int32) : Int32 := (p1_0 % (60 : Int32))
def r1 (p1_0 : Int32) : Int32 := ((((v1_5 p1_0) * (10000 : Int32)) + ((v1_14 p1_0) * (100 : Int32))) + (v1_19 p1_0))
def Q1 (Z : State) (p1_0 : Int32) (h0 : Heap) (n0 : Nat) (v : Option Value) (h : Heap) (L : List Loc) : Prop := v = some (.int (r1 p1_0)) ∧ Fr n0 L ∧ h = h0
set_option maxRecDepth 65536 in
set_option maxHeartbeats 40000000 in
theorem rm1 (l : Launch) (Z : State) (a0 : Array Value) (hw : ∀ d ∈ tables_1, d.before a0 Z = true) (ws : List Jvm.Cond) (p1_0 : Int32) (h0 : Heap) (n0 : Nat) (Z0 : n0 ≤ h0.size) :
    MetFree l (⟨"com/example/chronofield/chronofield/TimeField", "timeOf", "(I)I"⟩ : MethodName) (head1 (Jvm.Cond.code (⟨"com/example/chronofield/chronofield/TimeField", "timeOf", "(I)I"⟩ : MethodName) prog_8_method_5_code 4 (some .int) :: ws) R1) (fun a U => a = #[(.int p1_0)] ∧ Z.Warmed39 U.vm ∧ U.heap = h0) (fun _ _ _ _ _ => True) (fun _ U o U' => ∃ v L, o = .returned v ∧ Q1 Z p1_0 h0 n0 v U'.heap L ∧ FrameEnd U o U' L R1.cells R1.slots) := by
  refine MetFree.of_bodySF (plainFor_of_name pn_0) hisR ?_
  intro p e s m args below meth c s₁ Bd hml0 hP hK
  obtain ⟨rfl, hZ, hh⟩ := hP
  have hx := Bd.exec
  have hby := Bd.bytes
  have hml : c.maxLocals = 4 := hml0
  have hown : s.vm.findClass "com/example/chronofield/chronofield/TimeField" = some m.cls := findClass_of_methodNamed Bd.named
  have hnm := (name_of_methodNamed Bd.named Bd.method).1
  have X0 : Stand p l e R1 s m #[(.int p1_0)] below meth c s₁ [] 0 0 := Stand.of_body Bd
  have e0 : s₁.heap = h0 := by rw [← hh, Bd.state]; rfl
  have N0 := Fr.nil n0
  have pre0 : ∀ t, Steps p.tables e below (s₁.setTop (mkF m 0 #[.val (.int p1_0), .unset, .unset, .unset] [])) t → Steps p.tables e below (s₁.setTop (entryFrame m #[(.int p1_0)] 4)) t := fun t k => castTop (ef_1 m p1_0) k
  have pre1 : ∀ t, Steps p.tables e below (s₁.setTop (mkF m 32 #[.val (.int p1_0), .val (.int (v1_5 p1_0)), .val (.int (v1_14 p1_0)), .val (.int (v1_19 p1_0))] [(.int ((((v1_5 p1_0) * (10000 : Int32)) + ((v1_14 p1_0) * (100 : Int32))) + (v1_19 p1_0)))])) t → Steps p.tables e below (s₁.setTop (entryFrame m #[(.int p1_0)] 4)) t := fun t k => pre0 t (by
    refine XS.iloadN X0.here hx rfl (hb hby d1_0) rfl ?_
    show Steps p.tables e below (s₁.setTop (mkF m 1 #[.val (.int p1_0), .unset, .unset, .unset] [(.int p1_0)])) _
    refine XS.sipush X0.here hx rfl (hb hby d1_1) ?_
    show Steps p.tables e below (s₁.setTop (mkF m 4 #[.val (.int p1_0), .unset, .unset, .unset] [(.int (3600 : Int32)), (.int p1_0)])) _
    refine XS.idiv X0.here hx rfl (hb hby d1_4) rfl (by decide) ?_
    show Steps p.tables e below (s₁.setTop (mkF m 5 #[.val (.int p1_0), .unset, .unset, .unset] [(.int (p1_0 / (3600 : Int32)))])) _
    show Steps p.tables e below (s₁.setTop (mkF m 5 #[.val (.int p1_0), .unset, .unset, .unset] [(.int (v1_5 p1_0))])) _
    refine XS.istoreN X0.here hx rfl (hb hby d1_5) rfl (l' := #[.val (.int p1_0), .val (.int (v1_5 p1_0)), .unset, .unset]) rfl ?_
    show Steps p.tables e below (s₁.setTop (mkF m 6 #[.val (.int p1_0), .val (.int (v1_5 p1_0)), .unset, .unset] [])) _
    refine XS.iloadN X0.here hx rfl (hb hby d1_6) rfl ?_
    show Steps p.tables e below (s₁.setTop (mkF m 7 #[.val (.int p1_0), .val (.int (v1_5 p1_0)), .unset, .unset] [(.int p1_0)])) _
    refine XS.sipush X0.here hx rfl (hb hby d1_7) ?_
    show Steps p.tables e below (s₁.setTop (mkF m 10 #[.val (.int p1_0), .val (.int (v1_5 p1_0)), .unset, .unset] [(.int (3600 : Int32)), (.int p1_0)])) _
    refine iremM (g := (mkF m 10 #[.val (.int p1_0), .val (.int (v1_5 p1_0)), .unset, .unset] [(.int (3600 : Int32)), (.int p1_0)])) X0 hx rfl (hb hby d1_10) rfl (by decide) ?_
    show Steps p.tables e below (s₁.setTop (mkF m 11 #[.val (.int p1_0), .val (.int (v1_5 p1_0)), .unset, .unset] [(.int (p1_0 % (3600 : Int32)))])) _
    refine XS.bipush X0.here hx rfl (hb hby d1_11) ?_
    show Steps p.tables e below (s₁.setTop (mkF m 13 #[.val (.int p1_0), .val (.int (v1_5 p1_0)), .unset, .unset] [(.int (60 : Int32)), (.int (p1_0 % (3600 : Int32)))])) _
    refine XS.idiv X0.here hx rfl (hb hby d1_13) rfl (by decide) ?_
    show Steps p.tables e below (s₁.setTop (mkF m 14 #[.val (.int p1_0), .val (.int (v1_5 p1_0)), .unset, .unset] [(.int ((p1_0 % (3600 : Int32)) / (60 : Int32)))])) _
    show Steps p.tables e below (s₁.setTop (mkF m 14 #[.val (.int p1_0), .val (.int (v1_5 p1_0)), .unset, .unset] [(.int (v1_14 p1_0))])) _
    refine XS.istoreN X0.here hx rfl (hb hby d1_14) rfl (l' := #[.val (.int p1_0), .val (.int (v1_5 p1_0)), .val (.int (v1_14 p1_0)), .unset]) rfl ?_
    show Steps p.tables e below (s₁.setTop (mkF m 15 #[.val (.int p1_0), .val (.int (v1_5 p1_0)), .val (.int (v1_14 p1_0)), .unset] [])) _
    refine XS.iloadN X0.here hx rfl (hb hby d1_15) rfl ?_
    show Steps p.tables e below (s₁.setTop (mkF m 16 #[.val (.int p1_0), .val (.int (v1_5 p1_0)), .val (.int (v1_14 p1_0)), .unset] [(.int p1_0)])) _
    refine XS.bipush X0.here hx rfl (hb hby d1_16) ?_
    show Steps p.tables e below (s₁.setTop (mkF m 18 #[.val (.int p1_0), .val (.int (v1_5 p1_0)), .val (.int (v1_14 p1_0)), .unset] [(.int (60 : Int32)), (.int p1_0)])) _
    refine iremM (g := (mkF m 18 #[.val (.int p1_0), .val (.int (v1_5 p1_0)), .val (.int (v1_14 p1_0)), .unset] [(.int (60 : Int32)), (.int p1_0)])) X0 hx rfl (hb hby d1_18) rfl (by decide) ?_
    show Steps p.tables e below (s₁.setTop (mkF m 19 #[.val (.int p1_0), .val (.int (v1_5 p1_0)), .val (.int (v1_14 p1_0)), .unset] [(.int (p1_0 % (60 : Int32)))])) _
    show Steps p.tables e below (s₁.setTop (mkF m 19 #[.val (.int p1_0), .val (.int (v1_5 p1_0)), .val (.int (v1_14 p1_0)), .unset] [(.int (v1_19 p1_0))])) _
    refine XS.istoreN X0.here hx rfl (hb hby d1_19) rfl (l' := #[.val (.int p1_0), .val (.int (v1_5 p1_0)), .val (.int (v1_14 p1_0)), .val (.int (v1_19 p1_0))]) rfl ?_
    show Steps p.tables e below (s₁.setTop (mkF m 20 #[.val (.int p1_0), .val (.int (v1_5 p1_0)), .val (.int (v1_14 p1_0)), .val (.int (v1_19 p1_0))] [])) _
    refine XS.iloadN X0.here hx rfl (hb hby d1_20) rfl ?_
    show Steps p.tables e below (s₁.setTop (mkF m 21 #[.val (.int p1_0), .val (.int (v1_5 p1_0)), .val (.int (v1_14 p1_0)), .val (.int (v1_19 p1_0))] [(.int (v1_5 p1_0))])) _
    refine XS.sipush X0.here hx rfl (hb hby d1_21) ?_
    show Steps p.tables e below (s₁.setTop (mkF m 24 #[.val (.int p1_0), .val (.int (v1_5 p1_0)), .val (.int (v1_14 p1_0)), .val (.int (v1_19 p1_0))] [(.int (10000 : Int32)), (.int (v1_5 p1_0))])) _
    refine XS.imul X0.here hx rfl (hb hby d1_24) rfl ?_
    show Steps p.tables e below (s₁.setTop (mkF m 25 #[.val (.int p1_0), .val (.int (v1_5 p1_0)), .val (.int (v1_14 p1_0)), .val (.int (v1_19 p1_0))] [(.int ((v1_5 p1_0) * (10000 : Int32)))])) _
    refine XS.iloadN X0.here hx rfl (hb hby d1_25) rfl ?_
    show Steps p.tables e below (s₁.setTop (mkF m 26 #[.val (.int p1_0), .val (.int (v1_5 p1_0)), .val (.int (v1_14 p1_0)), .val (.int (v1_19 p1_0))] [(.int (v1_14 p1_0)), (.int ((v1_5 p1_0) * (10000 : Int32)))])) _
    refine XS.bipush X0.here hx rfl (hb hby d1_26) ?_
    show Steps p.tables e below (s₁.setTop (mkF m 28 #[.val (.int p1_0), .val (.int (v1_5 p1_0)), .val (.int (v1_14 p1_0)), .val (.int (v1_19 p1_0))] [(.int (100 : Int32)), (.int (v1_14 p1_0)), (.int ((v1_5 p1_0) * (10000 : Int32)))])) _
    refine XS.imul X0.here hx rfl (hb hby d1_28) rfl ?_
    show Steps p.tables e below (s₁.setTop (mkF m 29 #[.val (.int p1_0), .val (.int (v1_5 p1_0)), .val (.int (v1_14 p1_0)), .val (.int (v1_19 p1_0))] [(.int ((v1_14 p1_0) * (100 : Int32))), (.int ((v1_5 p1_0) * (10000 : Int32)))])) _
    refine XS.iadd X0.here hx rfl (hb hby d1_29) rfl ?_
    show Steps p.tables e below (s₁.setTop (mkF m 30 #[.val (.int p1_0), .val (.int (v1_5 p1_0)), .val (.int (v1_14 p1_0)), .val (.int (v1_19 p1_0))] [(.int (((v1_5 p1_0) * (10000 : Int32)) + ((v1_14 p1_0) * (100 : Int32))))])) _
    refine XS.iloadN X0.here hx rfl (hb hby d1_30) rfl ?_
    show Steps p.tables e below (s₁.setTop (mkF m 31 #[.val (.int p1_0), .val (.int (v1_5 p1_0)), .val (.int (v1_14 p1_0)), .val (.int (v1_19 p1_0))] [(.int (v1_19 p1_0)), (.int (((v1_5 p1_0) * (10000 : Int32)) + ((v1_14 p1_0) * (100 : Int32))))])) _
    refine XS.iadd X0.here hx rfl (hb hby d1_31) rfl ?_
    show Steps p.tables e below (s₁.setTop (mkF m 32 #[.val (.int p1_0), .val (.int (v1_5 p1_0)), .val (.int (v1_14 p1_0)), .val (.int (v1_19 p1_0))] [(.int ((((v1_5 p1_0) * (10000 : Int32)) + ((v1_14 p1_0) * (100 : Int32))) + (v1_19 p1_0)))])) _
    exact k)
  obtain ⟨fs, hr, hrun, hended, hW, hsame⟩ := X0.leave (v := some (.int ((((v1_5 p1_0) * (10000 : Int32)) + ((v1_14 p1_0) * (100 : Int32))) + (v1_19 p1_0)))) (fun h => by rw [Bd.returns] at h; cases h)
  refine ⟨_, _, pre1 _ ?_, hrun, hended, _, _, rfl, ?_, ⟨_, rfl⟩, hW, hsame.mono (by decide) (by decide)⟩
  · show Steps p.tables e below (s₁.setTop (mkF m 32 #[.val (.int p1_0), .val (.int (v1_5 p1_0)), .val (.int (v1_14 p1_0)), .val (.int (v1_19 p1_0))] [(.int ((((v1_5 p1_0) * (10000 : Int32)) + ((v1_14 p1_0) * (100 : Int32))) + (v1_19 p1_0)))])) _
    exact retI X0 hx Bd.returns (hb hby d1_32) hr
  · show Q1 Z p1_0 h0 n0 _ s₁.heap _
    rw [e0]
    exact ⟨rfl, N0, rfl⟩
theorem pn_1 : plainName "com/example/chronofield/chronofield/TimeFieldTimeOfPinLaw" = true := by first | (simp [plainName, overriddenIn]; done) | decide +kernel
theorem pd_0 : parseMethodDescriptor "(I)I" = some ⟨[.int], some .int⟩ := by decide +kernel
theorem ef_0 (m : MethodId) (x0 : Int32) (x1 : Int32) (x2 : Int32) : entryFrame m #[(.int x0), (.int x1), (.int x2)] maxLocals = mkF m 0 #[.val (.int x0), .val (.int x1), .val (.int x2), .unset, .unset, .unset, .unset, .unset] [] := by first | (simp [entryFrame, mkF, argsToLocals, Value.category, maxLocals]; done) | rfl
def v0_7 (p0_0 : Int32) : Int32 := ((p0_0 &&& (2147483647 : Int32)) % (24 : Int32))
def v0_15 (p0_1 : Int32) : Int32 := ((p0_1 &&& (2147483647 : Int32)) % (60 : Int32))
def v0_24 (p0_2 : Int32) : Int32 := ((p0_2 &&& (2147483647 : Int32)) % (60 : Int32))
def v0_40 (p0_0 : Int32) (p0_1 : Int32) (p0_2 : Int32) : Int32 := ((((v0_7 p0_0) * (3600 : Int32)) + ((v0_15 p0_1) * (60 : Int32))) + (v0_24 p0_2))
def v0_56 (p0_0 : Int32) (p0_1 : Int32) (p0_2 : Int32) : Int32 := ((((v0_7 p0_0) * (10000 : Int32)) + ((v0_15 p0_1) * (100 : Int32))) + (v0_24 p0_2))
theorem own_main (a b c : Int32) : r1 (v0_40 a b c) = v0_56 a b c := by
  have e1 : (a &&& (2147483647 : Int32)).toInt = a.toInt % 2 ^ 31 := Jvm.Kit.i32_mask a _ (k := 31) (by decide) (by decide)
  have e2 : (b &&& (2147483647 : Int32)).toInt = b.toInt % 2 ^ 31 := Jvm.Kit.i32_mask b _ (k := 31) (by decide) (by decide)
  have e3 : (c &&& (2147483647 : Int32)).toInt = c.toInt % 2 ^ 31 := Jvm.Kit.i32_mask c _ (k := 31) (by decide) (by decide)
  have c24 : (24 : Int32).toInt = 24 := rfl
  have c60 : (60 : Int32).toInt = 60 := rfl
  have c100 : (100 : Int32).toInt = 100 := rfl
  have c3600 : (3600 : Int32).toInt = 3600 := rfl
  have c10000 : (10000 : Int32).toInt = 10000 := rfl
  have f1 : (v0_7 a).toInt = (a.toInt % 2 ^ 31) % 24 := by unfold v0_7; rw [Jvm.Kit.i32_rem_nonneg (by omega), e1, c24]
  have f2 : (v0_15 b).toInt = (b.toInt % 2 ^ 31) % 60 := by unfold v0_15; rw [Jvm.Kit.i32_rem_nonneg (by omega), e2, c60]
  have f3 : (v0_24 c).toInt = (c.toInt % 2 ^ 31) % 60 := by unfold v0_24; rw [Jvm.Kit.i32_rem_nonneg (by omega), e3, c60]
  unfold v0_40 v0_56
  generalize v0_7 a = h at *
  generalize v0_15 b = m at *
  generalize v0_24 c = s at *
  have hh : 0 ≤ h.toInt ∧ h.toInt < 24 := by omega
  have hm : 0 ≤ m.toInt ∧ m.toInt < 60 := by omega
  have hs : 0 ≤ s.toInt ∧ s.toInt < 60 := by omega
  clear f1 f2 f3 e1 e2 e3
  have q1 : (h * (3600 : Int32)).toInt = h.toInt * 3600 := by rw [Jvm.Kit.i32_mul (by rw [c3600]; omega) (by rw [c3600]; omega), c3600]
  have q2 : (m * (60 : Int32)).toInt = m.toInt * 60 := by rw [Jvm.Kit.i32_mul (by rw [c60]; omega) (by rw [c60]; omega), c60]
  have q3 : (h * (3600 : Int32) + m * (60 : Int32)).toInt = h.toInt * 3600 + m.toInt * 60 := by rw [Jvm.Kit.i32_add (by omega) (by omega), q1, q2]
  have q4 : (h * (3600 : Int32) + m * (60 : Int32) + s).toInt = h.toInt * 3600 + m.toInt * 60 + s.toInt := by rw [Jvm.Kit.i32_add (by omega) (by omega), q3]
  have q5 : (h * (10000 : Int32)).toInt = h.toInt * 10000 := by rw [Jvm.Kit.i32_mul (by rw [c10000]; omega) (by rw [c10000]; omega), c10000]
  have q6 : (m * (100 : Int32)).toInt = m.toInt * 100 := by rw [Jvm.Kit.i32_mul (by rw [c100]; omega) (by rw [c100]; omega), c100]
  have q7 : (h * (10000 : Int32) + m * (100 : Int32)).toInt = h.toInt * 10000 + m.toInt * 100 := by rw [Jvm.Kit.i32_add (by omega) (by omega), q5, q6]
  have q8 : (h * (10000 : Int32) + m * (100 : Int32) + s).toInt = h.toInt * 10000 + m.toInt * 100 + s.toInt := by rw [Jvm.Kit.i32_add (by omega) (by omega), q7]
  generalize h * (3600 : Int32) + m * (60 : Int32) + s = n at *
  generalize h * (10000 : Int32) + m * (100 : Int32) + s = w at *
  have a1 : (v1_5 n).toInt = h.toInt := by
    unfold v1_5; rw [Jvm.Kit.i32_div (by rw [c3600]; omega), c3600, Int.tdiv_eq_ediv_of_nonneg (by omega)]; omega
  have a2 : (n % (3600 : Int32)).toInt = m.toInt * 60 + s.toInt := by rw [Jvm.Kit.i32_rem_nonneg (by omega), c3600]; omega
  have a3 : (v1_14 n).toInt = m.toInt := by
    unfold v1_14; rw [Jvm.Kit.i32_div (by rw [c60]; omega), a2, c60, Int.tdiv_eq_ediv_of_nonneg (by omega)]; omega
  have a4 : (v1_19 n).toInt = s.toInt := by unfold v1_19; rw [Jvm.Kit.i32_rem_nonneg (by omega), c60]; omega
  unfold r1
  generalize v1_5 n = x at *
  generalize v1_14 n = y at *
  generalize v1_19 n = z at *
  have b1 : (x * (10000 : Int32)).toInt = h.toInt * 10000 := by rw [Jvm.Kit.i32_mul (by rw [c10000]; omega) (by rw [c10000]; omega), c10000, a1]
  have b2 : (y * (100 : Int32)).toInt = m.toInt * 100 := by rw [Jvm.Kit.i32_mul (by rw [c100]; omega) (by rw [c100]; omega), c100, a3]
  have b3 : (x * (10000 : Int32) + y * (100 : Int32)).toInt = h.toInt * 10000 + m.toInt * 100 := by rw [Jvm.Kit.i32_add (by omega) (by omega), b1, b2]
  apply Int32.toInt_inj.mp
  rw [Jvm.Kit.i32_add (by omega) (by omega), b3, a4, q8]
def Q0 (Z : State) (p0_0 : Int32) (p0_1 : Int32) (p0_2 : Int32) (h0 : Heap) (n0 : Nat) (v : Option Value) (h : Heap) (L : List Loc) : Prop := v = some (.int (1 : Int32)) ∧ Fr n0 L
set_option maxRecDepth 65536 in
set_option maxHeartbeats 40000000 in
theorem rm0 (l : Launch) (Z : State) (a0 : Array Value) (hw : ∀ d ∈ tables_1, d.before a0 Z = true) (ws : List Jvm.Cond) (p0_0 : Int32) (p0_1 : Int32) (p0_2 : Int32) (h0 : Heap) (n0 : Nat) (Z0 : n0 ≤ h0.size) :
    MetFree l x (head1 (Jvm.Cond.code x code maxLocals ret :: ws) room_1) (fun a U => a = #[(.int p0_0), (.int p0_1), (.int p0_2)] ∧ Z.Warmed39 U.vm ∧ U.heap = h0) (fun _ _ _ _ _ => True) (fun _ U o U' => ∃ v L, o = .returned v ∧ Q0 Z p0_0 p0_1 p0_2 h0 n0 v U'.heap L ∧ FrameEnd U o U' L room_1.cells room_1.slots) := by
  refine MetFree.of_bodySF (plainFor_of_name pn_1) hisR ?_
  intro p e s m args below meth c s₁ Bd hml0 hP hK
  obtain ⟨rfl, hZ, hh⟩ := hP
  have hx := Bd.exec
  have hby := Bd.bytes
  have hml : c.maxLocals = 8 := hml0
  have hown : s.vm.findClass "com/example/chronofield/chronofield/TimeFieldTimeOfPinLaw" = some m.cls := findClass_of_methodNamed Bd.named
  have hnm := (name_of_methodNamed Bd.named Bd.method).1
  have X0 : Stand p l e room_1 s m #[(.int p0_0), (.int p0_1), (.int p0_2)] below meth c s₁ [] 0 0 := Stand.of_body Bd
  have e0 : s₁.heap = h0 := by rw [← hh, Bd.state]; rfl
  have N0 := Fr.nil n0
  have pre0 : ∀ t, Steps p.tables e below (s₁.setTop (mkF m 0 #[.val (.int p0_0), .val (.int p0_1), .val (.int p0_2), .unset, .unset, .unset, .unset, .unset] [])) t → Steps p.tables e below (s₁.setTop (entryFrame m #[(.int p0_0), (.int p0_1), (.int p0_2)] maxLocals)) t := fun t k => castTop (ef_0 m p0_0 p0_1 p0_2) k
  have pre1 : ∀ t, Steps p.tables e below (s₁.setTop (mkF m 60 #[.val (.int p0_0), .val (.int p0_1), .val (.int p0_2), .val (.int (v0_7 p0_0)), .val (.int (v0_15 p0_1)), .val (.int (v0_24 p0_2)), .val (.int (v0_40 p0_0 p0_1 p0_2)), .val (.int (v0_56 p0_0 p0_1 p0_2))] [(.int (v0_40 p0_0 p0_1 p0_2))])) t → Steps p.tables e below (s₁.setTop (entryFrame m #[(.int p0_0), (.int p0_1), (.int p0_2)] maxLocals)) t := fun t k => pre0 t (by
    refine XS.iloadN X0.here hx rfl (hb hby at_0) rfl ?_
    show Steps p.tables e below (s₁.setTop (mkF m 1 #[.val (.int p0_0), .val (.int p0_1), .val (.int p0_2), .unset, .unset, .unset, .unset, .unset] [(.int p0_0)])) _
    refine X0.ldcInt hx hown (mvT hZ (hw _ (List.mem_of_getElem? (i := 0) rfl))) (g := (mkF m 1 #[.val (.int p0_0), .val (.int p0_1), .val (.int p0_2), .unset, .unset, .unset, .unset, .unset] [(.int p0_0)])) rfl (hb hby at_1) _ ?_
    show Steps p.tables e below (s₁.setTop (mkF m 3 #[.val (.int p0_0), .val (.int p0_1), .val (.int p0_2), .unset, .unset, .unset, .unset, .unset] [(.int (2147483647 : Int32)), (.int p0_0)])) _
    refine XS.iand X0.here hx rfl (hb hby at_3) rfl ?_
    show Steps p.tables e below (s₁.setTop (mkF m 4 #[.val (.int p0_0), .val (.int p0_1), .val (.int p0_2), .unset, .unset, .unset, .unset, .unset] [(.int (p0_0 &&& (2147483647 : Int32)))])) _
    refine XS.bipush X0.here hx rfl (hb hby at_4) ?_
    show Steps p.tables e below (s₁.setTop (mkF m 6 #[.val (.int p0_0), .val (.int p0_1), .val (.int p0_2), .unset, .unset, .unset, .unset, .unset] [(.int (24 : Int32)), (.int (p0_0 &&& (2147483647 : Int32)))])) _
    refine iremM (g := (mkF m 6 #[.val (.int p0_0), .val (.int p0_1), .val (.int p0_2), .unset, .unset, .unset, .unset, .unset] [(.int (24 : Int32)), (.int (p0_0 &&& (2147483647 : Int32)))])) X0 hx rfl (hb hby at_6) rfl (by decide) ?_
    show Steps p.tables e below (s₁.setTop (mkF m 7 #[.val (.int p0_0), .val (.int p0_1), .val (.int p0_2), .unset, .unset, .unset, .unset, .unset] [(.int ((p0_0 &&& (2147483647 : Int32)) % (24 : Int32)))])) _
    show Steps p.tables e below (s₁.setTop (mkF m 7 #[.val (.int p0_0), .val (.int p0_1), .val (.int p0_2), .unset, .unset, .unset, .unset, .unset] [(.int (v0_7 p0_0))])) _
    refine XS.istoreN X0.here hx rfl (hb hby at_7) rfl (l' := #[.val (.int p0_0), .val (.int p0_1), .val (.int p0_2), .val (.int (v0_7 p0_0)), .unset, .unset, .unset, .unset]) rfl ?_
    show Steps p.tables e below (s₁.setTop (mkF m 8 #[.val (.int p0_0), .val (.int p0_1), .val (.int p0_2), .val (.int (v0_7 p0_0)), .unset, .unset, .unset, .unset] [])) _
    refine XS.iloadN X0.here hx rfl (hb hby at_8) rfl ?_
    show Steps p.tables e below (s₁.setTop (mkF m 9 #[.val (.int p0_0), .val (.int p0_1), .val (.int p0_2), .val (.int (v0_7 p0_0)), .unset, .unset, .unset, .unset] [(.int p0_1)])) _
    refine X0.ldcInt hx hown (mvT hZ (hw _ (List.mem_of_getElem? (i := 0) rfl))) (g := (mkF m 9 #[.val (.int p0_0), .val (.int p0_1), .val (.int p0_2), .val (.int (v0_7 p0_0)), .unset, .unset, .unset, .unset] [(.int p0_1)])) rfl (hb hby at_9) _ ?_
    show Steps p.tables e below (s₁.setTop (mkF m 11 #[.val (.int p0_0), .val (.int p0_1), .val (.int p0_2), .val (.int (v0_7 p0_0)), .unset, .unset, .unset, .unset] [(.int (2147483647 : Int32)), (.int p0_1)])) _
    refine XS.iand X0.here hx rfl (hb hby at_11) rfl ?_
    show Steps p.tables e below (s₁.setTop (mkF m 12 #[.val (.int p0_0), .val (.int p0_1), .val (.int p0_2), .val (.int (v0_7 p0_0)), .unset, .unset, .unset, .unset] [(.int (p0_1 &&& (2147483647 : Int32)))])) _
    refine XS.bipush X0.here hx rfl (hb hby at_12) ?_
    show Steps p.tables e below (s₁.setTop (mkF m 14 #[.val (.int p0_0), .val (.int p0_1), .val (.int p0_2), .val (.int (v0_7 p0_0)), .unset, .unset, .unset, .unset] [(.int (60 : Int32)), (.int (p0_1 &&& (2147483647 : Int32)))])) _
    refine iremM (g := (mkF m 14 #[.val (.int p0_0), .val (.int p0_1), .val (.int p0_2), .val (.int (v0_7 p0_0)), .unset, .unset, .unset, .unset] [(.int (60 : Int32)), (.int (p0_1 &&& (2147483647 : Int32)))])) X0 hx rfl (hb hby at_14) rfl (by decide) ?_
    show Steps p.tables e below (s₁.setTop (mkF m 15 #[.val (.int p0_0), .val (.int p0_1), .val (.int p0_2), .val (.int (v0_7 p0_0)), .unset, .unset, .unset, .unset] [(.int ((p0_1 &&& (2147483647 : Int32)) % (60 : Int32)))])) _
    show Steps p.tables e below (s₁.setTop (mkF m 15 #[.val (.int p0_0), .val (.int p0_1), .val (.int p0_2), .val (.int (v0_7 p0_0)), .unset, .unset, .unset, .unset] [(.int (v0_15 p0_1))])) _
    refine XS.istore X0.here hx rfl (hb hby at_15) rfl (l' := #[.val (.int p0_0), .val (.int p0_1), .val (.int p0_2), .val (.int (v0_7 p0_0)), .val (.int (v0_15 p0_1)), .unset, .unset, .unset]) rfl ?_
    show Steps p.tables e below (s₁.setTop (mkF m 17 #[.val (.int p0_0), .val (.int p0_1), .val (.int p0_2), .val (.int (v0_7 p0_0)), .val (.int (v0_15 p0_1)), .unset, .unset, .unset] [])) _
    refine XS.iloadN X0.here hx rfl (hb hby at_17) rfl ?_
    show Steps p.tables e below (s₁.setTop (mkF m 18 #[.val (.int p0_0), .val (.int p0_1), .val (.int p0_2), .val (.int (v0_7 p0_0)), .val (.int (v0_15 p0_1)), .unset, .unset, .unset] [(.int p0_2)])) _
    refine X0.ldcInt hx hown (mvT hZ (hw _ (List.mem_of_getElem? (i := 0) rfl))) (g := (mkF m 18 #[.val (.int p0_0), .val (.int p0_1), .val (.int p0_2), .val (.int (v0_7 p0_0)), .val (.int (v0_15 p0_1)), .unset, .unset, .unset] [(.int p0_2)])) rfl (hb hby at_18) _ ?_
    show Steps p.tables e below (s₁.setTop (mkF m 20 #[.val (.int p0_0), .val (.int p0_1), .val (.int p0_2), .val (.int (v0_7 p0_0)), .val (.int (v0_15 p0_1)), .unset, .unset, .unset] [(.int (2147483647 : Int32)), (.int p0_2)])) _
    refine XS.iand X0.here hx rfl (hb hby at_20) rfl ?_
    show Steps p.tables e below (s₁.setTop (mkF m 21 #[.val (.int p0_0), .val (.int p0_1), .val (.int p0_2), .val (.int (v0_7 p0_0)), .val (.int (v0_15 p0_1)), .unset, .unset, .unset] [(.int (p0_2 &&& (2147483647 : Int32)))])) _
    refine XS.bipush X0.here hx rfl (hb hby at_21) ?_
    show Steps p.tables e below (s₁.setTop (mkF m 23 #[.val (.int p0_0), .val (.int p0_1), .val (.int p0_2), .val (.int (v0_7 p0_0)), .val (.int (v0_15 p0_1)), .unset, .unset, .unset] [(.int (60 : Int32)), (.int (p0_2 &&& (2147483647 : Int32)))])) _
    refine iremM (g := (mkF m 23 #[.val (.int p0_0), .val (.int p0_1), .val (.int p0_2), .val (.int (v0_7 p0_0)), .val (.int (v0_15 p0_1)), .unset, .unset, .unset] [(.int (60 : Int32)), (.int (p0_2 &&& (2147483647 : Int32)))])) X0 hx rfl (hb hby at_23) rfl (by decide) ?_
    show Steps p.tables e below (s₁.setTop (mkF m 24 #[.val (.int p0_0), .val (.int p0_1), .val (.int p0_2), .val (.int (v0_7 p0_0)), .val (.int (v0_15 p0_1)), .unset, .unset, .unset] [(.int ((p0_2 &&& (2147483647 : Int32)) % (60 : Int32)))])) _
    show Steps p.tables e below (s₁.setTop (mkF m 24 #[.val (.int p0_0), .val (.int p0_1), .val (.int p0_2), .val (.int (v0_7 p0_0)), .val (.int (v0_15 p0_1)), .unset, .unset, .unset] [(.int (v0_24 p0_2))])) _
    refine XS.istore X0.here hx rfl (hb hby at_24) rfl (l' := #[.val (.int p0_0), .val (.int p0_1), .val (.int p0_2), .val (.int (v0_7 p0_0)), .val (.int (v0_15 p0_1)), .val (.int (v0_24 p0_2)), .unset, .unset]) rfl ?_
    show Steps p.tables e below (s₁.setTop (mkF m 26 #[.val (.int p0_0), .val (.int p0_1), .val (.int p0_2), .val (.int (v0_7 p0_0)), .val (.int (v0_15 p0_1)), .val (.int (v0_24 p0_2)), .unset, .unset] [])) _
    refine XS.iloadN X0.here hx rfl (hb hby at_26) rfl ?_
    show Steps p.tables e below (s₁.setTop (mkF m 27 #[.val (.int p0_0), .val (.int p0_1), .val (.int p0_2), .val (.int (v0_7 p0_0)), .val (.int (v0_15 p0_1)), .val (.int (v0_24 p0_2)), .unset, .unset] [(.int (v0_7 p0_0))])) _
    refine XS.sipush X0.here hx rfl (hb hby at_27) ?_
    show Steps p.tables e below (s₁.setTop (mkF m 30 #[.val (.int p0_0), .val (.int p0_1), .val (.int p0_2), .val (.int (v0_7 p0_0)), .val (.int (v0_15 p0_1)), .val (.int (v0_24 p0_2)), .unset, .unset] [(.int (3600 : Int32)), (.int (v0_7 p0_0))])) _
    refine XS.imul X0.here hx rfl (hb hby at_30) rfl ?_
    show Steps p.tables e below (s₁.setTop (mkF m 31 #[.val (.int p0_0), .val (.int p0_1), .val (.int p0_2), .val (.int (v0_7 p0_0)), .val (.int (v0_15 p0_1)), .val (.int (v0_24 p0_2)), .unset, .unset] [(.int ((v0_7 p0_0) * (3600 : Int32)))])) _
    refine XS.iload X0.here hx rfl (hb hby at_31) rfl ?_
    show Steps p.tables e below (s₁.setTop (mkF m 33 #[.val (.int p0_0), .val (.int p0_1), .val (.int p0_2), .val (.int (v0_7 p0_0)), .val (.int (v0_15 p0_1)), .val (.int (v0_24 p0_2)), .unset, .unset] [(.int (v0_15 p0_1)), (.int ((v0_7 p0_0) * (3600 : Int32)))])) _
    refine XS.bipush X0.here hx rfl (hb hby at_33) ?_
    show Steps p.tables e below (s₁.setTop (mkF m 35 #[.val (.int p0_0), .val (.int p0_1), .val (.int p0_2), .val (.int (v0_7 p0_0)), .val (.int (v0_15 p0_1)), .val (.int (v0_24 p0_2)), .unset, .unset] [(.int (60 : Int32)), (.int (v0_15 p0_1)), (.int ((v0_7 p0_0) * (3600 : Int32)))])) _
    refine XS.imul X0.here hx rfl (hb hby at_35) rfl ?_
    show Steps p.tables e below (s₁.setTop (mkF m 36 #[.val (.int p0_0), .val (.int p0_1), .val (.int p0_2), .val (.int (v0_7 p0_0)), .val (.int (v0_15 p0_1)), .val (.int (v0_24 p0_2)), .unset, .unset] [(.int ((v0_15 p0_1) * (60 : Int32))), (.int ((v0_7 p0_0) * (3600 : Int32)))])) _
    refine XS.iadd X0.here hx rfl (hb hby at_36) rfl ?_
    show Steps p.tables e below (s₁.setTop (mkF m 37 #[.val (.int p0_0), .val (.int p0_1), .val (.int p0_2), .val (.int (v0_7 p0_0)), .val (.int (v0_15 p0_1)), .val (.int (v0_24 p0_2)), .unset, .unset] [(.int (((v0_7 p0_0) * (3600 : Int32)) + ((v0_15 p0_1) * (60 : Int32))))])) _
    refine XS.iload X0.here hx rfl (hb hby at_37) rfl ?_
    show Steps p.tables e below (s₁.setTop (mkF m 39 #[.val (.int p0_0), .val (.int p0_1), .val (.int p0_2), .val (.int (v0_7 p0_0)), .val (.int (v0_15 p0_1)), .val (.int (v0_24 p0_2)), .unset, .unset] [(.int (v0_24 p0_2)), (.int (((v0_7 p0_0) * (3600 : Int32)) + ((v0_15 p0_1) * (60 : Int32))))])) _
    refine XS.iadd X0.here hx rfl (hb hby at_39) rfl ?_
    show Steps p.tables e below (s₁.setTop (mkF m 40 #[.val (.int p0_0), .val (.int p0_1), .val (.int p0_2), .val (.int (v0_7 p0_0)), .val (.int (v0_15 p0_1)), .val (.int (v0_24 p0_2)), .unset, .unset] [(.int ((((v0_7 p0_0) * (3600 : Int32)) + ((v0_15 p0_1) * (60 : Int32))) + (v0_24 p0_2)))])) _
    show Steps p.tables e below (s₁.setTop (mkF m 40 #[.val (.int p0_0), .val (.int p0_1), .val (.int p0_2), .val (.int (v0_7 p0_0)), .val (.int (v0_15 p0_1)), .val (.int (v0_24 p0_2)), .unset, .unset] [(.int (v0_40 p0_0 p0_1 p0_2))])) _
    refine XS.istore X0.here hx rfl (hb hby at_40) rfl (l' := #[.val (.int p0_0), .val (.int p0_1), .val (.int p0_2), .val (.int (v0_7 p0_0)), .val (.int (v0_15 p0_1)), .val (.int (v0_24 p0_2)), .val (.int (v0_40 p0_0 p0_1 p0_2)), .unset]) rfl ?_
    show Steps p.tables e below (s₁.setTop (mkF m 42 #[.val (.int p0_0), .val (.int p0_1), .val (.int p0_2), .val (.int (v0_7 p0_0)), .val (.int (v0_15 p0_1)), .val (.int (v0_24 p0_2)), .val (.int (v0_40 p0_0 p0_1 p0_2)), .unset] [])) _
    refine XS.iloadN X0.here hx rfl (hb hby at_42) rfl ?_
    show Steps p.tables e below (s₁.setTop (mkF m 43 #[.val (.int p0_0), .val (.int p0_1), .val (.int p0_2), .val (.int (v0_7 p0_0)), .val (.int (v0_15 p0_1)), .val (.int (v0_24 p0_2)), .val (.int (v0_40 p0_0 p0_1 p0_2)), .unset] [(.int (v0_7 p0_0))])) _
    refine XS.sipush X0.here hx rfl (hb hby at_43) ?_
    show Steps p.tables e below (s₁.setTop (mkF m 46 #[.val (.int p0_0), .val (.int p0_1), .val (.int p0_2), .val (.int (v0_7 p0_0)), .val (.int (v0_15 p0_1)), .val (.int (v0_24 p0_2)), .val (.int (v0_40 p0_0 p0_1 p0_2)), .unset] [(.int (10000 : Int32)), (.int (v0_7 p0_0))])) _
    refine XS.imul X0.here hx rfl (hb hby at_46) rfl ?_
    show Steps p.tables e below (s₁.setTop (mkF m 47 #[.val (.int p0_0), .val (.int p0_1), .val (.int p0_2), .val (.int (v0_7 p0_0)), .val (.int (v0_15 p0_1)), .val (.int (v0_24 p0_2)), .val (.int (v0_40 p0_0 p0_1 p0_2)), .unset] [(.int ((v0_7 p0_0) * (10000 : Int32)))])) _
    refine XS.iload X0.here hx rfl (hb hby at_47) rfl ?_
    show Steps p.tables e below (s₁.setTop (mkF m 49 #[.val (.int p0_0), .val (.int p0_1), .val (.int p0_2), .val (.int (v0_7 p0_0)), .val (.int (v0_15 p0_1)), .val (.int (v0_24 p0_2)), .val (.int (v0_40 p0_0 p0_1 p0_2)), .unset] [(.int (v0_15 p0_1)), (.int ((v0_7 p0_0) * (10000 : Int32)))])) _
    refine XS.bipush X0.here hx rfl (hb hby at_49) ?_
    show Steps p.tables e below (s₁.setTop (mkF m 51 #[.val (.int p0_0), .val (.int p0_1), .val (.int p0_2), .val (.int (v0_7 p0_0)), .val (.int (v0_15 p0_1)), .val (.int (v0_24 p0_2)), .val (.int (v0_40 p0_0 p0_1 p0_2)), .unset] [(.int (100 : Int32)), (.int (v0_15 p0_1)), (.int ((v0_7 p0_0) * (10000 : Int32)))])) _
    refine XS.imul X0.here hx rfl (hb hby at_51) rfl ?_
    show Steps p.tables e below (s₁.setTop (mkF m 52 #[.val (.int p0_0), .val (.int p0_1), .val (.int p0_2), .val (.int (v0_7 p0_0)), .val (.int (v0_15 p0_1)), .val (.int (v0_24 p0_2)), .val (.int (v0_40 p0_0 p0_1 p0_2)), .unset] [(.int ((v0_15 p0_1) * (100 : Int32))), (.int ((v0_7 p0_0) * (10000 : Int32)))])) _
    refine XS.iadd X0.here hx rfl (hb hby at_52) rfl ?_
    show Steps p.tables e below (s₁.setTop (mkF m 53 #[.val (.int p0_0), .val (.int p0_1), .val (.int p0_2), .val (.int (v0_7 p0_0)), .val (.int (v0_15 p0_1)), .val (.int (v0_24 p0_2)), .val (.int (v0_40 p0_0 p0_1 p0_2)), .unset] [(.int (((v0_7 p0_0) * (10000 : Int32)) + ((v0_15 p0_1) * (100 : Int32))))])) _
    refine XS.iload X0.here hx rfl (hb hby at_53) rfl ?_
    show Steps p.tables e below (s₁.setTop (mkF m 55 #[.val (.int p0_0), .val (.int p0_1), .val (.int p0_2), .val (.int (v0_7 p0_0)), .val (.int (v0_15 p0_1)), .val (.int (v0_24 p0_2)), .val (.int (v0_40 p0_0 p0_1 p0_2)), .unset] [(.int (v0_24 p0_2)), (.int (((v0_7 p0_0) * (10000 : Int32)) + ((v0_15 p0_1) * (100 : Int32))))])) _
    refine XS.iadd X0.here hx rfl (hb hby at_55) rfl ?_
    show Steps p.tables e below (s₁.setTop (mkF m 56 #[.val (.int p0_0), .val (.int p0_1), .val (.int p0_2), .val (.int (v0_7 p0_0)), .val (.int (v0_15 p0_1)), .val (.int (v0_24 p0_2)), .val (.int (v0_40 p0_0 p0_1 p0_2)), .unset] [(.int ((((v0_7 p0_0) * (10000 : Int32)) + ((v0_15 p0_1) * (100 : Int32))) + (v0_24 p0_2)))])) _
    show Steps p.tables e below (s₁.setTop (mkF m 56 #[.val (.int p0_0), .val (.int p0_1), .val (.int p0_2), .val (.int (v0_7 p0_0)), .val (.int (v0_15 p0_1)), .val (.int (v0_24 p0_2)), .val (.int (v0_40 p0_0 p0_1 p0_2)), .unset] [(.int (v0_56 p0_0 p0_1 p0_2))])) _
    refine XS.istore X0.here hx rfl (hb hby at_56) rfl (l' := #[.val (.int p0_0), .val (.int p0_1), .val (.int p0_2), .val (.int (v0_7 p0_0)), .val (.int (v0_15 p0_1)), .val (.int (v0_24 p0_2)), .val (.int (v0_40 p0_0 p0_1 p0_2)), .val (.int (v0_56 p0_0 p0_1 p0_2))]) rfl ?_
    show Steps p.tables e below (s₁.setTop (mkF m 58 #[.val (.int p0_0), .val (.int p0_1), .val (.int p0_2), .val (.int (v0_7 p0_0)), .val (.int (v0_15 p0_1)), .val (.int (v0_24 p0_2)), .val (.int (v0_40 p0_0 p0_1 p0_2)), .val (.int (v0_56 p0_0 p0_1 p0_2))] [])) _
    refine XS.iload X0.here hx rfl (hb hby at_58) rfl ?_
    show Steps p.tables e below (s₁.setTop (mkF m 60 #[.val (.int p0_0), .val (.int p0_1), .val (.int p0_2), .val (.int (v0_7 p0_0)), .val (.int (v0_15 p0_1)), .val (.int (v0_24 p0_2)), .val (.int (v0_40 p0_0 p0_1 p0_2)), .val (.int (v0_56 p0_0 p0_1 p0_2))] [(.int (v0_40 p0_0 p0_1 p0_2))])) _
    exact k)
  obtain ⟨_, _, ⟨T2, L2, k2, n2⟩, -, X2, ⟨Lc2, hQ2, l2, y2, z2⟩, st2⟩ := Jvm.LawKit.callS X0 hx (y := (⟨"com/example/chronofield/chronofield/TimeField", "timeOf", "(I)I"⟩ : MethodName)) hown (mvT hZ (hw _ (List.mem_of_getElem? (i := 1) rfl))) (mvT hZ (hw _ (List.mem_of_getElem? (i := 2) rfl))) (mvT hZ (hw _ (List.mem_of_getElem? (i := 3) rfl))) (mvT hZ (hw _ (List.mem_of_getElem? (i := 4) rfl))) (by decide) (backOf (W := 0) (rm1 l Z a0 hw [] (v0_40 p0_0 p0_1 p0_2) h0 n0 Z0 ) hZ (hw _ (List.mem_of_getElem? (i := 4) rfl)) (hw _ (List.mem_of_getElem? (i := 3) rfl)) (by decide) (by decide)) (g := (mkF m 60 #[.val (.int p0_0), .val (.int p0_1), .val (.int p0_2), .val (.int (v0_7 p0_0)), .val (.int (v0_15 p0_1)), .val (.int (v0_24 p0_2)), .val (.int (v0_40 p0_0 p0_1 p0_2)), .val (.int (v0_56 p0_0 p0_1 p0_2))] [(.int (v0_40 p0_0 p0_1 p0_2))])) rfl (by rw [hml]; rfl) (argsL := [(.int (v0_40 p0_0 p0_1 p0_2))]) (rest := []) (lenOf pd_0 rfl) rfl (by show 2 * 0 + _ ≤ _; exact Nat.le_of_eq rfl) (hb hby at_60) (fun _ _ => ⟨rfl, e0, (by decide : 0 + 0 ≤ _), (by decide : 0 + 0 ≤ _)⟩)
  dsimp only [Pt.U, Pt.locs, Pt.cells, Pt.slots] at X2 l2 y2 z2 st2 hQ2
  subst l2 y2 z2
  obtain ⟨rfl, M2, e2⟩ := hQ2
  have N2 := Fr.app N0 M2
  have pre2 : ∀ t, Steps p.tables e below (T2.setTop (mkF m 63 #[.val (.int p0_0), .val (.int p0_1), .val (.int p0_2), .val (.int (v0_7 p0_0)), .val (.int (v0_15 p0_1)), .val (.int (v0_24 p0_2)), .val (.int (v0_40 p0_0 p0_1 p0_2)), .val (.int (v0_56 p0_0 p0_1 p0_2))] [(.int (r1 (v0_40 p0_0 p0_1 p0_2)))])) t → Steps p.tables e below (s₁.setTop (entryFrame m #[(.int p0_0), (.int p0_1), (.int p0_2)] maxLocals)) t := fun t k => pre1 t (st2 t k)
  have pre4 : ∀ t, Steps p.tables e below (T2.setTop (mkF m 73 #[.val (.int p0_0), .val (.int p0_1), .val (.int p0_2), .val (.int (v0_7 p0_0)), .val (.int (v0_15 p0_1)), .val (.int (v0_24 p0_2)), .val (.int (v0_40 p0_0 p0_1 p0_2)), .val (.int (v0_56 p0_0 p0_1 p0_2))] [(.int (1 : Int32))])) t → Steps p.tables e below (s₁.setTop (entryFrame m #[(.int p0_0), (.int p0_1), (.int p0_2)] maxLocals)) t := fun t k => pre2 t (by
    refine XS.iload X2.here hx rfl (hb hby at_63) rfl ?_
    show Steps p.tables e below (T2.setTop (mkF m 65 #[.val (.int p0_0), .val (.int p0_1), .val (.int p0_2), .val (.int (v0_7 p0_0)), .val (.int (v0_15 p0_1)), .val (.int (v0_24 p0_2)), .val (.int (v0_40 p0_0 p0_1 p0_2)), .val (.int (v0_56 p0_0 p0_1 p0_2))] [(.int (v0_56 p0_0 p0_1 p0_2)), (.int (r1 (v0_40 p0_0 p0_1 p0_2)))])) _
    refine XS.icmpNo X2.here hx rfl (hb hby at_65) rfl (teq (show (r1 (v0_40 p0_0 p0_1 p0_2)) = (v0_56 p0_0 p0_1 p0_2) from (own_main p0_0 p0_1 p0_2))).2 ?_
    show Steps p.tables e below (T2.setTop (mkF m 68 #[.val (.int p0_0), .val (.int p0_1), .val (.int p0_2), .val (.int (v0_7 p0_0)), .val (.int (v0_15 p0_1)), .val (.int (v0_24 p0_2)), .val (.int (v0_40 p0_0 p0_1 p0_2)), .val (.int (v0_56 p0_0 p0_1 p0_2))] [])) _
    refine XS.iconst X2.here hx rfl (hb hby at_68) ?_
    show Steps p.tables e below (T2.setTop (mkF m 69 #[.val (.int p0_0), .val (.int p0_1), .val (.int p0_2), .val (.int (v0_7 p0_0)), .val (.int (v0_15 p0_1)), .val (.int (v0_24 p0_2)), .val (.int (v0_40 p0_0 p0_1 p0_2)), .val (.int (v0_56 p0_0 p0_1 p0_2))] [(.int (1 : Int32))])) _
    refine XS.goto X2.here hx rfl (pc0 := 69) (pc' := 73) rfl (hb hby at_69) (by decide) (by decide) ?_
    show Steps p.tables e below (T2.setTop (mkF m 73 #[.val (.int p0_0), .val (.int p0_1), .val (.int p0_2), .val (.int (v0_7 p0_0)), .val (.int (v0_15 p0_1)), .val (.int (v0_24 p0_2)), .val (.int (v0_40 p0_0 p0_1 p0_2)), .val (.int (v0_56 p0_0 p0_1 p0_2))] [(.int (1 : Int32))])) _
    exact k)
  obtain ⟨fs, hr, hrun, hended, hW, hsame⟩ := X2.leave (v := some (.int (1 : Int32))) (fun h => by rw [Bd.returns] at h; cases h)
  refine ⟨_, _, pre4 _ ?_, hrun, hended, _, _, rfl, ?_, ⟨_, rfl⟩, hW, hsame.mono (by decide) (by decide)⟩
  · show Steps p.tables e below (T2.setTop (mkF m 73 #[.val (.int p0_0), .val (.int p0_1), .val (.int p0_2), .val (.int (v0_7 p0_0)), .val (.int (v0_15 p0_1)), .val (.int (v0_24 p0_2)), .val (.int (v0_40 p0_0 p0_1 p0_2)), .val (.int (v0_56 p0_0 p0_1 p0_2))] [(.int (1 : Int32))])) _
    exact retN X2 hx (t := .boolean) Bd.returns (by simp) (hb hby at_73) hr
  · show Q0 Z p0_0 p0_1 p0_2 h0 n0 _ T2.heap _
    rw [e2]
    exact ⟨rfl, N2⟩
set_option maxRecDepth 65536 in
set_option maxHeartbeats 40000000 in
theorem comes_1 {Post : Tables → Env → Array Value → State → Outcome → State → Prop} (hpost : ∀ tb e args s v u, (limb_1_1.after args s (.returned v) u = true ∧ limb_1_2.after args s (.returned v) u = true ∧ True) → FrameEnd s (.returned v) u (Jvm.fieldLocs frame_1_writes args s ++ Jvm.arrayLocs frame_1_arrays args s ++ Jvm.staticLocs frame_1_statics s) 0 0 → Post tb e args s (.returned v) u) :
    ArmFor flags0 classFile x code maxLocals ret World_1 tables_1 room_1 Calls_1 rest_1 Pre_1 Post := by
  intro l hfl _ _ p e ha hc hk s m args below hf hA hF happ hP
  obtain ⟨hcalls, hrest, hpre⟩ := hP
  obtain ⟨-, -, -, hnamed, -, -, -, hat⟩ := (Spec.applies_iff hf).mp happ
  obtain ⟨hg, hn⟩ := and_e (Cond.before_iff.mp (show (Jvm.Cond.and given_1 narrow_1).before args s = true from hpre))
  obtain ⟨gc, g0⟩ := and_e hg
  obtain ⟨ga0, g1⟩ := and_e g0
  obtain ⟨ga1, g2⟩ := and_e g1
  obtain ⟨w0, w1, w2, rfl⟩ : ∃ w0 w1 w2 : Value, args = #[w0, w1, w2] := by
    have hs : args.size = 3 := by simpa [Cond.value, given_1] using gc
    obtain ⟨L⟩ := args
    match L, hs with
    | [w0, w1, w2], _ => exact ⟨w0, w1, w2, rfl⟩
  have hw := fun d (hd : d ∈ tables_1) => atoms_spec (ws := Jvm.Cond.code x code maxLocals ret :: tables_1) hat d (List.mem_cons_of_mem _ hd)
  obtain ⟨i0, ei0⟩ := is_v ga0
  obtain rfl : w0 = (.int i0) := Option.some.inj ei0
  obtain ⟨i1, ei1⟩ := is_v ga1
  obtain rfl : w1 = (.int i1) := Option.some.inj ei1
  obtain ⟨i2, ei2⟩ := is_v g2
  obtain rfl : w2 = (.int i2) := Option.some.inj ei2
  obtain ⟨n, o, h1, h2, h3, _, L, rfl, ⟨rfl, N⟩, hq⟩ := rm0 l s _ hw tables_1 i0 i1 i2  s.heap s.heap.size (Nat.le_refl _)  p e ha hc hk s m _ below hf ((Spec.applies_iff_loose hf).mp happ).1 ⟨rfl, State.Warmed39.refl s, rfl⟩ trivial
  refine ⟨n, _, h1, h2, h3, hpost _ _ _ _ _ _ ⟨Cond.after_iff.mpr rfl, Cond.after_iff.mpr (eq_i res_at (Term.int_eval (1)) rfl), trivial⟩ ⟨hq.1, hq.2.1, (hq.2.2.sift fun y hy => Or.inr (N y hy)).mono (by decide) (by decide)⟩⟩
theorem main_1_1 : Claimed_1_1 := comes_1 fun _ _ _ _ _ _ h hF => ⟨h.1, hF⟩
theorem main_1_2 : Claimed_1_2 := comes_1 fun _ _ _ _ _ _ h hF => ⟨h.2.1, hF⟩
end Jvm.Pilot.@@N@@
namespace Jvm.Pilot.@@N@@
open Jvm Jvm.ClassFile Sem Op Lib Jvm.Free Jvm.Stand Jvm.Pilot.@@N@@.Jvm.D
/-! MADE BY PROGRAM (witnessworld.py) out of the Statement's table words and the real class files: 7 classes; the members and pool entries that the words name. The judged class is class 1, her method 1. -/
namespace start1
open Jvm.ClassFile
def u (s : String) : CpInfo := .utf8 (stringToUtf16 s)
/-- a pool by its gaps: so many unusable entries, then the entry; so many at the end -/
def gap : Nat → List CpInfo → List CpInfo
  | 0, r => r
  | n + 1, r => .unusable :: gap n r
def poolList (es : List (Nat × CpInfo)) (last : Nat) : List CpInfo := es.foldr (fun e r => gap e.1 (e.2 :: r)) (gap last [])
def pool (es : List (Nat × CpInfo)) (last : Nat) : Array CpInfo := ⟨poolList es last⟩
def fileOf (pool : Array CpInfo) (this : Nat) (attrs : Array Attribute := #[]) (ms : Array MethodInfo := #[]) (fl : Nat := 33) (sup : Nat := 0) (ifs : Array Nat := #[]) (fds : Array FieldInfo := #[]) : ClassFile where
  minorVersion := 0
  majorVersion := 65
  constantPool := pool
  accessFlags := fl
  thisClass := this
  superClass := sup
  interfaces := ifs
  fields := fds
  methods := ms
  attributes := attrs
def plain (name : String) (sup : Option ClassId) : Class where
  name := name
  kind := .ordinary
  loader := none
  accessFlags := 33
  super := sup
  interfaces := #[]
  cf := none
  fields := #[]
  methods := #[]
  instanceTypes := #[]
  staticTypes := #[]
  resolved := #[]
  callSites := []
  init := .initialized
  statics := none
  mirror := none

def pool0 : Array CpInfo := pool [(5, u "<init>"), (0, u "()V"), (1, .class_ 10), (1, u "java/lang/Object")] 113

def k0m0 : Method := { name := "<init>", desc := "()V", sig := { parameters := [], returnType := none }, accessFlags := 1, code := none }
/-- java/lang/Object -/
def k0 : Class := { plain "java/lang/Object" none with
  accessFlags := 33
  interfaces := #[]
  cf := some (fileOf pool0 8 #[] #[{ accessFlags := 1, nameIndex := 5, descriptorIndex := 6, attributes := #[] }] 33 0 #[] #[])
  fields := #[]
  methods := #[k0m0]
  instanceTypes := #[]
  staticTypes := #[]
  resolved := Array.replicate 124 none
  statics := none }

def pool1 : Array CpInfo := pool [(2, .class_ 4), (1, u "java/lang/Object"), (0, u "<init>"), (0, u "()V"), (0, .integer 2147483647), (0, .methodref 9 10), (0, .class_ 11), (0, .nameAndType 12 13), (0, u "com/example/chronofield/chronofield/TimeField"), (0, u "timeOf"), (0, u "(I)I"), (0, .class_ 15), (0, u "com/example/chronofield/chronofield/TimeFieldTimeOfPinLaw"), (2, u "law"), (0, u "(III)Z")] 3

def k1m0 : Method := { name := "<init>", desc := "()V", sig := { parameters := [], returnType := none }, accessFlags := 2, code := none }
def k1c1 : Code := { maxStack := 3, maxLocals := 8, code := code, exceptionTable := #[], attributes := #[] }
def k1m1 : Method := { name := "law", desc := "(III)Z", sig := { parameters := [.int, .int, .int], returnType := some .boolean }, accessFlags := 9, code := some k1c1 }
/-- com/example/chronofield/chronofield/TimeFieldTimeOfPinLaw -/
def k1 : Class := { plain "com/example/chronofield/chronofield/TimeFieldTimeOfPinLaw" (some 0) with
  accessFlags := 49
  interfaces := #[]
  cf := some (fileOf pool1 14 #[] #[{ accessFlags := 2, nameIndex := 5, descriptorIndex := 6, attributes := #[] }, { accessFlags := 9, nameIndex := 18, descriptorIndex := 19, attributes := #[] }] 49 2 #[] #[])
  fields := #[]
  methods := #[k1m0, k1m1]
  instanceTypes := #[]
  staticTypes := #[]
  resolved := Array.replicate 23 none
  statics := none }

def pool2 : Array CpInfo := pool [(1, .class_ 2), (0, u "com/example/chronofield/chronofield/TimeField"), (1, .class_ 6), (1, u "java/lang/Object"), (4, u "text"), (0, u "Ljava/lang/String;"), (2, u "valid"), (0, u "Z"), (2, u "seconds"), (0, u "I"), (48, u "timeOf"), (0, u "(I)I"), (31, u "LENGTH"), (2, u "SECONDS_PER_MINUTE"), (1, u "SECONDS_PER_HOUR"), (1, u "SECONDS_PER_DAY")] 31

def k2c0 : Code := { maxStack := 3, maxLocals := 4, code := prog_8_method_5_code, exceptionTable := #[], attributes := #[] }
def k2m0 : Method := { name := "timeOf", desc := "(I)I", sig := { parameters := [.int], returnType := some .int }, accessFlags := 8, code := some k2c0 }
/-- com/example/chronofield/chronofield/TimeField -/
def k2 : Class := { plain "com/example/chronofield/chronofield/TimeField" (some 0) with
  accessFlags := 49
  interfaces := #[]
  cf := some (fileOf pool2 1 #[] #[{ accessFlags := 8, nameIndex := 69, descriptorIndex := 70, attributes := #[] }] 49 4 #[] #[{ accessFlags := 26, nameIndex := 102, descriptorIndex := 20, attributes := #[] }, { accessFlags := 26, nameIndex := 105, descriptorIndex := 20, attributes := #[] }, { accessFlags := 26, nameIndex := 107, descriptorIndex := 20, attributes := #[] }, { accessFlags := 24, nameIndex := 109, descriptorIndex := 20, attributes := #[] }, { accessFlags := 18, nameIndex := 11, descriptorIndex := 12, attributes := #[] }, { accessFlags := 18, nameIndex := 15, descriptorIndex := 16, attributes := #[] }, { accessFlags := 18, nameIndex := 19, descriptorIndex := 20, attributes := #[] }])
  fields := #[{ name := "LENGTH", type := .int, accessFlags := 26, slot := 0, constantValue := 0 }, { name := "SECONDS_PER_MINUTE", type := .int, accessFlags := 26, slot := 1, constantValue := 0 }, { name := "SECONDS_PER_HOUR", type := .int, accessFlags := 26, slot := 2, constantValue := 0 }, { name := "SECONDS_PER_DAY", type := .int, accessFlags := 24, slot := 3, constantValue := 0 }, { name := "text", type := (.object "java/lang/String"), accessFlags := 18, slot := 0, constantValue := 0 }, { name := "valid", type := .boolean, accessFlags := 18, slot := 1, constantValue := 0 }, { name := "seconds", type := .int, accessFlags := 18, slot := 2, constantValue := 0 }]
  methods := #[k2m0]
  instanceTypes := #[(.object "java/lang/String"), .boolean, .int]
  staticTypes := #[.int, .int, .int, .int]
  resolved := Array.replicate 141 none
  statics := none }

def pool3 : Array CpInfo := pool [(1, u "java/lang/Cloneable"), (0, .class_ 1), (0, u "java/lang/Object"), (0, .class_ 3)] 3

/-- java/lang/Cloneable -/
def k3 : Class := { plain "java/lang/Cloneable" (some 0) with
  accessFlags := 1537
  interfaces := #[]
  cf := some (fileOf pool3 2 #[] #[] 1537 4 #[] #[])
  fields := #[]
  methods := #[]
  instanceTypes := #[]
  staticTypes := #[]
  resolved := Array.replicate 8 none
  statics := none }

def pool4 : Array CpInfo := pool [(1, u "java/io/Serializable"), (0, .class_ 1), (0, u "java/lang/Object"), (0, .class_ 3)] 3

/-- java/io/Serializable -/
def k4 : Class := { plain "java/io/Serializable" (some 0) with
  accessFlags := 1537
  interfaces := #[]
  cf := some (fileOf pool4 2 #[] #[] 1537 4 #[] #[])
  fields := #[]
  methods := #[]
  instanceTypes := #[]
  staticTypes := #[]
  resolved := Array.replicate 8 none
  statics := none }

/-- the primitive byte -/
def k5 : Class := { plain "byte" none with kind := .primitive 'B', accessFlags := 0x411 }
/-- [B -/
def k6 : Class := { plain "[B" (some 0) with kind := .array 5 .byte, interfaces := #[3, 4], accessFlags := 1041 }

def heap : Heap := #[]
def classes : Array Class := #[k0, k1, k2, k3, k4, k5, k6]
def interned : List (Array UInt16 × Addr) := []
def slotsUsed : Nat := 0
def theMethod : MethodId := ⟨1, 1⟩
def args0 : Array Value := #[.int 5, .int 300, .int 7]
def aboutOver (below : List Frame) : State where
  vm := { classes := classes, interned := interned.toArray }
  heap := heap
  slotsUsed := slotsUsed
  threads := #[{ frames := .invoking theMethod args0 :: below }]
def below0 : List Frame := [.native { method := ⟨0, 0⟩, args := #[] }]
def about1 : State := aboutOver below0
def p0 : Program := .bare "" "" ""
def e0 : Env := launch0.env 0 0 0
theorem w_frames : about1.frames = Frame.invoking theMethod args0 :: below0 := rfl
set_option maxRecDepth 65536 in
theorem w_args : argsFit about1.vm theMethod args0 = true := by decide +kernel
set_option maxRecDepth 65536 in
theorem w_heap : heapFits about1 = true := by decide +kernel
set_option maxRecDepth 65536 in
theorem w_runnable : about1.curStatus? = some .runnable := by decide +kernel
set_option maxRecDepth 65536 in
theorem w_alone : about1.alone = true := by decide +kernel
set_option maxRecDepth 65536 in
theorem w_named : about1.methodNamed? x = some theMethod := by decide +kernel
set_option maxRecDepth 65536 in
theorem w_hears : about1.hears theMethod below0 = true := by decide +kernel
set_option maxRecDepth 65536 in
theorem w_ripe : about1.ripe theMethod args0 below0 = true := by decide +kernel
theorem w_running : about1.status = .running := rfl
set_option maxRecDepth 65536 in
theorem w_room : about1.hasRoom e0.platform room_1 = true :=
  launch0.hasRoom_least _ room_1 (by decide +kernel) (by decide +kernel) (by decide +kernel) (by decide +kernel) (by decide +kernel) (by decide +kernel)
theorem allAtoms_all (ts : List Jvm.Cond) (a : Array Jvm.Value) (st : Jvm.State) : (allAtoms ts).before a st = ts.all (fun c => c.before a st) := by
  induction ts with
  | nil => rfl
  | cons c t ih =>
    show (Jvm.Cond.and c (allAtoms t)).before a st = _
    rw [Jvm.Cond.before_and, ih, List.all_cons]
def words1 : List Jvm.Cond := Jvm.Cond.code x code maxLocals ret :: tables_1
/-- a 'code' word, met by the world's own term for the bytes: nothing is compared byte by byte -/
theorem code_word {y : MethodName} {bytes : ByteArray} {mx : Nat} {rt : Option FieldType} {a : Array Value} {s : State} {m : MethodId} {meth : Method} {c : Code} (h1 : s.methodNamed? y = some m) (h2 : s.vm.method? m = some meth) (h3 : meth.code = some c) (h4 : c.code = bytes)
    (h5 : (c.maxLocals == mx && c.exceptionTable.isEmpty && decide (c.maxStack ≤ mostOperands) && decide (meth.sig.returnType = rt) && !meth.locks && decide (parseMethodDescriptor y.desc = some meth.sig)) = true) : (Jvm.Cond.code y bytes mx rt).before a s = true := by
  simp only [Bool.and_eq_true, beq_iff_eq, Bool.not_eq_true', decide_eq_true_eq] at h5
  obtain ⟨⟨⟨⟨⟨g1, g2⟩, g3⟩, g4⟩, g5⟩, g6⟩ := h5
  simp [Cond.before, Cond.holds, Cond.value, h1, h2, h3, h4, g1, g2, g3, g4, g5, g6]
def isCode : Jvm.Cond → Bool
  | .code _ _ _ _ => true
  | _ => false
theorem all_split {L : List Jvm.Cond} {P : Jvm.Cond → Bool} (h1 : L.all (fun c => isCode c || P c) = true) (h2 : ∀ c ∈ L.filter isCode, P c = true) : L.all P = true := by
  refine List.all_eq_true.mpr fun c hc => ?_
  have h := List.all_eq_true.mp h1 c hc
  rcases Bool.eq_false_or_eq_true (isCode c) with hi | hi
  · exact h2 c (List.mem_filter.mpr ⟨hc, hi⟩)
  · simpa [hi] using h
set_option maxRecDepth 65536 in
theorem w_c0 : (Jvm.Cond.code x code maxLocals ret).before args0 about1 = true := code_word (m := ⟨1, 1⟩) (meth := k1m1) (c := k1c1) (by decide +kernel) rfl rfl rfl (by decide +kernel)
set_option maxRecDepth 65536 in
theorem w_c1 : (Jvm.Cond.code ({ cls := "com/example/chronofield/chronofield/TimeField", name := "timeOf", desc := "(I)I" } : Jvm.MethodName) prog_8_method_5_code (4 : Nat) (Option.some Jvm.ClassFile.FieldType.int)).before args0 about1 = true := code_word (m := ⟨2, 0⟩) (meth := k2m0) (c := k2c0) (by decide +kernel) rfl rfl rfl (by decide +kernel)
def codes1 : List Jvm.Cond := [Jvm.Cond.code x code maxLocals ret, Jvm.Cond.code ({ cls := "com/example/chronofield/chronofield/TimeField", name := "timeOf", desc := "(I)I" } : Jvm.MethodName) prog_8_method_5_code (4 : Nat) (Option.some Jvm.ClassFile.FieldType.int)]
set_option maxRecDepth 65536 in
theorem codes_eq : words1.filter isCode = codes1 := rfl
theorem w_codes : ∀ c ∈ words1.filter isCode, c.before args0 about1 = true := by
  rw [codes_eq]
  intro c hc
  simp only [codes1, List.mem_cons, List.not_mem_nil, or_false] at hc
  rcases hc with rfl | rfl
  · exact w_c0
  · exact w_c1
set_option maxRecDepth 65536 in
theorem w_t1 : words1.all (fun c => isCode c || c.before args0 about1) = true := by decide +kernel
theorem w_tables : (allAtoms (Jvm.Cond.code x code maxLocals ret :: tables_1)).before args0 about1 = true := by
  rw [allAtoms_all]
  show words1.all (fun c => c.before args0 about1) = true
  refine all_split ?_ w_codes
  rw [w_t1]
set_option maxRecDepth 65536 in
theorem w_case : (Jvm.Cond.and given_1 narrow_1).before args0 about1 = true := by decide +kernel
theorem w_applies : (headSpec (Jvm.Cond.code x code maxLocals ret :: tables_1) room_1).applies x e0.platform about1 = true :=
  (Spec.applies_iff w_frames).mpr ⟨w_running, w_runnable, w_alone, w_named, w_hears, w_ripe, w_room, w_tables⟩
theorem atStart : AtStart classFile x code maxLocals ret World_1 tables_1 room_1 Calls_1 rest_1 Pre_1 launch0 p0 e0 about1 theMethod args0 below0 :=
  ⟨lists_1, trivial, launch0.admits_env _ _ _, launch0.least_env, fairChoices_fair.cas, fairChoices_fair.clock, w_frames, w_args, w_heap, w_applies, trivial, trivial, w_case⟩
end start1
theorem witness_1 : WitnessClaimed_1 := ⟨start1.p0, start1.e0, start1.about1, start1.theMethod, start1.args0, start1.below0, start1.atStart⟩
end Jvm.Pilot.@@N@@
