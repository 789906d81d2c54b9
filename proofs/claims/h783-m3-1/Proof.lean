import JvmDerived
import JvmDerived.Pilot.@@N@@Statement
import JvmDerived.Pilot.@@N@@Code
set_option linter.unusedVariables false
set_option linter.unusedSimpArgs false
@@BLOCK:NumsL.lean.txt@@
namespace Jvm.Pilot.@@N@@
open Jvm Jvm.ClassFile Sem Op Lib Jvm.Free Jvm.Stand Jvm.LawKit Jvm.RoadKit Bundle Jvm.Pilot.@@N@@.Jvm.D
def own_shl (x y : Int32) : Int32 := x <<< (y &&& 31)
def own_shr (x y : Int32) : Int32 := x >>> (y &&& 31)
def own_ushr (x y : Int32) : Int32 := (x.toUInt32 >>> (y &&& 31).toUInt32).toInt32
def own_shlL (x : Int64) (y : Int32) : Int64 := x <<< (y &&& 0x3f).toInt64
def own_shrL (x : Int64) (y : Int32) : Int64 := x >>> (y &&& 0x3f).toInt64
def own_ushrL (x : Int64) (y : Int32) : Int64 := (x.toUInt64 >>> (y &&& 0x3f).toInt64.toUInt64).toInt64
def own_remL (x y : Int64) : Int64 := x - (x / y) * y
section OwnKit
variable {p : Program} {l : Launch} {e : Env} {R : Room} {s : State} {m : MethodId} {args : Array Value} {below : List Frame} {meth : Method} {c : Code} {T : State} {locs : List Loc} {cells slots : Nat} {Z : State} {h h' : Heap} {a b : Addr}
theorem retI (X : Stand p l e R s m args below meth c T locs cells slots) (hx : p.tables.exec = Jvm.exec) {pc : Nat} {Ls : Array Slot} {z : Int32} {rest : List Value} (hret : meth.sig.returnType = some .int) (hd : decode c.code pc = .ok (.ireturn, 1)) {fs : List Frame}
    (hl : ∀ (f : JFrame) (acts : List Action), f.method = m → f.locked = none → f.entered = [] → (doReturn e (T.setTop f) acts (some (.int z))).1 = T.setFrames fs) : Steps p.tables e below (T.setTop (mkF m pc Ls (.int z :: rest))) (T.setFrames fs) :=
  retOut X hx hret rfl (Or.inl ⟨rfl, Or.inl rfl, _, rfl⟩) hd hl
theorem own_retJ (X : Stand p l e R s m args below meth c T locs cells slots) (hx : p.tables.exec = Jvm.exec) {pc : Nat} {Ls : Array Slot} {z : Int64} {rest : List Value} (hret : meth.sig.returnType = some .long) (hd : decode c.code pc = .ok (.lreturn, 1)) {fs : List Frame}
    (hl : ∀ (f : JFrame) (acts : List Action), f.method = m → f.locked = none → f.entered = [] → (doReturn e (T.setTop f) acts (some (.long z))).1 = T.setFrames fs) : Steps p.tables e below (T.setTop (mkF m pc Ls (.long z :: rest))) (T.setFrames fs) :=
  retOut X hx hret rfl (Or.inr (Or.inl ⟨rfl, rfl, _, rfl⟩)) hd hl
end OwnKit
theorem pn_0 : plainName "com/example/meterstone/meterstone/core/EventIndexSpreadPinLaw" = true := by first | (simp [plainName, overriddenIn]; done) | decide +kernel
theorem d1_0 : decode method_2_code 0 = .ok (.iload_n 0, 1) := by decide +kernel
theorem d1_1 : decode method_2_code 1 = .ok (.iload_n 0, 1) := by decide +kernel
theorem d1_2 : decode method_2_code 2 = .ok (.bipush 16, 2) := by decide +kernel
theorem d1_4 : decode method_2_code 4 = .ok (.iushr, 1) := by decide +kernel
theorem d1_5 : decode method_2_code 5 = .ok (.ixor, 1) := by decide +kernel
theorem d1_6 : decode method_2_code 6 = .ok (.istore_n 1, 1) := by decide +kernel
theorem d1_7 : decode method_2_code 7 = .ok (.iload_n 1, 1) := by decide +kernel
theorem d1_8 : decode method_2_code 8 = .ok (.ldc 7, 2) := by decide +kernel
theorem d1_10 : decode method_2_code 10 = .ok (.imul, 1) := by decide +kernel
theorem d1_11 : decode method_2_code 11 = .ok (.istore_n 1, 1) := by decide +kernel
theorem d1_12 : decode method_2_code 12 = .ok (.iload_n 1, 1) := by decide +kernel
theorem d1_13 : decode method_2_code 13 = .ok (.iload_n 1, 1) := by decide +kernel
theorem d1_14 : decode method_2_code 14 = .ok (.bipush 13, 2) := by decide +kernel
theorem d1_16 : decode method_2_code 16 = .ok (.iushr, 1) := by decide +kernel
theorem d1_17 : decode method_2_code 17 = .ok (.ixor, 1) := by decide +kernel
theorem d1_18 : decode method_2_code 18 = .ok (.iload_n 1, 1) := by decide +kernel
theorem d1_19 : decode method_2_code 19 = .ok (.bipush 26, 2) := by decide +kernel
theorem d1_21 : decode method_2_code 21 = .ok (.iushr, 1) := by decide +kernel
theorem d1_22 : decode method_2_code 22 = .ok (.ixor, 1) := by decide +kernel
theorem d1_23 : decode method_2_code 23 = .ok (.istore_n 1, 1) := by decide +kernel
theorem d1_24 : decode method_2_code 24 = .ok (.iload_n 1, 1) := by decide +kernel
theorem d1_25 : decode method_2_code 25 = .ok (.ldc 8, 2) := by decide +kernel
theorem d1_27 : decode method_2_code 27 = .ok (.imul, 1) := by decide +kernel
theorem d1_28 : decode method_2_code 28 = .ok (.istore_n 1, 1) := by decide +kernel
theorem d1_29 : decode method_2_code 29 = .ok (.iload_n 1, 1) := by decide +kernel
theorem d1_30 : decode method_2_code 30 = .ok (.iload_n 1, 1) := by decide +kernel
theorem d1_31 : decode method_2_code 31 = .ok (.bipush 16, 2) := by decide +kernel
theorem d1_33 : decode method_2_code 33 = .ok (.iushr, 1) := by decide +kernel
theorem d1_34 : decode method_2_code 34 = .ok (.ixor, 1) := by decide +kernel
theorem d1_35 : decode method_2_code 35 = .ok (.istore_n 1, 1) := by decide +kernel
theorem d1_36 : decode method_2_code 36 = .ok (.iload_n 1, 1) := by decide +kernel
theorem d1_37 : decode method_2_code 37 = .ok (.ireturn, 1) := by decide +kernel
theorem ef_1 (m : MethodId) (x0 : Int32) : entryFrame m #[(.int x0)] 2 = mkF m 0 #[.val (.int x0), .unset] [] := by first | (simp [entryFrame, mkF, argsToLocals, Value.category]; done) | rfl
abbrev R1 : Room := { frames := 0, cells := 0, slots := 0, locals := 0 }
def v1_6 (p1_0 : Int32) : Int32 := (p1_0 ^^^ (own_ushr p1_0 (16 : Int32)))
def v1_11 (p1_0 : Int32) : Int32 := ((v1_6 p1_0) * (2127672349 : Int32))
def v1_23 (p1_0 : Int32) : Int32 := (((v1_11 p1_0) ^^^ (own_ushr (v1_11 p1_0) (13 : Int32))) ^^^ (own_ushr (v1_11 p1_0) (26 : Int32)))
def v1_28 (p1_0 : Int32) : Int32 := ((v1_23 p1_0) * (-1513385405 : Int32))
def v1_35 (p1_0 : Int32) : Int32 := ((v1_28 p1_0) ^^^ (own_ushr (v1_28 p1_0) (16 : Int32)))
def r1 (p1_0 : Int32) : Int32 := (v1_35 p1_0)
def Q1 (Z : State) (p1_0 : Int32) (h0 : Heap) (n0 : Nat) (v : Option Value) (h : Heap) (L : List Loc) : Prop := v = some (.int (r1 p1_0)) ∧ Fr n0 L ∧ h = h0
set_option maxRecDepth 65536 in
set_option maxHeartbeats 40000000 in
theorem rm1 (l : Launch) (Z : State) (a0 : Array Value) (hw : ∀ d ∈ tables_1, d.before a0 Z = true) (ws : List Jvm.Cond) (p1_0 : Int32) (h0 : Heap) (n0 : Nat) (Z0 : n0 ≤ h0.size) :
    MetFree l (⟨"com/example/meterstone/meterstone/core/EventIndexSpreadPinLaw", "unspread", "(I)I"⟩ : MethodName) (head1 (Jvm.Cond.code (⟨"com/example/meterstone/meterstone/core/EventIndexSpreadPinLaw", "unspread", "(I)I"⟩ : MethodName) method_2_code 2 (some .int) :: ws) R1) (fun a U => a = #[(.int p1_0)] ∧ Z.Warmed39 U.vm ∧ U.heap = h0) (fun _ _ _ _ _ => True) (fun _ U o U' => ∃ v L, o = .returned v ∧ Q1 Z p1_0 h0 n0 v U'.heap L ∧ FrameEnd U o U' L R1.cells R1.slots) := by
  refine MetFree.of_bodySF (plainFor_of_name pn_0) hisR ?_
  intro p e s m args below meth c s₁ Bd hml0 hP hK
  obtain ⟨rfl, hZ, hh⟩ := hP
  have hx := Bd.exec
  have hby := Bd.bytes
  have hml : c.maxLocals = 2 := hml0
  have hown : s.vm.findClass "com/example/meterstone/meterstone/core/EventIndexSpreadPinLaw" = some m.cls := findClass_of_methodNamed Bd.named
  have hnm := (name_of_methodNamed Bd.named Bd.method).1
  have X0 : Stand p l e R1 s m #[(.int p1_0)] below meth c s₁ [] 0 0 := Stand.of_body Bd
  have e0 : s₁.heap = h0 := by rw [← hh, Bd.state]; rfl
  have N0 := Fr.nil n0
  have pre0 : ∀ t, Steps p.tables e below (s₁.setTop (mkF m 0 #[.val (.int p1_0), .unset] [])) t → Steps p.tables e below (s₁.setTop (entryFrame m #[(.int p1_0)] 2)) t := fun t k => castTop (ef_1 m p1_0) k
  have pre1 : ∀ t, Steps p.tables e below (s₁.setTop (mkF m 37 #[.val (.int p1_0), .val (.int (v1_35 p1_0))] [(.int (v1_35 p1_0))])) t → Steps p.tables e below (s₁.setTop (entryFrame m #[(.int p1_0)] 2)) t := fun t k => pre0 t (by
    refine XS.iloadN X0.here hx rfl (hb hby d1_0) rfl ?_
    show Steps p.tables e below (s₁.setTop (mkF m 1 #[.val (.int p1_0), .unset] [(.int p1_0)])) _
    refine XS.iloadN X0.here hx rfl (hb hby d1_1) rfl ?_
    show Steps p.tables e below (s₁.setTop (mkF m 2 #[.val (.int p1_0), .unset] [(.int p1_0), (.int p1_0)])) _
    refine XS.bipush X0.here hx rfl (hb hby d1_2) ?_
    show Steps p.tables e below (s₁.setTop (mkF m 4 #[.val (.int p1_0), .unset] [(.int (16 : Int32)), (.int p1_0), (.int p1_0)])) _
    refine XS.iushr X0.here hx rfl (hb hby d1_4) rfl ?_
    show Steps p.tables e below (s₁.setTop (mkF m 5 #[.val (.int p1_0), .unset] [(.int (own_ushr p1_0 (16 : Int32))), (.int p1_0)])) _
    refine XS.ixor X0.here hx rfl (hb hby d1_5) rfl ?_
    show Steps p.tables e below (s₁.setTop (mkF m 6 #[.val (.int p1_0), .unset] [(.int (p1_0 ^^^ (own_ushr p1_0 (16 : Int32))))])) _
    show Steps p.tables e below (s₁.setTop (mkF m 6 #[.val (.int p1_0), .unset] [(.int (v1_6 p1_0))])) _
    refine XS.istoreN X0.here hx rfl (hb hby d1_6) rfl (l' := #[.val (.int p1_0), .val (.int (v1_6 p1_0))]) rfl ?_
    show Steps p.tables e below (s₁.setTop (mkF m 7 #[.val (.int p1_0), .val (.int (v1_6 p1_0))] [])) _
    refine XS.iloadN X0.here hx rfl (hb hby d1_7) rfl ?_
    show Steps p.tables e below (s₁.setTop (mkF m 8 #[.val (.int p1_0), .val (.int (v1_6 p1_0))] [(.int (v1_6 p1_0))])) _
    refine X0.ldcInt hx hown (mvT hZ (hw _ (List.mem_of_getElem? (i := 4) rfl))) (g := (mkF m 8 #[.val (.int p1_0), .val (.int (v1_6 p1_0))] [(.int (v1_6 p1_0))])) rfl (hb hby d1_8) _ ?_
    show Steps p.tables e below (s₁.setTop (mkF m 10 #[.val (.int p1_0), .val (.int (v1_6 p1_0))] [(.int (2127672349 : Int32)), (.int (v1_6 p1_0))])) _
    refine XS.imul X0.here hx rfl (hb hby d1_10) rfl ?_
    show Steps p.tables e below (s₁.setTop (mkF m 11 #[.val (.int p1_0), .val (.int (v1_6 p1_0))] [(.int ((v1_6 p1_0) * (2127672349 : Int32)))])) _
    show Steps p.tables e below (s₁.setTop (mkF m 11 #[.val (.int p1_0), .val (.int (v1_6 p1_0))] [(.int (v1_11 p1_0))])) _
    refine XS.istoreN X0.here hx rfl (hb hby d1_11) rfl (l' := #[.val (.int p1_0), .val (.int (v1_11 p1_0))]) rfl ?_
    show Steps p.tables e below (s₁.setTop (mkF m 12 #[.val (.int p1_0), .val (.int (v1_11 p1_0))] [])) _
    refine XS.iloadN X0.here hx rfl (hb hby d1_12) rfl ?_
    show Steps p.tables e below (s₁.setTop (mkF m 13 #[.val (.int p1_0), .val (.int (v1_11 p1_0))] [(.int (v1_11 p1_0))])) _
    refine XS.iloadN X0.here hx rfl (hb hby d1_13) rfl ?_
    show Steps p.tables e below (s₁.setTop (mkF m 14 #[.val (.int p1_0), .val (.int (v1_11 p1_0))] [(.int (v1_11 p1_0)), (.int (v1_11 p1_0))])) _
    refine XS.bipush X0.here hx rfl (hb hby d1_14) ?_
    show Steps p.tables e below (s₁.setTop (mkF m 16 #[.val (.int p1_0), .val (.int (v1_11 p1_0))] [(.int (13 : Int32)), (.int (v1_11 p1_0)), (.int (v1_11 p1_0))])) _
    refine XS.iushr X0.here hx rfl (hb hby d1_16) rfl ?_
    show Steps p.tables e below (s₁.setTop (mkF m 17 #[.val (.int p1_0), .val (.int (v1_11 p1_0))] [(.int (own_ushr (v1_11 p1_0) (13 : Int32))), (.int (v1_11 p1_0))])) _
    refine XS.ixor X0.here hx rfl (hb hby d1_17) rfl ?_
    show Steps p.tables e below (s₁.setTop (mkF m 18 #[.val (.int p1_0), .val (.int (v1_11 p1_0))] [(.int ((v1_11 p1_0) ^^^ (own_ushr (v1_11 p1_0) (13 : Int32))))])) _
    refine XS.iloadN X0.here hx rfl (hb hby d1_18) rfl ?_
    show Steps p.tables e below (s₁.setTop (mkF m 19 #[.val (.int p1_0), .val (.int (v1_11 p1_0))] [(.int (v1_11 p1_0)), (.int ((v1_11 p1_0) ^^^ (own_ushr (v1_11 p1_0) (13 : Int32))))])) _
    refine XS.bipush X0.here hx rfl (hb hby d1_19) ?_
    show Steps p.tables e below (s₁.setTop (mkF m 21 #[.val (.int p1_0), .val (.int (v1_11 p1_0))] [(.int (26 : Int32)), (.int (v1_11 p1_0)), (.int ((v1_11 p1_0) ^^^ (own_ushr (v1_11 p1_0) (13 : Int32))))])) _
    refine XS.iushr X0.here hx rfl (hb hby d1_21) rfl ?_
    show Steps p.tables e below (s₁.setTop (mkF m 22 #[.val (.int p1_0), .val (.int (v1_11 p1_0))] [(.int (own_ushr (v1_11 p1_0) (26 : Int32))), (.int ((v1_11 p1_0) ^^^ (own_ushr (v1_11 p1_0) (13 : Int32))))])) _
    refine XS.ixor X0.here hx rfl (hb hby d1_22) rfl ?_
    show Steps p.tables e below (s₁.setTop (mkF m 23 #[.val (.int p1_0), .val (.int (v1_11 p1_0))] [(.int (((v1_11 p1_0) ^^^ (own_ushr (v1_11 p1_0) (13 : Int32))) ^^^ (own_ushr (v1_11 p1_0) (26 : Int32))))])) _
    show Steps p.tables e below (s₁.setTop (mkF m 23 #[.val (.int p1_0), .val (.int (v1_11 p1_0))] [(.int (v1_23 p1_0))])) _
    refine XS.istoreN X0.here hx rfl (hb hby d1_23) rfl (l' := #[.val (.int p1_0), .val (.int (v1_23 p1_0))]) rfl ?_
    show Steps p.tables e below (s₁.setTop (mkF m 24 #[.val (.int p1_0), .val (.int (v1_23 p1_0))] [])) _
    refine XS.iloadN X0.here hx rfl (hb hby d1_24) rfl ?_
    show Steps p.tables e below (s₁.setTop (mkF m 25 #[.val (.int p1_0), .val (.int (v1_23 p1_0))] [(.int (v1_23 p1_0))])) _
    refine X0.ldcInt hx hown (mvT hZ (hw _ (List.mem_of_getElem? (i := 5) rfl))) (g := (mkF m 25 #[.val (.int p1_0), .val (.int (v1_23 p1_0))] [(.int (v1_23 p1_0))])) rfl (hb hby d1_25) _ ?_
    show Steps p.tables e below (s₁.setTop (mkF m 27 #[.val (.int p1_0), .val (.int (v1_23 p1_0))] [(.int (-1513385405 : Int32)), (.int (v1_23 p1_0))])) _
    refine XS.imul X0.here hx rfl (hb hby d1_27) rfl ?_
    show Steps p.tables e below (s₁.setTop (mkF m 28 #[.val (.int p1_0), .val (.int (v1_23 p1_0))] [(.int ((v1_23 p1_0) * (-1513385405 : Int32)))])) _
    show Steps p.tables e below (s₁.setTop (mkF m 28 #[.val (.int p1_0), .val (.int (v1_23 p1_0))] [(.int (v1_28 p1_0))])) _
    refine XS.istoreN X0.here hx rfl (hb hby d1_28) rfl (l' := #[.val (.int p1_0), .val (.int (v1_28 p1_0))]) rfl ?_
    show Steps p.tables e below (s₁.setTop (mkF m 29 #[.val (.int p1_0), .val (.int (v1_28 p1_0))] [])) _
    refine XS.iloadN X0.here hx rfl (hb hby d1_29) rfl ?_
    show Steps p.tables e below (s₁.setTop (mkF m 30 #[.val (.int p1_0), .val (.int (v1_28 p1_0))] [(.int (v1_28 p1_0))])) _
    refine XS.iloadN X0.here hx rfl (hb hby d1_30) rfl ?_
    show Steps p.tables e below (s₁.setTop (mkF m 31 #[.val (.int p1_0), .val (.int (v1_28 p1_0))] [(.int (v1_28 p1_0)), (.int (v1_28 p1_0))])) _
    refine XS.bipush X0.here hx rfl (hb hby d1_31) ?_
    show Steps p.tables e below (s₁.setTop (mkF m 33 #[.val (.int p1_0), .val (.int (v1_28 p1_0))] [(.int (16 : Int32)), (.int (v1_28 p1_0)), (.int (v1_28 p1_0))])) _
    refine XS.iushr X0.here hx rfl (hb hby d1_33) rfl ?_
    show Steps p.tables e below (s₁.setTop (mkF m 34 #[.val (.int p1_0), .val (.int (v1_28 p1_0))] [(.int (own_ushr (v1_28 p1_0) (16 : Int32))), (.int (v1_28 p1_0))])) _
    refine XS.ixor X0.here hx rfl (hb hby d1_34) rfl ?_
    show Steps p.tables e below (s₁.setTop (mkF m 35 #[.val (.int p1_0), .val (.int (v1_28 p1_0))] [(.int ((v1_28 p1_0) ^^^ (own_ushr (v1_28 p1_0) (16 : Int32))))])) _
    show Steps p.tables e below (s₁.setTop (mkF m 35 #[.val (.int p1_0), .val (.int (v1_28 p1_0))] [(.int (v1_35 p1_0))])) _
    refine XS.istoreN X0.here hx rfl (hb hby d1_35) rfl (l' := #[.val (.int p1_0), .val (.int (v1_35 p1_0))]) rfl ?_
    show Steps p.tables e below (s₁.setTop (mkF m 36 #[.val (.int p1_0), .val (.int (v1_35 p1_0))] [])) _
    refine XS.iloadN X0.here hx rfl (hb hby d1_36) rfl ?_
    show Steps p.tables e below (s₁.setTop (mkF m 37 #[.val (.int p1_0), .val (.int (v1_35 p1_0))] [(.int (v1_35 p1_0))])) _
    exact k)
  obtain ⟨fs, hr, hrun, hended, hW, hsame⟩ := X0.leave (v := some (.int (v1_35 p1_0))) (fun h => by rw [Bd.returns] at h; cases h)
  refine ⟨_, _, pre1 _ ?_, hrun, hended, _, _, rfl, ?_, ⟨_, rfl⟩, hW, hsame.mono (by decide) (by decide)⟩
  · show Steps p.tables e below (s₁.setTop (mkF m 37 #[.val (.int p1_0), .val (.int (v1_35 p1_0))] [(.int (v1_35 p1_0))])) _
    exact retI X0 hx Bd.returns (hb hby d1_37) hr
  · show Q1 Z p1_0 h0 n0 _ s₁.heap _
    rw [e0]
    exact ⟨rfl, N0, rfl⟩
theorem pn_1 : plainName "com/example/meterstone/meterstone/core/EventIndex" = true := by first | (simp [plainName, overriddenIn]; done) | decide +kernel
theorem d2_0 : decode prog_26_method_19_code 0 = .ok (.iload_n 0, 1) := by decide +kernel
theorem d2_1 : decode prog_26_method_19_code 1 = .ok (.iload_n 0, 1) := by decide +kernel
theorem d2_2 : decode prog_26_method_19_code 2 = .ok (.bipush 16, 2) := by decide +kernel
theorem d2_4 : decode prog_26_method_19_code 4 = .ok (.iushr, 1) := by decide +kernel
theorem d2_5 : decode prog_26_method_19_code 5 = .ok (.ixor, 1) := by decide +kernel
theorem d2_6 : decode prog_26_method_19_code 6 = .ok (.istore_n 1, 1) := by decide +kernel
theorem d2_7 : decode prog_26_method_19_code 7 = .ok (.iload_n 1, 1) := by decide +kernel
theorem d2_8 : decode prog_26_method_19_code 8 = .ok (.ldc_w 281, 3) := by decide +kernel
theorem d2_11 : decode prog_26_method_19_code 11 = .ok (.imul, 1) := by decide +kernel
theorem d2_12 : decode prog_26_method_19_code 12 = .ok (.istore_n 1, 1) := by decide +kernel
theorem d2_13 : decode prog_26_method_19_code 13 = .ok (.iload_n 1, 1) := by decide +kernel
theorem d2_14 : decode prog_26_method_19_code 14 = .ok (.iload_n 1, 1) := by decide +kernel
theorem d2_15 : decode prog_26_method_19_code 15 = .ok (.bipush 13, 2) := by decide +kernel
theorem d2_17 : decode prog_26_method_19_code 17 = .ok (.iushr, 1) := by decide +kernel
theorem d2_18 : decode prog_26_method_19_code 18 = .ok (.ixor, 1) := by decide +kernel
theorem d2_19 : decode prog_26_method_19_code 19 = .ok (.istore_n 1, 1) := by decide +kernel
theorem d2_20 : decode prog_26_method_19_code 20 = .ok (.iload_n 1, 1) := by decide +kernel
theorem d2_21 : decode prog_26_method_19_code 21 = .ok (.ldc_w 282, 3) := by decide +kernel
theorem d2_24 : decode prog_26_method_19_code 24 = .ok (.imul, 1) := by decide +kernel
theorem d2_25 : decode prog_26_method_19_code 25 = .ok (.istore_n 1, 1) := by decide +kernel
theorem d2_26 : decode prog_26_method_19_code 26 = .ok (.iload_n 1, 1) := by decide +kernel
theorem d2_27 : decode prog_26_method_19_code 27 = .ok (.iload_n 1, 1) := by decide +kernel
theorem d2_28 : decode prog_26_method_19_code 28 = .ok (.bipush 16, 2) := by decide +kernel
theorem d2_30 : decode prog_26_method_19_code 30 = .ok (.iushr, 1) := by decide +kernel
theorem d2_31 : decode prog_26_method_19_code 31 = .ok (.ixor, 1) := by decide +kernel
theorem d2_32 : decode prog_26_method_19_code 32 = .ok (.istore_n 1, 1) := by decide +kernel
theorem d2_33 : decode prog_26_method_19_code 33 = .ok (.iload_n 1, 1) := by decide +kernel
theorem d2_34 : decode prog_26_method_19_code 34 = .ok (.ireturn, 1) := by decide +kernel
theorem ef_2 (m : MethodId) (x0 : Int32) : entryFrame m #[(.int x0)] 2 = mkF m 0 #[.val (.int x0), .unset] [] := by first | (simp [entryFrame, mkF, argsToLocals, Value.category]; done) | rfl
abbrev R2 : Room := { frames := 0, cells := 0, slots := 0, locals := 0 }
def v2_6 (p2_0 : Int32) : Int32 := (p2_0 ^^^ (own_ushr p2_0 (16 : Int32)))
def v2_12 (p2_0 : Int32) : Int32 := ((v2_6 p2_0) * (-2048144789 : Int32))
def v2_19 (p2_0 : Int32) : Int32 := ((v2_12 p2_0) ^^^ (own_ushr (v2_12 p2_0) (13 : Int32)))
def v2_25 (p2_0 : Int32) : Int32 := ((v2_19 p2_0) * (-1028477387 : Int32))
def v2_32 (p2_0 : Int32) : Int32 := ((v2_25 p2_0) ^^^ (own_ushr (v2_25 p2_0) (16 : Int32)))
def r2 (p2_0 : Int32) : Int32 := (v2_32 p2_0)
def Q2 (Z : State) (p2_0 : Int32) (h0 : Heap) (n0 : Nat) (v : Option Value) (h : Heap) (L : List Loc) : Prop := v = some (.int (r2 p2_0)) ∧ Fr n0 L ∧ h = h0
set_option maxRecDepth 65536 in
set_option maxHeartbeats 40000000 in
theorem rm2 (l : Launch) (Z : State) (a0 : Array Value) (hw : ∀ d ∈ tables_1, d.before a0 Z = true) (ws : List Jvm.Cond) (p2_0 : Int32) (h0 : Heap) (n0 : Nat) (Z0 : n0 ≤ h0.size) :
    MetFree l (⟨"com/example/meterstone/meterstone/core/EventIndex", "spread", "(I)I"⟩ : MethodName) (head1 (Jvm.Cond.code (⟨"com/example/meterstone/meterstone/core/EventIndex", "spread", "(I)I"⟩ : MethodName) prog_26_method_19_code 2 (some .int) :: ws) R2) (fun a U => a = #[(.int p2_0)] ∧ Z.Warmed39 U.vm ∧ U.heap = h0) (fun _ _ _ _ _ => True) (fun _ U o U' => ∃ v L, o = .returned v ∧ Q2 Z p2_0 h0 n0 v U'.heap L ∧ FrameEnd U o U' L R2.cells R2.slots) := by
  refine MetFree.of_bodySF (plainFor_of_name pn_1) hisR ?_
  intro p e s m args below meth c s₁ Bd hml0 hP hK
  obtain ⟨rfl, hZ, hh⟩ := hP
  have hx := Bd.exec
  have hby := Bd.bytes
  have hml : c.maxLocals = 2 := hml0
  have hown : s.vm.findClass "com/example/meterstone/meterstone/core/EventIndex" = some m.cls := findClass_of_methodNamed Bd.named
  have hnm := (name_of_methodNamed Bd.named Bd.method).1
  have X0 : Stand p l e R2 s m #[(.int p2_0)] below meth c s₁ [] 0 0 := Stand.of_body Bd
  have e0 : s₁.heap = h0 := by rw [← hh, Bd.state]; rfl
  have N0 := Fr.nil n0
  have pre0 : ∀ t, Steps p.tables e below (s₁.setTop (mkF m 0 #[.val (.int p2_0), .unset] [])) t → Steps p.tables e below (s₁.setTop (entryFrame m #[(.int p2_0)] 2)) t := fun t k => castTop (ef_2 m p2_0) k
  have pre1 : ∀ t, Steps p.tables e below (s₁.setTop (mkF m 34 #[.val (.int p2_0), .val (.int (v2_32 p2_0))] [(.int (v2_32 p2_0))])) t → Steps p.tables e below (s₁.setTop (entryFrame m #[(.int p2_0)] 2)) t := fun t k => pre0 t (by
    refine XS.iloadN X0.here hx rfl (hb hby d2_0) rfl ?_
    show Steps p.tables e below (s₁.setTop (mkF m 1 #[.val (.int p2_0), .unset] [(.int p2_0)])) _
    refine XS.iloadN X0.here hx rfl (hb hby d2_1) rfl ?_
    show Steps p.tables e below (s₁.setTop (mkF m 2 #[.val (.int p2_0), .unset] [(.int p2_0), (.int p2_0)])) _
    refine XS.bipush X0.here hx rfl (hb hby d2_2) ?_
    show Steps p.tables e below (s₁.setTop (mkF m 4 #[.val (.int p2_0), .unset] [(.int (16 : Int32)), (.int p2_0), (.int p2_0)])) _
    refine XS.iushr X0.here hx rfl (hb hby d2_4) rfl ?_
    show Steps p.tables e below (s₁.setTop (mkF m 5 #[.val (.int p2_0), .unset] [(.int (own_ushr p2_0 (16 : Int32))), (.int p2_0)])) _
    refine XS.ixor X0.here hx rfl (hb hby d2_5) rfl ?_
    show Steps p.tables e below (s₁.setTop (mkF m 6 #[.val (.int p2_0), .unset] [(.int (p2_0 ^^^ (own_ushr p2_0 (16 : Int32))))])) _
    show Steps p.tables e below (s₁.setTop (mkF m 6 #[.val (.int p2_0), .unset] [(.int (v2_6 p2_0))])) _
    refine XS.istoreN X0.here hx rfl (hb hby d2_6) rfl (l' := #[.val (.int p2_0), .val (.int (v2_6 p2_0))]) rfl ?_
    show Steps p.tables e below (s₁.setTop (mkF m 7 #[.val (.int p2_0), .val (.int (v2_6 p2_0))] [])) _
    refine XS.iloadN X0.here hx rfl (hb hby d2_7) rfl ?_
    show Steps p.tables e below (s₁.setTop (mkF m 8 #[.val (.int p2_0), .val (.int (v2_6 p2_0))] [(.int (v2_6 p2_0))])) _
    refine X0.ldcwInt hx hown (mvT hZ (hw _ (List.mem_of_getElem? (i := 10) rfl))) (g := (mkF m 8 #[.val (.int p2_0), .val (.int (v2_6 p2_0))] [(.int (v2_6 p2_0))])) rfl (hb hby d2_8) _ ?_
    show Steps p.tables e below (s₁.setTop (mkF m 11 #[.val (.int p2_0), .val (.int (v2_6 p2_0))] [(.int (-2048144789 : Int32)), (.int (v2_6 p2_0))])) _
    refine XS.imul X0.here hx rfl (hb hby d2_11) rfl ?_
    show Steps p.tables e below (s₁.setTop (mkF m 12 #[.val (.int p2_0), .val (.int (v2_6 p2_0))] [(.int ((v2_6 p2_0) * (-2048144789 : Int32)))])) _
    show Steps p.tables e below (s₁.setTop (mkF m 12 #[.val (.int p2_0), .val (.int (v2_6 p2_0))] [(.int (v2_12 p2_0))])) _
    refine XS.istoreN X0.here hx rfl (hb hby d2_12) rfl (l' := #[.val (.int p2_0), .val (.int (v2_12 p2_0))]) rfl ?_
    show Steps p.tables e below (s₁.setTop (mkF m 13 #[.val (.int p2_0), .val (.int (v2_12 p2_0))] [])) _
    refine XS.iloadN X0.here hx rfl (hb hby d2_13) rfl ?_
    show Steps p.tables e below (s₁.setTop (mkF m 14 #[.val (.int p2_0), .val (.int (v2_12 p2_0))] [(.int (v2_12 p2_0))])) _
    refine XS.iloadN X0.here hx rfl (hb hby d2_14) rfl ?_
    show Steps p.tables e below (s₁.setTop (mkF m 15 #[.val (.int p2_0), .val (.int (v2_12 p2_0))] [(.int (v2_12 p2_0)), (.int (v2_12 p2_0))])) _
    refine XS.bipush X0.here hx rfl (hb hby d2_15) ?_
    show Steps p.tables e below (s₁.setTop (mkF m 17 #[.val (.int p2_0), .val (.int (v2_12 p2_0))] [(.int (13 : Int32)), (.int (v2_12 p2_0)), (.int (v2_12 p2_0))])) _
    refine XS.iushr X0.here hx rfl (hb hby d2_17) rfl ?_
    show Steps p.tables e below (s₁.setTop (mkF m 18 #[.val (.int p2_0), .val (.int (v2_12 p2_0))] [(.int (own_ushr (v2_12 p2_0) (13 : Int32))), (.int (v2_12 p2_0))])) _
    refine XS.ixor X0.here hx rfl (hb hby d2_18) rfl ?_
    show Steps p.tables e below (s₁.setTop (mkF m 19 #[.val (.int p2_0), .val (.int (v2_12 p2_0))] [(.int ((v2_12 p2_0) ^^^ (own_ushr (v2_12 p2_0) (13 : Int32))))])) _
    show Steps p.tables e below (s₁.setTop (mkF m 19 #[.val (.int p2_0), .val (.int (v2_12 p2_0))] [(.int (v2_19 p2_0))])) _
    refine XS.istoreN X0.here hx rfl (hb hby d2_19) rfl (l' := #[.val (.int p2_0), .val (.int (v2_19 p2_0))]) rfl ?_
    show Steps p.tables e below (s₁.setTop (mkF m 20 #[.val (.int p2_0), .val (.int (v2_19 p2_0))] [])) _
    refine XS.iloadN X0.here hx rfl (hb hby d2_20) rfl ?_
    show Steps p.tables e below (s₁.setTop (mkF m 21 #[.val (.int p2_0), .val (.int (v2_19 p2_0))] [(.int (v2_19 p2_0))])) _
    refine X0.ldcwInt hx hown (mvT hZ (hw _ (List.mem_of_getElem? (i := 11) rfl))) (g := (mkF m 21 #[.val (.int p2_0), .val (.int (v2_19 p2_0))] [(.int (v2_19 p2_0))])) rfl (hb hby d2_21) _ ?_
    show Steps p.tables e below (s₁.setTop (mkF m 24 #[.val (.int p2_0), .val (.int (v2_19 p2_0))] [(.int (-1028477387 : Int32)), (.int (v2_19 p2_0))])) _
    refine XS.imul X0.here hx rfl (hb hby d2_24) rfl ?_
    show Steps p.tables e below (s₁.setTop (mkF m 25 #[.val (.int p2_0), .val (.int (v2_19 p2_0))] [(.int ((v2_19 p2_0) * (-1028477387 : Int32)))])) _
    show Steps p.tables e below (s₁.setTop (mkF m 25 #[.val (.int p2_0), .val (.int (v2_19 p2_0))] [(.int (v2_25 p2_0))])) _
    refine XS.istoreN X0.here hx rfl (hb hby d2_25) rfl (l' := #[.val (.int p2_0), .val (.int (v2_25 p2_0))]) rfl ?_
    show Steps p.tables e below (s₁.setTop (mkF m 26 #[.val (.int p2_0), .val (.int (v2_25 p2_0))] [])) _
    refine XS.iloadN X0.here hx rfl (hb hby d2_26) rfl ?_
    show Steps p.tables e below (s₁.setTop (mkF m 27 #[.val (.int p2_0), .val (.int (v2_25 p2_0))] [(.int (v2_25 p2_0))])) _
    refine XS.iloadN X0.here hx rfl (hb hby d2_27) rfl ?_
    show Steps p.tables e below (s₁.setTop (mkF m 28 #[.val (.int p2_0), .val (.int (v2_25 p2_0))] [(.int (v2_25 p2_0)), (.int (v2_25 p2_0))])) _
    refine XS.bipush X0.here hx rfl (hb hby d2_28) ?_
    show Steps p.tables e below (s₁.setTop (mkF m 30 #[.val (.int p2_0), .val (.int (v2_25 p2_0))] [(.int (16 : Int32)), (.int (v2_25 p2_0)), (.int (v2_25 p2_0))])) _
    refine XS.iushr X0.here hx rfl (hb hby d2_30) rfl ?_
    show Steps p.tables e below (s₁.setTop (mkF m 31 #[.val (.int p2_0), .val (.int (v2_25 p2_0))] [(.int (own_ushr (v2_25 p2_0) (16 : Int32))), (.int (v2_25 p2_0))])) _
    refine XS.ixor X0.here hx rfl (hb hby d2_31) rfl ?_
    show Steps p.tables e below (s₁.setTop (mkF m 32 #[.val (.int p2_0), .val (.int (v2_25 p2_0))] [(.int ((v2_25 p2_0) ^^^ (own_ushr (v2_25 p2_0) (16 : Int32))))])) _
    show Steps p.tables e below (s₁.setTop (mkF m 32 #[.val (.int p2_0), .val (.int (v2_25 p2_0))] [(.int (v2_32 p2_0))])) _
    refine XS.istoreN X0.here hx rfl (hb hby d2_32) rfl (l' := #[.val (.int p2_0), .val (.int (v2_32 p2_0))]) rfl ?_
    show Steps p.tables e below (s₁.setTop (mkF m 33 #[.val (.int p2_0), .val (.int (v2_32 p2_0))] [])) _
    refine XS.iloadN X0.here hx rfl (hb hby d2_33) rfl ?_
    show Steps p.tables e below (s₁.setTop (mkF m 34 #[.val (.int p2_0), .val (.int (v2_32 p2_0))] [(.int (v2_32 p2_0))])) _
    exact k)
  obtain ⟨fs, hr, hrun, hended, hW, hsame⟩ := X0.leave (v := some (.int (v2_32 p2_0))) (fun h => by rw [Bd.returns] at h; cases h)
  refine ⟨_, _, pre1 _ ?_, hrun, hended, _, _, rfl, ?_, ⟨_, rfl⟩, hW, hsame.mono (by decide) (by decide)⟩
  · show Steps p.tables e below (s₁.setTop (mkF m 34 #[.val (.int p2_0), .val (.int (v2_32 p2_0))] [(.int (v2_32 p2_0))])) _
    exact retI X0 hx Bd.returns (hb hby d2_34) hr
  · show Q2 Z p2_0 h0 n0 _ s₁.heap _
    rw [e0]
    exact ⟨rfl, N0, rfl⟩
theorem pd_0 : parseMethodDescriptor "(I)I" = some ⟨[.int], some .int⟩ := by decide +kernel
theorem ef_0 (m : MethodId) (x0 : Int32) : entryFrame m #[(.int x0)] maxLocals = mkF m 0 #[.val (.int x0), .unset, .unset] [] := by first | (simp [entryFrame, mkF, argsToLocals, Value.category, maxLocals]; done) | rfl
theorem own_u16 (x : Int32) : (own_ushr x 16).toBitVec = x.toBitVec >>> 16 := rfl
theorem own_u13 (x : Int32) : (own_ushr x 13).toBitVec = x.toBitVec >>> 13 := rfl
theorem own_u26 (x : Int32) : (own_ushr x 26).toBitVec = x.toBitVec >>> 26 := rfl
theorem own_b16 (x : BitVec 32) : (x ^^^ x >>> 16) ^^^ (x ^^^ x >>> 16) >>> 16 = x := by
  ext i hi
  simp only [BitVec.getElem_xor, BitVec.getElem_ushiftRight, BitVec.getLsbD_xor, BitVec.getLsbD_ushiftRight]
  rw [BitVec.getLsbD_of_ge x (16 + (16 + i)) (by omega)]
  cases x[i] <;> cases x.getLsbD (16 + i) <;> rfl
theorem own_b13 (x : BitVec 32) : ((x ^^^ x >>> 13) ^^^ (x ^^^ x >>> 13) >>> 13) ^^^ (x ^^^ x >>> 13) >>> 26 = x := by
  ext i hi
  simp only [BitVec.getElem_xor, BitVec.getElem_ushiftRight, BitVec.getLsbD_xor, BitVec.getLsbD_ushiftRight]
  rw [BitVec.getLsbD_of_ge x (13 + (26 + i)) (by omega), show 13 + (13 + i) = 26 + i by omega]
  cases x[i] <;> cases x.getLsbD (13 + i) <;> cases x.getLsbD (26 + i) <;> rfl
theorem own_b13' (x : BitVec 32) : ((x ^^^ x >>> 13) ^^^ x >>> 26) ^^^ ((x ^^^ x >>> 13) ^^^ x >>> 26) >>> 13 = x := by
  ext i hi
  simp only [BitVec.getElem_xor, BitVec.getElem_ushiftRight, BitVec.getLsbD_xor, BitVec.getLsbD_ushiftRight]
  rw [BitVec.getLsbD_of_ge x (26 + (13 + i)) (by omega), show 13 + (13 + i) = 26 + i by omega]
  cases x[i] <;> cases x.getLsbD (13 + i) <;> cases x.getLsbD (26 + i) <;> rfl
theorem own_x16 (x : Int32) : (x ^^^ own_ushr x 16) ^^^ own_ushr (x ^^^ own_ushr x 16) 16 = x := by
  apply Int32.toBitVec_inj.mp
  simp only [Int32.toBitVec_xor, own_u16]
  exact own_b16 _
theorem own_x13 (x : Int32) : ((x ^^^ own_ushr x 13) ^^^ own_ushr (x ^^^ own_ushr x 13) 13) ^^^ own_ushr (x ^^^ own_ushr x 13) 26 = x := by
  apply Int32.toBitVec_inj.mp
  simp only [Int32.toBitVec_xor, own_u13, own_u26]
  exact own_b13 _
theorem own_x13' (x : Int32) : ((x ^^^ own_ushr x 13) ^^^ own_ushr x 26) ^^^ own_ushr ((x ^^^ own_ushr x 13) ^^^ own_ushr x 26) 13 = x := by
  apply Int32.toBitVec_inj.mp
  simp only [Int32.toBitVec_xor, own_u13, own_u26]
  exact own_b13' _
theorem own_mul1 (x : Int32) : x * (-2048144789 : Int32) * (-1513385405 : Int32) = x := by
  rw [Int32.mul_assoc, show (-2048144789 : Int32) * (-1513385405 : Int32) = 1 from by decide +kernel, Int32.mul_one]
theorem own_mul1' (x : Int32) : x * (-1513385405 : Int32) * (-2048144789 : Int32) = x := by
  rw [Int32.mul_assoc, show (-1513385405 : Int32) * (-2048144789 : Int32) = 1 from by decide +kernel, Int32.mul_one]
theorem own_mul2 (x : Int32) : x * (-1028477387 : Int32) * (2127672349 : Int32) = x := by
  rw [Int32.mul_assoc, show (-1028477387 : Int32) * (2127672349 : Int32) = 1 from by decide +kernel, Int32.mul_one]
theorem own_mul2' (x : Int32) : x * (2127672349 : Int32) * (-1028477387 : Int32) = x := by
  rw [Int32.mul_assoc, show (2127672349 : Int32) * (-1028477387 : Int32) = 1 from by decide +kernel, Int32.mul_one]
theorem own_onto (h : Int32) : r2 (r1 h) = h := by
  unfold r2 v2_32 v2_25 v2_19 v2_12 v2_6 r1 v1_35
  rw [own_x16]
  unfold v1_28
  rw [own_mul1']
  unfold v1_23
  rw [own_x13']
  unfold v1_11
  rw [own_mul2']
  unfold v1_6
  exact own_x16 h
theorem own_back (h : Int32) : r1 (r2 h) = h := by
  unfold r1 v1_35 v1_28 v1_23 v1_11 v1_6 r2 v2_32
  rw [own_x16]
  unfold v2_25
  rw [own_mul2]
  unfold v2_19
  rw [own_x13]
  unfold v2_12
  rw [own_mul1]
  unfold v2_6
  exact own_x16 h
def Q0 (Z : State) (p0_0 : Int32) (h0 : Heap) (n0 : Nat) (v : Option Value) (h : Heap) (L : List Loc) : Prop := v = some (.int (1 : Int32)) ∧ Fr n0 L
set_option maxRecDepth 65536 in
set_option maxHeartbeats 40000000 in
theorem rm0 (l : Launch) (Z : State) (a0 : Array Value) (hw : ∀ d ∈ tables_1, d.before a0 Z = true) (ws : List Jvm.Cond) (p0_0 : Int32) (h0 : Heap) (n0 : Nat) (Z0 : n0 ≤ h0.size) :
    MetFree l x (head1 (Jvm.Cond.code x code maxLocals ret :: ws) room_1) (fun a U => a = #[(.int p0_0)] ∧ Z.Warmed39 U.vm ∧ U.heap = h0) (fun _ _ _ _ _ => True) (fun _ U o U' => ∃ v L, o = .returned v ∧ Q0 Z p0_0 h0 n0 v U'.heap L ∧ FrameEnd U o U' L room_1.cells room_1.slots) := by
  refine MetFree.of_bodySF (plainFor_of_name pn_0) hisR ?_
  intro p e s m args below meth c s₁ Bd hml0 hP hK
  obtain ⟨rfl, hZ, hh⟩ := hP
  have hx := Bd.exec
  have hby := Bd.bytes
  have hml : c.maxLocals = 3 := hml0
  have hown : s.vm.findClass "com/example/meterstone/meterstone/core/EventIndexSpreadPinLaw" = some m.cls := findClass_of_methodNamed Bd.named
  have hnm := (name_of_methodNamed Bd.named Bd.method).1
  have X0 : Stand p l e room_1 s m #[(.int p0_0)] below meth c s₁ [] 0 0 := Stand.of_body Bd
  have e0 : s₁.heap = h0 := by rw [← hh, Bd.state]; rfl
  have N0 := Fr.nil n0
  have pre0 : ∀ t, Steps p.tables e below (s₁.setTop (mkF m 0 #[.val (.int p0_0), .unset, .unset] [])) t → Steps p.tables e below (s₁.setTop (entryFrame m #[(.int p0_0)] maxLocals)) t := fun t k => castTop (ef_0 m p0_0) k
  have pre1 : ∀ t, Steps p.tables e below (s₁.setTop (mkF m 1 #[.val (.int p0_0), .unset, .unset] [(.int p0_0)])) t → Steps p.tables e below (s₁.setTop (entryFrame m #[(.int p0_0)] maxLocals)) t := fun t k => pre0 t (by
    refine XS.iloadN X0.here hx rfl (hb hby at_0) rfl ?_
    show Steps p.tables e below (s₁.setTop (mkF m 1 #[.val (.int p0_0), .unset, .unset] [(.int p0_0)])) _
    exact k)
  obtain ⟨_, _, ⟨T2, L2, k2, n2⟩, -, X2, ⟨Lc2, hQ2, l2, y2, z2⟩, st2⟩ := Jvm.LawKit.callS X0 hx (y := (⟨"com/example/meterstone/meterstone/core/EventIndexSpreadPinLaw", "unspread", "(I)I"⟩ : MethodName)) hown (mvT hZ (hw _ (List.mem_of_getElem? (i := 0) rfl))) (mvT hZ (hw _ (List.mem_of_getElem? (i := 1) rfl))) (mvT hZ (hw _ (List.mem_of_getElem? (i := 2) rfl))) (mvT hZ (hw _ (List.mem_of_getElem? (i := 3) rfl))) (by decide) (backOf (W := 0) (rm1 l Z a0 hw [] p0_0 h0 n0 Z0 ) hZ (hw _ (List.mem_of_getElem? (i := 3) rfl)) (hw _ (List.mem_of_getElem? (i := 2) rfl)) (by decide) (by decide)) (g := (mkF m 1 #[.val (.int p0_0), .unset, .unset] [(.int p0_0)])) rfl (by rw [hml]; rfl) (argsL := [(.int p0_0)]) (rest := []) (lenOf pd_0 rfl) rfl (by show 2 * 0 + _ ≤ _; exact Nat.le_of_eq rfl) (hb hby at_1) (fun _ _ => ⟨rfl, e0, (by decide : 0 + 0 ≤ _), (by decide : 0 + 0 ≤ _)⟩)
  dsimp only [Pt.U, Pt.locs, Pt.cells, Pt.slots] at X2 l2 y2 z2 st2 hQ2
  subst l2 y2 z2
  obtain ⟨rfl, M2, e2⟩ := hQ2
  have N2 := Fr.app N0 M2
  have pre2 : ∀ t, Steps p.tables e below (T2.setTop (mkF m 4 #[.val (.int p0_0), .unset, .unset] [(.int (r1 p0_0))])) t → Steps p.tables e below (s₁.setTop (entryFrame m #[(.int p0_0)] maxLocals)) t := fun t k => pre1 t (st2 t k)
  obtain ⟨_, _, ⟨T3, L3, k3, n3⟩, -, X3, ⟨Lc3, hQ3, l3, y3, z3⟩, st3⟩ := Jvm.LawKit.callS X2 hx (y := (⟨"com/example/meterstone/meterstone/core/EventIndex", "spread", "(I)I"⟩ : MethodName)) hown (mvT hZ (hw _ (List.mem_of_getElem? (i := 6) rfl))) (mvT hZ (hw _ (List.mem_of_getElem? (i := 7) rfl))) (mvT hZ (hw _ (List.mem_of_getElem? (i := 8) rfl))) (mvT hZ (hw _ (List.mem_of_getElem? (i := 9) rfl))) (by decide) (backOf (W := 0) (rm2 l Z a0 hw [] (r1 p0_0) h0 n0 Z0 ) hZ (hw _ (List.mem_of_getElem? (i := 9) rfl)) (hw _ (List.mem_of_getElem? (i := 8) rfl)) (by decide) (by decide)) (g := (mkF m 4 #[.val (.int p0_0), .unset, .unset] [(.int (r1 p0_0))])) rfl (by rw [hml]; rfl) (argsL := [(.int (r1 p0_0))]) (rest := []) (lenOf pd_0 rfl) rfl (by show 2 * 0 + _ ≤ _; exact Nat.le_of_eq rfl) (hb hby at_4) (fun _ _ => ⟨rfl, e2, (by decide : 0 + 0 ≤ _), (by decide : 0 + 0 ≤ _)⟩)
  dsimp only [Pt.U, Pt.locs, Pt.cells, Pt.slots] at X3 l3 y3 z3 st3 hQ3
  subst l3 y3 z3
  obtain ⟨rfl, M3, e3⟩ := hQ3
  have N3 := Fr.app N2 M3
  have pre3 : ∀ t, Steps p.tables e below (T3.setTop (mkF m 7 #[.val (.int p0_0), .unset, .unset] [(.int (r2 (r1 p0_0)))])) t → Steps p.tables e below (s₁.setTop (entryFrame m #[(.int p0_0)] maxLocals)) t := fun t k => pre2 t (st3 t k)
  have pre5 : ∀ t, Steps p.tables e below (T3.setTop (mkF m 18 #[.val (.int p0_0), .val (.int (1 : Int32)), .unset] [(.int p0_0)])) t → Steps p.tables e below (s₁.setTop (entryFrame m #[(.int p0_0)] maxLocals)) t := fun t k => pre3 t (by
    refine XS.iloadN X3.here hx rfl (hb hby at_7) rfl ?_
    show Steps p.tables e below (T3.setTop (mkF m 8 #[.val (.int p0_0), .unset, .unset] [(.int p0_0), (.int (r2 (r1 p0_0)))])) _
    refine XS.icmpNo X3.here hx rfl (hb hby at_8) rfl (teq (show (r2 (r1 p0_0)) = p0_0 from (own_onto p0_0))).2 ?_
    show Steps p.tables e below (T3.setTop (mkF m 11 #[.val (.int p0_0), .unset, .unset] [])) _
    refine XS.iconst X3.here hx rfl (hb hby at_11) ?_
    show Steps p.tables e below (T3.setTop (mkF m 12 #[.val (.int p0_0), .unset, .unset] [(.int (1 : Int32))])) _
    refine XS.goto X3.here hx rfl (pc0 := 12) (pc' := 16) rfl (hb hby at_12) (by decide) (by decide) ?_
    show Steps p.tables e below (T3.setTop (mkF m 16 #[.val (.int p0_0), .unset, .unset] [(.int (1 : Int32))])) _
    refine XS.istoreN X3.here hx rfl (hb hby at_16) rfl (l' := #[.val (.int p0_0), .val (.int (1 : Int32)), .unset]) rfl ?_
    show Steps p.tables e below (T3.setTop (mkF m 17 #[.val (.int p0_0), .val (.int (1 : Int32)), .unset] [])) _
    refine XS.iloadN X3.here hx rfl (hb hby at_17) rfl ?_
    show Steps p.tables e below (T3.setTop (mkF m 18 #[.val (.int p0_0), .val (.int (1 : Int32)), .unset] [(.int p0_0)])) _
    exact k)
  obtain ⟨_, _, ⟨T6, L6, k6, n6⟩, -, X6, ⟨Lc6, hQ6, l6, y6, z6⟩, st6⟩ := Jvm.LawKit.callS X3 hx (y := (⟨"com/example/meterstone/meterstone/core/EventIndex", "spread", "(I)I"⟩ : MethodName)) hown (mvT hZ (hw _ (List.mem_of_getElem? (i := 6) rfl))) (mvT hZ (hw _ (List.mem_of_getElem? (i := 7) rfl))) (mvT hZ (hw _ (List.mem_of_getElem? (i := 8) rfl))) (mvT hZ (hw _ (List.mem_of_getElem? (i := 9) rfl))) (by decide) (backOf (W := 0) (rm2 l Z a0 hw [] p0_0 h0 n0 Z0 ) hZ (hw _ (List.mem_of_getElem? (i := 9) rfl)) (hw _ (List.mem_of_getElem? (i := 8) rfl)) (by decide) (by decide)) (g := (mkF m 18 #[.val (.int p0_0), .val (.int (1 : Int32)), .unset] [(.int p0_0)])) rfl (by rw [hml]; rfl) (argsL := [(.int p0_0)]) (rest := []) (lenOf pd_0 rfl) rfl (by show 2 * 0 + _ ≤ _; exact Nat.le_of_eq rfl) (hb hby at_18) (fun _ _ => ⟨rfl, e3, (by decide : 0 + 0 ≤ _), (by decide : 0 + 0 ≤ _)⟩)
  dsimp only [Pt.U, Pt.locs, Pt.cells, Pt.slots] at X6 l6 y6 z6 st6 hQ6
  subst l6 y6 z6
  obtain ⟨rfl, M6, e6⟩ := hQ6
  have N6 := Fr.app N3 M6
  have pre6 : ∀ t, Steps p.tables e below (T6.setTop (mkF m 21 #[.val (.int p0_0), .val (.int (1 : Int32)), .unset] [(.int (r2 p0_0))])) t → Steps p.tables e below (s₁.setTop (entryFrame m #[(.int p0_0)] maxLocals)) t := fun t k => pre5 t (st6 t k)
  obtain ⟨_, _, ⟨T7, L7, k7, n7⟩, -, X7, ⟨Lc7, hQ7, l7, y7, z7⟩, st7⟩ := Jvm.LawKit.callS X6 hx (y := (⟨"com/example/meterstone/meterstone/core/EventIndexSpreadPinLaw", "unspread", "(I)I"⟩ : MethodName)) hown (mvT hZ (hw _ (List.mem_of_getElem? (i := 0) rfl))) (mvT hZ (hw _ (List.mem_of_getElem? (i := 1) rfl))) (mvT hZ (hw _ (List.mem_of_getElem? (i := 2) rfl))) (mvT hZ (hw _ (List.mem_of_getElem? (i := 3) rfl))) (by decide) (backOf (W := 0) (rm1 l Z a0 hw [] (r2 p0_0) h0 n0 Z0 ) hZ (hw _ (List.mem_of_getElem? (i := 3) rfl)) (hw _ (List.mem_of_getElem? (i := 2) rfl)) (by decide) (by decide)) (g := (mkF m 21 #[.val (.int p0_0), .val (.int (1 : Int32)), .unset] [(.int (r2 p0_0))])) rfl (by rw [hml]; rfl) (argsL := [(.int (r2 p0_0))]) (rest := []) (lenOf pd_0 rfl) rfl (by show 2 * 0 + _ ≤ _; exact Nat.le_of_eq rfl) (hb hby at_21) (fun _ _ => ⟨rfl, e6, (by decide : 0 + 0 ≤ _), (by decide : 0 + 0 ≤ _)⟩)
  dsimp only [Pt.U, Pt.locs, Pt.cells, Pt.slots] at X7 l7 y7 z7 st7 hQ7
  subst l7 y7 z7
  obtain ⟨rfl, M7, e7⟩ := hQ7
  have N7 := Fr.app N6 M7
  have pre7 : ∀ t, Steps p.tables e below (T7.setTop (mkF m 24 #[.val (.int p0_0), .val (.int (1 : Int32)), .unset] [(.int (r1 (r2 p0_0)))])) t → Steps p.tables e below (s₁.setTop (entryFrame m #[(.int p0_0)] maxLocals)) t := fun t k => pre6 t (st7 t k)
  have pre9 : ∀ t, Steps p.tables e below (T7.setTop (mkF m 47 #[.val (.int p0_0), .val (.int (1 : Int32)), .val (.int (1 : Int32))] [(.int (1 : Int32))])) t → Steps p.tables e below (s₁.setTop (entryFrame m #[(.int p0_0)] maxLocals)) t := fun t k => pre7 t (by
    refine XS.iloadN X7.here hx rfl (hb hby at_24) rfl ?_
    show Steps p.tables e below (T7.setTop (mkF m 25 #[.val (.int p0_0), .val (.int (1 : Int32)), .unset] [(.int p0_0), (.int (r1 (r2 p0_0)))])) _
    refine XS.icmpNo X7.here hx rfl (hb hby at_25) rfl (teq (show (r1 (r2 p0_0)) = p0_0 from (own_back p0_0))).2 ?_
    show Steps p.tables e below (T7.setTop (mkF m 28 #[.val (.int p0_0), .val (.int (1 : Int32)), .unset] [])) _
    refine XS.iconst X7.here hx rfl (hb hby at_28) ?_
    show Steps p.tables e below (T7.setTop (mkF m 29 #[.val (.int p0_0), .val (.int (1 : Int32)), .unset] [(.int (1 : Int32))])) _
    refine XS.goto X7.here hx rfl (pc0 := 29) (pc' := 33) rfl (hb hby at_29) (by decide) (by decide) ?_
    show Steps p.tables e below (T7.setTop (mkF m 33 #[.val (.int p0_0), .val (.int (1 : Int32)), .unset] [(.int (1 : Int32))])) _
    refine XS.istoreN X7.here hx rfl (hb hby at_33) rfl (l' := #[.val (.int p0_0), .val (.int (1 : Int32)), .val (.int (1 : Int32))]) rfl ?_
    show Steps p.tables e below (T7.setTop (mkF m 34 #[.val (.int p0_0), .val (.int (1 : Int32)), .val (.int (1 : Int32))] [])) _
    refine XS.iloadN X7.here hx rfl (hb hby at_34) rfl ?_
    show Steps p.tables e below (T7.setTop (mkF m 35 #[.val (.int p0_0), .val (.int (1 : Int32)), .val (.int (1 : Int32))] [(.int (1 : Int32))])) _
    refine XS.ifNo X7.here hx rfl (hb hby at_35) rfl ((if0 _ _).trans (feq (by decide : ¬ ((1 : Int32) = (0 : Int32)))).1) ?_
    show Steps p.tables e below (T7.setTop (mkF m 38 #[.val (.int p0_0), .val (.int (1 : Int32)), .val (.int (1 : Int32))] [])) _
    refine XS.iloadN X7.here hx rfl (hb hby at_38) rfl ?_
    show Steps p.tables e below (T7.setTop (mkF m 39 #[.val (.int p0_0), .val (.int (1 : Int32)), .val (.int (1 : Int32))] [(.int (1 : Int32))])) _
    refine XS.ifNo X7.here hx rfl (hb hby at_39) rfl ((if0 _ _).trans (feq (by decide : ¬ ((1 : Int32) = (0 : Int32)))).1) ?_
    show Steps p.tables e below (T7.setTop (mkF m 42 #[.val (.int p0_0), .val (.int (1 : Int32)), .val (.int (1 : Int32))] [])) _
    refine XS.iconst X7.here hx rfl (hb hby at_42) ?_
    show Steps p.tables e below (T7.setTop (mkF m 43 #[.val (.int p0_0), .val (.int (1 : Int32)), .val (.int (1 : Int32))] [(.int (1 : Int32))])) _
    refine XS.goto X7.here hx rfl (pc0 := 43) (pc' := 47) rfl (hb hby at_43) (by decide) (by decide) ?_
    show Steps p.tables e below (T7.setTop (mkF m 47 #[.val (.int p0_0), .val (.int (1 : Int32)), .val (.int (1 : Int32))] [(.int (1 : Int32))])) _
    exact k)
  obtain ⟨fs, hr, hrun, hended, hW, hsame⟩ := X7.leave (v := some (.int (1 : Int32))) (fun h => by rw [Bd.returns] at h; cases h)
  refine ⟨_, _, pre9 _ ?_, hrun, hended, _, _, rfl, ?_, ⟨_, rfl⟩, hW, hsame.mono (by decide) (by decide)⟩
  · show Steps p.tables e below (T7.setTop (mkF m 47 #[.val (.int p0_0), .val (.int (1 : Int32)), .val (.int (1 : Int32))] [(.int (1 : Int32))])) _
    exact retN X7 hx (t := .boolean) Bd.returns (by simp) (hb hby at_47) hr
  · show Q0 Z p0_0 h0 n0 _ T7.heap _
    rw [e7]
    exact ⟨rfl, N7⟩
set_option maxRecDepth 65536 in
set_option maxHeartbeats 40000000 in
theorem comes_1 {Post : Tables → Env → Array Value → State → Outcome → State → Prop} (hpost : ∀ tb e args s v u, (limb_1_1.after args s (.returned v) u = true ∧ limb_1_2.after args s (.returned v) u = true ∧ True) → FrameEnd s (.returned v) u (Jvm.fieldLocs frame_1_writes args s ++ Jvm.arrayLocs frame_1_arrays args s ++ Jvm.staticLocs frame_1_statics s) 0 0 → Post tb e args s (.returned v) u) :
    ArmFor flags0 classFile x code maxLocals ret World_1 tables_1 room_1 Calls_1 rest_1 Pre_1 Post := by
  intro l hfl _ _ p e ha hc hk s m args below hf hA hF happ hP
  obtain ⟨hcalls, hrest, hpre⟩ := hP
  obtain ⟨-, -, -, hnamed, -, -, -, hat⟩ := (Spec.applies_iff hf).mp happ
  obtain ⟨hg, hn⟩ := and_e (Cond.before_iff.mp (show (Jvm.Cond.and given_1 narrow_1).before args s = true from hpre))
  obtain ⟨gc, g0⟩ := and_e hg
  obtain ⟨w0, rfl⟩ : ∃ w0 : Value, args = #[w0] := by
    have hs : args.size = 1 := by simpa [Cond.value, given_1] using gc
    obtain ⟨L⟩ := args
    match L, hs with
    | [w0], _ => exact ⟨w0, rfl⟩
  have hw := fun d (hd : d ∈ tables_1) => atoms_spec (ws := Jvm.Cond.code x code maxLocals ret :: tables_1) hat d (List.mem_cons_of_mem _ hd)
  obtain ⟨i0, ei0⟩ := is_v g0
  obtain rfl : w0 = (.int i0) := Option.some.inj ei0
  obtain ⟨n, o, h1, h2, h3, _, L, rfl, ⟨rfl, N⟩, hq⟩ := rm0 l s _ hw tables_1 i0  s.heap s.heap.size (Nat.le_refl _)  p e ha hc hk s m _ below hf ((Spec.applies_iff_loose hf).mp happ).1 ⟨rfl, State.Warmed39.refl s, rfl⟩ trivial
  refine ⟨n, _, h1, h2, h3, hpost _ _ _ _ _ _ ⟨Cond.after_iff.mpr rfl, Cond.after_iff.mpr (eq_i res_at (Term.int_eval (1)) rfl), trivial⟩ ⟨hq.1, hq.2.1, (hq.2.2.sift fun y hy => Or.inr (N y hy)).mono (by decide) (by decide)⟩⟩
theorem main_1_1 : Claimed_1_1 := comes_1 fun _ _ _ _ _ _ h hF => ⟨h.1, hF⟩
theorem main_1_2 : Claimed_1_2 := comes_1 fun _ _ _ _ _ _ h hF => ⟨h.2.1, hF⟩
end Jvm.Pilot.@@N@@
namespace Jvm.Pilot.@@N@@
open Jvm Jvm.ClassFile Sem Op Lib Jvm.Free Jvm.Stand Jvm.Pilot.@@N@@.Jvm.D
/-! MADE BY PROGRAM (witnessworld.py) out of the Statement's table words and the real class files: 7 classes; the members and pool entries that the words name. The judged class is class 1, her method 2. -/
namespace start1
open Jvm.ClassFile
def u (s : String) : CpInfo := .utf8 (stringToUtf16 s)
/-- a pool by its gaps: so many unusable entries, then the entry; so many at the end -/
def gap : Nat → List CpInfo → List CpInfo
  | 0, r => r
  | n + 1, r => .unusable :: gap n r
def poolList (es : List (Nat × CpInfo)) (last : Nat) : List CpInfo := es.foldr (fun e r => gap e.1 (e.2 :: r)) (gap last [])
def pool (es : List (Nat × CpInfo)) (last : Nat) : Array CpInfo := ⟨poolList es last⟩
def fileOf (pool : Array CpInfo) (this : Nat) (attrs : Array Attribute := #[]) (ms : Array MethodInfo := #[]) (fl : Nat := 33) (sup : Nat := 0) (ifs : Array Nat := #[]) (fds : Array FieldInfo := #[]) : ClassFile where
  minorVersion := 0
  majorVersion := 65
  constantPool := pool
  accessFlags := fl
  thisClass := this
  superClass := sup
  interfaces := ifs
  fields := fds
  methods := ms
  attributes := attrs
def plain (name : String) (sup : Option ClassId) : Class where
  name := name
  kind := .ordinary
  loader := none
  accessFlags := 33
  super := sup
  interfaces := #[]
  cf := none
  fields := #[]
  methods := #[]
  instanceTypes := #[]
  staticTypes := #[]
  resolved := #[]
  callSites := []
  init := .initialized
  statics := none
  mirror := none

def pool0 : Array CpInfo := pool [(5, u "<init>"), (0, u "()V"), (1, .class_ 10), (1, u "java/lang/Object")] 113

def k0m0 : Method := { name := "<init>", desc := "()V", sig := { parameters := [], returnType := none }, accessFlags := 1, code := none }
/-- java/lang/Object -/
def k0 : Class := { plain "java/lang/Object" none with
  accessFlags := 33
  interfaces := #[]
  cf := some (fileOf pool0 8 #[] #[{ accessFlags := 1, nameIndex := 5, descriptorIndex := 6, attributes := #[] }] 33 0 #[] #[])
  fields := #[]
  methods := #[k0m0]
  instanceTypes := #[]
  staticTypes := #[]
  resolved := Array.replicate 124 none
  statics := none }

def pool1 : Array CpInfo := pool [(2, .class_ 4), (1, u "java/lang/Object"), (0, u "<init>"), (0, u "()V"), (0, .integer 2127672349), (0, .integer 2781581891), (0, .methodref 10 11), (0, .class_ 12), (0, .nameAndType 13 14), (0, u "com/example/meterstone/meterstone/core/EventIndexSpreadPinLaw"), (0, u "unspread"), (0, u "(I)I"), (0, .methodref 16 17), (0, .class_ 18), (0, .nameAndType 19 14), (0, u "com/example/meterstone/meterstone/core/EventIndex"), (0, u "spread"), (2, u "law"), (0, u "(I)Z")] 3

def k1m0 : Method := { name := "<init>", desc := "()V", sig := { parameters := [], returnType := none }, accessFlags := 2, code := none }
def k1c1 : Code := { maxStack := 3, maxLocals := 2, code := method_2_code, exceptionTable := #[], attributes := #[] }
def k1m1 : Method := { name := "unspread", desc := "(I)I", sig := { parameters := [.int], returnType := some .int }, accessFlags := 10, code := some k1c1 }
def k1c2 : Code := { maxStack := 2, maxLocals := 3, code := code, exceptionTable := #[], attributes := #[] }
def k1m2 : Method := { name := "law", desc := "(I)Z", sig := { parameters := [.int], returnType := some .boolean }, accessFlags := 9, code := some k1c2 }
/-- com/example/meterstone/meterstone/core/EventIndexSpreadPinLaw -/
def k1 : Class := { plain "com/example/meterstone/meterstone/core/EventIndexSpreadPinLaw" (some 0) with
  accessFlags := 49
  interfaces := #[]
  cf := some (fileOf pool1 10 #[] #[{ accessFlags := 2, nameIndex := 5, descriptorIndex := 6, attributes := #[] }, { accessFlags := 10, nameIndex := 13, descriptorIndex := 14, attributes := #[] }, { accessFlags := 9, nameIndex := 22, descriptorIndex := 23, attributes := #[] }] 49 2 #[] #[])
  fields := #[]
  methods := #[k1m0, k1m1, k1m2]
  instanceTypes := #[]
  staticTypes := #[]
  resolved := Array.replicate 27 none
  statics := none }

def pool2 : Array CpInfo := pool [(18, .class_ 20), (1, u "com/example/meterstone/meterstone/core/EventIndex"), (4, u "NONE"), (0, u "Lcom/example/meterstone/meterstone/core/EventIndex$Earlier;"), (4, .class_ 33), (1, u "java/lang/Object"), (6, u "spilled"), (0, u "Ljava/util/Map;"), (0, .class_ 43), (0, u "com/example/meterstone/meterstone/core/EventIndex$Table"), (5, u "table"), (0, u "Lcom/example/meterstone/meterstone/core/EventIndex$Table;"), (4, u "sources"), (0, u "[Ljava/lang/String;"), (2, u "runs"), (0, u "[I"), (2, u "lines"), (2, u "held"), (0, u "Lcom/example/meterstone/meterstone/core/EventIndex$Held;"), (2, u "hash"), (0, u "Ljava/util/function/ToLongFunction;"), (2, u "earlier"), (1, .class_ 78), (1, u "com/example/meterstone/meterstone/core/EventIndex$Earlier"), (4, u "first"), (0, u "I"), (13, u "(I)I"), (8, .class_ 108), (0, u "com/example/meterstone/meterstone/core/EventIndex$Adding"), (12, .class_ 123), (1, u "com/example/meterstone/meterstone/core/EventIndex$Held"), (31, u "NO_NUMBERS"), (22, u "runCount"), (37, .class_ 217), (0, u "com/example/meterstone/meterstone/core/EventIndex$2"), (13, u "own"), (49, .integer 2246822507), (0, .integer 3266489909), (4, .class_ 288), (0, u "com/example/meterstone/meterstone/core/EventIndex$1"), (1, u "FIRST_SLOTS"), (2, u "PROBES"), (24, u "spread"), (6, .class_ 326), (0, u "com/example/meterstone/meterstone/core/EventIndex$Slots")] 44

def k2c0 : Code := { maxStack := 3, maxLocals := 2, code := prog_26_method_19_code, exceptionTable := #[], attributes := #[] }
def k2m0 : Method := { name := "spread", desc := "(I)I", sig := { parameters := [.int], returnType := some .int }, accessFlags := 8, code := some k2c0 }
/-- com/example/meterstone/meterstone/core/EventIndex -/
def k2 : Class := { plain "com/example/meterstone/meterstone/core/EventIndex" (some 0) with
  accessFlags := 48
  interfaces := #[]
  cf := some (fileOf pool2 18 #[.nestMembers #[107, 42, 325, 76, 121, 216, 287]] #[{ accessFlags := 8, nameIndex := 318, descriptorIndex := 98, attributes := #[] }] 48 31 #[] #[{ accessFlags := 24, nameIndex := 290, descriptorIndex := 84, attributes := #[] }, { accessFlags := 24, nameIndex := 293, descriptorIndex := 84, attributes := #[] }, { accessFlags := 24, nameIndex := 155, descriptorIndex := 60, attributes := #[] }, { accessFlags := 24, nameIndex := 25, descriptorIndex := 26, attributes := #[] }, { accessFlags := 18, nameIndex := 66, descriptorIndex := 67, attributes := #[] }, { accessFlags := 18, nameIndex := 70, descriptorIndex := 71, attributes := #[] }, { accessFlags := 2, nameIndex := 74, descriptorIndex := 26, attributes := #[] }, { accessFlags := 18, nameIndex := 83, descriptorIndex := 84, attributes := #[] }, { accessFlags := 2, nameIndex := 40, descriptorIndex := 41, attributes := #[] }, { accessFlags := 2, nameIndex := 49, descriptorIndex := 50, attributes := #[] }, { accessFlags := 2, nameIndex := 55, descriptorIndex := 56, attributes := #[] }, { accessFlags := 2, nameIndex := 59, descriptorIndex := 60, attributes := #[] }, { accessFlags := 2, nameIndex := 178, descriptorIndex := 84, attributes := #[] }, { accessFlags := 2, nameIndex := 63, descriptorIndex := 60, attributes := #[] }, { accessFlags := 2, nameIndex := 231, descriptorIndex := 84, attributes := #[] }])
  fields := #[{ name := "FIRST_SLOTS", type := .int, accessFlags := 24, slot := 0, constantValue := 0 }, { name := "PROBES", type := .int, accessFlags := 24, slot := 1, constantValue := 0 }, { name := "NO_NUMBERS", type := (.array .int), accessFlags := 24, slot := 2, constantValue := 0 }, { name := "NONE", type := (.object "com/example/meterstone/meterstone/core/EventIndex$Earlier"), accessFlags := 24, slot := 3, constantValue := 0 }, { name := "held", type := (.object "com/example/meterstone/meterstone/core/EventIndex$Held"), accessFlags := 18, slot := 0, constantValue := 0 }, { name := "hash", type := (.object "java/util/function/ToLongFunction"), accessFlags := 18, slot := 1, constantValue := 0 }, { name := "earlier", type := (.object "com/example/meterstone/meterstone/core/EventIndex$Earlier"), accessFlags := 2, slot := 2, constantValue := 0 }, { name := "first", type := .int, accessFlags := 18, slot := 3, constantValue := 0 }, { name := "spilled", type := (.object "java/util/Map"), accessFlags := 2, slot := 4, constantValue := 0 }, { name := "table", type := (.object "com/example/meterstone/meterstone/core/EventIndex$Table"), accessFlags := 2, slot := 5, constantValue := 0 }, { name := "sources", type := (.array (.object "java/lang/String")), accessFlags := 2, slot := 6, constantValue := 0 }, { name := "runs", type := (.array .int), accessFlags := 2, slot := 7, constantValue := 0 }, { name := "runCount", type := .int, accessFlags := 2, slot := 8, constantValue := 0 }, { name := "lines", type := (.array .int), accessFlags := 2, slot := 9, constantValue := 0 }, { name := "own", type := .int, accessFlags := 2, slot := 10, constantValue := 0 }]
  methods := #[k2m0]
  instanceTypes := #[(.object "com/example/meterstone/meterstone/core/EventIndex$Held"), (.object "java/util/function/ToLongFunction"), (.object "com/example/meterstone/meterstone/core/EventIndex$Earlier"), .int, (.object "java/util/Map"), (.object "com/example/meterstone/meterstone/core/EventIndex$Table"), (.array (.object "java/lang/String")), (.array .int), .int, (.array .int), .int]
  staticTypes := #[.int, .int, (.array .int), (.object "com/example/meterstone/meterstone/core/EventIndex$Earlier")]
  resolved := Array.replicate 371 none
  statics := none }

def pool3 : Array CpInfo := pool [(1, u "java/lang/Cloneable"), (0, .class_ 1), (0, u "java/lang/Object"), (0, .class_ 3)] 3

/-- java/lang/Cloneable -/
def k3 : Class := { plain "java/lang/Cloneable" (some 0) with
  accessFlags := 1537
  interfaces := #[]
  cf := some (fileOf pool3 2 #[] #[] 1537 4 #[] #[])
  fields := #[]
  methods := #[]
  instanceTypes := #[]
  staticTypes := #[]
  resolved := Array.replicate 8 none
  statics := none }

def pool4 : Array CpInfo := pool [(1, u "java/io/Serializable"), (0, .class_ 1), (0, u "java/lang/Object"), (0, .class_ 3)] 3

/-- java/io/Serializable -/
def k4 : Class := { plain "java/io/Serializable" (some 0) with
  accessFlags := 1537
  interfaces := #[]
  cf := some (fileOf pool4 2 #[] #[] 1537 4 #[] #[])
  fields := #[]
  methods := #[]
  instanceTypes := #[]
  staticTypes := #[]
  resolved := Array.replicate 8 none
  statics := none }

/-- the primitive byte -/
def k5 : Class := { plain "byte" none with kind := .primitive 'B', accessFlags := 0x411 }
/-- [B -/
def k6 : Class := { plain "[B" (some 0) with kind := .array 5 .byte, interfaces := #[3, 4], accessFlags := 1041 }

def heap : Heap := #[]
def classes : Array Class := #[k0, k1, k2, k3, k4, k5, k6]
def interned : List (Array UInt16 × Addr) := []
def slotsUsed : Nat := 0
def theMethod : MethodId := ⟨1, 2⟩
def args0 : Array Value := #[.int 5]
def aboutOver (below : List Frame) : State where
  vm := { classes := classes, interned := interned.toArray }
  heap := heap
  slotsUsed := slotsUsed
  threads := #[{ frames := .invoking theMethod args0 :: below }]
def below0 : List Frame := [.native { method := ⟨0, 0⟩, args := #[] }]
def about1 : State := aboutOver below0
def p0 : Program := .bare "" "" ""
def e0 : Env := launch0.env 0 0 0
theorem w_frames : about1.frames = Frame.invoking theMethod args0 :: below0 := rfl
set_option maxRecDepth 65536 in
theorem w_args : argsFit about1.vm theMethod args0 = true := by decide +kernel
set_option maxRecDepth 65536 in
theorem w_heap : heapFits about1 = true := by decide +kernel
set_option maxRecDepth 65536 in
theorem w_runnable : about1.curStatus? = some .runnable := by decide +kernel
set_option maxRecDepth 65536 in
theorem w_alone : about1.alone = true := by decide +kernel
set_option maxRecDepth 65536 in
theorem w_named : about1.methodNamed? x = some theMethod := by decide +kernel
set_option maxRecDepth 65536 in
theorem w_hears : about1.hears theMethod below0 = true := by decide +kernel
set_option maxRecDepth 65536 in
theorem w_ripe : about1.ripe theMethod args0 below0 = true := by decide +kernel
theorem w_running : about1.status = .running := rfl
set_option maxRecDepth 65536 in
theorem w_room : about1.hasRoom e0.platform room_1 = true :=
  launch0.hasRoom_least _ room_1 (by decide +kernel) (by decide +kernel) (by decide +kernel) (by decide +kernel) (by decide +kernel) (by decide +kernel)
theorem allAtoms_all (ts : List Jvm.Cond) (a : Array Jvm.Value) (st : Jvm.State) : (allAtoms ts).before a st = ts.all (fun c => c.before a st) := by
  induction ts with
  | nil => rfl
  | cons c t ih =>
    show (Jvm.Cond.and c (allAtoms t)).before a st = _
    rw [Jvm.Cond.before_and, ih, List.all_cons]
def words1 : List Jvm.Cond := Jvm.Cond.code x code maxLocals ret :: tables_1
/-- a 'code' word, met by the world's own term for the bytes: nothing is compared byte by byte -/
theorem code_word {y : MethodName} {bytes : ByteArray} {mx : Nat} {rt : Option FieldType} {a : Array Value} {s : State} {m : MethodId} {meth : Method} {c : Code} (h1 : s.methodNamed? y = some m) (h2 : s.vm.method? m = some meth) (h3 : meth.code = some c) (h4 : c.code = bytes)
    (h5 : (c.maxLocals == mx && c.exceptionTable.isEmpty && decide (c.maxStack ≤ mostOperands) && decide (meth.sig.returnType = rt) && !meth.locks && decide (parseMethodDescriptor y.desc = some meth.sig)) = true) : (Jvm.Cond.code y bytes mx rt).before a s = true := by
  simp only [Bool.and_eq_true, beq_iff_eq, Bool.not_eq_true', decide_eq_true_eq] at h5
  obtain ⟨⟨⟨⟨⟨g1, g2⟩, g3⟩, g4⟩, g5⟩, g6⟩ := h5
  simp [Cond.before, Cond.holds, Cond.value, h1, h2, h3, h4, g1, g2, g3, g4, g5, g6]
def isCode : Jvm.Cond → Bool
  | .code _ _ _ _ => true
  | _ => false
theorem all_split {L : List Jvm.Cond} {P : Jvm.Cond → Bool} (h1 : L.all (fun c => isCode c || P c) = true) (h2 : ∀ c ∈ L.filter isCode, P c = true) : L.all P = true := by
  refine List.all_eq_true.mpr fun c hc => ?_
  have h := List.all_eq_true.mp h1 c hc
  rcases Bool.eq_false_or_eq_true (isCode c) with hi | hi
  · exact h2 c (List.mem_filter.mpr ⟨hc, hi⟩)
  · simpa [hi] using h
set_option maxRecDepth 65536 in
theorem w_c0 : (Jvm.Cond.code x code maxLocals ret).before args0 about1 = true := code_word (m := ⟨1, 2⟩) (meth := k1m2) (c := k1c2) (by decide +kernel) rfl rfl rfl (by decide +kernel)
set_option maxRecDepth 65536 in
theorem w_c1 : (Jvm.Cond.code ({ cls := "com/example/meterstone/meterstone/core/EventIndexSpreadPinLaw", name := "unspread", desc := "(I)I" } : Jvm.MethodName) method_2_code (2 : Nat) (Option.some Jvm.ClassFile.FieldType.int)).before args0 about1 = true := code_word (m := ⟨1, 1⟩) (meth := k1m1) (c := k1c1) (by decide +kernel) rfl rfl rfl (by decide +kernel)
set_option maxRecDepth 65536 in
theorem w_c2 : (Jvm.Cond.code ({ cls := "com/example/meterstone/meterstone/core/EventIndex", name := "spread", desc := "(I)I" } : Jvm.MethodName) prog_26_method_19_code (2 : Nat) (Option.some Jvm.ClassFile.FieldType.int)).before args0 about1 = true := code_word (m := ⟨2, 0⟩) (meth := k2m0) (c := k2c0) (by decide +kernel) rfl rfl rfl (by decide +kernel)
def codes1 : List Jvm.Cond := [Jvm.Cond.code x code maxLocals ret, Jvm.Cond.code ({ cls := "com/example/meterstone/meterstone/core/EventIndexSpreadPinLaw", name := "unspread", desc := "(I)I" } : Jvm.MethodName) method_2_code (2 : Nat) (Option.some Jvm.ClassFile.FieldType.int), Jvm.Cond.code ({ cls := "com/example/meterstone/meterstone/core/EventIndex", name := "spread", desc := "(I)I" } : Jvm.MethodName) prog_26_method_19_code (2 : Nat) (Option.some Jvm.ClassFile.FieldType.int)]
set_option maxRecDepth 65536 in
theorem codes_eq : words1.filter isCode = codes1 := rfl
theorem w_codes : ∀ c ∈ words1.filter isCode, c.before args0 about1 = true := by
  rw [codes_eq]
  intro c hc
  simp only [codes1, List.mem_cons, List.not_mem_nil, or_false] at hc
  rcases hc with rfl | rfl | rfl
  · exact w_c0
  · exact w_c1
  · exact w_c2
set_option maxRecDepth 65536 in
theorem w_t1 : words1.all (fun c => isCode c || c.before args0 about1) = true := by decide +kernel
theorem w_tables : (allAtoms (Jvm.Cond.code x code maxLocals ret :: tables_1)).before args0 about1 = true := by
  rw [allAtoms_all]
  show words1.all (fun c => c.before args0 about1) = true
  refine all_split ?_ w_codes
  rw [w_t1]
set_option maxRecDepth 65536 in
theorem w_case : (Jvm.Cond.and given_1 narrow_1).before args0 about1 = true := by decide +kernel
theorem w_applies : (headSpec (Jvm.Cond.code x code maxLocals ret :: tables_1) room_1).applies x e0.platform about1 = true :=
  (Spec.applies_iff w_frames).mpr ⟨w_running, w_runnable, w_alone, w_named, w_hears, w_ripe, w_room, w_tables⟩
theorem atStart : AtStart classFile x code maxLocals ret World_1 tables_1 room_1 Calls_1 rest_1 Pre_1 launch0 p0 e0 about1 theMethod args0 below0 :=
  ⟨lists_1, trivial, launch0.admits_env _ _ _, launch0.least_env, fairChoices_fair.cas, fairChoices_fair.clock, w_frames, w_args, w_heap, w_applies, trivial, trivial, w_case⟩
end start1
theorem witness_1 : WitnessClaimed_1 := ⟨start1.p0, start1.e0, start1.about1, start1.theMethod, start1.args0, start1.below0, start1.atStart⟩
end Jvm.Pilot.@@N@@
