import JvmDerived
import JvmDerived.Pilot.@@N@@Statement
import JvmDerived.Pilot.@@N@@Code
set_option linter.unusedVariables false
set_option linter.unusedSimpArgs false
@@BLOCK:NumsL.lean.txt@@
namespace Jvm.Pilot.@@N@@
open Jvm Jvm.ClassFile Sem Op Lib Jvm.Free Jvm.Stand Jvm.LawKit Jvm.RoadKit Bundle Jvm.Pilot.@@N@@.Jvm.D
def own_shl (x y : Int32) : Int32 := x <<< (y &&& 31)
def own_shr (x y : Int32) : Int32 := x >>> (y &&& 31)
def own_ushr (x y : Int32) : Int32 := (x.toUInt32 >>> (y &&& 31).toUInt32).toInt32
def own_shlL (x : Int64) (y : Int32) : Int64 := x <<< (y &&& 0x3f).toInt64
def own_shrL (x : Int64) (y : Int32) : Int64 := x >>> (y &&& 0x3f).toInt64
def own_ushrL (x : Int64) (y : Int32) : Int64 := (x.toUInt64 >>> (y &&& 0x3f).toInt64.toUInt64).toInt64
def own_remL (x y : Int64) : Int64 := x - (x / y) * y
section OwnKit
variable {p : Program} {l : Launch} {e : Env} {R : Room} {s : State} {m : MethodId} {args : Array Value} {below : List Frame} {meth : Method} {c : Code} {T : State} {locs : List Loc} {cells slots : Nat} {Z : State} {h h' : Heap} {a b : Addr}
theorem retI (X : Stand p l e R s m args below meth c T locs cells slots) (hx : p.tables.exec = Jvm.exec) {pc : Nat} {Ls : Array Slot} {z : Int32} {rest : List Value} (hret : meth.sig.returnType = some .int) (hd : decode c.code pc = .ok (.ireturn, 1)) {fs : List Frame}
    (hl : ∀ (f : JFrame) (acts : List Action), f.method = m → f.locked = none → f.entered = [] → (doReturn e (T.setTop f) acts (some (.int z))).1 = T.setFrames fs) : Steps p.tables e below (T.setTop (mkF m pc Ls (.int z :: rest))) (T.setFrames fs) :=
  retOut X hx hret rfl (Or.inl ⟨rfl, Or.inl rfl, _, rfl⟩) hd hl
theorem own_retJ (X : Stand p l e R s m args below meth c T locs cells slots) (hx : p.tables.exec = Jvm.exec) {pc : Nat} {Ls : Array Slot} {z : Int64} {rest : List Value} (hret : meth.sig.returnType = some .long) (hd : decode c.code pc = .ok (.lreturn, 1)) {fs : List Frame}
    (hl : ∀ (f : JFrame) (acts : List Action), f.method = m → f.locked = none → f.entered = [] → (doReturn e (T.setTop f) acts (some (.long z))).1 = T.setFrames fs) : Steps p.tables e below (T.setTop (mkF m pc Ls (.long z :: rest))) (T.setFrames fs) :=
  retOut X hx hret rfl (Or.inr (Or.inl ⟨rfl, rfl, _, rfl⟩)) hd hl
end OwnKit
theorem pn_0 : plainName "com/example/meterstone/meterstone/core/HexTextReadPinLaw" = true := by first | (simp [plainName, overriddenIn]; done) | decide +kernel
theorem d1_0 : decode method_3_code 0 = .ok (.iload_n 0, 1) := by decide +kernel
theorem d1_1 : decode method_3_code 1 = .ok (.bipush 15, 2) := by decide +kernel
theorem d1_3 : decode method_3_code 3 = .ok (.iand, 1) := by decide +kernel
theorem d1_4 : decode method_3_code 4 = .ok (.istore_n 1, 1) := by decide +kernel
theorem d1_5 : decode method_3_code 5 = .ok (.iload_n 1, 1) := by decide +kernel
theorem d1_6 : decode method_3_code 6 = .ok (.bipush 10, 2) := by decide +kernel
theorem d1_8 : decode method_3_code 8 = .ok (.if_icmp .ge 9, 3) := by decide +kernel
theorem d1_11 : decode method_3_code 11 = .ok (.bipush 48, 2) := by decide +kernel
theorem d1_13 : decode method_3_code 13 = .ok (.iload_n 1, 1) := by decide +kernel
theorem d1_14 : decode method_3_code 14 = .ok (.iadd, 1) := by decide +kernel
theorem d1_15 : decode method_3_code 15 = .ok (.i2l, 1) := by decide +kernel
theorem d1_16 : decode method_3_code 16 = .ok (.lreturn, 1) := by decide +kernel
theorem d1_17 : decode method_3_code 17 = .ok (.bipush 97, 2) := by decide +kernel
theorem d1_19 : decode method_3_code 19 = .ok (.iload_n 1, 1) := by decide +kernel
theorem d1_20 : decode method_3_code 20 = .ok (.bipush 10, 2) := by decide +kernel
theorem d1_22 : decode method_3_code 22 = .ok (.isub, 1) := by decide +kernel
theorem d1_23 : decode method_3_code 23 = .ok (.iadd, 1) := by decide +kernel
theorem d1_24 : decode method_3_code 24 = .ok (.i2l, 1) := by decide +kernel
theorem d1_25 : decode method_3_code 25 = .ok (.lreturn, 1) := by decide +kernel
theorem ef_1 (m : MethodId) (x0 : Int32) : entryFrame m #[(.int x0)] 2 = mkF m 0 #[.val (.int x0), .unset] [] := by first | (simp [entryFrame, mkF, argsToLocals, Value.category]; done) | rfl
abbrev R1 : Room := { frames := 0, cells := 0, slots := 0, locals := 0 }
def v1_4 (p1_0 : Int32) : Int32 := (p1_0 &&& (15 : Int32))
def r1 (p1_0 : Int32) : Int64 := (if (v1_4 p1_0) < (10 : Int32) then ((((48 : Int32) + (v1_4 p1_0))).toInt64) else ((((97 : Int32) + ((v1_4 p1_0) - (10 : Int32)))).toInt64))
def Q1 (Z : State) (p1_0 : Int32) (h0 : Heap) (n0 : Nat) (v : Option Value) (h : Heap) (L : List Loc) : Prop := v = some (.long (r1 p1_0)) ∧ Fr n0 L ∧ h = h0
set_option maxRecDepth 65536 in
set_option maxHeartbeats 40000000 in
theorem rm1 (l : Launch) (Z : State) (a0 : Array Value) (hw : ∀ d ∈ tables_1, d.before a0 Z = true) (ws : List Jvm.Cond) (p1_0 : Int32) (h0 : Heap) (n0 : Nat) (Z0 : n0 ≤ h0.size) :
    MetFree l (⟨"com/example/meterstone/meterstone/core/HexTextReadPinLaw", "ascii", "(I)J"⟩ : MethodName) (head1 (Jvm.Cond.code (⟨"com/example/meterstone/meterstone/core/HexTextReadPinLaw", "ascii", "(I)J"⟩ : MethodName) method_3_code 2 (some .long) :: ws) R1) (fun a U => a = #[(.int p1_0)] ∧ Z.Warmed39 U.vm ∧ U.heap = h0) (fun _ _ _ _ _ => True) (fun _ U o U' => ∃ v L, o = .returned v ∧ Q1 Z p1_0 h0 n0 v U'.heap L ∧ FrameEnd U o U' L R1.cells R1.slots) := by
  refine MetFree.of_bodySF (plainFor_of_name pn_0) hisR ?_
  intro p e s m args below meth c s₁ Bd hml0 hP hK
  obtain ⟨rfl, hZ, hh⟩ := hP
  have hx := Bd.exec
  have hby := Bd.bytes
  have hml : c.maxLocals = 2 := hml0
  have hown : s.vm.findClass "com/example/meterstone/meterstone/core/HexTextReadPinLaw" = some m.cls := findClass_of_methodNamed Bd.named
  have hnm := (name_of_methodNamed Bd.named Bd.method).1
  have X0 : Stand p l e R1 s m #[(.int p1_0)] below meth c s₁ [] 0 0 := Stand.of_body Bd
  have e0 : s₁.heap = h0 := by rw [← hh, Bd.state]; rfl
  have N0 := Fr.nil n0
  have pre0 : ∀ t, Steps p.tables e below (s₁.setTop (mkF m 0 #[.val (.int p1_0), .unset] [])) t → Steps p.tables e below (s₁.setTop (entryFrame m #[(.int p1_0)] 2)) t := fun t k => castTop (ef_1 m p1_0) k
  have pre1 : ∀ t, Steps p.tables e below (s₁.setTop (mkF m 8 #[.val (.int p1_0), .val (.int (v1_4 p1_0))] [(.int (10 : Int32)), (.int (v1_4 p1_0))])) t → Steps p.tables e below (s₁.setTop (entryFrame m #[(.int p1_0)] 2)) t := fun t k => pre0 t (by
    refine XS.iloadN X0.here hx rfl (hb hby d1_0) rfl ?_
    show Steps p.tables e below (s₁.setTop (mkF m 1 #[.val (.int p1_0), .unset] [(.int p1_0)])) _
    refine XS.bipush X0.here hx rfl (hb hby d1_1) ?_
    show Steps p.tables e below (s₁.setTop (mkF m 3 #[.val (.int p1_0), .unset] [(.int (15 : Int32)), (.int p1_0)])) _
    refine XS.iand X0.here hx rfl (hb hby d1_3) rfl ?_
    show Steps p.tables e below (s₁.setTop (mkF m 4 #[.val (.int p1_0), .unset] [(.int (p1_0 &&& (15 : Int32)))])) _
    show Steps p.tables e below (s₁.setTop (mkF m 4 #[.val (.int p1_0), .unset] [(.int (v1_4 p1_0))])) _
    refine XS.istoreN X0.here hx rfl (hb hby d1_4) rfl (l' := #[.val (.int p1_0), .val (.int (v1_4 p1_0))]) rfl ?_
    show Steps p.tables e below (s₁.setTop (mkF m 5 #[.val (.int p1_0), .val (.int (v1_4 p1_0))] [])) _
    refine XS.iloadN X0.here hx rfl (hb hby d1_5) rfl ?_
    show Steps p.tables e below (s₁.setTop (mkF m 6 #[.val (.int p1_0), .val (.int (v1_4 p1_0))] [(.int (v1_4 p1_0))])) _
    refine XS.bipush X0.here hx rfl (hb hby d1_6) ?_
    show Steps p.tables e below (s₁.setTop (mkF m 8 #[.val (.int p1_0), .val (.int (v1_4 p1_0))] [(.int (10 : Int32)), (.int (v1_4 p1_0))])) _
    exact k)
  by_cases hc8_2 : (v1_4 p1_0) < (10 : Int32)
  · have pre3 : ∀ t, Steps p.tables e below (s₁.setTop (mkF m 16 #[.val (.int p1_0), .val (.int (v1_4 p1_0))] [(.long ((((48 : Int32) + (v1_4 p1_0))).toInt64))])) t → Steps p.tables e below (s₁.setTop (entryFrame m #[(.int p1_0)] 2)) t := fun t k => pre1 t (by
      refine XS.icmpNo X0.here hx rfl (hb hby d1_8) rfl (tlt hc8_2).2.1 ?_
      show Steps p.tables e below (s₁.setTop (mkF m 11 #[.val (.int p1_0), .val (.int (v1_4 p1_0))] [])) _
      refine XS.bipush X0.here hx rfl (hb hby d1_11) ?_
      show Steps p.tables e below (s₁.setTop (mkF m 13 #[.val (.int p1_0), .val (.int (v1_4 p1_0))] [(.int (48 : Int32))])) _
      refine XS.iloadN X0.here hx rfl (hb hby d1_13) rfl ?_
      show Steps p.tables e below (s₁.setTop (mkF m 14 #[.val (.int p1_0), .val (.int (v1_4 p1_0))] [(.int (v1_4 p1_0)), (.int (48 : Int32))])) _
      refine XS.iadd X0.here hx rfl (hb hby d1_14) rfl ?_
      show Steps p.tables e below (s₁.setTop (mkF m 15 #[.val (.int p1_0), .val (.int (v1_4 p1_0))] [(.int ((48 : Int32) + (v1_4 p1_0)))])) _
      refine XS.i2l X0.here hx rfl (hb hby d1_15) rfl ?_
      show Steps p.tables e below (s₁.setTop (mkF m 16 #[.val (.int p1_0), .val (.int (v1_4 p1_0))] [(.long ((((48 : Int32) + (v1_4 p1_0))).toInt64))])) _
      exact k)
    have hret : (r1 p1_0) = ((((48 : Int32) + (v1_4 p1_0))).toInt64) := by unfold r1; rw [if_pos hc8_2]
    obtain ⟨fs, hr, hrun, hended, hW, hsame⟩ := X0.leave (v := some (.long ((((48 : Int32) + (v1_4 p1_0))).toInt64))) (fun h => by rw [Bd.returns] at h; cases h)
    refine ⟨_, _, pre3 _ ?_, hrun, hended, _, _, rfl, ?_, ⟨_, rfl⟩, hW, hsame.mono (by decide) (by decide)⟩
    · show Steps p.tables e below (s₁.setTop (mkF m 16 #[.val (.int p1_0), .val (.int (v1_4 p1_0))] [(.long ((((48 : Int32) + (v1_4 p1_0))).toInt64))])) _
      exact own_retJ X0 hx Bd.returns (hb hby d1_16) hr
    · show Q1 Z p1_0 h0 n0 _ s₁.heap _
      rw [e0]
      exact ⟨(by rw [hret]), N0, rfl⟩
  · have pre4 : ∀ t, Steps p.tables e below (s₁.setTop (mkF m 25 #[.val (.int p1_0), .val (.int (v1_4 p1_0))] [(.long ((((97 : Int32) + ((v1_4 p1_0) - (10 : Int32)))).toInt64))])) t → Steps p.tables e below (s₁.setTop (entryFrame m #[(.int p1_0)] 2)) t := fun t k => pre1 t (by
      refine XS.icmpYes X0.here hx rfl (pc0 := 8) (pc' := 17) rfl (hb hby d1_8) rfl (flt hc8_2).2.1 (by decide) (by decide) ?_
      show Steps p.tables e below (s₁.setTop (mkF m 17 #[.val (.int p1_0), .val (.int (v1_4 p1_0))] [])) _
      refine XS.bipush X0.here hx rfl (hb hby d1_17) ?_
      show Steps p.tables e below (s₁.setTop (mkF m 19 #[.val (.int p1_0), .val (.int (v1_4 p1_0))] [(.int (97 : Int32))])) _
      refine XS.iloadN X0.here hx rfl (hb hby d1_19) rfl ?_
      show Steps p.tables e below (s₁.setTop (mkF m 20 #[.val (.int p1_0), .val (.int (v1_4 p1_0))] [(.int (v1_4 p1_0)), (.int (97 : Int32))])) _
      refine XS.bipush X0.here hx rfl (hb hby d1_20) ?_
      show Steps p.tables e below (s₁.setTop (mkF m 22 #[.val (.int p1_0), .val (.int (v1_4 p1_0))] [(.int (10 : Int32)), (.int (v1_4 p1_0)), (.int (97 : Int32))])) _
      refine XS.isub X0.here hx rfl (hb hby d1_22) rfl ?_
      show Steps p.tables e below (s₁.setTop (mkF m 23 #[.val (.int p1_0), .val (.int (v1_4 p1_0))] [(.int ((v1_4 p1_0) - (10 : Int32))), (.int (97 : Int32))])) _
      refine XS.iadd X0.here hx rfl (hb hby d1_23) rfl ?_
      show Steps p.tables e below (s₁.setTop (mkF m 24 #[.val (.int p1_0), .val (.int (v1_4 p1_0))] [(.int ((97 : Int32) + ((v1_4 p1_0) - (10 : Int32))))])) _
      refine XS.i2l X0.here hx rfl (hb hby d1_24) rfl ?_
      show Steps p.tables e below (s₁.setTop (mkF m 25 #[.val (.int p1_0), .val (.int (v1_4 p1_0))] [(.long ((((97 : Int32) + ((v1_4 p1_0) - (10 : Int32)))).toInt64))])) _
      exact k)
    have hret : (r1 p1_0) = ((((97 : Int32) + ((v1_4 p1_0) - (10 : Int32)))).toInt64) := by unfold r1; rw [if_neg hc8_2]
    obtain ⟨fs, hr, hrun, hended, hW, hsame⟩ := X0.leave (v := some (.long ((((97 : Int32) + ((v1_4 p1_0) - (10 : Int32)))).toInt64))) (fun h => by rw [Bd.returns] at h; cases h)
    refine ⟨_, _, pre4 _ ?_, hrun, hended, _, _, rfl, ?_, ⟨_, rfl⟩, hW, hsame.mono (by decide) (by decide)⟩
    · show Steps p.tables e below (s₁.setTop (mkF m 25 #[.val (.int p1_0), .val (.int (v1_4 p1_0))] [(.long ((((97 : Int32) + ((v1_4 p1_0) - (10 : Int32)))).toInt64))])) _
      exact own_retJ X0 hx Bd.returns (hb hby d1_25) hr
    · show Q1 Z p1_0 h0 n0 _ s₁.heap _
      rw [e0]
      exact ⟨(by rw [hret]), N0, rfl⟩
theorem pn_1 : plainName "com/example/meterstone/meterstone/core/HexText" = true := by first | (simp [plainName, overriddenIn]; done) | decide +kernel
theorem d2_0 : decode prog_53_method_7_code 0 = .ok (.lload_n 0, 1) := by decide +kernel
theorem d2_1 : decode prog_53_method_7_code 1 = .ok (.bipush 6, 2) := by decide +kernel
theorem d2_3 : decode prog_53_method_7_code 3 = .ok (.lushr, 1) := by decide +kernel
theorem d2_4 : decode prog_53_method_7_code 4 = .ok (.ldc2_w 43, 3) := by decide +kernel
theorem d2_7 : decode prog_53_method_7_code 7 = .ok (.land, 1) := by decide +kernel
theorem d2_8 : decode prog_53_method_7_code 8 = .ok (.lstore_n 2, 1) := by decide +kernel
theorem d2_9 : decode prog_53_method_7_code 9 = .ok (.lload_n 0, 1) := by decide +kernel
theorem d2_10 : decode prog_53_method_7_code 10 = .ok (.ldc2_w 39, 3) := by decide +kernel
theorem d2_13 : decode prog_53_method_7_code 13 = .ok (.land, 1) := by decide +kernel
theorem d2_14 : decode prog_53_method_7_code 14 = .ok (.ldc2_w 55, 3) := by decide +kernel
theorem d2_17 : decode prog_53_method_7_code 17 = .ok (.lload_n 2, 1) := by decide +kernel
theorem d2_18 : decode prog_53_method_7_code 18 = .ok (.lmul, 1) := by decide +kernel
theorem d2_19 : decode prog_53_method_7_code 19 = .ok (.ladd, 1) := by decide +kernel
theorem d2_20 : decode prog_53_method_7_code 20 = .ok (.lstore 4, 2) := by decide +kernel
theorem d2_22 : decode prog_53_method_7_code 22 = .ok (.lload 4, 2) := by decide +kernel
theorem d2_24 : decode prog_53_method_7_code 24 = .ok (.lload 4, 2) := by decide +kernel
theorem d2_26 : decode prog_53_method_7_code 26 = .ok (.iconst 4, 1) := by decide +kernel
theorem d2_27 : decode prog_53_method_7_code 27 = .ok (.lushr, 1) := by decide +kernel
theorem d2_28 : decode prog_53_method_7_code 28 = .ok (.lor, 1) := by decide +kernel
theorem d2_29 : decode prog_53_method_7_code 29 = .ok (.ldc2_w 37, 3) := by decide +kernel
theorem d2_32 : decode prog_53_method_7_code 32 = .ok (.land, 1) := by decide +kernel
theorem d2_33 : decode prog_53_method_7_code 33 = .ok (.lstore 4, 2) := by decide +kernel
theorem d2_35 : decode prog_53_method_7_code 35 = .ok (.lload 4, 2) := by decide +kernel
theorem d2_37 : decode prog_53_method_7_code 37 = .ok (.lload 4, 2) := by decide +kernel
theorem d2_39 : decode prog_53_method_7_code 39 = .ok (.bipush 8, 2) := by decide +kernel
theorem d2_41 : decode prog_53_method_7_code 41 = .ok (.lushr, 1) := by decide +kernel
theorem d2_42 : decode prog_53_method_7_code 42 = .ok (.lor, 1) := by decide +kernel
theorem d2_43 : decode prog_53_method_7_code 43 = .ok (.ldc2_w 35, 3) := by decide +kernel
theorem d2_46 : decode prog_53_method_7_code 46 = .ok (.land, 1) := by decide +kernel
theorem d2_47 : decode prog_53_method_7_code 47 = .ok (.lstore 4, 2) := by decide +kernel
theorem d2_49 : decode prog_53_method_7_code 49 = .ok (.lload 4, 2) := by decide +kernel
theorem d2_51 : decode prog_53_method_7_code 51 = .ok (.lload 4, 2) := by decide +kernel
theorem d2_53 : decode prog_53_method_7_code 53 = .ok (.bipush 16, 2) := by decide +kernel
theorem d2_55 : decode prog_53_method_7_code 55 = .ok (.lushr, 1) := by decide +kernel
theorem d2_56 : decode prog_53_method_7_code 56 = .ok (.lor, 1) := by decide +kernel
theorem d2_57 : decode prog_53_method_7_code 57 = .ok (.ldc2_w 33, 3) := by decide +kernel
theorem d2_60 : decode prog_53_method_7_code 60 = .ok (.land, 1) := by decide +kernel
theorem d2_61 : decode prog_53_method_7_code 61 = .ok (.lreturn, 1) := by decide +kernel
theorem ef_2 (m : MethodId) (x0 : Int64) : entryFrame m #[(.long x0)] 6 = mkF m 0 #[.val (.long x0), .second, .unset, .unset, .unset, .unset] [] := by first | (simp [entryFrame, mkF, argsToLocals, Value.category]; done) | rfl
abbrev R2 : Room := { frames := 0, cells := 0, slots := 0, locals := 0 }
def v2_8 (p2_0 : Int64) : Int64 := ((own_ushrL p2_0 (6 : Int32)) &&& (72340172838076673 : Int64))
def v2_20 (p2_0 : Int64) : Int64 := ((p2_0 &&& (1085102592571150095 : Int64)) + ((9 : Int64) * (v2_8 p2_0)))
def v2_33 (p2_0 : Int64) : Int64 := (((v2_20 p2_0) ||| (own_ushrL (v2_20 p2_0) (4 : Int32))) &&& (71777214294589695 : Int64))
def v2_47 (p2_0 : Int64) : Int64 := (((v2_33 p2_0) ||| (own_ushrL (v2_33 p2_0) (8 : Int32))) &&& (281470681808895 : Int64))
def r2 (p2_0 : Int64) : Int64 := (((v2_47 p2_0) ||| (own_ushrL (v2_47 p2_0) (16 : Int32))) &&& (4294967295 : Int64))
def Q2 (Z : State) (p2_0 : Int64) (h0 : Heap) (n0 : Nat) (v : Option Value) (h : Heap) (L : List Loc) : Prop := v = some (.long (r2 p2_0)) ∧ Fr n0 L ∧ h = h0
set_option maxRecDepth 65536 in
set_option maxHeartbeats 40000000 in
theorem rm2 (l : Launch) (Z : State) (a0 : Array Value) (hw : ∀ d ∈ tables_1, d.before a0 Z = true) (ws : List Jvm.Cond) (p2_0 : Int64) (h0 : Heap) (n0 : Nat) (Z0 : n0 ≤ h0.size) :
    MetFree l (⟨"com/example/meterstone/meterstone/core/HexText", "read", "(J)J"⟩ : MethodName) (head1 (Jvm.Cond.code (⟨"com/example/meterstone/meterstone/core/HexText", "read", "(J)J"⟩ : MethodName) prog_53_method_7_code 6 (some .long) :: ws) R2) (fun a U => a = #[(.long p2_0)] ∧ Z.Warmed39 U.vm ∧ U.heap = h0) (fun _ _ _ _ _ => True) (fun _ U o U' => ∃ v L, o = .returned v ∧ Q2 Z p2_0 h0 n0 v U'.heap L ∧ FrameEnd U o U' L R2.cells R2.slots) := by
  refine MetFree.of_bodySF (plainFor_of_name pn_1) hisR ?_
  intro p e s m args below meth c s₁ Bd hml0 hP hK
  obtain ⟨rfl, hZ, hh⟩ := hP
  have hx := Bd.exec
  have hby := Bd.bytes
  have hml : c.maxLocals = 6 := hml0
  have hown : s.vm.findClass "com/example/meterstone/meterstone/core/HexText" = some m.cls := findClass_of_methodNamed Bd.named
  have hnm := (name_of_methodNamed Bd.named Bd.method).1
  have X0 : Stand p l e R2 s m #[(.long p2_0)] below meth c s₁ [] 0 0 := Stand.of_body Bd
  have e0 : s₁.heap = h0 := by rw [← hh, Bd.state]; rfl
  have N0 := Fr.nil n0
  have pre0 : ∀ t, Steps p.tables e below (s₁.setTop (mkF m 0 #[.val (.long p2_0), .second, .unset, .unset, .unset, .unset] [])) t → Steps p.tables e below (s₁.setTop (entryFrame m #[(.long p2_0)] 6)) t := fun t k => castTop (ef_2 m p2_0) k
  have pre1 : ∀ t, Steps p.tables e below (s₁.setTop (mkF m 61 #[.val (.long p2_0), .second, .val (.long (v2_8 p2_0)), .second, .val (.long (v2_47 p2_0)), .second] [(.long (((v2_47 p2_0) ||| (own_ushrL (v2_47 p2_0) (16 : Int32))) &&& (4294967295 : Int64)))])) t → Steps p.tables e below (s₁.setTop (entryFrame m #[(.long p2_0)] 6)) t := fun t k => pre0 t (by
    refine XS.lloadN X0.here hx rfl (hb hby d2_0) rfl ?_
    show Steps p.tables e below (s₁.setTop (mkF m 1 #[.val (.long p2_0), .second, .unset, .unset, .unset, .unset] [(.long p2_0)])) _
    refine XS.bipush X0.here hx rfl (hb hby d2_1) ?_
    show Steps p.tables e below (s₁.setTop (mkF m 3 #[.val (.long p2_0), .second, .unset, .unset, .unset, .unset] [(.int (6 : Int32)), (.long p2_0)])) _
    refine XS.lushr X0.here hx rfl (hb hby d2_3) rfl ?_
    show Steps p.tables e below (s₁.setTop (mkF m 4 #[.val (.long p2_0), .second, .unset, .unset, .unset, .unset] [(.long (own_ushrL p2_0 (6 : Int32)))])) _
    refine X0.ldc2Long hx hown (mvT hZ (hw _ (List.mem_of_getElem? (i := 8) rfl))) (g := (mkF m 4 #[.val (.long p2_0), .second, .unset, .unset, .unset, .unset] [(.long (own_ushrL p2_0 (6 : Int32)))])) rfl (hb hby d2_4) _ ?_
    show Steps p.tables e below (s₁.setTop (mkF m 7 #[.val (.long p2_0), .second, .unset, .unset, .unset, .unset] [(.long (72340172838076673 : Int64)), (.long (own_ushrL p2_0 (6 : Int32)))])) _
    refine XS.land X0.here hx rfl (hb hby d2_7) rfl ?_
    show Steps p.tables e below (s₁.setTop (mkF m 8 #[.val (.long p2_0), .second, .unset, .unset, .unset, .unset] [(.long ((own_ushrL p2_0 (6 : Int32)) &&& (72340172838076673 : Int64)))])) _
    show Steps p.tables e below (s₁.setTop (mkF m 8 #[.val (.long p2_0), .second, .unset, .unset, .unset, .unset] [(.long (v2_8 p2_0))])) _
    refine XS.lstoreN X0.here hx rfl (hb hby d2_8) rfl (l' := #[.val (.long p2_0), .second, .val (.long (v2_8 p2_0)), .second, .unset, .unset]) rfl ?_
    show Steps p.tables e below (s₁.setTop (mkF m 9 #[.val (.long p2_0), .second, .val (.long (v2_8 p2_0)), .second, .unset, .unset] [])) _
    refine XS.lloadN X0.here hx rfl (hb hby d2_9) rfl ?_
    show Steps p.tables e below (s₁.setTop (mkF m 10 #[.val (.long p2_0), .second, .val (.long (v2_8 p2_0)), .second, .unset, .unset] [(.long p2_0)])) _
    refine X0.ldc2Long hx hown (mvT hZ (hw _ (List.mem_of_getElem? (i := 9) rfl))) (g := (mkF m 10 #[.val (.long p2_0), .second, .val (.long (v2_8 p2_0)), .second, .unset, .unset] [(.long p2_0)])) rfl (hb hby d2_10) _ ?_
    show Steps p.tables e below (s₁.setTop (mkF m 13 #[.val (.long p2_0), .second, .val (.long (v2_8 p2_0)), .second, .unset, .unset] [(.long (1085102592571150095 : Int64)), (.long p2_0)])) _
    refine XS.land X0.here hx rfl (hb hby d2_13) rfl ?_
    show Steps p.tables e below (s₁.setTop (mkF m 14 #[.val (.long p2_0), .second, .val (.long (v2_8 p2_0)), .second, .unset, .unset] [(.long (p2_0 &&& (1085102592571150095 : Int64)))])) _
    refine X0.ldc2Long hx hown (mvT hZ (hw _ (List.mem_of_getElem? (i := 10) rfl))) (g := (mkF m 14 #[.val (.long p2_0), .second, .val (.long (v2_8 p2_0)), .second, .unset, .unset] [(.long (p2_0 &&& (1085102592571150095 : Int64)))])) rfl (hb hby d2_14) _ ?_
    show Steps p.tables e below (s₁.setTop (mkF m 17 #[.val (.long p2_0), .second, .val (.long (v2_8 p2_0)), .second, .unset, .unset] [(.long (9 : Int64)), (.long (p2_0 &&& (1085102592571150095 : Int64)))])) _
    refine XS.lloadN X0.here hx rfl (hb hby d2_17) rfl ?_
    show Steps p.tables e below (s₁.setTop (mkF m 18 #[.val (.long p2_0), .second, .val (.long (v2_8 p2_0)), .second, .unset, .unset] [(.long (v2_8 p2_0)), (.long (9 : Int64)), (.long (p2_0 &&& (1085102592571150095 : Int64)))])) _
    refine XS.lmul X0.here hx rfl (hb hby d2_18) rfl ?_
    show Steps p.tables e below (s₁.setTop (mkF m 19 #[.val (.long p2_0), .second, .val (.long (v2_8 p2_0)), .second, .unset, .unset] [(.long ((9 : Int64) * (v2_8 p2_0))), (.long (p2_0 &&& (1085102592571150095 : Int64)))])) _
    refine XS.ladd X0.here hx rfl (hb hby d2_19) rfl ?_
    show Steps p.tables e below (s₁.setTop (mkF m 20 #[.val (.long p2_0), .second, .val (.long (v2_8 p2_0)), .second, .unset, .unset] [(.long ((p2_0 &&& (1085102592571150095 : Int64)) + ((9 : Int64) * (v2_8 p2_0))))])) _
    show Steps p.tables e below (s₁.setTop (mkF m 20 #[.val (.long p2_0), .second, .val (.long (v2_8 p2_0)), .second, .unset, .unset] [(.long (v2_20 p2_0))])) _
    refine XS.lstore X0.here hx rfl (hb hby d2_20) rfl (l' := #[.val (.long p2_0), .second, .val (.long (v2_8 p2_0)), .second, .val (.long (v2_20 p2_0)), .second]) rfl ?_
    show Steps p.tables e below (s₁.setTop (mkF m 22 #[.val (.long p2_0), .second, .val (.long (v2_8 p2_0)), .second, .val (.long (v2_20 p2_0)), .second] [])) _
    refine XS.lload X0.here hx rfl (hb hby d2_22) rfl ?_
    show Steps p.tables e below (s₁.setTop (mkF m 24 #[.val (.long p2_0), .second, .val (.long (v2_8 p2_0)), .second, .val (.long (v2_20 p2_0)), .second] [(.long (v2_20 p2_0))])) _
    refine XS.lload X0.here hx rfl (hb hby d2_24) rfl ?_
    show Steps p.tables e below (s₁.setTop (mkF m 26 #[.val (.long p2_0), .second, .val (.long (v2_8 p2_0)), .second, .val (.long (v2_20 p2_0)), .second] [(.long (v2_20 p2_0)), (.long (v2_20 p2_0))])) _
    refine XS.iconst X0.here hx rfl (hb hby d2_26) ?_
    show Steps p.tables e below (s₁.setTop (mkF m 27 #[.val (.long p2_0), .second, .val (.long (v2_8 p2_0)), .second, .val (.long (v2_20 p2_0)), .second] [(.int (4 : Int32)), (.long (v2_20 p2_0)), (.long (v2_20 p2_0))])) _
    refine XS.lushr X0.here hx rfl (hb hby d2_27) rfl ?_
    show Steps p.tables e below (s₁.setTop (mkF m 28 #[.val (.long p2_0), .second, .val (.long (v2_8 p2_0)), .second, .val (.long (v2_20 p2_0)), .second] [(.long (own_ushrL (v2_20 p2_0) (4 : Int32))), (.long (v2_20 p2_0))])) _
    refine XS.lor X0.here hx rfl (hb hby d2_28) rfl ?_
    show Steps p.tables e below (s₁.setTop (mkF m 29 #[.val (.long p2_0), .second, .val (.long (v2_8 p2_0)), .second, .val (.long (v2_20 p2_0)), .second] [(.long ((v2_20 p2_0) ||| (own_ushrL (v2_20 p2_0) (4 : Int32))))])) _
    refine X0.ldc2Long hx hown (mvT hZ (hw _ (List.mem_of_getElem? (i := 11) rfl))) (g := (mkF m 29 #[.val (.long p2_0), .second, .val (.long (v2_8 p2_0)), .second, .val (.long (v2_20 p2_0)), .second] [(.long ((v2_20 p2_0) ||| (own_ushrL (v2_20 p2_0) (4 : Int32))))])) rfl (hb hby d2_29) _ ?_
    show Steps p.tables e below (s₁.setTop (mkF m 32 #[.val (.long p2_0), .second, .val (.long (v2_8 p2_0)), .second, .val (.long (v2_20 p2_0)), .second] [(.long (71777214294589695 : Int64)), (.long ((v2_20 p2_0) ||| (own_ushrL (v2_20 p2_0) (4 : Int32))))])) _
    refine XS.land X0.here hx rfl (hb hby d2_32) rfl ?_
    show Steps p.tables e below (s₁.setTop (mkF m 33 #[.val (.long p2_0), .second, .val (.long (v2_8 p2_0)), .second, .val (.long (v2_20 p2_0)), .second] [(.long (((v2_20 p2_0) ||| (own_ushrL (v2_20 p2_0) (4 : Int32))) &&& (71777214294589695 : Int64)))])) _
    show Steps p.tables e below (s₁.setTop (mkF m 33 #[.val (.long p2_0), .second, .val (.long (v2_8 p2_0)), .second, .val (.long (v2_20 p2_0)), .second] [(.long (v2_33 p2_0))])) _
    refine XS.lstore X0.here hx rfl (hb hby d2_33) rfl (l' := #[.val (.long p2_0), .second, .val (.long (v2_8 p2_0)), .second, .val (.long (v2_33 p2_0)), .second]) rfl ?_
    show Steps p.tables e below (s₁.setTop (mkF m 35 #[.val (.long p2_0), .second, .val (.long (v2_8 p2_0)), .second, .val (.long (v2_33 p2_0)), .second] [])) _
    refine XS.lload X0.here hx rfl (hb hby d2_35) rfl ?_
    show Steps p.tables e below (s₁.setTop (mkF m 37 #[.val (.long p2_0), .second, .val (.long (v2_8 p2_0)), .second, .val (.long (v2_33 p2_0)), .second] [(.long (v2_33 p2_0))])) _
    refine XS.lload X0.here hx rfl (hb hby d2_37) rfl ?_
    show Steps p.tables e below (s₁.setTop (mkF m 39 #[.val (.long p2_0), .second, .val (.long (v2_8 p2_0)), .second, .val (.long (v2_33 p2_0)), .second] [(.long (v2_33 p2_0)), (.long (v2_33 p2_0))])) _
    refine XS.bipush X0.here hx rfl (hb hby d2_39) ?_
    show Steps p.tables e below (s₁.setTop (mkF m 41 #[.val (.long p2_0), .second, .val (.long (v2_8 p2_0)), .second, .val (.long (v2_33 p2_0)), .second] [(.int (8 : Int32)), (.long (v2_33 p2_0)), (.long (v2_33 p2_0))])) _
    refine XS.lushr X0.here hx rfl (hb hby d2_41) rfl ?_
    show Steps p.tables e below (s₁.setTop (mkF m 42 #[.val (.long p2_0), .second, .val (.long (v2_8 p2_0)), .second, .val (.long (v2_33 p2_0)), .second] [(.long (own_ushrL (v2_33 p2_0) (8 : Int32))), (.long (v2_33 p2_0))])) _
    refine XS.lor X0.here hx rfl (hb hby d2_42) rfl ?_
    show Steps p.tables e below (s₁.setTop (mkF m 43 #[.val (.long p2_0), .second, .val (.long (v2_8 p2_0)), .second, .val (.long (v2_33 p2_0)), .second] [(.long ((v2_33 p2_0) ||| (own_ushrL (v2_33 p2_0) (8 : Int32))))])) _
    refine X0.ldc2Long hx hown (mvT hZ (hw _ (List.mem_of_getElem? (i := 12) rfl))) (g := (mkF m 43 #[.val (.long p2_0), .second, .val (.long (v2_8 p2_0)), .second, .val (.long (v2_33 p2_0)), .second] [(.long ((v2_33 p2_0) ||| (own_ushrL (v2_33 p2_0) (8 : Int32))))])) rfl (hb hby d2_43) _ ?_
    show Steps p.tables e below (s₁.setTop (mkF m 46 #[.val (.long p2_0), .second, .val (.long (v2_8 p2_0)), .second, .val (.long (v2_33 p2_0)), .second] [(.long (281470681808895 : Int64)), (.long ((v2_33 p2_0) ||| (own_ushrL (v2_33 p2_0) (8 : Int32))))])) _
    refine XS.land X0.here hx rfl (hb hby d2_46) rfl ?_
    show Steps p.tables e below (s₁.setTop (mkF m 47 #[.val (.long p2_0), .second, .val (.long (v2_8 p2_0)), .second, .val (.long (v2_33 p2_0)), .second] [(.long (((v2_33 p2_0) ||| (own_ushrL (v2_33 p2_0) (8 : Int32))) &&& (281470681808895 : Int64)))])) _
    show Steps p.tables e below (s₁.setTop (mkF m 47 #[.val (.long p2_0), .second, .val (.long (v2_8 p2_0)), .second, .val (.long (v2_33 p2_0)), .second] [(.long (v2_47 p2_0))])) _
    refine XS.lstore X0.here hx rfl (hb hby d2_47) rfl (l' := #[.val (.long p2_0), .second, .val (.long (v2_8 p2_0)), .second, .val (.long (v2_47 p2_0)), .second]) rfl ?_
    show Steps p.tables e below (s₁.setTop (mkF m 49 #[.val (.long p2_0), .second, .val (.long (v2_8 p2_0)), .second, .val (.long (v2_47 p2_0)), .second] [])) _
    refine XS.lload X0.here hx rfl (hb hby d2_49) rfl ?_
    show Steps p.tables e below (s₁.setTop (mkF m 51 #[.val (.long p2_0), .second, .val (.long (v2_8 p2_0)), .second, .val (.long (v2_47 p2_0)), .second] [(.long (v2_47 p2_0))])) _
    refine XS.lload X0.here hx rfl (hb hby d2_51) rfl ?_
    show Steps p.tables e below (s₁.setTop (mkF m 53 #[.val (.long p2_0), .second, .val (.long (v2_8 p2_0)), .second, .val (.long (v2_47 p2_0)), .second] [(.long (v2_47 p2_0)), (.long (v2_47 p2_0))])) _
    refine XS.bipush X0.here hx rfl (hb hby d2_53) ?_
    show Steps p.tables e below (s₁.setTop (mkF m 55 #[.val (.long p2_0), .second, .val (.long (v2_8 p2_0)), .second, .val (.long (v2_47 p2_0)), .second] [(.int (16 : Int32)), (.long (v2_47 p2_0)), (.long (v2_47 p2_0))])) _
    refine XS.lushr X0.here hx rfl (hb hby d2_55) rfl ?_
    show Steps p.tables e below (s₁.setTop (mkF m 56 #[.val (.long p2_0), .second, .val (.long (v2_8 p2_0)), .second, .val (.long (v2_47 p2_0)), .second] [(.long (own_ushrL (v2_47 p2_0) (16 : Int32))), (.long (v2_47 p2_0))])) _
    refine XS.lor X0.here hx rfl (hb hby d2_56) rfl ?_
    show Steps p.tables e below (s₁.setTop (mkF m 57 #[.val (.long p2_0), .second, .val (.long (v2_8 p2_0)), .second, .val (.long (v2_47 p2_0)), .second] [(.long ((v2_47 p2_0) ||| (own_ushrL (v2_47 p2_0) (16 : Int32))))])) _
    refine X0.ldc2Long hx hown (mvT hZ (hw _ (List.mem_of_getElem? (i := 13) rfl))) (g := (mkF m 57 #[.val (.long p2_0), .second, .val (.long (v2_8 p2_0)), .second, .val (.long (v2_47 p2_0)), .second] [(.long ((v2_47 p2_0) ||| (own_ushrL (v2_47 p2_0) (16 : Int32))))])) rfl (hb hby d2_57) _ ?_
    show Steps p.tables e below (s₁.setTop (mkF m 60 #[.val (.long p2_0), .second, .val (.long (v2_8 p2_0)), .second, .val (.long (v2_47 p2_0)), .second] [(.long (4294967295 : Int64)), (.long ((v2_47 p2_0) ||| (own_ushrL (v2_47 p2_0) (16 : Int32))))])) _
    refine XS.land X0.here hx rfl (hb hby d2_60) rfl ?_
    show Steps p.tables e below (s₁.setTop (mkF m 61 #[.val (.long p2_0), .second, .val (.long (v2_8 p2_0)), .second, .val (.long (v2_47 p2_0)), .second] [(.long (((v2_47 p2_0) ||| (own_ushrL (v2_47 p2_0) (16 : Int32))) &&& (4294967295 : Int64)))])) _
    exact k)
  obtain ⟨fs, hr, hrun, hended, hW, hsame⟩ := X0.leave (v := some (.long (((v2_47 p2_0) ||| (own_ushrL (v2_47 p2_0) (16 : Int32))) &&& (4294967295 : Int64)))) (fun h => by rw [Bd.returns] at h; cases h)
  refine ⟨_, _, pre1 _ ?_, hrun, hended, _, _, rfl, ?_, ⟨_, rfl⟩, hW, hsame.mono (by decide) (by decide)⟩
  · show Steps p.tables e below (s₁.setTop (mkF m 61 #[.val (.long p2_0), .second, .val (.long (v2_8 p2_0)), .second, .val (.long (v2_47 p2_0)), .second] [(.long (((v2_47 p2_0) ||| (own_ushrL (v2_47 p2_0) (16 : Int32))) &&& (4294967295 : Int64)))])) _
    exact own_retJ X0 hx Bd.returns (hb hby d2_61) hr
  · show Q2 Z p2_0 h0 n0 _ s₁.heap _
    rw [e0]
    exact ⟨rfl, N0, rfl⟩
theorem pd_0 : parseMethodDescriptor "(I)J" = some ⟨[.int], some .long⟩ := by decide +kernel
theorem pd_1 : parseMethodDescriptor "(J)J" = some ⟨[.long], some .long⟩ := by decide +kernel
theorem ef_0 (m : MethodId) (x0 : Int32) : entryFrame m #[(.int x0)] maxLocals = mkF m 0 #[.val (.int x0), .unset, .unset] [] := by first | (simp [entryFrame, mkF, argsToLocals, Value.category, maxLocals]; done) | rfl
def v0_14 (p0_0 : Int32) : Int64 := ((own_shlL (0 : Int64) (8 : Int32)) ||| (r1 (own_ushr p0_0 (28 : Int32))))
def v0_27 (p0_0 : Int32) : Int64 := ((own_shlL (v0_14 p0_0) (8 : Int32)) ||| (r1 (own_ushr p0_0 (24 : Int32))))
def v0_40 (p0_0 : Int32) : Int64 := ((own_shlL (v0_27 p0_0) (8 : Int32)) ||| (r1 (own_ushr p0_0 (20 : Int32))))
def v0_53 (p0_0 : Int32) : Int64 := ((own_shlL (v0_40 p0_0) (8 : Int32)) ||| (r1 (own_ushr p0_0 (16 : Int32))))
def v0_66 (p0_0 : Int32) : Int64 := ((own_shlL (v0_53 p0_0) (8 : Int32)) ||| (r1 (own_ushr p0_0 (12 : Int32))))
def v0_79 (p0_0 : Int32) : Int64 := ((own_shlL (v0_66 p0_0) (8 : Int32)) ||| (r1 (own_ushr p0_0 (8 : Int32))))
def v0_91 (p0_0 : Int32) : Int64 := ((own_shlL (v0_79 p0_0) (8 : Int32)) ||| (r1 (own_ushr p0_0 (4 : Int32))))
def v0_101 (p0_0 : Int32) : Int64 := ((own_shlL (v0_91 p0_0) (8 : Int32)) ||| (r1 p0_0))
/-- the unsigned worth of a long -/
def own_N (x : Int64) : Nat := x.toBitVec.toNat
theorem own_Nlt (x : Int64) : own_N x < 18446744073709551616 := x.toBitVec.isLt
theorem own_Nand (x y : Int64) : own_N (x &&& y) = own_N x &&& own_N y := by unfold own_N; rw [Int64.toBitVec_and, BitVec.toNat_and]
theorem own_Nor (x y : Int64) : own_N (x ||| y) = own_N x ||| own_N y := by unfold own_N; rw [Int64.toBitVec_or, BitVec.toNat_or]
theorem own_Nadd (x y : Int64) : own_N (x + y) = (own_N x + own_N y) % 18446744073709551616 := by unfold own_N; rw [Int64.toBitVec_add, BitVec.toNat_add]
theorem own_Nmul (x y : Int64) : own_N (x * y) = (own_N x * own_N y) % 18446744073709551616 := by unfold own_N; rw [Int64.toBitVec_mul, BitVec.toNat_mul]
theorem own_Ns4 (x : Int64) : own_N (own_ushrL x 4) = own_N x / 16 := by
  show (x.toBitVec >>> 4).toNat = _; rw [BitVec.toNat_ushiftRight, Nat.shiftRight_eq_div_pow]; rfl
theorem own_Ns6 (x : Int64) : own_N (own_ushrL x 6) = own_N x / 64 := by
  show (x.toBitVec >>> 6).toNat = _; rw [BitVec.toNat_ushiftRight, Nat.shiftRight_eq_div_pow]; rfl
theorem own_Ns8 (x : Int64) : own_N (own_ushrL x 8) = own_N x / 256 := by
  show (x.toBitVec >>> 8).toNat = _; rw [BitVec.toNat_ushiftRight, Nat.shiftRight_eq_div_pow]; rfl
theorem own_Ns16 (x : Int64) : own_N (own_ushrL x 16) = own_N x / 65536 := by
  show (x.toBitVec >>> 16).toNat = _; rw [BitVec.toNat_ushiftRight, Nat.shiftRight_eq_div_pow]; rfl
theorem own_Nl8 (x : Int64) : own_N (own_shlL x 8) = (own_N x * 256) % 18446744073709551616 := by
  show (x.toBitVec <<< 8).toNat = _; rw [BitVec.toNat_shiftLeft, Nat.shiftLeft_eq]; rfl
/-- chunk by chunk -/
theorem own_and (b x y m k : Nat) (hy : y < 2 ^ b) (hk : k < 2 ^ b) : (2 ^ b * x + y) &&& (2 ^ b * m + k) = 2 ^ b * (x &&& m) + (y &&& k) := by
  have p : 0 < 2 ^ b := Nat.two_pow_pos b
  have d : ((2 ^ b * x + y) &&& (2 ^ b * m + k)) / 2 ^ b = x &&& m := by
    rw [Nat.and_div_two_pow, Nat.mul_add_div p, Nat.mul_add_div p, Nat.div_eq_of_lt hy, Nat.div_eq_of_lt hk, Nat.add_zero, Nat.add_zero]
  have r : ((2 ^ b * x + y) &&& (2 ^ b * m + k)) % 2 ^ b = y &&& k := by
    rw [Nat.and_mod_two_pow, Nat.mul_add_mod, Nat.mul_add_mod, Nat.mod_eq_of_lt hy, Nat.mod_eq_of_lt hk]
  rw [← Nat.div_add_mod ((2 ^ b * x + y) &&& (2 ^ b * m + k)) (2 ^ b), d, r]
theorem own_orc (b x y m k : Nat) (hy : y < 2 ^ b) (hk : k < 2 ^ b) : (2 ^ b * x + y) ||| (2 ^ b * m + k) = 2 ^ b * (x ||| m) + (y ||| k) := by
  have p : 0 < 2 ^ b := Nat.two_pow_pos b
  have d : ((2 ^ b * x + y) ||| (2 ^ b * m + k)) / 2 ^ b = x ||| m := by
    rw [Nat.or_div_two_pow, Nat.mul_add_div p, Nat.mul_add_div p, Nat.div_eq_of_lt hy, Nat.div_eq_of_lt hk, Nat.add_zero, Nat.add_zero]
  have r : ((2 ^ b * x + y) ||| (2 ^ b * m + k)) % 2 ^ b = y ||| k := by
    rw [Nat.or_mod_two_pow, Nat.mul_add_mod, Nat.mul_add_mod, Nat.mod_eq_of_lt hy, Nat.mod_eq_of_lt hk]
  rw [← Nat.div_add_mod ((2 ^ b * x + y) ||| (2 ^ b * m + k)) (2 ^ b), d, r]
theorem own_or_add (b x y : Nat) (hy : y < 2 ^ b) : (2 ^ b * x) ||| y = 2 ^ b * x + y := (Nat.two_pow_add_eq_or_of_lt hy x).symm
theorem own_and8 (x y m k : Nat) (hy : y < 256) (hk : k < 256) : (256 * x + y) &&& (256 * m + k) = 256 * (x &&& m) + (y &&& k) := own_and 8 x y m k hy hk
theorem own_and16 (x y m k : Nat) (hy : y < 65536) (hk : k < 65536) : (65536 * x + y) &&& (65536 * m + k) = 65536 * (x &&& m) + (y &&& k) := own_and 16 x y m k hy hk
theorem own_or16 (x y m k : Nat) (hy : y < 65536) (hk : k < 65536) : (65536 * x + y) ||| (65536 * m + k) = 65536 * (x ||| m) + (y ||| k) := own_orc 16 x y m k hy hk
theorem own_and32 (x y m k : Nat) (hy : y < 4294967296) (hk : k < 4294967296) : (4294967296 * x + y) &&& (4294967296 * m + k) = 4294967296 * (x &&& m) + (y &&& k) := own_and 32 x y m k hy hk
theorem own_or32' (x y m k : Nat) (hy : y < 4294967296) (hk : k < 4294967296) : (4294967296 * x + y) ||| (4294967296 * m + k) = 4294967296 * (x ||| m) + (y ||| k) := own_orc 32 x y m k hy hk
/-- a digit's sign -/
def own_A (n : Nat) : Nat := if n < 10 then 48 + n else 87 + n
def own_L (n : Nat) : Nat := if n < 10 then 0 else 1
theorem own_A1 : ∀ n, n < 16 → own_A n < 256 ∧ own_A n &&& 64 = 64 * own_L n ∧ (own_A n &&& 15) + 9 * own_L n = n := by decide +kernel
theorem own_p1 : ∀ a, a < 16 → ∀ b, b < 16 → (a + 256 * b) &&& 255 = a ∧ (a + 256 * b) &&& 4080 = 256 * b ∧ (a ||| (16 * b)) = a + 16 * b := by decide +kernel
theorem own_p2 (a b : Nat) (ha : a < 256) (hb : b < 256) : (65536 * b + a) &&& 65535 = a ∧ (65536 * b + a) &&& 16776960 = 65536 * b ∧ (a ||| (256 * b)) = a + 256 * b := by
  refine ⟨?_, ?_, ?_⟩
  · have := own_and16 b a 0 65535 (by omega) (by omega)
    rw [Nat.and_zero] at this
    rw [show 65535 = 65536 * 0 + 65535 from rfl, this, show (65535 : Nat) = 2 ^ 16 - 1 from rfl, Nat.and_two_pow_sub_one_eq_mod]; omega
  · have := own_and8 (256 * b) a 65535 0 (by omega) (by omega)
    rw [Nat.and_zero, show (65535 : Nat) = 2 ^ 16 - 1 from rfl, Nat.and_two_pow_sub_one_eq_mod] at this
    rw [show 65536 * b + a = 256 * (256 * b) + a by omega, show (16776960 : Nat) = 256 * 65535 + 0 from rfl]
    rw [show (65535 : Nat) = 2 ^ 16 - 1 from rfl, this]; omega
  · rw [Nat.or_comm, own_or_add 8 b a ha]; omega
theorem own_p3 (a b : Nat) (ha : a < 65536) (hb : b < 65536) : (a ||| (65536 * b)) = a + 65536 * b := by
  rw [Nat.or_comm, own_or_add 16 b a ha]; omega
def own_B8 (a0 a1 a2 a3 a4 a5 a6 a7 : Nat) : Nat := 256 * (256 * (256 * (256 * (256 * (256 * (256 * a7 + a6) + a5) + a4) + a3) + a2) + a1) + a0
theorem own_mask8 (m a0 a1 a2 a3 a4 a5 a6 a7 : Nat) (hm : m < 256) (h0 : a0 < 256) (h1 : a1 < 256) (h2 : a2 < 256) (h3 : a3 < 256) (h4 : a4 < 256) (h5 : a5 < 256) (h6 : a6 < 256) :
    own_B8 a0 a1 a2 a3 a4 a5 a6 a7 &&& own_B8 m m m m m m m m = own_B8 (a0 &&& m) (a1 &&& m) (a2 &&& m) (a3 &&& m) (a4 &&& m) (a5 &&& m) (a6 &&& m) (a7 &&& m) := by
  unfold own_B8
  rw [own_and8 _ _ _ _ h0 hm, own_and8 _ _ _ _ h1 hm, own_and8 _ _ _ _ h2 hm, own_and8 _ _ _ _ h3 hm, own_and8 _ _ _ _ h4 hm, own_and8 _ _ _ _ h5 hm, own_and8 _ _ _ _ h6 hm]
set_option maxHeartbeats 4000000 in
theorem own_read (d : Int64) (n0 n1 n2 n3 n4 n5 n6 n7 : Nat) (h0 : n0 < 16) (h1 : n1 < 16) (h2 : n2 < 16) (h3 : n3 < 16) (h4 : n4 < 16) (h5 : n5 < 16) (h6 : n6 < 16) (h7 : n7 < 16)
    (hd : own_N d = own_B8 (own_A n0) (own_A n1) (own_A n2) (own_A n3) (own_A n4) (own_A n5) (own_A n6) (own_A n7)) :
    own_N (r2 d) = n0 + 16 * n1 + 256 * n2 + 4096 * n3 + 65536 * n4 + 1048576 * n5 + 16777216 * n6 + 268435456 * n7 := by
  have a0 := own_A1 n0 h0
  have a1 := own_A1 n1 h1
  have a2 := own_A1 n2 h2
  have a3 := own_A1 n3 h3
  have a4 := own_A1 n4 h4
  have a5 := own_A1 n5 h5
  have a6 := own_A1 n6 h6
  have a7 := own_A1 n7 h7
  -- which signs are letters
  have s1 : own_N (v2_8 d) = own_B8 (own_L n0) (own_L n1) (own_L n2) (own_L n3) (own_L n4) (own_L n5) (own_L n6) (own_L n7) := by
    unfold v2_8
    rw [own_Nand, own_Ns6, hd, show own_N (72340172838076673 : Int64) = own_B8 64 64 64 64 64 64 64 64 / 2 ^ 6 from by decide +kernel, show (64 : Nat) = 2 ^ 6 from rfl, ← Nat.and_div_two_pow, show (2 : Nat) ^ 6 = 64 from rfl]
    rw [own_mask8 64 _ _ _ _ _ _ _ _ (by decide) a0.1 a1.1 a2.1 a3.1 a4.1 a5.1 a6.1, a0.2.1, a1.2.1, a2.2.1, a3.2.1, a4.2.1, a5.2.1, a6.2.1, a7.2.1]
    unfold own_B8; omega
  have s2 : own_N (v2_20 d) = own_B8 n0 n1 n2 n3 n4 n5 n6 n7 := by
    unfold v2_20
    rw [own_Nadd, own_Nand, own_Nmul, hd, s1, show own_N (1085102592571150095 : Int64) = own_B8 15 15 15 15 15 15 15 15 from by decide +kernel, show own_N (9 : Int64) = 9 from by decide]
    rw [own_mask8 15 _ _ _ _ _ _ _ _ (by decide) a0.1 a1.1 a2.1 a3.1 a4.1 a5.1 a6.1]
    have b0 : own_L n0 < 2 := by unfold own_L; split <;> omega
    have b1 : own_L n1 < 2 := by unfold own_L; split <;> omega
    have b2 : own_L n2 < 2 := by unfold own_L; split <;> omega
    have b3 : own_L n3 < 2 := by unfold own_L; split <;> omega
    have b4 : own_L n4 < 2 := by unfold own_L; split <;> omega
    have b5 : own_L n5 < 2 := by unfold own_L; split <;> omega
    have b6 : own_L n6 < 2 := by unfold own_L; split <;> omega
    have b7 : own_L n7 < 2 := by unfold own_L; split <;> omega
    have c0 := a0.2.2; have c1 := a1.2.2; have c2 := a2.2.2; have c3 := a3.2.2; have c4 := a4.2.2; have c5 := a5.2.2; have c6 := a6.2.2; have c7 := a7.2.2
    unfold own_B8; omega
  clear s1 a0 a1 a2 a3 a4 a5 a6 a7 hd
  have q0 := own_p1 n0 h0 n1 h1
  have q1 := own_p1 n2 h2 n3 h3
  have q2 := own_p1 n4 h4 n5 h5
  have q3 := own_p1 n6 h6 n7 h7
  have s3 : own_N (v2_33 d) = 65536 * (65536 * (65536 * (n6 + 16 * n7) + (n4 + 16 * n5)) + (n2 + 16 * n3)) + (n0 + 16 * n1) := by
    unfold v2_33
    have e : own_N (v2_20 d) = 65536 * (65536 * (65536 * (n6 + 256 * n7) + (n4 + 256 * n5)) + (n2 + 256 * n3)) + (n0 + 256 * n1) := by rw [s2]; unfold own_B8; omega
    have m1 : own_N (71777214294589695 : Int64) = 65536 * (65536 * (65536 * 255 + 255) + 255) + 255 := by decide +kernel
    have m2 : own_N (71777214294589695 : Int64) = (65536 * (65536 * (65536 * 4080 + 4080) + 4080) + 4080) / 2 ^ 4 := by decide +kernel
    rw [own_Nand, own_Nor, own_Ns4, Nat.and_or_distrib_right]
    have l : own_N (v2_20 d) &&& own_N (71777214294589695 : Int64) = 65536 * (65536 * (65536 * n6 + n4) + n2) + n0 := by
      rw [e, m1, own_and16 _ _ _ _ (by omega) (by omega), own_and16 _ _ _ _ (by omega) (by omega), own_and16 _ _ _ _ (by omega) (by omega), q0.1, q1.1, q2.1, q3.1]
    have r : own_N (v2_20 d) / 16 &&& own_N (71777214294589695 : Int64) = 65536 * (65536 * (65536 * (16 * n7) + (16 * n5)) + (16 * n3)) + (16 * n1) := by
      rw [m2, show (16 : Nat) = 2 ^ 4 from rfl, ← Nat.and_div_two_pow, show (2 : Nat) ^ 4 = 16 from rfl, e, own_and16 _ _ _ _ (by omega) (by omega), own_and16 _ _ _ _ (by omega) (by omega), own_and16 _ _ _ _ (by omega) (by omega), q0.2.1, q1.2.1, q2.2.1, q3.2.1]
      omega
    rw [l, r, own_or16 _ _ _ _ (by omega) (by omega), own_or16 _ _ _ _ (by omega) (by omega), own_or16 _ _ _ _ (by omega) (by omega), q0.2.2, q1.2.2, q2.2.2, q3.2.2]
  clear q0 q1 q2 q3 s2
  obtain ⟨z0, e0⟩ : ∃ z, z = n0 + 16 * n1 := ⟨_, rfl⟩
  obtain ⟨z1, e1⟩ : ∃ z, z = n2 + 16 * n3 := ⟨_, rfl⟩
  obtain ⟨z2, e2⟩ : ∃ z, z = n4 + 16 * n5 := ⟨_, rfl⟩
  obtain ⟨z3, e3⟩ : ∃ z, z = n6 + 16 * n7 := ⟨_, rfl⟩
  rw [← e0, ← e1, ← e2, ← e3] at s3
  have t0 := own_p2 z0 z1 (by omega) (by omega)
  have t1 := own_p2 z2 z3 (by omega) (by omega)
  have s4 : own_N (v2_47 d) = 4294967296 * (z2 + 256 * z3) + (z0 + 256 * z1) := by
    unfold v2_47
    have e : own_N (v2_33 d) = 4294967296 * (65536 * z3 + z2) + (65536 * z1 + z0) := by rw [s3]; omega
    have m1 : own_N (281470681808895 : Int64) = 4294967296 * 65535 + 65535 := by decide +kernel
    have m2 : own_N (281470681808895 : Int64) = (4294967296 * 16776960 + 16776960) / 2 ^ 8 := by decide +kernel
    rw [own_Nand, own_Nor, own_Ns8, Nat.and_or_distrib_right]
    have l : own_N (v2_33 d) &&& own_N (281470681808895 : Int64) = 4294967296 * z2 + z0 := by
      rw [e, m1, own_and32 _ _ _ _ (by omega) (by omega), t0.1, t1.1]
    have r : own_N (v2_33 d) / 256 &&& own_N (281470681808895 : Int64) = 4294967296 * (256 * z3) + 256 * z1 := by
      rw [m2, show (256 : Nat) = 2 ^ 8 from rfl, ← Nat.and_div_two_pow, show (2 : Nat) ^ 8 = 256 from rfl, e, own_and32 _ _ _ _ (by omega) (by omega), t0.2.1, t1.2.1]
      omega
    rw [l, r, own_or32' _ _ _ _ (by omega) (by omega), t0.2.2, t1.2.2]
  clear t0 t1 s3
  unfold r2
  have m1 : own_N (4294967295 : Int64) = 2 ^ 32 - 1 := by decide +kernel
  rw [own_Nand, own_Nor, own_Ns16, Nat.and_or_distrib_right, m1, Nat.and_two_pow_sub_one_eq_mod, Nat.and_two_pow_sub_one_eq_mod, s4]
  rw [show (4294967296 * (z2 + 256 * z3) + (z0 + 256 * z1)) % 2 ^ 32 = z0 + 256 * z1 by omega, show (4294967296 * (z2 + 256 * z3) + (z0 + 256 * z1)) / 65536 % 2 ^ 32 = 65536 * (z2 + 256 * z3) by omega, own_p3 _ _ (by omega) (by omega)]
  omega
/-- one sign -/
theorem own_ascii (x : Int32) : own_N (r1 x) = own_A (x.toBitVec.toNat % 16) := by
  have e : (v1_4 x).toInt = x.toInt % 2 ^ 4 := by unfold v1_4; exact Jvm.Kit.i32_mask x _ (k := 4) (by decide) (by decide)
  have q : x.toInt % 16 = ((x.toBitVec.toNat % 16 : Nat) : Int) := by
    rw [show x.toInt = x.toBitVec.toInt from rfl, BitVec.toInt_eq_toNat_cond]; split <;> omega
  have key : ∀ (y : Int64) (n : Nat), n < 1000 → y.toInt = (n : Int) → own_N y = n := fun y n hn hy => by
    unfold own_N
    rw [show y.toInt = y.toBitVec.toInt from rfl, BitVec.toInt_eq_toNat_cond] at hy
    have b := y.toBitVec.isLt
    revert hy; split <;> omega
  have b : x.toBitVec.toNat % 16 < 16 := Nat.mod_lt _ (by decide)
  have c10 : (10 : Int32).toInt = 10 := rfl
  have c48 : (48 : Int32).toInt = 48 := rfl
  have c97 : (97 : Int32).toInt = 97 := rfl
  unfold r1 own_A
  by_cases h : v1_4 x < (10 : Int32)
  · rw [if_pos h]
    rw [Int32.lt_iff_toInt_lt, c10] at h
    rw [if_pos (by omega)]
    refine key _ _ (by omega) ?_
    rw [Jvm.Kit.i64_of_i32, Jvm.Kit.i32_add (by rw [c48]; omega) (by rw [c48]; omega), c48]; omega
  · rw [if_neg h]
    rw [Int32.lt_iff_toInt_lt, c10] at h
    rw [if_neg (by omega)]
    refine key _ _ (by omega) ?_
    have f : (v1_4 x - (10 : Int32)).toInt = (v1_4 x).toInt - 10 := by rw [Jvm.Kit.i32_sub (by rw [c10]; omega) (by rw [c10]; omega), c10]
    rw [Jvm.Kit.i64_of_i32, Jvm.Kit.i32_add (by rw [c97, f]; omega) (by rw [c97, f]; omega), c97, f]; omega
theorem own_Alt (n : Nat) (h : n < 16) : own_A n < 256 := (own_A1 n h).1
theorem own_app (x : Int64) (y : Int32) (d : Nat) (hd : d < 72057594037927936) (hx : own_N x = d) : own_N ((own_shlL x (8 : Int32)) ||| (r1 y)) = 256 * d + own_A (y.toBitVec.toNat % 16) := by
  have b := own_Alt (y.toBitVec.toNat % 16) (Nat.mod_lt _ (by decide))
  rw [own_Nor, own_Nl8, own_ascii, hx, show d * 256 % 18446744073709551616 = 2 ^ 8 * d by omega, own_or_add 8 _ _ b]
theorem own_sh (v : Int32) (k : Nat) (y : Int32) (hy : y.toBitVec = v.toBitVec >>> k) : y.toBitVec.toNat = v.toBitVec.toNat / 2 ^ k := by rw [hy, BitVec.toNat_ushiftRight, Nat.shiftRight_eq_div_pow]
set_option maxHeartbeats 4000000 in
theorem own_main (v : Int32) : r2 (v0_101 v) = ((v.toInt64) &&& (4294967295 : Int64)) := by
  obtain ⟨w, hw⟩ : ∃ w, w = v.toBitVec.toNat := ⟨_, rfl⟩
  have bw : w < 4294967296 := by rw [hw]; exact v.toBitVec.isLt
  have k28 := own_sh v 28 (own_ushr v 28) rfl
  have k24 := own_sh v 24 (own_ushr v 24) rfl
  have k20 := own_sh v 20 (own_ushr v 20) rfl
  have k16 := own_sh v 16 (own_ushr v 16) rfl
  have k12 := own_sh v 12 (own_ushr v 12) rfl
  have k8 := own_sh v 8 (own_ushr v 8) rfl
  have k4 := own_sh v 4 (own_ushr v 4) rfl
  rw [← hw] at k28 k24 k20 k16 k12 k8 k4
  have l : ∀ n, own_A (n % 16) < 256 := fun n => own_Alt _ (Nat.mod_lt _ (by decide))
  have d7 := own_app (0 : Int64) (own_ushr v 28) 0 (by decide) rfl
  have l7 := l (own_ushr v 28).toBitVec.toNat
  have d6 := own_app (v0_14 v) (own_ushr v 24) _ (by omega) d7
  have l6 := l (own_ushr v 24).toBitVec.toNat
  have d5 := own_app (v0_27 v) (own_ushr v 20) _ (by omega) d6
  have l5 := l (own_ushr v 20).toBitVec.toNat
  have d4 := own_app (v0_40 v) (own_ushr v 16) _ (by omega) d5
  have l4 := l (own_ushr v 16).toBitVec.toNat
  have d3 := own_app (v0_53 v) (own_ushr v 12) _ (by omega) d4
  have l3 := l (own_ushr v 12).toBitVec.toNat
  have d2 := own_app (v0_66 v) (own_ushr v 8) _ (by omega) d3
  have l2 := l (own_ushr v 8).toBitVec.toNat
  have d1 := own_app (v0_79 v) (own_ushr v 4) _ (by omega) d2
  have l1 := l (own_ushr v 4).toBitVec.toNat
  have d0 := own_app (v0_91 v) v _ (by omega) d1
  have hd : own_N (v0_101 v) = own_B8 (own_A (v.toBitVec.toNat % 16)) (own_A ((own_ushr v 4).toBitVec.toNat % 16)) (own_A ((own_ushr v 8).toBitVec.toNat % 16)) (own_A ((own_ushr v 12).toBitVec.toNat % 16)) (own_A ((own_ushr v 16).toBitVec.toNat % 16)) (own_A ((own_ushr v 20).toBitVec.toNat % 16)) (own_A ((own_ushr v 24).toBitVec.toNat % 16)) (own_A ((own_ushr v 28).toBitVec.toNat % 16)) := by
    unfold own_B8; unfold v0_101; rw [d0]; omega
  have m : ∀ n, n % 16 < 16 := fun n => Nat.mod_lt _ (by decide)
  have e := own_read (v0_101 v) _ _ _ _ _ _ _ _ (m _) (m _) (m _) (m _) (m _) (m _) (m _) (m _) hd
  rw [k28, k24, k20, k16, k12, k8, k4, ← hw] at e
  have e' : own_N (r2 (v0_101 v)) = w := by rw [e]; omega
  have f : ((v.toInt64) &&& (4294967295 : Int64)).toInt = v.toInt % 2 ^ 32 := by rw [Jvm.Kit.i64_mask _ _ (k := 32) (by decide) (by decide), Jvm.Kit.i64_of_i32]
  apply Int64.toInt_inj.mp
  rw [f, show (r2 (v0_101 v)).toInt = (r2 (v0_101 v)).toBitVec.toInt from rfl, BitVec.toInt_eq_toNat_cond, show (r2 (v0_101 v)).toBitVec.toNat = w from e', show v.toInt = v.toBitVec.toInt from rfl, BitVec.toInt_eq_toNat_cond, ← hw]
  split <;> split <;> omega
def Q0 (Z : State) (p0_0 : Int32) (h0 : Heap) (n0 : Nat) (v : Option Value) (h : Heap) (L : List Loc) : Prop := v = some (.int (1 : Int32)) ∧ Fr n0 L
set_option maxRecDepth 65536 in
set_option maxHeartbeats 40000000 in
theorem rm0 (l : Launch) (Z : State) (a0 : Array Value) (hw : ∀ d ∈ tables_1, d.before a0 Z = true) (ws : List Jvm.Cond) (p0_0 : Int32) (h0 : Heap) (n0 : Nat) (Z0 : n0 ≤ h0.size) :
    MetFree l x (head1 (Jvm.Cond.code x code maxLocals ret :: ws) room_1) (fun a U => a = #[(.int p0_0)] ∧ Z.Warmed39 U.vm ∧ U.heap = h0) (fun _ _ _ _ _ => True) (fun _ U o U' => ∃ v L, o = .returned v ∧ Q0 Z p0_0 h0 n0 v U'.heap L ∧ FrameEnd U o U' L room_1.cells room_1.slots) := by
  refine MetFree.of_bodySF (plainFor_of_name pn_0) hisR ?_
  intro p e s m args below meth c s₁ Bd hml0 hP hK
  obtain ⟨rfl, hZ, hh⟩ := hP
  have hx := Bd.exec
  have hby := Bd.bytes
  have hml : c.maxLocals = 3 := hml0
  have hown : s.vm.findClass "com/example/meterstone/meterstone/core/HexTextReadPinLaw" = some m.cls := findClass_of_methodNamed Bd.named
  have hnm := (name_of_methodNamed Bd.named Bd.method).1
  have X0 : Stand p l e room_1 s m #[(.int p0_0)] below meth c s₁ [] 0 0 := Stand.of_body Bd
  have e0 : s₁.heap = h0 := by rw [← hh, Bd.state]; rfl
  have N0 := Fr.nil n0
  have pre0 : ∀ t, Steps p.tables e below (s₁.setTop (mkF m 0 #[.val (.int p0_0), .unset, .unset] [])) t → Steps p.tables e below (s₁.setTop (entryFrame m #[(.int p0_0)] maxLocals)) t := fun t k => castTop (ef_0 m p0_0) k
  have pre1 : ∀ t, Steps p.tables e below (s₁.setTop (mkF m 10 #[.val (.int p0_0), .val (.long (0 : Int64)), .second] [(.int (own_ushr p0_0 (28 : Int32))), (.long (own_shlL (0 : Int64) (8 : Int32)))])) t → Steps p.tables e below (s₁.setTop (entryFrame m #[(.int p0_0)] maxLocals)) t := fun t k => pre0 t (by
    refine XS.lconst X0.here hx rfl (hb hby at_0) ?_
    show Steps p.tables e below (s₁.setTop (mkF m 1 #[.val (.int p0_0), .unset, .unset] [(.long (0 : Int64))])) _
    refine XS.lstoreN X0.here hx rfl (hb hby at_1) rfl (l' := #[.val (.int p0_0), .val (.long (0 : Int64)), .second]) rfl ?_
    show Steps p.tables e below (s₁.setTop (mkF m 2 #[.val (.int p0_0), .val (.long (0 : Int64)), .second] [])) _
    refine XS.lloadN X0.here hx rfl (hb hby at_2) rfl ?_
    show Steps p.tables e below (s₁.setTop (mkF m 3 #[.val (.int p0_0), .val (.long (0 : Int64)), .second] [(.long (0 : Int64))])) _
    refine XS.bipush X0.here hx rfl (hb hby at_3) ?_
    show Steps p.tables e below (s₁.setTop (mkF m 5 #[.val (.int p0_0), .val (.long (0 : Int64)), .second] [(.int (8 : Int32)), (.long (0 : Int64))])) _
    refine XS.lshl X0.here hx rfl (hb hby at_5) rfl ?_
    show Steps p.tables e below (s₁.setTop (mkF m 6 #[.val (.int p0_0), .val (.long (0 : Int64)), .second] [(.long (own_shlL (0 : Int64) (8 : Int32)))])) _
    refine XS.iloadN X0.here hx rfl (hb hby at_6) rfl ?_
    show Steps p.tables e below (s₁.setTop (mkF m 7 #[.val (.int p0_0), .val (.long (0 : Int64)), .second] [(.int p0_0), (.long (own_shlL (0 : Int64) (8 : Int32)))])) _
    refine XS.bipush X0.here hx rfl (hb hby at_7) ?_
    show Steps p.tables e below (s₁.setTop (mkF m 9 #[.val (.int p0_0), .val (.long (0 : Int64)), .second] [(.int (28 : Int32)), (.int p0_0), (.long (own_shlL (0 : Int64) (8 : Int32)))])) _
    refine XS.iushr X0.here hx rfl (hb hby at_9) rfl ?_
    show Steps p.tables e below (s₁.setTop (mkF m 10 #[.val (.int p0_0), .val (.long (0 : Int64)), .second] [(.int (own_ushr p0_0 (28 : Int32))), (.long (own_shlL (0 : Int64) (8 : Int32)))])) _
    exact k)
  obtain ⟨_, _, ⟨T2, L2, k2, n2⟩, -, X2, ⟨Lc2, hQ2, l2, y2, z2⟩, st2⟩ := Jvm.LawKit.callS X0 hx (y := (⟨"com/example/meterstone/meterstone/core/HexTextReadPinLaw", "ascii", "(I)J"⟩ : MethodName)) hown (mvT hZ (hw _ (List.mem_of_getElem? (i := 0) rfl))) (mvT hZ (hw _ (List.mem_of_getElem? (i := 1) rfl))) (mvT hZ (hw _ (List.mem_of_getElem? (i := 2) rfl))) (mvT hZ (hw _ (List.mem_of_getElem? (i := 3) rfl))) (by decide) (backOf (W := 2) (rm1 l Z a0 hw [] (own_ushr p0_0 (28 : Int32)) h0 n0 Z0 ) hZ (hw _ (List.mem_of_getElem? (i := 3) rfl)) (hw _ (List.mem_of_getElem? (i := 2) rfl)) (by decide) (by decide)) (g := (mkF m 10 #[.val (.int p0_0), .val (.long (0 : Int64)), .second] [(.int (own_ushr p0_0 (28 : Int32))), (.long (own_shlL (0 : Int64) (8 : Int32)))])) rfl (by rw [hml]; rfl) (argsL := [(.int (own_ushr p0_0 (28 : Int32)))]) (rest := [(.long (own_shlL (0 : Int64) (8 : Int32)))]) (lenOf pd_0 rfl) rfl (by show 2 * 0 + _ ≤ _; exact Nat.le_of_eq rfl) (hb hby at_10) (fun _ _ => ⟨rfl, e0, (by decide : 0 + 0 ≤ _), (by decide : 0 + 0 ≤ _)⟩)
  dsimp only [Pt.U, Pt.locs, Pt.cells, Pt.slots] at X2 l2 y2 z2 st2 hQ2
  subst l2 y2 z2
  obtain ⟨rfl, M2, e2⟩ := hQ2
  have N2 := Fr.app N0 M2
  have pre2 : ∀ t, Steps p.tables e below (T2.setTop (mkF m 13 #[.val (.int p0_0), .val (.long (0 : Int64)), .second] [(.long (r1 (own_ushr p0_0 (28 : Int32)))), (.long (own_shlL (0 : Int64) (8 : Int32)))])) t → Steps p.tables e below (s₁.setTop (entryFrame m #[(.int p0_0)] maxLocals)) t := fun t k => pre1 t (st2 t k)
  have pre3 : ∀ t, Steps p.tables e below (T2.setTop (mkF m 23 #[.val (.int p0_0), .val (.long (v0_14 p0_0)), .second] [(.int (own_ushr p0_0 (24 : Int32))), (.long (own_shlL (v0_14 p0_0) (8 : Int32)))])) t → Steps p.tables e below (s₁.setTop (entryFrame m #[(.int p0_0)] maxLocals)) t := fun t k => pre2 t (by
    refine XS.lor X2.here hx rfl (hb hby at_13) rfl ?_
    show Steps p.tables e below (T2.setTop (mkF m 14 #[.val (.int p0_0), .val (.long (0 : Int64)), .second] [(.long ((own_shlL (0 : Int64) (8 : Int32)) ||| (r1 (own_ushr p0_0 (28 : Int32)))))])) _
    show Steps p.tables e below (T2.setTop (mkF m 14 #[.val (.int p0_0), .val (.long (0 : Int64)), .second] [(.long (v0_14 p0_0))])) _
    refine XS.lstoreN X2.here hx rfl (hb hby at_14) rfl (l' := #[.val (.int p0_0), .val (.long (v0_14 p0_0)), .second]) rfl ?_
    show Steps p.tables e below (T2.setTop (mkF m 15 #[.val (.int p0_0), .val (.long (v0_14 p0_0)), .second] [])) _
    refine XS.lloadN X2.here hx rfl (hb hby at_15) rfl ?_
    show Steps p.tables e below (T2.setTop (mkF m 16 #[.val (.int p0_0), .val (.long (v0_14 p0_0)), .second] [(.long (v0_14 p0_0))])) _
    refine XS.bipush X2.here hx rfl (hb hby at_16) ?_
    show Steps p.tables e below (T2.setTop (mkF m 18 #[.val (.int p0_0), .val (.long (v0_14 p0_0)), .second] [(.int (8 : Int32)), (.long (v0_14 p0_0))])) _
    refine XS.lshl X2.here hx rfl (hb hby at_18) rfl ?_
    show Steps p.tables e below (T2.setTop (mkF m 19 #[.val (.int p0_0), .val (.long (v0_14 p0_0)), .second] [(.long (own_shlL (v0_14 p0_0) (8 : Int32)))])) _
    refine XS.iloadN X2.here hx rfl (hb hby at_19) rfl ?_
    show Steps p.tables e below (T2.setTop (mkF m 20 #[.val (.int p0_0), .val (.long (v0_14 p0_0)), .second] [(.int p0_0), (.long (own_shlL (v0_14 p0_0) (8 : Int32)))])) _
    refine XS.bipush X2.here hx rfl (hb hby at_20) ?_
    show Steps p.tables e below (T2.setTop (mkF m 22 #[.val (.int p0_0), .val (.long (v0_14 p0_0)), .second] [(.int (24 : Int32)), (.int p0_0), (.long (own_shlL (v0_14 p0_0) (8 : Int32)))])) _
    refine XS.iushr X2.here hx rfl (hb hby at_22) rfl ?_
    show Steps p.tables e below (T2.setTop (mkF m 23 #[.val (.int p0_0), .val (.long (v0_14 p0_0)), .second] [(.int (own_ushr p0_0 (24 : Int32))), (.long (own_shlL (v0_14 p0_0) (8 : Int32)))])) _
    exact k)
  obtain ⟨_, _, ⟨T4, L4, k4, n4⟩, -, X4, ⟨Lc4, hQ4, l4, y4, z4⟩, st4⟩ := Jvm.LawKit.callS X2 hx (y := (⟨"com/example/meterstone/meterstone/core/HexTextReadPinLaw", "ascii", "(I)J"⟩ : MethodName)) hown (mvT hZ (hw _ (List.mem_of_getElem? (i := 0) rfl))) (mvT hZ (hw _ (List.mem_of_getElem? (i := 1) rfl))) (mvT hZ (hw _ (List.mem_of_getElem? (i := 2) rfl))) (mvT hZ (hw _ (List.mem_of_getElem? (i := 3) rfl))) (by decide) (backOf (W := 2) (rm1 l Z a0 hw [] (own_ushr p0_0 (24 : Int32)) h0 n0 Z0 ) hZ (hw _ (List.mem_of_getElem? (i := 3) rfl)) (hw _ (List.mem_of_getElem? (i := 2) rfl)) (by decide) (by decide)) (g := (mkF m 23 #[.val (.int p0_0), .val (.long (v0_14 p0_0)), .second] [(.int (own_ushr p0_0 (24 : Int32))), (.long (own_shlL (v0_14 p0_0) (8 : Int32)))])) rfl (by rw [hml]; rfl) (argsL := [(.int (own_ushr p0_0 (24 : Int32)))]) (rest := [(.long (own_shlL (v0_14 p0_0) (8 : Int32)))]) (lenOf pd_0 rfl) rfl (by show 2 * 0 + _ ≤ _; exact Nat.le_of_eq rfl) (hb hby at_23) (fun _ _ => ⟨rfl, e2, (by decide : 0 + 0 ≤ _), (by decide : 0 + 0 ≤ _)⟩)
  dsimp only [Pt.U, Pt.locs, Pt.cells, Pt.slots] at X4 l4 y4 z4 st4 hQ4
  subst l4 y4 z4
  obtain ⟨rfl, M4, e4⟩ := hQ4
  have N4 := Fr.app N2 M4
  have pre4 : ∀ t, Steps p.tables e below (T4.setTop (mkF m 26 #[.val (.int p0_0), .val (.long (v0_14 p0_0)), .second] [(.long (r1 (own_ushr p0_0 (24 : Int32)))), (.long (own_shlL (v0_14 p0_0) (8 : Int32)))])) t → Steps p.tables e below (s₁.setTop (entryFrame m #[(.int p0_0)] maxLocals)) t := fun t k => pre3 t (st4 t k)
  have pre5 : ∀ t, Steps p.tables e below (T4.setTop (mkF m 36 #[.val (.int p0_0), .val (.long (v0_27 p0_0)), .second] [(.int (own_ushr p0_0 (20 : Int32))), (.long (own_shlL (v0_27 p0_0) (8 : Int32)))])) t → Steps p.tables e below (s₁.setTop (entryFrame m #[(.int p0_0)] maxLocals)) t := fun t k => pre4 t (by
    refine XS.lor X4.here hx rfl (hb hby at_26) rfl ?_
    show Steps p.tables e below (T4.setTop (mkF m 27 #[.val (.int p0_0), .val (.long (v0_14 p0_0)), .second] [(.long ((own_shlL (v0_14 p0_0) (8 : Int32)) ||| (r1 (own_ushr p0_0 (24 : Int32)))))])) _
    show Steps p.tables e below (T4.setTop (mkF m 27 #[.val (.int p0_0), .val (.long (v0_14 p0_0)), .second] [(.long (v0_27 p0_0))])) _
    refine XS.lstoreN X4.here hx rfl (hb hby at_27) rfl (l' := #[.val (.int p0_0), .val (.long (v0_27 p0_0)), .second]) rfl ?_
    show Steps p.tables e below (T4.setTop (mkF m 28 #[.val (.int p0_0), .val (.long (v0_27 p0_0)), .second] [])) _
    refine XS.lloadN X4.here hx rfl (hb hby at_28) rfl ?_
    show Steps p.tables e below (T4.setTop (mkF m 29 #[.val (.int p0_0), .val (.long (v0_27 p0_0)), .second] [(.long (v0_27 p0_0))])) _
    refine XS.bipush X4.here hx rfl (hb hby at_29) ?_
    show Steps p.tables e below (T4.setTop (mkF m 31 #[.val (.int p0_0), .val (.long (v0_27 p0_0)), .second] [(.int (8 : Int32)), (.long (v0_27 p0_0))])) _
    refine XS.lshl X4.here hx rfl (hb hby at_31) rfl ?_
    show Steps p.tables e below (T4.setTop (mkF m 32 #[.val (.int p0_0), .val (.long (v0_27 p0_0)), .second] [(.long (own_shlL (v0_27 p0_0) (8 : Int32)))])) _
    refine XS.iloadN X4.here hx rfl (hb hby at_32) rfl ?_
    show Steps p.tables e below (T4.setTop (mkF m 33 #[.val (.int p0_0), .val (.long (v0_27 p0_0)), .second] [(.int p0_0), (.long (own_shlL (v0_27 p0_0) (8 : Int32)))])) _
    refine XS.bipush X4.here hx rfl (hb hby at_33) ?_
    show Steps p.tables e below (T4.setTop (mkF m 35 #[.val (.int p0_0), .val (.long (v0_27 p0_0)), .second] [(.int (20 : Int32)), (.int p0_0), (.long (own_shlL (v0_27 p0_0) (8 : Int32)))])) _
    refine XS.iushr X4.here hx rfl (hb hby at_35) rfl ?_
    show Steps p.tables e below (T4.setTop (mkF m 36 #[.val (.int p0_0), .val (.long (v0_27 p0_0)), .second] [(.int (own_ushr p0_0 (20 : Int32))), (.long (own_shlL (v0_27 p0_0) (8 : Int32)))])) _
    exact k)
  obtain ⟨_, _, ⟨T6, L6, k6, n6⟩, -, X6, ⟨Lc6, hQ6, l6, y6, z6⟩, st6⟩ := Jvm.LawKit.callS X4 hx (y := (⟨"com/example/meterstone/meterstone/core/HexTextReadPinLaw", "ascii", "(I)J"⟩ : MethodName)) hown (mvT hZ (hw _ (List.mem_of_getElem? (i := 0) rfl))) (mvT hZ (hw _ (List.mem_of_getElem? (i := 1) rfl))) (mvT hZ (hw _ (List.mem_of_getElem? (i := 2) rfl))) (mvT hZ (hw _ (List.mem_of_getElem? (i := 3) rfl))) (by decide) (backOf (W := 2) (rm1 l Z a0 hw [] (own_ushr p0_0 (20 : Int32)) h0 n0 Z0 ) hZ (hw _ (List.mem_of_getElem? (i := 3) rfl)) (hw _ (List.mem_of_getElem? (i := 2) rfl)) (by decide) (by decide)) (g := (mkF m 36 #[.val (.int p0_0), .val (.long (v0_27 p0_0)), .second] [(.int (own_ushr p0_0 (20 : Int32))), (.long (own_shlL (v0_27 p0_0) (8 : Int32)))])) rfl (by rw [hml]; rfl) (argsL := [(.int (own_ushr p0_0 (20 : Int32)))]) (rest := [(.long (own_shlL (v0_27 p0_0) (8 : Int32)))]) (lenOf pd_0 rfl) rfl (by show 2 * 0 + _ ≤ _; exact Nat.le_of_eq rfl) (hb hby at_36) (fun _ _ => ⟨rfl, e4, (by decide : 0 + 0 ≤ _), (by decide : 0 + 0 ≤ _)⟩)
  dsimp only [Pt.U, Pt.locs, Pt.cells, Pt.slots] at X6 l6 y6 z6 st6 hQ6
  subst l6 y6 z6
  obtain ⟨rfl, M6, e6⟩ := hQ6
  have N6 := Fr.app N4 M6
  have pre6 : ∀ t, Steps p.tables e below (T6.setTop (mkF m 39 #[.val (.int p0_0), .val (.long (v0_27 p0_0)), .second] [(.long (r1 (own_ushr p0_0 (20 : Int32)))), (.long (own_shlL (v0_27 p0_0) (8 : Int32)))])) t → Steps p.tables e below (s₁.setTop (entryFrame m #[(.int p0_0)] maxLocals)) t := fun t k => pre5 t (st6 t k)
  have pre7 : ∀ t, Steps p.tables e below (T6.setTop (mkF m 49 #[.val (.int p0_0), .val (.long (v0_40 p0_0)), .second] [(.int (own_ushr p0_0 (16 : Int32))), (.long (own_shlL (v0_40 p0_0) (8 : Int32)))])) t → Steps p.tables e below (s₁.setTop (entryFrame m #[(.int p0_0)] maxLocals)) t := fun t k => pre6 t (by
    refine XS.lor X6.here hx rfl (hb hby at_39) rfl ?_
    show Steps p.tables e below (T6.setTop (mkF m 40 #[.val (.int p0_0), .val (.long (v0_27 p0_0)), .second] [(.long ((own_shlL (v0_27 p0_0) (8 : Int32)) ||| (r1 (own_ushr p0_0 (20 : Int32)))))])) _
    show Steps p.tables e below (T6.setTop (mkF m 40 #[.val (.int p0_0), .val (.long (v0_27 p0_0)), .second] [(.long (v0_40 p0_0))])) _
    refine XS.lstoreN X6.here hx rfl (hb hby at_40) rfl (l' := #[.val (.int p0_0), .val (.long (v0_40 p0_0)), .second]) rfl ?_
    show Steps p.tables e below (T6.setTop (mkF m 41 #[.val (.int p0_0), .val (.long (v0_40 p0_0)), .second] [])) _
    refine XS.lloadN X6.here hx rfl (hb hby at_41) rfl ?_
    show Steps p.tables e below (T6.setTop (mkF m 42 #[.val (.int p0_0), .val (.long (v0_40 p0_0)), .second] [(.long (v0_40 p0_0))])) _
    refine XS.bipush X6.here hx rfl (hb hby at_42) ?_
    show Steps p.tables e below (T6.setTop (mkF m 44 #[.val (.int p0_0), .val (.long (v0_40 p0_0)), .second] [(.int (8 : Int32)), (.long (v0_40 p0_0))])) _
    refine XS.lshl X6.here hx rfl (hb hby at_44) rfl ?_
    show Steps p.tables e below (T6.setTop (mkF m 45 #[.val (.int p0_0), .val (.long (v0_40 p0_0)), .second] [(.long (own_shlL (v0_40 p0_0) (8 : Int32)))])) _
    refine XS.iloadN X6.here hx rfl (hb hby at_45) rfl ?_
    show Steps p.tables e below (T6.setTop (mkF m 46 #[.val (.int p0_0), .val (.long (v0_40 p0_0)), .second] [(.int p0_0), (.long (own_shlL (v0_40 p0_0) (8 : Int32)))])) _
    refine XS.bipush X6.here hx rfl (hb hby at_46) ?_
    show Steps p.tables e below (T6.setTop (mkF m 48 #[.val (.int p0_0), .val (.long (v0_40 p0_0)), .second] [(.int (16 : Int32)), (.int p0_0), (.long (own_shlL (v0_40 p0_0) (8 : Int32)))])) _
    refine XS.iushr X6.here hx rfl (hb hby at_48) rfl ?_
    show Steps p.tables e below (T6.setTop (mkF m 49 #[.val (.int p0_0), .val (.long (v0_40 p0_0)), .second] [(.int (own_ushr p0_0 (16 : Int32))), (.long (own_shlL (v0_40 p0_0) (8 : Int32)))])) _
    exact k)
  obtain ⟨_, _, ⟨T8, L8, k8, n8⟩, -, X8, ⟨Lc8, hQ8, l8, y8, z8⟩, st8⟩ := Jvm.LawKit.callS X6 hx (y := (⟨"com/example/meterstone/meterstone/core/HexTextReadPinLaw", "ascii", "(I)J"⟩ : MethodName)) hown (mvT hZ (hw _ (List.mem_of_getElem? (i := 0) rfl))) (mvT hZ (hw _ (List.mem_of_getElem? (i := 1) rfl))) (mvT hZ (hw _ (List.mem_of_getElem? (i := 2) rfl))) (mvT hZ (hw _ (List.mem_of_getElem? (i := 3) rfl))) (by decide) (backOf (W := 2) (rm1 l Z a0 hw [] (own_ushr p0_0 (16 : Int32)) h0 n0 Z0 ) hZ (hw _ (List.mem_of_getElem? (i := 3) rfl)) (hw _ (List.mem_of_getElem? (i := 2) rfl)) (by decide) (by decide)) (g := (mkF m 49 #[.val (.int p0_0), .val (.long (v0_40 p0_0)), .second] [(.int (own_ushr p0_0 (16 : Int32))), (.long (own_shlL (v0_40 p0_0) (8 : Int32)))])) rfl (by rw [hml]; rfl) (argsL := [(.int (own_ushr p0_0 (16 : Int32)))]) (rest := [(.long (own_shlL (v0_40 p0_0) (8 : Int32)))]) (lenOf pd_0 rfl) rfl (by show 2 * 0 + _ ≤ _; exact Nat.le_of_eq rfl) (hb hby at_49) (fun _ _ => ⟨rfl, e6, (by decide : 0 + 0 ≤ _), (by decide : 0 + 0 ≤ _)⟩)
  dsimp only [Pt.U, Pt.locs, Pt.cells, Pt.slots] at X8 l8 y8 z8 st8 hQ8
  subst l8 y8 z8
  obtain ⟨rfl, M8, e8⟩ := hQ8
  have N8 := Fr.app N6 M8
  have pre8 : ∀ t, Steps p.tables e below (T8.setTop (mkF m 52 #[.val (.int p0_0), .val (.long (v0_40 p0_0)), .second] [(.long (r1 (own_ushr p0_0 (16 : Int32)))), (.long (own_shlL (v0_40 p0_0) (8 : Int32)))])) t → Steps p.tables e below (s₁.setTop (entryFrame m #[(.int p0_0)] maxLocals)) t := fun t k => pre7 t (st8 t k)
  have pre9 : ∀ t, Steps p.tables e below (T8.setTop (mkF m 62 #[.val (.int p0_0), .val (.long (v0_53 p0_0)), .second] [(.int (own_ushr p0_0 (12 : Int32))), (.long (own_shlL (v0_53 p0_0) (8 : Int32)))])) t → Steps p.tables e below (s₁.setTop (entryFrame m #[(.int p0_0)] maxLocals)) t := fun t k => pre8 t (by
    refine XS.lor X8.here hx rfl (hb hby at_52) rfl ?_
    show Steps p.tables e below (T8.setTop (mkF m 53 #[.val (.int p0_0), .val (.long (v0_40 p0_0)), .second] [(.long ((own_shlL (v0_40 p0_0) (8 : Int32)) ||| (r1 (own_ushr p0_0 (16 : Int32)))))])) _
    show Steps p.tables e below (T8.setTop (mkF m 53 #[.val (.int p0_0), .val (.long (v0_40 p0_0)), .second] [(.long (v0_53 p0_0))])) _
    refine XS.lstoreN X8.here hx rfl (hb hby at_53) rfl (l' := #[.val (.int p0_0), .val (.long (v0_53 p0_0)), .second]) rfl ?_
    show Steps p.tables e below (T8.setTop (mkF m 54 #[.val (.int p0_0), .val (.long (v0_53 p0_0)), .second] [])) _
    refine XS.lloadN X8.here hx rfl (hb hby at_54) rfl ?_
    show Steps p.tables e below (T8.setTop (mkF m 55 #[.val (.int p0_0), .val (.long (v0_53 p0_0)), .second] [(.long (v0_53 p0_0))])) _
    refine XS.bipush X8.here hx rfl (hb hby at_55) ?_
    show Steps p.tables e below (T8.setTop (mkF m 57 #[.val (.int p0_0), .val (.long (v0_53 p0_0)), .second] [(.int (8 : Int32)), (.long (v0_53 p0_0))])) _
    refine XS.lshl X8.here hx rfl (hb hby at_57) rfl ?_
    show Steps p.tables e below (T8.setTop (mkF m 58 #[.val (.int p0_0), .val (.long (v0_53 p0_0)), .second] [(.long (own_shlL (v0_53 p0_0) (8 : Int32)))])) _
    refine XS.iloadN X8.here hx rfl (hb hby at_58) rfl ?_
    show Steps p.tables e below (T8.setTop (mkF m 59 #[.val (.int p0_0), .val (.long (v0_53 p0_0)), .second] [(.int p0_0), (.long (own_shlL (v0_53 p0_0) (8 : Int32)))])) _
    refine XS.bipush X8.here hx rfl (hb hby at_59) ?_
    show Steps p.tables e below (T8.setTop (mkF m 61 #[.val (.int p0_0), .val (.long (v0_53 p0_0)), .second] [(.int (12 : Int32)), (.int p0_0), (.long (own_shlL (v0_53 p0_0) (8 : Int32)))])) _
    refine XS.iushr X8.here hx rfl (hb hby at_61) rfl ?_
    show Steps p.tables e below (T8.setTop (mkF m 62 #[.val (.int p0_0), .val (.long (v0_53 p0_0)), .second] [(.int (own_ushr p0_0 (12 : Int32))), (.long (own_shlL (v0_53 p0_0) (8 : Int32)))])) _
    exact k)
  obtain ⟨_, _, ⟨T10, L10, k10, n10⟩, -, X10, ⟨Lc10, hQ10, l10, y10, z10⟩, st10⟩ := Jvm.LawKit.callS X8 hx (y := (⟨"com/example/meterstone/meterstone/core/HexTextReadPinLaw", "ascii", "(I)J"⟩ : MethodName)) hown (mvT hZ (hw _ (List.mem_of_getElem? (i := 0) rfl))) (mvT hZ (hw _ (List.mem_of_getElem? (i := 1) rfl))) (mvT hZ (hw _ (List.mem_of_getElem? (i := 2) rfl))) (mvT hZ (hw _ (List.mem_of_getElem? (i := 3) rfl))) (by decide) (backOf (W := 2) (rm1 l Z a0 hw [] (own_ushr p0_0 (12 : Int32)) h0 n0 Z0 ) hZ (hw _ (List.mem_of_getElem? (i := 3) rfl)) (hw _ (List.mem_of_getElem? (i := 2) rfl)) (by decide) (by decide)) (g := (mkF m 62 #[.val (.int p0_0), .val (.long (v0_53 p0_0)), .second] [(.int (own_ushr p0_0 (12 : Int32))), (.long (own_shlL (v0_53 p0_0) (8 : Int32)))])) rfl (by rw [hml]; rfl) (argsL := [(.int (own_ushr p0_0 (12 : Int32)))]) (rest := [(.long (own_shlL (v0_53 p0_0) (8 : Int32)))]) (lenOf pd_0 rfl) rfl (by show 2 * 0 + _ ≤ _; exact Nat.le_of_eq rfl) (hb hby at_62) (fun _ _ => ⟨rfl, e8, (by decide : 0 + 0 ≤ _), (by decide : 0 + 0 ≤ _)⟩)
  dsimp only [Pt.U, Pt.locs, Pt.cells, Pt.slots] at X10 l10 y10 z10 st10 hQ10
  subst l10 y10 z10
  obtain ⟨rfl, M10, e10⟩ := hQ10
  have N10 := Fr.app N8 M10
  have pre10 : ∀ t, Steps p.tables e below (T10.setTop (mkF m 65 #[.val (.int p0_0), .val (.long (v0_53 p0_0)), .second] [(.long (r1 (own_ushr p0_0 (12 : Int32)))), (.long (own_shlL (v0_53 p0_0) (8 : Int32)))])) t → Steps p.tables e below (s₁.setTop (entryFrame m #[(.int p0_0)] maxLocals)) t := fun t k => pre9 t (st10 t k)
  have pre11 : ∀ t, Steps p.tables e below (T10.setTop (mkF m 75 #[.val (.int p0_0), .val (.long (v0_66 p0_0)), .second] [(.int (own_ushr p0_0 (8 : Int32))), (.long (own_shlL (v0_66 p0_0) (8 : Int32)))])) t → Steps p.tables e below (s₁.setTop (entryFrame m #[(.int p0_0)] maxLocals)) t := fun t k => pre10 t (by
    refine XS.lor X10.here hx rfl (hb hby at_65) rfl ?_
    show Steps p.tables e below (T10.setTop (mkF m 66 #[.val (.int p0_0), .val (.long (v0_53 p0_0)), .second] [(.long ((own_shlL (v0_53 p0_0) (8 : Int32)) ||| (r1 (own_ushr p0_0 (12 : Int32)))))])) _
    show Steps p.tables e below (T10.setTop (mkF m 66 #[.val (.int p0_0), .val (.long (v0_53 p0_0)), .second] [(.long (v0_66 p0_0))])) _
    refine XS.lstoreN X10.here hx rfl (hb hby at_66) rfl (l' := #[.val (.int p0_0), .val (.long (v0_66 p0_0)), .second]) rfl ?_
    show Steps p.tables e below (T10.setTop (mkF m 67 #[.val (.int p0_0), .val (.long (v0_66 p0_0)), .second] [])) _
    refine XS.lloadN X10.here hx rfl (hb hby at_67) rfl ?_
    show Steps p.tables e below (T10.setTop (mkF m 68 #[.val (.int p0_0), .val (.long (v0_66 p0_0)), .second] [(.long (v0_66 p0_0))])) _
    refine XS.bipush X10.here hx rfl (hb hby at_68) ?_
    show Steps p.tables e below (T10.setTop (mkF m 70 #[.val (.int p0_0), .val (.long (v0_66 p0_0)), .second] [(.int (8 : Int32)), (.long (v0_66 p0_0))])) _
    refine XS.lshl X10.here hx rfl (hb hby at_70) rfl ?_
    show Steps p.tables e below (T10.setTop (mkF m 71 #[.val (.int p0_0), .val (.long (v0_66 p0_0)), .second] [(.long (own_shlL (v0_66 p0_0) (8 : Int32)))])) _
    refine XS.iloadN X10.here hx rfl (hb hby at_71) rfl ?_
    show Steps p.tables e below (T10.setTop (mkF m 72 #[.val (.int p0_0), .val (.long (v0_66 p0_0)), .second] [(.int p0_0), (.long (own_shlL (v0_66 p0_0) (8 : Int32)))])) _
    refine XS.bipush X10.here hx rfl (hb hby at_72) ?_
    show Steps p.tables e below (T10.setTop (mkF m 74 #[.val (.int p0_0), .val (.long (v0_66 p0_0)), .second] [(.int (8 : Int32)), (.int p0_0), (.long (own_shlL (v0_66 p0_0) (8 : Int32)))])) _
    refine XS.iushr X10.here hx rfl (hb hby at_74) rfl ?_
    show Steps p.tables e below (T10.setTop (mkF m 75 #[.val (.int p0_0), .val (.long (v0_66 p0_0)), .second] [(.int (own_ushr p0_0 (8 : Int32))), (.long (own_shlL (v0_66 p0_0) (8 : Int32)))])) _
    exact k)
  obtain ⟨_, _, ⟨T12, L12, k12, n12⟩, -, X12, ⟨Lc12, hQ12, l12, y12, z12⟩, st12⟩ := Jvm.LawKit.callS X10 hx (y := (⟨"com/example/meterstone/meterstone/core/HexTextReadPinLaw", "ascii", "(I)J"⟩ : MethodName)) hown (mvT hZ (hw _ (List.mem_of_getElem? (i := 0) rfl))) (mvT hZ (hw _ (List.mem_of_getElem? (i := 1) rfl))) (mvT hZ (hw _ (List.mem_of_getElem? (i := 2) rfl))) (mvT hZ (hw _ (List.mem_of_getElem? (i := 3) rfl))) (by decide) (backOf (W := 2) (rm1 l Z a0 hw [] (own_ushr p0_0 (8 : Int32)) h0 n0 Z0 ) hZ (hw _ (List.mem_of_getElem? (i := 3) rfl)) (hw _ (List.mem_of_getElem? (i := 2) rfl)) (by decide) (by decide)) (g := (mkF m 75 #[.val (.int p0_0), .val (.long (v0_66 p0_0)), .second] [(.int (own_ushr p0_0 (8 : Int32))), (.long (own_shlL (v0_66 p0_0) (8 : Int32)))])) rfl (by rw [hml]; rfl) (argsL := [(.int (own_ushr p0_0 (8 : Int32)))]) (rest := [(.long (own_shlL (v0_66 p0_0) (8 : Int32)))]) (lenOf pd_0 rfl) rfl (by show 2 * 0 + _ ≤ _; exact Nat.le_of_eq rfl) (hb hby at_75) (fun _ _ => ⟨rfl, e10, (by decide : 0 + 0 ≤ _), (by decide : 0 + 0 ≤ _)⟩)
  dsimp only [Pt.U, Pt.locs, Pt.cells, Pt.slots] at X12 l12 y12 z12 st12 hQ12
  subst l12 y12 z12
  obtain ⟨rfl, M12, e12⟩ := hQ12
  have N12 := Fr.app N10 M12
  have pre12 : ∀ t, Steps p.tables e below (T12.setTop (mkF m 78 #[.val (.int p0_0), .val (.long (v0_66 p0_0)), .second] [(.long (r1 (own_ushr p0_0 (8 : Int32)))), (.long (own_shlL (v0_66 p0_0) (8 : Int32)))])) t → Steps p.tables e below (s₁.setTop (entryFrame m #[(.int p0_0)] maxLocals)) t := fun t k => pre11 t (st12 t k)
  have pre13 : ∀ t, Steps p.tables e below (T12.setTop (mkF m 87 #[.val (.int p0_0), .val (.long (v0_79 p0_0)), .second] [(.int (own_ushr p0_0 (4 : Int32))), (.long (own_shlL (v0_79 p0_0) (8 : Int32)))])) t → Steps p.tables e below (s₁.setTop (entryFrame m #[(.int p0_0)] maxLocals)) t := fun t k => pre12 t (by
    refine XS.lor X12.here hx rfl (hb hby at_78) rfl ?_
    show Steps p.tables e below (T12.setTop (mkF m 79 #[.val (.int p0_0), .val (.long (v0_66 p0_0)), .second] [(.long ((own_shlL (v0_66 p0_0) (8 : Int32)) ||| (r1 (own_ushr p0_0 (8 : Int32)))))])) _
    show Steps p.tables e below (T12.setTop (mkF m 79 #[.val (.int p0_0), .val (.long (v0_66 p0_0)), .second] [(.long (v0_79 p0_0))])) _
    refine XS.lstoreN X12.here hx rfl (hb hby at_79) rfl (l' := #[.val (.int p0_0), .val (.long (v0_79 p0_0)), .second]) rfl ?_
    show Steps p.tables e below (T12.setTop (mkF m 80 #[.val (.int p0_0), .val (.long (v0_79 p0_0)), .second] [])) _
    refine XS.lloadN X12.here hx rfl (hb hby at_80) rfl ?_
    show Steps p.tables e below (T12.setTop (mkF m 81 #[.val (.int p0_0), .val (.long (v0_79 p0_0)), .second] [(.long (v0_79 p0_0))])) _
    refine XS.bipush X12.here hx rfl (hb hby at_81) ?_
    show Steps p.tables e below (T12.setTop (mkF m 83 #[.val (.int p0_0), .val (.long (v0_79 p0_0)), .second] [(.int (8 : Int32)), (.long (v0_79 p0_0))])) _
    refine XS.lshl X12.here hx rfl (hb hby at_83) rfl ?_
    show Steps p.tables e below (T12.setTop (mkF m 84 #[.val (.int p0_0), .val (.long (v0_79 p0_0)), .second] [(.long (own_shlL (v0_79 p0_0) (8 : Int32)))])) _
    refine XS.iloadN X12.here hx rfl (hb hby at_84) rfl ?_
    show Steps p.tables e below (T12.setTop (mkF m 85 #[.val (.int p0_0), .val (.long (v0_79 p0_0)), .second] [(.int p0_0), (.long (own_shlL (v0_79 p0_0) (8 : Int32)))])) _
    refine XS.iconst X12.here hx rfl (hb hby at_85) ?_
    show Steps p.tables e below (T12.setTop (mkF m 86 #[.val (.int p0_0), .val (.long (v0_79 p0_0)), .second] [(.int (4 : Int32)), (.int p0_0), (.long (own_shlL (v0_79 p0_0) (8 : Int32)))])) _
    refine XS.iushr X12.here hx rfl (hb hby at_86) rfl ?_
    show Steps p.tables e below (T12.setTop (mkF m 87 #[.val (.int p0_0), .val (.long (v0_79 p0_0)), .second] [(.int (own_ushr p0_0 (4 : Int32))), (.long (own_shlL (v0_79 p0_0) (8 : Int32)))])) _
    exact k)
  obtain ⟨_, _, ⟨T14, L14, k14, n14⟩, -, X14, ⟨Lc14, hQ14, l14, y14, z14⟩, st14⟩ := Jvm.LawKit.callS X12 hx (y := (⟨"com/example/meterstone/meterstone/core/HexTextReadPinLaw", "ascii", "(I)J"⟩ : MethodName)) hown (mvT hZ (hw _ (List.mem_of_getElem? (i := 0) rfl))) (mvT hZ (hw _ (List.mem_of_getElem? (i := 1) rfl))) (mvT hZ (hw _ (List.mem_of_getElem? (i := 2) rfl))) (mvT hZ (hw _ (List.mem_of_getElem? (i := 3) rfl))) (by decide) (backOf (W := 2) (rm1 l Z a0 hw [] (own_ushr p0_0 (4 : Int32)) h0 n0 Z0 ) hZ (hw _ (List.mem_of_getElem? (i := 3) rfl)) (hw _ (List.mem_of_getElem? (i := 2) rfl)) (by decide) (by decide)) (g := (mkF m 87 #[.val (.int p0_0), .val (.long (v0_79 p0_0)), .second] [(.int (own_ushr p0_0 (4 : Int32))), (.long (own_shlL (v0_79 p0_0) (8 : Int32)))])) rfl (by rw [hml]; rfl) (argsL := [(.int (own_ushr p0_0 (4 : Int32)))]) (rest := [(.long (own_shlL (v0_79 p0_0) (8 : Int32)))]) (lenOf pd_0 rfl) rfl (by show 2 * 0 + _ ≤ _; exact Nat.le_of_eq rfl) (hb hby at_87) (fun _ _ => ⟨rfl, e12, (by decide : 0 + 0 ≤ _), (by decide : 0 + 0 ≤ _)⟩)
  dsimp only [Pt.U, Pt.locs, Pt.cells, Pt.slots] at X14 l14 y14 z14 st14 hQ14
  subst l14 y14 z14
  obtain ⟨rfl, M14, e14⟩ := hQ14
  have N14 := Fr.app N12 M14
  have pre14 : ∀ t, Steps p.tables e below (T14.setTop (mkF m 90 #[.val (.int p0_0), .val (.long (v0_79 p0_0)), .second] [(.long (r1 (own_ushr p0_0 (4 : Int32)))), (.long (own_shlL (v0_79 p0_0) (8 : Int32)))])) t → Steps p.tables e below (s₁.setTop (entryFrame m #[(.int p0_0)] maxLocals)) t := fun t k => pre13 t (st14 t k)
  have pre15 : ∀ t, Steps p.tables e below (T14.setTop (mkF m 97 #[.val (.int p0_0), .val (.long (v0_91 p0_0)), .second] [(.int p0_0), (.long (own_shlL (v0_91 p0_0) (8 : Int32)))])) t → Steps p.tables e below (s₁.setTop (entryFrame m #[(.int p0_0)] maxLocals)) t := fun t k => pre14 t (by
    refine XS.lor X14.here hx rfl (hb hby at_90) rfl ?_
    show Steps p.tables e below (T14.setTop (mkF m 91 #[.val (.int p0_0), .val (.long (v0_79 p0_0)), .second] [(.long ((own_shlL (v0_79 p0_0) (8 : Int32)) ||| (r1 (own_ushr p0_0 (4 : Int32)))))])) _
    show Steps p.tables e below (T14.setTop (mkF m 91 #[.val (.int p0_0), .val (.long (v0_79 p0_0)), .second] [(.long (v0_91 p0_0))])) _
    refine XS.lstoreN X14.here hx rfl (hb hby at_91) rfl (l' := #[.val (.int p0_0), .val (.long (v0_91 p0_0)), .second]) rfl ?_
    show Steps p.tables e below (T14.setTop (mkF m 92 #[.val (.int p0_0), .val (.long (v0_91 p0_0)), .second] [])) _
    refine XS.lloadN X14.here hx rfl (hb hby at_92) rfl ?_
    show Steps p.tables e below (T14.setTop (mkF m 93 #[.val (.int p0_0), .val (.long (v0_91 p0_0)), .second] [(.long (v0_91 p0_0))])) _
    refine XS.bipush X14.here hx rfl (hb hby at_93) ?_
    show Steps p.tables e below (T14.setTop (mkF m 95 #[.val (.int p0_0), .val (.long (v0_91 p0_0)), .second] [(.int (8 : Int32)), (.long (v0_91 p0_0))])) _
    refine XS.lshl X14.here hx rfl (hb hby at_95) rfl ?_
    show Steps p.tables e below (T14.setTop (mkF m 96 #[.val (.int p0_0), .val (.long (v0_91 p0_0)), .second] [(.long (own_shlL (v0_91 p0_0) (8 : Int32)))])) _
    refine XS.iloadN X14.here hx rfl (hb hby at_96) rfl ?_
    show Steps p.tables e below (T14.setTop (mkF m 97 #[.val (.int p0_0), .val (.long (v0_91 p0_0)), .second] [(.int p0_0), (.long (own_shlL (v0_91 p0_0) (8 : Int32)))])) _
    exact k)
  obtain ⟨_, _, ⟨T16, L16, k16, n16⟩, -, X16, ⟨Lc16, hQ16, l16, y16, z16⟩, st16⟩ := Jvm.LawKit.callS X14 hx (y := (⟨"com/example/meterstone/meterstone/core/HexTextReadPinLaw", "ascii", "(I)J"⟩ : MethodName)) hown (mvT hZ (hw _ (List.mem_of_getElem? (i := 0) rfl))) (mvT hZ (hw _ (List.mem_of_getElem? (i := 1) rfl))) (mvT hZ (hw _ (List.mem_of_getElem? (i := 2) rfl))) (mvT hZ (hw _ (List.mem_of_getElem? (i := 3) rfl))) (by decide) (backOf (W := 2) (rm1 l Z a0 hw [] p0_0 h0 n0 Z0 ) hZ (hw _ (List.mem_of_getElem? (i := 3) rfl)) (hw _ (List.mem_of_getElem? (i := 2) rfl)) (by decide) (by decide)) (g := (mkF m 97 #[.val (.int p0_0), .val (.long (v0_91 p0_0)), .second] [(.int p0_0), (.long (own_shlL (v0_91 p0_0) (8 : Int32)))])) rfl (by rw [hml]; rfl) (argsL := [(.int p0_0)]) (rest := [(.long (own_shlL (v0_91 p0_0) (8 : Int32)))]) (lenOf pd_0 rfl) rfl (by show 2 * 0 + _ ≤ _; exact Nat.le_of_eq rfl) (hb hby at_97) (fun _ _ => ⟨rfl, e14, (by decide : 0 + 0 ≤ _), (by decide : 0 + 0 ≤ _)⟩)
  dsimp only [Pt.U, Pt.locs, Pt.cells, Pt.slots] at X16 l16 y16 z16 st16 hQ16
  subst l16 y16 z16
  obtain ⟨rfl, M16, e16⟩ := hQ16
  have N16 := Fr.app N14 M16
  have pre16 : ∀ t, Steps p.tables e below (T16.setTop (mkF m 100 #[.val (.int p0_0), .val (.long (v0_91 p0_0)), .second] [(.long (r1 p0_0)), (.long (own_shlL (v0_91 p0_0) (8 : Int32)))])) t → Steps p.tables e below (s₁.setTop (entryFrame m #[(.int p0_0)] maxLocals)) t := fun t k => pre15 t (st16 t k)
  have pre17 : ∀ t, Steps p.tables e below (T16.setTop (mkF m 103 #[.val (.int p0_0), .val (.long (v0_101 p0_0)), .second] [(.long (v0_101 p0_0))])) t → Steps p.tables e below (s₁.setTop (entryFrame m #[(.int p0_0)] maxLocals)) t := fun t k => pre16 t (by
    refine XS.lor X16.here hx rfl (hb hby at_100) rfl ?_
    show Steps p.tables e below (T16.setTop (mkF m 101 #[.val (.int p0_0), .val (.long (v0_91 p0_0)), .second] [(.long ((own_shlL (v0_91 p0_0) (8 : Int32)) ||| (r1 p0_0)))])) _
    show Steps p.tables e below (T16.setTop (mkF m 101 #[.val (.int p0_0), .val (.long (v0_91 p0_0)), .second] [(.long (v0_101 p0_0))])) _
    refine XS.lstoreN X16.here hx rfl (hb hby at_101) rfl (l' := #[.val (.int p0_0), .val (.long (v0_101 p0_0)), .second]) rfl ?_
    show Steps p.tables e below (T16.setTop (mkF m 102 #[.val (.int p0_0), .val (.long (v0_101 p0_0)), .second] [])) _
    refine XS.lloadN X16.here hx rfl (hb hby at_102) rfl ?_
    show Steps p.tables e below (T16.setTop (mkF m 103 #[.val (.int p0_0), .val (.long (v0_101 p0_0)), .second] [(.long (v0_101 p0_0))])) _
    exact k)
  obtain ⟨_, _, ⟨T18, L18, k18, n18⟩, -, X18, ⟨Lc18, hQ18, l18, y18, z18⟩, st18⟩ := Jvm.LawKit.callS X16 hx (y := (⟨"com/example/meterstone/meterstone/core/HexText", "read", "(J)J"⟩ : MethodName)) hown (mvT hZ (hw _ (List.mem_of_getElem? (i := 4) rfl))) (mvT hZ (hw _ (List.mem_of_getElem? (i := 5) rfl))) (mvT hZ (hw _ (List.mem_of_getElem? (i := 6) rfl))) (mvT hZ (hw _ (List.mem_of_getElem? (i := 7) rfl))) (by decide) (backOf (W := 0) (rm2 l Z a0 hw [] (v0_101 p0_0) h0 n0 Z0 ) hZ (hw _ (List.mem_of_getElem? (i := 7) rfl)) (hw _ (List.mem_of_getElem? (i := 6) rfl)) (by decide) (by decide)) (g := (mkF m 103 #[.val (.int p0_0), .val (.long (v0_101 p0_0)), .second] [(.long (v0_101 p0_0))])) rfl (by rw [hml]; rfl) (argsL := [(.long (v0_101 p0_0))]) (rest := []) (lenOf pd_1 rfl) rfl (by show 2 * 0 + _ ≤ _; exact Nat.le_of_eq rfl) (hb hby at_103) (fun _ _ => ⟨rfl, e16, (by decide : 0 + 0 ≤ _), (by decide : 0 + 0 ≤ _)⟩)
  dsimp only [Pt.U, Pt.locs, Pt.cells, Pt.slots] at X18 l18 y18 z18 st18 hQ18
  subst l18 y18 z18
  obtain ⟨rfl, M18, e18⟩ := hQ18
  have N18 := Fr.app N16 M18
  have pre18 : ∀ t, Steps p.tables e below (T18.setTop (mkF m 106 #[.val (.int p0_0), .val (.long (v0_101 p0_0)), .second] [(.long (r2 (v0_101 p0_0)))])) t → Steps p.tables e below (s₁.setTop (entryFrame m #[(.int p0_0)] maxLocals)) t := fun t k => pre17 t (st18 t k)
  have pre20 : ∀ t, Steps p.tables e below (T18.setTop (mkF m 121 #[.val (.int p0_0), .val (.long (v0_101 p0_0)), .second] [(.int (1 : Int32))])) t → Steps p.tables e below (s₁.setTop (entryFrame m #[(.int p0_0)] maxLocals)) t := fun t k => pre18 t (by
    refine XS.iloadN X18.here hx rfl (hb hby at_106) rfl ?_
    show Steps p.tables e below (T18.setTop (mkF m 107 #[.val (.int p0_0), .val (.long (v0_101 p0_0)), .second] [(.int p0_0), (.long (r2 (v0_101 p0_0)))])) _
    refine XS.i2l X18.here hx rfl (hb hby at_107) rfl ?_
    show Steps p.tables e below (T18.setTop (mkF m 108 #[.val (.int p0_0), .val (.long (v0_101 p0_0)), .second] [(.long ((p0_0).toInt64)), (.long (r2 (v0_101 p0_0)))])) _
    refine X18.ldc2Long hx hown (mvT hZ (hw _ (List.mem_of_getElem? (i := 14) rfl))) (g := (mkF m 108 #[.val (.int p0_0), .val (.long (v0_101 p0_0)), .second] [(.long ((p0_0).toInt64)), (.long (r2 (v0_101 p0_0)))])) rfl (hb hby at_108) _ ?_
    show Steps p.tables e below (T18.setTop (mkF m 111 #[.val (.int p0_0), .val (.long (v0_101 p0_0)), .second] [(.long (4294967295 : Int64)), (.long ((p0_0).toInt64)), (.long (r2 (v0_101 p0_0)))])) _
    refine XS.land X18.here hx rfl (hb hby at_111) rfl ?_
    show Steps p.tables e below (T18.setTop (mkF m 112 #[.val (.int p0_0), .val (.long (v0_101 p0_0)), .second] [(.long (((p0_0).toInt64) &&& (4294967295 : Int64))), (.long (r2 (v0_101 p0_0)))])) _
    refine XS.lcmp X18.here hx rfl (hb hby at_112) rfl ?_
    show Steps p.tables e below (T18.setTop (mkF m 113 #[.val (.int p0_0), .val (.long (v0_101 p0_0)), .second] [(.int (lcmpW (r2 (v0_101 p0_0)) (((p0_0).toInt64) &&& (4294967295 : Int64))))])) _
    refine XS.ifNo X18.here hx rfl (hb hby at_113) rfl ((if0 _ _).trans (teq ((lw_eq (r2 (v0_101 p0_0)) (((p0_0).toInt64) &&& (4294967295 : Int64))).mpr (show (r2 (v0_101 p0_0)) = (((p0_0).toInt64) &&& (4294967295 : Int64)) from (own_main p0_0)))).2) ?_
    show Steps p.tables e below (T18.setTop (mkF m 116 #[.val (.int p0_0), .val (.long (v0_101 p0_0)), .second] [])) _
    refine XS.iconst X18.here hx rfl (hb hby at_116) ?_
    show Steps p.tables e below (T18.setTop (mkF m 117 #[.val (.int p0_0), .val (.long (v0_101 p0_0)), .second] [(.int (1 : Int32))])) _
    refine XS.goto X18.here hx rfl (pc0 := 117) (pc' := 121) rfl (hb hby at_117) (by decide) (by decide) ?_
    show Steps p.tables e below (T18.setTop (mkF m 121 #[.val (.int p0_0), .val (.long (v0_101 p0_0)), .second] [(.int (1 : Int32))])) _
    exact k)
  obtain ⟨fs, hr, hrun, hended, hW, hsame⟩ := X18.leave (v := some (.int (1 : Int32))) (fun h => by rw [Bd.returns] at h; cases h)
  refine ⟨_, _, pre20 _ ?_, hrun, hended, _, _, rfl, ?_, ⟨_, rfl⟩, hW, hsame.mono (by decide) (by decide)⟩
  · show Steps p.tables e below (T18.setTop (mkF m 121 #[.val (.int p0_0), .val (.long (v0_101 p0_0)), .second] [(.int (1 : Int32))])) _
    exact retN X18 hx (t := .boolean) Bd.returns (by simp) (hb hby at_121) hr
  · show Q0 Z p0_0 h0 n0 _ T18.heap _
    rw [e18]
    exact ⟨rfl, N18⟩
set_option maxRecDepth 65536 in
set_option maxHeartbeats 40000000 in
theorem comes_1 {Post : Tables → Env → Array Value → State → Outcome → State → Prop} (hpost : ∀ tb e args s v u, (limb_1_1.after args s (.returned v) u = true ∧ limb_1_2.after args s (.returned v) u = true ∧ True) → FrameEnd s (.returned v) u (Jvm.fieldLocs frame_1_writes args s ++ Jvm.arrayLocs frame_1_arrays args s ++ Jvm.staticLocs frame_1_statics s) 0 0 → Post tb e args s (.returned v) u) :
    ArmFor flags0 classFile x code maxLocals ret World_1 tables_1 room_1 Calls_1 rest_1 Pre_1 Post := by
  intro l hfl _ _ p e ha hc hk s m args below hf hA hF happ hP
  obtain ⟨hcalls, hrest, hpre⟩ := hP
  obtain ⟨-, -, -, hnamed, -, -, -, hat⟩ := (Spec.applies_iff hf).mp happ
  obtain ⟨hg, hn⟩ := and_e (Cond.before_iff.mp (show (Jvm.Cond.and given_1 narrow_1).before args s = true from hpre))
  obtain ⟨gc, g0⟩ := and_e hg
  obtain ⟨w0, rfl⟩ : ∃ w0 : Value, args = #[w0] := by
    have hs : args.size = 1 := by simpa [Cond.value, given_1] using gc
    obtain ⟨L⟩ := args
    match L, hs with
    | [w0], _ => exact ⟨w0, rfl⟩
  have hw := fun d (hd : d ∈ tables_1) => atoms_spec (ws := Jvm.Cond.code x code maxLocals ret :: tables_1) hat d (List.mem_cons_of_mem _ hd)
  obtain ⟨i0, ei0⟩ := is_v g0
  obtain rfl : w0 = (.int i0) := Option.some.inj ei0
  obtain ⟨n, o, h1, h2, h3, _, L, rfl, ⟨rfl, N⟩, hq⟩ := rm0 l s _ hw tables_1 i0  s.heap s.heap.size (Nat.le_refl _)  p e ha hc hk s m _ below hf ((Spec.applies_iff_loose hf).mp happ).1 ⟨rfl, State.Warmed39.refl s, rfl⟩ trivial
  refine ⟨n, _, h1, h2, h3, hpost _ _ _ _ _ _ ⟨Cond.after_iff.mpr rfl, Cond.after_iff.mpr (eq_i res_at (Term.int_eval (1)) rfl), trivial⟩ ⟨hq.1, hq.2.1, (hq.2.2.sift fun y hy => Or.inr (N y hy)).mono (by decide) (by decide)⟩⟩
theorem main_1_1 : Claimed_1_1 := comes_1 fun _ _ _ _ _ _ h hF => ⟨h.1, hF⟩
theorem main_1_2 : Claimed_1_2 := comes_1 fun _ _ _ _ _ _ h hF => ⟨h.2.1, hF⟩
end Jvm.Pilot.@@N@@
namespace Jvm.Pilot.@@N@@
open Jvm Jvm.ClassFile Sem Op Lib Jvm.Free Jvm.Stand Jvm.Pilot.@@N@@.Jvm.D
/-! MADE BY PROGRAM (witnessworld.py) out of the Statement's table words and the real class files: 9 classes; the members and pool entries that the words name. The judged class is class 1, her method 1. -/
namespace start1
open Jvm.ClassFile
def u (s : String) : CpInfo := .utf8 (stringToUtf16 s)
/-- a pool by its gaps: so many unusable entries, then the entry; so many at the end -/
def gap : Nat → List CpInfo → List CpInfo
  | 0, r => r
  | n + 1, r => .unusable :: gap n r
def poolList (es : List (Nat × CpInfo)) (last : Nat) : List CpInfo := es.foldr (fun e r => gap e.1 (e.2 :: r)) (gap last [])
def pool (es : List (Nat × CpInfo)) (last : Nat) : Array CpInfo := ⟨poolList es last⟩
def fileOf (pool : Array CpInfo) (this : Nat) (attrs : Array Attribute := #[]) (ms : Array MethodInfo := #[]) (fl : Nat := 33) (sup : Nat := 0) (ifs : Array Nat := #[]) (fds : Array FieldInfo := #[]) : ClassFile where
  minorVersion := 0
  majorVersion := 65
  constantPool := pool
  accessFlags := fl
  thisClass := this
  superClass := sup
  interfaces := ifs
  fields := fds
  methods := ms
  attributes := attrs
def plain (name : String) (sup : Option ClassId) : Class where
  name := name
  kind := .ordinary
  loader := none
  accessFlags := 33
  super := sup
  interfaces := #[]
  cf := none
  fields := #[]
  methods := #[]
  instanceTypes := #[]
  staticTypes := #[]
  resolved := #[]
  callSites := []
  init := .initialized
  statics := none
  mirror := none

def pool0 : Array CpInfo := pool [(5, u "<init>"), (0, u "()V"), (1, .class_ 10), (1, u "java/lang/Object")] 113

def k0m0 : Method := { name := "<init>", desc := "()V", sig := { parameters := [], returnType := none }, accessFlags := 1, code := none }
/-- java/lang/Object -/
def k0 : Class := { plain "java/lang/Object" none with
  accessFlags := 33
  interfaces := #[]
  cf := some (fileOf pool0 8 #[] #[{ accessFlags := 1, nameIndex := 5, descriptorIndex := 6, attributes := #[] }] 33 0 #[] #[])
  fields := #[]
  methods := #[k0m0]
  instanceTypes := #[]
  staticTypes := #[]
  resolved := Array.replicate 124 none
  statics := none }

def pool1 : Array CpInfo := pool [(2, .class_ 4), (1, u "java/lang/Object"), (0, u "<init>"), (0, u "()V"), (0, .methodref 8 9), (0, .class_ 10), (0, .nameAndType 11 12), (0, u "com/example/meterstone/meterstone/core/HexTextReadPinLaw"), (0, u "ascii"), (0, u "(I)J"), (0, .methodref 14 15), (0, .class_ 16), (0, .nameAndType 17 18), (0, u "com/example/meterstone/meterstone/core/HexText"), (0, u "read"), (0, u "(J)J"), (0, .long 4294967295), (3, u "law"), (0, u "(I)Z")] 3

def k1m0 : Method := { name := "<init>", desc := "()V", sig := { parameters := [], returnType := none }, accessFlags := 1, code := none }
def k1c1 : Code := { maxStack := 6, maxLocals := 3, code := code, exceptionTable := #[], attributes := #[] }
def k1m1 : Method := { name := "law", desc := "(I)Z", sig := { parameters := [.int], returnType := some .boolean }, accessFlags := 9, code := some k1c1 }
def k1c2 : Code := { maxStack := 3, maxLocals := 2, code := method_3_code, exceptionTable := #[], attributes := #[] }
def k1m2 : Method := { name := "ascii", desc := "(I)J", sig := { parameters := [.int], returnType := some .long }, accessFlags := 10, code := some k1c2 }
/-- com/example/meterstone/meterstone/core/HexTextReadPinLaw -/
def k1 : Class := { plain "com/example/meterstone/meterstone/core/HexTextReadPinLaw" (some 0) with
  accessFlags := 49
  interfaces := #[]
  cf := some (fileOf pool1 8 #[] #[{ accessFlags := 1, nameIndex := 5, descriptorIndex := 6, attributes := #[] }, { accessFlags := 9, nameIndex := 23, descriptorIndex := 24, attributes := #[] }, { accessFlags := 10, nameIndex := 11, descriptorIndex := 12, attributes := #[] }] 49 2 #[] #[])
  fields := #[]
  methods := #[k1m0, k1m1, k1m2]
  instanceTypes := #[]
  staticTypes := #[]
  resolved := Array.replicate 28 none
  statics := none }

def pool2 : Array CpInfo := pool [(2, .class_ 4), (1, u "java/lang/Object"), (0, u "<init>"), (0, u "()V"), (1, .class_ 10), (1, u "com/example/meterstone/meterstone/core/HexText"), (0, u "DIGITS"), (0, u "[B"), (8, u "LONGS"), (0, u "Ljava/lang/invoke/VarHandle;"), (3, u "(J)J"), (6, .long 4294967295), (1, .long 281470681808895), (1, .long 71777214294589695), (1, .long 1085102592571150095), (3, .long 72340172838076673), (11, .long 9), (42, u "read"), (8, .class_ 108), (0, u "com/example/meterstone/meterstone/core/HexText$Header"), (0, .class_ 110), (0, u "com/example/meterstone/meterstone/core/HexText$Header$Field")] 3

def k2m0 : Method := { name := "<init>", desc := "()V", sig := { parameters := [], returnType := none }, accessFlags := 2, code := none }
def k2c1 : Code := { maxStack := 6, maxLocals := 6, code := prog_53_method_7_code, exceptionTable := #[], attributes := #[] }
def k2m1 : Method := { name := "read", desc := "(J)J", sig := { parameters := [.long], returnType := some .long }, accessFlags := 8, code := some k2c1 }
/-- com/example/meterstone/meterstone/core/HexText -/
def k2 : Class := { plain "com/example/meterstone/meterstone/core/HexText" (some 0) with
  accessFlags := 48
  interfaces := #[]
  cf := some (fileOf pool2 8 #[.nestMembers #[107, 109]] #[{ accessFlags := 2, nameIndex := 5, descriptorIndex := 6, attributes := #[] }, { accessFlags := 8, nameIndex := 98, descriptorIndex := 26, attributes := #[] }] 48 2 #[] #[{ accessFlags := 24, nameIndex := 11, descriptorIndex := 12, attributes := #[] }, { accessFlags := 26, nameIndex := 21, descriptorIndex := 22, attributes := #[] }])
  fields := #[{ name := "DIGITS", type := (.array .byte), accessFlags := 24, slot := 0, constantValue := 0 }, { name := "LONGS", type := (.object "java/lang/invoke/VarHandle"), accessFlags := 26, slot := 1, constantValue := 0 }]
  methods := #[k2m0, k2m1]
  instanceTypes := #[]
  staticTypes := #[(.array .byte), (.object "java/lang/invoke/VarHandle")]
  resolved := Array.replicate 114 none
  statics := none }

def pool3 : Array CpInfo := pool [(1, u "java/lang/Cloneable"), (0, .class_ 1), (0, u "java/lang/Object"), (0, .class_ 3)] 3

/-- java/lang/Cloneable -/
def k3 : Class := { plain "java/lang/Cloneable" (some 0) with
  accessFlags := 1537
  interfaces := #[]
  cf := some (fileOf pool3 2 #[] #[] 1537 4 #[] #[])
  fields := #[]
  methods := #[]
  instanceTypes := #[]
  staticTypes := #[]
  resolved := Array.replicate 8 none
  statics := none }

def pool4 : Array CpInfo := pool [(1, u "java/io/Serializable"), (0, .class_ 1), (0, u "java/lang/Object"), (0, .class_ 3)] 3

/-- java/io/Serializable -/
def k4 : Class := { plain "java/io/Serializable" (some 0) with
  accessFlags := 1537
  interfaces := #[]
  cf := some (fileOf pool4 2 #[] #[] 1537 4 #[] #[])
  fields := #[]
  methods := #[]
  instanceTypes := #[]
  staticTypes := #[]
  resolved := Array.replicate 8 none
  statics := none }

/-- the primitive byte -/
def k5 : Class := { plain "byte" none with kind := .primitive 'B', accessFlags := 0x411 }
/-- [B -/
def k6 : Class := { plain "[B" (some 0) with kind := .array 5 .byte, interfaces := #[3, 4], accessFlags := 1041 }

/-- the primitive int -/
def k7 : Class := { plain "int" none with kind := .primitive 'I', accessFlags := 0x411 }
/-- [I -/
def k8 : Class := { plain "[I" (some 0) with kind := .array 7 .int, interfaces := #[3, 4], accessFlags := 1041 }

def heap : Heap := #[]
def classes : Array Class := #[k0, k1, k2, k3, k4, k5, k6, k7, k8]
def interned : List (Array UInt16 × Addr) := []
def slotsUsed : Nat := 0
def theMethod : MethodId := ⟨1, 1⟩
def args0 : Array Value := #[.int 5]
def aboutOver (below : List Frame) : State where
  vm := { classes := classes, interned := interned.toArray }
  heap := heap
  slotsUsed := slotsUsed
  threads := #[{ frames := .invoking theMethod args0 :: below }]
def below0 : List Frame := [.native { method := ⟨0, 0⟩, args := #[] }]
def about1 : State := aboutOver below0
def p0 : Program := .bare "" "" ""
def e0 : Env := launch0.env 0 0 0
theorem w_frames : about1.frames = Frame.invoking theMethod args0 :: below0 := rfl
set_option maxRecDepth 65536 in
theorem w_args : argsFit about1.vm theMethod args0 = true := by decide +kernel
set_option maxRecDepth 65536 in
theorem w_heap : heapFits about1 = true := by decide +kernel
set_option maxRecDepth 65536 in
theorem w_runnable : about1.curStatus? = some .runnable := by decide +kernel
set_option maxRecDepth 65536 in
theorem w_alone : about1.alone = true := by decide +kernel
set_option maxRecDepth 65536 in
theorem w_named : about1.methodNamed? x = some theMethod := by decide +kernel
set_option maxRecDepth 65536 in
theorem w_hears : about1.hears theMethod below0 = true := by decide +kernel
set_option maxRecDepth 65536 in
theorem w_ripe : about1.ripe theMethod args0 below0 = true := by decide +kernel
theorem w_running : about1.status = .running := rfl
set_option maxRecDepth 65536 in
theorem w_room : about1.hasRoom e0.platform room_1 = true :=
  launch0.hasRoom_least _ room_1 (by decide +kernel) (by decide +kernel) (by decide +kernel) (by decide +kernel) (by decide +kernel) (by decide +kernel)
theorem allAtoms_all (ts : List Jvm.Cond) (a : Array Jvm.Value) (st : Jvm.State) : (allAtoms ts).before a st = ts.all (fun c => c.before a st) := by
  induction ts with
  | nil => rfl
  | cons c t ih =>
    show (Jvm.Cond.and c (allAtoms t)).before a st = _
    rw [Jvm.Cond.before_and, ih, List.all_cons]
def words1 : List Jvm.Cond := Jvm.Cond.code x code maxLocals ret :: tables_1
/-- a 'code' word, met by the world's own term for the bytes: nothing is compared byte by byte -/
theorem code_word {y : MethodName} {bytes : ByteArray} {mx : Nat} {rt : Option FieldType} {a : Array Value} {s : State} {m : MethodId} {meth : Method} {c : Code} (h1 : s.methodNamed? y = some m) (h2 : s.vm.method? m = some meth) (h3 : meth.code = some c) (h4 : c.code = bytes)
    (h5 : (c.maxLocals == mx && c.exceptionTable.isEmpty && decide (c.maxStack ≤ mostOperands) && decide (meth.sig.returnType = rt) && !meth.locks && decide (parseMethodDescriptor y.desc = some meth.sig)) = true) : (Jvm.Cond.code y bytes mx rt).before a s = true := by
  simp only [Bool.and_eq_true, beq_iff_eq, Bool.not_eq_true', decide_eq_true_eq] at h5
  obtain ⟨⟨⟨⟨⟨g1, g2⟩, g3⟩, g4⟩, g5⟩, g6⟩ := h5
  simp [Cond.before, Cond.holds, Cond.value, h1, h2, h3, h4, g1, g2, g3, g4, g5, g6]
def isCode : Jvm.Cond → Bool
  | .code _ _ _ _ => true
  | _ => false
theorem all_split {L : List Jvm.Cond} {P : Jvm.Cond → Bool} (h1 : L.all (fun c => isCode c || P c) = true) (h2 : ∀ c ∈ L.filter isCode, P c = true) : L.all P = true := by
  refine List.all_eq_true.mpr fun c hc => ?_
  have h := List.all_eq_true.mp h1 c hc
  rcases Bool.eq_false_or_eq_true (isCode c) with hi | hi
  · exact h2 c (List.mem_filter.mpr ⟨hc, hi⟩)
  · simpa [hi] using h
set_option maxRecDepth 65536 in
theorem w_c0 : (Jvm.Cond.code x code maxLocals ret).before args0 about1 = true := code_word (m := ⟨1, 1⟩) (meth := k1m1) (c := k1c1) (by decide +kernel) rfl rfl rfl (by decide +kernel)
set_option maxRecDepth 65536 in
theorem w_c1 : (Jvm.Cond.code ({ cls := "com/example/meterstone/meterstone/core/HexTextReadPinLaw", name := "ascii", desc := "(I)J" } : Jvm.MethodName) method_3_code (2 : Nat) (Option.some Jvm.ClassFile.FieldType.long)).before args0 about1 = true := code_word (m := ⟨1, 2⟩) (meth := k1m2) (c := k1c2) (by decide +kernel) rfl rfl rfl (by decide +kernel)
set_option maxRecDepth 65536 in
theorem w_c2 : (Jvm.Cond.code ({ cls := "com/example/meterstone/meterstone/core/HexText", name := "read", desc := "(J)J" } : Jvm.MethodName) prog_53_method_7_code (6 : Nat) (Option.some Jvm.ClassFile.FieldType.long)).before args0 about1 = true := code_word (m := ⟨2, 1⟩) (meth := k2m1) (c := k2c1) (by decide +kernel) rfl rfl rfl (by decide +kernel)
def codes1 : List Jvm.Cond := [Jvm.Cond.code x code maxLocals ret, Jvm.Cond.code ({ cls := "com/example/meterstone/meterstone/core/HexTextReadPinLaw", name := "ascii", desc := "(I)J" } : Jvm.MethodName) method_3_code (2 : Nat) (Option.some Jvm.ClassFile.FieldType.long), Jvm.Cond.code ({ cls := "com/example/meterstone/meterstone/core/HexText", name := "read", desc := "(J)J" } : Jvm.MethodName) prog_53_method_7_code (6 : Nat) (Option.some Jvm.ClassFile.FieldType.long)]
set_option maxRecDepth 65536 in
theorem codes_eq : words1.filter isCode = codes1 := rfl
theorem w_codes : ∀ c ∈ words1.filter isCode, c.before args0 about1 = true := by
  rw [codes_eq]
  intro c hc
  simp only [codes1, List.mem_cons, List.not_mem_nil, or_false] at hc
  rcases hc with rfl | rfl | rfl
  · exact w_c0
  · exact w_c1
  · exact w_c2
set_option maxRecDepth 65536 in
theorem w_t1 : words1.all (fun c => isCode c || c.before args0 about1) = true := by decide +kernel
theorem w_tables : (allAtoms (Jvm.Cond.code x code maxLocals ret :: tables_1)).before args0 about1 = true := by
  rw [allAtoms_all]
  show words1.all (fun c => c.before args0 about1) = true
  refine all_split ?_ w_codes
  rw [w_t1]
set_option maxRecDepth 65536 in
theorem w_case : (Jvm.Cond.and given_1 narrow_1).before args0 about1 = true := by decide +kernel
theorem w_applies : (headSpec (Jvm.Cond.code x code maxLocals ret :: tables_1) room_1).applies x e0.platform about1 = true :=
  (Spec.applies_iff w_frames).mpr ⟨w_running, w_runnable, w_alone, w_named, w_hears, w_ripe, w_room, w_tables⟩
theorem atStart : AtStart classFile x code maxLocals ret World_1 tables_1 room_1 Calls_1 rest_1 Pre_1 launch0 p0 e0 about1 theMethod args0 below0 :=
  ⟨lists_1, trivial, launch0.admits_env _ _ _, launch0.least_env, fairChoices_fair.cas, fairChoices_fair.clock, w_frames, w_args, w_heap, w_applies, trivial, trivial, w_case⟩
end start1
theorem witness_1 : WitnessClaimed_1 := ⟨start1.p0, start1.e0, start1.about1, start1.theMethod, start1.args0, start1.below0, start1.atStart⟩
end Jvm.Pilot.@@N@@
