import JvmDerived
import JvmDerived.Pilot.@@N@@Statement
import JvmDerived.Pilot.@@N@@Code
set_option linter.unusedVariables false
set_option linter.unusedSimpArgs false
namespace Jvm.RoadKit
open Sem ClassFile Op Lib Jvm.Stand Jvm.Free Jvm.LawKit
section New
variable {p : Program} {l : Launch} {e : Env} {R : Room} {s : State} {m : MethodId} {args : Array Value} {below : List Frame} {meth : Method} {c : Code} {T : State} {locs : List Loc} {cells slots : Nat}
theorem retI (X : Stand p l e R s m args below meth c T locs cells slots) (hx : p.tables.exec = Jvm.exec) {pc : Nat} {Ls : Array Slot} {z : Int32} {rest : List Value} (hret : meth.sig.returnType = some .int) (hd : decode c.code pc = .ok (.ireturn, 1)) {fs : List Frame}
    (hl : ∀ (f : JFrame) (acts : List Action), f.method = m → f.locked = none → f.entered = [] → (doReturn e (T.setTop f) acts (some (.int z))).1 = T.setFrames fs) : Steps p.tables e below (T.setTop (mkF m pc Ls (.int z :: rest))) (T.setFrames fs) := by
  have hm' : T.vm.method? m = some meth := X.method'
  have hn : narrow .int (.int z) = .int z := rfl
  show Steps p.tables e below (T.setTop { method := m, pc := pc, locals := Ls, stack := _ :: rest, locked := none }) _
  jvm_step X.here [X.here.top, hx, hd, hm', hret, hn]
  first | (intro acts; rw [hl _ acts rfl rfl rfl]) | rw [hl _ _ rfl rfl rfl]
  exact Steps.refl _
end New
end Jvm.RoadKit
namespace Jvm.Pilot.@@N@@
open Jvm Jvm.ClassFile Sem Op Lib Jvm.Free Jvm.Stand Jvm.LawKit Jvm.RoadKit Bundle Jvm.Pilot.@@N@@.Jvm.D
theorem d1_0 : decode jdk_29_method_65_code 0 = .ok (.iload_n 0, 1) := by decide +kernel
theorem d1_1 : decode jdk_29_method_65_code 1 = .ok (.iload_n 1, 1) := by decide +kernel
theorem d1_2 : decode jdk_29_method_65_code 2 = .ok (.if_icmp .lt 7, 3) := by decide +kernel
theorem d1_9 : decode jdk_29_method_65_code 9 = .ok (.iload_n 1, 1) := by decide +kernel
theorem d1_10 : decode jdk_29_method_65_code 10 = .ok (.ireturn, 1) := by decide +kernel
theorem d1_5 : decode jdk_29_method_65_code 5 = .ok (.iload_n 0, 1) := by decide +kernel
theorem d1_6 : decode jdk_29_method_65_code 6 = .ok (.goto 4, 3) := by decide +kernel
def fmax (p0 : Int32) (p1 : Int32) : Int32 := if p0 < p1 then (p1) else (p0)
def Q1 (Z : State) (p0 : Int32) (p1 : Int32) (h0 : Heap) (n0 : Nat) (v : Option Value) (h : Heap) (L : List Loc) : Prop := v = some (.int (fmax p0 p1)) ∧ Fr n0 L ∧ h = h0
theorem ef_rm1 (m : MethodId) (x0 : Int32) (x1 : Int32) : entryFrame m #[(.int x0), (.int x1)] 2 = mkF m 0 #[.val (.int x0), .val (.int x1)] [] := by first | (simp [entryFrame, mkF, argsToLocals, Value.category]; done) | rfl
set_option maxRecDepth 65536 in
set_option maxHeartbeats 40000000 in
theorem rm1 (l : Launch) (Z : State) (a0 : Array Value) (hw : ∀ d ∈ tables_1, d.before a0 Z = true) (ws : List Jvm.Cond) (p0 : Int32) (p1 : Int32) (h0 : Heap) (n0 : Nat) (Z0 : n0 ≤ h0.size) :
    MetFree l (⟨"java/lang/Math", "max", "(II)I"⟩ : MethodName) (head1 (Jvm.Cond.code (⟨"java/lang/Math", "max", "(II)I"⟩ : MethodName) jdk_29_method_65_code 2 (some .int) :: ws) ({ frames := 0, cells := 0, slots := 0, locals := 0 } : Room)) (fun a U => a = #[(.int p0), (.int p1)] ∧ Z.Warmed39 U.vm ∧ U.heap = h0) (fun _ _ _ _ _ => True) (fun _ U o U' => ∃ v L, o = .returned v ∧ Q1 Z p0 p1 h0 n0 v U'.heap L ∧ FrameEnd U o U' L ({ frames := 0, cells := 0, slots := 0, locals := 0 } : Room).cells ({ frames := 0, cells := 0, slots := 0, locals := 0 } : Room).slots) := by
  refine MetFree.of_bodySF (Jvm.Free.JP.mathPlain rfl (by decide +kernel)) hisR ?_
  intro p e s m args below meth c s₁ Bd hml0 hP hK
  obtain ⟨rfl, hZ, hh⟩ := hP
  have hx := Bd.exec
  have hby := Bd.bytes
  have hml : c.maxLocals = 2 := hml0
  have hown : s.vm.findClass "java/lang/Math" = some m.cls := findClass_of_methodNamed Bd.named
  have hnm := (name_of_methodNamed Bd.named Bd.method).1
  have X0 : Stand p l e ({ frames := 0, cells := 0, slots := 0, locals := 0 } : Room) s m #[(.int p0), (.int p1)] below meth c s₁ [] 0 0 := Stand.of_body Bd
  have e0 : s₁.heap = h0 := by rw [← hh, Bd.state]; rfl
  have N0 := Fr.nil n0
  have kp0 : Keep h0 h0 [] := Keep.refl _ _
  have G0 : ∀ t, Steps p.tables e below (s₁.setTop (mkF m 0 #[.val (.int p0), .val (.int p1)] [])) t → Steps p.tables e below (s₁.setTop (entryFrame m #[(.int p0), (.int p1)] 2)) t := fun t k => castTop (ef_rm1 m p0 p1) k
  have G1 : ∀ t, Steps p.tables e below (s₁.setTop (mkF m 2 #[.val (.int p0), .val (.int p1)] [(.int p1), (.int p0)])) t → Steps p.tables e below (s₁.setTop (entryFrame m #[(.int p0), (.int p1)] 2)) t := by
    intro t kt
    refine G0 _ ?_
    show Steps p.tables e below (s₁.setTop (mkF m 0 #[.val (.int p0), .val (.int p1)] [])) _
    refine XS.iloadN X0.here hx rfl (hb hby d1_0) rfl ?_
    show Steps p.tables e below (s₁.setTop (mkF m 1 #[.val (.int p0), .val (.int p1)] [(.int p0)])) _
    refine XS.iloadN X0.here hx rfl (hb hby d1_1) rfl ?_
    exact kt
  by_cases hc2_2 : p0 < p1
  · skip
    obtain ⟨fs, hr, hrun, hended, hW, hsame⟩ := X0.leave (v := some (.int p1)) (fun h => by rw [Bd.returns] at h; cases h)
    refine ⟨_, _, G1 _ ?_, hrun, hended, _, _, rfl, ?_, ⟨_, rfl⟩, hW, hsame.mono (by decide) (by decide)⟩
    · skip
      show Steps p.tables e below (s₁.setTop (mkF m 2 #[.val (.int p0), .val (.int p1)] [(.int p1), (.int p0)])) _
      refine XS.icmpYes X0.here hx rfl (pc0 := 2) (pc' := 9) rfl (hb hby d1_2) rfl (tlt hc2_2).1 (by decide) (by decide) ?_
      show Steps p.tables e below (s₁.setTop (mkF m 9 #[.val (.int p0), .val (.int p1)] [])) _
      refine XS.iloadN X0.here hx rfl (hb hby d1_9) rfl ?_
      show Steps p.tables e below (s₁.setTop (mkF m 10 #[.val (.int p0), .val (.int p1)] [(.int p1)])) _
      exact retI X0 hx Bd.returns (hb hby d1_10) hr
    · show Q1 Z p0 p1 h0 n0 _ s₁.heap _
      rw [e0]
      exact ⟨by rw [fmax, if_pos hc2_2], N0, rfl⟩
  · skip
    obtain ⟨fs, hr, hrun, hended, hW, hsame⟩ := X0.leave (v := some (.int p0)) (fun h => by rw [Bd.returns] at h; cases h)
    refine ⟨_, _, G1 _ ?_, hrun, hended, _, _, rfl, ?_, ⟨_, rfl⟩, hW, hsame.mono (by decide) (by decide)⟩
    · skip
      show Steps p.tables e below (s₁.setTop (mkF m 2 #[.val (.int p0), .val (.int p1)] [(.int p1), (.int p0)])) _
      refine XS.icmpNo X0.here hx rfl (hb hby d1_2) rfl (flt hc2_2).1 ?_
      show Steps p.tables e below (s₁.setTop (mkF m 5 #[.val (.int p0), .val (.int p1)] [])) _
      refine XS.iloadN X0.here hx rfl (hb hby d1_5) rfl ?_
      show Steps p.tables e below (s₁.setTop (mkF m 6 #[.val (.int p0), .val (.int p1)] [(.int p0)])) _
      refine XS.goto X0.here hx rfl (pc0 := 6) (pc' := 10) rfl (hb hby d1_6) (by decide) (by decide) ?_
      show Steps p.tables e below (s₁.setTop (mkF m 10 #[.val (.int p0), .val (.int p1)] [(.int p0)])) _
      exact retI X0 hx Bd.returns (hb hby d1_10) hr
    · show Q1 Z p0 p1 h0 n0 _ s₁.heap _
      rw [e0]
      exact ⟨by rw [fmax, if_neg hc2_2], N0, rfl⟩
theorem d4_0 : decode jdk_33_method_47_code 0 = .ok (.iload_n 0, 1) := by decide +kernel
theorem d4_1 : decode jdk_33_method_47_code 1 = .ok (.ifCond .gt 14, 3) := by decide +kernel
theorem d4_15 : decode jdk_33_method_47_code 15 = .ok (.bipush 31, 2) := by decide +kernel
theorem d4_17 : decode jdk_33_method_47_code 17 = .ok (.istore_n 1, 1) := by decide +kernel
theorem d4_18 : decode jdk_33_method_47_code 18 = .ok (.iload_n 0, 1) := by decide +kernel
theorem d4_19 : decode jdk_33_method_47_code 19 = .ok (.ldc_w 264, 3) := by decide +kernel
theorem d4_22 : decode jdk_33_method_47_code 22 = .ok (.if_icmp .lt 11, 3) := by decide +kernel
theorem d4_33 : decode jdk_33_method_47_code 33 = .ok (.iload_n 0, 1) := by decide +kernel
theorem d4_34 : decode jdk_33_method_47_code 34 = .ok (.sipush 256, 3) := by decide +kernel
theorem d4_37 : decode jdk_33_method_47_code 37 = .ok (.if_icmp .lt 11, 3) := by decide +kernel
theorem d4_48 : decode jdk_33_method_47_code 48 = .ok (.iload_n 0, 1) := by decide +kernel
theorem d4_49 : decode jdk_33_method_47_code 49 = .ok (.bipush 16, 2) := by decide +kernel
theorem d4_51 : decode jdk_33_method_47_code 51 = .ok (.if_icmp .lt 10, 3) := by decide +kernel
theorem d4_61 : decode jdk_33_method_47_code 61 = .ok (.iload_n 0, 1) := by decide +kernel
theorem d4_62 : decode jdk_33_method_47_code 62 = .ok (.iconst 4, 1) := by decide +kernel
theorem d4_63 : decode jdk_33_method_47_code 63 = .ok (.if_icmp .lt 10, 3) := by decide +kernel
theorem d4_73 : decode jdk_33_method_47_code 73 = .ok (.iload_n 1, 1) := by decide +kernel
theorem d4_74 : decode jdk_33_method_47_code 74 = .ok (.iload_n 0, 1) := by decide +kernel
theorem d4_75 : decode jdk_33_method_47_code 75 = .ok (.iconst 1, 1) := by decide +kernel
theorem d4_76 : decode jdk_33_method_47_code 76 = .ok (.iushr, 1) := by decide +kernel
theorem d4_77 : decode jdk_33_method_47_code 77 = .ok (.isub, 1) := by decide +kernel
theorem d4_78 : decode jdk_33_method_47_code 78 = .ok (.ireturn, 1) := by decide +kernel
theorem d4_66 : decode jdk_33_method_47_code 66 = .ok (.iinc 1 (-2), 3) := by decide +kernel
theorem d4_69 : decode jdk_33_method_47_code 69 = .ok (.iload_n 0, 1) := by decide +kernel
theorem d4_70 : decode jdk_33_method_47_code 70 = .ok (.iconst 2, 1) := by decide +kernel
theorem d4_71 : decode jdk_33_method_47_code 71 = .ok (.iushr, 1) := by decide +kernel
theorem d4_72 : decode jdk_33_method_47_code 72 = .ok (.istore_n 0, 1) := by decide +kernel
theorem d4_54 : decode jdk_33_method_47_code 54 = .ok (.iinc 1 (-4), 3) := by decide +kernel
theorem d4_57 : decode jdk_33_method_47_code 57 = .ok (.iload_n 0, 1) := by decide +kernel
theorem d4_58 : decode jdk_33_method_47_code 58 = .ok (.iconst 4, 1) := by decide +kernel
theorem d4_59 : decode jdk_33_method_47_code 59 = .ok (.iushr, 1) := by decide +kernel
theorem d4_60 : decode jdk_33_method_47_code 60 = .ok (.istore_n 0, 1) := by decide +kernel
theorem d4_40 : decode jdk_33_method_47_code 40 = .ok (.iinc 1 (-8), 3) := by decide +kernel
theorem d4_43 : decode jdk_33_method_47_code 43 = .ok (.iload_n 0, 1) := by decide +kernel
theorem d4_44 : decode jdk_33_method_47_code 44 = .ok (.bipush 8, 2) := by decide +kernel
theorem d4_46 : decode jdk_33_method_47_code 46 = .ok (.iushr, 1) := by decide +kernel
theorem d4_47 : decode jdk_33_method_47_code 47 = .ok (.istore_n 0, 1) := by decide +kernel
theorem d4_25 : decode jdk_33_method_47_code 25 = .ok (.iinc 1 (-16), 3) := by decide +kernel
theorem d4_28 : decode jdk_33_method_47_code 28 = .ok (.iload_n 0, 1) := by decide +kernel
theorem d4_29 : decode jdk_33_method_47_code 29 = .ok (.bipush 16, 2) := by decide +kernel
theorem d4_31 : decode jdk_33_method_47_code 31 = .ok (.iushr, 1) := by decide +kernel
theorem d4_32 : decode jdk_33_method_47_code 32 = .ok (.istore_n 0, 1) := by decide +kernel
theorem d4_4 : decode jdk_33_method_47_code 4 = .ok (.iload_n 0, 1) := by decide +kernel
theorem d4_5 : decode jdk_33_method_47_code 5 = .ok (.ifCond .ne 8, 3) := by decide +kernel
theorem d4_8 : decode jdk_33_method_47_code 8 = .ok (.bipush 32, 2) := by decide +kernel
theorem d4_10 : decode jdk_33_method_47_code 10 = .ok (.goto 4, 3) := by decide +kernel
theorem d4_14 : decode jdk_33_method_47_code 14 = .ok (.ireturn, 1) := by decide +kernel
theorem d4_13 : decode jdk_33_method_47_code 13 = .ok (.iconst 0, 1) := by decide +kernel
def f4 (p0 : Int32) : Int32 := if (0 : Int32) < p0 then (if p0 < (65536 : Int32) then (if p0 < (256 : Int32) then (if p0 < (16 : Int32) then (if p0 < (4 : Int32) then (((31 : Int32) - ((p0.toUInt32 >>> ((1 : Int32) &&& 31).toUInt32).toInt32))) else ((((31 : Int32) + (-2 : Int32)) - ((((p0.toUInt32 >>> ((2 : Int32) &&& 31).toUInt32).toInt32).toUInt32 >>> ((1 : Int32) &&& 31).toUInt32).toInt32)))) else (if ((p0.toUInt32 >>> ((4 : Int32) &&& 31).toUInt32).toInt32) < (4 : Int32) then ((((31 : Int32) + (-4 : Int32)) - ((((p0.toUInt32 >>> ((4 : Int32) &&& 31).toUInt32).toInt32).toUInt32 >>> ((1 : Int32) &&& 31).toUInt32).toInt32))) else (((((31 : Int32) + (-4 : Int32)) + (-2 : Int32)) - ((((((p0.toUInt32 >>> ((4 : Int32) &&& 31).toUInt32).toInt32).toUInt32 >>> ((2 : Int32) &&& 31).toUInt32).toInt32).toUInt32 >>> ((1 : Int32) &&& 31).toUInt32).toInt32))))) else (if ((p0.toUInt32 >>> ((8 : Int32) &&& 31).toUInt32).toInt32) < (16 : Int32) then (if ((p0.toUInt32 >>> ((8 : Int32) &&& 31).toUInt32).toInt32) < (4 : Int32) then ((((31 : Int32) + (-8 : Int32)) - ((((p0.toUInt32 >>> ((8 : Int32) &&& 31).toUInt32).toInt32).toUInt32 >>> ((1 : Int32) &&& 31).toUInt32).toInt32))) else (((((31 : Int32) + (-8 : Int32)) + (-2 : Int32)) - ((((((p0.toUInt32 >>> ((8 : Int32) &&& 31).toUInt32).toInt32).toUInt32 >>> ((2 : Int32) &&& 31).toUInt32).toInt32).toUInt32 >>> ((1 : Int32) &&& 31).toUInt32).toInt32)))) else (if ((((p0.toUInt32 >>> ((8 : Int32) &&& 31).toUInt32).toInt32).toUInt32 >>> ((4 : Int32) &&& 31).toUInt32).toInt32) < (4 : Int32) then (((((31 : Int32) + (-8 : Int32)) + (-4 : Int32)) - ((((((p0.toUInt32 >>> ((8 : Int32) &&& 31).toUInt32).toInt32).toUInt32 >>> ((4 : Int32) &&& 31).toUInt32).toInt32).toUInt32 >>> ((1 : Int32) &&& 31).toUInt32).toInt32))) else ((((((31 : Int32) + (-8 : Int32)) + (-4 : Int32)) + (-2 : Int32)) - ((((((((p0.toUInt32 >>> ((8 : Int32) &&& 31).toUInt32).toInt32).toUInt32 >>> ((4 : Int32) &&& 31).toUInt32).toInt32).toUInt32 >>> ((2 : Int32) &&& 31).toUInt32).toInt32).toUInt32 >>> ((1 : Int32) &&& 31).toUInt32).toInt32)))))) else (if ((p0.toUInt32 >>> ((16 : Int32) &&& 31).toUInt32).toInt32) < (256 : Int32) then (if ((p0.toUInt32 >>> ((16 : Int32) &&& 31).toUInt32).toInt32) < (16 : Int32) then (if ((p0.toUInt32 >>> ((16 : Int32) &&& 31).toUInt32).toInt32) < (4 : Int32) then ((((31 : Int32) + (-16 : Int32)) - ((((p0.toUInt32 >>> ((16 : Int32) &&& 31).toUInt32).toInt32).toUInt32 >>> ((1 : Int32) &&& 31).toUInt32).toInt32))) else (((((31 : Int32) + (-16 : Int32)) + (-2 : Int32)) - ((((((p0.toUInt32 >>> ((16 : Int32) &&& 31).toUInt32).toInt32).toUInt32 >>> ((2 : Int32) &&& 31).toUInt32).toInt32).toUInt32 >>> ((1 : Int32) &&& 31).toUInt32).toInt32)))) else (if ((((p0.toUInt32 >>> ((16 : Int32) &&& 31).toUInt32).toInt32).toUInt32 >>> ((4 : Int32) &&& 31).toUInt32).toInt32) < (4 : Int32) then (((((31 : Int32) + (-16 : Int32)) + (-4 : Int32)) - ((((((p0.toUInt32 >>> ((16 : Int32) &&& 31).toUInt32).toInt32).toUInt32 >>> ((4 : Int32) &&& 31).toUInt32).toInt32).toUInt32 >>> ((1 : Int32) &&& 31).toUInt32).toInt32))) else ((((((31 : Int32) + (-16 : Int32)) + (-4 : Int32)) + (-2 : Int32)) - ((((((((p0.toUInt32 >>> ((16 : Int32) &&& 31).toUInt32).toInt32).toUInt32 >>> ((4 : Int32) &&& 31).toUInt32).toInt32).toUInt32 >>> ((2 : Int32) &&& 31).toUInt32).toInt32).toUInt32 >>> ((1 : Int32) &&& 31).toUInt32).toInt32))))) else (if ((((p0.toUInt32 >>> ((16 : Int32) &&& 31).toUInt32).toInt32).toUInt32 >>> ((8 : Int32) &&& 31).toUInt32).toInt32) < (16 : Int32) then (if ((((p0.toUInt32 >>> ((16 : Int32) &&& 31).toUInt32).toInt32).toUInt32 >>> ((8 : Int32) &&& 31).toUInt32).toInt32) < (4 : Int32) then (((((31 : Int32) + (-16 : Int32)) + (-8 : Int32)) - ((((((p0.toUInt32 >>> ((16 : Int32) &&& 31).toUInt32).toInt32).toUInt32 >>> ((8 : Int32) &&& 31).toUInt32).toInt32).toUInt32 >>> ((1 : Int32) &&& 31).toUInt32).toInt32))) else ((((((31 : Int32) + (-16 : Int32)) + (-8 : Int32)) + (-2 : Int32)) - ((((((((p0.toUInt32 >>> ((16 : Int32) &&& 31).toUInt32).toInt32).toUInt32 >>> ((8 : Int32) &&& 31).toUInt32).toInt32).toUInt32 >>> ((2 : Int32) &&& 31).toUInt32).toInt32).toUInt32 >>> ((1 : Int32) &&& 31).toUInt32).toInt32)))) else (if ((((((p0.toUInt32 >>> ((16 : Int32) &&& 31).toUInt32).toInt32).toUInt32 >>> ((8 : Int32) &&& 31).toUInt32).toInt32).toUInt32 >>> ((4 : Int32) &&& 31).toUInt32).toInt32) < (4 : Int32) then ((((((31 : Int32) + (-16 : Int32)) + (-8 : Int32)) + (-4 : Int32)) - ((((((((p0.toUInt32 >>> ((16 : Int32) &&& 31).toUInt32).toInt32).toUInt32 >>> ((8 : Int32) &&& 31).toUInt32).toInt32).toUInt32 >>> ((4 : Int32) &&& 31).toUInt32).toInt32).toUInt32 >>> ((1 : Int32) &&& 31).toUInt32).toInt32))) else (((((((31 : Int32) + (-16 : Int32)) + (-8 : Int32)) + (-4 : Int32)) + (-2 : Int32)) - ((((((((((p0.toUInt32 >>> ((16 : Int32) &&& 31).toUInt32).toInt32).toUInt32 >>> ((8 : Int32) &&& 31).toUInt32).toInt32).toUInt32 >>> ((4 : Int32) &&& 31).toUInt32).toInt32).toUInt32 >>> ((2 : Int32) &&& 31).toUInt32).toInt32).toUInt32 >>> ((1 : Int32) &&& 31).toUInt32).toInt32))))))) else (if p0 = (0 : Int32) then ((32 : Int32)) else ((0 : Int32)))
def Q4 (Z : State) (p0 : Int32) (h0 : Heap) (n0 : Nat) (v : Option Value) (h : Heap) (L : List Loc) : Prop := v = some (.int (f4 p0)) ∧ Fr n0 L ∧ h = h0
theorem ef_rm4 (m : MethodId) (x0 : Int32) : entryFrame m #[(.int x0)] 2 = mkF m 0 #[.val (.int x0), .unset] [] := by first | (simp [entryFrame, mkF, argsToLocals, Value.category]; done) | rfl
theorem pnc_java_lang_Integer : plainName "java/lang/Integer" = true := by first | (simp [plainName, overriddenIn]; done) | decide +kernel
set_option maxRecDepth 65536 in
set_option maxHeartbeats 40000000 in
theorem rm4 (l : Launch) (Z : State) (a0 : Array Value) (hw : ∀ d ∈ tables_1, d.before a0 Z = true) (ws : List Jvm.Cond) (p0 : Int32) (h0 : Heap) (n0 : Nat) (Z0 : n0 ≤ h0.size) :
    MetFree l (⟨"java/lang/Integer", "numberOfLeadingZeros", "(I)I"⟩ : MethodName) (head1 (Jvm.Cond.code (⟨"java/lang/Integer", "numberOfLeadingZeros", "(I)I"⟩ : MethodName) jdk_33_method_47_code 2 (some .int) :: ws) ({ frames := 0, cells := 0, slots := 0, locals := 0 } : Room)) (fun a U => a = #[(.int p0)] ∧ Z.Warmed39 U.vm ∧ U.heap = h0) (fun _ _ _ _ _ => True) (fun _ U o U' => ∃ v L, o = .returned v ∧ Q4 Z p0 h0 n0 v U'.heap L ∧ FrameEnd U o U' L ({ frames := 0, cells := 0, slots := 0, locals := 0 } : Room).cells ({ frames := 0, cells := 0, slots := 0, locals := 0 } : Room).slots) := by
  refine MetFree.of_bodySF (plainFor_of_name pnc_java_lang_Integer) hisR ?_
  intro p e s m args below meth c s₁ Bd hml0 hP hK
  obtain ⟨rfl, hZ, hh⟩ := hP
  have hx := Bd.exec
  have hby := Bd.bytes
  have hml : c.maxLocals = 2 := hml0
  have hown : s.vm.findClass "java/lang/Integer" = some m.cls := findClass_of_methodNamed Bd.named
  have hnm := (name_of_methodNamed Bd.named Bd.method).1
  have X0 : Stand p l e ({ frames := 0, cells := 0, slots := 0, locals := 0 } : Room) s m #[(.int p0)] below meth c s₁ [] 0 0 := Stand.of_body Bd
  have e0 : s₁.heap = h0 := by rw [← hh, Bd.state]; rfl
  have N0 := Fr.nil n0
  have kp0 : Keep h0 h0 [] := Keep.refl _ _
  have G0 : ∀ t, Steps p.tables e below (s₁.setTop (mkF m 0 #[.val (.int p0), .unset] [])) t → Steps p.tables e below (s₁.setTop (entryFrame m #[(.int p0)] 2)) t := fun t k => castTop (ef_rm4 m p0) k
  have G1 : ∀ t, Steps p.tables e below (s₁.setTop (mkF m 1 #[.val (.int p0), .unset] [(.int p0)])) t → Steps p.tables e below (s₁.setTop (entryFrame m #[(.int p0)] 2)) t := by
    intro t kt
    refine G0 _ ?_
    show Steps p.tables e below (s₁.setTop (mkF m 0 #[.val (.int p0), .unset] [])) _
    refine XS.iloadN X0.here hx rfl (hb hby d4_0) rfl ?_
    exact kt
  by_cases hc1_2 : (0 : Int32) < p0
  · skip
    have G3 : ∀ t, Steps p.tables e below (s₁.setTop (mkF m 22 #[.val (.int p0), .val (.int (31 : Int32))] [(.int (65536 : Int32)), (.int p0)])) t → Steps p.tables e below (s₁.setTop (entryFrame m #[(.int p0)] 2)) t := by
      intro t kt
      refine G1 _ ?_
      show Steps p.tables e below (s₁.setTop (mkF m 1 #[.val (.int p0), .unset] [(.int p0)])) _
      refine XS.ifYes X0.here hx rfl (pc0 := 1) (pc' := 15) rfl (hb hby d4_1) rfl ((if0 _ _).trans (tlt hc1_2).2.2.1) (by decide) (by decide) ?_
      show Steps p.tables e below (s₁.setTop (mkF m 15 #[.val (.int p0), .unset] [])) _
      refine XS.bipush X0.here hx rfl (hb hby d4_15) ?_
      show Steps p.tables e below (s₁.setTop (mkF m 17 #[.val (.int p0), .unset] [(.int (31 : Int32))])) _
      refine XS.istoreN X0.here hx rfl (hb hby d4_17) rfl (l' := #[.val (.int p0), .val (.int (31 : Int32))]) rfl ?_
      show Steps p.tables e below (s₁.setTop (mkF m 18 #[.val (.int p0), .val (.int (31 : Int32))] [])) _
      refine XS.iloadN X0.here hx rfl (hb hby d4_18) rfl ?_
      show Steps p.tables e below (s₁.setTop (mkF m 19 #[.val (.int p0), .val (.int (31 : Int32))] [(.int p0)])) _
      refine X0.ldcwInt hx hown (mvT hZ (hw _ (List.mem_of_getElem? (i := 21) rfl))) (g := (mkF m 19 #[.val (.int p0), .val (.int (31 : Int32))] [(.int p0)])) rfl (hb hby d4_19) _ ?_
      exact kt
    by_cases hc22_4 : p0 < (65536 : Int32)
    · skip
      have G5 : ∀ t, Steps p.tables e below (s₁.setTop (mkF m 37 #[.val (.int p0), .val (.int (31 : Int32))] [(.int (256 : Int32)), (.int p0)])) t → Steps p.tables e below (s₁.setTop (entryFrame m #[(.int p0)] 2)) t := by
        intro t kt
        refine G3 _ ?_
        show Steps p.tables e below (s₁.setTop (mkF m 22 #[.val (.int p0), .val (.int (31 : Int32))] [(.int (65536 : Int32)), (.int p0)])) _
        refine XS.icmpYes X0.here hx rfl (pc0 := 22) (pc' := 33) rfl (hb hby d4_22) rfl (tlt hc22_4).1 (by decide) (by decide) ?_
        show Steps p.tables e below (s₁.setTop (mkF m 33 #[.val (.int p0), .val (.int (31 : Int32))] [])) _
        refine XS.iloadN X0.here hx rfl (hb hby d4_33) rfl ?_
        show Steps p.tables e below (s₁.setTop (mkF m 34 #[.val (.int p0), .val (.int (31 : Int32))] [(.int p0)])) _
        refine XS.sipush X0.here hx rfl (hb hby d4_34) ?_
        exact kt
      by_cases hc37_6 : p0 < (256 : Int32)
      · skip
        have G7 : ∀ t, Steps p.tables e below (s₁.setTop (mkF m 51 #[.val (.int p0), .val (.int (31 : Int32))] [(.int (16 : Int32)), (.int p0)])) t → Steps p.tables e below (s₁.setTop (entryFrame m #[(.int p0)] 2)) t := by
          intro t kt
          refine G5 _ ?_
          show Steps p.tables e below (s₁.setTop (mkF m 37 #[.val (.int p0), .val (.int (31 : Int32))] [(.int (256 : Int32)), (.int p0)])) _
          refine XS.icmpYes X0.here hx rfl (pc0 := 37) (pc' := 48) rfl (hb hby d4_37) rfl (tlt hc37_6).1 (by decide) (by decide) ?_
          show Steps p.tables e below (s₁.setTop (mkF m 48 #[.val (.int p0), .val (.int (31 : Int32))] [])) _
          refine XS.iloadN X0.here hx rfl (hb hby d4_48) rfl ?_
          show Steps p.tables e below (s₁.setTop (mkF m 49 #[.val (.int p0), .val (.int (31 : Int32))] [(.int p0)])) _
          refine XS.bipush X0.here hx rfl (hb hby d4_49) ?_
          exact kt
        by_cases hc51_8 : p0 < (16 : Int32)
        · skip
          have G9 : ∀ t, Steps p.tables e below (s₁.setTop (mkF m 63 #[.val (.int p0), .val (.int (31 : Int32))] [(.int (4 : Int32)), (.int p0)])) t → Steps p.tables e below (s₁.setTop (entryFrame m #[(.int p0)] 2)) t := by
            intro t kt
            refine G7 _ ?_
            show Steps p.tables e below (s₁.setTop (mkF m 51 #[.val (.int p0), .val (.int (31 : Int32))] [(.int (16 : Int32)), (.int p0)])) _
            refine XS.icmpYes X0.here hx rfl (pc0 := 51) (pc' := 61) rfl (hb hby d4_51) rfl (tlt hc51_8).1 (by decide) (by decide) ?_
            show Steps p.tables e below (s₁.setTop (mkF m 61 #[.val (.int p0), .val (.int (31 : Int32))] [])) _
            refine XS.iloadN X0.here hx rfl (hb hby d4_61) rfl ?_
            show Steps p.tables e below (s₁.setTop (mkF m 62 #[.val (.int p0), .val (.int (31 : Int32))] [(.int p0)])) _
            refine XS.iconst X0.here hx rfl (hb hby d4_62) ?_
            exact kt
          by_cases hc63_10 : p0 < (4 : Int32)
          · skip
            obtain ⟨fs, hr, hrun, hended, hW, hsame⟩ := X0.leave (v := some (.int ((31 : Int32) - ((p0.toUInt32 >>> ((1 : Int32) &&& 31).toUInt32).toInt32)))) (fun h => by rw [Bd.returns] at h; cases h)
            refine ⟨_, _, G9 _ ?_, hrun, hended, _, _, rfl, ?_, ⟨_, rfl⟩, hW, hsame.mono (by decide) (by decide)⟩
            · skip
              show Steps p.tables e below (s₁.setTop (mkF m 63 #[.val (.int p0), .val (.int (31 : Int32))] [(.int (4 : Int32)), (.int p0)])) _
              refine XS.icmpYes X0.here hx rfl (pc0 := 63) (pc' := 73) rfl (hb hby d4_63) rfl (tlt hc63_10).1 (by decide) (by decide) ?_
              show Steps p.tables e below (s₁.setTop (mkF m 73 #[.val (.int p0), .val (.int (31 : Int32))] [])) _
              refine XS.iloadN X0.here hx rfl (hb hby d4_73) rfl ?_
              show Steps p.tables e below (s₁.setTop (mkF m 74 #[.val (.int p0), .val (.int (31 : Int32))] [(.int (31 : Int32))])) _
              refine XS.iloadN X0.here hx rfl (hb hby d4_74) rfl ?_
              show Steps p.tables e below (s₁.setTop (mkF m 75 #[.val (.int p0), .val (.int (31 : Int32))] [(.int p0), (.int (31 : Int32))])) _
              refine XS.iconst X0.here hx rfl (hb hby d4_75) ?_
              show Steps p.tables e below (s₁.setTop (mkF m 76 #[.val (.int p0), .val (.int (31 : Int32))] [(.int (1 : Int32)), (.int p0), (.int (31 : Int32))])) _
              refine XS.iushr X0.here hx rfl (hb hby d4_76) rfl ?_
              show Steps p.tables e below (s₁.setTop (mkF m 77 #[.val (.int p0), .val (.int (31 : Int32))] [(.int ((p0.toUInt32 >>> ((1 : Int32) &&& 31).toUInt32).toInt32)), (.int (31 : Int32))])) _
              refine XS.isub X0.here hx rfl (hb hby d4_77) rfl ?_
              show Steps p.tables e below (s₁.setTop (mkF m 78 #[.val (.int p0), .val (.int (31 : Int32))] [(.int ((31 : Int32) - ((p0.toUInt32 >>> ((1 : Int32) &&& 31).toUInt32).toInt32)))])) _
              exact retI X0 hx Bd.returns (hb hby d4_78) hr
            · show Q4 Z p0 h0 n0 _ s₁.heap _
              rw [e0]
              exact ⟨by rw [f4, if_pos hc1_2, if_pos hc22_4, if_pos hc37_6, if_pos hc51_8, if_pos hc63_10], N0, rfl⟩
          · skip
            obtain ⟨fs, hr, hrun, hended, hW, hsame⟩ := X0.leave (v := some (.int (((31 : Int32) + (-2 : Int32)) - ((((p0.toUInt32 >>> ((2 : Int32) &&& 31).toUInt32).toInt32).toUInt32 >>> ((1 : Int32) &&& 31).toUInt32).toInt32)))) (fun h => by rw [Bd.returns] at h; cases h)
            refine ⟨_, _, G9 _ ?_, hrun, hended, _, _, rfl, ?_, ⟨_, rfl⟩, hW, hsame.mono (by decide) (by decide)⟩
            · skip
              show Steps p.tables e below (s₁.setTop (mkF m 63 #[.val (.int p0), .val (.int (31 : Int32))] [(.int (4 : Int32)), (.int p0)])) _
              refine XS.icmpNo X0.here hx rfl (hb hby d4_63) rfl (flt hc63_10).1 ?_
              show Steps p.tables e below (s₁.setTop (mkF m 66 #[.val (.int p0), .val (.int (31 : Int32))] [])) _
              refine XS.iinc X0.here hx rfl (hb hby d4_66) rfl (l' := #[.val (.int p0), .val (.int ((31 : Int32) + (-2 : Int32)))]) rfl ?_
              show Steps p.tables e below (s₁.setTop (mkF m 69 #[.val (.int p0), .val (.int ((31 : Int32) + (-2 : Int32)))] [])) _
              refine XS.iloadN X0.here hx rfl (hb hby d4_69) rfl ?_
              show Steps p.tables e below (s₁.setTop (mkF m 70 #[.val (.int p0), .val (.int ((31 : Int32) + (-2 : Int32)))] [(.int p0)])) _
              refine XS.iconst X0.here hx rfl (hb hby d4_70) ?_
              show Steps p.tables e below (s₁.setTop (mkF m 71 #[.val (.int p0), .val (.int ((31 : Int32) + (-2 : Int32)))] [(.int (2 : Int32)), (.int p0)])) _
              refine XS.iushr X0.here hx rfl (hb hby d4_71) rfl ?_
              show Steps p.tables e below (s₁.setTop (mkF m 72 #[.val (.int p0), .val (.int ((31 : Int32) + (-2 : Int32)))] [(.int ((p0.toUInt32 >>> ((2 : Int32) &&& 31).toUInt32).toInt32))])) _
              refine XS.istoreN X0.here hx rfl (hb hby d4_72) rfl (l' := #[.val (.int ((p0.toUInt32 >>> ((2 : Int32) &&& 31).toUInt32).toInt32)), .val (.int ((31 : Int32) + (-2 : Int32)))]) rfl ?_
              show Steps p.tables e below (s₁.setTop (mkF m 73 #[.val (.int ((p0.toUInt32 >>> ((2 : Int32) &&& 31).toUInt32).toInt32)), .val (.int ((31 : Int32) + (-2 : Int32)))] [])) _
              refine XS.iloadN X0.here hx rfl (hb hby d4_73) rfl ?_
              show Steps p.tables e below (s₁.setTop (mkF m 74 #[.val (.int ((p0.toUInt32 >>> ((2 : Int32) &&& 31).toUInt32).toInt32)), .val (.int ((31 : Int32) + (-2 : Int32)))] [(.int ((31 : Int32) + (-2 : Int32)))])) _
              refine XS.iloadN X0.here hx rfl (hb hby d4_74) rfl ?_
              show Steps p.tables e below (s₁.setTop (mkF m 75 #[.val (.int ((p0.toUInt32 >>> ((2 : Int32) &&& 31).toUInt32).toInt32)), .val (.int ((31 : Int32) + (-2 : Int32)))] [(.int ((p0.toUInt32 >>> ((2 : Int32) &&& 31).toUInt32).toInt32)), (.int ((31 : Int32) + (-2 : Int32)))])) _
              refine XS.iconst X0.here hx rfl (hb hby d4_75) ?_
              show Steps p.tables e below (s₁.setTop (mkF m 76 #[.val (.int ((p0.toUInt32 >>> ((2 : Int32) &&& 31).toUInt32).toInt32)), .val (.int ((31 : Int32) + (-2 : Int32)))] [(.int (1 : Int32)), (.int ((p0.toUInt32 >>> ((2 : Int32) &&& 31).toUInt32).toInt32)), (.int ((31 : Int32) + (-2 : Int32)))])) _
              refine XS.iushr X0.here hx rfl (hb hby d4_76) rfl ?_
              show Steps p.tables e below (s₁.setTop (mkF m 77 #[.val (.int ((p0.toUInt32 >>> ((2 : Int32) &&& 31).toUInt32).toInt32)), .val (.int ((31 : Int32) + (-2 : Int32)))] [(.int ((((p0.toUInt32 >>> ((2 : Int32) &&& 31).toUInt32).toInt32).toUInt32 >>> ((1 : Int32) &&& 31).toUInt32).toInt32)), (.int ((31 : Int32) + (-2 : Int32)))])) _
              refine XS.isub X0.here hx rfl (hb hby d4_77) rfl ?_
              show Steps p.tables e below (s₁.setTop (mkF m 78 #[.val (.int ((p0.toUInt32 >>> ((2 : Int32) &&& 31).toUInt32).toInt32)), .val (.int ((31 : Int32) + (-2 : Int32)))] [(.int (((31 : Int32) + (-2 : Int32)) - ((((p0.toUInt32 >>> ((2 : Int32) &&& 31).toUInt32).toInt32).toUInt32 >>> ((1 : Int32) &&& 31).toUInt32).toInt32)))])) _
              exact retI X0 hx Bd.returns (hb hby d4_78) hr
            · show Q4 Z p0 h0 n0 _ s₁.heap _
              rw [e0]
              exact ⟨by rw [f4, if_pos hc1_2, if_pos hc22_4, if_pos hc37_6, if_pos hc51_8, if_neg hc63_10], N0, rfl⟩
        · skip
          have G11 : ∀ t, Steps p.tables e below (s₁.setTop (mkF m 63 #[.val (.int ((p0.toUInt32 >>> ((4 : Int32) &&& 31).toUInt32).toInt32)), .val (.int ((31 : Int32) + (-4 : Int32)))] [(.int (4 : Int32)), (.int ((p0.toUInt32 >>> ((4 : Int32) &&& 31).toUInt32).toInt32))])) t → Steps p.tables e below (s₁.setTop (entryFrame m #[(.int p0)] 2)) t := by
            intro t kt
            refine G7 _ ?_
            show Steps p.tables e below (s₁.setTop (mkF m 51 #[.val (.int p0), .val (.int (31 : Int32))] [(.int (16 : Int32)), (.int p0)])) _
            refine XS.icmpNo X0.here hx rfl (hb hby d4_51) rfl (flt hc51_8).1 ?_
            show Steps p.tables e below (s₁.setTop (mkF m 54 #[.val (.int p0), .val (.int (31 : Int32))] [])) _
            refine XS.iinc X0.here hx rfl (hb hby d4_54) rfl (l' := #[.val (.int p0), .val (.int ((31 : Int32) + (-4 : Int32)))]) rfl ?_
            show Steps p.tables e below (s₁.setTop (mkF m 57 #[.val (.int p0), .val (.int ((31 : Int32) + (-4 : Int32)))] [])) _
            refine XS.iloadN X0.here hx rfl (hb hby d4_57) rfl ?_
            show Steps p.tables e below (s₁.setTop (mkF m 58 #[.val (.int p0), .val (.int ((31 : Int32) + (-4 : Int32)))] [(.int p0)])) _
            refine XS.iconst X0.here hx rfl (hb hby d4_58) ?_
            show Steps p.tables e below (s₁.setTop (mkF m 59 #[.val (.int p0), .val (.int ((31 : Int32) + (-4 : Int32)))] [(.int (4 : Int32)), (.int p0)])) _
            refine XS.iushr X0.here hx rfl (hb hby d4_59) rfl ?_
            show Steps p.tables e below (s₁.setTop (mkF m 60 #[.val (.int p0), .val (.int ((31 : Int32) + (-4 : Int32)))] [(.int ((p0.toUInt32 >>> ((4 : Int32) &&& 31).toUInt32).toInt32))])) _
            refine XS.istoreN X0.here hx rfl (hb hby d4_60) rfl (l' := #[.val (.int ((p0.toUInt32 >>> ((4 : Int32) &&& 31).toUInt32).toInt32)), .val (.int ((31 : Int32) + (-4 : Int32)))]) rfl ?_
            show Steps p.tables e below (s₁.setTop (mkF m 61 #[.val (.int ((p0.toUInt32 >>> ((4 : Int32) &&& 31).toUInt32).toInt32)), .val (.int ((31 : Int32) + (-4 : Int32)))] [])) _
            refine XS.iloadN X0.here hx rfl (hb hby d4_61) rfl ?_
            show Steps p.tables e below (s₁.setTop (mkF m 62 #[.val (.int ((p0.toUInt32 >>> ((4 : Int32) &&& 31).toUInt32).toInt32)), .val (.int ((31 : Int32) + (-4 : Int32)))] [(.int ((p0.toUInt32 >>> ((4 : Int32) &&& 31).toUInt32).toInt32))])) _
            refine XS.iconst X0.here hx rfl (hb hby d4_62) ?_
            exact kt
          by_cases hc63_12 : ((p0.toUInt32 >>> ((4 : Int32) &&& 31).toUInt32).toInt32) < (4 : Int32)
          · skip
            obtain ⟨fs, hr, hrun, hended, hW, hsame⟩ := X0.leave (v := some (.int (((31 : Int32) + (-4 : Int32)) - ((((p0.toUInt32 >>> ((4 : Int32) &&& 31).toUInt32).toInt32).toUInt32 >>> ((1 : Int32) &&& 31).toUInt32).toInt32)))) (fun h => by rw [Bd.returns] at h; cases h)
            refine ⟨_, _, G11 _ ?_, hrun, hended, _, _, rfl, ?_, ⟨_, rfl⟩, hW, hsame.mono (by decide) (by decide)⟩
            · skip
              show Steps p.tables e below (s₁.setTop (mkF m 63 #[.val (.int ((p0.toUInt32 >>> ((4 : Int32) &&& 31).toUInt32).toInt32)), .val (.int ((31 : Int32) + (-4 : Int32)))] [(.int (4 : Int32)), (.int ((p0.toUInt32 >>> ((4 : Int32) &&& 31).toUInt32).toInt32))])) _
              refine XS.icmpYes X0.here hx rfl (pc0 := 63) (pc' := 73) rfl (hb hby d4_63) rfl (tlt hc63_12).1 (by decide) (by decide) ?_
              show Steps p.tables e below (s₁.setTop (mkF m 73 #[.val (.int ((p0.toUInt32 >>> ((4 : Int32) &&& 31).toUInt32).toInt32)), .val (.int ((31 : Int32) + (-4 : Int32)))] [])) _
              refine XS.iloadN X0.here hx rfl (hb hby d4_73) rfl ?_
              show Steps p.tables e below (s₁.setTop (mkF m 74 #[.val (.int ((p0.toUInt32 >>> ((4 : Int32) &&& 31).toUInt32).toInt32)), .val (.int ((31 : Int32) + (-4 : Int32)))] [(.int ((31 : Int32) + (-4 : Int32)))])) _
              refine XS.iloadN X0.here hx rfl (hb hby d4_74) rfl ?_
              show Steps p.tables e below (s₁.setTop (mkF m 75 #[.val (.int ((p0.toUInt32 >>> ((4 : Int32) &&& 31).toUInt32).toInt32)), .val (.int ((31 : Int32) + (-4 : Int32)))] [(.int ((p0.toUInt32 >>> ((4 : Int32) &&& 31).toUInt32).toInt32)), (.int ((31 : Int32) + (-4 : Int32)))])) _
              refine XS.iconst X0.here hx rfl (hb hby d4_75) ?_
              show Steps p.tables e below (s₁.setTop (mkF m 76 #[.val (.int ((p0.toUInt32 >>> ((4 : Int32) &&& 31).toUInt32).toInt32)), .val (.int ((31 : Int32) + (-4 : Int32)))] [(.int (1 : Int32)), (.int ((p0.toUInt32 >>> ((4 : Int32) &&& 31).toUInt32).toInt32)), (.int ((31 : Int32) + (-4 : Int32)))])) _
              refine XS.iushr X0.here hx rfl (hb hby d4_76) rfl ?_
              show Steps p.tables e below (s₁.setTop (mkF m 77 #[.val (.int ((p0.toUInt32 >>> ((4 : Int32) &&& 31).toUInt32).toInt32)), .val (.int ((31 : Int32) + (-4 : Int32)))] [(.int ((((p0.toUInt32 >>> ((4 : Int32) &&& 31).toUInt32).toInt32).toUInt32 >>> ((1 : Int32) &&& 31).toUInt32).toInt32)), (.int ((31 : Int32) + (-4 : Int32)))])) _
              refine XS.isub X0.here hx rfl (hb hby d4_77) rfl ?_
              show Steps p.tables e below (s₁.setTop (mkF m 78 #[.val (.int ((p0.toUInt32 >>> ((4 : Int32) &&& 31).toUInt32).toInt32)), .val (.int ((31 : Int32) + (-4 : Int32)))] [(.int (((31 : Int32) + (-4 : Int32)) - ((((p0.toUInt32 >>> ((4 : Int32) &&& 31).toUInt32).toInt32).toUInt32 >>> ((1 : Int32) &&& 31).toUInt32).toInt32)))])) _
              exact retI X0 hx Bd.returns (hb hby d4_78) hr
            · show Q4 Z p0 h0 n0 _ s₁.heap _
              rw [e0]
              exact ⟨by rw [f4, if_pos hc1_2, if_pos hc22_4, if_pos hc37_6, if_neg hc51_8, if_pos hc63_12], N0, rfl⟩
          · skip
            obtain ⟨fs, hr, hrun, hended, hW, hsame⟩ := X0.leave (v := some (.int ((((31 : Int32) + (-4 : Int32)) + (-2 : Int32)) - ((((((p0.toUInt32 >>> ((4 : Int32) &&& 31).toUInt32).toInt32).toUInt32 >>> ((2 : Int32) &&& 31).toUInt32).toInt32).toUInt32 >>> ((1 : Int32) &&& 31).toUInt32).toInt32)))) (fun h => by rw [Bd.returns] at h; cases h)
            refine ⟨_, _, G11 _ ?_, hrun, hended, _, _, rfl, ?_, ⟨_, rfl⟩, hW, hsame.mono (by decide) (by decide)⟩
            · skip
              show Steps p.tables e below (s₁.setTop (mkF m 63 #[.val (.int ((p0.toUInt32 >>> ((4 : Int32) &&& 31).toUInt32).toInt32)), .val (.int ((31 : Int32) + (-4 : Int32)))] [(.int (4 : Int32)), (.int ((p0.toUInt32 >>> ((4 : Int32) &&& 31).toUInt32).toInt32))])) _
              refine XS.icmpNo X0.here hx rfl (hb hby d4_63) rfl (flt hc63_12).1 ?_
              show Steps p.tables e below (s₁.setTop (mkF m 66 #[.val (.int ((p0.toUInt32 >>> ((4 : Int32) &&& 31).toUInt32).toInt32)), .val (.int ((31 : Int32) + (-4 : Int32)))] [])) _
              refine XS.iinc X0.here hx rfl (hb hby d4_66) rfl (l' := #[.val (.int ((p0.toUInt32 >>> ((4 : Int32) &&& 31).toUInt32).toInt32)), .val (.int (((31 : Int32) + (-4 : Int32)) + (-2 : Int32)))]) rfl ?_
              show Steps p.tables e below (s₁.setTop (mkF m 69 #[.val (.int ((p0.toUInt32 >>> ((4 : Int32) &&& 31).toUInt32).toInt32)), .val (.int (((31 : Int32) + (-4 : Int32)) + (-2 : Int32)))] [])) _
              refine XS.iloadN X0.here hx rfl (hb hby d4_69) rfl ?_
              show Steps p.tables e below (s₁.setTop (mkF m 70 #[.val (.int ((p0.toUInt32 >>> ((4 : Int32) &&& 31).toUInt32).toInt32)), .val (.int (((31 : Int32) + (-4 : Int32)) + (-2 : Int32)))] [(.int ((p0.toUInt32 >>> ((4 : Int32) &&& 31).toUInt32).toInt32))])) _
              refine XS.iconst X0.here hx rfl (hb hby d4_70) ?_
              show Steps p.tables e below (s₁.setTop (mkF m 71 #[.val (.int ((p0.toUInt32 >>> ((4 : Int32) &&& 31).toUInt32).toInt32)), .val (.int (((31 : Int32) + (-4 : Int32)) + (-2 : Int32)))] [(.int (2 : Int32)), (.int ((p0.toUInt32 >>> ((4 : Int32) &&& 31).toUInt32).toInt32))])) _
              refine XS.iushr X0.here hx rfl (hb hby d4_71) rfl ?_
              show Steps p.tables e below (s₁.setTop (mkF m 72 #[.val (.int ((p0.toUInt32 >>> ((4 : Int32) &&& 31).toUInt32).toInt32)), .val (.int (((31 : Int32) + (-4 : Int32)) + (-2 : Int32)))] [(.int ((((p0.toUInt32 >>> ((4 : Int32) &&& 31).toUInt32).toInt32).toUInt32 >>> ((2 : Int32) &&& 31).toUInt32).toInt32))])) _
              refine XS.istoreN X0.here hx rfl (hb hby d4_72) rfl (l' := #[.val (.int ((((p0.toUInt32 >>> ((4 : Int32) &&& 31).toUInt32).toInt32).toUInt32 >>> ((2 : Int32) &&& 31).toUInt32).toInt32)), .val (.int (((31 : Int32) + (-4 : Int32)) + (-2 : Int32)))]) rfl ?_
              show Steps p.tables e below (s₁.setTop (mkF m 73 #[.val (.int ((((p0.toUInt32 >>> ((4 : Int32) &&& 31).toUInt32).toInt32).toUInt32 >>> ((2 : Int32) &&& 31).toUInt32).toInt32)), .val (.int (((31 : Int32) + (-4 : Int32)) + (-2 : Int32)))] [])) _
              refine XS.iloadN X0.here hx rfl (hb hby d4_73) rfl ?_
              show Steps p.tables e below (s₁.setTop (mkF m 74 #[.val (.int ((((p0.toUInt32 >>> ((4 : Int32) &&& 31).toUInt32).toInt32).toUInt32 >>> ((2 : Int32) &&& 31).toUInt32).toInt32)), .val (.int (((31 : Int32) + (-4 : Int32)) + (-2 : Int32)))] [(.int (((31 : Int32) + (-4 : Int32)) + (-2 : Int32)))])) _
              refine XS.iloadN X0.here hx rfl (hb hby d4_74) rfl ?_
              show Steps p.tables e below (s₁.setTop (mkF m 75 #[.val (.int ((((p0.toUInt32 >>> ((4 : Int32) &&& 31).toUInt32).toInt32).toUInt32 >>> ((2 : Int32) &&& 31).toUInt32).toInt32)), .val (.int (((31 : Int32) + (-4 : Int32)) + (-2 : Int32)))] [(.int ((((p0.toUInt32 >>> ((4 : Int32) &&& 31).toUInt32).toInt32).toUInt32 >>> ((2 : Int32) &&& 31).toUInt32).toInt32)), (.int (((31 : Int32) + (-4 : Int32)) + (-2 : Int32)))])) _
              refine XS.iconst X0.here hx rfl (hb hby d4_75) ?_
              show Steps p.tables e below (s₁.setTop (mkF m 76 #[.val (.int ((((p0.toUInt32 >>> ((4 : Int32) &&& 31).toUInt32).toInt32).toUInt32 >>> ((2 : Int32) &&& 31).toUInt32).toInt32)), .val (.int (((31 : Int32) + (-4 : Int32)) + (-2 : Int32)))] [(.int (1 : Int32)), (.int ((((p0.toUInt32 >>> ((4 : Int32) &&& 31).toUInt32).toInt32).toUInt32 >>> ((2 : Int32) &&& 31).toUInt32).toInt32)), (.int (((31 : Int32) + (-4 : Int32)) + (-2 : Int32)))])) _
              refine XS.iushr X0.here hx rfl (hb hby d4_76) rfl ?_
              show Steps p.tables e below (s₁.setTop (mkF m 77 #[.val (.int ((((p0.toUInt32 >>> ((4 : Int32) &&& 31).toUInt32).toInt32).toUInt32 >>> ((2 : Int32) &&& 31).toUInt32).toInt32)), .val (.int (((31 : Int32) + (-4 : Int32)) + (-2 : Int32)))] [(.int ((((((p0.toUInt32 >>> ((4 : Int32) &&& 31).toUInt32).toInt32).toUInt32 >>> ((2 : Int32) &&& 31).toUInt32).toInt32).toUInt32 >>> ((1 : Int32) &&& 31).toUInt32).toInt32)), (.int (((31 : Int32) + (-4 : Int32)) + (-2 : Int32)))])) _
              refine XS.isub X0.here hx rfl (hb hby d4_77) rfl ?_
              show Steps p.tables e below (s₁.setTop (mkF m 78 #[.val (.int ((((p0.toUInt32 >>> ((4 : Int32) &&& 31).toUInt32).toInt32).toUInt32 >>> ((2 : Int32) &&& 31).toUInt32).toInt32)), .val (.int (((31 : Int32) + (-4 : Int32)) + (-2 : Int32)))] [(.int ((((31 : Int32) + (-4 : Int32)) + (-2 : Int32)) - ((((((p0.toUInt32 >>> ((4 : Int32) &&& 31).toUInt32).toInt32).toUInt32 >>> ((2 : Int32) &&& 31).toUInt32).toInt32).toUInt32 >>> ((1 : Int32) &&& 31).toUInt32).toInt32)))])) _
              exact retI X0 hx Bd.returns (hb hby d4_78) hr
            · show Q4 Z p0 h0 n0 _ s₁.heap _
              rw [e0]
              exact ⟨by rw [f4, if_pos hc1_2, if_pos hc22_4, if_pos hc37_6, if_neg hc51_8, if_neg hc63_12], N0, rfl⟩
      · skip
        have G13 : ∀ t, Steps p.tables e below (s₁.setTop (mkF m 51 #[.val (.int ((p0.toUInt32 >>> ((8 : Int32) &&& 31).toUInt32).toInt32)), .val (.int ((31 : Int32) + (-8 : Int32)))] [(.int (16 : Int32)), (.int ((p0.toUInt32 >>> ((8 : Int32) &&& 31).toUInt32).toInt32))])) t → Steps p.tables e below (s₁.setTop (entryFrame m #[(.int p0)] 2)) t := by
          intro t kt
          refine G5 _ ?_
          show Steps p.tables e below (s₁.setTop (mkF m 37 #[.val (.int p0), .val (.int (31 : Int32))] [(.int (256 : Int32)), (.int p0)])) _
          refine XS.icmpNo X0.here hx rfl (hb hby d4_37) rfl (flt hc37_6).1 ?_
          show Steps p.tables e below (s₁.setTop (mkF m 40 #[.val (.int p0), .val (.int (31 : Int32))] [])) _
          refine XS.iinc X0.here hx rfl (hb hby d4_40) rfl (l' := #[.val (.int p0), .val (.int ((31 : Int32) + (-8 : Int32)))]) rfl ?_
          show Steps p.tables e below (s₁.setTop (mkF m 43 #[.val (.int p0), .val (.int ((31 : Int32) + (-8 : Int32)))] [])) _
          refine XS.iloadN X0.here hx rfl (hb hby d4_43) rfl ?_
          show Steps p.tables e below (s₁.setTop (mkF m 44 #[.val (.int p0), .val (.int ((31 : Int32) + (-8 : Int32)))] [(.int p0)])) _
          refine XS.bipush X0.here hx rfl (hb hby d4_44) ?_
          show Steps p.tables e below (s₁.setTop (mkF m 46 #[.val (.int p0), .val (.int ((31 : Int32) + (-8 : Int32)))] [(.int (8 : Int32)), (.int p0)])) _
          refine XS.iushr X0.here hx rfl (hb hby d4_46) rfl ?_
          show Steps p.tables e below (s₁.setTop (mkF m 47 #[.val (.int p0), .val (.int ((31 : Int32) + (-8 : Int32)))] [(.int ((p0.toUInt32 >>> ((8 : Int32) &&& 31).toUInt32).toInt32))])) _
          refine XS.istoreN X0.here hx rfl (hb hby d4_47) rfl (l' := #[.val (.int ((p0.toUInt32 >>> ((8 : Int32) &&& 31).toUInt32).toInt32)), .val (.int ((31 : Int32) + (-8 : Int32)))]) rfl ?_
          show Steps p.tables e below (s₁.setTop (mkF m 48 #[.val (.int ((p0.toUInt32 >>> ((8 : Int32) &&& 31).toUInt32).toInt32)), .val (.int ((31 : Int32) + (-8 : Int32)))] [])) _
          refine XS.iloadN X0.here hx rfl (hb hby d4_48) rfl ?_
          show Steps p.tables e below (s₁.setTop (mkF m 49 #[.val (.int ((p0.toUInt32 >>> ((8 : Int32) &&& 31).toUInt32).toInt32)), .val (.int ((31 : Int32) + (-8 : Int32)))] [(.int ((p0.toUInt32 >>> ((8 : Int32) &&& 31).toUInt32).toInt32))])) _
          refine XS.bipush X0.here hx rfl (hb hby d4_49) ?_
          exact kt
        by_cases hc51_14 : ((p0.toUInt32 >>> ((8 : Int32) &&& 31).toUInt32).toInt32) < (16 : Int32)
        · skip
          have G15 : ∀ t, Steps p.tables e below (s₁.setTop (mkF m 63 #[.val (.int ((p0.toUInt32 >>> ((8 : Int32) &&& 31).toUInt32).toInt32)), .val (.int ((31 : Int32) + (-8 : Int32)))] [(.int (4 : Int32)), (.int ((p0.toUInt32 >>> ((8 : Int32) &&& 31).toUInt32).toInt32))])) t → Steps p.tables e below (s₁.setTop (entryFrame m #[(.int p0)] 2)) t := by
            intro t kt
            refine G13 _ ?_
            show Steps p.tables e below (s₁.setTop (mkF m 51 #[.val (.int ((p0.toUInt32 >>> ((8 : Int32) &&& 31).toUInt32).toInt32)), .val (.int ((31 : Int32) + (-8 : Int32)))] [(.int (16 : Int32)), (.int ((p0.toUInt32 >>> ((8 : Int32) &&& 31).toUInt32).toInt32))])) _
            refine XS.icmpYes X0.here hx rfl (pc0 := 51) (pc' := 61) rfl (hb hby d4_51) rfl (tlt hc51_14).1 (by decide) (by decide) ?_
            show Steps p.tables e below (s₁.setTop (mkF m 61 #[.val (.int ((p0.toUInt32 >>> ((8 : Int32) &&& 31).toUInt32).toInt32)), .val (.int ((31 : Int32) + (-8 : Int32)))] [])) _
            refine XS.iloadN X0.here hx rfl (hb hby d4_61) rfl ?_
            show Steps p.tables e below (s₁.setTop (mkF m 62 #[.val (.int ((p0.toUInt32 >>> ((8 : Int32) &&& 31).toUInt32).toInt32)), .val (.int ((31 : Int32) + (-8 : Int32)))] [(.int ((p0.toUInt32 >>> ((8 : Int32) &&& 31).toUInt32).toInt32))])) _
            refine XS.iconst X0.here hx rfl (hb hby d4_62) ?_
            exact kt
          by_cases hc63_16 : ((p0.toUInt32 >>> ((8 : Int32) &&& 31).toUInt32).toInt32) < (4 : Int32)
          · skip
            obtain ⟨fs, hr, hrun, hended, hW, hsame⟩ := X0.leave (v := some (.int (((31 : Int32) + (-8 : Int32)) - ((((p0.toUInt32 >>> ((8 : Int32) &&& 31).toUInt32).toInt32).toUInt32 >>> ((1 : Int32) &&& 31).toUInt32).toInt32)))) (fun h => by rw [Bd.returns] at h; cases h)
            refine ⟨_, _, G15 _ ?_, hrun, hended, _, _, rfl, ?_, ⟨_, rfl⟩, hW, hsame.mono (by decide) (by decide)⟩
            · skip
              show Steps p.tables e below (s₁.setTop (mkF m 63 #[.val (.int ((p0.toUInt32 >>> ((8 : Int32) &&& 31).toUInt32).toInt32)), .val (.int ((31 : Int32) + (-8 : Int32)))] [(.int (4 : Int32)), (.int ((p0.toUInt32 >>> ((8 : Int32) &&& 31).toUInt32).toInt32))])) _
              refine XS.icmpYes X0.here hx rfl (pc0 := 63) (pc' := 73) rfl (hb hby d4_63) rfl (tlt hc63_16).1 (by decide) (by decide) ?_
              show Steps p.tables e below (s₁.setTop (mkF m 73 #[.val (.int ((p0.toUInt32 >>> ((8 : Int32) &&& 31).toUInt32).toInt32)), .val (.int ((31 : Int32) + (-8 : Int32)))] [])) _
              refine XS.iloadN X0.here hx rfl (hb hby d4_73) rfl ?_
              show Steps p.tables e below (s₁.setTop (mkF m 74 #[.val (.int ((p0.toUInt32 >>> ((8 : Int32) &&& 31).toUInt32).toInt32)), .val (.int ((31 : Int32) + (-8 : Int32)))] [(.int ((31 : Int32) + (-8 : Int32)))])) _
              refine XS.iloadN X0.here hx rfl (hb hby d4_74) rfl ?_
              show Steps p.tables e below (s₁.setTop (mkF m 75 #[.val (.int ((p0.toUInt32 >>> ((8 : Int32) &&& 31).toUInt32).toInt32)), .val (.int ((31 : Int32) + (-8 : Int32)))] [(.int ((p0.toUInt32 >>> ((8 : Int32) &&& 31).toUInt32).toInt32)), (.int ((31 : Int32) + (-8 : Int32)))])) _
              refine XS.iconst X0.here hx rfl (hb hby d4_75) ?_
              show Steps p.tables e below (s₁.setTop (mkF m 76 #[.val (.int ((p0.toUInt32 >>> ((8 : Int32) &&& 31).toUInt32).toInt32)), .val (.int ((31 : Int32) + (-8 : Int32)))] [(.int (1 : Int32)), (.int ((p0.toUInt32 >>> ((8 : Int32) &&& 31).toUInt32).toInt32)), (.int ((31 : Int32) + (-8 : Int32)))])) _
              refine XS.iushr X0.here hx rfl (hb hby d4_76) rfl ?_
              show Steps p.tables e below (s₁.setTop (mkF m 77 #[.val (.int ((p0.toUInt32 >>> ((8 : Int32) &&& 31).toUInt32).toInt32)), .val (.int ((31 : Int32) + (-8 : Int32)))] [(.int ((((p0.toUInt32 >>> ((8 : Int32) &&& 31).toUInt32).toInt32).toUInt32 >>> ((1 : Int32) &&& 31).toUInt32).toInt32)), (.int ((31 : Int32) + (-8 : Int32)))])) _
              refine XS.isub X0.here hx rfl (hb hby d4_77) rfl ?_
              show Steps p.tables e below (s₁.setTop (mkF m 78 #[.val (.int ((p0.toUInt32 >>> ((8 : Int32) &&& 31).toUInt32).toInt32)), .val (.int ((31 : Int32) + (-8 : Int32)))] [(.int (((31 : Int32) + (-8 : Int32)) - ((((p0.toUInt32 >>> ((8 : Int32) &&& 31).toUInt32).toInt32).toUInt32 >>> ((1 : Int32) &&& 31).toUInt32).toInt32)))])) _
              exact retI X0 hx Bd.returns (hb hby d4_78) hr
            · show Q4 Z p0 h0 n0 _ s₁.heap _
              rw [e0]
              exact ⟨by rw [f4, if_pos hc1_2, if_pos hc22_4, if_neg hc37_6, if_pos hc51_14, if_pos hc63_16], N0, rfl⟩
          · skip
            obtain ⟨fs, hr, hrun, hended, hW, hsame⟩ := X0.leave (v := some (.int ((((31 : Int32) + (-8 : Int32)) + (-2 : Int32)) - ((((((p0.toUInt32 >>> ((8 : Int32) &&& 31).toUInt32).toInt32).toUInt32 >>> ((2 : Int32) &&& 31).toUInt32).toInt32).toUInt32 >>> ((1 : Int32) &&& 31).toUInt32).toInt32)))) (fun h => by rw [Bd.returns] at h; cases h)
            refine ⟨_, _, G15 _ ?_, hrun, hended, _, _, rfl, ?_, ⟨_, rfl⟩, hW, hsame.mono (by decide) (by decide)⟩
            · skip
              show Steps p.tables e below (s₁.setTop (mkF m 63 #[.val (.int ((p0.toUInt32 >>> ((8 : Int32) &&& 31).toUInt32).toInt32)), .val (.int ((31 : Int32) + (-8 : Int32)))] [(.int (4 : Int32)), (.int ((p0.toUInt32 >>> ((8 : Int32) &&& 31).toUInt32).toInt32))])) _
              refine XS.icmpNo X0.here hx rfl (hb hby d4_63) rfl (flt hc63_16).1 ?_
              show Steps p.tables e below (s₁.setTop (mkF m 66 #[.val (.int ((p0.toUInt32 >>> ((8 : Int32) &&& 31).toUInt32).toInt32)), .val (.int ((31 : Int32) + (-8 : Int32)))] [])) _
              refine XS.iinc X0.here hx rfl (hb hby d4_66) rfl (l' := #[.val (.int ((p0.toUInt32 >>> ((8 : Int32) &&& 31).toUInt32).toInt32)), .val (.int (((31 : Int32) + (-8 : Int32)) + (-2 : Int32)))]) rfl ?_
              show Steps p.tables e below (s₁.setTop (mkF m 69 #[.val (.int ((p0.toUInt32 >>> ((8 : Int32) &&& 31).toUInt32).toInt32)), .val (.int (((31 : Int32) + (-8 : Int32)) + (-2 : Int32)))] [])) _
              refine XS.iloadN X0.here hx rfl (hb hby d4_69) rfl ?_
              show Steps p.tables e below (s₁.setTop (mkF m 70 #[.val (.int ((p0.toUInt32 >>> ((8 : Int32) &&& 31).toUInt32).toInt32)), .val (.int (((31 : Int32) + (-8 : Int32)) + (-2 : Int32)))] [(.int ((p0.toUInt32 >>> ((8 : Int32) &&& 31).toUInt32).toInt32))])) _
              refine XS.iconst X0.here hx rfl (hb hby d4_70) ?_
              show Steps p.tables e below (s₁.setTop (mkF m 71 #[.val (.int ((p0.toUInt32 >>> ((8 : Int32) &&& 31).toUInt32).toInt32)), .val (.int (((31 : Int32) + (-8 : Int32)) + (-2 : Int32)))] [(.int (2 : Int32)), (.int ((p0.toUInt32 >>> ((8 : Int32) &&& 31).toUInt32).toInt32))])) _
              refine XS.iushr X0.here hx rfl (hb hby d4_71) rfl ?_
              show Steps p.tables e below (s₁.setTop (mkF m 72 #[.val (.int ((p0.toUInt32 >>> ((8 : Int32) &&& 31).toUInt32).toInt32)), .val (.int (((31 : Int32) + (-8 : Int32)) + (-2 : Int32)))] [(.int ((((p0.toUInt32 >>> ((8 : Int32) &&& 31).toUInt32).toInt32).toUInt32 >>> ((2 : Int32) &&& 31).toUInt32).toInt32))])) _
              refine XS.istoreN X0.here hx rfl (hb hby d4_72) rfl (l' := #[.val (.int ((((p0.toUInt32 >>> ((8 : Int32) &&& 31).toUInt32).toInt32).toUInt32 >>> ((2 : Int32) &&& 31).toUInt32).toInt32)), .val (.int (((31 : Int32) + (-8 : Int32)) + (-2 : Int32)))]) rfl ?_
              show Steps p.tables e below (s₁.setTop (mkF m 73 #[.val (.int ((((p0.toUInt32 >>> ((8 : Int32) &&& 31).toUInt32).toInt32).toUInt32 >>> ((2 : Int32) &&& 31).toUInt32).toInt32)), .val (.int (((31 : Int32) + (-8 : Int32)) + (-2 : Int32)))] [])) _
              refine XS.iloadN X0.here hx rfl (hb hby d4_73) rfl ?_
              show Steps p.tables e below (s₁.setTop (mkF m 74 #[.val (.int ((((p0.toUInt32 >>> ((8 : Int32) &&& 31).toUInt32).toInt32).toUInt32 >>> ((2 : Int32) &&& 31).toUInt32).toInt32)), .val (.int (((31 : Int32) + (-8 : Int32)) + (-2 : Int32)))] [(.int (((31 : Int32) + (-8 : Int32)) + (-2 : Int32)))])) _
              refine XS.iloadN X0.here hx rfl (hb hby d4_74) rfl ?_
              show Steps p.tables e below (s₁.setTop (mkF m 75 #[.val (.int ((((p0.toUInt32 >>> ((8 : Int32) &&& 31).toUInt32).toInt32).toUInt32 >>> ((2 : Int32) &&& 31).toUInt32).toInt32)), .val (.int (((31 : Int32) + (-8 : Int32)) + (-2 : Int32)))] [(.int ((((p0.toUInt32 >>> ((8 : Int32) &&& 31).toUInt32).toInt32).toUInt32 >>> ((2 : Int32) &&& 31).toUInt32).toInt32)), (.int (((31 : Int32) + (-8 : Int32)) + (-2 : Int32)))])) _
              refine XS.iconst X0.here hx rfl (hb hby d4_75) ?_
              show Steps p.tables e below (s₁.setTop (mkF m 76 #[.val (.int ((((p0.toUInt32 >>> ((8 : Int32) &&& 31).toUInt32).toInt32).toUInt32 >>> ((2 : Int32) &&& 31).toUInt32).toInt32)), .val (.int (((31 : Int32) + (-8 : Int32)) + (-2 : Int32)))] [(.int (1 : Int32)), (.int ((((p0.toUInt32 >>> ((8 : Int32) &&& 31).toUInt32).toInt32).toUInt32 >>> ((2 : Int32) &&& 31).toUInt32).toInt32)), (.int (((31 : Int32) + (-8 : Int32)) + (-2 : Int32)))])) _
              refine XS.iushr X0.here hx rfl (hb hby d4_76) rfl ?_
              show Steps p.tables e below (s₁.setTop (mkF m 77 #[.val (.int ((((p0.toUInt32 >>> ((8 : Int32) &&& 31).toUInt32).toInt32).toUInt32 >>> ((2 : Int32) &&& 31).toUInt32).toInt32)), .val (.int (((31 : Int32) + (-8 : Int32)) + (-2 : Int32)))] [(.int ((((((p0.toUInt32 >>> ((8 : Int32) &&& 31).toUInt32).toInt32).toUInt32 >>> ((2 : Int32) &&& 31).toUInt32).toInt32).toUInt32 >>> ((1 : Int32) &&& 31).toUInt32).toInt32)), (.int (((31 : Int32) + (-8 : Int32)) + (-2 : Int32)))])) _
              refine XS.isub X0.here hx rfl (hb hby d4_77) rfl ?_
              show Steps p.tables e below (s₁.setTop (mkF m 78 #[.val (.int ((((p0.toUInt32 >>> ((8 : Int32) &&& 31).toUInt32).toInt32).toUInt32 >>> ((2 : Int32) &&& 31).toUInt32).toInt32)), .val (.int (((31 : Int32) + (-8 : Int32)) + (-2 : Int32)))] [(.int ((((31 : Int32) + (-8 : Int32)) + (-2 : Int32)) - ((((((p0.toUInt32 >>> ((8 : Int32) &&& 31).toUInt32).toInt32).toUInt32 >>> ((2 : Int32) &&& 31).toUInt32).toInt32).toUInt32 >>> ((1 : Int32) &&& 31).toUInt32).toInt32)))])) _
              exact retI X0 hx Bd.returns (hb hby d4_78) hr
            · show Q4 Z p0 h0 n0 _ s₁.heap _
              rw [e0]
              exact ⟨by rw [f4, if_pos hc1_2, if_pos hc22_4, if_neg hc37_6, if_pos hc51_14, if_neg hc63_16], N0, rfl⟩
        · skip
          have G17 : ∀ t, Steps p.tables e below (s₁.setTop (mkF m 63 #[.val (.int ((((p0.toUInt32 >>> ((8 : Int32) &&& 31).toUInt32).toInt32).toUInt32 >>> ((4 : Int32) &&& 31).toUInt32).toInt32)), .val (.int (((31 : Int32) + (-8 : Int32)) + (-4 : Int32)))] [(.int (4 : Int32)), (.int ((((p0.toUInt32 >>> ((8 : Int32) &&& 31).toUInt32).toInt32).toUInt32 >>> ((4 : Int32) &&& 31).toUInt32).toInt32))])) t → Steps p.tables e below (s₁.setTop (entryFrame m #[(.int p0)] 2)) t := by
            intro t kt
            refine G13 _ ?_
            show Steps p.tables e below (s₁.setTop (mkF m 51 #[.val (.int ((p0.toUInt32 >>> ((8 : Int32) &&& 31).toUInt32).toInt32)), .val (.int ((31 : Int32) + (-8 : Int32)))] [(.int (16 : Int32)), (.int ((p0.toUInt32 >>> ((8 : Int32) &&& 31).toUInt32).toInt32))])) _
            refine XS.icmpNo X0.here hx rfl (hb hby d4_51) rfl (flt hc51_14).1 ?_
            show Steps p.tables e below (s₁.setTop (mkF m 54 #[.val (.int ((p0.toUInt32 >>> ((8 : Int32) &&& 31).toUInt32).toInt32)), .val (.int ((31 : Int32) + (-8 : Int32)))] [])) _
            refine XS.iinc X0.here hx rfl (hb hby d4_54) rfl (l' := #[.val (.int ((p0.toUInt32 >>> ((8 : Int32) &&& 31).toUInt32).toInt32)), .val (.int (((31 : Int32) + (-8 : Int32)) + (-4 : Int32)))]) rfl ?_
            show Steps p.tables e below (s₁.setTop (mkF m 57 #[.val (.int ((p0.toUInt32 >>> ((8 : Int32) &&& 31).toUInt32).toInt32)), .val (.int (((31 : Int32) + (-8 : Int32)) + (-4 : Int32)))] [])) _
            refine XS.iloadN X0.here hx rfl (hb hby d4_57) rfl ?_
            show Steps p.tables e below (s₁.setTop (mkF m 58 #[.val (.int ((p0.toUInt32 >>> ((8 : Int32) &&& 31).toUInt32).toInt32)), .val (.int (((31 : Int32) + (-8 : Int32)) + (-4 : Int32)))] [(.int ((p0.toUInt32 >>> ((8 : Int32) &&& 31).toUInt32).toInt32))])) _
            refine XS.iconst X0.here hx rfl (hb hby d4_58) ?_
            show Steps p.tables e below (s₁.setTop (mkF m 59 #[.val (.int ((p0.toUInt32 >>> ((8 : Int32) &&& 31).toUInt32).toInt32)), .val (.int (((31 : Int32) + (-8 : Int32)) + (-4 : Int32)))] [(.int (4 : Int32)), (.int ((p0.toUInt32 >>> ((8 : Int32) &&& 31).toUInt32).toInt32))])) _
            refine XS.iushr X0.here hx rfl (hb hby d4_59) rfl ?_
            show Steps p.tables e below (s₁.setTop (mkF m 60 #[.val (.int ((p0.toUInt32 >>> ((8 : Int32) &&& 31).toUInt32).toInt32)), .val (.int (((31 : Int32) + (-8 : Int32)) + (-4 : Int32)))] [(.int ((((p0.toUInt32 >>> ((8 : Int32) &&& 31).toUInt32).toInt32).toUInt32 >>> ((4 : Int32) &&& 31).toUInt32).toInt32))])) _
            refine XS.istoreN X0.here hx rfl (hb hby d4_60) rfl (l' := #[.val (.int ((((p0.toUInt32 >>> ((8 : Int32) &&& 31).toUInt32).toInt32).toUInt32 >>> ((4 : Int32) &&& 31).toUInt32).toInt32)), .val (.int (((31 : Int32) + (-8 : Int32)) + (-4 : Int32)))]) rfl ?_
            show Steps p.tables e below (s₁.setTop (mkF m 61 #[.val (.int ((((p0.toUInt32 >>> ((8 : Int32) &&& 31).toUInt32).toInt32).toUInt32 >>> ((4 : Int32) &&& 31).toUInt32).toInt32)), .val (.int (((31 : Int32) + (-8 : Int32)) + (-4 : Int32)))] [])) _
            refine XS.iloadN X0.here hx rfl (hb hby d4_61) rfl ?_
            show Steps p.tables e below (s₁.setTop (mkF m 62 #[.val (.int ((((p0.toUInt32 >>> ((8 : Int32) &&& 31).toUInt32).toInt32).toUInt32 >>> ((4 : Int32) &&& 31).toUInt32).toInt32)), .val (.int (((31 : Int32) + (-8 : Int32)) + (-4 : Int32)))] [(.int ((((p0.toUInt32 >>> ((8 : Int32) &&& 31).toUInt32).toInt32).toUInt32 >>> ((4 : Int32) &&& 31).toUInt32).toInt32))])) _
            refine XS.iconst X0.here hx rfl (hb hby d4_62) ?_
            exact kt
          by_cases hc63_18 : ((((p0.toUInt32 >>> ((8 : Int32) &&& 31).toUInt32).toInt32).toUInt32 >>> ((4 : Int32) &&& 31).toUInt32).toInt32) < (4 : Int32)
          · skip
            obtain ⟨fs, hr, hrun, hended, hW, hsame⟩ := X0.leave (v := some (.int ((((31 : Int32) + (-8 : Int32)) + (-4 : Int32)) - ((((((p0.toUInt32 >>> ((8 : Int32) &&& 31).toUInt32).toInt32).toUInt32 >>> ((4 : Int32) &&& 31).toUInt32).toInt32).toUInt32 >>> ((1 : Int32) &&& 31).toUInt32).toInt32)))) (fun h => by rw [Bd.returns] at h; cases h)
            refine ⟨_, _, G17 _ ?_, hrun, hended, _, _, rfl, ?_, ⟨_, rfl⟩, hW, hsame.mono (by decide) (by decide)⟩
            · skip
              show Steps p.tables e below (s₁.setTop (mkF m 63 #[.val (.int ((((p0.toUInt32 >>> ((8 : Int32) &&& 31).toUInt32).toInt32).toUInt32 >>> ((4 : Int32) &&& 31).toUInt32).toInt32)), .val (.int (((31 : Int32) + (-8 : Int32)) + (-4 : Int32)))] [(.int (4 : Int32)), (.int ((((p0.toUInt32 >>> ((8 : Int32) &&& 31).toUInt32).toInt32).toUInt32 >>> ((4 : Int32) &&& 31).toUInt32).toInt32))])) _
              refine XS.icmpYes X0.here hx rfl (pc0 := 63) (pc' := 73) rfl (hb hby d4_63) rfl (tlt hc63_18).1 (by decide) (by decide) ?_
              show Steps p.tables e below (s₁.setTop (mkF m 73 #[.val (.int ((((p0.toUInt32 >>> ((8 : Int32) &&& 31).toUInt32).toInt32).toUInt32 >>> ((4 : Int32) &&& 31).toUInt32).toInt32)), .val (.int (((31 : Int32) + (-8 : Int32)) + (-4 : Int32)))] [])) _
              refine XS.iloadN X0.here hx rfl (hb hby d4_73) rfl ?_
              show Steps p.tables e below (s₁.setTop (mkF m 74 #[.val (.int ((((p0.toUInt32 >>> ((8 : Int32) &&& 31).toUInt32).toInt32).toUInt32 >>> ((4 : Int32) &&& 31).toUInt32).toInt32)), .val (.int (((31 : Int32) + (-8 : Int32)) + (-4 : Int32)))] [(.int (((31 : Int32) + (-8 : Int32)) + (-4 : Int32)))])) _
              refine XS.iloadN X0.here hx rfl (hb hby d4_74) rfl ?_
              show Steps p.tables e below (s₁.setTop (mkF m 75 #[.val (.int ((((p0.toUInt32 >>> ((8 : Int32) &&& 31).toUInt32).toInt32).toUInt32 >>> ((4 : Int32) &&& 31).toUInt32).toInt32)), .val (.int (((31 : Int32) + (-8 : Int32)) + (-4 : Int32)))] [(.int ((((p0.toUInt32 >>> ((8 : Int32) &&& 31).toUInt32).toInt32).toUInt32 >>> ((4 : Int32) &&& 31).toUInt32).toInt32)), (.int (((31 : Int32) + (-8 : Int32)) + (-4 : Int32)))])) _
              refine XS.iconst X0.here hx rfl (hb hby d4_75) ?_
              show Steps p.tables e below (s₁.setTop (mkF m 76 #[.val (.int ((((p0.toUInt32 >>> ((8 : Int32) &&& 31).toUInt32).toInt32).toUInt32 >>> ((4 : Int32) &&& 31).toUInt32).toInt32)), .val (.int (((31 : Int32) + (-8 : Int32)) + (-4 : Int32)))] [(.int (1 : Int32)), (.int ((((p0.toUInt32 >>> ((8 : Int32) &&& 31).toUInt32).toInt32).toUInt32 >>> ((4 : Int32) &&& 31).toUInt32).toInt32)), (.int (((31 : Int32) + (-8 : Int32)) + (-4 : Int32)))])) _
              refine XS.iushr X0.here hx rfl (hb hby d4_76) rfl ?_
              show Steps p.tables e below (s₁.setTop (mkF m 77 #[.val (.int ((((p0.toUInt32 >>> ((8 : Int32) &&& 31).toUInt32).toInt32).toUInt32 >>> ((4 : Int32) &&& 31).toUInt32).toInt32)), .val (.int (((31 : Int32) + (-8 : Int32)) + (-4 : Int32)))] [(.int ((((((p0.toUInt32 >>> ((8 : Int32) &&& 31).toUInt32).toInt32).toUInt32 >>> ((4 : Int32) &&& 31).toUInt32).toInt32).toUInt32 >>> ((1 : Int32) &&& 31).toUInt32).toInt32)), (.int (((31 : Int32) + (-8 : Int32)) + (-4 : Int32)))])) _
              refine XS.isub X0.here hx rfl (hb hby d4_77) rfl ?_
              show Steps p.tables e below (s₁.setTop (mkF m 78 #[.val (.int ((((p0.toUInt32 >>> ((8 : Int32) &&& 31).toUInt32).toInt32).toUInt32 >>> ((4 : Int32) &&& 31).toUInt32).toInt32)), .val (.int (((31 : Int32) + (-8 : Int32)) + (-4 : Int32)))] [(.int ((((31 : Int32) + (-8 : Int32)) + (-4 : Int32)) - ((((((p0.toUInt32 >>> ((8 : Int32) &&& 31).toUInt32).toInt32).toUInt32 >>> ((4 : Int32) &&& 31).toUInt32).toInt32).toUInt32 >>> ((1 : Int32) &&& 31).toUInt32).toInt32)))])) _
              exact retI X0 hx Bd.returns (hb hby d4_78) hr
            · show Q4 Z p0 h0 n0 _ s₁.heap _
              rw [e0]
              exact ⟨by rw [f4, if_pos hc1_2, if_pos hc22_4, if_neg hc37_6, if_neg hc51_14, if_pos hc63_18], N0, rfl⟩
          · skip
            obtain ⟨fs, hr, hrun, hended, hW, hsame⟩ := X0.leave (v := some (.int (((((31 : Int32) + (-8 : Int32)) + (-4 : Int32)) + (-2 : Int32)) - ((((((((p0.toUInt32 >>> ((8 : Int32) &&& 31).toUInt32).toInt32).toUInt32 >>> ((4 : Int32) &&& 31).toUInt32).toInt32).toUInt32 >>> ((2 : Int32) &&& 31).toUInt32).toInt32).toUInt32 >>> ((1 : Int32) &&& 31).toUInt32).toInt32)))) (fun h => by rw [Bd.returns] at h; cases h)
            refine ⟨_, _, G17 _ ?_, hrun, hended, _, _, rfl, ?_, ⟨_, rfl⟩, hW, hsame.mono (by decide) (by decide)⟩
            · skip
              show Steps p.tables e below (s₁.setTop (mkF m 63 #[.val (.int ((((p0.toUInt32 >>> ((8 : Int32) &&& 31).toUInt32).toInt32).toUInt32 >>> ((4 : Int32) &&& 31).toUInt32).toInt32)), .val (.int (((31 : Int32) + (-8 : Int32)) + (-4 : Int32)))] [(.int (4 : Int32)), (.int ((((p0.toUInt32 >>> ((8 : Int32) &&& 31).toUInt32).toInt32).toUInt32 >>> ((4 : Int32) &&& 31).toUInt32).toInt32))])) _
              refine XS.icmpNo X0.here hx rfl (hb hby d4_63) rfl (flt hc63_18).1 ?_
              show Steps p.tables e below (s₁.setTop (mkF m 66 #[.val (.int ((((p0.toUInt32 >>> ((8 : Int32) &&& 31).toUInt32).toInt32).toUInt32 >>> ((4 : Int32) &&& 31).toUInt32).toInt32)), .val (.int (((31 : Int32) + (-8 : Int32)) + (-4 : Int32)))] [])) _
              refine XS.iinc X0.here hx rfl (hb hby d4_66) rfl (l' := #[.val (.int ((((p0.toUInt32 >>> ((8 : Int32) &&& 31).toUInt32).toInt32).toUInt32 >>> ((4 : Int32) &&& 31).toUInt32).toInt32)), .val (.int ((((31 : Int32) + (-8 : Int32)) + (-4 : Int32)) + (-2 : Int32)))]) rfl ?_
              show Steps p.tables e below (s₁.setTop (mkF m 69 #[.val (.int ((((p0.toUInt32 >>> ((8 : Int32) &&& 31).toUInt32).toInt32).toUInt32 >>> ((4 : Int32) &&& 31).toUInt32).toInt32)), .val (.int ((((31 : Int32) + (-8 : Int32)) + (-4 : Int32)) + (-2 : Int32)))] [])) _
              refine XS.iloadN X0.here hx rfl (hb hby d4_69) rfl ?_
              show Steps p.tables e below (s₁.setTop (mkF m 70 #[.val (.int ((((p0.toUInt32 >>> ((8 : Int32) &&& 31).toUInt32).toInt32).toUInt32 >>> ((4 : Int32) &&& 31).toUInt32).toInt32)), .val (.int ((((31 : Int32) + (-8 : Int32)) + (-4 : Int32)) + (-2 : Int32)))] [(.int ((((p0.toUInt32 >>> ((8 : Int32) &&& 31).toUInt32).toInt32).toUInt32 >>> ((4 : Int32) &&& 31).toUInt32).toInt32))])) _
              refine XS.iconst X0.here hx rfl (hb hby d4_70) ?_
              show Steps p.tables e below (s₁.setTop (mkF m 71 #[.val (.int ((((p0.toUInt32 >>> ((8 : Int32) &&& 31).toUInt32).toInt32).toUInt32 >>> ((4 : Int32) &&& 31).toUInt32).toInt32)), .val (.int ((((31 : Int32) + (-8 : Int32)) + (-4 : Int32)) + (-2 : Int32)))] [(.int (2 : Int32)), (.int ((((p0.toUInt32 >>> ((8 : Int32) &&& 31).toUInt32).toInt32).toUInt32 >>> ((4 : Int32) &&& 31).toUInt32).toInt32))])) _
              refine XS.iushr X0.here hx rfl (hb hby d4_71) rfl ?_
              show Steps p.tables e below (s₁.setTop (mkF m 72 #[.val (.int ((((p0.toUInt32 >>> ((8 : Int32) &&& 31).toUInt32).toInt32).toUInt32 >>> ((4 : Int32) &&& 31).toUInt32).toInt32)), .val (.int ((((31 : Int32) + (-8 : Int32)) + (-4 : Int32)) + (-2 : Int32)))] [(.int ((((((p0.toUInt32 >>> ((8 : Int32) &&& 31).toUInt32).toInt32).toUInt32 >>> ((4 : Int32) &&& 31).toUInt32).toInt32).toUInt32 >>> ((2 : Int32) &&& 31).toUInt32).toInt32))])) _
              refine XS.istoreN X0.here hx rfl (hb hby d4_72) rfl (l' := #[.val (.int ((((((p0.toUInt32 >>> ((8 : Int32) &&& 31).toUInt32).toInt32).toUInt32 >>> ((4 : Int32) &&& 31).toUInt32).toInt32).toUInt32 >>> ((2 : Int32) &&& 31).toUInt32).toInt32)), .val (.int ((((31 : Int32) + (-8 : Int32)) + (-4 : Int32)) + (-2 : Int32)))]) rfl ?_
              show Steps p.tables e below (s₁.setTop (mkF m 73 #[.val (.int ((((((p0.toUInt32 >>> ((8 : Int32) &&& 31).toUInt32).toInt32).toUInt32 >>> ((4 : Int32) &&& 31).toUInt32).toInt32).toUInt32 >>> ((2 : Int32) &&& 31).toUInt32).toInt32)), .val (.int ((((31 : Int32) + (-8 : Int32)) + (-4 : Int32)) + (-2 : Int32)))] [])) _
              refine XS.iloadN X0.here hx rfl (hb hby d4_73) rfl ?_
              show Steps p.tables e below (s₁.setTop (mkF m 74 #[.val (.int ((((((p0.toUInt32 >>> ((8 : Int32) &&& 31).toUInt32).toInt32).toUInt32 >>> ((4 : Int32) &&& 31).toUInt32).toInt32).toUInt32 >>> ((2 : Int32) &&& 31).toUInt32).toInt32)), .val (.int ((((31 : Int32) + (-8 : Int32)) + (-4 : Int32)) + (-2 : Int32)))] [(.int ((((31 : Int32) + (-8 : Int32)) + (-4 : Int32)) + (-2 : Int32)))])) _
              refine XS.iloadN X0.here hx rfl (hb hby d4_74) rfl ?_
              show Steps p.tables e below (s₁.setTop (mkF m 75 #[.val (.int ((((((p0.toUInt32 >>> ((8 : Int32) &&& 31).toUInt32).toInt32).toUInt32 >>> ((4 : Int32) &&& 31).toUInt32).toInt32).toUInt32 >>> ((2 : Int32) &&& 31).toUInt32).toInt32)), .val (.int ((((31 : Int32) + (-8 : Int32)) + (-4 : Int32)) + (-2 : Int32)))] [(.int ((((((p0.toUInt32 >>> ((8 : Int32) &&& 31).toUInt32).toInt32).toUInt32 >>> ((4 : Int32) &&& 31).toUInt32).toInt32).toUInt32 >>> ((2 : Int32) &&& 31).toUInt32).toInt32)), (.int ((((31 : Int32) + (-8 : Int32)) + (-4 : Int32)) + (-2 : Int32)))])) _
              refine XS.iconst X0.here hx rfl (hb hby d4_75) ?_
              show Steps p.tables e below (s₁.setTop (mkF m 76 #[.val (.int ((((((p0.toUInt32 >>> ((8 : Int32) &&& 31).toUInt32).toInt32).toUInt32 >>> ((4 : Int32) &&& 31).toUInt32).toInt32).toUInt32 >>> ((2 : Int32) &&& 31).toUInt32).toInt32)), .val (.int ((((31 : Int32) + (-8 : Int32)) + (-4 : Int32)) + (-2 : Int32)))] [(.int (1 : Int32)), (.int ((((((p0.toUInt32 >>> ((8 : Int32) &&& 31).toUInt32).toInt32).toUInt32 >>> ((4 : Int32) &&& 31).toUInt32).toInt32).toUInt32 >>> ((2 : Int32) &&& 31).toUInt32).toInt32)), (.int ((((31 : Int32) + (-8 : Int32)) + (-4 : Int32)) + (-2 : Int32)))])) _
              refine XS.iushr X0.here hx rfl (hb hby d4_76) rfl ?_
              show Steps p.tables e below (s₁.setTop (mkF m 77 #[.val (.int ((((((p0.toUInt32 >>> ((8 : Int32) &&& 31).toUInt32).toInt32).toUInt32 >>> ((4 : Int32) &&& 31).toUInt32).toInt32).toUInt32 >>> ((2 : Int32) &&& 31).toUInt32).toInt32)), .val (.int ((((31 : Int32) + (-8 : Int32)) + (-4 : Int32)) + (-2 : Int32)))] [(.int ((((((((p0.toUInt32 >>> ((8 : Int32) &&& 31).toUInt32).toInt32).toUInt32 >>> ((4 : Int32) &&& 31).toUInt32).toInt32).toUInt32 >>> ((2 : Int32) &&& 31).toUInt32).toInt32).toUInt32 >>> ((1 : Int32) &&& 31).toUInt32).toInt32)), (.int ((((31 : Int32) + (-8 : Int32)) + (-4 : Int32)) + (-2 : Int32)))])) _
              refine XS.isub X0.here hx rfl (hb hby d4_77) rfl ?_
              show Steps p.tables e below (s₁.setTop (mkF m 78 #[.val (.int ((((((p0.toUInt32 >>> ((8 : Int32) &&& 31).toUInt32).toInt32).toUInt32 >>> ((4 : Int32) &&& 31).toUInt32).toInt32).toUInt32 >>> ((2 : Int32) &&& 31).toUInt32).toInt32)), .val (.int ((((31 : Int32) + (-8 : Int32)) + (-4 : Int32)) + (-2 : Int32)))] [(.int (((((31 : Int32) + (-8 : Int32)) + (-4 : Int32)) + (-2 : Int32)) - ((((((((p0.toUInt32 >>> ((8 : Int32) &&& 31).toUInt32).toInt32).toUInt32 >>> ((4 : Int32) &&& 31).toUInt32).toInt32).toUInt32 >>> ((2 : Int32) &&& 31).toUInt32).toInt32).toUInt32 >>> ((1 : Int32) &&& 31).toUInt32).toInt32)))])) _
              exact retI X0 hx Bd.returns (hb hby d4_78) hr
            · show Q4 Z p0 h0 n0 _ s₁.heap _
              rw [e0]
              exact ⟨by rw [f4, if_pos hc1_2, if_pos hc22_4, if_neg hc37_6, if_neg hc51_14, if_neg hc63_18], N0, rfl⟩
    · skip
      have G19 : ∀ t, Steps p.tables e below (s₁.setTop (mkF m 37 #[.val (.int ((p0.toUInt32 >>> ((16 : Int32) &&& 31).toUInt32).toInt32)), .val (.int ((31 : Int32) + (-16 : Int32)))] [(.int (256 : Int32)), (.int ((p0.toUInt32 >>> ((16 : Int32) &&& 31).toUInt32).toInt32))])) t → Steps p.tables e below (s₁.setTop (entryFrame m #[(.int p0)] 2)) t := by
        intro t kt
        refine G3 _ ?_
        show Steps p.tables e below (s₁.setTop (mkF m 22 #[.val (.int p0), .val (.int (31 : Int32))] [(.int (65536 : Int32)), (.int p0)])) _
        refine XS.icmpNo X0.here hx rfl (hb hby d4_22) rfl (flt hc22_4).1 ?_
        show Steps p.tables e below (s₁.setTop (mkF m 25 #[.val (.int p0), .val (.int (31 : Int32))] [])) _
        refine XS.iinc X0.here hx rfl (hb hby d4_25) rfl (l' := #[.val (.int p0), .val (.int ((31 : Int32) + (-16 : Int32)))]) rfl ?_
        show Steps p.tables e below (s₁.setTop (mkF m 28 #[.val (.int p0), .val (.int ((31 : Int32) + (-16 : Int32)))] [])) _
        refine XS.iloadN X0.here hx rfl (hb hby d4_28) rfl ?_
        show Steps p.tables e below (s₁.setTop (mkF m 29 #[.val (.int p0), .val (.int ((31 : Int32) + (-16 : Int32)))] [(.int p0)])) _
        refine XS.bipush X0.here hx rfl (hb hby d4_29) ?_
        show Steps p.tables e below (s₁.setTop (mkF m 31 #[.val (.int p0), .val (.int ((31 : Int32) + (-16 : Int32)))] [(.int (16 : Int32)), (.int p0)])) _
        refine XS.iushr X0.here hx rfl (hb hby d4_31) rfl ?_
        show Steps p.tables e below (s₁.setTop (mkF m 32 #[.val (.int p0), .val (.int ((31 : Int32) + (-16 : Int32)))] [(.int ((p0.toUInt32 >>> ((16 : Int32) &&& 31).toUInt32).toInt32))])) _
        refine XS.istoreN X0.here hx rfl (hb hby d4_32) rfl (l' := #[.val (.int ((p0.toUInt32 >>> ((16 : Int32) &&& 31).toUInt32).toInt32)), .val (.int ((31 : Int32) + (-16 : Int32)))]) rfl ?_
        show Steps p.tables e below (s₁.setTop (mkF m 33 #[.val (.int ((p0.toUInt32 >>> ((16 : Int32) &&& 31).toUInt32).toInt32)), .val (.int ((31 : Int32) + (-16 : Int32)))] [])) _
        refine XS.iloadN X0.here hx rfl (hb hby d4_33) rfl ?_
        show Steps p.tables e below (s₁.setTop (mkF m 34 #[.val (.int ((p0.toUInt32 >>> ((16 : Int32) &&& 31).toUInt32).toInt32)), .val (.int ((31 : Int32) + (-16 : Int32)))] [(.int ((p0.toUInt32 >>> ((16 : Int32) &&& 31).toUInt32).toInt32))])) _
        refine XS.sipush X0.here hx rfl (hb hby d4_34) ?_
        exact kt
      by_cases hc37_20 : ((p0.toUInt32 >>> ((16 : Int32) &&& 31).toUInt32).toInt32) < (256 : Int32)
      · skip
        have G21 : ∀ t, Steps p.tables e below (s₁.setTop (mkF m 51 #[.val (.int ((p0.toUInt32 >>> ((16 : Int32) &&& 31).toUInt32).toInt32)), .val (.int ((31 : Int32) + (-16 : Int32)))] [(.int (16 : Int32)), (.int ((p0.toUInt32 >>> ((16 : Int32) &&& 31).toUInt32).toInt32))])) t → Steps p.tables e below (s₁.setTop (entryFrame m #[(.int p0)] 2)) t := by
          intro t kt
          refine G19 _ ?_
          show Steps p.tables e below (s₁.setTop (mkF m 37 #[.val (.int ((p0.toUInt32 >>> ((16 : Int32) &&& 31).toUInt32).toInt32)), .val (.int ((31 : Int32) + (-16 : Int32)))] [(.int (256 : Int32)), (.int ((p0.toUInt32 >>> ((16 : Int32) &&& 31).toUInt32).toInt32))])) _
          refine XS.icmpYes X0.here hx rfl (pc0 := 37) (pc' := 48) rfl (hb hby d4_37) rfl (tlt hc37_20).1 (by decide) (by decide) ?_
          show Steps p.tables e below (s₁.setTop (mkF m 48 #[.val (.int ((p0.toUInt32 >>> ((16 : Int32) &&& 31).toUInt32).toInt32)), .val (.int ((31 : Int32) + (-16 : Int32)))] [])) _
          refine XS.iloadN X0.here hx rfl (hb hby d4_48) rfl ?_
          show Steps p.tables e below (s₁.setTop (mkF m 49 #[.val (.int ((p0.toUInt32 >>> ((16 : Int32) &&& 31).toUInt32).toInt32)), .val (.int ((31 : Int32) + (-16 : Int32)))] [(.int ((p0.toUInt32 >>> ((16 : Int32) &&& 31).toUInt32).toInt32))])) _
          refine XS.bipush X0.here hx rfl (hb hby d4_49) ?_
          exact kt
        by_cases hc51_22 : ((p0.toUInt32 >>> ((16 : Int32) &&& 31).toUInt32).toInt32) < (16 : Int32)
        · skip
          have G23 : ∀ t, Steps p.tables e below (s₁.setTop (mkF m 63 #[.val (.int ((p0.toUInt32 >>> ((16 : Int32) &&& 31).toUInt32).toInt32)), .val (.int ((31 : Int32) + (-16 : Int32)))] [(.int (4 : Int32)), (.int ((p0.toUInt32 >>> ((16 : Int32) &&& 31).toUInt32).toInt32))])) t → Steps p.tables e below (s₁.setTop (entryFrame m #[(.int p0)] 2)) t := by
            intro t kt
            refine G21 _ ?_
            show Steps p.tables e below (s₁.setTop (mkF m 51 #[.val (.int ((p0.toUInt32 >>> ((16 : Int32) &&& 31).toUInt32).toInt32)), .val (.int ((31 : Int32) + (-16 : Int32)))] [(.int (16 : Int32)), (.int ((p0.toUInt32 >>> ((16 : Int32) &&& 31).toUInt32).toInt32))])) _
            refine XS.icmpYes X0.here hx rfl (pc0 := 51) (pc' := 61) rfl (hb hby d4_51) rfl (tlt hc51_22).1 (by decide) (by decide) ?_
            show Steps p.tables e below (s₁.setTop (mkF m 61 #[.val (.int ((p0.toUInt32 >>> ((16 : Int32) &&& 31).toUInt32).toInt32)), .val (.int ((31 : Int32) + (-16 : Int32)))] [])) _
            refine XS.iloadN X0.here hx rfl (hb hby d4_61) rfl ?_
            show Steps p.tables e below (s₁.setTop (mkF m 62 #[.val (.int ((p0.toUInt32 >>> ((16 : Int32) &&& 31).toUInt32).toInt32)), .val (.int ((31 : Int32) + (-16 : Int32)))] [(.int ((p0.toUInt32 >>> ((16 : Int32) &&& 31).toUInt32).toInt32))])) _
            refine XS.iconst X0.here hx rfl (hb hby d4_62) ?_
            exact kt
          by_cases hc63_24 : ((p0.toUInt32 >>> ((16 : Int32) &&& 31).toUInt32).toInt32) < (4 : Int32)
          · skip
            obtain ⟨fs, hr, hrun, hended, hW, hsame⟩ := X0.leave (v := some (.int (((31 : Int32) + (-16 : Int32)) - ((((p0.toUInt32 >>> ((16 : Int32) &&& 31).toUInt32).toInt32).toUInt32 >>> ((1 : Int32) &&& 31).toUInt32).toInt32)))) (fun h => by rw [Bd.returns] at h; cases h)
            refine ⟨_, _, G23 _ ?_, hrun, hended, _, _, rfl, ?_, ⟨_, rfl⟩, hW, hsame.mono (by decide) (by decide)⟩
            · skip
              show Steps p.tables e below (s₁.setTop (mkF m 63 #[.val (.int ((p0.toUInt32 >>> ((16 : Int32) &&& 31).toUInt32).toInt32)), .val (.int ((31 : Int32) + (-16 : Int32)))] [(.int (4 : Int32)), (.int ((p0.toUInt32 >>> ((16 : Int32) &&& 31).toUInt32).toInt32))])) _
              refine XS.icmpYes X0.here hx rfl (pc0 := 63) (pc' := 73) rfl (hb hby d4_63) rfl (tlt hc63_24).1 (by decide) (by decide) ?_
              show Steps p.tables e below (s₁.setTop (mkF m 73 #[.val (.int ((p0.toUInt32 >>> ((16 : Int32) &&& 31).toUInt32).toInt32)), .val (.int ((31 : Int32) + (-16 : Int32)))] [])) _
              refine XS.iloadN X0.here hx rfl (hb hby d4_73) rfl ?_
              show Steps p.tables e below (s₁.setTop (mkF m 74 #[.val (.int ((p0.toUInt32 >>> ((16 : Int32) &&& 31).toUInt32).toInt32)), .val (.int ((31 : Int32) + (-16 : Int32)))] [(.int ((31 : Int32) + (-16 : Int32)))])) _
              refine XS.iloadN X0.here hx rfl (hb hby d4_74) rfl ?_
              show Steps p.tables e below (s₁.setTop (mkF m 75 #[.val (.int ((p0.toUInt32 >>> ((16 : Int32) &&& 31).toUInt32).toInt32)), .val (.int ((31 : Int32) + (-16 : Int32)))] [(.int ((p0.toUInt32 >>> ((16 : Int32) &&& 31).toUInt32).toInt32)), (.int ((31 : Int32) + (-16 : Int32)))])) _
              refine XS.iconst X0.here hx rfl (hb hby d4_75) ?_
              show Steps p.tables e below (s₁.setTop (mkF m 76 #[.val (.int ((p0.toUInt32 >>> ((16 : Int32) &&& 31).toUInt32).toInt32)), .val (.int ((31 : Int32) + (-16 : Int32)))] [(.int (1 : Int32)), (.int ((p0.toUInt32 >>> ((16 : Int32) &&& 31).toUInt32).toInt32)), (.int ((31 : Int32) + (-16 : Int32)))])) _
              refine XS.iushr X0.here hx rfl (hb hby d4_76) rfl ?_
              show Steps p.tables e below (s₁.setTop (mkF m 77 #[.val (.int ((p0.toUInt32 >>> ((16 : Int32) &&& 31).toUInt32).toInt32)), .val (.int ((31 : Int32) + (-16 : Int32)))] [(.int ((((p0.toUInt32 >>> ((16 : Int32) &&& 31).toUInt32).toInt32).toUInt32 >>> ((1 : Int32) &&& 31).toUInt32).toInt32)), (.int ((31 : Int32) + (-16 : Int32)))])) _
              refine XS.isub X0.here hx rfl (hb hby d4_77) rfl ?_
              show Steps p.tables e below (s₁.setTop (mkF m 78 #[.val (.int ((p0.toUInt32 >>> ((16 : Int32) &&& 31).toUInt32).toInt32)), .val (.int ((31 : Int32) + (-16 : Int32)))] [(.int (((31 : Int32) + (-16 : Int32)) - ((((p0.toUInt32 >>> ((16 : Int32) &&& 31).toUInt32).toInt32).toUInt32 >>> ((1 : Int32) &&& 31).toUInt32).toInt32)))])) _
              exact retI X0 hx Bd.returns (hb hby d4_78) hr
            · show Q4 Z p0 h0 n0 _ s₁.heap _
              rw [e0]
              exact ⟨by rw [f4, if_pos hc1_2, if_neg hc22_4, if_pos hc37_20, if_pos hc51_22, if_pos hc63_24], N0, rfl⟩
          · skip
            obtain ⟨fs, hr, hrun, hended, hW, hsame⟩ := X0.leave (v := some (.int ((((31 : Int32) + (-16 : Int32)) + (-2 : Int32)) - ((((((p0.toUInt32 >>> ((16 : Int32) &&& 31).toUInt32).toInt32).toUInt32 >>> ((2 : Int32) &&& 31).toUInt32).toInt32).toUInt32 >>> ((1 : Int32) &&& 31).toUInt32).toInt32)))) (fun h => by rw [Bd.returns] at h; cases h)
            refine ⟨_, _, G23 _ ?_, hrun, hended, _, _, rfl, ?_, ⟨_, rfl⟩, hW, hsame.mono (by decide) (by decide)⟩
            · skip
              show Steps p.tables e below (s₁.setTop (mkF m 63 #[.val (.int ((p0.toUInt32 >>> ((16 : Int32) &&& 31).toUInt32).toInt32)), .val (.int ((31 : Int32) + (-16 : Int32)))] [(.int (4 : Int32)), (.int ((p0.toUInt32 >>> ((16 : Int32) &&& 31).toUInt32).toInt32))])) _
              refine XS.icmpNo X0.here hx rfl (hb hby d4_63) rfl (flt hc63_24).1 ?_
              show Steps p.tables e below (s₁.setTop (mkF m 66 #[.val (.int ((p0.toUInt32 >>> ((16 : Int32) &&& 31).toUInt32).toInt32)), .val (.int ((31 : Int32) + (-16 : Int32)))] [])) _
              refine XS.iinc X0.here hx rfl (hb hby d4_66) rfl (l' := #[.val (.int ((p0.toUInt32 >>> ((16 : Int32) &&& 31).toUInt32).toInt32)), .val (.int (((31 : Int32) + (-16 : Int32)) + (-2 : Int32)))]) rfl ?_
              show Steps p.tables e below (s₁.setTop (mkF m 69 #[.val (.int ((p0.toUInt32 >>> ((16 : Int32) &&& 31).toUInt32).toInt32)), .val (.int (((31 : Int32) + (-16 : Int32)) + (-2 : Int32)))] [])) _
              refine XS.iloadN X0.here hx rfl (hb hby d4_69) rfl ?_
              show Steps p.tables e below (s₁.setTop (mkF m 70 #[.val (.int ((p0.toUInt32 >>> ((16 : Int32) &&& 31).toUInt32).toInt32)), .val (.int (((31 : Int32) + (-16 : Int32)) + (-2 : Int32)))] [(.int ((p0.toUInt32 >>> ((16 : Int32) &&& 31).toUInt32).toInt32))])) _
              refine XS.iconst X0.here hx rfl (hb hby d4_70) ?_
              show Steps p.tables e below (s₁.setTop (mkF m 71 #[.val (.int ((p0.toUInt32 >>> ((16 : Int32) &&& 31).toUInt32).toInt32)), .val (.int (((31 : Int32) + (-16 : Int32)) + (-2 : Int32)))] [(.int (2 : Int32)), (.int ((p0.toUInt32 >>> ((16 : Int32) &&& 31).toUInt32).toInt32))])) _
              refine XS.iushr X0.here hx rfl (hb hby d4_71) rfl ?_
              show Steps p.tables e below (s₁.setTop (mkF m 72 #[.val (.int ((p0.toUInt32 >>> ((16 : Int32) &&& 31).toUInt32).toInt32)), .val (.int (((31 : Int32) + (-16 : Int32)) + (-2 : Int32)))] [(.int ((((p0.toUInt32 >>> ((16 : Int32) &&& 31).toUInt32).toInt32).toUInt32 >>> ((2 : Int32) &&& 31).toUInt32).toInt32))])) _
              refine XS.istoreN X0.here hx rfl (hb hby d4_72) rfl (l' := #[.val (.int ((((p0.toUInt32 >>> ((16 : Int32) &&& 31).toUInt32).toInt32).toUInt32 >>> ((2 : Int32) &&& 31).toUInt32).toInt32)), .val (.int (((31 : Int32) + (-16 : Int32)) + (-2 : Int32)))]) rfl ?_
              show Steps p.tables e below (s₁.setTop (mkF m 73 #[.val (.int ((((p0.toUInt32 >>> ((16 : Int32) &&& 31).toUInt32).toInt32).toUInt32 >>> ((2 : Int32) &&& 31).toUInt32).toInt32)), .val (.int (((31 : Int32) + (-16 : Int32)) + (-2 : Int32)))] [])) _
              refine XS.iloadN X0.here hx rfl (hb hby d4_73) rfl ?_
              show Steps p.tables e below (s₁.setTop (mkF m 74 #[.val (.int ((((p0.toUInt32 >>> ((16 : Int32) &&& 31).toUInt32).toInt32).toUInt32 >>> ((2 : Int32) &&& 31).toUInt32).toInt32)), .val (.int (((31 : Int32) + (-16 : Int32)) + (-2 : Int32)))] [(.int (((31 : Int32) + (-16 : Int32)) + (-2 : Int32)))])) _
              refine XS.iloadN X0.here hx rfl (hb hby d4_74) rfl ?_
              show Steps p.tables e below (s₁.setTop (mkF m 75 #[.val (.int ((((p0.toUInt32 >>> ((16 : Int32) &&& 31).toUInt32).toInt32).toUInt32 >>> ((2 : Int32) &&& 31).toUInt32).toInt32)), .val (.int (((31 : Int32) + (-16 : Int32)) + (-2 : Int32)))] [(.int ((((p0.toUInt32 >>> ((16 : Int32) &&& 31).toUInt32).toInt32).toUInt32 >>> ((2 : Int32) &&& 31).toUInt32).toInt32)), (.int (((31 : Int32) + (-16 : Int32)) + (-2 : Int32)))])) _
              refine XS.iconst X0.here hx rfl (hb hby d4_75) ?_
              show Steps p.tables e below (s₁.setTop (mkF m 76 #[.val (.int ((((p0.toUInt32 >>> ((16 : Int32) &&& 31).toUInt32).toInt32).toUInt32 >>> ((2 : Int32) &&& 31).toUInt32).toInt32)), .val (.int (((31 : Int32) + (-16 : Int32)) + (-2 : Int32)))] [(.int (1 : Int32)), (.int ((((p0.toUInt32 >>> ((16 : Int32) &&& 31).toUInt32).toInt32).toUInt32 >>> ((2 : Int32) &&& 31).toUInt32).toInt32)), (.int (((31 : Int32) + (-16 : Int32)) + (-2 : Int32)))])) _
              refine XS.iushr X0.here hx rfl (hb hby d4_76) rfl ?_
              show Steps p.tables e below (s₁.setTop (mkF m 77 #[.val (.int ((((p0.toUInt32 >>> ((16 : Int32) &&& 31).toUInt32).toInt32).toUInt32 >>> ((2 : Int32) &&& 31).toUInt32).toInt32)), .val (.int (((31 : Int32) + (-16 : Int32)) + (-2 : Int32)))] [(.int ((((((p0.toUInt32 >>> ((16 : Int32) &&& 31).toUInt32).toInt32).toUInt32 >>> ((2 : Int32) &&& 31).toUInt32).toInt32).toUInt32 >>> ((1 : Int32) &&& 31).toUInt32).toInt32)), (.int (((31 : Int32) + (-16 : Int32)) + (-2 : Int32)))])) _
              refine XS.isub X0.here hx rfl (hb hby d4_77) rfl ?_
              show Steps p.tables e below (s₁.setTop (mkF m 78 #[.val (.int ((((p0.toUInt32 >>> ((16 : Int32) &&& 31).toUInt32).toInt32).toUInt32 >>> ((2 : Int32) &&& 31).toUInt32).toInt32)), .val (.int (((31 : Int32) + (-16 : Int32)) + (-2 : Int32)))] [(.int ((((31 : Int32) + (-16 : Int32)) + (-2 : Int32)) - ((((((p0.toUInt32 >>> ((16 : Int32) &&& 31).toUInt32).toInt32).toUInt32 >>> ((2 : Int32) &&& 31).toUInt32).toInt32).toUInt32 >>> ((1 : Int32) &&& 31).toUInt32).toInt32)))])) _
              exact retI X0 hx Bd.returns (hb hby d4_78) hr
            · show Q4 Z p0 h0 n0 _ s₁.heap _
              rw [e0]
              exact ⟨by rw [f4, if_pos hc1_2, if_neg hc22_4, if_pos hc37_20, if_pos hc51_22, if_neg hc63_24], N0, rfl⟩
        · skip
          have G25 : ∀ t, Steps p.tables e below (s₁.setTop (mkF m 63 #[.val (.int ((((p0.toUInt32 >>> ((16 : Int32) &&& 31).toUInt32).toInt32).toUInt32 >>> ((4 : Int32) &&& 31).toUInt32).toInt32)), .val (.int (((31 : Int32) + (-16 : Int32)) + (-4 : Int32)))] [(.int (4 : Int32)), (.int ((((p0.toUInt32 >>> ((16 : Int32) &&& 31).toUInt32).toInt32).toUInt32 >>> ((4 : Int32) &&& 31).toUInt32).toInt32))])) t → Steps p.tables e below (s₁.setTop (entryFrame m #[(.int p0)] 2)) t := by
            intro t kt
            refine G21 _ ?_
            show Steps p.tables e below (s₁.setTop (mkF m 51 #[.val (.int ((p0.toUInt32 >>> ((16 : Int32) &&& 31).toUInt32).toInt32)), .val (.int ((31 : Int32) + (-16 : Int32)))] [(.int (16 : Int32)), (.int ((p0.toUInt32 >>> ((16 : Int32) &&& 31).toUInt32).toInt32))])) _
            refine XS.icmpNo X0.here hx rfl (hb hby d4_51) rfl (flt hc51_22).1 ?_
            show Steps p.tables e below (s₁.setTop (mkF m 54 #[.val (.int ((p0.toUInt32 >>> ((16 : Int32) &&& 31).toUInt32).toInt32)), .val (.int ((31 : Int32) + (-16 : Int32)))] [])) _
            refine XS.iinc X0.here hx rfl (hb hby d4_54) rfl (l' := #[.val (.int ((p0.toUInt32 >>> ((16 : Int32) &&& 31).toUInt32).toInt32)), .val (.int (((31 : Int32) + (-16 : Int32)) + (-4 : Int32)))]) rfl ?_
            show Steps p.tables e below (s₁.setTop (mkF m 57 #[.val (.int ((p0.toUInt32 >>> ((16 : Int32) &&& 31).toUInt32).toInt32)), .val (.int (((31 : Int32) + (-16 : Int32)) + (-4 : Int32)))] [])) _
            refine XS.iloadN X0.here hx rfl (hb hby d4_57) rfl ?_
            show Steps p.tables e below (s₁.setTop (mkF m 58 #[.val (.int ((p0.toUInt32 >>> ((16 : Int32) &&& 31).toUInt32).toInt32)), .val (.int (((31 : Int32) + (-16 : Int32)) + (-4 : Int32)))] [(.int ((p0.toUInt32 >>> ((16 : Int32) &&& 31).toUInt32).toInt32))])) _
            refine XS.iconst X0.here hx rfl (hb hby d4_58) ?_
            show Steps p.tables e below (s₁.setTop (mkF m 59 #[.val (.int ((p0.toUInt32 >>> ((16 : Int32) &&& 31).toUInt32).toInt32)), .val (.int (((31 : Int32) + (-16 : Int32)) + (-4 : Int32)))] [(.int (4 : Int32)), (.int ((p0.toUInt32 >>> ((16 : Int32) &&& 31).toUInt32).toInt32))])) _
            refine XS.iushr X0.here hx rfl (hb hby d4_59) rfl ?_
            show Steps p.tables e below (s₁.setTop (mkF m 60 #[.val (.int ((p0.toUInt32 >>> ((16 : Int32) &&& 31).toUInt32).toInt32)), .val (.int (((31 : Int32) + (-16 : Int32)) + (-4 : Int32)))] [(.int ((((p0.toUInt32 >>> ((16 : Int32) &&& 31).toUInt32).toInt32).toUInt32 >>> ((4 : Int32) &&& 31).toUInt32).toInt32))])) _
            refine XS.istoreN X0.here hx rfl (hb hby d4_60) rfl (l' := #[.val (.int ((((p0.toUInt32 >>> ((16 : Int32) &&& 31).toUInt32).toInt32).toUInt32 >>> ((4 : Int32) &&& 31).toUInt32).toInt32)), .val (.int (((31 : Int32) + (-16 : Int32)) + (-4 : Int32)))]) rfl ?_
            show Steps p.tables e below (s₁.setTop (mkF m 61 #[.val (.int ((((p0.toUInt32 >>> ((16 : Int32) &&& 31).toUInt32).toInt32).toUInt32 >>> ((4 : Int32) &&& 31).toUInt32).toInt32)), .val (.int (((31 : Int32) + (-16 : Int32)) + (-4 : Int32)))] [])) _
            refine XS.iloadN X0.here hx rfl (hb hby d4_61) rfl ?_
            show Steps p.tables e below (s₁.setTop (mkF m 62 #[.val (.int ((((p0.toUInt32 >>> ((16 : Int32) &&& 31).toUInt32).toInt32).toUInt32 >>> ((4 : Int32) &&& 31).toUInt32).toInt32)), .val (.int (((31 : Int32) + (-16 : Int32)) + (-4 : Int32)))] [(.int ((((p0.toUInt32 >>> ((16 : Int32) &&& 31).toUInt32).toInt32).toUInt32 >>> ((4 : Int32) &&& 31).toUInt32).toInt32))])) _
            refine XS.iconst X0.here hx rfl (hb hby d4_62) ?_
            exact kt
          by_cases hc63_26 : ((((p0.toUInt32 >>> ((16 : Int32) &&& 31).toUInt32).toInt32).toUInt32 >>> ((4 : Int32) &&& 31).toUInt32).toInt32) < (4 : Int32)
          · skip
            obtain ⟨fs, hr, hrun, hended, hW, hsame⟩ := X0.leave (v := some (.int ((((31 : Int32) + (-16 : Int32)) + (-4 : Int32)) - ((((((p0.toUInt32 >>> ((16 : Int32) &&& 31).toUInt32).toInt32).toUInt32 >>> ((4 : Int32) &&& 31).toUInt32).toInt32).toUInt32 >>> ((1 : Int32) &&& 31).toUInt32).toInt32)))) (fun h => by rw [Bd.returns] at h; cases h)
            refine ⟨_, _, G25 _ ?_, hrun, hended, _, _, rfl, ?_, ⟨_, rfl⟩, hW, hsame.mono (by decide) (by decide)⟩
            · skip
              show Steps p.tables e below (s₁.setTop (mkF m 63 #[.val (.int ((((p0.toUInt32 >>> ((16 : Int32) &&& 31).toUInt32).toInt32).toUInt32 >>> ((4 : Int32) &&& 31).toUInt32).toInt32)), .val (.int (((31 : Int32) + (-16 : Int32)) + (-4 : Int32)))] [(.int (4 : Int32)), (.int ((((p0.toUInt32 >>> ((16 : Int32) &&& 31).toUInt32).toInt32).toUInt32 >>> ((4 : Int32) &&& 31).toUInt32).toInt32))])) _
              refine XS.icmpYes X0.here hx rfl (pc0 := 63) (pc' := 73) rfl (hb hby d4_63) rfl (tlt hc63_26).1 (by decide) (by decide) ?_
              show Steps p.tables e below (s₁.setTop (mkF m 73 #[.val (.int ((((p0.toUInt32 >>> ((16 : Int32) &&& 31).toUInt32).toInt32).toUInt32 >>> ((4 : Int32) &&& 31).toUInt32).toInt32)), .val (.int (((31 : Int32) + (-16 : Int32)) + (-4 : Int32)))] [])) _
              refine XS.iloadN X0.here hx rfl (hb hby d4_73) rfl ?_
              show Steps p.tables e below (s₁.setTop (mkF m 74 #[.val (.int ((((p0.toUInt32 >>> ((16 : Int32) &&& 31).toUInt32).toInt32).toUInt32 >>> ((4 : Int32) &&& 31).toUInt32).toInt32)), .val (.int (((31 : Int32) + (-16 : Int32)) + (-4 : Int32)))] [(.int (((31 : Int32) + (-16 : Int32)) + (-4 : Int32)))])) _
              refine XS.iloadN X0.here hx rfl (hb hby d4_74) rfl ?_
              show Steps p.tables e below (s₁.setTop (mkF m 75 #[.val (.int ((((p0.toUInt32 >>> ((16 : Int32) &&& 31).toUInt32).toInt32).toUInt32 >>> ((4 : Int32) &&& 31).toUInt32).toInt32)), .val (.int (((31 : Int32) + (-16 : Int32)) + (-4 : Int32)))] [(.int ((((p0.toUInt32 >>> ((16 : Int32) &&& 31).toUInt32).toInt32).toUInt32 >>> ((4 : Int32) &&& 31).toUInt32).toInt32)), (.int (((31 : Int32) + (-16 : Int32)) + (-4 : Int32)))])) _
              refine XS.iconst X0.here hx rfl (hb hby d4_75) ?_
              show Steps p.tables e below (s₁.setTop (mkF m 76 #[.val (.int ((((p0.toUInt32 >>> ((16 : Int32) &&& 31).toUInt32).toInt32).toUInt32 >>> ((4 : Int32) &&& 31).toUInt32).toInt32)), .val (.int (((31 : Int32) + (-16 : Int32)) + (-4 : Int32)))] [(.int (1 : Int32)), (.int ((((p0.toUInt32 >>> ((16 : Int32) &&& 31).toUInt32).toInt32).toUInt32 >>> ((4 : Int32) &&& 31).toUInt32).toInt32)), (.int (((31 : Int32) + (-16 : Int32)) + (-4 : Int32)))])) _
              refine XS.iushr X0.here hx rfl (hb hby d4_76) rfl ?_
              show Steps p.tables e below (s₁.setTop (mkF m 77 #[.val (.int ((((p0.toUInt32 >>> ((16 : Int32) &&& 31).toUInt32).toInt32).toUInt32 >>> ((4 : Int32) &&& 31).toUInt32).toInt32)), .val (.int (((31 : Int32) + (-16 : Int32)) + (-4 : Int32)))] [(.int ((((((p0.toUInt32 >>> ((16 : Int32) &&& 31).toUInt32).toInt32).toUInt32 >>> ((4 : Int32) &&& 31).toUInt32).toInt32).toUInt32 >>> ((1 : Int32) &&& 31).toUInt32).toInt32)), (.int (((31 : Int32) + (-16 : Int32)) + (-4 : Int32)))])) _
              refine XS.isub X0.here hx rfl (hb hby d4_77) rfl ?_
              show Steps p.tables e below (s₁.setTop (mkF m 78 #[.val (.int ((((p0.toUInt32 >>> ((16 : Int32) &&& 31).toUInt32).toInt32).toUInt32 >>> ((4 : Int32) &&& 31).toUInt32).toInt32)), .val (.int (((31 : Int32) + (-16 : Int32)) + (-4 : Int32)))] [(.int ((((31 : Int32) + (-16 : Int32)) + (-4 : Int32)) - ((((((p0.toUInt32 >>> ((16 : Int32) &&& 31).toUInt32).toInt32).toUInt32 >>> ((4 : Int32) &&& 31).toUInt32).toInt32).toUInt32 >>> ((1 : Int32) &&& 31).toUInt32).toInt32)))])) _
              exact retI X0 hx Bd.returns (hb hby d4_78) hr
            · show Q4 Z p0 h0 n0 _ s₁.heap _
              rw [e0]
              exact ⟨by rw [f4, if_pos hc1_2, if_neg hc22_4, if_pos hc37_20, if_neg hc51_22, if_pos hc63_26], N0, rfl⟩
          · skip
            obtain ⟨fs, hr, hrun, hended, hW, hsame⟩ := X0.leave (v := some (.int (((((31 : Int32) + (-16 : Int32)) + (-4 : Int32)) + (-2 : Int32)) - ((((((((p0.toUInt32 >>> ((16 : Int32) &&& 31).toUInt32).toInt32).toUInt32 >>> ((4 : Int32) &&& 31).toUInt32).toInt32).toUInt32 >>> ((2 : Int32) &&& 31).toUInt32).toInt32).toUInt32 >>> ((1 : Int32) &&& 31).toUInt32).toInt32)))) (fun h => by rw [Bd.returns] at h; cases h)
            refine ⟨_, _, G25 _ ?_, hrun, hended, _, _, rfl, ?_, ⟨_, rfl⟩, hW, hsame.mono (by decide) (by decide)⟩
            · skip
              show Steps p.tables e below (s₁.setTop (mkF m 63 #[.val (.int ((((p0.toUInt32 >>> ((16 : Int32) &&& 31).toUInt32).toInt32).toUInt32 >>> ((4 : Int32) &&& 31).toUInt32).toInt32)), .val (.int (((31 : Int32) + (-16 : Int32)) + (-4 : Int32)))] [(.int (4 : Int32)), (.int ((((p0.toUInt32 >>> ((16 : Int32) &&& 31).toUInt32).toInt32).toUInt32 >>> ((4 : Int32) &&& 31).toUInt32).toInt32))])) _
              refine XS.icmpNo X0.here hx rfl (hb hby d4_63) rfl (flt hc63_26).1 ?_
              show Steps p.tables e below (s₁.setTop (mkF m 66 #[.val (.int ((((p0.toUInt32 >>> ((16 : Int32) &&& 31).toUInt32).toInt32).toUInt32 >>> ((4 : Int32) &&& 31).toUInt32).toInt32)), .val (.int (((31 : Int32) + (-16 : Int32)) + (-4 : Int32)))] [])) _
              refine XS.iinc X0.here hx rfl (hb hby d4_66) rfl (l' := #[.val (.int ((((p0.toUInt32 >>> ((16 : Int32) &&& 31).toUInt32).toInt32).toUInt32 >>> ((4 : Int32) &&& 31).toUInt32).toInt32)), .val (.int ((((31 : Int32) + (-16 : Int32)) + (-4 : Int32)) + (-2 : Int32)))]) rfl ?_
              show Steps p.tables e below (s₁.setTop (mkF m 69 #[.val (.int ((((p0.toUInt32 >>> ((16 : Int32) &&& 31).toUInt32).toInt32).toUInt32 >>> ((4 : Int32) &&& 31).toUInt32).toInt32)), .val (.int ((((31 : Int32) + (-16 : Int32)) + (-4 : Int32)) + (-2 : Int32)))] [])) _
              refine XS.iloadN X0.here hx rfl (hb hby d4_69) rfl ?_
              show Steps p.tables e below (s₁.setTop (mkF m 70 #[.val (.int ((((p0.toUInt32 >>> ((16 : Int32) &&& 31).toUInt32).toInt32).toUInt32 >>> ((4 : Int32) &&& 31).toUInt32).toInt32)), .val (.int ((((31 : Int32) + (-16 : Int32)) + (-4 : Int32)) + (-2 : Int32)))] [(.int ((((p0.toUInt32 >>> ((16 : Int32) &&& 31).toUInt32).toInt32).toUInt32 >>> ((4 : Int32) &&& 31).toUInt32).toInt32))])) _
              refine XS.iconst X0.here hx rfl (hb hby d4_70) ?_
              show Steps p.tables e below (s₁.setTop (mkF m 71 #[.val (.int ((((p0.toUInt32 >>> ((16 : Int32) &&& 31).toUInt32).toInt32).toUInt32 >>> ((4 : Int32) &&& 31).toUInt32).toInt32)), .val (.int ((((31 : Int32) + (-16 : Int32)) + (-4 : Int32)) + (-2 : Int32)))] [(.int (2 : Int32)), (.int ((((p0.toUInt32 >>> ((16 : Int32) &&& 31).toUInt32).toInt32).toUInt32 >>> ((4 : Int32) &&& 31).toUInt32).toInt32))])) _
              refine XS.iushr X0.here hx rfl (hb hby d4_71) rfl ?_
              show Steps p.tables e below (s₁.setTop (mkF m 72 #[.val (.int ((((p0.toUInt32 >>> ((16 : Int32) &&& 31).toUInt32).toInt32).toUInt32 >>> ((4 : Int32) &&& 31).toUInt32).toInt32)), .val (.int ((((31 : Int32) + (-16 : Int32)) + (-4 : Int32)) + (-2 : Int32)))] [(.int ((((((p0.toUInt32 >>> ((16 : Int32) &&& 31).toUInt32).toInt32).toUInt32 >>> ((4 : Int32) &&& 31).toUInt32).toInt32).toUInt32 >>> ((2 : Int32) &&& 31).toUInt32).toInt32))])) _
              refine XS.istoreN X0.here hx rfl (hb hby d4_72) rfl (l' := #[.val (.int ((((((p0.toUInt32 >>> ((16 : Int32) &&& 31).toUInt32).toInt32).toUInt32 >>> ((4 : Int32) &&& 31).toUInt32).toInt32).toUInt32 >>> ((2 : Int32) &&& 31).toUInt32).toInt32)), .val (.int ((((31 : Int32) + (-16 : Int32)) + (-4 : Int32)) + (-2 : Int32)))]) rfl ?_
              show Steps p.tables e below (s₁.setTop (mkF m 73 #[.val (.int ((((((p0.toUInt32 >>> ((16 : Int32) &&& 31).toUInt32).toInt32).toUInt32 >>> ((4 : Int32) &&& 31).toUInt32).toInt32).toUInt32 >>> ((2 : Int32) &&& 31).toUInt32).toInt32)), .val (.int ((((31 : Int32) + (-16 : Int32)) + (-4 : Int32)) + (-2 : Int32)))] [])) _
              refine XS.iloadN X0.here hx rfl (hb hby d4_73) rfl ?_
              show Steps p.tables e below (s₁.setTop (mkF m 74 #[.val (.int ((((((p0.toUInt32 >>> ((16 : Int32) &&& 31).toUInt32).toInt32).toUInt32 >>> ((4 : Int32) &&& 31).toUInt32).toInt32).toUInt32 >>> ((2 : Int32) &&& 31).toUInt32).toInt32)), .val (.int ((((31 : Int32) + (-16 : Int32)) + (-4 : Int32)) + (-2 : Int32)))] [(.int ((((31 : Int32) + (-16 : Int32)) + (-4 : Int32)) + (-2 : Int32)))])) _
              refine XS.iloadN X0.here hx rfl (hb hby d4_74) rfl ?_
              show Steps p.tables e below (s₁.setTop (mkF m 75 #[.val (.int ((((((p0.toUInt32 >>> ((16 : Int32) &&& 31).toUInt32).toInt32).toUInt32 >>> ((4 : Int32) &&& 31).toUInt32).toInt32).toUInt32 >>> ((2 : Int32) &&& 31).toUInt32).toInt32)), .val (.int ((((31 : Int32) + (-16 : Int32)) + (-4 : Int32)) + (-2 : Int32)))] [(.int ((((((p0.toUInt32 >>> ((16 : Int32) &&& 31).toUInt32).toInt32).toUInt32 >>> ((4 : Int32) &&& 31).toUInt32).toInt32).toUInt32 >>> ((2 : Int32) &&& 31).toUInt32).toInt32)), (.int ((((31 : Int32) + (-16 : Int32)) + (-4 : Int32)) + (-2 : Int32)))])) _
              refine XS.iconst X0.here hx rfl (hb hby d4_75) ?_
              show Steps p.tables e below (s₁.setTop (mkF m 76 #[.val (.int ((((((p0.toUInt32 >>> ((16 : Int32) &&& 31).toUInt32).toInt32).toUInt32 >>> ((4 : Int32) &&& 31).toUInt32).toInt32).toUInt32 >>> ((2 : Int32) &&& 31).toUInt32).toInt32)), .val (.int ((((31 : Int32) + (-16 : Int32)) + (-4 : Int32)) + (-2 : Int32)))] [(.int (1 : Int32)), (.int ((((((p0.toUInt32 >>> ((16 : Int32) &&& 31).toUInt32).toInt32).toUInt32 >>> ((4 : Int32) &&& 31).toUInt32).toInt32).toUInt32 >>> ((2 : Int32) &&& 31).toUInt32).toInt32)), (.int ((((31 : Int32) + (-16 : Int32)) + (-4 : Int32)) + (-2 : Int32)))])) _
              refine XS.iushr X0.here hx rfl (hb hby d4_76) rfl ?_
              show Steps p.tables e below (s₁.setTop (mkF m 77 #[.val (.int ((((((p0.toUInt32 >>> ((16 : Int32) &&& 31).toUInt32).toInt32).toUInt32 >>> ((4 : Int32) &&& 31).toUInt32).toInt32).toUInt32 >>> ((2 : Int32) &&& 31).toUInt32).toInt32)), .val (.int ((((31 : Int32) + (-16 : Int32)) + (-4 : Int32)) + (-2 : Int32)))] [(.int ((((((((p0.toUInt32 >>> ((16 : Int32) &&& 31).toUInt32).toInt32).toUInt32 >>> ((4 : Int32) &&& 31).toUInt32).toInt32).toUInt32 >>> ((2 : Int32) &&& 31).toUInt32).toInt32).toUInt32 >>> ((1 : Int32) &&& 31).toUInt32).toInt32)), (.int ((((31 : Int32) + (-16 : Int32)) + (-4 : Int32)) + (-2 : Int32)))])) _
              refine XS.isub X0.here hx rfl (hb hby d4_77) rfl ?_
              show Steps p.tables e below (s₁.setTop (mkF m 78 #[.val (.int ((((((p0.toUInt32 >>> ((16 : Int32) &&& 31).toUInt32).toInt32).toUInt32 >>> ((4 : Int32) &&& 31).toUInt32).toInt32).toUInt32 >>> ((2 : Int32) &&& 31).toUInt32).toInt32)), .val (.int ((((31 : Int32) + (-16 : Int32)) + (-4 : Int32)) + (-2 : Int32)))] [(.int (((((31 : Int32) + (-16 : Int32)) + (-4 : Int32)) + (-2 : Int32)) - ((((((((p0.toUInt32 >>> ((16 : Int32) &&& 31).toUInt32).toInt32).toUInt32 >>> ((4 : Int32) &&& 31).toUInt32).toInt32).toUInt32 >>> ((2 : Int32) &&& 31).toUInt32).toInt32).toUInt32 >>> ((1 : Int32) &&& 31).toUInt32).toInt32)))])) _
              exact retI X0 hx Bd.returns (hb hby d4_78) hr
            · show Q4 Z p0 h0 n0 _ s₁.heap _
              rw [e0]
              exact ⟨by rw [f4, if_pos hc1_2, if_neg hc22_4, if_pos hc37_20, if_neg hc51_22, if_neg hc63_26], N0, rfl⟩
      · skip
        have G27 : ∀ t, Steps p.tables e below (s₁.setTop (mkF m 51 #[.val (.int ((((p0.toUInt32 >>> ((16 : Int32) &&& 31).toUInt32).toInt32).toUInt32 >>> ((8 : Int32) &&& 31).toUInt32).toInt32)), .val (.int (((31 : Int32) + (-16 : Int32)) + (-8 : Int32)))] [(.int (16 : Int32)), (.int ((((p0.toUInt32 >>> ((16 : Int32) &&& 31).toUInt32).toInt32).toUInt32 >>> ((8 : Int32) &&& 31).toUInt32).toInt32))])) t → Steps p.tables e below (s₁.setTop (entryFrame m #[(.int p0)] 2)) t := by
          intro t kt
          refine G19 _ ?_
          show Steps p.tables e below (s₁.setTop (mkF m 37 #[.val (.int ((p0.toUInt32 >>> ((16 : Int32) &&& 31).toUInt32).toInt32)), .val (.int ((31 : Int32) + (-16 : Int32)))] [(.int (256 : Int32)), (.int ((p0.toUInt32 >>> ((16 : Int32) &&& 31).toUInt32).toInt32))])) _
          refine XS.icmpNo X0.here hx rfl (hb hby d4_37) rfl (flt hc37_20).1 ?_
          show Steps p.tables e below (s₁.setTop (mkF m 40 #[.val (.int ((p0.toUInt32 >>> ((16 : Int32) &&& 31).toUInt32).toInt32)), .val (.int ((31 : Int32) + (-16 : Int32)))] [])) _
          refine XS.iinc X0.here hx rfl (hb hby d4_40) rfl (l' := #[.val (.int ((p0.toUInt32 >>> ((16 : Int32) &&& 31).toUInt32).toInt32)), .val (.int (((31 : Int32) + (-16 : Int32)) + (-8 : Int32)))]) rfl ?_
          show Steps p.tables e below (s₁.setTop (mkF m 43 #[.val (.int ((p0.toUInt32 >>> ((16 : Int32) &&& 31).toUInt32).toInt32)), .val (.int (((31 : Int32) + (-16 : Int32)) + (-8 : Int32)))] [])) _
          refine XS.iloadN X0.here hx rfl (hb hby d4_43) rfl ?_
          show Steps p.tables e below (s₁.setTop (mkF m 44 #[.val (.int ((p0.toUInt32 >>> ((16 : Int32) &&& 31).toUInt32).toInt32)), .val (.int (((31 : Int32) + (-16 : Int32)) + (-8 : Int32)))] [(.int ((p0.toUInt32 >>> ((16 : Int32) &&& 31).toUInt32).toInt32))])) _
          refine XS.bipush X0.here hx rfl (hb hby d4_44) ?_
          show Steps p.tables e below (s₁.setTop (mkF m 46 #[.val (.int ((p0.toUInt32 >>> ((16 : Int32) &&& 31).toUInt32).toInt32)), .val (.int (((31 : Int32) + (-16 : Int32)) + (-8 : Int32)))] [(.int (8 : Int32)), (.int ((p0.toUInt32 >>> ((16 : Int32) &&& 31).toUInt32).toInt32))])) _
          refine XS.iushr X0.here hx rfl (hb hby d4_46) rfl ?_
          show Steps p.tables e below (s₁.setTop (mkF m 47 #[.val (.int ((p0.toUInt32 >>> ((16 : Int32) &&& 31).toUInt32).toInt32)), .val (.int (((31 : Int32) + (-16 : Int32)) + (-8 : Int32)))] [(.int ((((p0.toUInt32 >>> ((16 : Int32) &&& 31).toUInt32).toInt32).toUInt32 >>> ((8 : Int32) &&& 31).toUInt32).toInt32))])) _
          refine XS.istoreN X0.here hx rfl (hb hby d4_47) rfl (l' := #[.val (.int ((((p0.toUInt32 >>> ((16 : Int32) &&& 31).toUInt32).toInt32).toUInt32 >>> ((8 : Int32) &&& 31).toUInt32).toInt32)), .val (.int (((31 : Int32) + (-16 : Int32)) + (-8 : Int32)))]) rfl ?_
          show Steps p.tables e below (s₁.setTop (mkF m 48 #[.val (.int ((((p0.toUInt32 >>> ((16 : Int32) &&& 31).toUInt32).toInt32).toUInt32 >>> ((8 : Int32) &&& 31).toUInt32).toInt32)), .val (.int (((31 : Int32) + (-16 : Int32)) + (-8 : Int32)))] [])) _
          refine XS.iloadN X0.here hx rfl (hb hby d4_48) rfl ?_
          show Steps p.tables e below (s₁.setTop (mkF m 49 #[.val (.int ((((p0.toUInt32 >>> ((16 : Int32) &&& 31).toUInt32).toInt32).toUInt32 >>> ((8 : Int32) &&& 31).toUInt32).toInt32)), .val (.int (((31 : Int32) + (-16 : Int32)) + (-8 : Int32)))] [(.int ((((p0.toUInt32 >>> ((16 : Int32) &&& 31).toUInt32).toInt32).toUInt32 >>> ((8 : Int32) &&& 31).toUInt32).toInt32))])) _
          refine XS.bipush X0.here hx rfl (hb hby d4_49) ?_
          exact kt
        by_cases hc51_28 : ((((p0.toUInt32 >>> ((16 : Int32) &&& 31).toUInt32).toInt32).toUInt32 >>> ((8 : Int32) &&& 31).toUInt32).toInt32) < (16 : Int32)
        · skip
          have G29 : ∀ t, Steps p.tables e below (s₁.setTop (mkF m 63 #[.val (.int ((((p0.toUInt32 >>> ((16 : Int32) &&& 31).toUInt32).toInt32).toUInt32 >>> ((8 : Int32) &&& 31).toUInt32).toInt32)), .val (.int (((31 : Int32) + (-16 : Int32)) + (-8 : Int32)))] [(.int (4 : Int32)), (.int ((((p0.toUInt32 >>> ((16 : Int32) &&& 31).toUInt32).toInt32).toUInt32 >>> ((8 : Int32) &&& 31).toUInt32).toInt32))])) t → Steps p.tables e below (s₁.setTop (entryFrame m #[(.int p0)] 2)) t := by
            intro t kt
            refine G27 _ ?_
            show Steps p.tables e below (s₁.setTop (mkF m 51 #[.val (.int ((((p0.toUInt32 >>> ((16 : Int32) &&& 31).toUInt32).toInt32).toUInt32 >>> ((8 : Int32) &&& 31).toUInt32).toInt32)), .val (.int (((31 : Int32) + (-16 : Int32)) + (-8 : Int32)))] [(.int (16 : Int32)), (.int ((((p0.toUInt32 >>> ((16 : Int32) &&& 31).toUInt32).toInt32).toUInt32 >>> ((8 : Int32) &&& 31).toUInt32).toInt32))])) _
            refine XS.icmpYes X0.here hx rfl (pc0 := 51) (pc' := 61) rfl (hb hby d4_51) rfl (tlt hc51_28).1 (by decide) (by decide) ?_
            show Steps p.tables e below (s₁.setTop (mkF m 61 #[.val (.int ((((p0.toUInt32 >>> ((16 : Int32) &&& 31).toUInt32).toInt32).toUInt32 >>> ((8 : Int32) &&& 31).toUInt32).toInt32)), .val (.int (((31 : Int32) + (-16 : Int32)) + (-8 : Int32)))] [])) _
            refine XS.iloadN X0.here hx rfl (hb hby d4_61) rfl ?_
            show Steps p.tables e below (s₁.setTop (mkF m 62 #[.val (.int ((((p0.toUInt32 >>> ((16 : Int32) &&& 31).toUInt32).toInt32).toUInt32 >>> ((8 : Int32) &&& 31).toUInt32).toInt32)), .val (.int (((31 : Int32) + (-16 : Int32)) + (-8 : Int32)))] [(.int ((((p0.toUInt32 >>> ((16 : Int32) &&& 31).toUInt32).toInt32).toUInt32 >>> ((8 : Int32) &&& 31).toUInt32).toInt32))])) _
            refine XS.iconst X0.here hx rfl (hb hby d4_62) ?_
            exact kt
          by_cases hc63_30 : ((((p0.toUInt32 >>> ((16 : Int32) &&& 31).toUInt32).toInt32).toUInt32 >>> ((8 : Int32) &&& 31).toUInt32).toInt32) < (4 : Int32)
          · skip
            obtain ⟨fs, hr, hrun, hended, hW, hsame⟩ := X0.leave (v := some (.int ((((31 : Int32) + (-16 : Int32)) + (-8 : Int32)) - ((((((p0.toUInt32 >>> ((16 : Int32) &&& 31).toUInt32).toInt32).toUInt32 >>> ((8 : Int32) &&& 31).toUInt32).toInt32).toUInt32 >>> ((1 : Int32) &&& 31).toUInt32).toInt32)))) (fun h => by rw [Bd.returns] at h; cases h)
            refine ⟨_, _, G29 _ ?_, hrun, hended, _, _, rfl, ?_, ⟨_, rfl⟩, hW, hsame.mono (by decide) (by decide)⟩
            · skip
              show Steps p.tables e below (s₁.setTop (mkF m 63 #[.val (.int ((((p0.toUInt32 >>> ((16 : Int32) &&& 31).toUInt32).toInt32).toUInt32 >>> ((8 : Int32) &&& 31).toUInt32).toInt32)), .val (.int (((31 : Int32) + (-16 : Int32)) + (-8 : Int32)))] [(.int (4 : Int32)), (.int ((((p0.toUInt32 >>> ((16 : Int32) &&& 31).toUInt32).toInt32).toUInt32 >>> ((8 : Int32) &&& 31).toUInt32).toInt32))])) _
              refine XS.icmpYes X0.here hx rfl (pc0 := 63) (pc' := 73) rfl (hb hby d4_63) rfl (tlt hc63_30).1 (by decide) (by decide) ?_
              show Steps p.tables e below (s₁.setTop (mkF m 73 #[.val (.int ((((p0.toUInt32 >>> ((16 : Int32) &&& 31).toUInt32).toInt32).toUInt32 >>> ((8 : Int32) &&& 31).toUInt32).toInt32)), .val (.int (((31 : Int32) + (-16 : Int32)) + (-8 : Int32)))] [])) _
              refine XS.iloadN X0.here hx rfl (hb hby d4_73) rfl ?_
              show Steps p.tables e below (s₁.setTop (mkF m 74 #[.val (.int ((((p0.toUInt32 >>> ((16 : Int32) &&& 31).toUInt32).toInt32).toUInt32 >>> ((8 : Int32) &&& 31).toUInt32).toInt32)), .val (.int (((31 : Int32) + (-16 : Int32)) + (-8 : Int32)))] [(.int (((31 : Int32) + (-16 : Int32)) + (-8 : Int32)))])) _
              refine XS.iloadN X0.here hx rfl (hb hby d4_74) rfl ?_
              show Steps p.tables e below (s₁.setTop (mkF m 75 #[.val (.int ((((p0.toUInt32 >>> ((16 : Int32) &&& 31).toUInt32).toInt32).toUInt32 >>> ((8 : Int32) &&& 31).toUInt32).toInt32)), .val (.int (((31 : Int32) + (-16 : Int32)) + (-8 : Int32)))] [(.int ((((p0.toUInt32 >>> ((16 : Int32) &&& 31).toUInt32).toInt32).toUInt32 >>> ((8 : Int32) &&& 31).toUInt32).toInt32)), (.int (((31 : Int32) + (-16 : Int32)) + (-8 : Int32)))])) _
              refine XS.iconst X0.here hx rfl (hb hby d4_75) ?_
              show Steps p.tables e below (s₁.setTop (mkF m 76 #[.val (.int ((((p0.toUInt32 >>> ((16 : Int32) &&& 31).toUInt32).toInt32).toUInt32 >>> ((8 : Int32) &&& 31).toUInt32).toInt32)), .val (.int (((31 : Int32) + (-16 : Int32)) + (-8 : Int32)))] [(.int (1 : Int32)), (.int ((((p0.toUInt32 >>> ((16 : Int32) &&& 31).toUInt32).toInt32).toUInt32 >>> ((8 : Int32) &&& 31).toUInt32).toInt32)), (.int (((31 : Int32) + (-16 : Int32)) + (-8 : Int32)))])) _
              refine XS.iushr X0.here hx rfl (hb hby d4_76) rfl ?_
              show Steps p.tables e below (s₁.setTop (mkF m 77 #[.val (.int ((((p0.toUInt32 >>> ((16 : Int32) &&& 31).toUInt32).toInt32).toUInt32 >>> ((8 : Int32) &&& 31).toUInt32).toInt32)), .val (.int (((31 : Int32) + (-16 : Int32)) + (-8 : Int32)))] [(.int ((((((p0.toUInt32 >>> ((16 : Int32) &&& 31).toUInt32).toInt32).toUInt32 >>> ((8 : Int32) &&& 31).toUInt32).toInt32).toUInt32 >>> ((1 : Int32) &&& 31).toUInt32).toInt32)), (.int (((31 : Int32) + (-16 : Int32)) + (-8 : Int32)))])) _
              refine XS.isub X0.here hx rfl (hb hby d4_77) rfl ?_
              show Steps p.tables e below (s₁.setTop (mkF m 78 #[.val (.int ((((p0.toUInt32 >>> ((16 : Int32) &&& 31).toUInt32).toInt32).toUInt32 >>> ((8 : Int32) &&& 31).toUInt32).toInt32)), .val (.int (((31 : Int32) + (-16 : Int32)) + (-8 : Int32)))] [(.int ((((31 : Int32) + (-16 : Int32)) + (-8 : Int32)) - ((((((p0.toUInt32 >>> ((16 : Int32) &&& 31).toUInt32).toInt32).toUInt32 >>> ((8 : Int32) &&& 31).toUInt32).toInt32).toUInt32 >>> ((1 : Int32) &&& 31).toUInt32).toInt32)))])) _
              exact retI X0 hx Bd.returns (hb hby d4_78) hr
            · show Q4 Z p0 h0 n0 _ s₁.heap _
              rw [e0]
              exact ⟨by rw [f4, if_pos hc1_2, if_neg hc22_4, if_neg hc37_20, if_pos hc51_28, if_pos hc63_30], N0, rfl⟩
          · skip
            obtain ⟨fs, hr, hrun, hended, hW, hsame⟩ := X0.leave (v := some (.int (((((31 : Int32) + (-16 : Int32)) + (-8 : Int32)) + (-2 : Int32)) - ((((((((p0.toUInt32 >>> ((16 : Int32) &&& 31).toUInt32).toInt32).toUInt32 >>> ((8 : Int32) &&& 31).toUInt32).toInt32).toUInt32 >>> ((2 : Int32) &&& 31).toUInt32).toInt32).toUInt32 >>> ((1 : Int32) &&& 31).toUInt32).toInt32)))) (fun h => by rw [Bd.returns] at h; cases h)
            refine ⟨_, _, G29 _ ?_, hrun, hended, _, _, rfl, ?_, ⟨_, rfl⟩, hW, hsame.mono (by decide) (by decide)⟩
            · skip
              show Steps p.tables e below (s₁.setTop (mkF m 63 #[.val (.int ((((p0.toUInt32 >>> ((16 : Int32) &&& 31).toUInt32).toInt32).toUInt32 >>> ((8 : Int32) &&& 31).toUInt32).toInt32)), .val (.int (((31 : Int32) + (-16 : Int32)) + (-8 : Int32)))] [(.int (4 : Int32)), (.int ((((p0.toUInt32 >>> ((16 : Int32) &&& 31).toUInt32).toInt32).toUInt32 >>> ((8 : Int32) &&& 31).toUInt32).toInt32))])) _
              refine XS.icmpNo X0.here hx rfl (hb hby d4_63) rfl (flt hc63_30).1 ?_
              show Steps p.tables e below (s₁.setTop (mkF m 66 #[.val (.int ((((p0.toUInt32 >>> ((16 : Int32) &&& 31).toUInt32).toInt32).toUInt32 >>> ((8 : Int32) &&& 31).toUInt32).toInt32)), .val (.int (((31 : Int32) + (-16 : Int32)) + (-8 : Int32)))] [])) _
              refine XS.iinc X0.here hx rfl (hb hby d4_66) rfl (l' := #[.val (.int ((((p0.toUInt32 >>> ((16 : Int32) &&& 31).toUInt32).toInt32).toUInt32 >>> ((8 : Int32) &&& 31).toUInt32).toInt32)), .val (.int ((((31 : Int32) + (-16 : Int32)) + (-8 : Int32)) + (-2 : Int32)))]) rfl ?_
              show Steps p.tables e below (s₁.setTop (mkF m 69 #[.val (.int ((((p0.toUInt32 >>> ((16 : Int32) &&& 31).toUInt32).toInt32).toUInt32 >>> ((8 : Int32) &&& 31).toUInt32).toInt32)), .val (.int ((((31 : Int32) + (-16 : Int32)) + (-8 : Int32)) + (-2 : Int32)))] [])) _
              refine XS.iloadN X0.here hx rfl (hb hby d4_69) rfl ?_
              show Steps p.tables e below (s₁.setTop (mkF m 70 #[.val (.int ((((p0.toUInt32 >>> ((16 : Int32) &&& 31).toUInt32).toInt32).toUInt32 >>> ((8 : Int32) &&& 31).toUInt32).toInt32)), .val (.int ((((31 : Int32) + (-16 : Int32)) + (-8 : Int32)) + (-2 : Int32)))] [(.int ((((p0.toUInt32 >>> ((16 : Int32) &&& 31).toUInt32).toInt32).toUInt32 >>> ((8 : Int32) &&& 31).toUInt32).toInt32))])) _
              refine XS.iconst X0.here hx rfl (hb hby d4_70) ?_
              show Steps p.tables e below (s₁.setTop (mkF m 71 #[.val (.int ((((p0.toUInt32 >>> ((16 : Int32) &&& 31).toUInt32).toInt32).toUInt32 >>> ((8 : Int32) &&& 31).toUInt32).toInt32)), .val (.int ((((31 : Int32) + (-16 : Int32)) + (-8 : Int32)) + (-2 : Int32)))] [(.int (2 : Int32)), (.int ((((p0.toUInt32 >>> ((16 : Int32) &&& 31).toUInt32).toInt32).toUInt32 >>> ((8 : Int32) &&& 31).toUInt32).toInt32))])) _
              refine XS.iushr X0.here hx rfl (hb hby d4_71) rfl ?_
              show Steps p.tables e below (s₁.setTop (mkF m 72 #[.val (.int ((((p0.toUInt32 >>> ((16 : Int32) &&& 31).toUInt32).toInt32).toUInt32 >>> ((8 : Int32) &&& 31).toUInt32).toInt32)), .val (.int ((((31 : Int32) + (-16 : Int32)) + (-8 : Int32)) + (-2 : Int32)))] [(.int ((((((p0.toUInt32 >>> ((16 : Int32) &&& 31).toUInt32).toInt32).toUInt32 >>> ((8 : Int32) &&& 31).toUInt32).toInt32).toUInt32 >>> ((2 : Int32) &&& 31).toUInt32).toInt32))])) _
              refine XS.istoreN X0.here hx rfl (hb hby d4_72) rfl (l' := #[.val (.int ((((((p0.toUInt32 >>> ((16 : Int32) &&& 31).toUInt32).toInt32).toUInt32 >>> ((8 : Int32) &&& 31).toUInt32).toInt32).toUInt32 >>> ((2 : Int32) &&& 31).toUInt32).toInt32)), .val (.int ((((31 : Int32) + (-16 : Int32)) + (-8 : Int32)) + (-2 : Int32)))]) rfl ?_
              show Steps p.tables e below (s₁.setTop (mkF m 73 #[.val (.int ((((((p0.toUInt32 >>> ((16 : Int32) &&& 31).toUInt32).toInt32).toUInt32 >>> ((8 : Int32) &&& 31).toUInt32).toInt32).toUInt32 >>> ((2 : Int32) &&& 31).toUInt32).toInt32)), .val (.int ((((31 : Int32) + (-16 : Int32)) + (-8 : Int32)) + (-2 : Int32)))] [])) _
              refine XS.iloadN X0.here hx rfl (hb hby d4_73) rfl ?_
              show Steps p.tables e below (s₁.setTop (mkF m 74 #[.val (.int ((((((p0.toUInt32 >>> ((16 : Int32) &&& 31).toUInt32).toInt32).toUInt32 >>> ((8 : Int32) &&& 31).toUInt32).toInt32).toUInt32 >>> ((2 : Int32) &&& 31).toUInt32).toInt32)), .val (.int ((((31 : Int32) + (-16 : Int32)) + (-8 : Int32)) + (-2 : Int32)))] [(.int ((((31 : Int32) + (-16 : Int32)) + (-8 : Int32)) + (-2 : Int32)))])) _
              refine XS.iloadN X0.here hx rfl (hb hby d4_74) rfl ?_
              show Steps p.tables e below (s₁.setTop (mkF m 75 #[.val (.int ((((((p0.toUInt32 >>> ((16 : Int32) &&& 31).toUInt32).toInt32).toUInt32 >>> ((8 : Int32) &&& 31).toUInt32).toInt32).toUInt32 >>> ((2 : Int32) &&& 31).toUInt32).toInt32)), .val (.int ((((31 : Int32) + (-16 : Int32)) + (-8 : Int32)) + (-2 : Int32)))] [(.int ((((((p0.toUInt32 >>> ((16 : Int32) &&& 31).toUInt32).toInt32).toUInt32 >>> ((8 : Int32) &&& 31).toUInt32).toInt32).toUInt32 >>> ((2 : Int32) &&& 31).toUInt32).toInt32)), (.int ((((31 : Int32) + (-16 : Int32)) + (-8 : Int32)) + (-2 : Int32)))])) _
              refine XS.iconst X0.here hx rfl (hb hby d4_75) ?_
              show Steps p.tables e below (s₁.setTop (mkF m 76 #[.val (.int ((((((p0.toUInt32 >>> ((16 : Int32) &&& 31).toUInt32).toInt32).toUInt32 >>> ((8 : Int32) &&& 31).toUInt32).toInt32).toUInt32 >>> ((2 : Int32) &&& 31).toUInt32).toInt32)), .val (.int ((((31 : Int32) + (-16 : Int32)) + (-8 : Int32)) + (-2 : Int32)))] [(.int (1 : Int32)), (.int ((((((p0.toUInt32 >>> ((16 : Int32) &&& 31).toUInt32).toInt32).toUInt32 >>> ((8 : Int32) &&& 31).toUInt32).toInt32).toUInt32 >>> ((2 : Int32) &&& 31).toUInt32).toInt32)), (.int ((((31 : Int32) + (-16 : Int32)) + (-8 : Int32)) + (-2 : Int32)))])) _
              refine XS.iushr X0.here hx rfl (hb hby d4_76) rfl ?_
              show Steps p.tables e below (s₁.setTop (mkF m 77 #[.val (.int ((((((p0.toUInt32 >>> ((16 : Int32) &&& 31).toUInt32).toInt32).toUInt32 >>> ((8 : Int32) &&& 31).toUInt32).toInt32).toUInt32 >>> ((2 : Int32) &&& 31).toUInt32).toInt32)), .val (.int ((((31 : Int32) + (-16 : Int32)) + (-8 : Int32)) + (-2 : Int32)))] [(.int ((((((((p0.toUInt32 >>> ((16 : Int32) &&& 31).toUInt32).toInt32).toUInt32 >>> ((8 : Int32) &&& 31).toUInt32).toInt32).toUInt32 >>> ((2 : Int32) &&& 31).toUInt32).toInt32).toUInt32 >>> ((1 : Int32) &&& 31).toUInt32).toInt32)), (.int ((((31 : Int32) + (-16 : Int32)) + (-8 : Int32)) + (-2 : Int32)))])) _
              refine XS.isub X0.here hx rfl (hb hby d4_77) rfl ?_
              show Steps p.tables e below (s₁.setTop (mkF m 78 #[.val (.int ((((((p0.toUInt32 >>> ((16 : Int32) &&& 31).toUInt32).toInt32).toUInt32 >>> ((8 : Int32) &&& 31).toUInt32).toInt32).toUInt32 >>> ((2 : Int32) &&& 31).toUInt32).toInt32)), .val (.int ((((31 : Int32) + (-16 : Int32)) + (-8 : Int32)) + (-2 : Int32)))] [(.int (((((31 : Int32) + (-16 : Int32)) + (-8 : Int32)) + (-2 : Int32)) - ((((((((p0.toUInt32 >>> ((16 : Int32) &&& 31).toUInt32).toInt32).toUInt32 >>> ((8 : Int32) &&& 31).toUInt32).toInt32).toUInt32 >>> ((2 : Int32) &&& 31).toUInt32).toInt32).toUInt32 >>> ((1 : Int32) &&& 31).toUInt32).toInt32)))])) _
              exact retI X0 hx Bd.returns (hb hby d4_78) hr
            · show Q4 Z p0 h0 n0 _ s₁.heap _
              rw [e0]
              exact ⟨by rw [f4, if_pos hc1_2, if_neg hc22_4, if_neg hc37_20, if_pos hc51_28, if_neg hc63_30], N0, rfl⟩
        · skip
          have G31 : ∀ t, Steps p.tables e below (s₁.setTop (mkF m 63 #[.val (.int ((((((p0.toUInt32 >>> ((16 : Int32) &&& 31).toUInt32).toInt32).toUInt32 >>> ((8 : Int32) &&& 31).toUInt32).toInt32).toUInt32 >>> ((4 : Int32) &&& 31).toUInt32).toInt32)), .val (.int ((((31 : Int32) + (-16 : Int32)) + (-8 : Int32)) + (-4 : Int32)))] [(.int (4 : Int32)), (.int ((((((p0.toUInt32 >>> ((16 : Int32) &&& 31).toUInt32).toInt32).toUInt32 >>> ((8 : Int32) &&& 31).toUInt32).toInt32).toUInt32 >>> ((4 : Int32) &&& 31).toUInt32).toInt32))])) t → Steps p.tables e below (s₁.setTop (entryFrame m #[(.int p0)] 2)) t := by
            intro t kt
            refine G27 _ ?_
            show Steps p.tables e below (s₁.setTop (mkF m 51 #[.val (.int ((((p0.toUInt32 >>> ((16 : Int32) &&& 31).toUInt32).toInt32).toUInt32 >>> ((8 : Int32) &&& 31).toUInt32).toInt32)), .val (.int (((31 : Int32) + (-16 : Int32)) + (-8 : Int32)))] [(.int (16 : Int32)), (.int ((((p0.toUInt32 >>> ((16 : Int32) &&& 31).toUInt32).toInt32).toUInt32 >>> ((8 : Int32) &&& 31).toUInt32).toInt32))])) _
            refine XS.icmpNo X0.here hx rfl (hb hby d4_51) rfl (flt hc51_28).1 ?_
            show Steps p.tables e below (s₁.setTop (mkF m 54 #[.val (.int ((((p0.toUInt32 >>> ((16 : Int32) &&& 31).toUInt32).toInt32).toUInt32 >>> ((8 : Int32) &&& 31).toUInt32).toInt32)), .val (.int (((31 : Int32) + (-16 : Int32)) + (-8 : Int32)))] [])) _
            refine XS.iinc X0.here hx rfl (hb hby d4_54) rfl (l' := #[.val (.int ((((p0.toUInt32 >>> ((16 : Int32) &&& 31).toUInt32).toInt32).toUInt32 >>> ((8 : Int32) &&& 31).toUInt32).toInt32)), .val (.int ((((31 : Int32) + (-16 : Int32)) + (-8 : Int32)) + (-4 : Int32)))]) rfl ?_
            show Steps p.tables e below (s₁.setTop (mkF m 57 #[.val (.int ((((p0.toUInt32 >>> ((16 : Int32) &&& 31).toUInt32).toInt32).toUInt32 >>> ((8 : Int32) &&& 31).toUInt32).toInt32)), .val (.int ((((31 : Int32) + (-16 : Int32)) + (-8 : Int32)) + (-4 : Int32)))] [])) _
            refine XS.iloadN X0.here hx rfl (hb hby d4_57) rfl ?_
            show Steps p.tables e below (s₁.setTop (mkF m 58 #[.val (.int ((((p0.toUInt32 >>> ((16 : Int32) &&& 31).toUInt32).toInt32).toUInt32 >>> ((8 : Int32) &&& 31).toUInt32).toInt32)), .val (.int ((((31 : Int32) + (-16 : Int32)) + (-8 : Int32)) + (-4 : Int32)))] [(.int ((((p0.toUInt32 >>> ((16 : Int32) &&& 31).toUInt32).toInt32).toUInt32 >>> ((8 : Int32) &&& 31).toUInt32).toInt32))])) _
            refine XS.iconst X0.here hx rfl (hb hby d4_58) ?_
            show Steps p.tables e below (s₁.setTop (mkF m 59 #[.val (.int ((((p0.toUInt32 >>> ((16 : Int32) &&& 31).toUInt32).toInt32).toUInt32 >>> ((8 : Int32) &&& 31).toUInt32).toInt32)), .val (.int ((((31 : Int32) + (-16 : Int32)) + (-8 : Int32)) + (-4 : Int32)))] [(.int (4 : Int32)), (.int ((((p0.toUInt32 >>> ((16 : Int32) &&& 31).toUInt32).toInt32).toUInt32 >>> ((8 : Int32) &&& 31).toUInt32).toInt32))])) _
            refine XS.iushr X0.here hx rfl (hb hby d4_59) rfl ?_
            show Steps p.tables e below (s₁.setTop (mkF m 60 #[.val (.int ((((p0.toUInt32 >>> ((16 : Int32) &&& 31).toUInt32).toInt32).toUInt32 >>> ((8 : Int32) &&& 31).toUInt32).toInt32)), .val (.int ((((31 : Int32) + (-16 : Int32)) + (-8 : Int32)) + (-4 : Int32)))] [(.int ((((((p0.toUInt32 >>> ((16 : Int32) &&& 31).toUInt32).toInt32).toUInt32 >>> ((8 : Int32) &&& 31).toUInt32).toInt32).toUInt32 >>> ((4 : Int32) &&& 31).toUInt32).toInt32))])) _
            refine XS.istoreN X0.here hx rfl (hb hby d4_60) rfl (l' := #[.val (.int ((((((p0.toUInt32 >>> ((16 : Int32) &&& 31).toUInt32).toInt32).toUInt32 >>> ((8 : Int32) &&& 31).toUInt32).toInt32).toUInt32 >>> ((4 : Int32) &&& 31).toUInt32).toInt32)), .val (.int ((((31 : Int32) + (-16 : Int32)) + (-8 : Int32)) + (-4 : Int32)))]) rfl ?_
            show Steps p.tables e below (s₁.setTop (mkF m 61 #[.val (.int ((((((p0.toUInt32 >>> ((16 : Int32) &&& 31).toUInt32).toInt32).toUInt32 >>> ((8 : Int32) &&& 31).toUInt32).toInt32).toUInt32 >>> ((4 : Int32) &&& 31).toUInt32).toInt32)), .val (.int ((((31 : Int32) + (-16 : Int32)) + (-8 : Int32)) + (-4 : Int32)))] [])) _
            refine XS.iloadN X0.here hx rfl (hb hby d4_61) rfl ?_
            show Steps p.tables e below (s₁.setTop (mkF m 62 #[.val (.int ((((((p0.toUInt32 >>> ((16 : Int32) &&& 31).toUInt32).toInt32).toUInt32 >>> ((8 : Int32) &&& 31).toUInt32).toInt32).toUInt32 >>> ((4 : Int32) &&& 31).toUInt32).toInt32)), .val (.int ((((31 : Int32) + (-16 : Int32)) + (-8 : Int32)) + (-4 : Int32)))] [(.int ((((((p0.toUInt32 >>> ((16 : Int32) &&& 31).toUInt32).toInt32).toUInt32 >>> ((8 : Int32) &&& 31).toUInt32).toInt32).toUInt32 >>> ((4 : Int32) &&& 31).toUInt32).toInt32))])) _
            refine XS.iconst X0.here hx rfl (hb hby d4_62) ?_
            exact kt
          by_cases hc63_32 : ((((((p0.toUInt32 >>> ((16 : Int32) &&& 31).toUInt32).toInt32).toUInt32 >>> ((8 : Int32) &&& 31).toUInt32).toInt32).toUInt32 >>> ((4 : Int32) &&& 31).toUInt32).toInt32) < (4 : Int32)
          · skip
            obtain ⟨fs, hr, hrun, hended, hW, hsame⟩ := X0.leave (v := some (.int (((((31 : Int32) + (-16 : Int32)) + (-8 : Int32)) + (-4 : Int32)) - ((((((((p0.toUInt32 >>> ((16 : Int32) &&& 31).toUInt32).toInt32).toUInt32 >>> ((8 : Int32) &&& 31).toUInt32).toInt32).toUInt32 >>> ((4 : Int32) &&& 31).toUInt32).toInt32).toUInt32 >>> ((1 : Int32) &&& 31).toUInt32).toInt32)))) (fun h => by rw [Bd.returns] at h; cases h)
            refine ⟨_, _, G31 _ ?_, hrun, hended, _, _, rfl, ?_, ⟨_, rfl⟩, hW, hsame.mono (by decide) (by decide)⟩
            · skip
              show Steps p.tables e below (s₁.setTop (mkF m 63 #[.val (.int ((((((p0.toUInt32 >>> ((16 : Int32) &&& 31).toUInt32).toInt32).toUInt32 >>> ((8 : Int32) &&& 31).toUInt32).toInt32).toUInt32 >>> ((4 : Int32) &&& 31).toUInt32).toInt32)), .val (.int ((((31 : Int32) + (-16 : Int32)) + (-8 : Int32)) + (-4 : Int32)))] [(.int (4 : Int32)), (.int ((((((p0.toUInt32 >>> ((16 : Int32) &&& 31).toUInt32).toInt32).toUInt32 >>> ((8 : Int32) &&& 31).toUInt32).toInt32).toUInt32 >>> ((4 : Int32) &&& 31).toUInt32).toInt32))])) _
              refine XS.icmpYes X0.here hx rfl (pc0 := 63) (pc' := 73) rfl (hb hby d4_63) rfl (tlt hc63_32).1 (by decide) (by decide) ?_
              show Steps p.tables e below (s₁.setTop (mkF m 73 #[.val (.int ((((((p0.toUInt32 >>> ((16 : Int32) &&& 31).toUInt32).toInt32).toUInt32 >>> ((8 : Int32) &&& 31).toUInt32).toInt32).toUInt32 >>> ((4 : Int32) &&& 31).toUInt32).toInt32)), .val (.int ((((31 : Int32) + (-16 : Int32)) + (-8 : Int32)) + (-4 : Int32)))] [])) _
              refine XS.iloadN X0.here hx rfl (hb hby d4_73) rfl ?_
              show Steps p.tables e below (s₁.setTop (mkF m 74 #[.val (.int ((((((p0.toUInt32 >>> ((16 : Int32) &&& 31).toUInt32).toInt32).toUInt32 >>> ((8 : Int32) &&& 31).toUInt32).toInt32).toUInt32 >>> ((4 : Int32) &&& 31).toUInt32).toInt32)), .val (.int ((((31 : Int32) + (-16 : Int32)) + (-8 : Int32)) + (-4 : Int32)))] [(.int ((((31 : Int32) + (-16 : Int32)) + (-8 : Int32)) + (-4 : Int32)))])) _
              refine XS.iloadN X0.here hx rfl (hb hby d4_74) rfl ?_
              show Steps p.tables e below (s₁.setTop (mkF m 75 #[.val (.int ((((((p0.toUInt32 >>> ((16 : Int32) &&& 31).toUInt32).toInt32).toUInt32 >>> ((8 : Int32) &&& 31).toUInt32).toInt32).toUInt32 >>> ((4 : Int32) &&& 31).toUInt32).toInt32)), .val (.int ((((31 : Int32) + (-16 : Int32)) + (-8 : Int32)) + (-4 : Int32)))] [(.int ((((((p0.toUInt32 >>> ((16 : Int32) &&& 31).toUInt32).toInt32).toUInt32 >>> ((8 : Int32) &&& 31).toUInt32).toInt32).toUInt32 >>> ((4 : Int32) &&& 31).toUInt32).toInt32)), (.int ((((31 : Int32) + (-16 : Int32)) + (-8 : Int32)) + (-4 : Int32)))])) _
              refine XS.iconst X0.here hx rfl (hb hby d4_75) ?_
              show Steps p.tables e below (s₁.setTop (mkF m 76 #[.val (.int ((((((p0.toUInt32 >>> ((16 : Int32) &&& 31).toUInt32).toInt32).toUInt32 >>> ((8 : Int32) &&& 31).toUInt32).toInt32).toUInt32 >>> ((4 : Int32) &&& 31).toUInt32).toInt32)), .val (.int ((((31 : Int32) + (-16 : Int32)) + (-8 : Int32)) + (-4 : Int32)))] [(.int (1 : Int32)), (.int ((((((p0.toUInt32 >>> ((16 : Int32) &&& 31).toUInt32).toInt32).toUInt32 >>> ((8 : Int32) &&& 31).toUInt32).toInt32).toUInt32 >>> ((4 : Int32) &&& 31).toUInt32).toInt32)), (.int ((((31 : Int32) + (-16 : Int32)) + (-8 : Int32)) + (-4 : Int32)))])) _
              refine XS.iushr X0.here hx rfl (hb hby d4_76) rfl ?_
              show Steps p.tables e below (s₁.setTop (mkF m 77 #[.val (.int ((((((p0.toUInt32 >>> ((16 : Int32) &&& 31).toUInt32).toInt32).toUInt32 >>> ((8 : Int32) &&& 31).toUInt32).toInt32).toUInt32 >>> ((4 : Int32) &&& 31).toUInt32).toInt32)), .val (.int ((((31 : Int32) + (-16 : Int32)) + (-8 : Int32)) + (-4 : Int32)))] [(.int ((((((((p0.toUInt32 >>> ((16 : Int32) &&& 31).toUInt32).toInt32).toUInt32 >>> ((8 : Int32) &&& 31).toUInt32).toInt32).toUInt32 >>> ((4 : Int32) &&& 31).toUInt32).toInt32).toUInt32 >>> ((1 : Int32) &&& 31).toUInt32).toInt32)), (.int ((((31 : Int32) + (-16 : Int32)) + (-8 : Int32)) + (-4 : Int32)))])) _
              refine XS.isub X0.here hx rfl (hb hby d4_77) rfl ?_
              show Steps p.tables e below (s₁.setTop (mkF m 78 #[.val (.int ((((((p0.toUInt32 >>> ((16 : Int32) &&& 31).toUInt32).toInt32).toUInt32 >>> ((8 : Int32) &&& 31).toUInt32).toInt32).toUInt32 >>> ((4 : Int32) &&& 31).toUInt32).toInt32)), .val (.int ((((31 : Int32) + (-16 : Int32)) + (-8 : Int32)) + (-4 : Int32)))] [(.int (((((31 : Int32) + (-16 : Int32)) + (-8 : Int32)) + (-4 : Int32)) - ((((((((p0.toUInt32 >>> ((16 : Int32) &&& 31).toUInt32).toInt32).toUInt32 >>> ((8 : Int32) &&& 31).toUInt32).toInt32).toUInt32 >>> ((4 : Int32) &&& 31).toUInt32).toInt32).toUInt32 >>> ((1 : Int32) &&& 31).toUInt32).toInt32)))])) _
              exact retI X0 hx Bd.returns (hb hby d4_78) hr
            · show Q4 Z p0 h0 n0 _ s₁.heap _
              rw [e0]
              exact ⟨by rw [f4, if_pos hc1_2, if_neg hc22_4, if_neg hc37_20, if_neg hc51_28, if_pos hc63_32], N0, rfl⟩
          · skip
            obtain ⟨fs, hr, hrun, hended, hW, hsame⟩ := X0.leave (v := some (.int ((((((31 : Int32) + (-16 : Int32)) + (-8 : Int32)) + (-4 : Int32)) + (-2 : Int32)) - ((((((((((p0.toUInt32 >>> ((16 : Int32) &&& 31).toUInt32).toInt32).toUInt32 >>> ((8 : Int32) &&& 31).toUInt32).toInt32).toUInt32 >>> ((4 : Int32) &&& 31).toUInt32).toInt32).toUInt32 >>> ((2 : Int32) &&& 31).toUInt32).toInt32).toUInt32 >>> ((1 : Int32) &&& 31).toUInt32).toInt32)))) (fun h => by rw [Bd.returns] at h; cases h)
            refine ⟨_, _, G31 _ ?_, hrun, hended, _, _, rfl, ?_, ⟨_, rfl⟩, hW, hsame.mono (by decide) (by decide)⟩
            · skip
              show Steps p.tables e below (s₁.setTop (mkF m 63 #[.val (.int ((((((p0.toUInt32 >>> ((16 : Int32) &&& 31).toUInt32).toInt32).toUInt32 >>> ((8 : Int32) &&& 31).toUInt32).toInt32).toUInt32 >>> ((4 : Int32) &&& 31).toUInt32).toInt32)), .val (.int ((((31 : Int32) + (-16 : Int32)) + (-8 : Int32)) + (-4 : Int32)))] [(.int (4 : Int32)), (.int ((((((p0.toUInt32 >>> ((16 : Int32) &&& 31).toUInt32).toInt32).toUInt32 >>> ((8 : Int32) &&& 31).toUInt32).toInt32).toUInt32 >>> ((4 : Int32) &&& 31).toUInt32).toInt32))])) _
              refine XS.icmpNo X0.here hx rfl (hb hby d4_63) rfl (flt hc63_32).1 ?_
              show Steps p.tables e below (s₁.setTop (mkF m 66 #[.val (.int ((((((p0.toUInt32 >>> ((16 : Int32) &&& 31).toUInt32).toInt32).toUInt32 >>> ((8 : Int32) &&& 31).toUInt32).toInt32).toUInt32 >>> ((4 : Int32) &&& 31).toUInt32).toInt32)), .val (.int ((((31 : Int32) + (-16 : Int32)) + (-8 : Int32)) + (-4 : Int32)))] [])) _
              refine XS.iinc X0.here hx rfl (hb hby d4_66) rfl (l' := #[.val (.int ((((((p0.toUInt32 >>> ((16 : Int32) &&& 31).toUInt32).toInt32).toUInt32 >>> ((8 : Int32) &&& 31).toUInt32).toInt32).toUInt32 >>> ((4 : Int32) &&& 31).toUInt32).toInt32)), .val (.int (((((31 : Int32) + (-16 : Int32)) + (-8 : Int32)) + (-4 : Int32)) + (-2 : Int32)))]) rfl ?_
              show Steps p.tables e below (s₁.setTop (mkF m 69 #[.val (.int ((((((p0.toUInt32 >>> ((16 : Int32) &&& 31).toUInt32).toInt32).toUInt32 >>> ((8 : Int32) &&& 31).toUInt32).toInt32).toUInt32 >>> ((4 : Int32) &&& 31).toUInt32).toInt32)), .val (.int (((((31 : Int32) + (-16 : Int32)) + (-8 : Int32)) + (-4 : Int32)) + (-2 : Int32)))] [])) _
              refine XS.iloadN X0.here hx rfl (hb hby d4_69) rfl ?_
              show Steps p.tables e below (s₁.setTop (mkF m 70 #[.val (.int ((((((p0.toUInt32 >>> ((16 : Int32) &&& 31).toUInt32).toInt32).toUInt32 >>> ((8 : Int32) &&& 31).toUInt32).toInt32).toUInt32 >>> ((4 : Int32) &&& 31).toUInt32).toInt32)), .val (.int (((((31 : Int32) + (-16 : Int32)) + (-8 : Int32)) + (-4 : Int32)) + (-2 : Int32)))] [(.int ((((((p0.toUInt32 >>> ((16 : Int32) &&& 31).toUInt32).toInt32).toUInt32 >>> ((8 : Int32) &&& 31).toUInt32).toInt32).toUInt32 >>> ((4 : Int32) &&& 31).toUInt32).toInt32))])) _
              refine XS.iconst X0.here hx rfl (hb hby d4_70) ?_
              show Steps p.tables e below (s₁.setTop (mkF m 71 #[.val (.int ((((((p0.toUInt32 >>> ((16 : Int32) &&& 31).toUInt32).toInt32).toUInt32 >>> ((8 : Int32) &&& 31).toUInt32).toInt32).toUInt32 >>> ((4 : Int32) &&& 31).toUInt32).toInt32)), .val (.int (((((31 : Int32) + (-16 : Int32)) + (-8 : Int32)) + (-4 : Int32)) + (-2 : Int32)))] [(.int (2 : Int32)), (.int ((((((p0.toUInt32 >>> ((16 : Int32) &&& 31).toUInt32).toInt32).toUInt32 >>> ((8 : Int32) &&& 31).toUInt32).toInt32).toUInt32 >>> ((4 : Int32) &&& 31).toUInt32).toInt32))])) _
              refine XS.iushr X0.here hx rfl (hb hby d4_71) rfl ?_
              show Steps p.tables e below (s₁.setTop (mkF m 72 #[.val (.int ((((((p0.toUInt32 >>> ((16 : Int32) &&& 31).toUInt32).toInt32).toUInt32 >>> ((8 : Int32) &&& 31).toUInt32).toInt32).toUInt32 >>> ((4 : Int32) &&& 31).toUInt32).toInt32)), .val (.int (((((31 : Int32) + (-16 : Int32)) + (-8 : Int32)) + (-4 : Int32)) + (-2 : Int32)))] [(.int ((((((((p0.toUInt32 >>> ((16 : Int32) &&& 31).toUInt32).toInt32).toUInt32 >>> ((8 : Int32) &&& 31).toUInt32).toInt32).toUInt32 >>> ((4 : Int32) &&& 31).toUInt32).toInt32).toUInt32 >>> ((2 : Int32) &&& 31).toUInt32).toInt32))])) _
              refine XS.istoreN X0.here hx rfl (hb hby d4_72) rfl (l' := #[.val (.int ((((((((p0.toUInt32 >>> ((16 : Int32) &&& 31).toUInt32).toInt32).toUInt32 >>> ((8 : Int32) &&& 31).toUInt32).toInt32).toUInt32 >>> ((4 : Int32) &&& 31).toUInt32).toInt32).toUInt32 >>> ((2 : Int32) &&& 31).toUInt32).toInt32)), .val (.int (((((31 : Int32) + (-16 : Int32)) + (-8 : Int32)) + (-4 : Int32)) + (-2 : Int32)))]) rfl ?_
              show Steps p.tables e below (s₁.setTop (mkF m 73 #[.val (.int ((((((((p0.toUInt32 >>> ((16 : Int32) &&& 31).toUInt32).toInt32).toUInt32 >>> ((8 : Int32) &&& 31).toUInt32).toInt32).toUInt32 >>> ((4 : Int32) &&& 31).toUInt32).toInt32).toUInt32 >>> ((2 : Int32) &&& 31).toUInt32).toInt32)), .val (.int (((((31 : Int32) + (-16 : Int32)) + (-8 : Int32)) + (-4 : Int32)) + (-2 : Int32)))] [])) _
              refine XS.iloadN X0.here hx rfl (hb hby d4_73) rfl ?_
              show Steps p.tables e below (s₁.setTop (mkF m 74 #[.val (.int ((((((((p0.toUInt32 >>> ((16 : Int32) &&& 31).toUInt32).toInt32).toUInt32 >>> ((8 : Int32) &&& 31).toUInt32).toInt32).toUInt32 >>> ((4 : Int32) &&& 31).toUInt32).toInt32).toUInt32 >>> ((2 : Int32) &&& 31).toUInt32).toInt32)), .val (.int (((((31 : Int32) + (-16 : Int32)) + (-8 : Int32)) + (-4 : Int32)) + (-2 : Int32)))] [(.int (((((31 : Int32) + (-16 : Int32)) + (-8 : Int32)) + (-4 : Int32)) + (-2 : Int32)))])) _
              refine XS.iloadN X0.here hx rfl (hb hby d4_74) rfl ?_
              show Steps p.tables e below (s₁.setTop (mkF m 75 #[.val (.int ((((((((p0.toUInt32 >>> ((16 : Int32) &&& 31).toUInt32).toInt32).toUInt32 >>> ((8 : Int32) &&& 31).toUInt32).toInt32).toUInt32 >>> ((4 : Int32) &&& 31).toUInt32).toInt32).toUInt32 >>> ((2 : Int32) &&& 31).toUInt32).toInt32)), .val (.int (((((31 : Int32) + (-16 : Int32)) + (-8 : Int32)) + (-4 : Int32)) + (-2 : Int32)))] [(.int ((((((((p0.toUInt32 >>> ((16 : Int32) &&& 31).toUInt32).toInt32).toUInt32 >>> ((8 : Int32) &&& 31).toUInt32).toInt32).toUInt32 >>> ((4 : Int32) &&& 31).toUInt32).toInt32).toUInt32 >>> ((2 : Int32) &&& 31).toUInt32).toInt32)), (.int (((((31 : Int32) + (-16 : Int32)) + (-8 : Int32)) + (-4 : Int32)) + (-2 : Int32)))])) _
              refine XS.iconst X0.here hx rfl (hb hby d4_75) ?_
              show Steps p.tables e below (s₁.setTop (mkF m 76 #[.val (.int ((((((((p0.toUInt32 >>> ((16 : Int32) &&& 31).toUInt32).toInt32).toUInt32 >>> ((8 : Int32) &&& 31).toUInt32).toInt32).toUInt32 >>> ((4 : Int32) &&& 31).toUInt32).toInt32).toUInt32 >>> ((2 : Int32) &&& 31).toUInt32).toInt32)), .val (.int (((((31 : Int32) + (-16 : Int32)) + (-8 : Int32)) + (-4 : Int32)) + (-2 : Int32)))] [(.int (1 : Int32)), (.int ((((((((p0.toUInt32 >>> ((16 : Int32) &&& 31).toUInt32).toInt32).toUInt32 >>> ((8 : Int32) &&& 31).toUInt32).toInt32).toUInt32 >>> ((4 : Int32) &&& 31).toUInt32).toInt32).toUInt32 >>> ((2 : Int32) &&& 31).toUInt32).toInt32)), (.int (((((31 : Int32) + (-16 : Int32)) + (-8 : Int32)) + (-4 : Int32)) + (-2 : Int32)))])) _
              refine XS.iushr X0.here hx rfl (hb hby d4_76) rfl ?_
              show Steps p.tables e below (s₁.setTop (mkF m 77 #[.val (.int ((((((((p0.toUInt32 >>> ((16 : Int32) &&& 31).toUInt32).toInt32).toUInt32 >>> ((8 : Int32) &&& 31).toUInt32).toInt32).toUInt32 >>> ((4 : Int32) &&& 31).toUInt32).toInt32).toUInt32 >>> ((2 : Int32) &&& 31).toUInt32).toInt32)), .val (.int (((((31 : Int32) + (-16 : Int32)) + (-8 : Int32)) + (-4 : Int32)) + (-2 : Int32)))] [(.int ((((((((((p0.toUInt32 >>> ((16 : Int32) &&& 31).toUInt32).toInt32).toUInt32 >>> ((8 : Int32) &&& 31).toUInt32).toInt32).toUInt32 >>> ((4 : Int32) &&& 31).toUInt32).toInt32).toUInt32 >>> ((2 : Int32) &&& 31).toUInt32).toInt32).toUInt32 >>> ((1 : Int32) &&& 31).toUInt32).toInt32)), (.int (((((31 : Int32) + (-16 : Int32)) + (-8 : Int32)) + (-4 : Int32)) + (-2 : Int32)))])) _
              refine XS.isub X0.here hx rfl (hb hby d4_77) rfl ?_
              show Steps p.tables e below (s₁.setTop (mkF m 78 #[.val (.int ((((((((p0.toUInt32 >>> ((16 : Int32) &&& 31).toUInt32).toInt32).toUInt32 >>> ((8 : Int32) &&& 31).toUInt32).toInt32).toUInt32 >>> ((4 : Int32) &&& 31).toUInt32).toInt32).toUInt32 >>> ((2 : Int32) &&& 31).toUInt32).toInt32)), .val (.int (((((31 : Int32) + (-16 : Int32)) + (-8 : Int32)) + (-4 : Int32)) + (-2 : Int32)))] [(.int ((((((31 : Int32) + (-16 : Int32)) + (-8 : Int32)) + (-4 : Int32)) + (-2 : Int32)) - ((((((((((p0.toUInt32 >>> ((16 : Int32) &&& 31).toUInt32).toInt32).toUInt32 >>> ((8 : Int32) &&& 31).toUInt32).toInt32).toUInt32 >>> ((4 : Int32) &&& 31).toUInt32).toInt32).toUInt32 >>> ((2 : Int32) &&& 31).toUInt32).toInt32).toUInt32 >>> ((1 : Int32) &&& 31).toUInt32).toInt32)))])) _
              exact retI X0 hx Bd.returns (hb hby d4_78) hr
            · show Q4 Z p0 h0 n0 _ s₁.heap _
              rw [e0]
              exact ⟨by rw [f4, if_pos hc1_2, if_neg hc22_4, if_neg hc37_20, if_neg hc51_28, if_neg hc63_32], N0, rfl⟩
  · skip
    have G33 : ∀ t, Steps p.tables e below (s₁.setTop (mkF m 5 #[.val (.int p0), .unset] [(.int p0)])) t → Steps p.tables e below (s₁.setTop (entryFrame m #[(.int p0)] 2)) t := by
      intro t kt
      refine G1 _ ?_
      show Steps p.tables e below (s₁.setTop (mkF m 1 #[.val (.int p0), .unset] [(.int p0)])) _
      refine XS.ifNo X0.here hx rfl (hb hby d4_1) rfl ((if0 _ _).trans (flt hc1_2).2.2.1) ?_
      show Steps p.tables e below (s₁.setTop (mkF m 4 #[.val (.int p0), .unset] [])) _
      refine XS.iloadN X0.here hx rfl (hb hby d4_4) rfl ?_
      exact kt
    by_cases hc5_34 : p0 = (0 : Int32)
    · skip
      obtain ⟨fs, hr, hrun, hended, hW, hsame⟩ := X0.leave (v := some (.int (32 : Int32))) (fun h => by rw [Bd.returns] at h; cases h)
      refine ⟨_, _, G33 _ ?_, hrun, hended, _, _, rfl, ?_, ⟨_, rfl⟩, hW, hsame.mono (by decide) (by decide)⟩
      · skip
        show Steps p.tables e below (s₁.setTop (mkF m 5 #[.val (.int p0), .unset] [(.int p0)])) _
        refine XS.ifNo X0.here hx rfl (hb hby d4_5) rfl ((if0 _ _).trans (teq hc5_34).2) ?_
        show Steps p.tables e below (s₁.setTop (mkF m 8 #[.val (.int p0), .unset] [])) _
        refine XS.bipush X0.here hx rfl (hb hby d4_8) ?_
        show Steps p.tables e below (s₁.setTop (mkF m 10 #[.val (.int p0), .unset] [(.int (32 : Int32))])) _
        refine XS.goto X0.here hx rfl (pc0 := 10) (pc' := 14) rfl (hb hby d4_10) (by decide) (by decide) ?_
        show Steps p.tables e below (s₁.setTop (mkF m 14 #[.val (.int p0), .unset] [(.int (32 : Int32))])) _
        exact retI X0 hx Bd.returns (hb hby d4_14) hr
      · show Q4 Z p0 h0 n0 _ s₁.heap _
        rw [e0]
        exact ⟨by rw [f4, if_neg hc1_2, if_pos hc5_34], N0, rfl⟩
    · skip
      obtain ⟨fs, hr, hrun, hended, hW, hsame⟩ := X0.leave (v := some (.int (0 : Int32))) (fun h => by rw [Bd.returns] at h; cases h)
      refine ⟨_, _, G33 _ ?_, hrun, hended, _, _, rfl, ?_, ⟨_, rfl⟩, hW, hsame.mono (by decide) (by decide)⟩
      · skip
        show Steps p.tables e below (s₁.setTop (mkF m 5 #[.val (.int p0), .unset] [(.int p0)])) _
        refine XS.ifYes X0.here hx rfl (pc0 := 5) (pc' := 13) rfl (hb hby d4_5) rfl ((if0 _ _).trans (feq hc5_34).2) (by decide) (by decide) ?_
        show Steps p.tables e below (s₁.setTop (mkF m 13 #[.val (.int p0), .unset] [])) _
        refine XS.iconst X0.here hx rfl (hb hby d4_13) ?_
        show Steps p.tables e below (s₁.setTop (mkF m 14 #[.val (.int p0), .unset] [(.int (0 : Int32))])) _
        exact retI X0 hx Bd.returns (hb hby d4_14) hr
      · show Q4 Z p0 h0 n0 _ s₁.heap _
        rw [e0]
        exact ⟨by rw [f4, if_neg hc1_2, if_neg hc5_34], N0, rfl⟩
theorem d5_0 : decode method_2_code 0 = .ok (.iload_n 0, 1) := by decide +kernel
theorem d5_1 : decode method_2_code 1 = .ok (.iconst 1, 1) := by decide +kernel
theorem d5_2 : decode method_2_code 2 = .ok (.isub, 1) := by decide +kernel
theorem d5_3 : decode method_2_code 3 = .ok (.istore_n 1, 1) := by decide +kernel
theorem d5_4 : decode method_2_code 4 = .ok (.iconst 0, 1) := by decide +kernel
theorem d5_5 : decode method_2_code 5 = .ok (.istore_n 2, 1) := by decide +kernel
theorem d5_6 : decode method_2_code 6 = .ok (.iload_n 1, 1) := by decide +kernel
theorem d5_7 : decode method_2_code 7 = .ok (.ldc 7, 2) := by decide +kernel
theorem d5_9 : decode method_2_code 9 = .ok (.if_icmp .lt 11, 3) := by decide +kernel
theorem d5_20 : decode method_2_code 20 = .ok (.iload_n 1, 1) := by decide +kernel
theorem d5_21 : decode method_2_code 21 = .ok (.sipush 256, 3) := by decide +kernel
theorem d5_24 : decode method_2_code 24 = .ok (.if_icmp .lt 11, 3) := by decide +kernel
theorem d5_35 : decode method_2_code 35 = .ok (.iload_n 1, 1) := by decide +kernel
theorem d5_36 : decode method_2_code 36 = .ok (.bipush 16, 2) := by decide +kernel
theorem d5_38 : decode method_2_code 38 = .ok (.if_icmp .lt 10, 3) := by decide +kernel
theorem d5_48 : decode method_2_code 48 = .ok (.iload_n 1, 1) := by decide +kernel
theorem d5_49 : decode method_2_code 49 = .ok (.iconst 4, 1) := by decide +kernel
theorem d5_50 : decode method_2_code 50 = .ok (.if_icmp .lt 10, 3) := by decide +kernel
theorem d5_60 : decode method_2_code 60 = .ok (.iload_n 1, 1) := by decide +kernel
theorem d5_61 : decode method_2_code 61 = .ok (.iconst 2, 1) := by decide +kernel
theorem d5_62 : decode method_2_code 62 = .ok (.if_icmp .lt 10, 3) := by decide +kernel
theorem d5_72 : decode method_2_code 72 = .ok (.iload_n 1, 1) := by decide +kernel
theorem d5_73 : decode method_2_code 73 = .ok (.iconst 1, 1) := by decide +kernel
theorem d5_74 : decode method_2_code 74 = .ok (.if_icmp .lt 6, 3) := by decide +kernel
theorem d5_80 : decode method_2_code 80 = .ok (.iload_n 2, 1) := by decide +kernel
theorem d5_81 : decode method_2_code 81 = .ok (.ireturn, 1) := by decide +kernel
theorem d5_77 : decode method_2_code 77 = .ok (.iinc 2 1, 3) := by decide +kernel
theorem d5_65 : decode method_2_code 65 = .ok (.iinc 2 1, 3) := by decide +kernel
theorem d5_68 : decode method_2_code 68 = .ok (.iload_n 1, 1) := by decide +kernel
theorem d5_69 : decode method_2_code 69 = .ok (.iconst 1, 1) := by decide +kernel
theorem d5_70 : decode method_2_code 70 = .ok (.iushr, 1) := by decide +kernel
theorem d5_71 : decode method_2_code 71 = .ok (.istore_n 1, 1) := by decide +kernel
theorem d5_53 : decode method_2_code 53 = .ok (.iinc 2 2, 3) := by decide +kernel
theorem d5_56 : decode method_2_code 56 = .ok (.iload_n 1, 1) := by decide +kernel
theorem d5_57 : decode method_2_code 57 = .ok (.iconst 2, 1) := by decide +kernel
theorem d5_58 : decode method_2_code 58 = .ok (.iushr, 1) := by decide +kernel
theorem d5_59 : decode method_2_code 59 = .ok (.istore_n 1, 1) := by decide +kernel
theorem d5_41 : decode method_2_code 41 = .ok (.iinc 2 4, 3) := by decide +kernel
theorem d5_44 : decode method_2_code 44 = .ok (.iload_n 1, 1) := by decide +kernel
theorem d5_45 : decode method_2_code 45 = .ok (.iconst 4, 1) := by decide +kernel
theorem d5_46 : decode method_2_code 46 = .ok (.iushr, 1) := by decide +kernel
theorem d5_47 : decode method_2_code 47 = .ok (.istore_n 1, 1) := by decide +kernel
theorem d5_27 : decode method_2_code 27 = .ok (.iinc 2 8, 3) := by decide +kernel
theorem d5_30 : decode method_2_code 30 = .ok (.iload_n 1, 1) := by decide +kernel
theorem d5_31 : decode method_2_code 31 = .ok (.bipush 8, 2) := by decide +kernel
theorem d5_33 : decode method_2_code 33 = .ok (.iushr, 1) := by decide +kernel
theorem d5_34 : decode method_2_code 34 = .ok (.istore_n 1, 1) := by decide +kernel
theorem d5_12 : decode method_2_code 12 = .ok (.iinc 2 16, 3) := by decide +kernel
theorem d5_15 : decode method_2_code 15 = .ok (.iload_n 1, 1) := by decide +kernel
theorem d5_16 : decode method_2_code 16 = .ok (.bipush 16, 2) := by decide +kernel
theorem d5_18 : decode method_2_code 18 = .ok (.iushr, 1) := by decide +kernel
theorem d5_19 : decode method_2_code 19 = .ok (.istore_n 1, 1) := by decide +kernel
def f5 (p0 : Int32) : Int32 := if (p0 - (1 : Int32)) < (65536 : Int32) then (if (p0 - (1 : Int32)) < (256 : Int32) then (if (p0 - (1 : Int32)) < (16 : Int32) then (if (p0 - (1 : Int32)) < (4 : Int32) then (if (p0 - (1 : Int32)) < (2 : Int32) then (if (p0 - (1 : Int32)) < (1 : Int32) then ((0 : Int32)) else (((0 : Int32) + (1 : Int32)))) else (if (((p0 - (1 : Int32)).toUInt32 >>> ((1 : Int32) &&& 31).toUInt32).toInt32) < (1 : Int32) then (((0 : Int32) + (1 : Int32))) else ((((0 : Int32) + (1 : Int32)) + (1 : Int32))))) else (if (((p0 - (1 : Int32)).toUInt32 >>> ((2 : Int32) &&& 31).toUInt32).toInt32) < (2 : Int32) then (if (((p0 - (1 : Int32)).toUInt32 >>> ((2 : Int32) &&& 31).toUInt32).toInt32) < (1 : Int32) then (((0 : Int32) + (2 : Int32))) else ((((0 : Int32) + (2 : Int32)) + (1 : Int32)))) else (if (((((p0 - (1 : Int32)).toUInt32 >>> ((2 : Int32) &&& 31).toUInt32).toInt32).toUInt32 >>> ((1 : Int32) &&& 31).toUInt32).toInt32) < (1 : Int32) then ((((0 : Int32) + (2 : Int32)) + (1 : Int32))) else (((((0 : Int32) + (2 : Int32)) + (1 : Int32)) + (1 : Int32)))))) else (if (((p0 - (1 : Int32)).toUInt32 >>> ((4 : Int32) &&& 31).toUInt32).toInt32) < (4 : Int32) then (if (((p0 - (1 : Int32)).toUInt32 >>> ((4 : Int32) &&& 31).toUInt32).toInt32) < (2 : Int32) then (if (((p0 - (1 : Int32)).toUInt32 >>> ((4 : Int32) &&& 31).toUInt32).toInt32) < (1 : Int32) then (((0 : Int32) + (4 : Int32))) else ((((0 : Int32) + (4 : Int32)) + (1 : Int32)))) else (if (((((p0 - (1 : Int32)).toUInt32 >>> ((4 : Int32) &&& 31).toUInt32).toInt32).toUInt32 >>> ((1 : Int32) &&& 31).toUInt32).toInt32) < (1 : Int32) then ((((0 : Int32) + (4 : Int32)) + (1 : Int32))) else (((((0 : Int32) + (4 : Int32)) + (1 : Int32)) + (1 : Int32))))) else (if (((((p0 - (1 : Int32)).toUInt32 >>> ((4 : Int32) &&& 31).toUInt32).toInt32).toUInt32 >>> ((2 : Int32) &&& 31).toUInt32).toInt32) < (2 : Int32) then (if (((((p0 - (1 : Int32)).toUInt32 >>> ((4 : Int32) &&& 31).toUInt32).toInt32).toUInt32 >>> ((2 : Int32) &&& 31).toUInt32).toInt32) < (1 : Int32) then ((((0 : Int32) + (4 : Int32)) + (2 : Int32))) else (((((0 : Int32) + (4 : Int32)) + (2 : Int32)) + (1 : Int32)))) else (if (((((((p0 - (1 : Int32)).toUInt32 >>> ((4 : Int32) &&& 31).toUInt32).toInt32).toUInt32 >>> ((2 : Int32) &&& 31).toUInt32).toInt32).toUInt32 >>> ((1 : Int32) &&& 31).toUInt32).toInt32) < (1 : Int32) then (((((0 : Int32) + (4 : Int32)) + (2 : Int32)) + (1 : Int32))) else ((((((0 : Int32) + (4 : Int32)) + (2 : Int32)) + (1 : Int32)) + (1 : Int32))))))) else (if (((p0 - (1 : Int32)).toUInt32 >>> ((8 : Int32) &&& 31).toUInt32).toInt32) < (16 : Int32) then (if (((p0 - (1 : Int32)).toUInt32 >>> ((8 : Int32) &&& 31).toUInt32).toInt32) < (4 : Int32) then (if (((p0 - (1 : Int32)).toUInt32 >>> ((8 : Int32) &&& 31).toUInt32).toInt32) < (2 : Int32) then (if (((p0 - (1 : Int32)).toUInt32 >>> ((8 : Int32) &&& 31).toUInt32).toInt32) < (1 : Int32) then (((0 : Int32) + (8 : Int32))) else ((((0 : Int32) + (8 : Int32)) + (1 : Int32)))) else (if (((((p0 - (1 : Int32)).toUInt32 >>> ((8 : Int32) &&& 31).toUInt32).toInt32).toUInt32 >>> ((1 : Int32) &&& 31).toUInt32).toInt32) < (1 : Int32) then ((((0 : Int32) + (8 : Int32)) + (1 : Int32))) else (((((0 : Int32) + (8 : Int32)) + (1 : Int32)) + (1 : Int32))))) else (if (((((p0 - (1 : Int32)).toUInt32 >>> ((8 : Int32) &&& 31).toUInt32).toInt32).toUInt32 >>> ((2 : Int32) &&& 31).toUInt32).toInt32) < (2 : Int32) then (if (((((p0 - (1 : Int32)).toUInt32 >>> ((8 : Int32) &&& 31).toUInt32).toInt32).toUInt32 >>> ((2 : Int32) &&& 31).toUInt32).toInt32) < (1 : Int32) then ((((0 : Int32) + (8 : Int32)) + (2 : Int32))) else (((((0 : Int32) + (8 : Int32)) + (2 : Int32)) + (1 : Int32)))) else (if (((((((p0 - (1 : Int32)).toUInt32 >>> ((8 : Int32) &&& 31).toUInt32).toInt32).toUInt32 >>> ((2 : Int32) &&& 31).toUInt32).toInt32).toUInt32 >>> ((1 : Int32) &&& 31).toUInt32).toInt32) < (1 : Int32) then (((((0 : Int32) + (8 : Int32)) + (2 : Int32)) + (1 : Int32))) else ((((((0 : Int32) + (8 : Int32)) + (2 : Int32)) + (1 : Int32)) + (1 : Int32)))))) else (if (((((p0 - (1 : Int32)).toUInt32 >>> ((8 : Int32) &&& 31).toUInt32).toInt32).toUInt32 >>> ((4 : Int32) &&& 31).toUInt32).toInt32) < (4 : Int32) then (if (((((p0 - (1 : Int32)).toUInt32 >>> ((8 : Int32) &&& 31).toUInt32).toInt32).toUInt32 >>> ((4 : Int32) &&& 31).toUInt32).toInt32) < (2 : Int32) then (if (((((p0 - (1 : Int32)).toUInt32 >>> ((8 : Int32) &&& 31).toUInt32).toInt32).toUInt32 >>> ((4 : Int32) &&& 31).toUInt32).toInt32) < (1 : Int32) then ((((0 : Int32) + (8 : Int32)) + (4 : Int32))) else (((((0 : Int32) + (8 : Int32)) + (4 : Int32)) + (1 : Int32)))) else (if (((((((p0 - (1 : Int32)).toUInt32 >>> ((8 : Int32) &&& 31).toUInt32).toInt32).toUInt32 >>> ((4 : Int32) &&& 31).toUInt32).toInt32).toUInt32 >>> ((1 : Int32) &&& 31).toUInt32).toInt32) < (1 : Int32) then (((((0 : Int32) + (8 : Int32)) + (4 : Int32)) + (1 : Int32))) else ((((((0 : Int32) + (8 : Int32)) + (4 : Int32)) + (1 : Int32)) + (1 : Int32))))) else (if (((((((p0 - (1 : Int32)).toUInt32 >>> ((8 : Int32) &&& 31).toUInt32).toInt32).toUInt32 >>> ((4 : Int32) &&& 31).toUInt32).toInt32).toUInt32 >>> ((2 : Int32) &&& 31).toUInt32).toInt32) < (2 : Int32) then (if (((((((p0 - (1 : Int32)).toUInt32 >>> ((8 : Int32) &&& 31).toUInt32).toInt32).toUInt32 >>> ((4 : Int32) &&& 31).toUInt32).toInt32).toUInt32 >>> ((2 : Int32) &&& 31).toUInt32).toInt32) < (1 : Int32) then (((((0 : Int32) + (8 : Int32)) + (4 : Int32)) + (2 : Int32))) else ((((((0 : Int32) + (8 : Int32)) + (4 : Int32)) + (2 : Int32)) + (1 : Int32)))) else (if (((((((((p0 - (1 : Int32)).toUInt32 >>> ((8 : Int32) &&& 31).toUInt32).toInt32).toUInt32 >>> ((4 : Int32) &&& 31).toUInt32).toInt32).toUInt32 >>> ((2 : Int32) &&& 31).toUInt32).toInt32).toUInt32 >>> ((1 : Int32) &&& 31).toUInt32).toInt32) < (1 : Int32) then ((((((0 : Int32) + (8 : Int32)) + (4 : Int32)) + (2 : Int32)) + (1 : Int32))) else (((((((0 : Int32) + (8 : Int32)) + (4 : Int32)) + (2 : Int32)) + (1 : Int32)) + (1 : Int32)))))))) else (if (((p0 - (1 : Int32)).toUInt32 >>> ((16 : Int32) &&& 31).toUInt32).toInt32) < (256 : Int32) then (if (((p0 - (1 : Int32)).toUInt32 >>> ((16 : Int32) &&& 31).toUInt32).toInt32) < (16 : Int32) then (if (((p0 - (1 : Int32)).toUInt32 >>> ((16 : Int32) &&& 31).toUInt32).toInt32) < (4 : Int32) then (if (((p0 - (1 : Int32)).toUInt32 >>> ((16 : Int32) &&& 31).toUInt32).toInt32) < (2 : Int32) then (if (((p0 - (1 : Int32)).toUInt32 >>> ((16 : Int32) &&& 31).toUInt32).toInt32) < (1 : Int32) then (((0 : Int32) + (16 : Int32))) else ((((0 : Int32) + (16 : Int32)) + (1 : Int32)))) else (if (((((p0 - (1 : Int32)).toUInt32 >>> ((16 : Int32) &&& 31).toUInt32).toInt32).toUInt32 >>> ((1 : Int32) &&& 31).toUInt32).toInt32) < (1 : Int32) then ((((0 : Int32) + (16 : Int32)) + (1 : Int32))) else (((((0 : Int32) + (16 : Int32)) + (1 : Int32)) + (1 : Int32))))) else (if (((((p0 - (1 : Int32)).toUInt32 >>> ((16 : Int32) &&& 31).toUInt32).toInt32).toUInt32 >>> ((2 : Int32) &&& 31).toUInt32).toInt32) < (2 : Int32) then (if (((((p0 - (1 : Int32)).toUInt32 >>> ((16 : Int32) &&& 31).toUInt32).toInt32).toUInt32 >>> ((2 : Int32) &&& 31).toUInt32).toInt32) < (1 : Int32) then ((((0 : Int32) + (16 : Int32)) + (2 : Int32))) else (((((0 : Int32) + (16 : Int32)) + (2 : Int32)) + (1 : Int32)))) else (if (((((((p0 - (1 : Int32)).toUInt32 >>> ((16 : Int32) &&& 31).toUInt32).toInt32).toUInt32 >>> ((2 : Int32) &&& 31).toUInt32).toInt32).toUInt32 >>> ((1 : Int32) &&& 31).toUInt32).toInt32) < (1 : Int32) then (((((0 : Int32) + (16 : Int32)) + (2 : Int32)) + (1 : Int32))) else ((((((0 : Int32) + (16 : Int32)) + (2 : Int32)) + (1 : Int32)) + (1 : Int32)))))) else (if (((((p0 - (1 : Int32)).toUInt32 >>> ((16 : Int32) &&& 31).toUInt32).toInt32).toUInt32 >>> ((4 : Int32) &&& 31).toUInt32).toInt32) < (4 : Int32) then (if (((((p0 - (1 : Int32)).toUInt32 >>> ((16 : Int32) &&& 31).toUInt32).toInt32).toUInt32 >>> ((4 : Int32) &&& 31).toUInt32).toInt32) < (2 : Int32) then (if (((((p0 - (1 : Int32)).toUInt32 >>> ((16 : Int32) &&& 31).toUInt32).toInt32).toUInt32 >>> ((4 : Int32) &&& 31).toUInt32).toInt32) < (1 : Int32) then ((((0 : Int32) + (16 : Int32)) + (4 : Int32))) else (((((0 : Int32) + (16 : Int32)) + (4 : Int32)) + (1 : Int32)))) else (if (((((((p0 - (1 : Int32)).toUInt32 >>> ((16 : Int32) &&& 31).toUInt32).toInt32).toUInt32 >>> ((4 : Int32) &&& 31).toUInt32).toInt32).toUInt32 >>> ((1 : Int32) &&& 31).toUInt32).toInt32) < (1 : Int32) then (((((0 : Int32) + (16 : Int32)) + (4 : Int32)) + (1 : Int32))) else ((((((0 : Int32) + (16 : Int32)) + (4 : Int32)) + (1 : Int32)) + (1 : Int32))))) else (if (((((((p0 - (1 : Int32)).toUInt32 >>> ((16 : Int32) &&& 31).toUInt32).toInt32).toUInt32 >>> ((4 : Int32) &&& 31).toUInt32).toInt32).toUInt32 >>> ((2 : Int32) &&& 31).toUInt32).toInt32) < (2 : Int32) then (if (((((((p0 - (1 : Int32)).toUInt32 >>> ((16 : Int32) &&& 31).toUInt32).toInt32).toUInt32 >>> ((4 : Int32) &&& 31).toUInt32).toInt32).toUInt32 >>> ((2 : Int32) &&& 31).toUInt32).toInt32) < (1 : Int32) then (((((0 : Int32) + (16 : Int32)) + (4 : Int32)) + (2 : Int32))) else ((((((0 : Int32) + (16 : Int32)) + (4 : Int32)) + (2 : Int32)) + (1 : Int32)))) else (if (((((((((p0 - (1 : Int32)).toUInt32 >>> ((16 : Int32) &&& 31).toUInt32).toInt32).toUInt32 >>> ((4 : Int32) &&& 31).toUInt32).toInt32).toUInt32 >>> ((2 : Int32) &&& 31).toUInt32).toInt32).toUInt32 >>> ((1 : Int32) &&& 31).toUInt32).toInt32) < (1 : Int32) then ((((((0 : Int32) + (16 : Int32)) + (4 : Int32)) + (2 : Int32)) + (1 : Int32))) else (((((((0 : Int32) + (16 : Int32)) + (4 : Int32)) + (2 : Int32)) + (1 : Int32)) + (1 : Int32))))))) else (if (((((p0 - (1 : Int32)).toUInt32 >>> ((16 : Int32) &&& 31).toUInt32).toInt32).toUInt32 >>> ((8 : Int32) &&& 31).toUInt32).toInt32) < (16 : Int32) then (if (((((p0 - (1 : Int32)).toUInt32 >>> ((16 : Int32) &&& 31).toUInt32).toInt32).toUInt32 >>> ((8 : Int32) &&& 31).toUInt32).toInt32) < (4 : Int32) then (if (((((p0 - (1 : Int32)).toUInt32 >>> ((16 : Int32) &&& 31).toUInt32).toInt32).toUInt32 >>> ((8 : Int32) &&& 31).toUInt32).toInt32) < (2 : Int32) then (if (((((p0 - (1 : Int32)).toUInt32 >>> ((16 : Int32) &&& 31).toUInt32).toInt32).toUInt32 >>> ((8 : Int32) &&& 31).toUInt32).toInt32) < (1 : Int32) then ((((0 : Int32) + (16 : Int32)) + (8 : Int32))) else (((((0 : Int32) + (16 : Int32)) + (8 : Int32)) + (1 : Int32)))) else (if (((((((p0 - (1 : Int32)).toUInt32 >>> ((16 : Int32) &&& 31).toUInt32).toInt32).toUInt32 >>> ((8 : Int32) &&& 31).toUInt32).toInt32).toUInt32 >>> ((1 : Int32) &&& 31).toUInt32).toInt32) < (1 : Int32) then (((((0 : Int32) + (16 : Int32)) + (8 : Int32)) + (1 : Int32))) else ((((((0 : Int32) + (16 : Int32)) + (8 : Int32)) + (1 : Int32)) + (1 : Int32))))) else (if (((((((p0 - (1 : Int32)).toUInt32 >>> ((16 : Int32) &&& 31).toUInt32).toInt32).toUInt32 >>> ((8 : Int32) &&& 31).toUInt32).toInt32).toUInt32 >>> ((2 : Int32) &&& 31).toUInt32).toInt32) < (2 : Int32) then (if (((((((p0 - (1 : Int32)).toUInt32 >>> ((16 : Int32) &&& 31).toUInt32).toInt32).toUInt32 >>> ((8 : Int32) &&& 31).toUInt32).toInt32).toUInt32 >>> ((2 : Int32) &&& 31).toUInt32).toInt32) < (1 : Int32) then (((((0 : Int32) + (16 : Int32)) + (8 : Int32)) + (2 : Int32))) else ((((((0 : Int32) + (16 : Int32)) + (8 : Int32)) + (2 : Int32)) + (1 : Int32)))) else (if (((((((((p0 - (1 : Int32)).toUInt32 >>> ((16 : Int32) &&& 31).toUInt32).toInt32).toUInt32 >>> ((8 : Int32) &&& 31).toUInt32).toInt32).toUInt32 >>> ((2 : Int32) &&& 31).toUInt32).toInt32).toUInt32 >>> ((1 : Int32) &&& 31).toUInt32).toInt32) < (1 : Int32) then ((((((0 : Int32) + (16 : Int32)) + (8 : Int32)) + (2 : Int32)) + (1 : Int32))) else (((((((0 : Int32) + (16 : Int32)) + (8 : Int32)) + (2 : Int32)) + (1 : Int32)) + (1 : Int32)))))) else (if (((((((p0 - (1 : Int32)).toUInt32 >>> ((16 : Int32) &&& 31).toUInt32).toInt32).toUInt32 >>> ((8 : Int32) &&& 31).toUInt32).toInt32).toUInt32 >>> ((4 : Int32) &&& 31).toUInt32).toInt32) < (4 : Int32) then (if (((((((p0 - (1 : Int32)).toUInt32 >>> ((16 : Int32) &&& 31).toUInt32).toInt32).toUInt32 >>> ((8 : Int32) &&& 31).toUInt32).toInt32).toUInt32 >>> ((4 : Int32) &&& 31).toUInt32).toInt32) < (2 : Int32) then (if (((((((p0 - (1 : Int32)).toUInt32 >>> ((16 : Int32) &&& 31).toUInt32).toInt32).toUInt32 >>> ((8 : Int32) &&& 31).toUInt32).toInt32).toUInt32 >>> ((4 : Int32) &&& 31).toUInt32).toInt32) < (1 : Int32) then (((((0 : Int32) + (16 : Int32)) + (8 : Int32)) + (4 : Int32))) else ((((((0 : Int32) + (16 : Int32)) + (8 : Int32)) + (4 : Int32)) + (1 : Int32)))) else (if (((((((((p0 - (1 : Int32)).toUInt32 >>> ((16 : Int32) &&& 31).toUInt32).toInt32).toUInt32 >>> ((8 : Int32) &&& 31).toUInt32).toInt32).toUInt32 >>> ((4 : Int32) &&& 31).toUInt32).toInt32).toUInt32 >>> ((1 : Int32) &&& 31).toUInt32).toInt32) < (1 : Int32) then ((((((0 : Int32) + (16 : Int32)) + (8 : Int32)) + (4 : Int32)) + (1 : Int32))) else (((((((0 : Int32) + (16 : Int32)) + (8 : Int32)) + (4 : Int32)) + (1 : Int32)) + (1 : Int32))))) else (if (((((((((p0 - (1 : Int32)).toUInt32 >>> ((16 : Int32) &&& 31).toUInt32).toInt32).toUInt32 >>> ((8 : Int32) &&& 31).toUInt32).toInt32).toUInt32 >>> ((4 : Int32) &&& 31).toUInt32).toInt32).toUInt32 >>> ((2 : Int32) &&& 31).toUInt32).toInt32) < (2 : Int32) then (if (((((((((p0 - (1 : Int32)).toUInt32 >>> ((16 : Int32) &&& 31).toUInt32).toInt32).toUInt32 >>> ((8 : Int32) &&& 31).toUInt32).toInt32).toUInt32 >>> ((4 : Int32) &&& 31).toUInt32).toInt32).toUInt32 >>> ((2 : Int32) &&& 31).toUInt32).toInt32) < (1 : Int32) then ((((((0 : Int32) + (16 : Int32)) + (8 : Int32)) + (4 : Int32)) + (2 : Int32))) else (((((((0 : Int32) + (16 : Int32)) + (8 : Int32)) + (4 : Int32)) + (2 : Int32)) + (1 : Int32)))) else (if (((((((((((p0 - (1 : Int32)).toUInt32 >>> ((16 : Int32) &&& 31).toUInt32).toInt32).toUInt32 >>> ((8 : Int32) &&& 31).toUInt32).toInt32).toUInt32 >>> ((4 : Int32) &&& 31).toUInt32).toInt32).toUInt32 >>> ((2 : Int32) &&& 31).toUInt32).toInt32).toUInt32 >>> ((1 : Int32) &&& 31).toUInt32).toInt32) < (1 : Int32) then (((((((0 : Int32) + (16 : Int32)) + (8 : Int32)) + (4 : Int32)) + (2 : Int32)) + (1 : Int32))) else ((((((((0 : Int32) + (16 : Int32)) + (8 : Int32)) + (4 : Int32)) + (2 : Int32)) + (1 : Int32)) + (1 : Int32))))))))
def Q5 (Z : State) (p0 : Int32) (h0 : Heap) (n0 : Nat) (v : Option Value) (h : Heap) (L : List Loc) : Prop := v = some (.int (f5 p0)) ∧ Fr n0 L ∧ h = h0
theorem ef_rm5 (m : MethodId) (x0 : Int32) : entryFrame m #[(.int x0)] 3 = mkF m 0 #[.val (.int x0), .unset, .unset] [] := by first | (simp [entryFrame, mkF, argsToLocals, Value.category]; done) | rfl
theorem pnc_com_example_moffett_moffett_requests_PackedIndexesHeapBytesPinLaw : plainName "com/example/moffett/moffett/requests/PackedIndexesHeapBytesPinLaw" = true := by first | (simp [plainName, overriddenIn]; done) | decide +kernel
set_option maxRecDepth 65536 in
set_option maxHeartbeats 40000000 in
theorem rm5 (l : Launch) (Z : State) (a0 : Array Value) (hw : ∀ d ∈ tables_1, d.before a0 Z = true) (ws : List Jvm.Cond) (p0 : Int32) (h0 : Heap) (n0 : Nat) (Z0 : n0 ≤ h0.size) :
    MetFree l (⟨"com/example/moffett/moffett/requests/PackedIndexesHeapBytesPinLaw", "bitsFor", "(I)I"⟩ : MethodName) (head1 (Jvm.Cond.code (⟨"com/example/moffett/moffett/requests/PackedIndexesHeapBytesPinLaw", "bitsFor", "(I)I"⟩ : MethodName) method_2_code 3 (some .int) :: ws) ({ frames := 0, cells := 0, slots := 0, locals := 0 } : Room)) (fun a U => a = #[(.int p0)] ∧ Z.Warmed39 U.vm ∧ U.heap = h0) (fun _ _ _ _ _ => True) (fun _ U o U' => ∃ v L, o = .returned v ∧ Q5 Z p0 h0 n0 v U'.heap L ∧ FrameEnd U o U' L ({ frames := 0, cells := 0, slots := 0, locals := 0 } : Room).cells ({ frames := 0, cells := 0, slots := 0, locals := 0 } : Room).slots) := by
  refine MetFree.of_bodySF (plainFor_of_name pnc_com_example_moffett_moffett_requests_PackedIndexesHeapBytesPinLaw) hisR ?_
  intro p e s m args below meth c s₁ Bd hml0 hP hK
  obtain ⟨rfl, hZ, hh⟩ := hP
  have hx := Bd.exec
  have hby := Bd.bytes
  have hml : c.maxLocals = 3 := hml0
  have hown : s.vm.findClass "com/example/moffett/moffett/requests/PackedIndexesHeapBytesPinLaw" = some m.cls := findClass_of_methodNamed Bd.named
  have hnm := (name_of_methodNamed Bd.named Bd.method).1
  have X0 : Stand p l e ({ frames := 0, cells := 0, slots := 0, locals := 0 } : Room) s m #[(.int p0)] below meth c s₁ [] 0 0 := Stand.of_body Bd
  have e0 : s₁.heap = h0 := by rw [← hh, Bd.state]; rfl
  have N0 := Fr.nil n0
  have kp0 : Keep h0 h0 [] := Keep.refl _ _
  have G0 : ∀ t, Steps p.tables e below (s₁.setTop (mkF m 0 #[.val (.int p0), .unset, .unset] [])) t → Steps p.tables e below (s₁.setTop (entryFrame m #[(.int p0)] 3)) t := fun t k => castTop (ef_rm5 m p0) k
  have G1 : ∀ t, Steps p.tables e below (s₁.setTop (mkF m 9 #[.val (.int p0), .val (.int (p0 - (1 : Int32))), .val (.int (0 : Int32))] [(.int (65536 : Int32)), (.int (p0 - (1 : Int32)))])) t → Steps p.tables e below (s₁.setTop (entryFrame m #[(.int p0)] 3)) t := by
    intro t kt
    refine G0 _ ?_
    show Steps p.tables e below (s₁.setTop (mkF m 0 #[.val (.int p0), .unset, .unset] [])) _
    refine XS.iloadN X0.here hx rfl (hb hby d5_0) rfl ?_
    show Steps p.tables e below (s₁.setTop (mkF m 1 #[.val (.int p0), .unset, .unset] [(.int p0)])) _
    refine XS.iconst X0.here hx rfl (hb hby d5_1) ?_
    show Steps p.tables e below (s₁.setTop (mkF m 2 #[.val (.int p0), .unset, .unset] [(.int (1 : Int32)), (.int p0)])) _
    refine XS.isub X0.here hx rfl (hb hby d5_2) rfl ?_
    show Steps p.tables e below (s₁.setTop (mkF m 3 #[.val (.int p0), .unset, .unset] [(.int (p0 - (1 : Int32)))])) _
    refine XS.istoreN X0.here hx rfl (hb hby d5_3) rfl (l' := #[.val (.int p0), .val (.int (p0 - (1 : Int32))), .unset]) rfl ?_
    show Steps p.tables e below (s₁.setTop (mkF m 4 #[.val (.int p0), .val (.int (p0 - (1 : Int32))), .unset] [])) _
    refine XS.iconst X0.here hx rfl (hb hby d5_4) ?_
    show Steps p.tables e below (s₁.setTop (mkF m 5 #[.val (.int p0), .val (.int (p0 - (1 : Int32))), .unset] [(.int (0 : Int32))])) _
    refine XS.istoreN X0.here hx rfl (hb hby d5_5) rfl (l' := #[.val (.int p0), .val (.int (p0 - (1 : Int32))), .val (.int (0 : Int32))]) rfl ?_
    show Steps p.tables e below (s₁.setTop (mkF m 6 #[.val (.int p0), .val (.int (p0 - (1 : Int32))), .val (.int (0 : Int32))] [])) _
    refine XS.iloadN X0.here hx rfl (hb hby d5_6) rfl ?_
    show Steps p.tables e below (s₁.setTop (mkF m 7 #[.val (.int p0), .val (.int (p0 - (1 : Int32))), .val (.int (0 : Int32))] [(.int (p0 - (1 : Int32)))])) _
    refine X0.ldcInt hx hown (mvT hZ (hw _ (List.mem_of_getElem? (i := 32) rfl))) (g := (mkF m 7 #[.val (.int p0), .val (.int (p0 - (1 : Int32))), .val (.int (0 : Int32))] [(.int (p0 - (1 : Int32)))])) rfl (hb hby d5_7) _ ?_
    exact kt
  by_cases hc9_2 : (p0 - (1 : Int32)) < (65536 : Int32)
  · skip
    have G3 : ∀ t, Steps p.tables e below (s₁.setTop (mkF m 24 #[.val (.int p0), .val (.int (p0 - (1 : Int32))), .val (.int (0 : Int32))] [(.int (256 : Int32)), (.int (p0 - (1 : Int32)))])) t → Steps p.tables e below (s₁.setTop (entryFrame m #[(.int p0)] 3)) t := by
      intro t kt
      refine G1 _ ?_
      show Steps p.tables e below (s₁.setTop (mkF m 9 #[.val (.int p0), .val (.int (p0 - (1 : Int32))), .val (.int (0 : Int32))] [(.int (65536 : Int32)), (.int (p0 - (1 : Int32)))])) _
      refine XS.icmpYes X0.here hx rfl (pc0 := 9) (pc' := 20) rfl (hb hby d5_9) rfl (tlt hc9_2).1 (by decide) (by decide) ?_
      show Steps p.tables e below (s₁.setTop (mkF m 20 #[.val (.int p0), .val (.int (p0 - (1 : Int32))), .val (.int (0 : Int32))] [])) _
      refine XS.iloadN X0.here hx rfl (hb hby d5_20) rfl ?_
      show Steps p.tables e below (s₁.setTop (mkF m 21 #[.val (.int p0), .val (.int (p0 - (1 : Int32))), .val (.int (0 : Int32))] [(.int (p0 - (1 : Int32)))])) _
      refine XS.sipush X0.here hx rfl (hb hby d5_21) ?_
      exact kt
    by_cases hc24_4 : (p0 - (1 : Int32)) < (256 : Int32)
    · skip
      have G5 : ∀ t, Steps p.tables e below (s₁.setTop (mkF m 38 #[.val (.int p0), .val (.int (p0 - (1 : Int32))), .val (.int (0 : Int32))] [(.int (16 : Int32)), (.int (p0 - (1 : Int32)))])) t → Steps p.tables e below (s₁.setTop (entryFrame m #[(.int p0)] 3)) t := by
        intro t kt
        refine G3 _ ?_
        show Steps p.tables e below (s₁.setTop (mkF m 24 #[.val (.int p0), .val (.int (p0 - (1 : Int32))), .val (.int (0 : Int32))] [(.int (256 : Int32)), (.int (p0 - (1 : Int32)))])) _
        refine XS.icmpYes X0.here hx rfl (pc0 := 24) (pc' := 35) rfl (hb hby d5_24) rfl (tlt hc24_4).1 (by decide) (by decide) ?_
        show Steps p.tables e below (s₁.setTop (mkF m 35 #[.val (.int p0), .val (.int (p0 - (1 : Int32))), .val (.int (0 : Int32))] [])) _
        refine XS.iloadN X0.here hx rfl (hb hby d5_35) rfl ?_
        show Steps p.tables e below (s₁.setTop (mkF m 36 #[.val (.int p0), .val (.int (p0 - (1 : Int32))), .val (.int (0 : Int32))] [(.int (p0 - (1 : Int32)))])) _
        refine XS.bipush X0.here hx rfl (hb hby d5_36) ?_
        exact kt
      by_cases hc38_6 : (p0 - (1 : Int32)) < (16 : Int32)
      · skip
        have G7 : ∀ t, Steps p.tables e below (s₁.setTop (mkF m 50 #[.val (.int p0), .val (.int (p0 - (1 : Int32))), .val (.int (0 : Int32))] [(.int (4 : Int32)), (.int (p0 - (1 : Int32)))])) t → Steps p.tables e below (s₁.setTop (entryFrame m #[(.int p0)] 3)) t := by
          intro t kt
          refine G5 _ ?_
          show Steps p.tables e below (s₁.setTop (mkF m 38 #[.val (.int p0), .val (.int (p0 - (1 : Int32))), .val (.int (0 : Int32))] [(.int (16 : Int32)), (.int (p0 - (1 : Int32)))])) _
          refine XS.icmpYes X0.here hx rfl (pc0 := 38) (pc' := 48) rfl (hb hby d5_38) rfl (tlt hc38_6).1 (by decide) (by decide) ?_
          show Steps p.tables e below (s₁.setTop (mkF m 48 #[.val (.int p0), .val (.int (p0 - (1 : Int32))), .val (.int (0 : Int32))] [])) _
          refine XS.iloadN X0.here hx rfl (hb hby d5_48) rfl ?_
          show Steps p.tables e below (s₁.setTop (mkF m 49 #[.val (.int p0), .val (.int (p0 - (1 : Int32))), .val (.int (0 : Int32))] [(.int (p0 - (1 : Int32)))])) _
          refine XS.iconst X0.here hx rfl (hb hby d5_49) ?_
          exact kt
        by_cases hc50_8 : (p0 - (1 : Int32)) < (4 : Int32)
        · skip
          have G9 : ∀ t, Steps p.tables e below (s₁.setTop (mkF m 62 #[.val (.int p0), .val (.int (p0 - (1 : Int32))), .val (.int (0 : Int32))] [(.int (2 : Int32)), (.int (p0 - (1 : Int32)))])) t → Steps p.tables e below (s₁.setTop (entryFrame m #[(.int p0)] 3)) t := by
            intro t kt
            refine G7 _ ?_
            show Steps p.tables e below (s₁.setTop (mkF m 50 #[.val (.int p0), .val (.int (p0 - (1 : Int32))), .val (.int (0 : Int32))] [(.int (4 : Int32)), (.int (p0 - (1 : Int32)))])) _
            refine XS.icmpYes X0.here hx rfl (pc0 := 50) (pc' := 60) rfl (hb hby d5_50) rfl (tlt hc50_8).1 (by decide) (by decide) ?_
            show Steps p.tables e below (s₁.setTop (mkF m 60 #[.val (.int p0), .val (.int (p0 - (1 : Int32))), .val (.int (0 : Int32))] [])) _
            refine XS.iloadN X0.here hx rfl (hb hby d5_60) rfl ?_
            show Steps p.tables e below (s₁.setTop (mkF m 61 #[.val (.int p0), .val (.int (p0 - (1 : Int32))), .val (.int (0 : Int32))] [(.int (p0 - (1 : Int32)))])) _
            refine XS.iconst X0.here hx rfl (hb hby d5_61) ?_
            exact kt
          by_cases hc62_10 : (p0 - (1 : Int32)) < (2 : Int32)
          · skip
            have G11 : ∀ t, Steps p.tables e below (s₁.setTop (mkF m 74 #[.val (.int p0), .val (.int (p0 - (1 : Int32))), .val (.int (0 : Int32))] [(.int (1 : Int32)), (.int (p0 - (1 : Int32)))])) t → Steps p.tables e below (s₁.setTop (entryFrame m #[(.int p0)] 3)) t := by
              intro t kt
              refine G9 _ ?_
              show Steps p.tables e below (s₁.setTop (mkF m 62 #[.val (.int p0), .val (.int (p0 - (1 : Int32))), .val (.int (0 : Int32))] [(.int (2 : Int32)), (.int (p0 - (1 : Int32)))])) _
              refine XS.icmpYes X0.here hx rfl (pc0 := 62) (pc' := 72) rfl (hb hby d5_62) rfl (tlt hc62_10).1 (by decide) (by decide) ?_
              show Steps p.tables e below (s₁.setTop (mkF m 72 #[.val (.int p0), .val (.int (p0 - (1 : Int32))), .val (.int (0 : Int32))] [])) _
              refine XS.iloadN X0.here hx rfl (hb hby d5_72) rfl ?_
              show Steps p.tables e below (s₁.setTop (mkF m 73 #[.val (.int p0), .val (.int (p0 - (1 : Int32))), .val (.int (0 : Int32))] [(.int (p0 - (1 : Int32)))])) _
              refine XS.iconst X0.here hx rfl (hb hby d5_73) ?_
              exact kt
            by_cases hc74_12 : (p0 - (1 : Int32)) < (1 : Int32)
            · skip
              obtain ⟨fs, hr, hrun, hended, hW, hsame⟩ := X0.leave (v := some (.int (0 : Int32))) (fun h => by rw [Bd.returns] at h; cases h)
              refine ⟨_, _, G11 _ ?_, hrun, hended, _, _, rfl, ?_, ⟨_, rfl⟩, hW, hsame.mono (by decide) (by decide)⟩
              · skip
                show Steps p.tables e below (s₁.setTop (mkF m 74 #[.val (.int p0), .val (.int (p0 - (1 : Int32))), .val (.int (0 : Int32))] [(.int (1 : Int32)), (.int (p0 - (1 : Int32)))])) _
                refine XS.icmpYes X0.here hx rfl (pc0 := 74) (pc' := 80) rfl (hb hby d5_74) rfl (tlt hc74_12).1 (by decide) (by decide) ?_
                show Steps p.tables e below (s₁.setTop (mkF m 80 #[.val (.int p0), .val (.int (p0 - (1 : Int32))), .val (.int (0 : Int32))] [])) _
                refine XS.iloadN X0.here hx rfl (hb hby d5_80) rfl ?_
                show Steps p.tables e below (s₁.setTop (mkF m 81 #[.val (.int p0), .val (.int (p0 - (1 : Int32))), .val (.int (0 : Int32))] [(.int (0 : Int32))])) _
                exact retI X0 hx Bd.returns (hb hby d5_81) hr
              · show Q5 Z p0 h0 n0 _ s₁.heap _
                rw [e0]
                exact ⟨by rw [f5, if_pos hc9_2, if_pos hc24_4, if_pos hc38_6, if_pos hc50_8, if_pos hc62_10, if_pos hc74_12], N0, rfl⟩
            · skip
              obtain ⟨fs, hr, hrun, hended, hW, hsame⟩ := X0.leave (v := some (.int ((0 : Int32) + (1 : Int32)))) (fun h => by rw [Bd.returns] at h; cases h)
              refine ⟨_, _, G11 _ ?_, hrun, hended, _, _, rfl, ?_, ⟨_, rfl⟩, hW, hsame.mono (by decide) (by decide)⟩
              · skip
                show Steps p.tables e below (s₁.setTop (mkF m 74 #[.val (.int p0), .val (.int (p0 - (1 : Int32))), .val (.int (0 : Int32))] [(.int (1 : Int32)), (.int (p0 - (1 : Int32)))])) _
                refine XS.icmpNo X0.here hx rfl (hb hby d5_74) rfl (flt hc74_12).1 ?_
                show Steps p.tables e below (s₁.setTop (mkF m 77 #[.val (.int p0), .val (.int (p0 - (1 : Int32))), .val (.int (0 : Int32))] [])) _
                refine XS.iinc X0.here hx rfl (hb hby d5_77) rfl (l' := #[.val (.int p0), .val (.int (p0 - (1 : Int32))), .val (.int ((0 : Int32) + (1 : Int32)))]) rfl ?_
                show Steps p.tables e below (s₁.setTop (mkF m 80 #[.val (.int p0), .val (.int (p0 - (1 : Int32))), .val (.int ((0 : Int32) + (1 : Int32)))] [])) _
                refine XS.iloadN X0.here hx rfl (hb hby d5_80) rfl ?_
                show Steps p.tables e below (s₁.setTop (mkF m 81 #[.val (.int p0), .val (.int (p0 - (1 : Int32))), .val (.int ((0 : Int32) + (1 : Int32)))] [(.int ((0 : Int32) + (1 : Int32)))])) _
                exact retI X0 hx Bd.returns (hb hby d5_81) hr
              · show Q5 Z p0 h0 n0 _ s₁.heap _
                rw [e0]
                exact ⟨by rw [f5, if_pos hc9_2, if_pos hc24_4, if_pos hc38_6, if_pos hc50_8, if_pos hc62_10, if_neg hc74_12], N0, rfl⟩
          · skip
            have G13 : ∀ t, Steps p.tables e below (s₁.setTop (mkF m 74 #[.val (.int p0), .val (.int (((p0 - (1 : Int32)).toUInt32 >>> ((1 : Int32) &&& 31).toUInt32).toInt32)), .val (.int ((0 : Int32) + (1 : Int32)))] [(.int (1 : Int32)), (.int (((p0 - (1 : Int32)).toUInt32 >>> ((1 : Int32) &&& 31).toUInt32).toInt32))])) t → Steps p.tables e below (s₁.setTop (entryFrame m #[(.int p0)] 3)) t := by
              intro t kt
              refine G9 _ ?_
              show Steps p.tables e below (s₁.setTop (mkF m 62 #[.val (.int p0), .val (.int (p0 - (1 : Int32))), .val (.int (0 : Int32))] [(.int (2 : Int32)), (.int (p0 - (1 : Int32)))])) _
              refine XS.icmpNo X0.here hx rfl (hb hby d5_62) rfl (flt hc62_10).1 ?_
              show Steps p.tables e below (s₁.setTop (mkF m 65 #[.val (.int p0), .val (.int (p0 - (1 : Int32))), .val (.int (0 : Int32))] [])) _
              refine XS.iinc X0.here hx rfl (hb hby d5_65) rfl (l' := #[.val (.int p0), .val (.int (p0 - (1 : Int32))), .val (.int ((0 : Int32) + (1 : Int32)))]) rfl ?_
              show Steps p.tables e below (s₁.setTop (mkF m 68 #[.val (.int p0), .val (.int (p0 - (1 : Int32))), .val (.int ((0 : Int32) + (1 : Int32)))] [])) _
              refine XS.iloadN X0.here hx rfl (hb hby d5_68) rfl ?_
              show Steps p.tables e below (s₁.setTop (mkF m 69 #[.val (.int p0), .val (.int (p0 - (1 : Int32))), .val (.int ((0 : Int32) + (1 : Int32)))] [(.int (p0 - (1 : Int32)))])) _
              refine XS.iconst X0.here hx rfl (hb hby d5_69) ?_
              show Steps p.tables e below (s₁.setTop (mkF m 70 #[.val (.int p0), .val (.int (p0 - (1 : Int32))), .val (.int ((0 : Int32) + (1 : Int32)))] [(.int (1 : Int32)), (.int (p0 - (1 : Int32)))])) _
              refine XS.iushr X0.here hx rfl (hb hby d5_70) rfl ?_
              show Steps p.tables e below (s₁.setTop (mkF m 71 #[.val (.int p0), .val (.int (p0 - (1 : Int32))), .val (.int ((0 : Int32) + (1 : Int32)))] [(.int (((p0 - (1 : Int32)).toUInt32 >>> ((1 : Int32) &&& 31).toUInt32).toInt32))])) _
              refine XS.istoreN X0.here hx rfl (hb hby d5_71) rfl (l' := #[.val (.int p0), .val (.int (((p0 - (1 : Int32)).toUInt32 >>> ((1 : Int32) &&& 31).toUInt32).toInt32)), .val (.int ((0 : Int32) + (1 : Int32)))]) rfl ?_
              show Steps p.tables e below (s₁.setTop (mkF m 72 #[.val (.int p0), .val (.int (((p0 - (1 : Int32)).toUInt32 >>> ((1 : Int32) &&& 31).toUInt32).toInt32)), .val (.int ((0 : Int32) + (1 : Int32)))] [])) _
              refine XS.iloadN X0.here hx rfl (hb hby d5_72) rfl ?_
              show Steps p.tables e below (s₁.setTop (mkF m 73 #[.val (.int p0), .val (.int (((p0 - (1 : Int32)).toUInt32 >>> ((1 : Int32) &&& 31).toUInt32).toInt32)), .val (.int ((0 : Int32) + (1 : Int32)))] [(.int (((p0 - (1 : Int32)).toUInt32 >>> ((1 : Int32) &&& 31).toUInt32).toInt32))])) _
              refine XS.iconst X0.here hx rfl (hb hby d5_73) ?_
              exact kt
            by_cases hc74_14 : (((p0 - (1 : Int32)).toUInt32 >>> ((1 : Int32) &&& 31).toUInt32).toInt32) < (1 : Int32)
            · skip
              obtain ⟨fs, hr, hrun, hended, hW, hsame⟩ := X0.leave (v := some (.int ((0 : Int32) + (1 : Int32)))) (fun h => by rw [Bd.returns] at h; cases h)
              refine ⟨_, _, G13 _ ?_, hrun, hended, _, _, rfl, ?_, ⟨_, rfl⟩, hW, hsame.mono (by decide) (by decide)⟩
              · skip
                show Steps p.tables e below (s₁.setTop (mkF m 74 #[.val (.int p0), .val (.int (((p0 - (1 : Int32)).toUInt32 >>> ((1 : Int32) &&& 31).toUInt32).toInt32)), .val (.int ((0 : Int32) + (1 : Int32)))] [(.int (1 : Int32)), (.int (((p0 - (1 : Int32)).toUInt32 >>> ((1 : Int32) &&& 31).toUInt32).toInt32))])) _
                refine XS.icmpYes X0.here hx rfl (pc0 := 74) (pc' := 80) rfl (hb hby d5_74) rfl (tlt hc74_14).1 (by decide) (by decide) ?_
                show Steps p.tables e below (s₁.setTop (mkF m 80 #[.val (.int p0), .val (.int (((p0 - (1 : Int32)).toUInt32 >>> ((1 : Int32) &&& 31).toUInt32).toInt32)), .val (.int ((0 : Int32) + (1 : Int32)))] [])) _
                refine XS.iloadN X0.here hx rfl (hb hby d5_80) rfl ?_
                show Steps p.tables e below (s₁.setTop (mkF m 81 #[.val (.int p0), .val (.int (((p0 - (1 : Int32)).toUInt32 >>> ((1 : Int32) &&& 31).toUInt32).toInt32)), .val (.int ((0 : Int32) + (1 : Int32)))] [(.int ((0 : Int32) + (1 : Int32)))])) _
                exact retI X0 hx Bd.returns (hb hby d5_81) hr
              · show Q5 Z p0 h0 n0 _ s₁.heap _
                rw [e0]
                exact ⟨by rw [f5, if_pos hc9_2, if_pos hc24_4, if_pos hc38_6, if_pos hc50_8, if_neg hc62_10, if_pos hc74_14], N0, rfl⟩
            · skip
              obtain ⟨fs, hr, hrun, hended, hW, hsame⟩ := X0.leave (v := some (.int (((0 : Int32) + (1 : Int32)) + (1 : Int32)))) (fun h => by rw [Bd.returns] at h; cases h)
              refine ⟨_, _, G13 _ ?_, hrun, hended, _, _, rfl, ?_, ⟨_, rfl⟩, hW, hsame.mono (by decide) (by decide)⟩
              · skip
                show Steps p.tables e below (s₁.setTop (mkF m 74 #[.val (.int p0), .val (.int (((p0 - (1 : Int32)).toUInt32 >>> ((1 : Int32) &&& 31).toUInt32).toInt32)), .val (.int ((0 : Int32) + (1 : Int32)))] [(.int (1 : Int32)), (.int (((p0 - (1 : Int32)).toUInt32 >>> ((1 : Int32) &&& 31).toUInt32).toInt32))])) _
                refine XS.icmpNo X0.here hx rfl (hb hby d5_74) rfl (flt hc74_14).1 ?_
                show Steps p.tables e below (s₁.setTop (mkF m 77 #[.val (.int p0), .val (.int (((p0 - (1 : Int32)).toUInt32 >>> ((1 : Int32) &&& 31).toUInt32).toInt32)), .val (.int ((0 : Int32) + (1 : Int32)))] [])) _
                refine XS.iinc X0.here hx rfl (hb hby d5_77) rfl (l' := #[.val (.int p0), .val (.int (((p0 - (1 : Int32)).toUInt32 >>> ((1 : Int32) &&& 31).toUInt32).toInt32)), .val (.int (((0 : Int32) + (1 : Int32)) + (1 : Int32)))]) rfl ?_
                show Steps p.tables e below (s₁.setTop (mkF m 80 #[.val (.int p0), .val (.int (((p0 - (1 : Int32)).toUInt32 >>> ((1 : Int32) &&& 31).toUInt32).toInt32)), .val (.int (((0 : Int32) + (1 : Int32)) + (1 : Int32)))] [])) _
                refine XS.iloadN X0.here hx rfl (hb hby d5_80) rfl ?_
                show Steps p.tables e below (s₁.setTop (mkF m 81 #[.val (.int p0), .val (.int (((p0 - (1 : Int32)).toUInt32 >>> ((1 : Int32) &&& 31).toUInt32).toInt32)), .val (.int (((0 : Int32) + (1 : Int32)) + (1 : Int32)))] [(.int (((0 : Int32) + (1 : Int32)) + (1 : Int32)))])) _
                exact retI X0 hx Bd.returns (hb hby d5_81) hr
              · show Q5 Z p0 h0 n0 _ s₁.heap _
                rw [e0]
                exact ⟨by rw [f5, if_pos hc9_2, if_pos hc24_4, if_pos hc38_6, if_pos hc50_8, if_neg hc62_10, if_neg hc74_14], N0, rfl⟩
        · skip
          have G15 : ∀ t, Steps p.tables e below (s₁.setTop (mkF m 62 #[.val (.int p0), .val (.int (((p0 - (1 : Int32)).toUInt32 >>> ((2 : Int32) &&& 31).toUInt32).toInt32)), .val (.int ((0 : Int32) + (2 : Int32)))] [(.int (2 : Int32)), (.int (((p0 - (1 : Int32)).toUInt32 >>> ((2 : Int32) &&& 31).toUInt32).toInt32))])) t → Steps p.tables e below (s₁.setTop (entryFrame m #[(.int p0)] 3)) t := by
            intro t kt
            refine G7 _ ?_
            show Steps p.tables e below (s₁.setTop (mkF m 50 #[.val (.int p0), .val (.int (p0 - (1 : Int32))), .val (.int (0 : Int32))] [(.int (4 : Int32)), (.int (p0 - (1 : Int32)))])) _
            refine XS.icmpNo X0.here hx rfl (hb hby d5_50) rfl (flt hc50_8).1 ?_
            show Steps p.tables e below (s₁.setTop (mkF m 53 #[.val (.int p0), .val (.int (p0 - (1 : Int32))), .val (.int (0 : Int32))] [])) _
            refine XS.iinc X0.here hx rfl (hb hby d5_53) rfl (l' := #[.val (.int p0), .val (.int (p0 - (1 : Int32))), .val (.int ((0 : Int32) + (2 : Int32)))]) rfl ?_
            show Steps p.tables e below (s₁.setTop (mkF m 56 #[.val (.int p0), .val (.int (p0 - (1 : Int32))), .val (.int ((0 : Int32) + (2 : Int32)))] [])) _
            refine XS.iloadN X0.here hx rfl (hb hby d5_56) rfl ?_
            show Steps p.tables e below (s₁.setTop (mkF m 57 #[.val (.int p0), .val (.int (p0 - (1 : Int32))), .val (.int ((0 : Int32) + (2 : Int32)))] [(.int (p0 - (1 : Int32)))])) _
            refine XS.iconst X0.here hx rfl (hb hby d5_57) ?_
            show Steps p.tables e below (s₁.setTop (mkF m 58 #[.val (.int p0), .val (.int (p0 - (1 : Int32))), .val (.int ((0 : Int32) + (2 : Int32)))] [(.int (2 : Int32)), (.int (p0 - (1 : Int32)))])) _
            refine XS.iushr X0.here hx rfl (hb hby d5_58) rfl ?_
            show Steps p.tables e below (s₁.setTop (mkF m 59 #[.val (.int p0), .val (.int (p0 - (1 : Int32))), .val (.int ((0 : Int32) + (2 : Int32)))] [(.int (((p0 - (1 : Int32)).toUInt32 >>> ((2 : Int32) &&& 31).toUInt32).toInt32))])) _
            refine XS.istoreN X0.here hx rfl (hb hby d5_59) rfl (l' := #[.val (.int p0), .val (.int (((p0 - (1 : Int32)).toUInt32 >>> ((2 : Int32) &&& 31).toUInt32).toInt32)), .val (.int ((0 : Int32) + (2 : Int32)))]) rfl ?_
            show Steps p.tables e below (s₁.setTop (mkF m 60 #[.val (.int p0), .val (.int (((p0 - (1 : Int32)).toUInt32 >>> ((2 : Int32) &&& 31).toUInt32).toInt32)), .val (.int ((0 : Int32) + (2 : Int32)))] [])) _
            refine XS.iloadN X0.here hx rfl (hb hby d5_60) rfl ?_
            show Steps p.tables e below (s₁.setTop (mkF m 61 #[.val (.int p0), .val (.int (((p0 - (1 : Int32)).toUInt32 >>> ((2 : Int32) &&& 31).toUInt32).toInt32)), .val (.int ((0 : Int32) + (2 : Int32)))] [(.int (((p0 - (1 : Int32)).toUInt32 >>> ((2 : Int32) &&& 31).toUInt32).toInt32))])) _
            refine XS.iconst X0.here hx rfl (hb hby d5_61) ?_
            exact kt
          by_cases hc62_16 : (((p0 - (1 : Int32)).toUInt32 >>> ((2 : Int32) &&& 31).toUInt32).toInt32) < (2 : Int32)
          · skip
            have G17 : ∀ t, Steps p.tables e below (s₁.setTop (mkF m 74 #[.val (.int p0), .val (.int (((p0 - (1 : Int32)).toUInt32 >>> ((2 : Int32) &&& 31).toUInt32).toInt32)), .val (.int ((0 : Int32) + (2 : Int32)))] [(.int (1 : Int32)), (.int (((p0 - (1 : Int32)).toUInt32 >>> ((2 : Int32) &&& 31).toUInt32).toInt32))])) t → Steps p.tables e below (s₁.setTop (entryFrame m #[(.int p0)] 3)) t := by
              intro t kt
              refine G15 _ ?_
              show Steps p.tables e below (s₁.setTop (mkF m 62 #[.val (.int p0), .val (.int (((p0 - (1 : Int32)).toUInt32 >>> ((2 : Int32) &&& 31).toUInt32).toInt32)), .val (.int ((0 : Int32) + (2 : Int32)))] [(.int (2 : Int32)), (.int (((p0 - (1 : Int32)).toUInt32 >>> ((2 : Int32) &&& 31).toUInt32).toInt32))])) _
              refine XS.icmpYes X0.here hx rfl (pc0 := 62) (pc' := 72) rfl (hb hby d5_62) rfl (tlt hc62_16).1 (by decide) (by decide) ?_
              show Steps p.tables e below (s₁.setTop (mkF m 72 #[.val (.int p0), .val (.int (((p0 - (1 : Int32)).toUInt32 >>> ((2 : Int32) &&& 31).toUInt32).toInt32)), .val (.int ((0 : Int32) + (2 : Int32)))] [])) _
              refine XS.iloadN X0.here hx rfl (hb hby d5_72) rfl ?_
              show Steps p.tables e below (s₁.setTop (mkF m 73 #[.val (.int p0), .val (.int (((p0 - (1 : Int32)).toUInt32 >>> ((2 : Int32) &&& 31).toUInt32).toInt32)), .val (.int ((0 : Int32) + (2 : Int32)))] [(.int (((p0 - (1 : Int32)).toUInt32 >>> ((2 : Int32) &&& 31).toUInt32).toInt32))])) _
              refine XS.iconst X0.here hx rfl (hb hby d5_73) ?_
              exact kt
            by_cases hc74_18 : (((p0 - (1 : Int32)).toUInt32 >>> ((2 : Int32) &&& 31).toUInt32).toInt32) < (1 : Int32)
            · skip
              obtain ⟨fs, hr, hrun, hended, hW, hsame⟩ := X0.leave (v := some (.int ((0 : Int32) + (2 : Int32)))) (fun h => by rw [Bd.returns] at h; cases h)
              refine ⟨_, _, G17 _ ?_, hrun, hended, _, _, rfl, ?_, ⟨_, rfl⟩, hW, hsame.mono (by decide) (by decide)⟩
              · skip
                show Steps p.tables e below (s₁.setTop (mkF m 74 #[.val (.int p0), .val (.int (((p0 - (1 : Int32)).toUInt32 >>> ((2 : Int32) &&& 31).toUInt32).toInt32)), .val (.int ((0 : Int32) + (2 : Int32)))] [(.int (1 : Int32)), (.int (((p0 - (1 : Int32)).toUInt32 >>> ((2 : Int32) &&& 31).toUInt32).toInt32))])) _
                refine XS.icmpYes X0.here hx rfl (pc0 := 74) (pc' := 80) rfl (hb hby d5_74) rfl (tlt hc74_18).1 (by decide) (by decide) ?_
                show Steps p.tables e below (s₁.setTop (mkF m 80 #[.val (.int p0), .val (.int (((p0 - (1 : Int32)).toUInt32 >>> ((2 : Int32) &&& 31).toUInt32).toInt32)), .val (.int ((0 : Int32) + (2 : Int32)))] [])) _
                refine XS.iloadN X0.here hx rfl (hb hby d5_80) rfl ?_
                show Steps p.tables e below (s₁.setTop (mkF m 81 #[.val (.int p0), .val (.int (((p0 - (1 : Int32)).toUInt32 >>> ((2 : Int32) &&& 31).toUInt32).toInt32)), .val (.int ((0 : Int32) + (2 : Int32)))] [(.int ((0 : Int32) + (2 : Int32)))])) _
                exact retI X0 hx Bd.returns (hb hby d5_81) hr
              · show Q5 Z p0 h0 n0 _ s₁.heap _
                rw [e0]
                exact ⟨by rw [f5, if_pos hc9_2, if_pos hc24_4, if_pos hc38_6, if_neg hc50_8, if_pos hc62_16, if_pos hc74_18], N0, rfl⟩
            · skip
              obtain ⟨fs, hr, hrun, hended, hW, hsame⟩ := X0.leave (v := some (.int (((0 : Int32) + (2 : Int32)) + (1 : Int32)))) (fun h => by rw [Bd.returns] at h; cases h)
              refine ⟨_, _, G17 _ ?_, hrun, hended, _, _, rfl, ?_, ⟨_, rfl⟩, hW, hsame.mono (by decide) (by decide)⟩
              · skip
                show Steps p.tables e below (s₁.setTop (mkF m 74 #[.val (.int p0), .val (.int (((p0 - (1 : Int32)).toUInt32 >>> ((2 : Int32) &&& 31).toUInt32).toInt32)), .val (.int ((0 : Int32) + (2 : Int32)))] [(.int (1 : Int32)), (.int (((p0 - (1 : Int32)).toUInt32 >>> ((2 : Int32) &&& 31).toUInt32).toInt32))])) _
                refine XS.icmpNo X0.here hx rfl (hb hby d5_74) rfl (flt hc74_18).1 ?_
                show Steps p.tables e below (s₁.setTop (mkF m 77 #[.val (.int p0), .val (.int (((p0 - (1 : Int32)).toUInt32 >>> ((2 : Int32) &&& 31).toUInt32).toInt32)), .val (.int ((0 : Int32) + (2 : Int32)))] [])) _
                refine XS.iinc X0.here hx rfl (hb hby d5_77) rfl (l' := #[.val (.int p0), .val (.int (((p0 - (1 : Int32)).toUInt32 >>> ((2 : Int32) &&& 31).toUInt32).toInt32)), .val (.int (((0 : Int32) + (2 : Int32)) + (1 : Int32)))]) rfl ?_
                show Steps p.tables e below (s₁.setTop (mkF m 80 #[.val (.int p0), .val (.int (((p0 - (1 : Int32)).toUInt32 >>> ((2 : Int32) &&& 31).toUInt32).toInt32)), .val (.int (((0 : Int32) + (2 : Int32)) + (1 : Int32)))] [])) _
                refine XS.iloadN X0.here hx rfl (hb hby d5_80) rfl ?_
                show Steps p.tables e below (s₁.setTop (mkF m 81 #[.val (.int p0), .val (.int (((p0 - (1 : Int32)).toUInt32 >>> ((2 : Int32) &&& 31).toUInt32).toInt32)), .val (.int (((0 : Int32) + (2 : Int32)) + (1 : Int32)))] [(.int (((0 : Int32) + (2 : Int32)) + (1 : Int32)))])) _
                exact retI X0 hx Bd.returns (hb hby d5_81) hr
              · show Q5 Z p0 h0 n0 _ s₁.heap _
                rw [e0]
                exact ⟨by rw [f5, if_pos hc9_2, if_pos hc24_4, if_pos hc38_6, if_neg hc50_8, if_pos hc62_16, if_neg hc74_18], N0, rfl⟩
          · skip
            have G19 : ∀ t, Steps p.tables e below (s₁.setTop (mkF m 74 #[.val (.int p0), .val (.int (((((p0 - (1 : Int32)).toUInt32 >>> ((2 : Int32) &&& 31).toUInt32).toInt32).toUInt32 >>> ((1 : Int32) &&& 31).toUInt32).toInt32)), .val (.int (((0 : Int32) + (2 : Int32)) + (1 : Int32)))] [(.int (1 : Int32)), (.int (((((p0 - (1 : Int32)).toUInt32 >>> ((2 : Int32) &&& 31).toUInt32).toInt32).toUInt32 >>> ((1 : Int32) &&& 31).toUInt32).toInt32))])) t → Steps p.tables e below (s₁.setTop (entryFrame m #[(.int p0)] 3)) t := by
              intro t kt
              refine G15 _ ?_
              show Steps p.tables e below (s₁.setTop (mkF m 62 #[.val (.int p0), .val (.int (((p0 - (1 : Int32)).toUInt32 >>> ((2 : Int32) &&& 31).toUInt32).toInt32)), .val (.int ((0 : Int32) + (2 : Int32)))] [(.int (2 : Int32)), (.int (((p0 - (1 : Int32)).toUInt32 >>> ((2 : Int32) &&& 31).toUInt32).toInt32))])) _
              refine XS.icmpNo X0.here hx rfl (hb hby d5_62) rfl (flt hc62_16).1 ?_
              show Steps p.tables e below (s₁.setTop (mkF m 65 #[.val (.int p0), .val (.int (((p0 - (1 : Int32)).toUInt32 >>> ((2 : Int32) &&& 31).toUInt32).toInt32)), .val (.int ((0 : Int32) + (2 : Int32)))] [])) _
              refine XS.iinc X0.here hx rfl (hb hby d5_65) rfl (l' := #[.val (.int p0), .val (.int (((p0 - (1 : Int32)).toUInt32 >>> ((2 : Int32) &&& 31).toUInt32).toInt32)), .val (.int (((0 : Int32) + (2 : Int32)) + (1 : Int32)))]) rfl ?_
              show Steps p.tables e below (s₁.setTop (mkF m 68 #[.val (.int p0), .val (.int (((p0 - (1 : Int32)).toUInt32 >>> ((2 : Int32) &&& 31).toUInt32).toInt32)), .val (.int (((0 : Int32) + (2 : Int32)) + (1 : Int32)))] [])) _
              refine XS.iloadN X0.here hx rfl (hb hby d5_68) rfl ?_
              show Steps p.tables e below (s₁.setTop (mkF m 69 #[.val (.int p0), .val (.int (((p0 - (1 : Int32)).toUInt32 >>> ((2 : Int32) &&& 31).toUInt32).toInt32)), .val (.int (((0 : Int32) + (2 : Int32)) + (1 : Int32)))] [(.int (((p0 - (1 : Int32)).toUInt32 >>> ((2 : Int32) &&& 31).toUInt32).toInt32))])) _
              refine XS.iconst X0.here hx rfl (hb hby d5_69) ?_
              show Steps p.tables e below (s₁.setTop (mkF m 70 #[.val (.int p0), .val (.int (((p0 - (1 : Int32)).toUInt32 >>> ((2 : Int32) &&& 31).toUInt32).toInt32)), .val (.int (((0 : Int32) + (2 : Int32)) + (1 : Int32)))] [(.int (1 : Int32)), (.int (((p0 - (1 : Int32)).toUInt32 >>> ((2 : Int32) &&& 31).toUInt32).toInt32))])) _
              refine XS.iushr X0.here hx rfl (hb hby d5_70) rfl ?_
              show Steps p.tables e below (s₁.setTop (mkF m 71 #[.val (.int p0), .val (.int (((p0 - (1 : Int32)).toUInt32 >>> ((2 : Int32) &&& 31).toUInt32).toInt32)), .val (.int (((0 : Int32) + (2 : Int32)) + (1 : Int32)))] [(.int (((((p0 - (1 : Int32)).toUInt32 >>> ((2 : Int32) &&& 31).toUInt32).toInt32).toUInt32 >>> ((1 : Int32) &&& 31).toUInt32).toInt32))])) _
              refine XS.istoreN X0.here hx rfl (hb hby d5_71) rfl (l' := #[.val (.int p0), .val (.int (((((p0 - (1 : Int32)).toUInt32 >>> ((2 : Int32) &&& 31).toUInt32).toInt32).toUInt32 >>> ((1 : Int32) &&& 31).toUInt32).toInt32)), .val (.int (((0 : Int32) + (2 : Int32)) + (1 : Int32)))]) rfl ?_
              show Steps p.tables e below (s₁.setTop (mkF m 72 #[.val (.int p0), .val (.int (((((p0 - (1 : Int32)).toUInt32 >>> ((2 : Int32) &&& 31).toUInt32).toInt32).toUInt32 >>> ((1 : Int32) &&& 31).toUInt32).toInt32)), .val (.int (((0 : Int32) + (2 : Int32)) + (1 : Int32)))] [])) _
              refine XS.iloadN X0.here hx rfl (hb hby d5_72) rfl ?_
              show Steps p.tables e below (s₁.setTop (mkF m 73 #[.val (.int p0), .val (.int (((((p0 - (1 : Int32)).toUInt32 >>> ((2 : Int32) &&& 31).toUInt32).toInt32).toUInt32 >>> ((1 : Int32) &&& 31).toUInt32).toInt32)), .val (.int (((0 : Int32) + (2 : Int32)) + (1 : Int32)))] [(.int (((((p0 - (1 : Int32)).toUInt32 >>> ((2 : Int32) &&& 31).toUInt32).toInt32).toUInt32 >>> ((1 : Int32) &&& 31).toUInt32).toInt32))])) _
              refine XS.iconst X0.here hx rfl (hb hby d5_73) ?_
              exact kt
            by_cases hc74_20 : (((((p0 - (1 : Int32)).toUInt32 >>> ((2 : Int32) &&& 31).toUInt32).toInt32).toUInt32 >>> ((1 : Int32) &&& 31).toUInt32).toInt32) < (1 : Int32)
            · skip
              obtain ⟨fs, hr, hrun, hended, hW, hsame⟩ := X0.leave (v := some (.int (((0 : Int32) + (2 : Int32)) + (1 : Int32)))) (fun h => by rw [Bd.returns] at h; cases h)
              refine ⟨_, _, G19 _ ?_, hrun, hended, _, _, rfl, ?_, ⟨_, rfl⟩, hW, hsame.mono (by decide) (by decide)⟩
              · skip
                show Steps p.tables e below (s₁.setTop (mkF m 74 #[.val (.int p0), .val (.int (((((p0 - (1 : Int32)).toUInt32 >>> ((2 : Int32) &&& 31).toUInt32).toInt32).toUInt32 >>> ((1 : Int32) &&& 31).toUInt32).toInt32)), .val (.int (((0 : Int32) + (2 : Int32)) + (1 : Int32)))] [(.int (1 : Int32)), (.int (((((p0 - (1 : Int32)).toUInt32 >>> ((2 : Int32) &&& 31).toUInt32).toInt32).toUInt32 >>> ((1 : Int32) &&& 31).toUInt32).toInt32))])) _
                refine XS.icmpYes X0.here hx rfl (pc0 := 74) (pc' := 80) rfl (hb hby d5_74) rfl (tlt hc74_20).1 (by decide) (by decide) ?_
                show Steps p.tables e below (s₁.setTop (mkF m 80 #[.val (.int p0), .val (.int (((((p0 - (1 : Int32)).toUInt32 >>> ((2 : Int32) &&& 31).toUInt32).toInt32).toUInt32 >>> ((1 : Int32) &&& 31).toUInt32).toInt32)), .val (.int (((0 : Int32) + (2 : Int32)) + (1 : Int32)))] [])) _
                refine XS.iloadN X0.here hx rfl (hb hby d5_80) rfl ?_
                show Steps p.tables e below (s₁.setTop (mkF m 81 #[.val (.int p0), .val (.int (((((p0 - (1 : Int32)).toUInt32 >>> ((2 : Int32) &&& 31).toUInt32).toInt32).toUInt32 >>> ((1 : Int32) &&& 31).toUInt32).toInt32)), .val (.int (((0 : Int32) + (2 : Int32)) + (1 : Int32)))] [(.int (((0 : Int32) + (2 : Int32)) + (1 : Int32)))])) _
                exact retI X0 hx Bd.returns (hb hby d5_81) hr
              · show Q5 Z p0 h0 n0 _ s₁.heap _
                rw [e0]
                exact ⟨by rw [f5, if_pos hc9_2, if_pos hc24_4, if_pos hc38_6, if_neg hc50_8, if_neg hc62_16, if_pos hc74_20], N0, rfl⟩
            · skip
              obtain ⟨fs, hr, hrun, hended, hW, hsame⟩ := X0.leave (v := some (.int ((((0 : Int32) + (2 : Int32)) + (1 : Int32)) + (1 : Int32)))) (fun h => by rw [Bd.returns] at h; cases h)
              refine ⟨_, _, G19 _ ?_, hrun, hended, _, _, rfl, ?_, ⟨_, rfl⟩, hW, hsame.mono (by decide) (by decide)⟩
              · skip
                show Steps p.tables e below (s₁.setTop (mkF m 74 #[.val (.int p0), .val (.int (((((p0 - (1 : Int32)).toUInt32 >>> ((2 : Int32) &&& 31).toUInt32).toInt32).toUInt32 >>> ((1 : Int32) &&& 31).toUInt32).toInt32)), .val (.int (((0 : Int32) + (2 : Int32)) + (1 : Int32)))] [(.int (1 : Int32)), (.int (((((p0 - (1 : Int32)).toUInt32 >>> ((2 : Int32) &&& 31).toUInt32).toInt32).toUInt32 >>> ((1 : Int32) &&& 31).toUInt32).toInt32))])) _
                refine XS.icmpNo X0.here hx rfl (hb hby d5_74) rfl (flt hc74_20).1 ?_
                show Steps p.tables e below (s₁.setTop (mkF m 77 #[.val (.int p0), .val (.int (((((p0 - (1 : Int32)).toUInt32 >>> ((2 : Int32) &&& 31).toUInt32).toInt32).toUInt32 >>> ((1 : Int32) &&& 31).toUInt32).toInt32)), .val (.int (((0 : Int32) + (2 : Int32)) + (1 : Int32)))] [])) _
                refine XS.iinc X0.here hx rfl (hb hby d5_77) rfl (l' := #[.val (.int p0), .val (.int (((((p0 - (1 : Int32)).toUInt32 >>> ((2 : Int32) &&& 31).toUInt32).toInt32).toUInt32 >>> ((1 : Int32) &&& 31).toUInt32).toInt32)), .val (.int ((((0 : Int32) + (2 : Int32)) + (1 : Int32)) + (1 : Int32)))]) rfl ?_
                show Steps p.tables e below (s₁.setTop (mkF m 80 #[.val (.int p0), .val (.int (((((p0 - (1 : Int32)).toUInt32 >>> ((2 : Int32) &&& 31).toUInt32).toInt32).toUInt32 >>> ((1 : Int32) &&& 31).toUInt32).toInt32)), .val (.int ((((0 : Int32) + (2 : Int32)) + (1 : Int32)) + (1 : Int32)))] [])) _
                refine XS.iloadN X0.here hx rfl (hb hby d5_80) rfl ?_
                show Steps p.tables e below (s₁.setTop (mkF m 81 #[.val (.int p0), .val (.int (((((p0 - (1 : Int32)).toUInt32 >>> ((2 : Int32) &&& 31).toUInt32).toInt32).toUInt32 >>> ((1 : Int32) &&& 31).toUInt32).toInt32)), .val (.int ((((0 : Int32) + (2 : Int32)) + (1 : Int32)) + (1 : Int32)))] [(.int ((((0 : Int32) + (2 : Int32)) + (1 : Int32)) + (1 : Int32)))])) _
                exact retI X0 hx Bd.returns (hb hby d5_81) hr
              · show Q5 Z p0 h0 n0 _ s₁.heap _
                rw [e0]
                exact ⟨by rw [f5, if_pos hc9_2, if_pos hc24_4, if_pos hc38_6, if_neg hc50_8, if_neg hc62_16, if_neg hc74_20], N0, rfl⟩
      · skip
        have G21 : ∀ t, Steps p.tables e below (s₁.setTop (mkF m 50 #[.val (.int p0), .val (.int (((p0 - (1 : Int32)).toUInt32 >>> ((4 : Int32) &&& 31).toUInt32).toInt32)), .val (.int ((0 : Int32) + (4 : Int32)))] [(.int (4 : Int32)), (.int (((p0 - (1 : Int32)).toUInt32 >>> ((4 : Int32) &&& 31).toUInt32).toInt32))])) t → Steps p.tables e below (s₁.setTop (entryFrame m #[(.int p0)] 3)) t := by
          intro t kt
          refine G5 _ ?_
          show Steps p.tables e below (s₁.setTop (mkF m 38 #[.val (.int p0), .val (.int (p0 - (1 : Int32))), .val (.int (0 : Int32))] [(.int (16 : Int32)), (.int (p0 - (1 : Int32)))])) _
          refine XS.icmpNo X0.here hx rfl (hb hby d5_38) rfl (flt hc38_6).1 ?_
          show Steps p.tables e below (s₁.setTop (mkF m 41 #[.val (.int p0), .val (.int (p0 - (1 : Int32))), .val (.int (0 : Int32))] [])) _
          refine XS.iinc X0.here hx rfl (hb hby d5_41) rfl (l' := #[.val (.int p0), .val (.int (p0 - (1 : Int32))), .val (.int ((0 : Int32) + (4 : Int32)))]) rfl ?_
          show Steps p.tables e below (s₁.setTop (mkF m 44 #[.val (.int p0), .val (.int (p0 - (1 : Int32))), .val (.int ((0 : Int32) + (4 : Int32)))] [])) _
          refine XS.iloadN X0.here hx rfl (hb hby d5_44) rfl ?_
          show Steps p.tables e below (s₁.setTop (mkF m 45 #[.val (.int p0), .val (.int (p0 - (1 : Int32))), .val (.int ((0 : Int32) + (4 : Int32)))] [(.int (p0 - (1 : Int32)))])) _
          refine XS.iconst X0.here hx rfl (hb hby d5_45) ?_
          show Steps p.tables e below (s₁.setTop (mkF m 46 #[.val (.int p0), .val (.int (p0 - (1 : Int32))), .val (.int ((0 : Int32) + (4 : Int32)))] [(.int (4 : Int32)), (.int (p0 - (1 : Int32)))])) _
          refine XS.iushr X0.here hx rfl (hb hby d5_46) rfl ?_
          show Steps p.tables e below (s₁.setTop (mkF m 47 #[.val (.int p0), .val (.int (p0 - (1 : Int32))), .val (.int ((0 : Int32) + (4 : Int32)))] [(.int (((p0 - (1 : Int32)).toUInt32 >>> ((4 : Int32) &&& 31).toUInt32).toInt32))])) _
          refine XS.istoreN X0.here hx rfl (hb hby d5_47) rfl (l' := #[.val (.int p0), .val (.int (((p0 - (1 : Int32)).toUInt32 >>> ((4 : Int32) &&& 31).toUInt32).toInt32)), .val (.int ((0 : Int32) + (4 : Int32)))]) rfl ?_
          show Steps p.tables e below (s₁.setTop (mkF m 48 #[.val (.int p0), .val (.int (((p0 - (1 : Int32)).toUInt32 >>> ((4 : Int32) &&& 31).toUInt32).toInt32)), .val (.int ((0 : Int32) + (4 : Int32)))] [])) _
          refine XS.iloadN X0.here hx rfl (hb hby d5_48) rfl ?_
          show Steps p.tables e below (s₁.setTop (mkF m 49 #[.val (.int p0), .val (.int (((p0 - (1 : Int32)).toUInt32 >>> ((4 : Int32) &&& 31).toUInt32).toInt32)), .val (.int ((0 : Int32) + (4 : Int32)))] [(.int (((p0 - (1 : Int32)).toUInt32 >>> ((4 : Int32) &&& 31).toUInt32).toInt32))])) _
          refine XS.iconst X0.here hx rfl (hb hby d5_49) ?_
          exact kt
        by_cases hc50_22 : (((p0 - (1 : Int32)).toUInt32 >>> ((4 : Int32) &&& 31).toUInt32).toInt32) < (4 : Int32)
        · skip
          have G23 : ∀ t, Steps p.tables e below (s₁.setTop (mkF m 62 #[.val (.int p0), .val (.int (((p0 - (1 : Int32)).toUInt32 >>> ((4 : Int32) &&& 31).toUInt32).toInt32)), .val (.int ((0 : Int32) + (4 : Int32)))] [(.int (2 : Int32)), (.int (((p0 - (1 : Int32)).toUInt32 >>> ((4 : Int32) &&& 31).toUInt32).toInt32))])) t → Steps p.tables e below (s₁.setTop (entryFrame m #[(.int p0)] 3)) t := by
            intro t kt
            refine G21 _ ?_
            show Steps p.tables e below (s₁.setTop (mkF m 50 #[.val (.int p0), .val (.int (((p0 - (1 : Int32)).toUInt32 >>> ((4 : Int32) &&& 31).toUInt32).toInt32)), .val (.int ((0 : Int32) + (4 : Int32)))] [(.int (4 : Int32)), (.int (((p0 - (1 : Int32)).toUInt32 >>> ((4 : Int32) &&& 31).toUInt32).toInt32))])) _
            refine XS.icmpYes X0.here hx rfl (pc0 := 50) (pc' := 60) rfl (hb hby d5_50) rfl (tlt hc50_22).1 (by decide) (by decide) ?_
            show Steps p.tables e below (s₁.setTop (mkF m 60 #[.val (.int p0), .val (.int (((p0 - (1 : Int32)).toUInt32 >>> ((4 : Int32) &&& 31).toUInt32).toInt32)), .val (.int ((0 : Int32) + (4 : Int32)))] [])) _
            refine XS.iloadN X0.here hx rfl (hb hby d5_60) rfl ?_
            show Steps p.tables e below (s₁.setTop (mkF m 61 #[.val (.int p0), .val (.int (((p0 - (1 : Int32)).toUInt32 >>> ((4 : Int32) &&& 31).toUInt32).toInt32)), .val (.int ((0 : Int32) + (4 : Int32)))] [(.int (((p0 - (1 : Int32)).toUInt32 >>> ((4 : Int32) &&& 31).toUInt32).toInt32))])) _
            refine XS.iconst X0.here hx rfl (hb hby d5_61) ?_
            exact kt
          by_cases hc62_24 : (((p0 - (1 : Int32)).toUInt32 >>> ((4 : Int32) &&& 31).toUInt32).toInt32) < (2 : Int32)
          · skip
            have G25 : ∀ t, Steps p.tables e below (s₁.setTop (mkF m 74 #[.val (.int p0), .val (.int (((p0 - (1 : Int32)).toUInt32 >>> ((4 : Int32) &&& 31).toUInt32).toInt32)), .val (.int ((0 : Int32) + (4 : Int32)))] [(.int (1 : Int32)), (.int (((p0 - (1 : Int32)).toUInt32 >>> ((4 : Int32) &&& 31).toUInt32).toInt32))])) t → Steps p.tables e below (s₁.setTop (entryFrame m #[(.int p0)] 3)) t := by
              intro t kt
              refine G23 _ ?_
              show Steps p.tables e below (s₁.setTop (mkF m 62 #[.val (.int p0), .val (.int (((p0 - (1 : Int32)).toUInt32 >>> ((4 : Int32) &&& 31).toUInt32).toInt32)), .val (.int ((0 : Int32) + (4 : Int32)))] [(.int (2 : Int32)), (.int (((p0 - (1 : Int32)).toUInt32 >>> ((4 : Int32) &&& 31).toUInt32).toInt32))])) _
              refine XS.icmpYes X0.here hx rfl (pc0 := 62) (pc' := 72) rfl (hb hby d5_62) rfl (tlt hc62_24).1 (by decide) (by decide) ?_
              show Steps p.tables e below (s₁.setTop (mkF m 72 #[.val (.int p0), .val (.int (((p0 - (1 : Int32)).toUInt32 >>> ((4 : Int32) &&& 31).toUInt32).toInt32)), .val (.int ((0 : Int32) + (4 : Int32)))] [])) _
              refine XS.iloadN X0.here hx rfl (hb hby d5_72) rfl ?_
              show Steps p.tables e below (s₁.setTop (mkF m 73 #[.val (.int p0), .val (.int (((p0 - (1 : Int32)).toUInt32 >>> ((4 : Int32) &&& 31).toUInt32).toInt32)), .val (.int ((0 : Int32) + (4 : Int32)))] [(.int (((p0 - (1 : Int32)).toUInt32 >>> ((4 : Int32) &&& 31).toUInt32).toInt32))])) _
              refine XS.iconst X0.here hx rfl (hb hby d5_73) ?_
              exact kt
            by_cases hc74_26 : (((p0 - (1 : Int32)).toUInt32 >>> ((4 : Int32) &&& 31).toUInt32).toInt32) < (1 : Int32)
            · skip
              obtain ⟨fs, hr, hrun, hended, hW, hsame⟩ := X0.leave (v := some (.int ((0 : Int32) + (4 : Int32)))) (fun h => by rw [Bd.returns] at h; cases h)
              refine ⟨_, _, G25 _ ?_, hrun, hended, _, _, rfl, ?_, ⟨_, rfl⟩, hW, hsame.mono (by decide) (by decide)⟩
              · skip
                show Steps p.tables e below (s₁.setTop (mkF m 74 #[.val (.int p0), .val (.int (((p0 - (1 : Int32)).toUInt32 >>> ((4 : Int32) &&& 31).toUInt32).toInt32)), .val (.int ((0 : Int32) + (4 : Int32)))] [(.int (1 : Int32)), (.int (((p0 - (1 : Int32)).toUInt32 >>> ((4 : Int32) &&& 31).toUInt32).toInt32))])) _
                refine XS.icmpYes X0.here hx rfl (pc0 := 74) (pc' := 80) rfl (hb hby d5_74) rfl (tlt hc74_26).1 (by decide) (by decide) ?_
                show Steps p.tables e below (s₁.setTop (mkF m 80 #[.val (.int p0), .val (.int (((p0 - (1 : Int32)).toUInt32 >>> ((4 : Int32) &&& 31).toUInt32).toInt32)), .val (.int ((0 : Int32) + (4 : Int32)))] [])) _
                refine XS.iloadN X0.here hx rfl (hb hby d5_80) rfl ?_
                show Steps p.tables e below (s₁.setTop (mkF m 81 #[.val (.int p0), .val (.int (((p0 - (1 : Int32)).toUInt32 >>> ((4 : Int32) &&& 31).toUInt32).toInt32)), .val (.int ((0 : Int32) + (4 : Int32)))] [(.int ((0 : Int32) + (4 : Int32)))])) _
                exact retI X0 hx Bd.returns (hb hby d5_81) hr
              · show Q5 Z p0 h0 n0 _ s₁.heap _
                rw [e0]
                exact ⟨by rw [f5, if_pos hc9_2, if_pos hc24_4, if_neg hc38_6, if_pos hc50_22, if_pos hc62_24, if_pos hc74_26], N0, rfl⟩
            · skip
              obtain ⟨fs, hr, hrun, hended, hW, hsame⟩ := X0.leave (v := some (.int (((0 : Int32) + (4 : Int32)) + (1 : Int32)))) (fun h => by rw [Bd.returns] at h; cases h)
              refine ⟨_, _, G25 _ ?_, hrun, hended, _, _, rfl, ?_, ⟨_, rfl⟩, hW, hsame.mono (by decide) (by decide)⟩
              · skip
                show Steps p.tables e below (s₁.setTop (mkF m 74 #[.val (.int p0), .val (.int (((p0 - (1 : Int32)).toUInt32 >>> ((4 : Int32) &&& 31).toUInt32).toInt32)), .val (.int ((0 : Int32) + (4 : Int32)))] [(.int (1 : Int32)), (.int (((p0 - (1 : Int32)).toUInt32 >>> ((4 : Int32) &&& 31).toUInt32).toInt32))])) _
                refine XS.icmpNo X0.here hx rfl (hb hby d5_74) rfl (flt hc74_26).1 ?_
                show Steps p.tables e below (s₁.setTop (mkF m 77 #[.val (.int p0), .val (.int (((p0 - (1 : Int32)).toUInt32 >>> ((4 : Int32) &&& 31).toUInt32).toInt32)), .val (.int ((0 : Int32) + (4 : Int32)))] [])) _
                refine XS.iinc X0.here hx rfl (hb hby d5_77) rfl (l' := #[.val (.int p0), .val (.int (((p0 - (1 : Int32)).toUInt32 >>> ((4 : Int32) &&& 31).toUInt32).toInt32)), .val (.int (((0 : Int32) + (4 : Int32)) + (1 : Int32)))]) rfl ?_
                show Steps p.tables e below (s₁.setTop (mkF m 80 #[.val (.int p0), .val (.int (((p0 - (1 : Int32)).toUInt32 >>> ((4 : Int32) &&& 31).toUInt32).toInt32)), .val (.int (((0 : Int32) + (4 : Int32)) + (1 : Int32)))] [])) _
                refine XS.iloadN X0.here hx rfl (hb hby d5_80) rfl ?_
                show Steps p.tables e below (s₁.setTop (mkF m 81 #[.val (.int p0), .val (.int (((p0 - (1 : Int32)).toUInt32 >>> ((4 : Int32) &&& 31).toUInt32).toInt32)), .val (.int (((0 : Int32) + (4 : Int32)) + (1 : Int32)))] [(.int (((0 : Int32) + (4 : Int32)) + (1 : Int32)))])) _
                exact retI X0 hx Bd.returns (hb hby d5_81) hr
              · show Q5 Z p0 h0 n0 _ s₁.heap _
                rw [e0]
                exact ⟨by rw [f5, if_pos hc9_2, if_pos hc24_4, if_neg hc38_6, if_pos hc50_22, if_pos hc62_24, if_neg hc74_26], N0, rfl⟩
          · skip
            have G27 : ∀ t, Steps p.tables e below (s₁.setTop (mkF m 74 #[.val (.int p0), .val (.int (((((p0 - (1 : Int32)).toUInt32 >>> ((4 : Int32) &&& 31).toUInt32).toInt32).toUInt32 >>> ((1 : Int32) &&& 31).toUInt32).toInt32)), .val (.int (((0 : Int32) + (4 : Int32)) + (1 : Int32)))] [(.int (1 : Int32)), (.int (((((p0 - (1 : Int32)).toUInt32 >>> ((4 : Int32) &&& 31).toUInt32).toInt32).toUInt32 >>> ((1 : Int32) &&& 31).toUInt32).toInt32))])) t → Steps p.tables e below (s₁.setTop (entryFrame m #[(.int p0)] 3)) t := by
              intro t kt
              refine G23 _ ?_
              show Steps p.tables e below (s₁.setTop (mkF m 62 #[.val (.int p0), .val (.int (((p0 - (1 : Int32)).toUInt32 >>> ((4 : Int32) &&& 31).toUInt32).toInt32)), .val (.int ((0 : Int32) + (4 : Int32)))] [(.int (2 : Int32)), (.int (((p0 - (1 : Int32)).toUInt32 >>> ((4 : Int32) &&& 31).toUInt32).toInt32))])) _
              refine XS.icmpNo X0.here hx rfl (hb hby d5_62) rfl (flt hc62_24).1 ?_
              show Steps p.tables e below (s₁.setTop (mkF m 65 #[.val (.int p0), .val (.int (((p0 - (1 : Int32)).toUInt32 >>> ((4 : Int32) &&& 31).toUInt32).toInt32)), .val (.int ((0 : Int32) + (4 : Int32)))] [])) _
              refine XS.iinc X0.here hx rfl (hb hby d5_65) rfl (l' := #[.val (.int p0), .val (.int (((p0 - (1 : Int32)).toUInt32 >>> ((4 : Int32) &&& 31).toUInt32).toInt32)), .val (.int (((0 : Int32) + (4 : Int32)) + (1 : Int32)))]) rfl ?_
              show Steps p.tables e below (s₁.setTop (mkF m 68 #[.val (.int p0), .val (.int (((p0 - (1 : Int32)).toUInt32 >>> ((4 : Int32) &&& 31).toUInt32).toInt32)), .val (.int (((0 : Int32) + (4 : Int32)) + (1 : Int32)))] [])) _
              refine XS.iloadN X0.here hx rfl (hb hby d5_68) rfl ?_
              show Steps p.tables e below (s₁.setTop (mkF m 69 #[.val (.int p0), .val (.int (((p0 - (1 : Int32)).toUInt32 >>> ((4 : Int32) &&& 31).toUInt32).toInt32)), .val (.int (((0 : Int32) + (4 : Int32)) + (1 : Int32)))] [(.int (((p0 - (1 : Int32)).toUInt32 >>> ((4 : Int32) &&& 31).toUInt32).toInt32))])) _
              refine XS.iconst X0.here hx rfl (hb hby d5_69) ?_
              show Steps p.tables e below (s₁.setTop (mkF m 70 #[.val (.int p0), .val (.int (((p0 - (1 : Int32)).toUInt32 >>> ((4 : Int32) &&& 31).toUInt32).toInt32)), .val (.int (((0 : Int32) + (4 : Int32)) + (1 : Int32)))] [(.int (1 : Int32)), (.int (((p0 - (1 : Int32)).toUInt32 >>> ((4 : Int32) &&& 31).toUInt32).toInt32))])) _
              refine XS.iushr X0.here hx rfl (hb hby d5_70) rfl ?_
              show Steps p.tables e below (s₁.setTop (mkF m 71 #[.val (.int p0), .val (.int (((p0 - (1 : Int32)).toUInt32 >>> ((4 : Int32) &&& 31).toUInt32).toInt32)), .val (.int (((0 : Int32) + (4 : Int32)) + (1 : Int32)))] [(.int (((((p0 - (1 : Int32)).toUInt32 >>> ((4 : Int32) &&& 31).toUInt32).toInt32).toUInt32 >>> ((1 : Int32) &&& 31).toUInt32).toInt32))])) _
              refine XS.istoreN X0.here hx rfl (hb hby d5_71) rfl (l' := #[.val (.int p0), .val (.int (((((p0 - (1 : Int32)).toUInt32 >>> ((4 : Int32) &&& 31).toUInt32).toInt32).toUInt32 >>> ((1 : Int32) &&& 31).toUInt32).toInt32)), .val (.int (((0 : Int32) + (4 : Int32)) + (1 : Int32)))]) rfl ?_
              show Steps p.tables e below (s₁.setTop (mkF m 72 #[.val (.int p0), .val (.int (((((p0 - (1 : Int32)).toUInt32 >>> ((4 : Int32) &&& 31).toUInt32).toInt32).toUInt32 >>> ((1 : Int32) &&& 31).toUInt32).toInt32)), .val (.int (((0 : Int32) + (4 : Int32)) + (1 : Int32)))] [])) _
              refine XS.iloadN X0.here hx rfl (hb hby d5_72) rfl ?_
              show Steps p.tables e below (s₁.setTop (mkF m 73 #[.val (.int p0), .val (.int (((((p0 - (1 : Int32)).toUInt32 >>> ((4 : Int32) &&& 31).toUInt32).toInt32).toUInt32 >>> ((1 : Int32) &&& 31).toUInt32).toInt32)), .val (.int (((0 : Int32) + (4 : Int32)) + (1 : Int32)))] [(.int (((((p0 - (1 : Int32)).toUInt32 >>> ((4 : Int32) &&& 31).toUInt32).toInt32).toUInt32 >>> ((1 : Int32) &&& 31).toUInt32).toInt32))])) _
              refine XS.iconst X0.here hx rfl (hb hby d5_73) ?_
              exact kt
            by_cases hc74_28 : (((((p0 - (1 : Int32)).toUInt32 >>> ((4 : Int32) &&& 31).toUInt32).toInt32).toUInt32 >>> ((1 : Int32) &&& 31).toUInt32).toInt32) < (1 : Int32)
            · skip
              obtain ⟨fs, hr, hrun, hended, hW, hsame⟩ := X0.leave (v := some (.int (((0 : Int32) + (4 : Int32)) + (1 : Int32)))) (fun h => by rw [Bd.returns] at h; cases h)
              refine ⟨_, _, G27 _ ?_, hrun, hended, _, _, rfl, ?_, ⟨_, rfl⟩, hW, hsame.mono (by decide) (by decide)⟩
              · skip
                show Steps p.tables e below (s₁.setTop (mkF m 74 #[.val (.int p0), .val (.int (((((p0 - (1 : Int32)).toUInt32 >>> ((4 : Int32) &&& 31).toUInt32).toInt32).toUInt32 >>> ((1 : Int32) &&& 31).toUInt32).toInt32)), .val (.int (((0 : Int32) + (4 : Int32)) + (1 : Int32)))] [(.int (1 : Int32)), (.int (((((p0 - (1 : Int32)).toUInt32 >>> ((4 : Int32) &&& 31).toUInt32).toInt32).toUInt32 >>> ((1 : Int32) &&& 31).toUInt32).toInt32))])) _
                refine XS.icmpYes X0.here hx rfl (pc0 := 74) (pc' := 80) rfl (hb hby d5_74) rfl (tlt hc74_28).1 (by decide) (by decide) ?_
                show Steps p.tables e below (s₁.setTop (mkF m 80 #[.val (.int p0), .val (.int (((((p0 - (1 : Int32)).toUInt32 >>> ((4 : Int32) &&& 31).toUInt32).toInt32).toUInt32 >>> ((1 : Int32) &&& 31).toUInt32).toInt32)), .val (.int (((0 : Int32) + (4 : Int32)) + (1 : Int32)))] [])) _
                refine XS.iloadN X0.here hx rfl (hb hby d5_80) rfl ?_
                show Steps p.tables e below (s₁.setTop (mkF m 81 #[.val (.int p0), .val (.int (((((p0 - (1 : Int32)).toUInt32 >>> ((4 : Int32) &&& 31).toUInt32).toInt32).toUInt32 >>> ((1 : Int32) &&& 31).toUInt32).toInt32)), .val (.int (((0 : Int32) + (4 : Int32)) + (1 : Int32)))] [(.int (((0 : Int32) + (4 : Int32)) + (1 : Int32)))])) _
                exact retI X0 hx Bd.returns (hb hby d5_81) hr
              · show Q5 Z p0 h0 n0 _ s₁.heap _
                rw [e0]
                exact ⟨by rw [f5, if_pos hc9_2, if_pos hc24_4, if_neg hc38_6, if_pos hc50_22, if_neg hc62_24, if_pos hc74_28], N0, rfl⟩
            · skip
              obtain ⟨fs, hr, hrun, hended, hW, hsame⟩ := X0.leave (v := some (.int ((((0 : Int32) + (4 : Int32)) + (1 : Int32)) + (1 : Int32)))) (fun h => by rw [Bd.returns] at h; cases h)
              refine ⟨_, _, G27 _ ?_, hrun, hended, _, _, rfl, ?_, ⟨_, rfl⟩, hW, hsame.mono (by decide) (by decide)⟩
              · skip
                show Steps p.tables e below (s₁.setTop (mkF m 74 #[.val (.int p0), .val (.int (((((p0 - (1 : Int32)).toUInt32 >>> ((4 : Int32) &&& 31).toUInt32).toInt32).toUInt32 >>> ((1 : Int32) &&& 31).toUInt32).toInt32)), .val (.int (((0 : Int32) + (4 : Int32)) + (1 : Int32)))] [(.int (1 : Int32)), (.int (((((p0 - (1 : Int32)).toUInt32 >>> ((4 : Int32) &&& 31).toUInt32).toInt32).toUInt32 >>> ((1 : Int32) &&& 31).toUInt32).toInt32))])) _
                refine XS.icmpNo X0.here hx rfl (hb hby d5_74) rfl (flt hc74_28).1 ?_
                show Steps p.tables e below (s₁.setTop (mkF m 77 #[.val (.int p0), .val (.int (((((p0 - (1 : Int32)).toUInt32 >>> ((4 : Int32) &&& 31).toUInt32).toInt32).toUInt32 >>> ((1 : Int32) &&& 31).toUInt32).toInt32)), .val (.int (((0 : Int32) + (4 : Int32)) + (1 : Int32)))] [])) _
                refine XS.iinc X0.here hx rfl (hb hby d5_77) rfl (l' := #[.val (.int p0), .val (.int (((((p0 - (1 : Int32)).toUInt32 >>> ((4 : Int32) &&& 31).toUInt32).toInt32).toUInt32 >>> ((1 : Int32) &&& 31).toUInt32).toInt32)), .val (.int ((((0 : Int32) + (4 : Int32)) + (1 : Int32)) + (1 : Int32)))]) rfl ?_
                show Steps p.tables e below (s₁.setTop (mkF m 80 #[.val (.int p0), .val (.int (((((p0 - (1 : Int32)).toUInt32 >>> ((4 : Int32) &&& 31).toUInt32).toInt32).toUInt32 >>> ((1 : Int32) &&& 31).toUInt32).toInt32)), .val (.int ((((0 : Int32) + (4 : Int32)) + (1 : Int32)) + (1 : Int32)))] [])) _
                refine XS.iloadN X0.here hx rfl (hb hby d5_80) rfl ?_
                show Steps p.tables e below (s₁.setTop (mkF m 81 #[.val (.int p0), .val (.int (((((p0 - (1 : Int32)).toUInt32 >>> ((4 : Int32) &&& 31).toUInt32).toInt32).toUInt32 >>> ((1 : Int32) &&& 31).toUInt32).toInt32)), .val (.int ((((0 : Int32) + (4 : Int32)) + (1 : Int32)) + (1 : Int32)))] [(.int ((((0 : Int32) + (4 : Int32)) + (1 : Int32)) + (1 : Int32)))])) _
                exact retI X0 hx Bd.returns (hb hby d5_81) hr
              · show Q5 Z p0 h0 n0 _ s₁.heap _
                rw [e0]
                exact ⟨by rw [f5, if_pos hc9_2, if_pos hc24_4, if_neg hc38_6, if_pos hc50_22, if_neg hc62_24, if_neg hc74_28], N0, rfl⟩
        · skip
          have G29 : ∀ t, Steps p.tables e below (s₁.setTop (mkF m 62 #[.val (.int p0), .val (.int (((((p0 - (1 : Int32)).toUInt32 >>> ((4 : Int32) &&& 31).toUInt32).toInt32).toUInt32 >>> ((2 : Int32) &&& 31).toUInt32).toInt32)), .val (.int (((0 : Int32) + (4 : Int32)) + (2 : Int32)))] [(.int (2 : Int32)), (.int (((((p0 - (1 : Int32)).toUInt32 >>> ((4 : Int32) &&& 31).toUInt32).toInt32).toUInt32 >>> ((2 : Int32) &&& 31).toUInt32).toInt32))])) t → Steps p.tables e below (s₁.setTop (entryFrame m #[(.int p0)] 3)) t := by
            intro t kt
            refine G21 _ ?_
            show Steps p.tables e below (s₁.setTop (mkF m 50 #[.val (.int p0), .val (.int (((p0 - (1 : Int32)).toUInt32 >>> ((4 : Int32) &&& 31).toUInt32).toInt32)), .val (.int ((0 : Int32) + (4 : Int32)))] [(.int (4 : Int32)), (.int (((p0 - (1 : Int32)).toUInt32 >>> ((4 : Int32) &&& 31).toUInt32).toInt32))])) _
            refine XS.icmpNo X0.here hx rfl (hb hby d5_50) rfl (flt hc50_22).1 ?_
            show Steps p.tables e below (s₁.setTop (mkF m 53 #[.val (.int p0), .val (.int (((p0 - (1 : Int32)).toUInt32 >>> ((4 : Int32) &&& 31).toUInt32).toInt32)), .val (.int ((0 : Int32) + (4 : Int32)))] [])) _
            refine XS.iinc X0.here hx rfl (hb hby d5_53) rfl (l' := #[.val (.int p0), .val (.int (((p0 - (1 : Int32)).toUInt32 >>> ((4 : Int32) &&& 31).toUInt32).toInt32)), .val (.int (((0 : Int32) + (4 : Int32)) + (2 : Int32)))]) rfl ?_
            show Steps p.tables e below (s₁.setTop (mkF m 56 #[.val (.int p0), .val (.int (((p0 - (1 : Int32)).toUInt32 >>> ((4 : Int32) &&& 31).toUInt32).toInt32)), .val (.int (((0 : Int32) + (4 : Int32)) + (2 : Int32)))] [])) _
            refine XS.iloadN X0.here hx rfl (hb hby d5_56) rfl ?_
            show Steps p.tables e below (s₁.setTop (mkF m 57 #[.val (.int p0), .val (.int (((p0 - (1 : Int32)).toUInt32 >>> ((4 : Int32) &&& 31).toUInt32).toInt32)), .val (.int (((0 : Int32) + (4 : Int32)) + (2 : Int32)))] [(.int (((p0 - (1 : Int32)).toUInt32 >>> ((4 : Int32) &&& 31).toUInt32).toInt32))])) _
            refine XS.iconst X0.here hx rfl (hb hby d5_57) ?_
            show Steps p.tables e below (s₁.setTop (mkF m 58 #[.val (.int p0), .val (.int (((p0 - (1 : Int32)).toUInt32 >>> ((4 : Int32) &&& 31).toUInt32).toInt32)), .val (.int (((0 : Int32) + (4 : Int32)) + (2 : Int32)))] [(.int (2 : Int32)), (.int (((p0 - (1 : Int32)).toUInt32 >>> ((4 : Int32) &&& 31).toUInt32).toInt32))])) _
            refine XS.iushr X0.here hx rfl (hb hby d5_58) rfl ?_
            show Steps p.tables e below (s₁.setTop (mkF m 59 #[.val (.int p0), .val (.int (((p0 - (1 : Int32)).toUInt32 >>> ((4 : Int32) &&& 31).toUInt32).toInt32)), .val (.int (((0 : Int32) + (4 : Int32)) + (2 : Int32)))] [(.int (((((p0 - (1 : Int32)).toUInt32 >>> ((4 : Int32) &&& 31).toUInt32).toInt32).toUInt32 >>> ((2 : Int32) &&& 31).toUInt32).toInt32))])) _
            refine XS.istoreN X0.here hx rfl (hb hby d5_59) rfl (l' := #[.val (.int p0), .val (.int (((((p0 - (1 : Int32)).toUInt32 >>> ((4 : Int32) &&& 31).toUInt32).toInt32).toUInt32 >>> ((2 : Int32) &&& 31).toUInt32).toInt32)), .val (.int (((0 : Int32) + (4 : Int32)) + (2 : Int32)))]) rfl ?_
            show Steps p.tables e below (s₁.setTop (mkF m 60 #[.val (.int p0), .val (.int (((((p0 - (1 : Int32)).toUInt32 >>> ((4 : Int32) &&& 31).toUInt32).toInt32).toUInt32 >>> ((2 : Int32) &&& 31).toUInt32).toInt32)), .val (.int (((0 : Int32) + (4 : Int32)) + (2 : Int32)))] [])) _
            refine XS.iloadN X0.here hx rfl (hb hby d5_60) rfl ?_
            show Steps p.tables e below (s₁.setTop (mkF m 61 #[.val (.int p0), .val (.int (((((p0 - (1 : Int32)).toUInt32 >>> ((4 : Int32) &&& 31).toUInt32).toInt32).toUInt32 >>> ((2 : Int32) &&& 31).toUInt32).toInt32)), .val (.int (((0 : Int32) + (4 : Int32)) + (2 : Int32)))] [(.int (((((p0 - (1 : Int32)).toUInt32 >>> ((4 : Int32) &&& 31).toUInt32).toInt32).toUInt32 >>> ((2 : Int32) &&& 31).toUInt32).toInt32))])) _
            refine XS.iconst X0.here hx rfl (hb hby d5_61) ?_
            exact kt
          by_cases hc62_30 : (((((p0 - (1 : Int32)).toUInt32 >>> ((4 : Int32) &&& 31).toUInt32).toInt32).toUInt32 >>> ((2 : Int32) &&& 31).toUInt32).toInt32) < (2 : Int32)
          · skip
            have G31 : ∀ t, Steps p.tables e below (s₁.setTop (mkF m 74 #[.val (.int p0), .val (.int (((((p0 - (1 : Int32)).toUInt32 >>> ((4 : Int32) &&& 31).toUInt32).toInt32).toUInt32 >>> ((2 : Int32) &&& 31).toUInt32).toInt32)), .val (.int (((0 : Int32) + (4 : Int32)) + (2 : Int32)))] [(.int (1 : Int32)), (.int (((((p0 - (1 : Int32)).toUInt32 >>> ((4 : Int32) &&& 31).toUInt32).toInt32).toUInt32 >>> ((2 : Int32) &&& 31).toUInt32).toInt32))])) t → Steps p.tables e below (s₁.setTop (entryFrame m #[(.int p0)] 3)) t := by
              intro t kt
              refine G29 _ ?_
              show Steps p.tables e below (s₁.setTop (mkF m 62 #[.val (.int p0), .val (.int (((((p0 - (1 : Int32)).toUInt32 >>> ((4 : Int32) &&& 31).toUInt32).toInt32).toUInt32 >>> ((2 : Int32) &&& 31).toUInt32).toInt32)), .val (.int (((0 : Int32) + (4 : Int32)) + (2 : Int32)))] [(.int (2 : Int32)), (.int (((((p0 - (1 : Int32)).toUInt32 >>> ((4 : Int32) &&& 31).toUInt32).toInt32).toUInt32 >>> ((2 : Int32) &&& 31).toUInt32).toInt32))])) _
              refine XS.icmpYes X0.here hx rfl (pc0 := 62) (pc' := 72) rfl (hb hby d5_62) rfl (tlt hc62_30).1 (by decide) (by decide) ?_
              show Steps p.tables e below (s₁.setTop (mkF m 72 #[.val (.int p0), .val (.int (((((p0 - (1 : Int32)).toUInt32 >>> ((4 : Int32) &&& 31).toUInt32).toInt32).toUInt32 >>> ((2 : Int32) &&& 31).toUInt32).toInt32)), .val (.int (((0 : Int32) + (4 : Int32)) + (2 : Int32)))] [])) _
              refine XS.iloadN X0.here hx rfl (hb hby d5_72) rfl ?_
              show Steps p.tables e below (s₁.setTop (mkF m 73 #[.val (.int p0), .val (.int (((((p0 - (1 : Int32)).toUInt32 >>> ((4 : Int32) &&& 31).toUInt32).toInt32).toUInt32 >>> ((2 : Int32) &&& 31).toUInt32).toInt32)), .val (.int (((0 : Int32) + (4 : Int32)) + (2 : Int32)))] [(.int (((((p0 - (1 : Int32)).toUInt32 >>> ((4 : Int32) &&& 31).toUInt32).toInt32).toUInt32 >>> ((2 : Int32) &&& 31).toUInt32).toInt32))])) _
              refine XS.iconst X0.here hx rfl (hb hby d5_73) ?_
              exact kt
            by_cases hc74_32 : (((((p0 - (1 : Int32)).toUInt32 >>> ((4 : Int32) &&& 31).toUInt32).toInt32).toUInt32 >>> ((2 : Int32) &&& 31).toUInt32).toInt32) < (1 : Int32)
            · skip
              obtain ⟨fs, hr, hrun, hended, hW, hsame⟩ := X0.leave (v := some (.int (((0 : Int32) + (4 : Int32)) + (2 : Int32)))) (fun h => by rw [Bd.returns] at h; cases h)
              refine ⟨_, _, G31 _ ?_, hrun, hended, _, _, rfl, ?_, ⟨_, rfl⟩, hW, hsame.mono (by decide) (by decide)⟩
              · skip
                show Steps p.tables e below (s₁.setTop (mkF m 74 #[.val (.int p0), .val (.int (((((p0 - (1 : Int32)).toUInt32 >>> ((4 : Int32) &&& 31).toUInt32).toInt32).toUInt32 >>> ((2 : Int32) &&& 31).toUInt32).toInt32)), .val (.int (((0 : Int32) + (4 : Int32)) + (2 : Int32)))] [(.int (1 : Int32)), (.int (((((p0 - (1 : Int32)).toUInt32 >>> ((4 : Int32) &&& 31).toUInt32).toInt32).toUInt32 >>> ((2 : Int32) &&& 31).toUInt32).toInt32))])) _
                refine XS.icmpYes X0.here hx rfl (pc0 := 74) (pc' := 80) rfl (hb hby d5_74) rfl (tlt hc74_32).1 (by decide) (by decide) ?_
                show Steps p.tables e below (s₁.setTop (mkF m 80 #[.val (.int p0), .val (.int (((((p0 - (1 : Int32)).toUInt32 >>> ((4 : Int32) &&& 31).toUInt32).toInt32).toUInt32 >>> ((2 : Int32) &&& 31).toUInt32).toInt32)), .val (.int (((0 : Int32) + (4 : Int32)) + (2 : Int32)))] [])) _
                refine XS.iloadN X0.here hx rfl (hb hby d5_80) rfl ?_
                show Steps p.tables e below (s₁.setTop (mkF m 81 #[.val (.int p0), .val (.int (((((p0 - (1 : Int32)).toUInt32 >>> ((4 : Int32) &&& 31).toUInt32).toInt32).toUInt32 >>> ((2 : Int32) &&& 31).toUInt32).toInt32)), .val (.int (((0 : Int32) + (4 : Int32)) + (2 : Int32)))] [(.int (((0 : Int32) + (4 : Int32)) + (2 : Int32)))])) _
                exact retI X0 hx Bd.returns (hb hby d5_81) hr
              · show Q5 Z p0 h0 n0 _ s₁.heap _
                rw [e0]
                exact ⟨by rw [f5, if_pos hc9_2, if_pos hc24_4, if_neg hc38_6, if_neg hc50_22, if_pos hc62_30, if_pos hc74_32], N0, rfl⟩
            · skip
              obtain ⟨fs, hr, hrun, hended, hW, hsame⟩ := X0.leave (v := some (.int ((((0 : Int32) + (4 : Int32)) + (2 : Int32)) + (1 : Int32)))) (fun h => by rw [Bd.returns] at h; cases h)
              refine ⟨_, _, G31 _ ?_, hrun, hended, _, _, rfl, ?_, ⟨_, rfl⟩, hW, hsame.mono (by decide) (by decide)⟩
              · skip
                show Steps p.tables e below (s₁.setTop (mkF m 74 #[.val (.int p0), .val (.int (((((p0 - (1 : Int32)).toUInt32 >>> ((4 : Int32) &&& 31).toUInt32).toInt32).toUInt32 >>> ((2 : Int32) &&& 31).toUInt32).toInt32)), .val (.int (((0 : Int32) + (4 : Int32)) + (2 : Int32)))] [(.int (1 : Int32)), (.int (((((p0 - (1 : Int32)).toUInt32 >>> ((4 : Int32) &&& 31).toUInt32).toInt32).toUInt32 >>> ((2 : Int32) &&& 31).toUInt32).toInt32))])) _
                refine XS.icmpNo X0.here hx rfl (hb hby d5_74) rfl (flt hc74_32).1 ?_
                show Steps p.tables e below (s₁.setTop (mkF m 77 #[.val (.int p0), .val (.int (((((p0 - (1 : Int32)).toUInt32 >>> ((4 : Int32) &&& 31).toUInt32).toInt32).toUInt32 >>> ((2 : Int32) &&& 31).toUInt32).toInt32)), .val (.int (((0 : Int32) + (4 : Int32)) + (2 : Int32)))] [])) _
                refine XS.iinc X0.here hx rfl (hb hby d5_77) rfl (l' := #[.val (.int p0), .val (.int (((((p0 - (1 : Int32)).toUInt32 >>> ((4 : Int32) &&& 31).toUInt32).toInt32).toUInt32 >>> ((2 : Int32) &&& 31).toUInt32).toInt32)), .val (.int ((((0 : Int32) + (4 : Int32)) + (2 : Int32)) + (1 : Int32)))]) rfl ?_
                show Steps p.tables e below (s₁.setTop (mkF m 80 #[.val (.int p0), .val (.int (((((p0 - (1 : Int32)).toUInt32 >>> ((4 : Int32) &&& 31).toUInt32).toInt32).toUInt32 >>> ((2 : Int32) &&& 31).toUInt32).toInt32)), .val (.int ((((0 : Int32) + (4 : Int32)) + (2 : Int32)) + (1 : Int32)))] [])) _
                refine XS.iloadN X0.here hx rfl (hb hby d5_80) rfl ?_
                show Steps p.tables e below (s₁.setTop (mkF m 81 #[.val (.int p0), .val (.int (((((p0 - (1 : Int32)).toUInt32 >>> ((4 : Int32) &&& 31).toUInt32).toInt32).toUInt32 >>> ((2 : Int32) &&& 31).toUInt32).toInt32)), .val (.int ((((0 : Int32) + (4 : Int32)) + (2 : Int32)) + (1 : Int32)))] [(.int ((((0 : Int32) + (4 : Int32)) + (2 : Int32)) + (1 : Int32)))])) _
                exact retI X0 hx Bd.returns (hb hby d5_81) hr
              · show Q5 Z p0 h0 n0 _ s₁.heap _
                rw [e0]
                exact ⟨by rw [f5, if_pos hc9_2, if_pos hc24_4, if_neg hc38_6, if_neg hc50_22, if_pos hc62_30, if_neg hc74_32], N0, rfl⟩
          · skip
            have G33 : ∀ t, Steps p.tables e below (s₁.setTop (mkF m 74 #[.val (.int p0), .val (.int (((((((p0 - (1 : Int32)).toUInt32 >>> ((4 : Int32) &&& 31).toUInt32).toInt32).toUInt32 >>> ((2 : Int32) &&& 31).toUInt32).toInt32).toUInt32 >>> ((1 : Int32) &&& 31).toUInt32).toInt32)), .val (.int ((((0 : Int32) + (4 : Int32)) + (2 : Int32)) + (1 : Int32)))] [(.int (1 : Int32)), (.int (((((((p0 - (1 : Int32)).toUInt32 >>> ((4 : Int32) &&& 31).toUInt32).toInt32).toUInt32 >>> ((2 : Int32) &&& 31).toUInt32).toInt32).toUInt32 >>> ((1 : Int32) &&& 31).toUInt32).toInt32))])) t → Steps p.tables e below (s₁.setTop (entryFrame m #[(.int p0)] 3)) t := by
              intro t kt
              refine G29 _ ?_
              show Steps p.tables e below (s₁.setTop (mkF m 62 #[.val (.int p0), .val (.int (((((p0 - (1 : Int32)).toUInt32 >>> ((4 : Int32) &&& 31).toUInt32).toInt32).toUInt32 >>> ((2 : Int32) &&& 31).toUInt32).toInt32)), .val (.int (((0 : Int32) + (4 : Int32)) + (2 : Int32)))] [(.int (2 : Int32)), (.int (((((p0 - (1 : Int32)).toUInt32 >>> ((4 : Int32) &&& 31).toUInt32).toInt32).toUInt32 >>> ((2 : Int32) &&& 31).toUInt32).toInt32))])) _
              refine XS.icmpNo X0.here hx rfl (hb hby d5_62) rfl (flt hc62_30).1 ?_
              show Steps p.tables e below (s₁.setTop (mkF m 65 #[.val (.int p0), .val (.int (((((p0 - (1 : Int32)).toUInt32 >>> ((4 : Int32) &&& 31).toUInt32).toInt32).toUInt32 >>> ((2 : Int32) &&& 31).toUInt32).toInt32)), .val (.int (((0 : Int32) + (4 : Int32)) + (2 : Int32)))] [])) _
              refine XS.iinc X0.here hx rfl (hb hby d5_65) rfl (l' := #[.val (.int p0), .val (.int (((((p0 - (1 : Int32)).toUInt32 >>> ((4 : Int32) &&& 31).toUInt32).toInt32).toUInt32 >>> ((2 : Int32) &&& 31).toUInt32).toInt32)), .val (.int ((((0 : Int32) + (4 : Int32)) + (2 : Int32)) + (1 : Int32)))]) rfl ?_
              show Steps p.tables e below (s₁.setTop (mkF m 68 #[.val (.int p0), .val (.int (((((p0 - (1 : Int32)).toUInt32 >>> ((4 : Int32) &&& 31).toUInt32).toInt32).toUInt32 >>> ((2 : Int32) &&& 31).toUInt32).toInt32)), .val (.int ((((0 : Int32) + (4 : Int32)) + (2 : Int32)) + (1 : Int32)))] [])) _
              refine XS.iloadN X0.here hx rfl (hb hby d5_68) rfl ?_
              show Steps p.tables e below (s₁.setTop (mkF m 69 #[.val (.int p0), .val (.int (((((p0 - (1 : Int32)).toUInt32 >>> ((4 : Int32) &&& 31).toUInt32).toInt32).toUInt32 >>> ((2 : Int32) &&& 31).toUInt32).toInt32)), .val (.int ((((0 : Int32) + (4 : Int32)) + (2 : Int32)) + (1 : Int32)))] [(.int (((((p0 - (1 : Int32)).toUInt32 >>> ((4 : Int32) &&& 31).toUInt32).toInt32).toUInt32 >>> ((2 : Int32) &&& 31).toUInt32).toInt32))])) _
              refine XS.iconst X0.here hx rfl (hb hby d5_69) ?_
              show Steps p.tables e below (s₁.setTop (mkF m 70 #[.val (.int p0), .val (.int (((((p0 - (1 : Int32)).toUInt32 >>> ((4 : Int32) &&& 31).toUInt32).toInt32).toUInt32 >>> ((2 : Int32) &&& 31).toUInt32).toInt32)), .val (.int ((((0 : Int32) + (4 : Int32)) + (2 : Int32)) + (1 : Int32)))] [(.int (1 : Int32)), (.int (((((p0 - (1 : Int32)).toUInt32 >>> ((4 : Int32) &&& 31).toUInt32).toInt32).toUInt32 >>> ((2 : Int32) &&& 31).toUInt32).toInt32))])) _
              refine XS.iushr X0.here hx rfl (hb hby d5_70) rfl ?_
              show Steps p.tables e below (s₁.setTop (mkF m 71 #[.val (.int p0), .val (.int (((((p0 - (1 : Int32)).toUInt32 >>> ((4 : Int32) &&& 31).toUInt32).toInt32).toUInt32 >>> ((2 : Int32) &&& 31).toUInt32).toInt32)), .val (.int ((((0 : Int32) + (4 : Int32)) + (2 : Int32)) + (1 : Int32)))] [(.int (((((((p0 - (1 : Int32)).toUInt32 >>> ((4 : Int32) &&& 31).toUInt32).toInt32).toUInt32 >>> ((2 : Int32) &&& 31).toUInt32).toInt32).toUInt32 >>> ((1 : Int32) &&& 31).toUInt32).toInt32))])) _
              refine XS.istoreN X0.here hx rfl (hb hby d5_71) rfl (l' := #[.val (.int p0), .val (.int (((((((p0 - (1 : Int32)).toUInt32 >>> ((4 : Int32) &&& 31).toUInt32).toInt32).toUInt32 >>> ((2 : Int32) &&& 31).toUInt32).toInt32).toUInt32 >>> ((1 : Int32) &&& 31).toUInt32).toInt32)), .val (.int ((((0 : Int32) + (4 : Int32)) + (2 : Int32)) + (1 : Int32)))]) rfl ?_
              show Steps p.tables e below (s₁.setTop (mkF m 72 #[.val (.int p0), .val (.int (((((((p0 - (1 : Int32)).toUInt32 >>> ((4 : Int32) &&& 31).toUInt32).toInt32).toUInt32 >>> ((2 : Int32) &&& 31).toUInt32).toInt32).toUInt32 >>> ((1 : Int32) &&& 31).toUInt32).toInt32)), .val (.int ((((0 : Int32) + (4 : Int32)) + (2 : Int32)) + (1 : Int32)))] [])) _
              refine XS.iloadN X0.here hx rfl (hb hby d5_72) rfl ?_
              show Steps p.tables e below (s₁.setTop (mkF m 73 #[.val (.int p0), .val (.int (((((((p0 - (1 : Int32)).toUInt32 >>> ((4 : Int32) &&& 31).toUInt32).toInt32).toUInt32 >>> ((2 : Int32) &&& 31).toUInt32).toInt32).toUInt32 >>> ((1 : Int32) &&& 31).toUInt32).toInt32)), .val (.int ((((0 : Int32) + (4 : Int32)) + (2 : Int32)) + (1 : Int32)))] [(.int (((((((p0 - (1 : Int32)).toUInt32 >>> ((4 : Int32) &&& 31).toUInt32).toInt32).toUInt32 >>> ((2 : Int32) &&& 31).toUInt32).toInt32).toUInt32 >>> ((1 : Int32) &&& 31).toUInt32).toInt32))])) _
              refine XS.iconst X0.here hx rfl (hb hby d5_73) ?_
              exact kt
            by_cases hc74_34 : (((((((p0 - (1 : Int32)).toUInt32 >>> ((4 : Int32) &&& 31).toUInt32).toInt32).toUInt32 >>> ((2 : Int32) &&& 31).toUInt32).toInt32).toUInt32 >>> ((1 : Int32) &&& 31).toUInt32).toInt32) < (1 : Int32)
            · skip
              obtain ⟨fs, hr, hrun, hended, hW, hsame⟩ := X0.leave (v := some (.int ((((0 : Int32) + (4 : Int32)) + (2 : Int32)) + (1 : Int32)))) (fun h => by rw [Bd.returns] at h; cases h)
              refine ⟨_, _, G33 _ ?_, hrun, hended, _, _, rfl, ?_, ⟨_, rfl⟩, hW, hsame.mono (by decide) (by decide)⟩
              · skip
                show Steps p.tables e below (s₁.setTop (mkF m 74 #[.val (.int p0), .val (.int (((((((p0 - (1 : Int32)).toUInt32 >>> ((4 : Int32) &&& 31).toUInt32).toInt32).toUInt32 >>> ((2 : Int32) &&& 31).toUInt32).toInt32).toUInt32 >>> ((1 : Int32) &&& 31).toUInt32).toInt32)), .val (.int ((((0 : Int32) + (4 : Int32)) + (2 : Int32)) + (1 : Int32)))] [(.int (1 : Int32)), (.int (((((((p0 - (1 : Int32)).toUInt32 >>> ((4 : Int32) &&& 31).toUInt32).toInt32).toUInt32 >>> ((2 : Int32) &&& 31).toUInt32).toInt32).toUInt32 >>> ((1 : Int32) &&& 31).toUInt32).toInt32))])) _
                refine XS.icmpYes X0.here hx rfl (pc0 := 74) (pc' := 80) rfl (hb hby d5_74) rfl (tlt hc74_34).1 (by decide) (by decide) ?_
                show Steps p.tables e below (s₁.setTop (mkF m 80 #[.val (.int p0), .val (.int (((((((p0 - (1 : Int32)).toUInt32 >>> ((4 : Int32) &&& 31).toUInt32).toInt32).toUInt32 >>> ((2 : Int32) &&& 31).toUInt32).toInt32).toUInt32 >>> ((1 : Int32) &&& 31).toUInt32).toInt32)), .val (.int ((((0 : Int32) + (4 : Int32)) + (2 : Int32)) + (1 : Int32)))] [])) _
                refine XS.iloadN X0.here hx rfl (hb hby d5_80) rfl ?_
                show Steps p.tables e below (s₁.setTop (mkF m 81 #[.val (.int p0), .val (.int (((((((p0 - (1 : Int32)).toUInt32 >>> ((4 : Int32) &&& 31).toUInt32).toInt32).toUInt32 >>> ((2 : Int32) &&& 31).toUInt32).toInt32).toUInt32 >>> ((1 : Int32) &&& 31).toUInt32).toInt32)), .val (.int ((((0 : Int32) + (4 : Int32)) + (2 : Int32)) + (1 : Int32)))] [(.int ((((0 : Int32) + (4 : Int32)) + (2 : Int32)) + (1 : Int32)))])) _
                exact retI X0 hx Bd.returns (hb hby d5_81) hr
              · show Q5 Z p0 h0 n0 _ s₁.heap _
                rw [e0]
                exact ⟨by rw [f5, if_pos hc9_2, if_pos hc24_4, if_neg hc38_6, if_neg hc50_22, if_neg hc62_30, if_pos hc74_34], N0, rfl⟩
            · skip
              obtain ⟨fs, hr, hrun, hended, hW, hsame⟩ := X0.leave (v := some (.int (((((0 : Int32) + (4 : Int32)) + (2 : Int32)) + (1 : Int32)) + (1 : Int32)))) (fun h => by rw [Bd.returns] at h; cases h)
              refine ⟨_, _, G33 _ ?_, hrun, hended, _, _, rfl, ?_, ⟨_, rfl⟩, hW, hsame.mono (by decide) (by decide)⟩
              · skip
                show Steps p.tables e below (s₁.setTop (mkF m 74 #[.val (.int p0), .val (.int (((((((p0 - (1 : Int32)).toUInt32 >>> ((4 : Int32) &&& 31).toUInt32).toInt32).toUInt32 >>> ((2 : Int32) &&& 31).toUInt32).toInt32).toUInt32 >>> ((1 : Int32) &&& 31).toUInt32).toInt32)), .val (.int ((((0 : Int32) + (4 : Int32)) + (2 : Int32)) + (1 : Int32)))] [(.int (1 : Int32)), (.int (((((((p0 - (1 : Int32)).toUInt32 >>> ((4 : Int32) &&& 31).toUInt32).toInt32).toUInt32 >>> ((2 : Int32) &&& 31).toUInt32).toInt32).toUInt32 >>> ((1 : Int32) &&& 31).toUInt32).toInt32))])) _
                refine XS.icmpNo X0.here hx rfl (hb hby d5_74) rfl (flt hc74_34).1 ?_
                show Steps p.tables e below (s₁.setTop (mkF m 77 #[.val (.int p0), .val (.int (((((((p0 - (1 : Int32)).toUInt32 >>> ((4 : Int32) &&& 31).toUInt32).toInt32).toUInt32 >>> ((2 : Int32) &&& 31).toUInt32).toInt32).toUInt32 >>> ((1 : Int32) &&& 31).toUInt32).toInt32)), .val (.int ((((0 : Int32) + (4 : Int32)) + (2 : Int32)) + (1 : Int32)))] [])) _
                refine XS.iinc X0.here hx rfl (hb hby d5_77) rfl (l' := #[.val (.int p0), .val (.int (((((((p0 - (1 : Int32)).toUInt32 >>> ((4 : Int32) &&& 31).toUInt32).toInt32).toUInt32 >>> ((2 : Int32) &&& 31).toUInt32).toInt32).toUInt32 >>> ((1 : Int32) &&& 31).toUInt32).toInt32)), .val (.int (((((0 : Int32) + (4 : Int32)) + (2 : Int32)) + (1 : Int32)) + (1 : Int32)))]) rfl ?_
                show Steps p.tables e below (s₁.setTop (mkF m 80 #[.val (.int p0), .val (.int (((((((p0 - (1 : Int32)).toUInt32 >>> ((4 : Int32) &&& 31).toUInt32).toInt32).toUInt32 >>> ((2 : Int32) &&& 31).toUInt32).toInt32).toUInt32 >>> ((1 : Int32) &&& 31).toUInt32).toInt32)), .val (.int (((((0 : Int32) + (4 : Int32)) + (2 : Int32)) + (1 : Int32)) + (1 : Int32)))] [])) _
                refine XS.iloadN X0.here hx rfl (hb hby d5_80) rfl ?_
                show Steps p.tables e below (s₁.setTop (mkF m 81 #[.val (.int p0), .val (.int (((((((p0 - (1 : Int32)).toUInt32 >>> ((4 : Int32) &&& 31).toUInt32).toInt32).toUInt32 >>> ((2 : Int32) &&& 31).toUInt32).toInt32).toUInt32 >>> ((1 : Int32) &&& 31).toUInt32).toInt32)), .val (.int (((((0 : Int32) + (4 : Int32)) + (2 : Int32)) + (1 : Int32)) + (1 : Int32)))] [(.int (((((0 : Int32) + (4 : Int32)) + (2 : Int32)) + (1 : Int32)) + (1 : Int32)))])) _
                exact retI X0 hx Bd.returns (hb hby d5_81) hr
              · show Q5 Z p0 h0 n0 _ s₁.heap _
                rw [e0]
                exact ⟨by rw [f5, if_pos hc9_2, if_pos hc24_4, if_neg hc38_6, if_neg hc50_22, if_neg hc62_30, if_neg hc74_34], N0, rfl⟩
    · skip
      have G35 : ∀ t, Steps p.tables e below (s₁.setTop (mkF m 38 #[.val (.int p0), .val (.int (((p0 - (1 : Int32)).toUInt32 >>> ((8 : Int32) &&& 31).toUInt32).toInt32)), .val (.int ((0 : Int32) + (8 : Int32)))] [(.int (16 : Int32)), (.int (((p0 - (1 : Int32)).toUInt32 >>> ((8 : Int32) &&& 31).toUInt32).toInt32))])) t → Steps p.tables e below (s₁.setTop (entryFrame m #[(.int p0)] 3)) t := by
        intro t kt
        refine G3 _ ?_
        show Steps p.tables e below (s₁.setTop (mkF m 24 #[.val (.int p0), .val (.int (p0 - (1 : Int32))), .val (.int (0 : Int32))] [(.int (256 : Int32)), (.int (p0 - (1 : Int32)))])) _
        refine XS.icmpNo X0.here hx rfl (hb hby d5_24) rfl (flt hc24_4).1 ?_
        show Steps p.tables e below (s₁.setTop (mkF m 27 #[.val (.int p0), .val (.int (p0 - (1 : Int32))), .val (.int (0 : Int32))] [])) _
        refine XS.iinc X0.here hx rfl (hb hby d5_27) rfl (l' := #[.val (.int p0), .val (.int (p0 - (1 : Int32))), .val (.int ((0 : Int32) + (8 : Int32)))]) rfl ?_
        show Steps p.tables e below (s₁.setTop (mkF m 30 #[.val (.int p0), .val (.int (p0 - (1 : Int32))), .val (.int ((0 : Int32) + (8 : Int32)))] [])) _
        refine XS.iloadN X0.here hx rfl (hb hby d5_30) rfl ?_
        show Steps p.tables e below (s₁.setTop (mkF m 31 #[.val (.int p0), .val (.int (p0 - (1 : Int32))), .val (.int ((0 : Int32) + (8 : Int32)))] [(.int (p0 - (1 : Int32)))])) _
        refine XS.bipush X0.here hx rfl (hb hby d5_31) ?_
        show Steps p.tables e below (s₁.setTop (mkF m 33 #[.val (.int p0), .val (.int (p0 - (1 : Int32))), .val (.int ((0 : Int32) + (8 : Int32)))] [(.int (8 : Int32)), (.int (p0 - (1 : Int32)))])) _
        refine XS.iushr X0.here hx rfl (hb hby d5_33) rfl ?_
        show Steps p.tables e below (s₁.setTop (mkF m 34 #[.val (.int p0), .val (.int (p0 - (1 : Int32))), .val (.int ((0 : Int32) + (8 : Int32)))] [(.int (((p0 - (1 : Int32)).toUInt32 >>> ((8 : Int32) &&& 31).toUInt32).toInt32))])) _
        refine XS.istoreN X0.here hx rfl (hb hby d5_34) rfl (l' := #[.val (.int p0), .val (.int (((p0 - (1 : Int32)).toUInt32 >>> ((8 : Int32) &&& 31).toUInt32).toInt32)), .val (.int ((0 : Int32) + (8 : Int32)))]) rfl ?_
        show Steps p.tables e below (s₁.setTop (mkF m 35 #[.val (.int p0), .val (.int (((p0 - (1 : Int32)).toUInt32 >>> ((8 : Int32) &&& 31).toUInt32).toInt32)), .val (.int ((0 : Int32) + (8 : Int32)))] [])) _
        refine XS.iloadN X0.here hx rfl (hb hby d5_35) rfl ?_
        show Steps p.tables e below (s₁.setTop (mkF m 36 #[.val (.int p0), .val (.int (((p0 - (1 : Int32)).toUInt32 >>> ((8 : Int32) &&& 31).toUInt32).toInt32)), .val (.int ((0 : Int32) + (8 : Int32)))] [(.int (((p0 - (1 : Int32)).toUInt32 >>> ((8 : Int32) &&& 31).toUInt32).toInt32))])) _
        refine XS.bipush X0.here hx rfl (hb hby d5_36) ?_
        exact kt
      by_cases hc38_36 : (((p0 - (1 : Int32)).toUInt32 >>> ((8 : Int32) &&& 31).toUInt32).toInt32) < (16 : Int32)
      · skip
        have G37 : ∀ t, Steps p.tables e below (s₁.setTop (mkF m 50 #[.val (.int p0), .val (.int (((p0 - (1 : Int32)).toUInt32 >>> ((8 : Int32) &&& 31).toUInt32).toInt32)), .val (.int ((0 : Int32) + (8 : Int32)))] [(.int (4 : Int32)), (.int (((p0 - (1 : Int32)).toUInt32 >>> ((8 : Int32) &&& 31).toUInt32).toInt32))])) t → Steps p.tables e below (s₁.setTop (entryFrame m #[(.int p0)] 3)) t := by
          intro t kt
          refine G35 _ ?_
          show Steps p.tables e below (s₁.setTop (mkF m 38 #[.val (.int p0), .val (.int (((p0 - (1 : Int32)).toUInt32 >>> ((8 : Int32) &&& 31).toUInt32).toInt32)), .val (.int ((0 : Int32) + (8 : Int32)))] [(.int (16 : Int32)), (.int (((p0 - (1 : Int32)).toUInt32 >>> ((8 : Int32) &&& 31).toUInt32).toInt32))])) _
          refine XS.icmpYes X0.here hx rfl (pc0 := 38) (pc' := 48) rfl (hb hby d5_38) rfl (tlt hc38_36).1 (by decide) (by decide) ?_
          show Steps p.tables e below (s₁.setTop (mkF m 48 #[.val (.int p0), .val (.int (((p0 - (1 : Int32)).toUInt32 >>> ((8 : Int32) &&& 31).toUInt32).toInt32)), .val (.int ((0 : Int32) + (8 : Int32)))] [])) _
          refine XS.iloadN X0.here hx rfl (hb hby d5_48) rfl ?_
          show Steps p.tables e below (s₁.setTop (mkF m 49 #[.val (.int p0), .val (.int (((p0 - (1 : Int32)).toUInt32 >>> ((8 : Int32) &&& 31).toUInt32).toInt32)), .val (.int ((0 : Int32) + (8 : Int32)))] [(.int (((p0 - (1 : Int32)).toUInt32 >>> ((8 : Int32) &&& 31).toUInt32).toInt32))])) _
          refine XS.iconst X0.here hx rfl (hb hby d5_49) ?_
          exact kt
        by_cases hc50_38 : (((p0 - (1 : Int32)).toUInt32 >>> ((8 : Int32) &&& 31).toUInt32).toInt32) < (4 : Int32)
        · skip
          have G39 : ∀ t, Steps p.tables e below (s₁.setTop (mkF m 62 #[.val (.int p0), .val (.int (((p0 - (1 : Int32)).toUInt32 >>> ((8 : Int32) &&& 31).toUInt32).toInt32)), .val (.int ((0 : Int32) + (8 : Int32)))] [(.int (2 : Int32)), (.int (((p0 - (1 : Int32)).toUInt32 >>> ((8 : Int32) &&& 31).toUInt32).toInt32))])) t → Steps p.tables e below (s₁.setTop (entryFrame m #[(.int p0)] 3)) t := by
            intro t kt
            refine G37 _ ?_
            show Steps p.tables e below (s₁.setTop (mkF m 50 #[.val (.int p0), .val (.int (((p0 - (1 : Int32)).toUInt32 >>> ((8 : Int32) &&& 31).toUInt32).toInt32)), .val (.int ((0 : Int32) + (8 : Int32)))] [(.int (4 : Int32)), (.int (((p0 - (1 : Int32)).toUInt32 >>> ((8 : Int32) &&& 31).toUInt32).toInt32))])) _
            refine XS.icmpYes X0.here hx rfl (pc0 := 50) (pc' := 60) rfl (hb hby d5_50) rfl (tlt hc50_38).1 (by decide) (by decide) ?_
            show Steps p.tables e below (s₁.setTop (mkF m 60 #[.val (.int p0), .val (.int (((p0 - (1 : Int32)).toUInt32 >>> ((8 : Int32) &&& 31).toUInt32).toInt32)), .val (.int ((0 : Int32) + (8 : Int32)))] [])) _
            refine XS.iloadN X0.here hx rfl (hb hby d5_60) rfl ?_
            show Steps p.tables e below (s₁.setTop (mkF m 61 #[.val (.int p0), .val (.int (((p0 - (1 : Int32)).toUInt32 >>> ((8 : Int32) &&& 31).toUInt32).toInt32)), .val (.int ((0 : Int32) + (8 : Int32)))] [(.int (((p0 - (1 : Int32)).toUInt32 >>> ((8 : Int32) &&& 31).toUInt32).toInt32))])) _
            refine XS.iconst X0.here hx rfl (hb hby d5_61) ?_
            exact kt
          by_cases hc62_40 : (((p0 - (1 : Int32)).toUInt32 >>> ((8 : Int32) &&& 31).toUInt32).toInt32) < (2 : Int32)
          · skip
            have G41 : ∀ t, Steps p.tables e below (s₁.setTop (mkF m 74 #[.val (.int p0), .val (.int (((p0 - (1 : Int32)).toUInt32 >>> ((8 : Int32) &&& 31).toUInt32).toInt32)), .val (.int ((0 : Int32) + (8 : Int32)))] [(.int (1 : Int32)), (.int (((p0 - (1 : Int32)).toUInt32 >>> ((8 : Int32) &&& 31).toUInt32).toInt32))])) t → Steps p.tables e below (s₁.setTop (entryFrame m #[(.int p0)] 3)) t := by
              intro t kt
              refine G39 _ ?_
              show Steps p.tables e below (s₁.setTop (mkF m 62 #[.val (.int p0), .val (.int (((p0 - (1 : Int32)).toUInt32 >>> ((8 : Int32) &&& 31).toUInt32).toInt32)), .val (.int ((0 : Int32) + (8 : Int32)))] [(.int (2 : Int32)), (.int (((p0 - (1 : Int32)).toUInt32 >>> ((8 : Int32) &&& 31).toUInt32).toInt32))])) _
              refine XS.icmpYes X0.here hx rfl (pc0 := 62) (pc' := 72) rfl (hb hby d5_62) rfl (tlt hc62_40).1 (by decide) (by decide) ?_
              show Steps p.tables e below (s₁.setTop (mkF m 72 #[.val (.int p0), .val (.int (((p0 - (1 : Int32)).toUInt32 >>> ((8 : Int32) &&& 31).toUInt32).toInt32)), .val (.int ((0 : Int32) + (8 : Int32)))] [])) _
              refine XS.iloadN X0.here hx rfl (hb hby d5_72) rfl ?_
              show Steps p.tables e below (s₁.setTop (mkF m 73 #[.val (.int p0), .val (.int (((p0 - (1 : Int32)).toUInt32 >>> ((8 : Int32) &&& 31).toUInt32).toInt32)), .val (.int ((0 : Int32) + (8 : Int32)))] [(.int (((p0 - (1 : Int32)).toUInt32 >>> ((8 : Int32) &&& 31).toUInt32).toInt32))])) _
              refine XS.iconst X0.here hx rfl (hb hby d5_73) ?_
              exact kt
            by_cases hc74_42 : (((p0 - (1 : Int32)).toUInt32 >>> ((8 : Int32) &&& 31).toUInt32).toInt32) < (1 : Int32)
            · skip
              obtain ⟨fs, hr, hrun, hended, hW, hsame⟩ := X0.leave (v := some (.int ((0 : Int32) + (8 : Int32)))) (fun h => by rw [Bd.returns] at h; cases h)
              refine ⟨_, _, G41 _ ?_, hrun, hended, _, _, rfl, ?_, ⟨_, rfl⟩, hW, hsame.mono (by decide) (by decide)⟩
              · skip
                show Steps p.tables e below (s₁.setTop (mkF m 74 #[.val (.int p0), .val (.int (((p0 - (1 : Int32)).toUInt32 >>> ((8 : Int32) &&& 31).toUInt32).toInt32)), .val (.int ((0 : Int32) + (8 : Int32)))] [(.int (1 : Int32)), (.int (((p0 - (1 : Int32)).toUInt32 >>> ((8 : Int32) &&& 31).toUInt32).toInt32))])) _
                refine XS.icmpYes X0.here hx rfl (pc0 := 74) (pc' := 80) rfl (hb hby d5_74) rfl (tlt hc74_42).1 (by decide) (by decide) ?_
                show Steps p.tables e below (s₁.setTop (mkF m 80 #[.val (.int p0), .val (.int (((p0 - (1 : Int32)).toUInt32 >>> ((8 : Int32) &&& 31).toUInt32).toInt32)), .val (.int ((0 : Int32) + (8 : Int32)))] [])) _
                refine XS.iloadN X0.here hx rfl (hb hby d5_80) rfl ?_
                show Steps p.tables e below (s₁.setTop (mkF m 81 #[.val (.int p0), .val (.int (((p0 - (1 : Int32)).toUInt32 >>> ((8 : Int32) &&& 31).toUInt32).toInt32)), .val (.int ((0 : Int32) + (8 : Int32)))] [(.int ((0 : Int32) + (8 : Int32)))])) _
                exact retI X0 hx Bd.returns (hb hby d5_81) hr
              · show Q5 Z p0 h0 n0 _ s₁.heap _
                rw [e0]
                exact ⟨by rw [f5, if_pos hc9_2, if_neg hc24_4, if_pos hc38_36, if_pos hc50_38, if_pos hc62_40, if_pos hc74_42], N0, rfl⟩
            · skip
              obtain ⟨fs, hr, hrun, hended, hW, hsame⟩ := X0.leave (v := some (.int (((0 : Int32) + (8 : Int32)) + (1 : Int32)))) (fun h => by rw [Bd.returns] at h; cases h)
              refine ⟨_, _, G41 _ ?_, hrun, hended, _, _, rfl, ?_, ⟨_, rfl⟩, hW, hsame.mono (by decide) (by decide)⟩
              · skip
                show Steps p.tables e below (s₁.setTop (mkF m 74 #[.val (.int p0), .val (.int (((p0 - (1 : Int32)).toUInt32 >>> ((8 : Int32) &&& 31).toUInt32).toInt32)), .val (.int ((0 : Int32) + (8 : Int32)))] [(.int (1 : Int32)), (.int (((p0 - (1 : Int32)).toUInt32 >>> ((8 : Int32) &&& 31).toUInt32).toInt32))])) _
                refine XS.icmpNo X0.here hx rfl (hb hby d5_74) rfl (flt hc74_42).1 ?_
                show Steps p.tables e below (s₁.setTop (mkF m 77 #[.val (.int p0), .val (.int (((p0 - (1 : Int32)).toUInt32 >>> ((8 : Int32) &&& 31).toUInt32).toInt32)), .val (.int ((0 : Int32) + (8 : Int32)))] [])) _
                refine XS.iinc X0.here hx rfl (hb hby d5_77) rfl (l' := #[.val (.int p0), .val (.int (((p0 - (1 : Int32)).toUInt32 >>> ((8 : Int32) &&& 31).toUInt32).toInt32)), .val (.int (((0 : Int32) + (8 : Int32)) + (1 : Int32)))]) rfl ?_
                show Steps p.tables e below (s₁.setTop (mkF m 80 #[.val (.int p0), .val (.int (((p0 - (1 : Int32)).toUInt32 >>> ((8 : Int32) &&& 31).toUInt32).toInt32)), .val (.int (((0 : Int32) + (8 : Int32)) + (1 : Int32)))] [])) _
                refine XS.iloadN X0.here hx rfl (hb hby d5_80) rfl ?_
                show Steps p.tables e below (s₁.setTop (mkF m 81 #[.val (.int p0), .val (.int (((p0 - (1 : Int32)).toUInt32 >>> ((8 : Int32) &&& 31).toUInt32).toInt32)), .val (.int (((0 : Int32) + (8 : Int32)) + (1 : Int32)))] [(.int (((0 : Int32) + (8 : Int32)) + (1 : Int32)))])) _
                exact retI X0 hx Bd.returns (hb hby d5_81) hr
              · show Q5 Z p0 h0 n0 _ s₁.heap _
                rw [e0]
                exact ⟨by rw [f5, if_pos hc9_2, if_neg hc24_4, if_pos hc38_36, if_pos hc50_38, if_pos hc62_40, if_neg hc74_42], N0, rfl⟩
          · skip
            have G43 : ∀ t, Steps p.tables e below (s₁.setTop (mkF m 74 #[.val (.int p0), .val (.int (((((p0 - (1 : Int32)).toUInt32 >>> ((8 : Int32) &&& 31).toUInt32).toInt32).toUInt32 >>> ((1 : Int32) &&& 31).toUInt32).toInt32)), .val (.int (((0 : Int32) + (8 : Int32)) + (1 : Int32)))] [(.int (1 : Int32)), (.int (((((p0 - (1 : Int32)).toUInt32 >>> ((8 : Int32) &&& 31).toUInt32).toInt32).toUInt32 >>> ((1 : Int32) &&& 31).toUInt32).toInt32))])) t → Steps p.tables e below (s₁.setTop (entryFrame m #[(.int p0)] 3)) t := by
              intro t kt
              refine G39 _ ?_
              show Steps p.tables e below (s₁.setTop (mkF m 62 #[.val (.int p0), .val (.int (((p0 - (1 : Int32)).toUInt32 >>> ((8 : Int32) &&& 31).toUInt32).toInt32)), .val (.int ((0 : Int32) + (8 : Int32)))] [(.int (2 : Int32)), (.int (((p0 - (1 : Int32)).toUInt32 >>> ((8 : Int32) &&& 31).toUInt32).toInt32))])) _
              refine XS.icmpNo X0.here hx rfl (hb hby d5_62) rfl (flt hc62_40).1 ?_
              show Steps p.tables e below (s₁.setTop (mkF m 65 #[.val (.int p0), .val (.int (((p0 - (1 : Int32)).toUInt32 >>> ((8 : Int32) &&& 31).toUInt32).toInt32)), .val (.int ((0 : Int32) + (8 : Int32)))] [])) _
              refine XS.iinc X0.here hx rfl (hb hby d5_65) rfl (l' := #[.val (.int p0), .val (.int (((p0 - (1 : Int32)).toUInt32 >>> ((8 : Int32) &&& 31).toUInt32).toInt32)), .val (.int (((0 : Int32) + (8 : Int32)) + (1 : Int32)))]) rfl ?_
              show Steps p.tables e below (s₁.setTop (mkF m 68 #[.val (.int p0), .val (.int (((p0 - (1 : Int32)).toUInt32 >>> ((8 : Int32) &&& 31).toUInt32).toInt32)), .val (.int (((0 : Int32) + (8 : Int32)) + (1 : Int32)))] [])) _
              refine XS.iloadN X0.here hx rfl (hb hby d5_68) rfl ?_
              show Steps p.tables e below (s₁.setTop (mkF m 69 #[.val (.int p0), .val (.int (((p0 - (1 : Int32)).toUInt32 >>> ((8 : Int32) &&& 31).toUInt32).toInt32)), .val (.int (((0 : Int32) + (8 : Int32)) + (1 : Int32)))] [(.int (((p0 - (1 : Int32)).toUInt32 >>> ((8 : Int32) &&& 31).toUInt32).toInt32))])) _
              refine XS.iconst X0.here hx rfl (hb hby d5_69) ?_
              show Steps p.tables e below (s₁.setTop (mkF m 70 #[.val (.int p0), .val (.int (((p0 - (1 : Int32)).toUInt32 >>> ((8 : Int32) &&& 31).toUInt32).toInt32)), .val (.int (((0 : Int32) + (8 : Int32)) + (1 : Int32)))] [(.int (1 : Int32)), (.int (((p0 - (1 : Int32)).toUInt32 >>> ((8 : Int32) &&& 31).toUInt32).toInt32))])) _
              refine XS.iushr X0.here hx rfl (hb hby d5_70) rfl ?_
              show Steps p.tables e below (s₁.setTop (mkF m 71 #[.val (.int p0), .val (.int (((p0 - (1 : Int32)).toUInt32 >>> ((8 : Int32) &&& 31).toUInt32).toInt32)), .val (.int (((0 : Int32) + (8 : Int32)) + (1 : Int32)))] [(.int (((((p0 - (1 : Int32)).toUInt32 >>> ((8 : Int32) &&& 31).toUInt32).toInt32).toUInt32 >>> ((1 : Int32) &&& 31).toUInt32).toInt32))])) _
              refine XS.istoreN X0.here hx rfl (hb hby d5_71) rfl (l' := #[.val (.int p0), .val (.int (((((p0 - (1 : Int32)).toUInt32 >>> ((8 : Int32) &&& 31).toUInt32).toInt32).toUInt32 >>> ((1 : Int32) &&& 31).toUInt32).toInt32)), .val (.int (((0 : Int32) + (8 : Int32)) + (1 : Int32)))]) rfl ?_
              show Steps p.tables e below (s₁.setTop (mkF m 72 #[.val (.int p0), .val (.int (((((p0 - (1 : Int32)).toUInt32 >>> ((8 : Int32) &&& 31).toUInt32).toInt32).toUInt32 >>> ((1 : Int32) &&& 31).toUInt32).toInt32)), .val (.int (((0 : Int32) + (8 : Int32)) + (1 : Int32)))] [])) _
              refine XS.iloadN X0.here hx rfl (hb hby d5_72) rfl ?_
              show Steps p.tables e below (s₁.setTop (mkF m 73 #[.val (.int p0), .val (.int (((((p0 - (1 : Int32)).toUInt32 >>> ((8 : Int32) &&& 31).toUInt32).toInt32).toUInt32 >>> ((1 : Int32) &&& 31).toUInt32).toInt32)), .val (.int (((0 : Int32) + (8 : Int32)) + (1 : Int32)))] [(.int (((((p0 - (1 : Int32)).toUInt32 >>> ((8 : Int32) &&& 31).toUInt32).toInt32).toUInt32 >>> ((1 : Int32) &&& 31).toUInt32).toInt32))])) _
              refine XS.iconst X0.here hx rfl (hb hby d5_73) ?_
              exact kt
            by_cases hc74_44 : (((((p0 - (1 : Int32)).toUInt32 >>> ((8 : Int32) &&& 31).toUInt32).toInt32).toUInt32 >>> ((1 : Int32) &&& 31).toUInt32).toInt32) < (1 : Int32)
            · skip
              obtain ⟨fs, hr, hrun, hended, hW, hsame⟩ := X0.leave (v := some (.int (((0 : Int32) + (8 : Int32)) + (1 : Int32)))) (fun h => by rw [Bd.returns] at h; cases h)
              refine ⟨_, _, G43 _ ?_, hrun, hended, _, _, rfl, ?_, ⟨_, rfl⟩, hW, hsame.mono (by decide) (by decide)⟩
              · skip
                show Steps p.tables e below (s₁.setTop (mkF m 74 #[.val (.int p0), .val (.int (((((p0 - (1 : Int32)).toUInt32 >>> ((8 : Int32) &&& 31).toUInt32).toInt32).toUInt32 >>> ((1 : Int32) &&& 31).toUInt32).toInt32)), .val (.int (((0 : Int32) + (8 : Int32)) + (1 : Int32)))] [(.int (1 : Int32)), (.int (((((p0 - (1 : Int32)).toUInt32 >>> ((8 : Int32) &&& 31).toUInt32).toInt32).toUInt32 >>> ((1 : Int32) &&& 31).toUInt32).toInt32))])) _
                refine XS.icmpYes X0.here hx rfl (pc0 := 74) (pc' := 80) rfl (hb hby d5_74) rfl (tlt hc74_44).1 (by decide) (by decide) ?_
                show Steps p.tables e below (s₁.setTop (mkF m 80 #[.val (.int p0), .val (.int (((((p0 - (1 : Int32)).toUInt32 >>> ((8 : Int32) &&& 31).toUInt32).toInt32).toUInt32 >>> ((1 : Int32) &&& 31).toUInt32).toInt32)), .val (.int (((0 : Int32) + (8 : Int32)) + (1 : Int32)))] [])) _
                refine XS.iloadN X0.here hx rfl (hb hby d5_80) rfl ?_
                show Steps p.tables e below (s₁.setTop (mkF m 81 #[.val (.int p0), .val (.int (((((p0 - (1 : Int32)).toUInt32 >>> ((8 : Int32) &&& 31).toUInt32).toInt32).toUInt32 >>> ((1 : Int32) &&& 31).toUInt32).toInt32)), .val (.int (((0 : Int32) + (8 : Int32)) + (1 : Int32)))] [(.int (((0 : Int32) + (8 : Int32)) + (1 : Int32)))])) _
                exact retI X0 hx Bd.returns (hb hby d5_81) hr
              · show Q5 Z p0 h0 n0 _ s₁.heap _
                rw [e0]
                exact ⟨by rw [f5, if_pos hc9_2, if_neg hc24_4, if_pos hc38_36, if_pos hc50_38, if_neg hc62_40, if_pos hc74_44], N0, rfl⟩
            · skip
              obtain ⟨fs, hr, hrun, hended, hW, hsame⟩ := X0.leave (v := some (.int ((((0 : Int32) + (8 : Int32)) + (1 : Int32)) + (1 : Int32)))) (fun h => by rw [Bd.returns] at h; cases h)
              refine ⟨_, _, G43 _ ?_, hrun, hended, _, _, rfl, ?_, ⟨_, rfl⟩, hW, hsame.mono (by decide) (by decide)⟩
              · skip
                show Steps p.tables e below (s₁.setTop (mkF m 74 #[.val (.int p0), .val (.int (((((p0 - (1 : Int32)).toUInt32 >>> ((8 : Int32) &&& 31).toUInt32).toInt32).toUInt32 >>> ((1 : Int32) &&& 31).toUInt32).toInt32)), .val (.int (((0 : Int32) + (8 : Int32)) + (1 : Int32)))] [(.int (1 : Int32)), (.int (((((p0 - (1 : Int32)).toUInt32 >>> ((8 : Int32) &&& 31).toUInt32).toInt32).toUInt32 >>> ((1 : Int32) &&& 31).toUInt32).toInt32))])) _
                refine XS.icmpNo X0.here hx rfl (hb hby d5_74) rfl (flt hc74_44).1 ?_
                show Steps p.tables e below (s₁.setTop (mkF m 77 #[.val (.int p0), .val (.int (((((p0 - (1 : Int32)).toUInt32 >>> ((8 : Int32) &&& 31).toUInt32).toInt32).toUInt32 >>> ((1 : Int32) &&& 31).toUInt32).toInt32)), .val (.int (((0 : Int32) + (8 : Int32)) + (1 : Int32)))] [])) _
                refine XS.iinc X0.here hx rfl (hb hby d5_77) rfl (l' := #[.val (.int p0), .val (.int (((((p0 - (1 : Int32)).toUInt32 >>> ((8 : Int32) &&& 31).toUInt32).toInt32).toUInt32 >>> ((1 : Int32) &&& 31).toUInt32).toInt32)), .val (.int ((((0 : Int32) + (8 : Int32)) + (1 : Int32)) + (1 : Int32)))]) rfl ?_
                show Steps p.tables e below (s₁.setTop (mkF m 80 #[.val (.int p0), .val (.int (((((p0 - (1 : Int32)).toUInt32 >>> ((8 : Int32) &&& 31).toUInt32).toInt32).toUInt32 >>> ((1 : Int32) &&& 31).toUInt32).toInt32)), .val (.int ((((0 : Int32) + (8 : Int32)) + (1 : Int32)) + (1 : Int32)))] [])) _
                refine XS.iloadN X0.here hx rfl (hb hby d5_80) rfl ?_
                show Steps p.tables e below (s₁.setTop (mkF m 81 #[.val (.int p0), .val (.int (((((p0 - (1 : Int32)).toUInt32 >>> ((8 : Int32) &&& 31).toUInt32).toInt32).toUInt32 >>> ((1 : Int32) &&& 31).toUInt32).toInt32)), .val (.int ((((0 : Int32) + (8 : Int32)) + (1 : Int32)) + (1 : Int32)))] [(.int ((((0 : Int32) + (8 : Int32)) + (1 : Int32)) + (1 : Int32)))])) _
                exact retI X0 hx Bd.returns (hb hby d5_81) hr
              · show Q5 Z p0 h0 n0 _ s₁.heap _
                rw [e0]
                exact ⟨by rw [f5, if_pos hc9_2, if_neg hc24_4, if_pos hc38_36, if_pos hc50_38, if_neg hc62_40, if_neg hc74_44], N0, rfl⟩
        · skip
          have G45 : ∀ t, Steps p.tables e below (s₁.setTop (mkF m 62 #[.val (.int p0), .val (.int (((((p0 - (1 : Int32)).toUInt32 >>> ((8 : Int32) &&& 31).toUInt32).toInt32).toUInt32 >>> ((2 : Int32) &&& 31).toUInt32).toInt32)), .val (.int (((0 : Int32) + (8 : Int32)) + (2 : Int32)))] [(.int (2 : Int32)), (.int (((((p0 - (1 : Int32)).toUInt32 >>> ((8 : Int32) &&& 31).toUInt32).toInt32).toUInt32 >>> ((2 : Int32) &&& 31).toUInt32).toInt32))])) t → Steps p.tables e below (s₁.setTop (entryFrame m #[(.int p0)] 3)) t := by
            intro t kt
            refine G37 _ ?_
            show Steps p.tables e below (s₁.setTop (mkF m 50 #[.val (.int p0), .val (.int (((p0 - (1 : Int32)).toUInt32 >>> ((8 : Int32) &&& 31).toUInt32).toInt32)), .val (.int ((0 : Int32) + (8 : Int32)))] [(.int (4 : Int32)), (.int (((p0 - (1 : Int32)).toUInt32 >>> ((8 : Int32) &&& 31).toUInt32).toInt32))])) _
            refine XS.icmpNo X0.here hx rfl (hb hby d5_50) rfl (flt hc50_38).1 ?_
            show Steps p.tables e below (s₁.setTop (mkF m 53 #[.val (.int p0), .val (.int (((p0 - (1 : Int32)).toUInt32 >>> ((8 : Int32) &&& 31).toUInt32).toInt32)), .val (.int ((0 : Int32) + (8 : Int32)))] [])) _
            refine XS.iinc X0.here hx rfl (hb hby d5_53) rfl (l' := #[.val (.int p0), .val (.int (((p0 - (1 : Int32)).toUInt32 >>> ((8 : Int32) &&& 31).toUInt32).toInt32)), .val (.int (((0 : Int32) + (8 : Int32)) + (2 : Int32)))]) rfl ?_
            show Steps p.tables e below (s₁.setTop (mkF m 56 #[.val (.int p0), .val (.int (((p0 - (1 : Int32)).toUInt32 >>> ((8 : Int32) &&& 31).toUInt32).toInt32)), .val (.int (((0 : Int32) + (8 : Int32)) + (2 : Int32)))] [])) _
            refine XS.iloadN X0.here hx rfl (hb hby d5_56) rfl ?_
            show Steps p.tables e below (s₁.setTop (mkF m 57 #[.val (.int p0), .val (.int (((p0 - (1 : Int32)).toUInt32 >>> ((8 : Int32) &&& 31).toUInt32).toInt32)), .val (.int (((0 : Int32) + (8 : Int32)) + (2 : Int32)))] [(.int (((p0 - (1 : Int32)).toUInt32 >>> ((8 : Int32) &&& 31).toUInt32).toInt32))])) _
            refine XS.iconst X0.here hx rfl (hb hby d5_57) ?_
            show Steps p.tables e below (s₁.setTop (mkF m 58 #[.val (.int p0), .val (.int (((p0 - (1 : Int32)).toUInt32 >>> ((8 : Int32) &&& 31).toUInt32).toInt32)), .val (.int (((0 : Int32) + (8 : Int32)) + (2 : Int32)))] [(.int (2 : Int32)), (.int (((p0 - (1 : Int32)).toUInt32 >>> ((8 : Int32) &&& 31).toUInt32).toInt32))])) _
            refine XS.iushr X0.here hx rfl (hb hby d5_58) rfl ?_
            show Steps p.tables e below (s₁.setTop (mkF m 59 #[.val (.int p0), .val (.int (((p0 - (1 : Int32)).toUInt32 >>> ((8 : Int32) &&& 31).toUInt32).toInt32)), .val (.int (((0 : Int32) + (8 : Int32)) + (2 : Int32)))] [(.int (((((p0 - (1 : Int32)).toUInt32 >>> ((8 : Int32) &&& 31).toUInt32).toInt32).toUInt32 >>> ((2 : Int32) &&& 31).toUInt32).toInt32))])) _
            refine XS.istoreN X0.here hx rfl (hb hby d5_59) rfl (l' := #[.val (.int p0), .val (.int (((((p0 - (1 : Int32)).toUInt32 >>> ((8 : Int32) &&& 31).toUInt32).toInt32).toUInt32 >>> ((2 : Int32) &&& 31).toUInt32).toInt32)), .val (.int (((0 : Int32) + (8 : Int32)) + (2 : Int32)))]) rfl ?_
            show Steps p.tables e below (s₁.setTop (mkF m 60 #[.val (.int p0), .val (.int (((((p0 - (1 : Int32)).toUInt32 >>> ((8 : Int32) &&& 31).toUInt32).toInt32).toUInt32 >>> ((2 : Int32) &&& 31).toUInt32).toInt32)), .val (.int (((0 : Int32) + (8 : Int32)) + (2 : Int32)))] [])) _
            refine XS.iloadN X0.here hx rfl (hb hby d5_60) rfl ?_
            show Steps p.tables e below (s₁.setTop (mkF m 61 #[.val (.int p0), .val (.int (((((p0 - (1 : Int32)).toUInt32 >>> ((8 : Int32) &&& 31).toUInt32).toInt32).toUInt32 >>> ((2 : Int32) &&& 31).toUInt32).toInt32)), .val (.int (((0 : Int32) + (8 : Int32)) + (2 : Int32)))] [(.int (((((p0 - (1 : Int32)).toUInt32 >>> ((8 : Int32) &&& 31).toUInt32).toInt32).toUInt32 >>> ((2 : Int32) &&& 31).toUInt32).toInt32))])) _
            refine XS.iconst X0.here hx rfl (hb hby d5_61) ?_
            exact kt
          by_cases hc62_46 : (((((p0 - (1 : Int32)).toUInt32 >>> ((8 : Int32) &&& 31).toUInt32).toInt32).toUInt32 >>> ((2 : Int32) &&& 31).toUInt32).toInt32) < (2 : Int32)
          · skip
            have G47 : ∀ t, Steps p.tables e below (s₁.setTop (mkF m 74 #[.val (.int p0), .val (.int (((((p0 - (1 : Int32)).toUInt32 >>> ((8 : Int32) &&& 31).toUInt32).toInt32).toUInt32 >>> ((2 : Int32) &&& 31).toUInt32).toInt32)), .val (.int (((0 : Int32) + (8 : Int32)) + (2 : Int32)))] [(.int (1 : Int32)), (.int (((((p0 - (1 : Int32)).toUInt32 >>> ((8 : Int32) &&& 31).toUInt32).toInt32).toUInt32 >>> ((2 : Int32) &&& 31).toUInt32).toInt32))])) t → Steps p.tables e below (s₁.setTop (entryFrame m #[(.int p0)] 3)) t := by
              intro t kt
              refine G45 _ ?_
              show Steps p.tables e below (s₁.setTop (mkF m 62 #[.val (.int p0), .val (.int (((((p0 - (1 : Int32)).toUInt32 >>> ((8 : Int32) &&& 31).toUInt32).toInt32).toUInt32 >>> ((2 : Int32) &&& 31).toUInt32).toInt32)), .val (.int (((0 : Int32) + (8 : Int32)) + (2 : Int32)))] [(.int (2 : Int32)), (.int (((((p0 - (1 : Int32)).toUInt32 >>> ((8 : Int32) &&& 31).toUInt32).toInt32).toUInt32 >>> ((2 : Int32) &&& 31).toUInt32).toInt32))])) _
              refine XS.icmpYes X0.here hx rfl (pc0 := 62) (pc' := 72) rfl (hb hby d5_62) rfl (tlt hc62_46).1 (by decide) (by decide) ?_
              show Steps p.tables e below (s₁.setTop (mkF m 72 #[.val (.int p0), .val (.int (((((p0 - (1 : Int32)).toUInt32 >>> ((8 : Int32) &&& 31).toUInt32).toInt32).toUInt32 >>> ((2 : Int32) &&& 31).toUInt32).toInt32)), .val (.int (((0 : Int32) + (8 : Int32)) + (2 : Int32)))] [])) _
              refine XS.iloadN X0.here hx rfl (hb hby d5_72) rfl ?_
              show Steps p.tables e below (s₁.setTop (mkF m 73 #[.val (.int p0), .val (.int (((((p0 - (1 : Int32)).toUInt32 >>> ((8 : Int32) &&& 31).toUInt32).toInt32).toUInt32 >>> ((2 : Int32) &&& 31).toUInt32).toInt32)), .val (.int (((0 : Int32) + (8 : Int32)) + (2 : Int32)))] [(.int (((((p0 - (1 : Int32)).toUInt32 >>> ((8 : Int32) &&& 31).toUInt32).toInt32).toUInt32 >>> ((2 : Int32) &&& 31).toUInt32).toInt32))])) _
              refine XS.iconst X0.here hx rfl (hb hby d5_73) ?_
              exact kt
            by_cases hc74_48 : (((((p0 - (1 : Int32)).toUInt32 >>> ((8 : Int32) &&& 31).toUInt32).toInt32).toUInt32 >>> ((2 : Int32) &&& 31).toUInt32).toInt32) < (1 : Int32)
            · skip
              obtain ⟨fs, hr, hrun, hended, hW, hsame⟩ := X0.leave (v := some (.int (((0 : Int32) + (8 : Int32)) + (2 : Int32)))) (fun h => by rw [Bd.returns] at h; cases h)
              refine ⟨_, _, G47 _ ?_, hrun, hended, _, _, rfl, ?_, ⟨_, rfl⟩, hW, hsame.mono (by decide) (by decide)⟩
              · skip
                show Steps p.tables e below (s₁.setTop (mkF m 74 #[.val (.int p0), .val (.int (((((p0 - (1 : Int32)).toUInt32 >>> ((8 : Int32) &&& 31).toUInt32).toInt32).toUInt32 >>> ((2 : Int32) &&& 31).toUInt32).toInt32)), .val (.int (((0 : Int32) + (8 : Int32)) + (2 : Int32)))] [(.int (1 : Int32)), (.int (((((p0 - (1 : Int32)).toUInt32 >>> ((8 : Int32) &&& 31).toUInt32).toInt32).toUInt32 >>> ((2 : Int32) &&& 31).toUInt32).toInt32))])) _
                refine XS.icmpYes X0.here hx rfl (pc0 := 74) (pc' := 80) rfl (hb hby d5_74) rfl (tlt hc74_48).1 (by decide) (by decide) ?_
                show Steps p.tables e below (s₁.setTop (mkF m 80 #[.val (.int p0), .val (.int (((((p0 - (1 : Int32)).toUInt32 >>> ((8 : Int32) &&& 31).toUInt32).toInt32).toUInt32 >>> ((2 : Int32) &&& 31).toUInt32).toInt32)), .val (.int (((0 : Int32) + (8 : Int32)) + (2 : Int32)))] [])) _
                refine XS.iloadN X0.here hx rfl (hb hby d5_80) rfl ?_
                show Steps p.tables e below (s₁.setTop (mkF m 81 #[.val (.int p0), .val (.int (((((p0 - (1 : Int32)).toUInt32 >>> ((8 : Int32) &&& 31).toUInt32).toInt32).toUInt32 >>> ((2 : Int32) &&& 31).toUInt32).toInt32)), .val (.int (((0 : Int32) + (8 : Int32)) + (2 : Int32)))] [(.int (((0 : Int32) + (8 : Int32)) + (2 : Int32)))])) _
                exact retI X0 hx Bd.returns (hb hby d5_81) hr
              · show Q5 Z p0 h0 n0 _ s₁.heap _
                rw [e0]
                exact ⟨by rw [f5, if_pos hc9_2, if_neg hc24_4, if_pos hc38_36, if_neg hc50_38, if_pos hc62_46, if_pos hc74_48], N0, rfl⟩
            · skip
              obtain ⟨fs, hr, hrun, hended, hW, hsame⟩ := X0.leave (v := some (.int ((((0 : Int32) + (8 : Int32)) + (2 : Int32)) + (1 : Int32)))) (fun h => by rw [Bd.returns] at h; cases h)
              refine ⟨_, _, G47 _ ?_, hrun, hended, _, _, rfl, ?_, ⟨_, rfl⟩, hW, hsame.mono (by decide) (by decide)⟩
              · skip
                show Steps p.tables e below (s₁.setTop (mkF m 74 #[.val (.int p0), .val (.int (((((p0 - (1 : Int32)).toUInt32 >>> ((8 : Int32) &&& 31).toUInt32).toInt32).toUInt32 >>> ((2 : Int32) &&& 31).toUInt32).toInt32)), .val (.int (((0 : Int32) + (8 : Int32)) + (2 : Int32)))] [(.int (1 : Int32)), (.int (((((p0 - (1 : Int32)).toUInt32 >>> ((8 : Int32) &&& 31).toUInt32).toInt32).toUInt32 >>> ((2 : Int32) &&& 31).toUInt32).toInt32))])) _
                refine XS.icmpNo X0.here hx rfl (hb hby d5_74) rfl (flt hc74_48).1 ?_
                show Steps p.tables e below (s₁.setTop (mkF m 77 #[.val (.int p0), .val (.int (((((p0 - (1 : Int32)).toUInt32 >>> ((8 : Int32) &&& 31).toUInt32).toInt32).toUInt32 >>> ((2 : Int32) &&& 31).toUInt32).toInt32)), .val (.int (((0 : Int32) + (8 : Int32)) + (2 : Int32)))] [])) _
                refine XS.iinc X0.here hx rfl (hb hby d5_77) rfl (l' := #[.val (.int p0), .val (.int (((((p0 - (1 : Int32)).toUInt32 >>> ((8 : Int32) &&& 31).toUInt32).toInt32).toUInt32 >>> ((2 : Int32) &&& 31).toUInt32).toInt32)), .val (.int ((((0 : Int32) + (8 : Int32)) + (2 : Int32)) + (1 : Int32)))]) rfl ?_
                show Steps p.tables e below (s₁.setTop (mkF m 80 #[.val (.int p0), .val (.int (((((p0 - (1 : Int32)).toUInt32 >>> ((8 : Int32) &&& 31).toUInt32).toInt32).toUInt32 >>> ((2 : Int32) &&& 31).toUInt32).toInt32)), .val (.int ((((0 : Int32) + (8 : Int32)) + (2 : Int32)) + (1 : Int32)))] [])) _
                refine XS.iloadN X0.here hx rfl (hb hby d5_80) rfl ?_
                show Steps p.tables e below (s₁.setTop (mkF m 81 #[.val (.int p0), .val (.int (((((p0 - (1 : Int32)).toUInt32 >>> ((8 : Int32) &&& 31).toUInt32).toInt32).toUInt32 >>> ((2 : Int32) &&& 31).toUInt32).toInt32)), .val (.int ((((0 : Int32) + (8 : Int32)) + (2 : Int32)) + (1 : Int32)))] [(.int ((((0 : Int32) + (8 : Int32)) + (2 : Int32)) + (1 : Int32)))])) _
                exact retI X0 hx Bd.returns (hb hby d5_81) hr
              · show Q5 Z p0 h0 n0 _ s₁.heap _
                rw [e0]
                exact ⟨by rw [f5, if_pos hc9_2, if_neg hc24_4, if_pos hc38_36, if_neg hc50_38, if_pos hc62_46, if_neg hc74_48], N0, rfl⟩
          · skip
            have G49 : ∀ t, Steps p.tables e below (s₁.setTop (mkF m 74 #[.val (.int p0), .val (.int (((((((p0 - (1 : Int32)).toUInt32 >>> ((8 : Int32) &&& 31).toUInt32).toInt32).toUInt32 >>> ((2 : Int32) &&& 31).toUInt32).toInt32).toUInt32 >>> ((1 : Int32) &&& 31).toUInt32).toInt32)), .val (.int ((((0 : Int32) + (8 : Int32)) + (2 : Int32)) + (1 : Int32)))] [(.int (1 : Int32)), (.int (((((((p0 - (1 : Int32)).toUInt32 >>> ((8 : Int32) &&& 31).toUInt32).toInt32).toUInt32 >>> ((2 : Int32) &&& 31).toUInt32).toInt32).toUInt32 >>> ((1 : Int32) &&& 31).toUInt32).toInt32))])) t → Steps p.tables e below (s₁.setTop (entryFrame m #[(.int p0)] 3)) t := by
              intro t kt
              refine G45 _ ?_
              show Steps p.tables e below (s₁.setTop (mkF m 62 #[.val (.int p0), .val (.int (((((p0 - (1 : Int32)).toUInt32 >>> ((8 : Int32) &&& 31).toUInt32).toInt32).toUInt32 >>> ((2 : Int32) &&& 31).toUInt32).toInt32)), .val (.int (((0 : Int32) + (8 : Int32)) + (2 : Int32)))] [(.int (2 : Int32)), (.int (((((p0 - (1 : Int32)).toUInt32 >>> ((8 : Int32) &&& 31).toUInt32).toInt32).toUInt32 >>> ((2 : Int32) &&& 31).toUInt32).toInt32))])) _
              refine XS.icmpNo X0.here hx rfl (hb hby d5_62) rfl (flt hc62_46).1 ?_
              show Steps p.tables e below (s₁.setTop (mkF m 65 #[.val (.int p0), .val (.int (((((p0 - (1 : Int32)).toUInt32 >>> ((8 : Int32) &&& 31).toUInt32).toInt32).toUInt32 >>> ((2 : Int32) &&& 31).toUInt32).toInt32)), .val (.int (((0 : Int32) + (8 : Int32)) + (2 : Int32)))] [])) _
              refine XS.iinc X0.here hx rfl (hb hby d5_65) rfl (l' := #[.val (.int p0), .val (.int (((((p0 - (1 : Int32)).toUInt32 >>> ((8 : Int32) &&& 31).toUInt32).toInt32).toUInt32 >>> ((2 : Int32) &&& 31).toUInt32).toInt32)), .val (.int ((((0 : Int32) + (8 : Int32)) + (2 : Int32)) + (1 : Int32)))]) rfl ?_
              show Steps p.tables e below (s₁.setTop (mkF m 68 #[.val (.int p0), .val (.int (((((p0 - (1 : Int32)).toUInt32 >>> ((8 : Int32) &&& 31).toUInt32).toInt32).toUInt32 >>> ((2 : Int32) &&& 31).toUInt32).toInt32)), .val (.int ((((0 : Int32) + (8 : Int32)) + (2 : Int32)) + (1 : Int32)))] [])) _
              refine XS.iloadN X0.here hx rfl (hb hby d5_68) rfl ?_
              show Steps p.tables e below (s₁.setTop (mkF m 69 #[.val (.int p0), .val (.int (((((p0 - (1 : Int32)).toUInt32 >>> ((8 : Int32) &&& 31).toUInt32).toInt32).toUInt32 >>> ((2 : Int32) &&& 31).toUInt32).toInt32)), .val (.int ((((0 : Int32) + (8 : Int32)) + (2 : Int32)) + (1 : Int32)))] [(.int (((((p0 - (1 : Int32)).toUInt32 >>> ((8 : Int32) &&& 31).toUInt32).toInt32).toUInt32 >>> ((2 : Int32) &&& 31).toUInt32).toInt32))])) _
              refine XS.iconst X0.here hx rfl (hb hby d5_69) ?_
              show Steps p.tables e below (s₁.setTop (mkF m 70 #[.val (.int p0), .val (.int (((((p0 - (1 : Int32)).toUInt32 >>> ((8 : Int32) &&& 31).toUInt32).toInt32).toUInt32 >>> ((2 : Int32) &&& 31).toUInt32).toInt32)), .val (.int ((((0 : Int32) + (8 : Int32)) + (2 : Int32)) + (1 : Int32)))] [(.int (1 : Int32)), (.int (((((p0 - (1 : Int32)).toUInt32 >>> ((8 : Int32) &&& 31).toUInt32).toInt32).toUInt32 >>> ((2 : Int32) &&& 31).toUInt32).toInt32))])) _
              refine XS.iushr X0.here hx rfl (hb hby d5_70) rfl ?_
              show Steps p.tables e below (s₁.setTop (mkF m 71 #[.val (.int p0), .val (.int (((((p0 - (1 : Int32)).toUInt32 >>> ((8 : Int32) &&& 31).toUInt32).toInt32).toUInt32 >>> ((2 : Int32) &&& 31).toUInt32).toInt32)), .val (.int ((((0 : Int32) + (8 : Int32)) + (2 : Int32)) + (1 : Int32)))] [(.int (((((((p0 - (1 : Int32)).toUInt32 >>> ((8 : Int32) &&& 31).toUInt32).toInt32).toUInt32 >>> ((2 : Int32) &&& 31).toUInt32).toInt32).toUInt32 >>> ((1 : Int32) &&& 31).toUInt32).toInt32))])) _
              refine XS.istoreN X0.here hx rfl (hb hby d5_71) rfl (l' := #[.val (.int p0), .val (.int (((((((p0 - (1 : Int32)).toUInt32 >>> ((8 : Int32) &&& 31).toUInt32).toInt32).toUInt32 >>> ((2 : Int32) &&& 31).toUInt32).toInt32).toUInt32 >>> ((1 : Int32) &&& 31).toUInt32).toInt32)), .val (.int ((((0 : Int32) + (8 : Int32)) + (2 : Int32)) + (1 : Int32)))]) rfl ?_
              show Steps p.tables e below (s₁.setTop (mkF m 72 #[.val (.int p0), .val (.int (((((((p0 - (1 : Int32)).toUInt32 >>> ((8 : Int32) &&& 31).toUInt32).toInt32).toUInt32 >>> ((2 : Int32) &&& 31).toUInt32).toInt32).toUInt32 >>> ((1 : Int32) &&& 31).toUInt32).toInt32)), .val (.int ((((0 : Int32) + (8 : Int32)) + (2 : Int32)) + (1 : Int32)))] [])) _
              refine XS.iloadN X0.here hx rfl (hb hby d5_72) rfl ?_
              show Steps p.tables e below (s₁.setTop (mkF m 73 #[.val (.int p0), .val (.int (((((((p0 - (1 : Int32)).toUInt32 >>> ((8 : Int32) &&& 31).toUInt32).toInt32).toUInt32 >>> ((2 : Int32) &&& 31).toUInt32).toInt32).toUInt32 >>> ((1 : Int32) &&& 31).toUInt32).toInt32)), .val (.int ((((0 : Int32) + (8 : Int32)) + (2 : Int32)) + (1 : Int32)))] [(.int (((((((p0 - (1 : Int32)).toUInt32 >>> ((8 : Int32) &&& 31).toUInt32).toInt32).toUInt32 >>> ((2 : Int32) &&& 31).toUInt32).toInt32).toUInt32 >>> ((1 : Int32) &&& 31).toUInt32).toInt32))])) _
              refine XS.iconst X0.here hx rfl (hb hby d5_73) ?_
              exact kt
            by_cases hc74_50 : (((((((p0 - (1 : Int32)).toUInt32 >>> ((8 : Int32) &&& 31).toUInt32).toInt32).toUInt32 >>> ((2 : Int32) &&& 31).toUInt32).toInt32).toUInt32 >>> ((1 : Int32) &&& 31).toUInt32).toInt32) < (1 : Int32)
            · skip
              obtain ⟨fs, hr, hrun, hended, hW, hsame⟩ := X0.leave (v := some (.int ((((0 : Int32) + (8 : Int32)) + (2 : Int32)) + (1 : Int32)))) (fun h => by rw [Bd.returns] at h; cases h)
              refine ⟨_, _, G49 _ ?_, hrun, hended, _, _, rfl, ?_, ⟨_, rfl⟩, hW, hsame.mono (by decide) (by decide)⟩
              · skip
                show Steps p.tables e below (s₁.setTop (mkF m 74 #[.val (.int p0), .val (.int (((((((p0 - (1 : Int32)).toUInt32 >>> ((8 : Int32) &&& 31).toUInt32).toInt32).toUInt32 >>> ((2 : Int32) &&& 31).toUInt32).toInt32).toUInt32 >>> ((1 : Int32) &&& 31).toUInt32).toInt32)), .val (.int ((((0 : Int32) + (8 : Int32)) + (2 : Int32)) + (1 : Int32)))] [(.int (1 : Int32)), (.int (((((((p0 - (1 : Int32)).toUInt32 >>> ((8 : Int32) &&& 31).toUInt32).toInt32).toUInt32 >>> ((2 : Int32) &&& 31).toUInt32).toInt32).toUInt32 >>> ((1 : Int32) &&& 31).toUInt32).toInt32))])) _
                refine XS.icmpYes X0.here hx rfl (pc0 := 74) (pc' := 80) rfl (hb hby d5_74) rfl (tlt hc74_50).1 (by decide) (by decide) ?_
                show Steps p.tables e below (s₁.setTop (mkF m 80 #[.val (.int p0), .val (.int (((((((p0 - (1 : Int32)).toUInt32 >>> ((8 : Int32) &&& 31).toUInt32).toInt32).toUInt32 >>> ((2 : Int32) &&& 31).toUInt32).toInt32).toUInt32 >>> ((1 : Int32) &&& 31).toUInt32).toInt32)), .val (.int ((((0 : Int32) + (8 : Int32)) + (2 : Int32)) + (1 : Int32)))] [])) _
                refine XS.iloadN X0.here hx rfl (hb hby d5_80) rfl ?_
                show Steps p.tables e below (s₁.setTop (mkF m 81 #[.val (.int p0), .val (.int (((((((p0 - (1 : Int32)).toUInt32 >>> ((8 : Int32) &&& 31).toUInt32).toInt32).toUInt32 >>> ((2 : Int32) &&& 31).toUInt32).toInt32).toUInt32 >>> ((1 : Int32) &&& 31).toUInt32).toInt32)), .val (.int ((((0 : Int32) + (8 : Int32)) + (2 : Int32)) + (1 : Int32)))] [(.int ((((0 : Int32) + (8 : Int32)) + (2 : Int32)) + (1 : Int32)))])) _
                exact retI X0 hx Bd.returns (hb hby d5_81) hr
              · show Q5 Z p0 h0 n0 _ s₁.heap _
                rw [e0]
                exact ⟨by rw [f5, if_pos hc9_2, if_neg hc24_4, if_pos hc38_36, if_neg hc50_38, if_neg hc62_46, if_pos hc74_50], N0, rfl⟩
            · skip
              obtain ⟨fs, hr, hrun, hended, hW, hsame⟩ := X0.leave (v := some (.int (((((0 : Int32) + (8 : Int32)) + (2 : Int32)) + (1 : Int32)) + (1 : Int32)))) (fun h => by rw [Bd.returns] at h; cases h)
              refine ⟨_, _, G49 _ ?_, hrun, hended, _, _, rfl, ?_, ⟨_, rfl⟩, hW, hsame.mono (by decide) (by decide)⟩
              · skip
                show Steps p.tables e below (s₁.setTop (mkF m 74 #[.val (.int p0), .val (.int (((((((p0 - (1 : Int32)).toUInt32 >>> ((8 : Int32) &&& 31).toUInt32).toInt32).toUInt32 >>> ((2 : Int32) &&& 31).toUInt32).toInt32).toUInt32 >>> ((1 : Int32) &&& 31).toUInt32).toInt32)), .val (.int ((((0 : Int32) + (8 : Int32)) + (2 : Int32)) + (1 : Int32)))] [(.int (1 : Int32)), (.int (((((((p0 - (1 : Int32)).toUInt32 >>> ((8 : Int32) &&& 31).toUInt32).toInt32).toUInt32 >>> ((2 : Int32) &&& 31).toUInt32).toInt32).toUInt32 >>> ((1 : Int32) &&& 31).toUInt32).toInt32))])) _
                refine XS.icmpNo X0.here hx rfl (hb hby d5_74) rfl (flt hc74_50).1 ?_
                show Steps p.tables e below (s₁.setTop (mkF m 77 #[.val (.int p0), .val (.int (((((((p0 - (1 : Int32)).toUInt32 >>> ((8 : Int32) &&& 31).toUInt32).toInt32).toUInt32 >>> ((2 : Int32) &&& 31).toUInt32).toInt32).toUInt32 >>> ((1 : Int32) &&& 31).toUInt32).toInt32)), .val (.int ((((0 : Int32) + (8 : Int32)) + (2 : Int32)) + (1 : Int32)))] [])) _
                refine XS.iinc X0.here hx rfl (hb hby d5_77) rfl (l' := #[.val (.int p0), .val (.int (((((((p0 - (1 : Int32)).toUInt32 >>> ((8 : Int32) &&& 31).toUInt32).toInt32).toUInt32 >>> ((2 : Int32) &&& 31).toUInt32).toInt32).toUInt32 >>> ((1 : Int32) &&& 31).toUInt32).toInt32)), .val (.int (((((0 : Int32) + (8 : Int32)) + (2 : Int32)) + (1 : Int32)) + (1 : Int32)))]) rfl ?_
                show Steps p.tables e below (s₁.setTop (mkF m 80 #[.val (.int p0), .val (.int (((((((p0 - (1 : Int32)).toUInt32 >>> ((8 : Int32) &&& 31).toUInt32).toInt32).toUInt32 >>> ((2 : Int32) &&& 31).toUInt32).toInt32).toUInt32 >>> ((1 : Int32) &&& 31).toUInt32).toInt32)), .val (.int (((((0 : Int32) + (8 : Int32)) + (2 : Int32)) + (1 : Int32)) + (1 : Int32)))] [])) _
                refine XS.iloadN X0.here hx rfl (hb hby d5_80) rfl ?_
                show Steps p.tables e below (s₁.setTop (mkF m 81 #[.val (.int p0), .val (.int (((((((p0 - (1 : Int32)).toUInt32 >>> ((8 : Int32) &&& 31).toUInt32).toInt32).toUInt32 >>> ((2 : Int32) &&& 31).toUInt32).toInt32).toUInt32 >>> ((1 : Int32) &&& 31).toUInt32).toInt32)), .val (.int (((((0 : Int32) + (8 : Int32)) + (2 : Int32)) + (1 : Int32)) + (1 : Int32)))] [(.int (((((0 : Int32) + (8 : Int32)) + (2 : Int32)) + (1 : Int32)) + (1 : Int32)))])) _
                exact retI X0 hx Bd.returns (hb hby d5_81) hr
              · show Q5 Z p0 h0 n0 _ s₁.heap _
                rw [e0]
                exact ⟨by rw [f5, if_pos hc9_2, if_neg hc24_4, if_pos hc38_36, if_neg hc50_38, if_neg hc62_46, if_neg hc74_50], N0, rfl⟩
      · skip
        have G51 : ∀ t, Steps p.tables e below (s₁.setTop (mkF m 50 #[.val (.int p0), .val (.int (((((p0 - (1 : Int32)).toUInt32 >>> ((8 : Int32) &&& 31).toUInt32).toInt32).toUInt32 >>> ((4 : Int32) &&& 31).toUInt32).toInt32)), .val (.int (((0 : Int32) + (8 : Int32)) + (4 : Int32)))] [(.int (4 : Int32)), (.int (((((p0 - (1 : Int32)).toUInt32 >>> ((8 : Int32) &&& 31).toUInt32).toInt32).toUInt32 >>> ((4 : Int32) &&& 31).toUInt32).toInt32))])) t → Steps p.tables e below (s₁.setTop (entryFrame m #[(.int p0)] 3)) t := by
          intro t kt
          refine G35 _ ?_
          show Steps p.tables e below (s₁.setTop (mkF m 38 #[.val (.int p0), .val (.int (((p0 - (1 : Int32)).toUInt32 >>> ((8 : Int32) &&& 31).toUInt32).toInt32)), .val (.int ((0 : Int32) + (8 : Int32)))] [(.int (16 : Int32)), (.int (((p0 - (1 : Int32)).toUInt32 >>> ((8 : Int32) &&& 31).toUInt32).toInt32))])) _
          refine XS.icmpNo X0.here hx rfl (hb hby d5_38) rfl (flt hc38_36).1 ?_
          show Steps p.tables e below (s₁.setTop (mkF m 41 #[.val (.int p0), .val (.int (((p0 - (1 : Int32)).toUInt32 >>> ((8 : Int32) &&& 31).toUInt32).toInt32)), .val (.int ((0 : Int32) + (8 : Int32)))] [])) _
          refine XS.iinc X0.here hx rfl (hb hby d5_41) rfl (l' := #[.val (.int p0), .val (.int (((p0 - (1 : Int32)).toUInt32 >>> ((8 : Int32) &&& 31).toUInt32).toInt32)), .val (.int (((0 : Int32) + (8 : Int32)) + (4 : Int32)))]) rfl ?_
          show Steps p.tables e below (s₁.setTop (mkF m 44 #[.val (.int p0), .val (.int (((p0 - (1 : Int32)).toUInt32 >>> ((8 : Int32) &&& 31).toUInt32).toInt32)), .val (.int (((0 : Int32) + (8 : Int32)) + (4 : Int32)))] [])) _
          refine XS.iloadN X0.here hx rfl (hb hby d5_44) rfl ?_
          show Steps p.tables e below (s₁.setTop (mkF m 45 #[.val (.int p0), .val (.int (((p0 - (1 : Int32)).toUInt32 >>> ((8 : Int32) &&& 31).toUInt32).toInt32)), .val (.int (((0 : Int32) + (8 : Int32)) + (4 : Int32)))] [(.int (((p0 - (1 : Int32)).toUInt32 >>> ((8 : Int32) &&& 31).toUInt32).toInt32))])) _
          refine XS.iconst X0.here hx rfl (hb hby d5_45) ?_
          show Steps p.tables e below (s₁.setTop (mkF m 46 #[.val (.int p0), .val (.int (((p0 - (1 : Int32)).toUInt32 >>> ((8 : Int32) &&& 31).toUInt32).toInt32)), .val (.int (((0 : Int32) + (8 : Int32)) + (4 : Int32)))] [(.int (4 : Int32)), (.int (((p0 - (1 : Int32)).toUInt32 >>> ((8 : Int32) &&& 31).toUInt32).toInt32))])) _
          refine XS.iushr X0.here hx rfl (hb hby d5_46) rfl ?_
          show Steps p.tables e below (s₁.setTop (mkF m 47 #[.val (.int p0), .val (.int (((p0 - (1 : Int32)).toUInt32 >>> ((8 : Int32) &&& 31).toUInt32).toInt32)), .val (.int (((0 : Int32) + (8 : Int32)) + (4 : Int32)))] [(.int (((((p0 - (1 : Int32)).toUInt32 >>> ((8 : Int32) &&& 31).toUInt32).toInt32).toUInt32 >>> ((4 : Int32) &&& 31).toUInt32).toInt32))])) _
          refine XS.istoreN X0.here hx rfl (hb hby d5_47) rfl (l' := #[.val (.int p0), .val (.int (((((p0 - (1 : Int32)).toUInt32 >>> ((8 : Int32) &&& 31).toUInt32).toInt32).toUInt32 >>> ((4 : Int32) &&& 31).toUInt32).toInt32)), .val (.int (((0 : Int32) + (8 : Int32)) + (4 : Int32)))]) rfl ?_
          show Steps p.tables e below (s₁.setTop (mkF m 48 #[.val (.int p0), .val (.int (((((p0 - (1 : Int32)).toUInt32 >>> ((8 : Int32) &&& 31).toUInt32).toInt32).toUInt32 >>> ((4 : Int32) &&& 31).toUInt32).toInt32)), .val (.int (((0 : Int32) + (8 : Int32)) + (4 : Int32)))] [])) _
          refine XS.iloadN X0.here hx rfl (hb hby d5_48) rfl ?_
          show Steps p.tables e below (s₁.setTop (mkF m 49 #[.val (.int p0), .val (.int (((((p0 - (1 : Int32)).toUInt32 >>> ((8 : Int32) &&& 31).toUInt32).toInt32).toUInt32 >>> ((4 : Int32) &&& 31).toUInt32).toInt32)), .val (.int (((0 : Int32) + (8 : Int32)) + (4 : Int32)))] [(.int (((((p0 - (1 : Int32)).toUInt32 >>> ((8 : Int32) &&& 31).toUInt32).toInt32).toUInt32 >>> ((4 : Int32) &&& 31).toUInt32).toInt32))])) _
          refine XS.iconst X0.here hx rfl (hb hby d5_49) ?_
          exact kt
        by_cases hc50_52 : (((((p0 - (1 : Int32)).toUInt32 >>> ((8 : Int32) &&& 31).toUInt32).toInt32).toUInt32 >>> ((4 : Int32) &&& 31).toUInt32).toInt32) < (4 : Int32)
        · skip
          have G53 : ∀ t, Steps p.tables e below (s₁.setTop (mkF m 62 #[.val (.int p0), .val (.int (((((p0 - (1 : Int32)).toUInt32 >>> ((8 : Int32) &&& 31).toUInt32).toInt32).toUInt32 >>> ((4 : Int32) &&& 31).toUInt32).toInt32)), .val (.int (((0 : Int32) + (8 : Int32)) + (4 : Int32)))] [(.int (2 : Int32)), (.int (((((p0 - (1 : Int32)).toUInt32 >>> ((8 : Int32) &&& 31).toUInt32).toInt32).toUInt32 >>> ((4 : Int32) &&& 31).toUInt32).toInt32))])) t → Steps p.tables e below (s₁.setTop (entryFrame m #[(.int p0)] 3)) t := by
            intro t kt
            refine G51 _ ?_
            show Steps p.tables e below (s₁.setTop (mkF m 50 #[.val (.int p0), .val (.int (((((p0 - (1 : Int32)).toUInt32 >>> ((8 : Int32) &&& 31).toUInt32).toInt32).toUInt32 >>> ((4 : Int32) &&& 31).toUInt32).toInt32)), .val (.int (((0 : Int32) + (8 : Int32)) + (4 : Int32)))] [(.int (4 : Int32)), (.int (((((p0 - (1 : Int32)).toUInt32 >>> ((8 : Int32) &&& 31).toUInt32).toInt32).toUInt32 >>> ((4 : Int32) &&& 31).toUInt32).toInt32))])) _
            refine XS.icmpYes X0.here hx rfl (pc0 := 50) (pc' := 60) rfl (hb hby d5_50) rfl (tlt hc50_52).1 (by decide) (by decide) ?_
            show Steps p.tables e below (s₁.setTop (mkF m 60 #[.val (.int p0), .val (.int (((((p0 - (1 : Int32)).toUInt32 >>> ((8 : Int32) &&& 31).toUInt32).toInt32).toUInt32 >>> ((4 : Int32) &&& 31).toUInt32).toInt32)), .val (.int (((0 : Int32) + (8 : Int32)) + (4 : Int32)))] [])) _
            refine XS.iloadN X0.here hx rfl (hb hby d5_60) rfl ?_
            show Steps p.tables e below (s₁.setTop (mkF m 61 #[.val (.int p0), .val (.int (((((p0 - (1 : Int32)).toUInt32 >>> ((8 : Int32) &&& 31).toUInt32).toInt32).toUInt32 >>> ((4 : Int32) &&& 31).toUInt32).toInt32)), .val (.int (((0 : Int32) + (8 : Int32)) + (4 : Int32)))] [(.int (((((p0 - (1 : Int32)).toUInt32 >>> ((8 : Int32) &&& 31).toUInt32).toInt32).toUInt32 >>> ((4 : Int32) &&& 31).toUInt32).toInt32))])) _
            refine XS.iconst X0.here hx rfl (hb hby d5_61) ?_
            exact kt
          by_cases hc62_54 : (((((p0 - (1 : Int32)).toUInt32 >>> ((8 : Int32) &&& 31).toUInt32).toInt32).toUInt32 >>> ((4 : Int32) &&& 31).toUInt32).toInt32) < (2 : Int32)
          · skip
            have G55 : ∀ t, Steps p.tables e below (s₁.setTop (mkF m 74 #[.val (.int p0), .val (.int (((((p0 - (1 : Int32)).toUInt32 >>> ((8 : Int32) &&& 31).toUInt32).toInt32).toUInt32 >>> ((4 : Int32) &&& 31).toUInt32).toInt32)), .val (.int (((0 : Int32) + (8 : Int32)) + (4 : Int32)))] [(.int (1 : Int32)), (.int (((((p0 - (1 : Int32)).toUInt32 >>> ((8 : Int32) &&& 31).toUInt32).toInt32).toUInt32 >>> ((4 : Int32) &&& 31).toUInt32).toInt32))])) t → Steps p.tables e below (s₁.setTop (entryFrame m #[(.int p0)] 3)) t := by
              intro t kt
              refine G53 _ ?_
              show Steps p.tables e below (s₁.setTop (mkF m 62 #[.val (.int p0), .val (.int (((((p0 - (1 : Int32)).toUInt32 >>> ((8 : Int32) &&& 31).toUInt32).toInt32).toUInt32 >>> ((4 : Int32) &&& 31).toUInt32).toInt32)), .val (.int (((0 : Int32) + (8 : Int32)) + (4 : Int32)))] [(.int (2 : Int32)), (.int (((((p0 - (1 : Int32)).toUInt32 >>> ((8 : Int32) &&& 31).toUInt32).toInt32).toUInt32 >>> ((4 : Int32) &&& 31).toUInt32).toInt32))])) _
              refine XS.icmpYes X0.here hx rfl (pc0 := 62) (pc' := 72) rfl (hb hby d5_62) rfl (tlt hc62_54).1 (by decide) (by decide) ?_
              show Steps p.tables e below (s₁.setTop (mkF m 72 #[.val (.int p0), .val (.int (((((p0 - (1 : Int32)).toUInt32 >>> ((8 : Int32) &&& 31).toUInt32).toInt32).toUInt32 >>> ((4 : Int32) &&& 31).toUInt32).toInt32)), .val (.int (((0 : Int32) + (8 : Int32)) + (4 : Int32)))] [])) _
              refine XS.iloadN X0.here hx rfl (hb hby d5_72) rfl ?_
              show Steps p.tables e below (s₁.setTop (mkF m 73 #[.val (.int p0), .val (.int (((((p0 - (1 : Int32)).toUInt32 >>> ((8 : Int32) &&& 31).toUInt32).toInt32).toUInt32 >>> ((4 : Int32) &&& 31).toUInt32).toInt32)), .val (.int (((0 : Int32) + (8 : Int32)) + (4 : Int32)))] [(.int (((((p0 - (1 : Int32)).toUInt32 >>> ((8 : Int32) &&& 31).toUInt32).toInt32).toUInt32 >>> ((4 : Int32) &&& 31).toUInt32).toInt32))])) _
              refine XS.iconst X0.here hx rfl (hb hby d5_73) ?_
              exact kt
            by_cases hc74_56 : (((((p0 - (1 : Int32)).toUInt32 >>> ((8 : Int32) &&& 31).toUInt32).toInt32).toUInt32 >>> ((4 : Int32) &&& 31).toUInt32).toInt32) < (1 : Int32)
            · skip
              obtain ⟨fs, hr, hrun, hended, hW, hsame⟩ := X0.leave (v := some (.int (((0 : Int32) + (8 : Int32)) + (4 : Int32)))) (fun h => by rw [Bd.returns] at h; cases h)
              refine ⟨_, _, G55 _ ?_, hrun, hended, _, _, rfl, ?_, ⟨_, rfl⟩, hW, hsame.mono (by decide) (by decide)⟩
              · skip
                show Steps p.tables e below (s₁.setTop (mkF m 74 #[.val (.int p0), .val (.int (((((p0 - (1 : Int32)).toUInt32 >>> ((8 : Int32) &&& 31).toUInt32).toInt32).toUInt32 >>> ((4 : Int32) &&& 31).toUInt32).toInt32)), .val (.int (((0 : Int32) + (8 : Int32)) + (4 : Int32)))] [(.int (1 : Int32)), (.int (((((p0 - (1 : Int32)).toUInt32 >>> ((8 : Int32) &&& 31).toUInt32).toInt32).toUInt32 >>> ((4 : Int32) &&& 31).toUInt32).toInt32))])) _
                refine XS.icmpYes X0.here hx rfl (pc0 := 74) (pc' := 80) rfl (hb hby d5_74) rfl (tlt hc74_56).1 (by decide) (by decide) ?_
                show Steps p.tables e below (s₁.setTop (mkF m 80 #[.val (.int p0), .val (.int (((((p0 - (1 : Int32)).toUInt32 >>> ((8 : Int32) &&& 31).toUInt32).toInt32).toUInt32 >>> ((4 : Int32) &&& 31).toUInt32).toInt32)), .val (.int (((0 : Int32) + (8 : Int32)) + (4 : Int32)))] [])) _
                refine XS.iloadN X0.here hx rfl (hb hby d5_80) rfl ?_
                show Steps p.tables e below (s₁.setTop (mkF m 81 #[.val (.int p0), .val (.int (((((p0 - (1 : Int32)).toUInt32 >>> ((8 : Int32) &&& 31).toUInt32).toInt32).toUInt32 >>> ((4 : Int32) &&& 31).toUInt32).toInt32)), .val (.int (((0 : Int32) + (8 : Int32)) + (4 : Int32)))] [(.int (((0 : Int32) + (8 : Int32)) + (4 : Int32)))])) _
                exact retI X0 hx Bd.returns (hb hby d5_81) hr
              · show Q5 Z p0 h0 n0 _ s₁.heap _
                rw [e0]
                exact ⟨by rw [f5, if_pos hc9_2, if_neg hc24_4, if_neg hc38_36, if_pos hc50_52, if_pos hc62_54, if_pos hc74_56], N0, rfl⟩
            · skip
              obtain ⟨fs, hr, hrun, hended, hW, hsame⟩ := X0.leave (v := some (.int ((((0 : Int32) + (8 : Int32)) + (4 : Int32)) + (1 : Int32)))) (fun h => by rw [Bd.returns] at h; cases h)
              refine ⟨_, _, G55 _ ?_, hrun, hended, _, _, rfl, ?_, ⟨_, rfl⟩, hW, hsame.mono (by decide) (by decide)⟩
              · skip
                show Steps p.tables e below (s₁.setTop (mkF m 74 #[.val (.int p0), .val (.int (((((p0 - (1 : Int32)).toUInt32 >>> ((8 : Int32) &&& 31).toUInt32).toInt32).toUInt32 >>> ((4 : Int32) &&& 31).toUInt32).toInt32)), .val (.int (((0 : Int32) + (8 : Int32)) + (4 : Int32)))] [(.int (1 : Int32)), (.int (((((p0 - (1 : Int32)).toUInt32 >>> ((8 : Int32) &&& 31).toUInt32).toInt32).toUInt32 >>> ((4 : Int32) &&& 31).toUInt32).toInt32))])) _
                refine XS.icmpNo X0.here hx rfl (hb hby d5_74) rfl (flt hc74_56).1 ?_
                show Steps p.tables e below (s₁.setTop (mkF m 77 #[.val (.int p0), .val (.int (((((p0 - (1 : Int32)).toUInt32 >>> ((8 : Int32) &&& 31).toUInt32).toInt32).toUInt32 >>> ((4 : Int32) &&& 31).toUInt32).toInt32)), .val (.int (((0 : Int32) + (8 : Int32)) + (4 : Int32)))] [])) _
                refine XS.iinc X0.here hx rfl (hb hby d5_77) rfl (l' := #[.val (.int p0), .val (.int (((((p0 - (1 : Int32)).toUInt32 >>> ((8 : Int32) &&& 31).toUInt32).toInt32).toUInt32 >>> ((4 : Int32) &&& 31).toUInt32).toInt32)), .val (.int ((((0 : Int32) + (8 : Int32)) + (4 : Int32)) + (1 : Int32)))]) rfl ?_
                show Steps p.tables e below (s₁.setTop (mkF m 80 #[.val (.int p0), .val (.int (((((p0 - (1 : Int32)).toUInt32 >>> ((8 : Int32) &&& 31).toUInt32).toInt32).toUInt32 >>> ((4 : Int32) &&& 31).toUInt32).toInt32)), .val (.int ((((0 : Int32) + (8 : Int32)) + (4 : Int32)) + (1 : Int32)))] [])) _
                refine XS.iloadN X0.here hx rfl (hb hby d5_80) rfl ?_
                show Steps p.tables e below (s₁.setTop (mkF m 81 #[.val (.int p0), .val (.int (((((p0 - (1 : Int32)).toUInt32 >>> ((8 : Int32) &&& 31).toUInt32).toInt32).toUInt32 >>> ((4 : Int32) &&& 31).toUInt32).toInt32)), .val (.int ((((0 : Int32) + (8 : Int32)) + (4 : Int32)) + (1 : Int32)))] [(.int ((((0 : Int32) + (8 : Int32)) + (4 : Int32)) + (1 : Int32)))])) _
                exact retI X0 hx Bd.returns (hb hby d5_81) hr
              · show Q5 Z p0 h0 n0 _ s₁.heap _
                rw [e0]
                exact ⟨by rw [f5, if_pos hc9_2, if_neg hc24_4, if_neg hc38_36, if_pos hc50_52, if_pos hc62_54, if_neg hc74_56], N0, rfl⟩
          · skip
            have G57 : ∀ t, Steps p.tables e below (s₁.setTop (mkF m 74 #[.val (.int p0), .val (.int (((((((p0 - (1 : Int32)).toUInt32 >>> ((8 : Int32) &&& 31).toUInt32).toInt32).toUInt32 >>> ((4 : Int32) &&& 31).toUInt32).toInt32).toUInt32 >>> ((1 : Int32) &&& 31).toUInt32).toInt32)), .val (.int ((((0 : Int32) + (8 : Int32)) + (4 : Int32)) + (1 : Int32)))] [(.int (1 : Int32)), (.int (((((((p0 - (1 : Int32)).toUInt32 >>> ((8 : Int32) &&& 31).toUInt32).toInt32).toUInt32 >>> ((4 : Int32) &&& 31).toUInt32).toInt32).toUInt32 >>> ((1 : Int32) &&& 31).toUInt32).toInt32))])) t → Steps p.tables e below (s₁.setTop (entryFrame m #[(.int p0)] 3)) t := by
              intro t kt
              refine G53 _ ?_
              show Steps p.tables e below (s₁.setTop (mkF m 62 #[.val (.int p0), .val (.int (((((p0 - (1 : Int32)).toUInt32 >>> ((8 : Int32) &&& 31).toUInt32).toInt32).toUInt32 >>> ((4 : Int32) &&& 31).toUInt32).toInt32)), .val (.int (((0 : Int32) + (8 : Int32)) + (4 : Int32)))] [(.int (2 : Int32)), (.int (((((p0 - (1 : Int32)).toUInt32 >>> ((8 : Int32) &&& 31).toUInt32).toInt32).toUInt32 >>> ((4 : Int32) &&& 31).toUInt32).toInt32))])) _
              refine XS.icmpNo X0.here hx rfl (hb hby d5_62) rfl (flt hc62_54).1 ?_
              show Steps p.tables e below (s₁.setTop (mkF m 65 #[.val (.int p0), .val (.int (((((p0 - (1 : Int32)).toUInt32 >>> ((8 : Int32) &&& 31).toUInt32).toInt32).toUInt32 >>> ((4 : Int32) &&& 31).toUInt32).toInt32)), .val (.int (((0 : Int32) + (8 : Int32)) + (4 : Int32)))] [])) _
              refine XS.iinc X0.here hx rfl (hb hby d5_65) rfl (l' := #[.val (.int p0), .val (.int (((((p0 - (1 : Int32)).toUInt32 >>> ((8 : Int32) &&& 31).toUInt32).toInt32).toUInt32 >>> ((4 : Int32) &&& 31).toUInt32).toInt32)), .val (.int ((((0 : Int32) + (8 : Int32)) + (4 : Int32)) + (1 : Int32)))]) rfl ?_
              show Steps p.tables e below (s₁.setTop (mkF m 68 #[.val (.int p0), .val (.int (((((p0 - (1 : Int32)).toUInt32 >>> ((8 : Int32) &&& 31).toUInt32).toInt32).toUInt32 >>> ((4 : Int32) &&& 31).toUInt32).toInt32)), .val (.int ((((0 : Int32) + (8 : Int32)) + (4 : Int32)) + (1 : Int32)))] [])) _
              refine XS.iloadN X0.here hx rfl (hb hby d5_68) rfl ?_
              show Steps p.tables e below (s₁.setTop (mkF m 69 #[.val (.int p0), .val (.int (((((p0 - (1 : Int32)).toUInt32 >>> ((8 : Int32) &&& 31).toUInt32).toInt32).toUInt32 >>> ((4 : Int32) &&& 31).toUInt32).toInt32)), .val (.int ((((0 : Int32) + (8 : Int32)) + (4 : Int32)) + (1 : Int32)))] [(.int (((((p0 - (1 : Int32)).toUInt32 >>> ((8 : Int32) &&& 31).toUInt32).toInt32).toUInt32 >>> ((4 : Int32) &&& 31).toUInt32).toInt32))])) _
              refine XS.iconst X0.here hx rfl (hb hby d5_69) ?_
              show Steps p.tables e below (s₁.setTop (mkF m 70 #[.val (.int p0), .val (.int (((((p0 - (1 : Int32)).toUInt32 >>> ((8 : Int32) &&& 31).toUInt32).toInt32).toUInt32 >>> ((4 : Int32) &&& 31).toUInt32).toInt32)), .val (.int ((((0 : Int32) + (8 : Int32)) + (4 : Int32)) + (1 : Int32)))] [(.int (1 : Int32)), (.int (((((p0 - (1 : Int32)).toUInt32 >>> ((8 : Int32) &&& 31).toUInt32).toInt32).toUInt32 >>> ((4 : Int32) &&& 31).toUInt32).toInt32))])) _
              refine XS.iushr X0.here hx rfl (hb hby d5_70) rfl ?_
              show Steps p.tables e below (s₁.setTop (mkF m 71 #[.val (.int p0), .val (.int (((((p0 - (1 : Int32)).toUInt32 >>> ((8 : Int32) &&& 31).toUInt32).toInt32).toUInt32 >>> ((4 : Int32) &&& 31).toUInt32).toInt32)), .val (.int ((((0 : Int32) + (8 : Int32)) + (4 : Int32)) + (1 : Int32)))] [(.int (((((((p0 - (1 : Int32)).toUInt32 >>> ((8 : Int32) &&& 31).toUInt32).toInt32).toUInt32 >>> ((4 : Int32) &&& 31).toUInt32).toInt32).toUInt32 >>> ((1 : Int32) &&& 31).toUInt32).toInt32))])) _
              refine XS.istoreN X0.here hx rfl (hb hby d5_71) rfl (l' := #[.val (.int p0), .val (.int (((((((p0 - (1 : Int32)).toUInt32 >>> ((8 : Int32) &&& 31).toUInt32).toInt32).toUInt32 >>> ((4 : Int32) &&& 31).toUInt32).toInt32).toUInt32 >>> ((1 : Int32) &&& 31).toUInt32).toInt32)), .val (.int ((((0 : Int32) + (8 : Int32)) + (4 : Int32)) + (1 : Int32)))]) rfl ?_
              show Steps p.tables e below (s₁.setTop (mkF m 72 #[.val (.int p0), .val (.int (((((((p0 - (1 : Int32)).toUInt32 >>> ((8 : Int32) &&& 31).toUInt32).toInt32).toUInt32 >>> ((4 : Int32) &&& 31).toUInt32).toInt32).toUInt32 >>> ((1 : Int32) &&& 31).toUInt32).toInt32)), .val (.int ((((0 : Int32) + (8 : Int32)) + (4 : Int32)) + (1 : Int32)))] [])) _
              refine XS.iloadN X0.here hx rfl (hb hby d5_72) rfl ?_
              show Steps p.tables e below (s₁.setTop (mkF m 73 #[.val (.int p0), .val (.int (((((((p0 - (1 : Int32)).toUInt32 >>> ((8 : Int32) &&& 31).toUInt32).toInt32).toUInt32 >>> ((4 : Int32) &&& 31).toUInt32).toInt32).toUInt32 >>> ((1 : Int32) &&& 31).toUInt32).toInt32)), .val (.int ((((0 : Int32) + (8 : Int32)) + (4 : Int32)) + (1 : Int32)))] [(.int (((((((p0 - (1 : Int32)).toUInt32 >>> ((8 : Int32) &&& 31).toUInt32).toInt32).toUInt32 >>> ((4 : Int32) &&& 31).toUInt32).toInt32).toUInt32 >>> ((1 : Int32) &&& 31).toUInt32).toInt32))])) _
              refine XS.iconst X0.here hx rfl (hb hby d5_73) ?_
              exact kt
            by_cases hc74_58 : (((((((p0 - (1 : Int32)).toUInt32 >>> ((8 : Int32) &&& 31).toUInt32).toInt32).toUInt32 >>> ((4 : Int32) &&& 31).toUInt32).toInt32).toUInt32 >>> ((1 : Int32) &&& 31).toUInt32).toInt32) < (1 : Int32)
            · skip
              obtain ⟨fs, hr, hrun, hended, hW, hsame⟩ := X0.leave (v := some (.int ((((0 : Int32) + (8 : Int32)) + (4 : Int32)) + (1 : Int32)))) (fun h => by rw [Bd.returns] at h; cases h)
              refine ⟨_, _, G57 _ ?_, hrun, hended, _, _, rfl, ?_, ⟨_, rfl⟩, hW, hsame.mono (by decide) (by decide)⟩
              · skip
                show Steps p.tables e below (s₁.setTop (mkF m 74 #[.val (.int p0), .val (.int (((((((p0 - (1 : Int32)).toUInt32 >>> ((8 : Int32) &&& 31).toUInt32).toInt32).toUInt32 >>> ((4 : Int32) &&& 31).toUInt32).toInt32).toUInt32 >>> ((1 : Int32) &&& 31).toUInt32).toInt32)), .val (.int ((((0 : Int32) + (8 : Int32)) + (4 : Int32)) + (1 : Int32)))] [(.int (1 : Int32)), (.int (((((((p0 - (1 : Int32)).toUInt32 >>> ((8 : Int32) &&& 31).toUInt32).toInt32).toUInt32 >>> ((4 : Int32) &&& 31).toUInt32).toInt32).toUInt32 >>> ((1 : Int32) &&& 31).toUInt32).toInt32))])) _
                refine XS.icmpYes X0.here hx rfl (pc0 := 74) (pc' := 80) rfl (hb hby d5_74) rfl (tlt hc74_58).1 (by decide) (by decide) ?_
                show Steps p.tables e below (s₁.setTop (mkF m 80 #[.val (.int p0), .val (.int (((((((p0 - (1 : Int32)).toUInt32 >>> ((8 : Int32) &&& 31).toUInt32).toInt32).toUInt32 >>> ((4 : Int32) &&& 31).toUInt32).toInt32).toUInt32 >>> ((1 : Int32) &&& 31).toUInt32).toInt32)), .val (.int ((((0 : Int32) + (8 : Int32)) + (4 : Int32)) + (1 : Int32)))] [])) _
                refine XS.iloadN X0.here hx rfl (hb hby d5_80) rfl ?_
                show Steps p.tables e below (s₁.setTop (mkF m 81 #[.val (.int p0), .val (.int (((((((p0 - (1 : Int32)).toUInt32 >>> ((8 : Int32) &&& 31).toUInt32).toInt32).toUInt32 >>> ((4 : Int32) &&& 31).toUInt32).toInt32).toUInt32 >>> ((1 : Int32) &&& 31).toUInt32).toInt32)), .val (.int ((((0 : Int32) + (8 : Int32)) + (4 : Int32)) + (1 : Int32)))] [(.int ((((0 : Int32) + (8 : Int32)) + (4 : Int32)) + (1 : Int32)))])) _
                exact retI X0 hx Bd.returns (hb hby d5_81) hr
              · show Q5 Z p0 h0 n0 _ s₁.heap _
                rw [e0]
                exact ⟨by rw [f5, if_pos hc9_2, if_neg hc24_4, if_neg hc38_36, if_pos hc50_52, if_neg hc62_54, if_pos hc74_58], N0, rfl⟩
            · skip
              obtain ⟨fs, hr, hrun, hended, hW, hsame⟩ := X0.leave (v := some (.int (((((0 : Int32) + (8 : Int32)) + (4 : Int32)) + (1 : Int32)) + (1 : Int32)))) (fun h => by rw [Bd.returns] at h; cases h)
              refine ⟨_, _, G57 _ ?_, hrun, hended, _, _, rfl, ?_, ⟨_, rfl⟩, hW, hsame.mono (by decide) (by decide)⟩
              · skip
                show Steps p.tables e below (s₁.setTop (mkF m 74 #[.val (.int p0), .val (.int (((((((p0 - (1 : Int32)).toUInt32 >>> ((8 : Int32) &&& 31).toUInt32).toInt32).toUInt32 >>> ((4 : Int32) &&& 31).toUInt32).toInt32).toUInt32 >>> ((1 : Int32) &&& 31).toUInt32).toInt32)), .val (.int ((((0 : Int32) + (8 : Int32)) + (4 : Int32)) + (1 : Int32)))] [(.int (1 : Int32)), (.int (((((((p0 - (1 : Int32)).toUInt32 >>> ((8 : Int32) &&& 31).toUInt32).toInt32).toUInt32 >>> ((4 : Int32) &&& 31).toUInt32).toInt32).toUInt32 >>> ((1 : Int32) &&& 31).toUInt32).toInt32))])) _
                refine XS.icmpNo X0.here hx rfl (hb hby d5_74) rfl (flt hc74_58).1 ?_
                show Steps p.tables e below (s₁.setTop (mkF m 77 #[.val (.int p0), .val (.int (((((((p0 - (1 : Int32)).toUInt32 >>> ((8 : Int32) &&& 31).toUInt32).toInt32).toUInt32 >>> ((4 : Int32) &&& 31).toUInt32).toInt32).toUInt32 >>> ((1 : Int32) &&& 31).toUInt32).toInt32)), .val (.int ((((0 : Int32) + (8 : Int32)) + (4 : Int32)) + (1 : Int32)))] [])) _
                refine XS.iinc X0.here hx rfl (hb hby d5_77) rfl (l' := #[.val (.int p0), .val (.int (((((((p0 - (1 : Int32)).toUInt32 >>> ((8 : Int32) &&& 31).toUInt32).toInt32).toUInt32 >>> ((4 : Int32) &&& 31).toUInt32).toInt32).toUInt32 >>> ((1 : Int32) &&& 31).toUInt32).toInt32)), .val (.int (((((0 : Int32) + (8 : Int32)) + (4 : Int32)) + (1 : Int32)) + (1 : Int32)))]) rfl ?_
                show Steps p.tables e below (s₁.setTop (mkF m 80 #[.val (.int p0), .val (.int (((((((p0 - (1 : Int32)).toUInt32 >>> ((8 : Int32) &&& 31).toUInt32).toInt32).toUInt32 >>> ((4 : Int32) &&& 31).toUInt32).toInt32).toUInt32 >>> ((1 : Int32) &&& 31).toUInt32).toInt32)), .val (.int (((((0 : Int32) + (8 : Int32)) + (4 : Int32)) + (1 : Int32)) + (1 : Int32)))] [])) _
                refine XS.iloadN X0.here hx rfl (hb hby d5_80) rfl ?_
                show Steps p.tables e below (s₁.setTop (mkF m 81 #[.val (.int p0), .val (.int (((((((p0 - (1 : Int32)).toUInt32 >>> ((8 : Int32) &&& 31).toUInt32).toInt32).toUInt32 >>> ((4 : Int32) &&& 31).toUInt32).toInt32).toUInt32 >>> ((1 : Int32) &&& 31).toUInt32).toInt32)), .val (.int (((((0 : Int32) + (8 : Int32)) + (4 : Int32)) + (1 : Int32)) + (1 : Int32)))] [(.int (((((0 : Int32) + (8 : Int32)) + (4 : Int32)) + (1 : Int32)) + (1 : Int32)))])) _
                exact retI X0 hx Bd.returns (hb hby d5_81) hr
              · show Q5 Z p0 h0 n0 _ s₁.heap _
                rw [e0]
                exact ⟨by rw [f5, if_pos hc9_2, if_neg hc24_4, if_neg hc38_36, if_pos hc50_52, if_neg hc62_54, if_neg hc74_58], N0, rfl⟩
        · skip
          have G59 : ∀ t, Steps p.tables e below (s₁.setTop (mkF m 62 #[.val (.int p0), .val (.int (((((((p0 - (1 : Int32)).toUInt32 >>> ((8 : Int32) &&& 31).toUInt32).toInt32).toUInt32 >>> ((4 : Int32) &&& 31).toUInt32).toInt32).toUInt32 >>> ((2 : Int32) &&& 31).toUInt32).toInt32)), .val (.int ((((0 : Int32) + (8 : Int32)) + (4 : Int32)) + (2 : Int32)))] [(.int (2 : Int32)), (.int (((((((p0 - (1 : Int32)).toUInt32 >>> ((8 : Int32) &&& 31).toUInt32).toInt32).toUInt32 >>> ((4 : Int32) &&& 31).toUInt32).toInt32).toUInt32 >>> ((2 : Int32) &&& 31).toUInt32).toInt32))])) t → Steps p.tables e below (s₁.setTop (entryFrame m #[(.int p0)] 3)) t := by
            intro t kt
            refine G51 _ ?_
            show Steps p.tables e below (s₁.setTop (mkF m 50 #[.val (.int p0), .val (.int (((((p0 - (1 : Int32)).toUInt32 >>> ((8 : Int32) &&& 31).toUInt32).toInt32).toUInt32 >>> ((4 : Int32) &&& 31).toUInt32).toInt32)), .val (.int (((0 : Int32) + (8 : Int32)) + (4 : Int32)))] [(.int (4 : Int32)), (.int (((((p0 - (1 : Int32)).toUInt32 >>> ((8 : Int32) &&& 31).toUInt32).toInt32).toUInt32 >>> ((4 : Int32) &&& 31).toUInt32).toInt32))])) _
            refine XS.icmpNo X0.here hx rfl (hb hby d5_50) rfl (flt hc50_52).1 ?_
            show Steps p.tables e below (s₁.setTop (mkF m 53 #[.val (.int p0), .val (.int (((((p0 - (1 : Int32)).toUInt32 >>> ((8 : Int32) &&& 31).toUInt32).toInt32).toUInt32 >>> ((4 : Int32) &&& 31).toUInt32).toInt32)), .val (.int (((0 : Int32) + (8 : Int32)) + (4 : Int32)))] [])) _
            refine XS.iinc X0.here hx rfl (hb hby d5_53) rfl (l' := #[.val (.int p0), .val (.int (((((p0 - (1 : Int32)).toUInt32 >>> ((8 : Int32) &&& 31).toUInt32).toInt32).toUInt32 >>> ((4 : Int32) &&& 31).toUInt32).toInt32)), .val (.int ((((0 : Int32) + (8 : Int32)) + (4 : Int32)) + (2 : Int32)))]) rfl ?_
            show Steps p.tables e below (s₁.setTop (mkF m 56 #[.val (.int p0), .val (.int (((((p0 - (1 : Int32)).toUInt32 >>> ((8 : Int32) &&& 31).toUInt32).toInt32).toUInt32 >>> ((4 : Int32) &&& 31).toUInt32).toInt32)), .val (.int ((((0 : Int32) + (8 : Int32)) + (4 : Int32)) + (2 : Int32)))] [])) _
            refine XS.iloadN X0.here hx rfl (hb hby d5_56) rfl ?_
            show Steps p.tables e below (s₁.setTop (mkF m 57 #[.val (.int p0), .val (.int (((((p0 - (1 : Int32)).toUInt32 >>> ((8 : Int32) &&& 31).toUInt32).toInt32).toUInt32 >>> ((4 : Int32) &&& 31).toUInt32).toInt32)), .val (.int ((((0 : Int32) + (8 : Int32)) + (4 : Int32)) + (2 : Int32)))] [(.int (((((p0 - (1 : Int32)).toUInt32 >>> ((8 : Int32) &&& 31).toUInt32).toInt32).toUInt32 >>> ((4 : Int32) &&& 31).toUInt32).toInt32))])) _
            refine XS.iconst X0.here hx rfl (hb hby d5_57) ?_
            show Steps p.tables e below (s₁.setTop (mkF m 58 #[.val (.int p0), .val (.int (((((p0 - (1 : Int32)).toUInt32 >>> ((8 : Int32) &&& 31).toUInt32).toInt32).toUInt32 >>> ((4 : Int32) &&& 31).toUInt32).toInt32)), .val (.int ((((0 : Int32) + (8 : Int32)) + (4 : Int32)) + (2 : Int32)))] [(.int (2 : Int32)), (.int (((((p0 - (1 : Int32)).toUInt32 >>> ((8 : Int32) &&& 31).toUInt32).toInt32).toUInt32 >>> ((4 : Int32) &&& 31).toUInt32).toInt32))])) _
            refine XS.iushr X0.here hx rfl (hb hby d5_58) rfl ?_
            show Steps p.tables e below (s₁.setTop (mkF m 59 #[.val (.int p0), .val (.int (((((p0 - (1 : Int32)).toUInt32 >>> ((8 : Int32) &&& 31).toUInt32).toInt32).toUInt32 >>> ((4 : Int32) &&& 31).toUInt32).toInt32)), .val (.int ((((0 : Int32) + (8 : Int32)) + (4 : Int32)) + (2 : Int32)))] [(.int (((((((p0 - (1 : Int32)).toUInt32 >>> ((8 : Int32) &&& 31).toUInt32).toInt32).toUInt32 >>> ((4 : Int32) &&& 31).toUInt32).toInt32).toUInt32 >>> ((2 : Int32) &&& 31).toUInt32).toInt32))])) _
            refine XS.istoreN X0.here hx rfl (hb hby d5_59) rfl (l' := #[.val (.int p0), .val (.int (((((((p0 - (1 : Int32)).toUInt32 >>> ((8 : Int32) &&& 31).toUInt32).toInt32).toUInt32 >>> ((4 : Int32) &&& 31).toUInt32).toInt32).toUInt32 >>> ((2 : Int32) &&& 31).toUInt32).toInt32)), .val (.int ((((0 : Int32) + (8 : Int32)) + (4 : Int32)) + (2 : Int32)))]) rfl ?_
            show Steps p.tables e below (s₁.setTop (mkF m 60 #[.val (.int p0), .val (.int (((((((p0 - (1 : Int32)).toUInt32 >>> ((8 : Int32) &&& 31).toUInt32).toInt32).toUInt32 >>> ((4 : Int32) &&& 31).toUInt32).toInt32).toUInt32 >>> ((2 : Int32) &&& 31).toUInt32).toInt32)), .val (.int ((((0 : Int32) + (8 : Int32)) + (4 : Int32)) + (2 : Int32)))] [])) _
            refine XS.iloadN X0.here hx rfl (hb hby d5_60) rfl ?_
            show Steps p.tables e below (s₁.setTop (mkF m 61 #[.val (.int p0), .val (.int (((((((p0 - (1 : Int32)).toUInt32 >>> ((8 : Int32) &&& 31).toUInt32).toInt32).toUInt32 >>> ((4 : Int32) &&& 31).toUInt32).toInt32).toUInt32 >>> ((2 : Int32) &&& 31).toUInt32).toInt32)), .val (.int ((((0 : Int32) + (8 : Int32)) + (4 : Int32)) + (2 : Int32)))] [(.int (((((((p0 - (1 : Int32)).toUInt32 >>> ((8 : Int32) &&& 31).toUInt32).toInt32).toUInt32 >>> ((4 : Int32) &&& 31).toUInt32).toInt32).toUInt32 >>> ((2 : Int32) &&& 31).toUInt32).toInt32))])) _
            refine XS.iconst X0.here hx rfl (hb hby d5_61) ?_
            exact kt
          by_cases hc62_60 : (((((((p0 - (1 : Int32)).toUInt32 >>> ((8 : Int32) &&& 31).toUInt32).toInt32).toUInt32 >>> ((4 : Int32) &&& 31).toUInt32).toInt32).toUInt32 >>> ((2 : Int32) &&& 31).toUInt32).toInt32) < (2 : Int32)
          · skip
            have G61 : ∀ t, Steps p.tables e below (s₁.setTop (mkF m 74 #[.val (.int p0), .val (.int (((((((p0 - (1 : Int32)).toUInt32 >>> ((8 : Int32) &&& 31).toUInt32).toInt32).toUInt32 >>> ((4 : Int32) &&& 31).toUInt32).toInt32).toUInt32 >>> ((2 : Int32) &&& 31).toUInt32).toInt32)), .val (.int ((((0 : Int32) + (8 : Int32)) + (4 : Int32)) + (2 : Int32)))] [(.int (1 : Int32)), (.int (((((((p0 - (1 : Int32)).toUInt32 >>> ((8 : Int32) &&& 31).toUInt32).toInt32).toUInt32 >>> ((4 : Int32) &&& 31).toUInt32).toInt32).toUInt32 >>> ((2 : Int32) &&& 31).toUInt32).toInt32))])) t → Steps p.tables e below (s₁.setTop (entryFrame m #[(.int p0)] 3)) t := by
              intro t kt
              refine G59 _ ?_
              show Steps p.tables e below (s₁.setTop (mkF m 62 #[.val (.int p0), .val (.int (((((((p0 - (1 : Int32)).toUInt32 >>> ((8 : Int32) &&& 31).toUInt32).toInt32).toUInt32 >>> ((4 : Int32) &&& 31).toUInt32).toInt32).toUInt32 >>> ((2 : Int32) &&& 31).toUInt32).toInt32)), .val (.int ((((0 : Int32) + (8 : Int32)) + (4 : Int32)) + (2 : Int32)))] [(.int (2 : Int32)), (.int (((((((p0 - (1 : Int32)).toUInt32 >>> ((8 : Int32) &&& 31).toUInt32).toInt32).toUInt32 >>> ((4 : Int32) &&& 31).toUInt32).toInt32).toUInt32 >>> ((2 : Int32) &&& 31).toUInt32).toInt32))])) _
              refine XS.icmpYes X0.here hx rfl (pc0 := 62) (pc' := 72) rfl (hb hby d5_62) rfl (tlt hc62_60).1 (by decide) (by decide) ?_
              show Steps p.tables e below (s₁.setTop (mkF m 72 #[.val (.int p0), .val (.int (((((((p0 - (1 : Int32)).toUInt32 >>> ((8 : Int32) &&& 31).toUInt32).toInt32).toUInt32 >>> ((4 : Int32) &&& 31).toUInt32).toInt32).toUInt32 >>> ((2 : Int32) &&& 31).toUInt32).toInt32)), .val (.int ((((0 : Int32) + (8 : Int32)) + (4 : Int32)) + (2 : Int32)))] [])) _
              refine XS.iloadN X0.here hx rfl (hb hby d5_72) rfl ?_
              show Steps p.tables e below (s₁.setTop (mkF m 73 #[.val (.int p0), .val (.int (((((((p0 - (1 : Int32)).toUInt32 >>> ((8 : Int32) &&& 31).toUInt32).toInt32).toUInt32 >>> ((4 : Int32) &&& 31).toUInt32).toInt32).toUInt32 >>> ((2 : Int32) &&& 31).toUInt32).toInt32)), .val (.int ((((0 : Int32) + (8 : Int32)) + (4 : Int32)) + (2 : Int32)))] [(.int (((((((p0 - (1 : Int32)).toUInt32 >>> ((8 : Int32) &&& 31).toUInt32).toInt32).toUInt32 >>> ((4 : Int32) &&& 31).toUInt32).toInt32).toUInt32 >>> ((2 : Int32) &&& 31).toUInt32).toInt32))])) _
              refine XS.iconst X0.here hx rfl (hb hby d5_73) ?_
              exact kt
            by_cases hc74_62 : (((((((p0 - (1 : Int32)).toUInt32 >>> ((8 : Int32) &&& 31).toUInt32).toInt32).toUInt32 >>> ((4 : Int32) &&& 31).toUInt32).toInt32).toUInt32 >>> ((2 : Int32) &&& 31).toUInt32).toInt32) < (1 : Int32)
            · skip
              obtain ⟨fs, hr, hrun, hended, hW, hsame⟩ := X0.leave (v := some (.int ((((0 : Int32) + (8 : Int32)) + (4 : Int32)) + (2 : Int32)))) (fun h => by rw [Bd.returns] at h; cases h)
              refine ⟨_, _, G61 _ ?_, hrun, hended, _, _, rfl, ?_, ⟨_, rfl⟩, hW, hsame.mono (by decide) (by decide)⟩
              · skip
                show Steps p.tables e below (s₁.setTop (mkF m 74 #[.val (.int p0), .val (.int (((((((p0 - (1 : Int32)).toUInt32 >>> ((8 : Int32) &&& 31).toUInt32).toInt32).toUInt32 >>> ((4 : Int32) &&& 31).toUInt32).toInt32).toUInt32 >>> ((2 : Int32) &&& 31).toUInt32).toInt32)), .val (.int ((((0 : Int32) + (8 : Int32)) + (4 : Int32)) + (2 : Int32)))] [(.int (1 : Int32)), (.int (((((((p0 - (1 : Int32)).toUInt32 >>> ((8 : Int32) &&& 31).toUInt32).toInt32).toUInt32 >>> ((4 : Int32) &&& 31).toUInt32).toInt32).toUInt32 >>> ((2 : Int32) &&& 31).toUInt32).toInt32))])) _
                refine XS.icmpYes X0.here hx rfl (pc0 := 74) (pc' := 80) rfl (hb hby d5_74) rfl (tlt hc74_62).1 (by decide) (by decide) ?_
                show Steps p.tables e below (s₁.setTop (mkF m 80 #[.val (.int p0), .val (.int (((((((p0 - (1 : Int32)).toUInt32 >>> ((8 : Int32) &&& 31).toUInt32).toInt32).toUInt32 >>> ((4 : Int32) &&& 31).toUInt32).toInt32).toUInt32 >>> ((2 : Int32) &&& 31).toUInt32).toInt32)), .val (.int ((((0 : Int32) + (8 : Int32)) + (4 : Int32)) + (2 : Int32)))] [])) _
                refine XS.iloadN X0.here hx rfl (hb hby d5_80) rfl ?_
                show Steps p.tables e below (s₁.setTop (mkF m 81 #[.val (.int p0), .val (.int (((((((p0 - (1 : Int32)).toUInt32 >>> ((8 : Int32) &&& 31).toUInt32).toInt32).toUInt32 >>> ((4 : Int32) &&& 31).toUInt32).toInt32).toUInt32 >>> ((2 : Int32) &&& 31).toUInt32).toInt32)), .val (.int ((((0 : Int32) + (8 : Int32)) + (4 : Int32)) + (2 : Int32)))] [(.int ((((0 : Int32) + (8 : Int32)) + (4 : Int32)) + (2 : Int32)))])) _
                exact retI X0 hx Bd.returns (hb hby d5_81) hr
              · show Q5 Z p0 h0 n0 _ s₁.heap _
                rw [e0]
                exact ⟨by rw [f5, if_pos hc9_2, if_neg hc24_4, if_neg hc38_36, if_neg hc50_52, if_pos hc62_60, if_pos hc74_62], N0, rfl⟩
            · skip
              obtain ⟨fs, hr, hrun, hended, hW, hsame⟩ := X0.leave (v := some (.int (((((0 : Int32) + (8 : Int32)) + (4 : Int32)) + (2 : Int32)) + (1 : Int32)))) (fun h => by rw [Bd.returns] at h; cases h)
              refine ⟨_, _, G61 _ ?_, hrun, hended, _, _, rfl, ?_, ⟨_, rfl⟩, hW, hsame.mono (by decide) (by decide)⟩
              · skip
                show Steps p.tables e below (s₁.setTop (mkF m 74 #[.val (.int p0), .val (.int (((((((p0 - (1 : Int32)).toUInt32 >>> ((8 : Int32) &&& 31).toUInt32).toInt32).toUInt32 >>> ((4 : Int32) &&& 31).toUInt32).toInt32).toUInt32 >>> ((2 : Int32) &&& 31).toUInt32).toInt32)), .val (.int ((((0 : Int32) + (8 : Int32)) + (4 : Int32)) + (2 : Int32)))] [(.int (1 : Int32)), (.int (((((((p0 - (1 : Int32)).toUInt32 >>> ((8 : Int32) &&& 31).toUInt32).toInt32).toUInt32 >>> ((4 : Int32) &&& 31).toUInt32).toInt32).toUInt32 >>> ((2 : Int32) &&& 31).toUInt32).toInt32))])) _
                refine XS.icmpNo X0.here hx rfl (hb hby d5_74) rfl (flt hc74_62).1 ?_
                show Steps p.tables e below (s₁.setTop (mkF m 77 #[.val (.int p0), .val (.int (((((((p0 - (1 : Int32)).toUInt32 >>> ((8 : Int32) &&& 31).toUInt32).toInt32).toUInt32 >>> ((4 : Int32) &&& 31).toUInt32).toInt32).toUInt32 >>> ((2 : Int32) &&& 31).toUInt32).toInt32)), .val (.int ((((0 : Int32) + (8 : Int32)) + (4 : Int32)) + (2 : Int32)))] [])) _
                refine XS.iinc X0.here hx rfl (hb hby d5_77) rfl (l' := #[.val (.int p0), .val (.int (((((((p0 - (1 : Int32)).toUInt32 >>> ((8 : Int32) &&& 31).toUInt32).toInt32).toUInt32 >>> ((4 : Int32) &&& 31).toUInt32).toInt32).toUInt32 >>> ((2 : Int32) &&& 31).toUInt32).toInt32)), .val (.int (((((0 : Int32) + (8 : Int32)) + (4 : Int32)) + (2 : Int32)) + (1 : Int32)))]) rfl ?_
                show Steps p.tables e below (s₁.setTop (mkF m 80 #[.val (.int p0), .val (.int (((((((p0 - (1 : Int32)).toUInt32 >>> ((8 : Int32) &&& 31).toUInt32).toInt32).toUInt32 >>> ((4 : Int32) &&& 31).toUInt32).toInt32).toUInt32 >>> ((2 : Int32) &&& 31).toUInt32).toInt32)), .val (.int (((((0 : Int32) + (8 : Int32)) + (4 : Int32)) + (2 : Int32)) + (1 : Int32)))] [])) _
                refine XS.iloadN X0.here hx rfl (hb hby d5_80) rfl ?_
                show Steps p.tables e below (s₁.setTop (mkF m 81 #[.val (.int p0), .val (.int (((((((p0 - (1 : Int32)).toUInt32 >>> ((8 : Int32) &&& 31).toUInt32).toInt32).toUInt32 >>> ((4 : Int32) &&& 31).toUInt32).toInt32).toUInt32 >>> ((2 : Int32) &&& 31).toUInt32).toInt32)), .val (.int (((((0 : Int32) + (8 : Int32)) + (4 : Int32)) + (2 : Int32)) + (1 : Int32)))] [(.int (((((0 : Int32) + (8 : Int32)) + (4 : Int32)) + (2 : Int32)) + (1 : Int32)))])) _
                exact retI X0 hx Bd.returns (hb hby d5_81) hr
              · show Q5 Z p0 h0 n0 _ s₁.heap _
                rw [e0]
                exact ⟨by rw [f5, if_pos hc9_2, if_neg hc24_4, if_neg hc38_36, if_neg hc50_52, if_pos hc62_60, if_neg hc74_62], N0, rfl⟩
          · skip
            have G63 : ∀ t, Steps p.tables e below (s₁.setTop (mkF m 74 #[.val (.int p0), .val (.int (((((((((p0 - (1 : Int32)).toUInt32 >>> ((8 : Int32) &&& 31).toUInt32).toInt32).toUInt32 >>> ((4 : Int32) &&& 31).toUInt32).toInt32).toUInt32 >>> ((2 : Int32) &&& 31).toUInt32).toInt32).toUInt32 >>> ((1 : Int32) &&& 31).toUInt32).toInt32)), .val (.int (((((0 : Int32) + (8 : Int32)) + (4 : Int32)) + (2 : Int32)) + (1 : Int32)))] [(.int (1 : Int32)), (.int (((((((((p0 - (1 : Int32)).toUInt32 >>> ((8 : Int32) &&& 31).toUInt32).toInt32).toUInt32 >>> ((4 : Int32) &&& 31).toUInt32).toInt32).toUInt32 >>> ((2 : Int32) &&& 31).toUInt32).toInt32).toUInt32 >>> ((1 : Int32) &&& 31).toUInt32).toInt32))])) t → Steps p.tables e below (s₁.setTop (entryFrame m #[(.int p0)] 3)) t := by
              intro t kt
              refine G59 _ ?_
              show Steps p.tables e below (s₁.setTop (mkF m 62 #[.val (.int p0), .val (.int (((((((p0 - (1 : Int32)).toUInt32 >>> ((8 : Int32) &&& 31).toUInt32).toInt32).toUInt32 >>> ((4 : Int32) &&& 31).toUInt32).toInt32).toUInt32 >>> ((2 : Int32) &&& 31).toUInt32).toInt32)), .val (.int ((((0 : Int32) + (8 : Int32)) + (4 : Int32)) + (2 : Int32)))] [(.int (2 : Int32)), (.int (((((((p0 - (1 : Int32)).toUInt32 >>> ((8 : Int32) &&& 31).toUInt32).toInt32).toUInt32 >>> ((4 : Int32) &&& 31).toUInt32).toInt32).toUInt32 >>> ((2 : Int32) &&& 31).toUInt32).toInt32))])) _
              refine XS.icmpNo X0.here hx rfl (hb hby d5_62) rfl (flt hc62_60).1 ?_
              show Steps p.tables e below (s₁.setTop (mkF m 65 #[.val (.int p0), .val (.int (((((((p0 - (1 : Int32)).toUInt32 >>> ((8 : Int32) &&& 31).toUInt32).toInt32).toUInt32 >>> ((4 : Int32) &&& 31).toUInt32).toInt32).toUInt32 >>> ((2 : Int32) &&& 31).toUInt32).toInt32)), .val (.int ((((0 : Int32) + (8 : Int32)) + (4 : Int32)) + (2 : Int32)))] [])) _
              refine XS.iinc X0.here hx rfl (hb hby d5_65) rfl (l' := #[.val (.int p0), .val (.int (((((((p0 - (1 : Int32)).toUInt32 >>> ((8 : Int32) &&& 31).toUInt32).toInt32).toUInt32 >>> ((4 : Int32) &&& 31).toUInt32).toInt32).toUInt32 >>> ((2 : Int32) &&& 31).toUInt32).toInt32)), .val (.int (((((0 : Int32) + (8 : Int32)) + (4 : Int32)) + (2 : Int32)) + (1 : Int32)))]) rfl ?_
              show Steps p.tables e below (s₁.setTop (mkF m 68 #[.val (.int p0), .val (.int (((((((p0 - (1 : Int32)).toUInt32 >>> ((8 : Int32) &&& 31).toUInt32).toInt32).toUInt32 >>> ((4 : Int32) &&& 31).toUInt32).toInt32).toUInt32 >>> ((2 : Int32) &&& 31).toUInt32).toInt32)), .val (.int (((((0 : Int32) + (8 : Int32)) + (4 : Int32)) + (2 : Int32)) + (1 : Int32)))] [])) _
              refine XS.iloadN X0.here hx rfl (hb hby d5_68) rfl ?_
              show Steps p.tables e below (s₁.setTop (mkF m 69 #[.val (.int p0), .val (.int (((((((p0 - (1 : Int32)).toUInt32 >>> ((8 : Int32) &&& 31).toUInt32).toInt32).toUInt32 >>> ((4 : Int32) &&& 31).toUInt32).toInt32).toUInt32 >>> ((2 : Int32) &&& 31).toUInt32).toInt32)), .val (.int (((((0 : Int32) + (8 : Int32)) + (4 : Int32)) + (2 : Int32)) + (1 : Int32)))] [(.int (((((((p0 - (1 : Int32)).toUInt32 >>> ((8 : Int32) &&& 31).toUInt32).toInt32).toUInt32 >>> ((4 : Int32) &&& 31).toUInt32).toInt32).toUInt32 >>> ((2 : Int32) &&& 31).toUInt32).toInt32))])) _
              refine XS.iconst X0.here hx rfl (hb hby d5_69) ?_
              show Steps p.tables e below (s₁.setTop (mkF m 70 #[.val (.int p0), .val (.int (((((((p0 - (1 : Int32)).toUInt32 >>> ((8 : Int32) &&& 31).toUInt32).toInt32).toUInt32 >>> ((4 : Int32) &&& 31).toUInt32).toInt32).toUInt32 >>> ((2 : Int32) &&& 31).toUInt32).toInt32)), .val (.int (((((0 : Int32) + (8 : Int32)) + (4 : Int32)) + (2 : Int32)) + (1 : Int32)))] [(.int (1 : Int32)), (.int (((((((p0 - (1 : Int32)).toUInt32 >>> ((8 : Int32) &&& 31).toUInt32).toInt32).toUInt32 >>> ((4 : Int32) &&& 31).toUInt32).toInt32).toUInt32 >>> ((2 : Int32) &&& 31).toUInt32).toInt32))])) _
              refine XS.iushr X0.here hx rfl (hb hby d5_70) rfl ?_
              show Steps p.tables e below (s₁.setTop (mkF m 71 #[.val (.int p0), .val (.int (((((((p0 - (1 : Int32)).toUInt32 >>> ((8 : Int32) &&& 31).toUInt32).toInt32).toUInt32 >>> ((4 : Int32) &&& 31).toUInt32).toInt32).toUInt32 >>> ((2 : Int32) &&& 31).toUInt32).toInt32)), .val (.int (((((0 : Int32) + (8 : Int32)) + (4 : Int32)) + (2 : Int32)) + (1 : Int32)))] [(.int (((((((((p0 - (1 : Int32)).toUInt32 >>> ((8 : Int32) &&& 31).toUInt32).toInt32).toUInt32 >>> ((4 : Int32) &&& 31).toUInt32).toInt32).toUInt32 >>> ((2 : Int32) &&& 31).toUInt32).toInt32).toUInt32 >>> ((1 : Int32) &&& 31).toUInt32).toInt32))])) _
              refine XS.istoreN X0.here hx rfl (hb hby d5_71) rfl (l' := #[.val (.int p0), .val (.int (((((((((p0 - (1 : Int32)).toUInt32 >>> ((8 : Int32) &&& 31).toUInt32).toInt32).toUInt32 >>> ((4 : Int32) &&& 31).toUInt32).toInt32).toUInt32 >>> ((2 : Int32) &&& 31).toUInt32).toInt32).toUInt32 >>> ((1 : Int32) &&& 31).toUInt32).toInt32)), .val (.int (((((0 : Int32) + (8 : Int32)) + (4 : Int32)) + (2 : Int32)) + (1 : Int32)))]) rfl ?_
              show Steps p.tables e below (s₁.setTop (mkF m 72 #[.val (.int p0), .val (.int (((((((((p0 - (1 : Int32)).toUInt32 >>> ((8 : Int32) &&& 31).toUInt32).toInt32).toUInt32 >>> ((4 : Int32) &&& 31).toUInt32).toInt32).toUInt32 >>> ((2 : Int32) &&& 31).toUInt32).toInt32).toUInt32 >>> ((1 : Int32) &&& 31).toUInt32).toInt32)), .val (.int (((((0 : Int32) + (8 : Int32)) + (4 : Int32)) + (2 : Int32)) + (1 : Int32)))] [])) _
              refine XS.iloadN X0.here hx rfl (hb hby d5_72) rfl ?_
              show Steps p.tables e below (s₁.setTop (mkF m 73 #[.val (.int p0), .val (.int (((((((((p0 - (1 : Int32)).toUInt32 >>> ((8 : Int32) &&& 31).toUInt32).toInt32).toUInt32 >>> ((4 : Int32) &&& 31).toUInt32).toInt32).toUInt32 >>> ((2 : Int32) &&& 31).toUInt32).toInt32).toUInt32 >>> ((1 : Int32) &&& 31).toUInt32).toInt32)), .val (.int (((((0 : Int32) + (8 : Int32)) + (4 : Int32)) + (2 : Int32)) + (1 : Int32)))] [(.int (((((((((p0 - (1 : Int32)).toUInt32 >>> ((8 : Int32) &&& 31).toUInt32).toInt32).toUInt32 >>> ((4 : Int32) &&& 31).toUInt32).toInt32).toUInt32 >>> ((2 : Int32) &&& 31).toUInt32).toInt32).toUInt32 >>> ((1 : Int32) &&& 31).toUInt32).toInt32))])) _
              refine XS.iconst X0.here hx rfl (hb hby d5_73) ?_
              exact kt
            by_cases hc74_64 : (((((((((p0 - (1 : Int32)).toUInt32 >>> ((8 : Int32) &&& 31).toUInt32).toInt32).toUInt32 >>> ((4 : Int32) &&& 31).toUInt32).toInt32).toUInt32 >>> ((2 : Int32) &&& 31).toUInt32).toInt32).toUInt32 >>> ((1 : Int32) &&& 31).toUInt32).toInt32) < (1 : Int32)
            · skip
              obtain ⟨fs, hr, hrun, hended, hW, hsame⟩ := X0.leave (v := some (.int (((((0 : Int32) + (8 : Int32)) + (4 : Int32)) + (2 : Int32)) + (1 : Int32)))) (fun h => by rw [Bd.returns] at h; cases h)
              refine ⟨_, _, G63 _ ?_, hrun, hended, _, _, rfl, ?_, ⟨_, rfl⟩, hW, hsame.mono (by decide) (by decide)⟩
              · skip
                show Steps p.tables e below (s₁.setTop (mkF m 74 #[.val (.int p0), .val (.int (((((((((p0 - (1 : Int32)).toUInt32 >>> ((8 : Int32) &&& 31).toUInt32).toInt32).toUInt32 >>> ((4 : Int32) &&& 31).toUInt32).toInt32).toUInt32 >>> ((2 : Int32) &&& 31).toUInt32).toInt32).toUInt32 >>> ((1 : Int32) &&& 31).toUInt32).toInt32)), .val (.int (((((0 : Int32) + (8 : Int32)) + (4 : Int32)) + (2 : Int32)) + (1 : Int32)))] [(.int (1 : Int32)), (.int (((((((((p0 - (1 : Int32)).toUInt32 >>> ((8 : Int32) &&& 31).toUInt32).toInt32).toUInt32 >>> ((4 : Int32) &&& 31).toUInt32).toInt32).toUInt32 >>> ((2 : Int32) &&& 31).toUInt32).toInt32).toUInt32 >>> ((1 : Int32) &&& 31).toUInt32).toInt32))])) _
                refine XS.icmpYes X0.here hx rfl (pc0 := 74) (pc' := 80) rfl (hb hby d5_74) rfl (tlt hc74_64).1 (by decide) (by decide) ?_
                show Steps p.tables e below (s₁.setTop (mkF m 80 #[.val (.int p0), .val (.int (((((((((p0 - (1 : Int32)).toUInt32 >>> ((8 : Int32) &&& 31).toUInt32).toInt32).toUInt32 >>> ((4 : Int32) &&& 31).toUInt32).toInt32).toUInt32 >>> ((2 : Int32) &&& 31).toUInt32).toInt32).toUInt32 >>> ((1 : Int32) &&& 31).toUInt32).toInt32)), .val (.int (((((0 : Int32) + (8 : Int32)) + (4 : Int32)) + (2 : Int32)) + (1 : Int32)))] [])) _
                refine XS.iloadN X0.here hx rfl (hb hby d5_80) rfl ?_
                show Steps p.tables e below (s₁.setTop (mkF m 81 #[.val (.int p0), .val (.int (((((((((p0 - (1 : Int32)).toUInt32 >>> ((8 : Int32) &&& 31).toUInt32).toInt32).toUInt32 >>> ((4 : Int32) &&& 31).toUInt32).toInt32).toUInt32 >>> ((2 : Int32) &&& 31).toUInt32).toInt32).toUInt32 >>> ((1 : Int32) &&& 31).toUInt32).toInt32)), .val (.int (((((0 : Int32) + (8 : Int32)) + (4 : Int32)) + (2 : Int32)) + (1 : Int32)))] [(.int (((((0 : Int32) + (8 : Int32)) + (4 : Int32)) + (2 : Int32)) + (1 : Int32)))])) _
                exact retI X0 hx Bd.returns (hb hby d5_81) hr
              · show Q5 Z p0 h0 n0 _ s₁.heap _
                rw [e0]
                exact ⟨by rw [f5, if_pos hc9_2, if_neg hc24_4, if_neg hc38_36, if_neg hc50_52, if_neg hc62_60, if_pos hc74_64], N0, rfl⟩
            · skip
              obtain ⟨fs, hr, hrun, hended, hW, hsame⟩ := X0.leave (v := some (.int ((((((0 : Int32) + (8 : Int32)) + (4 : Int32)) + (2 : Int32)) + (1 : Int32)) + (1 : Int32)))) (fun h => by rw [Bd.returns] at h; cases h)
              refine ⟨_, _, G63 _ ?_, hrun, hended, _, _, rfl, ?_, ⟨_, rfl⟩, hW, hsame.mono (by decide) (by decide)⟩
              · skip
                show Steps p.tables e below (s₁.setTop (mkF m 74 #[.val (.int p0), .val (.int (((((((((p0 - (1 : Int32)).toUInt32 >>> ((8 : Int32) &&& 31).toUInt32).toInt32).toUInt32 >>> ((4 : Int32) &&& 31).toUInt32).toInt32).toUInt32 >>> ((2 : Int32) &&& 31).toUInt32).toInt32).toUInt32 >>> ((1 : Int32) &&& 31).toUInt32).toInt32)), .val (.int (((((0 : Int32) + (8 : Int32)) + (4 : Int32)) + (2 : Int32)) + (1 : Int32)))] [(.int (1 : Int32)), (.int (((((((((p0 - (1 : Int32)).toUInt32 >>> ((8 : Int32) &&& 31).toUInt32).toInt32).toUInt32 >>> ((4 : Int32) &&& 31).toUInt32).toInt32).toUInt32 >>> ((2 : Int32) &&& 31).toUInt32).toInt32).toUInt32 >>> ((1 : Int32) &&& 31).toUInt32).toInt32))])) _
                refine XS.icmpNo X0.here hx rfl (hb hby d5_74) rfl (flt hc74_64).1 ?_
                show Steps p.tables e below (s₁.setTop (mkF m 77 #[.val (.int p0), .val (.int (((((((((p0 - (1 : Int32)).toUInt32 >>> ((8 : Int32) &&& 31).toUInt32).toInt32).toUInt32 >>> ((4 : Int32) &&& 31).toUInt32).toInt32).toUInt32 >>> ((2 : Int32) &&& 31).toUInt32).toInt32).toUInt32 >>> ((1 : Int32) &&& 31).toUInt32).toInt32)), .val (.int (((((0 : Int32) + (8 : Int32)) + (4 : Int32)) + (2 : Int32)) + (1 : Int32)))] [])) _
                refine XS.iinc X0.here hx rfl (hb hby d5_77) rfl (l' := #[.val (.int p0), .val (.int (((((((((p0 - (1 : Int32)).toUInt32 >>> ((8 : Int32) &&& 31).toUInt32).toInt32).toUInt32 >>> ((4 : Int32) &&& 31).toUInt32).toInt32).toUInt32 >>> ((2 : Int32) &&& 31).toUInt32).toInt32).toUInt32 >>> ((1 : Int32) &&& 31).toUInt32).toInt32)), .val (.int ((((((0 : Int32) + (8 : Int32)) + (4 : Int32)) + (2 : Int32)) + (1 : Int32)) + (1 : Int32)))]) rfl ?_
                show Steps p.tables e below (s₁.setTop (mkF m 80 #[.val (.int p0), .val (.int (((((((((p0 - (1 : Int32)).toUInt32 >>> ((8 : Int32) &&& 31).toUInt32).toInt32).toUInt32 >>> ((4 : Int32) &&& 31).toUInt32).toInt32).toUInt32 >>> ((2 : Int32) &&& 31).toUInt32).toInt32).toUInt32 >>> ((1 : Int32) &&& 31).toUInt32).toInt32)), .val (.int ((((((0 : Int32) + (8 : Int32)) + (4 : Int32)) + (2 : Int32)) + (1 : Int32)) + (1 : Int32)))] [])) _
                refine XS.iloadN X0.here hx rfl (hb hby d5_80) rfl ?_
                show Steps p.tables e below (s₁.setTop (mkF m 81 #[.val (.int p0), .val (.int (((((((((p0 - (1 : Int32)).toUInt32 >>> ((8 : Int32) &&& 31).toUInt32).toInt32).toUInt32 >>> ((4 : Int32) &&& 31).toUInt32).toInt32).toUInt32 >>> ((2 : Int32) &&& 31).toUInt32).toInt32).toUInt32 >>> ((1 : Int32) &&& 31).toUInt32).toInt32)), .val (.int ((((((0 : Int32) + (8 : Int32)) + (4 : Int32)) + (2 : Int32)) + (1 : Int32)) + (1 : Int32)))] [(.int ((((((0 : Int32) + (8 : Int32)) + (4 : Int32)) + (2 : Int32)) + (1 : Int32)) + (1 : Int32)))])) _
                exact retI X0 hx Bd.returns (hb hby d5_81) hr
              · show Q5 Z p0 h0 n0 _ s₁.heap _
                rw [e0]
                exact ⟨by rw [f5, if_pos hc9_2, if_neg hc24_4, if_neg hc38_36, if_neg hc50_52, if_neg hc62_60, if_neg hc74_64], N0, rfl⟩
  · skip
    have G65 : ∀ t, Steps p.tables e below (s₁.setTop (mkF m 24 #[.val (.int p0), .val (.int (((p0 - (1 : Int32)).toUInt32 >>> ((16 : Int32) &&& 31).toUInt32).toInt32)), .val (.int ((0 : Int32) + (16 : Int32)))] [(.int (256 : Int32)), (.int (((p0 - (1 : Int32)).toUInt32 >>> ((16 : Int32) &&& 31).toUInt32).toInt32))])) t → Steps p.tables e below (s₁.setTop (entryFrame m #[(.int p0)] 3)) t := by
      intro t kt
      refine G1 _ ?_
      show Steps p.tables e below (s₁.setTop (mkF m 9 #[.val (.int p0), .val (.int (p0 - (1 : Int32))), .val (.int (0 : Int32))] [(.int (65536 : Int32)), (.int (p0 - (1 : Int32)))])) _
      refine XS.icmpNo X0.here hx rfl (hb hby d5_9) rfl (flt hc9_2).1 ?_
      show Steps p.tables e below (s₁.setTop (mkF m 12 #[.val (.int p0), .val (.int (p0 - (1 : Int32))), .val (.int (0 : Int32))] [])) _
      refine XS.iinc X0.here hx rfl (hb hby d5_12) rfl (l' := #[.val (.int p0), .val (.int (p0 - (1 : Int32))), .val (.int ((0 : Int32) + (16 : Int32)))]) rfl ?_
      show Steps p.tables e below (s₁.setTop (mkF m 15 #[.val (.int p0), .val (.int (p0 - (1 : Int32))), .val (.int ((0 : Int32) + (16 : Int32)))] [])) _
      refine XS.iloadN X0.here hx rfl (hb hby d5_15) rfl ?_
      show Steps p.tables e below (s₁.setTop (mkF m 16 #[.val (.int p0), .val (.int (p0 - (1 : Int32))), .val (.int ((0 : Int32) + (16 : Int32)))] [(.int (p0 - (1 : Int32)))])) _
      refine XS.bipush X0.here hx rfl (hb hby d5_16) ?_
      show Steps p.tables e below (s₁.setTop (mkF m 18 #[.val (.int p0), .val (.int (p0 - (1 : Int32))), .val (.int ((0 : Int32) + (16 : Int32)))] [(.int (16 : Int32)), (.int (p0 - (1 : Int32)))])) _
      refine XS.iushr X0.here hx rfl (hb hby d5_18) rfl ?_
      show Steps p.tables e below (s₁.setTop (mkF m 19 #[.val (.int p0), .val (.int (p0 - (1 : Int32))), .val (.int ((0 : Int32) + (16 : Int32)))] [(.int (((p0 - (1 : Int32)).toUInt32 >>> ((16 : Int32) &&& 31).toUInt32).toInt32))])) _
      refine XS.istoreN X0.here hx rfl (hb hby d5_19) rfl (l' := #[.val (.int p0), .val (.int (((p0 - (1 : Int32)).toUInt32 >>> ((16 : Int32) &&& 31).toUInt32).toInt32)), .val (.int ((0 : Int32) + (16 : Int32)))]) rfl ?_
      show Steps p.tables e below (s₁.setTop (mkF m 20 #[.val (.int p0), .val (.int (((p0 - (1 : Int32)).toUInt32 >>> ((16 : Int32) &&& 31).toUInt32).toInt32)), .val (.int ((0 : Int32) + (16 : Int32)))] [])) _
      refine XS.iloadN X0.here hx rfl (hb hby d5_20) rfl ?_
      show Steps p.tables e below (s₁.setTop (mkF m 21 #[.val (.int p0), .val (.int (((p0 - (1 : Int32)).toUInt32 >>> ((16 : Int32) &&& 31).toUInt32).toInt32)), .val (.int ((0 : Int32) + (16 : Int32)))] [(.int (((p0 - (1 : Int32)).toUInt32 >>> ((16 : Int32) &&& 31).toUInt32).toInt32))])) _
      refine XS.sipush X0.here hx rfl (hb hby d5_21) ?_
      exact kt
    by_cases hc24_66 : (((p0 - (1 : Int32)).toUInt32 >>> ((16 : Int32) &&& 31).toUInt32).toInt32) < (256 : Int32)
    · skip
      have G67 : ∀ t, Steps p.tables e below (s₁.setTop (mkF m 38 #[.val (.int p0), .val (.int (((p0 - (1 : Int32)).toUInt32 >>> ((16 : Int32) &&& 31).toUInt32).toInt32)), .val (.int ((0 : Int32) + (16 : Int32)))] [(.int (16 : Int32)), (.int (((p0 - (1 : Int32)).toUInt32 >>> ((16 : Int32) &&& 31).toUInt32).toInt32))])) t → Steps p.tables e below (s₁.setTop (entryFrame m #[(.int p0)] 3)) t := by
        intro t kt
        refine G65 _ ?_
        show Steps p.tables e below (s₁.setTop (mkF m 24 #[.val (.int p0), .val (.int (((p0 - (1 : Int32)).toUInt32 >>> ((16 : Int32) &&& 31).toUInt32).toInt32)), .val (.int ((0 : Int32) + (16 : Int32)))] [(.int (256 : Int32)), (.int (((p0 - (1 : Int32)).toUInt32 >>> ((16 : Int32) &&& 31).toUInt32).toInt32))])) _
        refine XS.icmpYes X0.here hx rfl (pc0 := 24) (pc' := 35) rfl (hb hby d5_24) rfl (tlt hc24_66).1 (by decide) (by decide) ?_
        show Steps p.tables e below (s₁.setTop (mkF m 35 #[.val (.int p0), .val (.int (((p0 - (1 : Int32)).toUInt32 >>> ((16 : Int32) &&& 31).toUInt32).toInt32)), .val (.int ((0 : Int32) + (16 : Int32)))] [])) _
        refine XS.iloadN X0.here hx rfl (hb hby d5_35) rfl ?_
        show Steps p.tables e below (s₁.setTop (mkF m 36 #[.val (.int p0), .val (.int (((p0 - (1 : Int32)).toUInt32 >>> ((16 : Int32) &&& 31).toUInt32).toInt32)), .val (.int ((0 : Int32) + (16 : Int32)))] [(.int (((p0 - (1 : Int32)).toUInt32 >>> ((16 : Int32) &&& 31).toUInt32).toInt32))])) _
        refine XS.bipush X0.here hx rfl (hb hby d5_36) ?_
        exact kt
      by_cases hc38_68 : (((p0 - (1 : Int32)).toUInt32 >>> ((16 : Int32) &&& 31).toUInt32).toInt32) < (16 : Int32)
      · skip
        have G69 : ∀ t, Steps p.tables e below (s₁.setTop (mkF m 50 #[.val (.int p0), .val (.int (((p0 - (1 : Int32)).toUInt32 >>> ((16 : Int32) &&& 31).toUInt32).toInt32)), .val (.int ((0 : Int32) + (16 : Int32)))] [(.int (4 : Int32)), (.int (((p0 - (1 : Int32)).toUInt32 >>> ((16 : Int32) &&& 31).toUInt32).toInt32))])) t → Steps p.tables e below (s₁.setTop (entryFrame m #[(.int p0)] 3)) t := by
          intro t kt
          refine G67 _ ?_
          show Steps p.tables e below (s₁.setTop (mkF m 38 #[.val (.int p0), .val (.int (((p0 - (1 : Int32)).toUInt32 >>> ((16 : Int32) &&& 31).toUInt32).toInt32)), .val (.int ((0 : Int32) + (16 : Int32)))] [(.int (16 : Int32)), (.int (((p0 - (1 : Int32)).toUInt32 >>> ((16 : Int32) &&& 31).toUInt32).toInt32))])) _
          refine XS.icmpYes X0.here hx rfl (pc0 := 38) (pc' := 48) rfl (hb hby d5_38) rfl (tlt hc38_68).1 (by decide) (by decide) ?_
          show Steps p.tables e below (s₁.setTop (mkF m 48 #[.val (.int p0), .val (.int (((p0 - (1 : Int32)).toUInt32 >>> ((16 : Int32) &&& 31).toUInt32).toInt32)), .val (.int ((0 : Int32) + (16 : Int32)))] [])) _
          refine XS.iloadN X0.here hx rfl (hb hby d5_48) rfl ?_
          show Steps p.tables e below (s₁.setTop (mkF m 49 #[.val (.int p0), .val (.int (((p0 - (1 : Int32)).toUInt32 >>> ((16 : Int32) &&& 31).toUInt32).toInt32)), .val (.int ((0 : Int32) + (16 : Int32)))] [(.int (((p0 - (1 : Int32)).toUInt32 >>> ((16 : Int32) &&& 31).toUInt32).toInt32))])) _
          refine XS.iconst X0.here hx rfl (hb hby d5_49) ?_
          exact kt
        by_cases hc50_70 : (((p0 - (1 : Int32)).toUInt32 >>> ((16 : Int32) &&& 31).toUInt32).toInt32) < (4 : Int32)
        · skip
          have G71 : ∀ t, Steps p.tables e below (s₁.setTop (mkF m 62 #[.val (.int p0), .val (.int (((p0 - (1 : Int32)).toUInt32 >>> ((16 : Int32) &&& 31).toUInt32).toInt32)), .val (.int ((0 : Int32) + (16 : Int32)))] [(.int (2 : Int32)), (.int (((p0 - (1 : Int32)).toUInt32 >>> ((16 : Int32) &&& 31).toUInt32).toInt32))])) t → Steps p.tables e below (s₁.setTop (entryFrame m #[(.int p0)] 3)) t := by
            intro t kt
            refine G69 _ ?_
            show Steps p.tables e below (s₁.setTop (mkF m 50 #[.val (.int p0), .val (.int (((p0 - (1 : Int32)).toUInt32 >>> ((16 : Int32) &&& 31).toUInt32).toInt32)), .val (.int ((0 : Int32) + (16 : Int32)))] [(.int (4 : Int32)), (.int (((p0 - (1 : Int32)).toUInt32 >>> ((16 : Int32) &&& 31).toUInt32).toInt32))])) _
            refine XS.icmpYes X0.here hx rfl (pc0 := 50) (pc' := 60) rfl (hb hby d5_50) rfl (tlt hc50_70).1 (by decide) (by decide) ?_
            show Steps p.tables e below (s₁.setTop (mkF m 60 #[.val (.int p0), .val (.int (((p0 - (1 : Int32)).toUInt32 >>> ((16 : Int32) &&& 31).toUInt32).toInt32)), .val (.int ((0 : Int32) + (16 : Int32)))] [])) _
            refine XS.iloadN X0.here hx rfl (hb hby d5_60) rfl ?_
            show Steps p.tables e below (s₁.setTop (mkF m 61 #[.val (.int p0), .val (.int (((p0 - (1 : Int32)).toUInt32 >>> ((16 : Int32) &&& 31).toUInt32).toInt32)), .val (.int ((0 : Int32) + (16 : Int32)))] [(.int (((p0 - (1 : Int32)).toUInt32 >>> ((16 : Int32) &&& 31).toUInt32).toInt32))])) _
            refine XS.iconst X0.here hx rfl (hb hby d5_61) ?_
            exact kt
          by_cases hc62_72 : (((p0 - (1 : Int32)).toUInt32 >>> ((16 : Int32) &&& 31).toUInt32).toInt32) < (2 : Int32)
          · skip
            have G73 : ∀ t, Steps p.tables e below (s₁.setTop (mkF m 74 #[.val (.int p0), .val (.int (((p0 - (1 : Int32)).toUInt32 >>> ((16 : Int32) &&& 31).toUInt32).toInt32)), .val (.int ((0 : Int32) + (16 : Int32)))] [(.int (1 : Int32)), (.int (((p0 - (1 : Int32)).toUInt32 >>> ((16 : Int32) &&& 31).toUInt32).toInt32))])) t → Steps p.tables e below (s₁.setTop (entryFrame m #[(.int p0)] 3)) t := by
              intro t kt
              refine G71 _ ?_
              show Steps p.tables e below (s₁.setTop (mkF m 62 #[.val (.int p0), .val (.int (((p0 - (1 : Int32)).toUInt32 >>> ((16 : Int32) &&& 31).toUInt32).toInt32)), .val (.int ((0 : Int32) + (16 : Int32)))] [(.int (2 : Int32)), (.int (((p0 - (1 : Int32)).toUInt32 >>> ((16 : Int32) &&& 31).toUInt32).toInt32))])) _
              refine XS.icmpYes X0.here hx rfl (pc0 := 62) (pc' := 72) rfl (hb hby d5_62) rfl (tlt hc62_72).1 (by decide) (by decide) ?_
              show Steps p.tables e below (s₁.setTop (mkF m 72 #[.val (.int p0), .val (.int (((p0 - (1 : Int32)).toUInt32 >>> ((16 : Int32) &&& 31).toUInt32).toInt32)), .val (.int ((0 : Int32) + (16 : Int32)))] [])) _
              refine XS.iloadN X0.here hx rfl (hb hby d5_72) rfl ?_
              show Steps p.tables e below (s₁.setTop (mkF m 73 #[.val (.int p0), .val (.int (((p0 - (1 : Int32)).toUInt32 >>> ((16 : Int32) &&& 31).toUInt32).toInt32)), .val (.int ((0 : Int32) + (16 : Int32)))] [(.int (((p0 - (1 : Int32)).toUInt32 >>> ((16 : Int32) &&& 31).toUInt32).toInt32))])) _
              refine XS.iconst X0.here hx rfl (hb hby d5_73) ?_
              exact kt
            by_cases hc74_74 : (((p0 - (1 : Int32)).toUInt32 >>> ((16 : Int32) &&& 31).toUInt32).toInt32) < (1 : Int32)
            · skip
              obtain ⟨fs, hr, hrun, hended, hW, hsame⟩ := X0.leave (v := some (.int ((0 : Int32) + (16 : Int32)))) (fun h => by rw [Bd.returns] at h; cases h)
              refine ⟨_, _, G73 _ ?_, hrun, hended, _, _, rfl, ?_, ⟨_, rfl⟩, hW, hsame.mono (by decide) (by decide)⟩
              · skip
                show Steps p.tables e below (s₁.setTop (mkF m 74 #[.val (.int p0), .val (.int (((p0 - (1 : Int32)).toUInt32 >>> ((16 : Int32) &&& 31).toUInt32).toInt32)), .val (.int ((0 : Int32) + (16 : Int32)))] [(.int (1 : Int32)), (.int (((p0 - (1 : Int32)).toUInt32 >>> ((16 : Int32) &&& 31).toUInt32).toInt32))])) _
                refine XS.icmpYes X0.here hx rfl (pc0 := 74) (pc' := 80) rfl (hb hby d5_74) rfl (tlt hc74_74).1 (by decide) (by decide) ?_
                show Steps p.tables e below (s₁.setTop (mkF m 80 #[.val (.int p0), .val (.int (((p0 - (1 : Int32)).toUInt32 >>> ((16 : Int32) &&& 31).toUInt32).toInt32)), .val (.int ((0 : Int32) + (16 : Int32)))] [])) _
                refine XS.iloadN X0.here hx rfl (hb hby d5_80) rfl ?_
                show Steps p.tables e below (s₁.setTop (mkF m 81 #[.val (.int p0), .val (.int (((p0 - (1 : Int32)).toUInt32 >>> ((16 : Int32) &&& 31).toUInt32).toInt32)), .val (.int ((0 : Int32) + (16 : Int32)))] [(.int ((0 : Int32) + (16 : Int32)))])) _
                exact retI X0 hx Bd.returns (hb hby d5_81) hr
              · show Q5 Z p0 h0 n0 _ s₁.heap _
                rw [e0]
                exact ⟨by rw [f5, if_neg hc9_2, if_pos hc24_66, if_pos hc38_68, if_pos hc50_70, if_pos hc62_72, if_pos hc74_74], N0, rfl⟩
            · skip
              obtain ⟨fs, hr, hrun, hended, hW, hsame⟩ := X0.leave (v := some (.int (((0 : Int32) + (16 : Int32)) + (1 : Int32)))) (fun h => by rw [Bd.returns] at h; cases h)
              refine ⟨_, _, G73 _ ?_, hrun, hended, _, _, rfl, ?_, ⟨_, rfl⟩, hW, hsame.mono (by decide) (by decide)⟩
              · skip
                show Steps p.tables e below (s₁.setTop (mkF m 74 #[.val (.int p0), .val (.int (((p0 - (1 : Int32)).toUInt32 >>> ((16 : Int32) &&& 31).toUInt32).toInt32)), .val (.int ((0 : Int32) + (16 : Int32)))] [(.int (1 : Int32)), (.int (((p0 - (1 : Int32)).toUInt32 >>> ((16 : Int32) &&& 31).toUInt32).toInt32))])) _
                refine XS.icmpNo X0.here hx rfl (hb hby d5_74) rfl (flt hc74_74).1 ?_
                show Steps p.tables e below (s₁.setTop (mkF m 77 #[.val (.int p0), .val (.int (((p0 - (1 : Int32)).toUInt32 >>> ((16 : Int32) &&& 31).toUInt32).toInt32)), .val (.int ((0 : Int32) + (16 : Int32)))] [])) _
                refine XS.iinc X0.here hx rfl (hb hby d5_77) rfl (l' := #[.val (.int p0), .val (.int (((p0 - (1 : Int32)).toUInt32 >>> ((16 : Int32) &&& 31).toUInt32).toInt32)), .val (.int (((0 : Int32) + (16 : Int32)) + (1 : Int32)))]) rfl ?_
                show Steps p.tables e below (s₁.setTop (mkF m 80 #[.val (.int p0), .val (.int (((p0 - (1 : Int32)).toUInt32 >>> ((16 : Int32) &&& 31).toUInt32).toInt32)), .val (.int (((0 : Int32) + (16 : Int32)) + (1 : Int32)))] [])) _
                refine XS.iloadN X0.here hx rfl (hb hby d5_80) rfl ?_
                show Steps p.tables e below (s₁.setTop (mkF m 81 #[.val (.int p0), .val (.int (((p0 - (1 : Int32)).toUInt32 >>> ((16 : Int32) &&& 31).toUInt32).toInt32)), .val (.int (((0 : Int32) + (16 : Int32)) + (1 : Int32)))] [(.int (((0 : Int32) + (16 : Int32)) + (1 : Int32)))])) _
                exact retI X0 hx Bd.returns (hb hby d5_81) hr
              · show Q5 Z p0 h0 n0 _ s₁.heap _
                rw [e0]
                exact ⟨by rw [f5, if_neg hc9_2, if_pos hc24_66, if_pos hc38_68, if_pos hc50_70, if_pos hc62_72, if_neg hc74_74], N0, rfl⟩
          · skip
            have G75 : ∀ t, Steps p.tables e below (s₁.setTop (mkF m 74 #[.val (.int p0), .val (.int (((((p0 - (1 : Int32)).toUInt32 >>> ((16 : Int32) &&& 31).toUInt32).toInt32).toUInt32 >>> ((1 : Int32) &&& 31).toUInt32).toInt32)), .val (.int (((0 : Int32) + (16 : Int32)) + (1 : Int32)))] [(.int (1 : Int32)), (.int (((((p0 - (1 : Int32)).toUInt32 >>> ((16 : Int32) &&& 31).toUInt32).toInt32).toUInt32 >>> ((1 : Int32) &&& 31).toUInt32).toInt32))])) t → Steps p.tables e below (s₁.setTop (entryFrame m #[(.int p0)] 3)) t := by
              intro t kt
              refine G71 _ ?_
              show Steps p.tables e below (s₁.setTop (mkF m 62 #[.val (.int p0), .val (.int (((p0 - (1 : Int32)).toUInt32 >>> ((16 : Int32) &&& 31).toUInt32).toInt32)), .val (.int ((0 : Int32) + (16 : Int32)))] [(.int (2 : Int32)), (.int (((p0 - (1 : Int32)).toUInt32 >>> ((16 : Int32) &&& 31).toUInt32).toInt32))])) _
              refine XS.icmpNo X0.here hx rfl (hb hby d5_62) rfl (flt hc62_72).1 ?_
              show Steps p.tables e below (s₁.setTop (mkF m 65 #[.val (.int p0), .val (.int (((p0 - (1 : Int32)).toUInt32 >>> ((16 : Int32) &&& 31).toUInt32).toInt32)), .val (.int ((0 : Int32) + (16 : Int32)))] [])) _
              refine XS.iinc X0.here hx rfl (hb hby d5_65) rfl (l' := #[.val (.int p0), .val (.int (((p0 - (1 : Int32)).toUInt32 >>> ((16 : Int32) &&& 31).toUInt32).toInt32)), .val (.int (((0 : Int32) + (16 : Int32)) + (1 : Int32)))]) rfl ?_
              show Steps p.tables e below (s₁.setTop (mkF m 68 #[.val (.int p0), .val (.int (((p0 - (1 : Int32)).toUInt32 >>> ((16 : Int32) &&& 31).toUInt32).toInt32)), .val (.int (((0 : Int32) + (16 : Int32)) + (1 : Int32)))] [])) _
              refine XS.iloadN X0.here hx rfl (hb hby d5_68) rfl ?_
              show Steps p.tables e below (s₁.setTop (mkF m 69 #[.val (.int p0), .val (.int (((p0 - (1 : Int32)).toUInt32 >>> ((16 : Int32) &&& 31).toUInt32).toInt32)), .val (.int (((0 : Int32) + (16 : Int32)) + (1 : Int32)))] [(.int (((p0 - (1 : Int32)).toUInt32 >>> ((16 : Int32) &&& 31).toUInt32).toInt32))])) _
              refine XS.iconst X0.here hx rfl (hb hby d5_69) ?_
              show Steps p.tables e below (s₁.setTop (mkF m 70 #[.val (.int p0), .val (.int (((p0 - (1 : Int32)).toUInt32 >>> ((16 : Int32) &&& 31).toUInt32).toInt32)), .val (.int (((0 : Int32) + (16 : Int32)) + (1 : Int32)))] [(.int (1 : Int32)), (.int (((p0 - (1 : Int32)).toUInt32 >>> ((16 : Int32) &&& 31).toUInt32).toInt32))])) _
              refine XS.iushr X0.here hx rfl (hb hby d5_70) rfl ?_
              show Steps p.tables e below (s₁.setTop (mkF m 71 #[.val (.int p0), .val (.int (((p0 - (1 : Int32)).toUInt32 >>> ((16 : Int32) &&& 31).toUInt32).toInt32)), .val (.int (((0 : Int32) + (16 : Int32)) + (1 : Int32)))] [(.int (((((p0 - (1 : Int32)).toUInt32 >>> ((16 : Int32) &&& 31).toUInt32).toInt32).toUInt32 >>> ((1 : Int32) &&& 31).toUInt32).toInt32))])) _
              refine XS.istoreN X0.here hx rfl (hb hby d5_71) rfl (l' := #[.val (.int p0), .val (.int (((((p0 - (1 : Int32)).toUInt32 >>> ((16 : Int32) &&& 31).toUInt32).toInt32).toUInt32 >>> ((1 : Int32) &&& 31).toUInt32).toInt32)), .val (.int (((0 : Int32) + (16 : Int32)) + (1 : Int32)))]) rfl ?_
              show Steps p.tables e below (s₁.setTop (mkF m 72 #[.val (.int p0), .val (.int (((((p0 - (1 : Int32)).toUInt32 >>> ((16 : Int32) &&& 31).toUInt32).toInt32).toUInt32 >>> ((1 : Int32) &&& 31).toUInt32).toInt32)), .val (.int (((0 : Int32) + (16 : Int32)) + (1 : Int32)))] [])) _
              refine XS.iloadN X0.here hx rfl (hb hby d5_72) rfl ?_
              show Steps p.tables e below (s₁.setTop (mkF m 73 #[.val (.int p0), .val (.int (((((p0 - (1 : Int32)).toUInt32 >>> ((16 : Int32) &&& 31).toUInt32).toInt32).toUInt32 >>> ((1 : Int32) &&& 31).toUInt32).toInt32)), .val (.int (((0 : Int32) + (16 : Int32)) + (1 : Int32)))] [(.int (((((p0 - (1 : Int32)).toUInt32 >>> ((16 : Int32) &&& 31).toUInt32).toInt32).toUInt32 >>> ((1 : Int32) &&& 31).toUInt32).toInt32))])) _
              refine XS.iconst X0.here hx rfl (hb hby d5_73) ?_
              exact kt
            by_cases hc74_76 : (((((p0 - (1 : Int32)).toUInt32 >>> ((16 : Int32) &&& 31).toUInt32).toInt32).toUInt32 >>> ((1 : Int32) &&& 31).toUInt32).toInt32) < (1 : Int32)
            · skip
              obtain ⟨fs, hr, hrun, hended, hW, hsame⟩ := X0.leave (v := some (.int (((0 : Int32) + (16 : Int32)) + (1 : Int32)))) (fun h => by rw [Bd.returns] at h; cases h)
              refine ⟨_, _, G75 _ ?_, hrun, hended, _, _, rfl, ?_, ⟨_, rfl⟩, hW, hsame.mono (by decide) (by decide)⟩
              · skip
                show Steps p.tables e below (s₁.setTop (mkF m 74 #[.val (.int p0), .val (.int (((((p0 - (1 : Int32)).toUInt32 >>> ((16 : Int32) &&& 31).toUInt32).toInt32).toUInt32 >>> ((1 : Int32) &&& 31).toUInt32).toInt32)), .val (.int (((0 : Int32) + (16 : Int32)) + (1 : Int32)))] [(.int (1 : Int32)), (.int (((((p0 - (1 : Int32)).toUInt32 >>> ((16 : Int32) &&& 31).toUInt32).toInt32).toUInt32 >>> ((1 : Int32) &&& 31).toUInt32).toInt32))])) _
                refine XS.icmpYes X0.here hx rfl (pc0 := 74) (pc' := 80) rfl (hb hby d5_74) rfl (tlt hc74_76).1 (by decide) (by decide) ?_
                show Steps p.tables e below (s₁.setTop (mkF m 80 #[.val (.int p0), .val (.int (((((p0 - (1 : Int32)).toUInt32 >>> ((16 : Int32) &&& 31).toUInt32).toInt32).toUInt32 >>> ((1 : Int32) &&& 31).toUInt32).toInt32)), .val (.int (((0 : Int32) + (16 : Int32)) + (1 : Int32)))] [])) _
                refine XS.iloadN X0.here hx rfl (hb hby d5_80) rfl ?_
                show Steps p.tables e below (s₁.setTop (mkF m 81 #[.val (.int p0), .val (.int (((((p0 - (1 : Int32)).toUInt32 >>> ((16 : Int32) &&& 31).toUInt32).toInt32).toUInt32 >>> ((1 : Int32) &&& 31).toUInt32).toInt32)), .val (.int (((0 : Int32) + (16 : Int32)) + (1 : Int32)))] [(.int (((0 : Int32) + (16 : Int32)) + (1 : Int32)))])) _
                exact retI X0 hx Bd.returns (hb hby d5_81) hr
              · show Q5 Z p0 h0 n0 _ s₁.heap _
                rw [e0]
                exact ⟨by rw [f5, if_neg hc9_2, if_pos hc24_66, if_pos hc38_68, if_pos hc50_70, if_neg hc62_72, if_pos hc74_76], N0, rfl⟩
            · skip
              obtain ⟨fs, hr, hrun, hended, hW, hsame⟩ := X0.leave (v := some (.int ((((0 : Int32) + (16 : Int32)) + (1 : Int32)) + (1 : Int32)))) (fun h => by rw [Bd.returns] at h; cases h)
              refine ⟨_, _, G75 _ ?_, hrun, hended, _, _, rfl, ?_, ⟨_, rfl⟩, hW, hsame.mono (by decide) (by decide)⟩
              · skip
                show Steps p.tables e below (s₁.setTop (mkF m 74 #[.val (.int p0), .val (.int (((((p0 - (1 : Int32)).toUInt32 >>> ((16 : Int32) &&& 31).toUInt32).toInt32).toUInt32 >>> ((1 : Int32) &&& 31).toUInt32).toInt32)), .val (.int (((0 : Int32) + (16 : Int32)) + (1 : Int32)))] [(.int (1 : Int32)), (.int (((((p0 - (1 : Int32)).toUInt32 >>> ((16 : Int32) &&& 31).toUInt32).toInt32).toUInt32 >>> ((1 : Int32) &&& 31).toUInt32).toInt32))])) _
                refine XS.icmpNo X0.here hx rfl (hb hby d5_74) rfl (flt hc74_76).1 ?_
                show Steps p.tables e below (s₁.setTop (mkF m 77 #[.val (.int p0), .val (.int (((((p0 - (1 : Int32)).toUInt32 >>> ((16 : Int32) &&& 31).toUInt32).toInt32).toUInt32 >>> ((1 : Int32) &&& 31).toUInt32).toInt32)), .val (.int (((0 : Int32) + (16 : Int32)) + (1 : Int32)))] [])) _
                refine XS.iinc X0.here hx rfl (hb hby d5_77) rfl (l' := #[.val (.int p0), .val (.int (((((p0 - (1 : Int32)).toUInt32 >>> ((16 : Int32) &&& 31).toUInt32).toInt32).toUInt32 >>> ((1 : Int32) &&& 31).toUInt32).toInt32)), .val (.int ((((0 : Int32) + (16 : Int32)) + (1 : Int32)) + (1 : Int32)))]) rfl ?_
                show Steps p.tables e below (s₁.setTop (mkF m 80 #[.val (.int p0), .val (.int (((((p0 - (1 : Int32)).toUInt32 >>> ((16 : Int32) &&& 31).toUInt32).toInt32).toUInt32 >>> ((1 : Int32) &&& 31).toUInt32).toInt32)), .val (.int ((((0 : Int32) + (16 : Int32)) + (1 : Int32)) + (1 : Int32)))] [])) _
                refine XS.iloadN X0.here hx rfl (hb hby d5_80) rfl ?_
                show Steps p.tables e below (s₁.setTop (mkF m 81 #[.val (.int p0), .val (.int (((((p0 - (1 : Int32)).toUInt32 >>> ((16 : Int32) &&& 31).toUInt32).toInt32).toUInt32 >>> ((1 : Int32) &&& 31).toUInt32).toInt32)), .val (.int ((((0 : Int32) + (16 : Int32)) + (1 : Int32)) + (1 : Int32)))] [(.int ((((0 : Int32) + (16 : Int32)) + (1 : Int32)) + (1 : Int32)))])) _
                exact retI X0 hx Bd.returns (hb hby d5_81) hr
              · show Q5 Z p0 h0 n0 _ s₁.heap _
                rw [e0]
                exact ⟨by rw [f5, if_neg hc9_2, if_pos hc24_66, if_pos hc38_68, if_pos hc50_70, if_neg hc62_72, if_neg hc74_76], N0, rfl⟩
        · skip
          have G77 : ∀ t, Steps p.tables e below (s₁.setTop (mkF m 62 #[.val (.int p0), .val (.int (((((p0 - (1 : Int32)).toUInt32 >>> ((16 : Int32) &&& 31).toUInt32).toInt32).toUInt32 >>> ((2 : Int32) &&& 31).toUInt32).toInt32)), .val (.int (((0 : Int32) + (16 : Int32)) + (2 : Int32)))] [(.int (2 : Int32)), (.int (((((p0 - (1 : Int32)).toUInt32 >>> ((16 : Int32) &&& 31).toUInt32).toInt32).toUInt32 >>> ((2 : Int32) &&& 31).toUInt32).toInt32))])) t → Steps p.tables e below (s₁.setTop (entryFrame m #[(.int p0)] 3)) t := by
            intro t kt
            refine G69 _ ?_
            show Steps p.tables e below (s₁.setTop (mkF m 50 #[.val (.int p0), .val (.int (((p0 - (1 : Int32)).toUInt32 >>> ((16 : Int32) &&& 31).toUInt32).toInt32)), .val (.int ((0 : Int32) + (16 : Int32)))] [(.int (4 : Int32)), (.int (((p0 - (1 : Int32)).toUInt32 >>> ((16 : Int32) &&& 31).toUInt32).toInt32))])) _
            refine XS.icmpNo X0.here hx rfl (hb hby d5_50) rfl (flt hc50_70).1 ?_
            show Steps p.tables e below (s₁.setTop (mkF m 53 #[.val (.int p0), .val (.int (((p0 - (1 : Int32)).toUInt32 >>> ((16 : Int32) &&& 31).toUInt32).toInt32)), .val (.int ((0 : Int32) + (16 : Int32)))] [])) _
            refine XS.iinc X0.here hx rfl (hb hby d5_53) rfl (l' := #[.val (.int p0), .val (.int (((p0 - (1 : Int32)).toUInt32 >>> ((16 : Int32) &&& 31).toUInt32).toInt32)), .val (.int (((0 : Int32) + (16 : Int32)) + (2 : Int32)))]) rfl ?_
            show Steps p.tables e below (s₁.setTop (mkF m 56 #[.val (.int p0), .val (.int (((p0 - (1 : Int32)).toUInt32 >>> ((16 : Int32) &&& 31).toUInt32).toInt32)), .val (.int (((0 : Int32) + (16 : Int32)) + (2 : Int32)))] [])) _
            refine XS.iloadN X0.here hx rfl (hb hby d5_56) rfl ?_
            show Steps p.tables e below (s₁.setTop (mkF m 57 #[.val (.int p0), .val (.int (((p0 - (1 : Int32)).toUInt32 >>> ((16 : Int32) &&& 31).toUInt32).toInt32)), .val (.int (((0 : Int32) + (16 : Int32)) + (2 : Int32)))] [(.int (((p0 - (1 : Int32)).toUInt32 >>> ((16 : Int32) &&& 31).toUInt32).toInt32))])) _
            refine XS.iconst X0.here hx rfl (hb hby d5_57) ?_
            show Steps p.tables e below (s₁.setTop (mkF m 58 #[.val (.int p0), .val (.int (((p0 - (1 : Int32)).toUInt32 >>> ((16 : Int32) &&& 31).toUInt32).toInt32)), .val (.int (((0 : Int32) + (16 : Int32)) + (2 : Int32)))] [(.int (2 : Int32)), (.int (((p0 - (1 : Int32)).toUInt32 >>> ((16 : Int32) &&& 31).toUInt32).toInt32))])) _
            refine XS.iushr X0.here hx rfl (hb hby d5_58) rfl ?_
            show Steps p.tables e below (s₁.setTop (mkF m 59 #[.val (.int p0), .val (.int (((p0 - (1 : Int32)).toUInt32 >>> ((16 : Int32) &&& 31).toUInt32).toInt32)), .val (.int (((0 : Int32) + (16 : Int32)) + (2 : Int32)))] [(.int (((((p0 - (1 : Int32)).toUInt32 >>> ((16 : Int32) &&& 31).toUInt32).toInt32).toUInt32 >>> ((2 : Int32) &&& 31).toUInt32).toInt32))])) _
            refine XS.istoreN X0.here hx rfl (hb hby d5_59) rfl (l' := #[.val (.int p0), .val (.int (((((p0 - (1 : Int32)).toUInt32 >>> ((16 : Int32) &&& 31).toUInt32).toInt32).toUInt32 >>> ((2 : Int32) &&& 31).toUInt32).toInt32)), .val (.int (((0 : Int32) + (16 : Int32)) + (2 : Int32)))]) rfl ?_
            show Steps p.tables e below (s₁.setTop (mkF m 60 #[.val (.int p0), .val (.int (((((p0 - (1 : Int32)).toUInt32 >>> ((16 : Int32) &&& 31).toUInt32).toInt32).toUInt32 >>> ((2 : Int32) &&& 31).toUInt32).toInt32)), .val (.int (((0 : Int32) + (16 : Int32)) + (2 : Int32)))] [])) _
            refine XS.iloadN X0.here hx rfl (hb hby d5_60) rfl ?_
            show Steps p.tables e below (s₁.setTop (mkF m 61 #[.val (.int p0), .val (.int (((((p0 - (1 : Int32)).toUInt32 >>> ((16 : Int32) &&& 31).toUInt32).toInt32).toUInt32 >>> ((2 : Int32) &&& 31).toUInt32).toInt32)), .val (.int (((0 : Int32) + (16 : Int32)) + (2 : Int32)))] [(.int (((((p0 - (1 : Int32)).toUInt32 >>> ((16 : Int32) &&& 31).toUInt32).toInt32).toUInt32 >>> ((2 : Int32) &&& 31).toUInt32).toInt32))])) _
            refine XS.iconst X0.here hx rfl (hb hby d5_61) ?_
            exact kt
          by_cases hc62_78 : (((((p0 - (1 : Int32)).toUInt32 >>> ((16 : Int32) &&& 31).toUInt32).toInt32).toUInt32 >>> ((2 : Int32) &&& 31).toUInt32).toInt32) < (2 : Int32)
          · skip
            have G79 : ∀ t, Steps p.tables e below (s₁.setTop (mkF m 74 #[.val (.int p0), .val (.int (((((p0 - (1 : Int32)).toUInt32 >>> ((16 : Int32) &&& 31).toUInt32).toInt32).toUInt32 >>> ((2 : Int32) &&& 31).toUInt32).toInt32)), .val (.int (((0 : Int32) + (16 : Int32)) + (2 : Int32)))] [(.int (1 : Int32)), (.int (((((p0 - (1 : Int32)).toUInt32 >>> ((16 : Int32) &&& 31).toUInt32).toInt32).toUInt32 >>> ((2 : Int32) &&& 31).toUInt32).toInt32))])) t → Steps p.tables e below (s₁.setTop (entryFrame m #[(.int p0)] 3)) t := by
              intro t kt
              refine G77 _ ?_
              show Steps p.tables e below (s₁.setTop (mkF m 62 #[.val (.int p0), .val (.int (((((p0 - (1 : Int32)).toUInt32 >>> ((16 : Int32) &&& 31).toUInt32).toInt32).toUInt32 >>> ((2 : Int32) &&& 31).toUInt32).toInt32)), .val (.int (((0 : Int32) + (16 : Int32)) + (2 : Int32)))] [(.int (2 : Int32)), (.int (((((p0 - (1 : Int32)).toUInt32 >>> ((16 : Int32) &&& 31).toUInt32).toInt32).toUInt32 >>> ((2 : Int32) &&& 31).toUInt32).toInt32))])) _
              refine XS.icmpYes X0.here hx rfl (pc0 := 62) (pc' := 72) rfl (hb hby d5_62) rfl (tlt hc62_78).1 (by decide) (by decide) ?_
              show Steps p.tables e below (s₁.setTop (mkF m 72 #[.val (.int p0), .val (.int (((((p0 - (1 : Int32)).toUInt32 >>> ((16 : Int32) &&& 31).toUInt32).toInt32).toUInt32 >>> ((2 : Int32) &&& 31).toUInt32).toInt32)), .val (.int (((0 : Int32) + (16 : Int32)) + (2 : Int32)))] [])) _
              refine XS.iloadN X0.here hx rfl (hb hby d5_72) rfl ?_
              show Steps p.tables e below (s₁.setTop (mkF m 73 #[.val (.int p0), .val (.int (((((p0 - (1 : Int32)).toUInt32 >>> ((16 : Int32) &&& 31).toUInt32).toInt32).toUInt32 >>> ((2 : Int32) &&& 31).toUInt32).toInt32)), .val (.int (((0 : Int32) + (16 : Int32)) + (2 : Int32)))] [(.int (((((p0 - (1 : Int32)).toUInt32 >>> ((16 : Int32) &&& 31).toUInt32).toInt32).toUInt32 >>> ((2 : Int32) &&& 31).toUInt32).toInt32))])) _
              refine XS.iconst X0.here hx rfl (hb hby d5_73) ?_
              exact kt
            by_cases hc74_80 : (((((p0 - (1 : Int32)).toUInt32 >>> ((16 : Int32) &&& 31).toUInt32).toInt32).toUInt32 >>> ((2 : Int32) &&& 31).toUInt32).toInt32) < (1 : Int32)
            · skip
              obtain ⟨fs, hr, hrun, hended, hW, hsame⟩ := X0.leave (v := some (.int (((0 : Int32) + (16 : Int32)) + (2 : Int32)))) (fun h => by rw [Bd.returns] at h; cases h)
              refine ⟨_, _, G79 _ ?_, hrun, hended, _, _, rfl, ?_, ⟨_, rfl⟩, hW, hsame.mono (by decide) (by decide)⟩
              · skip
                show Steps p.tables e below (s₁.setTop (mkF m 74 #[.val (.int p0), .val (.int (((((p0 - (1 : Int32)).toUInt32 >>> ((16 : Int32) &&& 31).toUInt32).toInt32).toUInt32 >>> ((2 : Int32) &&& 31).toUInt32).toInt32)), .val (.int (((0 : Int32) + (16 : Int32)) + (2 : Int32)))] [(.int (1 : Int32)), (.int (((((p0 - (1 : Int32)).toUInt32 >>> ((16 : Int32) &&& 31).toUInt32).toInt32).toUInt32 >>> ((2 : Int32) &&& 31).toUInt32).toInt32))])) _
                refine XS.icmpYes X0.here hx rfl (pc0 := 74) (pc' := 80) rfl (hb hby d5_74) rfl (tlt hc74_80).1 (by decide) (by decide) ?_
                show Steps p.tables e below (s₁.setTop (mkF m 80 #[.val (.int p0), .val (.int (((((p0 - (1 : Int32)).toUInt32 >>> ((16 : Int32) &&& 31).toUInt32).toInt32).toUInt32 >>> ((2 : Int32) &&& 31).toUInt32).toInt32)), .val (.int (((0 : Int32) + (16 : Int32)) + (2 : Int32)))] [])) _
                refine XS.iloadN X0.here hx rfl (hb hby d5_80) rfl ?_
                show Steps p.tables e below (s₁.setTop (mkF m 81 #[.val (.int p0), .val (.int (((((p0 - (1 : Int32)).toUInt32 >>> ((16 : Int32) &&& 31).toUInt32).toInt32).toUInt32 >>> ((2 : Int32) &&& 31).toUInt32).toInt32)), .val (.int (((0 : Int32) + (16 : Int32)) + (2 : Int32)))] [(.int (((0 : Int32) + (16 : Int32)) + (2 : Int32)))])) _
                exact retI X0 hx Bd.returns (hb hby d5_81) hr
              · show Q5 Z p0 h0 n0 _ s₁.heap _
                rw [e0]
                exact ⟨by rw [f5, if_neg hc9_2, if_pos hc24_66, if_pos hc38_68, if_neg hc50_70, if_pos hc62_78, if_pos hc74_80], N0, rfl⟩
            · skip
              obtain ⟨fs, hr, hrun, hended, hW, hsame⟩ := X0.leave (v := some (.int ((((0 : Int32) + (16 : Int32)) + (2 : Int32)) + (1 : Int32)))) (fun h => by rw [Bd.returns] at h; cases h)
              refine ⟨_, _, G79 _ ?_, hrun, hended, _, _, rfl, ?_, ⟨_, rfl⟩, hW, hsame.mono (by decide) (by decide)⟩
              · skip
                show Steps p.tables e below (s₁.setTop (mkF m 74 #[.val (.int p0), .val (.int (((((p0 - (1 : Int32)).toUInt32 >>> ((16 : Int32) &&& 31).toUInt32).toInt32).toUInt32 >>> ((2 : Int32) &&& 31).toUInt32).toInt32)), .val (.int (((0 : Int32) + (16 : Int32)) + (2 : Int32)))] [(.int (1 : Int32)), (.int (((((p0 - (1 : Int32)).toUInt32 >>> ((16 : Int32) &&& 31).toUInt32).toInt32).toUInt32 >>> ((2 : Int32) &&& 31).toUInt32).toInt32))])) _
                refine XS.icmpNo X0.here hx rfl (hb hby d5_74) rfl (flt hc74_80).1 ?_
                show Steps p.tables e below (s₁.setTop (mkF m 77 #[.val (.int p0), .val (.int (((((p0 - (1 : Int32)).toUInt32 >>> ((16 : Int32) &&& 31).toUInt32).toInt32).toUInt32 >>> ((2 : Int32) &&& 31).toUInt32).toInt32)), .val (.int (((0 : Int32) + (16 : Int32)) + (2 : Int32)))] [])) _
                refine XS.iinc X0.here hx rfl (hb hby d5_77) rfl (l' := #[.val (.int p0), .val (.int (((((p0 - (1 : Int32)).toUInt32 >>> ((16 : Int32) &&& 31).toUInt32).toInt32).toUInt32 >>> ((2 : Int32) &&& 31).toUInt32).toInt32)), .val (.int ((((0 : Int32) + (16 : Int32)) + (2 : Int32)) + (1 : Int32)))]) rfl ?_
                show Steps p.tables e below (s₁.setTop (mkF m 80 #[.val (.int p0), .val (.int (((((p0 - (1 : Int32)).toUInt32 >>> ((16 : Int32) &&& 31).toUInt32).toInt32).toUInt32 >>> ((2 : Int32) &&& 31).toUInt32).toInt32)), .val (.int ((((0 : Int32) + (16 : Int32)) + (2 : Int32)) + (1 : Int32)))] [])) _
                refine XS.iloadN X0.here hx rfl (hb hby d5_80) rfl ?_
                show Steps p.tables e below (s₁.setTop (mkF m 81 #[.val (.int p0), .val (.int (((((p0 - (1 : Int32)).toUInt32 >>> ((16 : Int32) &&& 31).toUInt32).toInt32).toUInt32 >>> ((2 : Int32) &&& 31).toUInt32).toInt32)), .val (.int ((((0 : Int32) + (16 : Int32)) + (2 : Int32)) + (1 : Int32)))] [(.int ((((0 : Int32) + (16 : Int32)) + (2 : Int32)) + (1 : Int32)))])) _
                exact retI X0 hx Bd.returns (hb hby d5_81) hr
              · show Q5 Z p0 h0 n0 _ s₁.heap _
                rw [e0]
                exact ⟨by rw [f5, if_neg hc9_2, if_pos hc24_66, if_pos hc38_68, if_neg hc50_70, if_pos hc62_78, if_neg hc74_80], N0, rfl⟩
          · skip
            have G81 : ∀ t, Steps p.tables e below (s₁.setTop (mkF m 74 #[.val (.int p0), .val (.int (((((((p0 - (1 : Int32)).toUInt32 >>> ((16 : Int32) &&& 31).toUInt32).toInt32).toUInt32 >>> ((2 : Int32) &&& 31).toUInt32).toInt32).toUInt32 >>> ((1 : Int32) &&& 31).toUInt32).toInt32)), .val (.int ((((0 : Int32) + (16 : Int32)) + (2 : Int32)) + (1 : Int32)))] [(.int (1 : Int32)), (.int (((((((p0 - (1 : Int32)).toUInt32 >>> ((16 : Int32) &&& 31).toUInt32).toInt32).toUInt32 >>> ((2 : Int32) &&& 31).toUInt32).toInt32).toUInt32 >>> ((1 : Int32) &&& 31).toUInt32).toInt32))])) t → Steps p.tables e below (s₁.setTop (entryFrame m #[(.int p0)] 3)) t := by
              intro t kt
              refine G77 _ ?_
              show Steps p.tables e below (s₁.setTop (mkF m 62 #[.val (.int p0), .val (.int (((((p0 - (1 : Int32)).toUInt32 >>> ((16 : Int32) &&& 31).toUInt32).toInt32).toUInt32 >>> ((2 : Int32) &&& 31).toUInt32).toInt32)), .val (.int (((0 : Int32) + (16 : Int32)) + (2 : Int32)))] [(.int (2 : Int32)), (.int (((((p0 - (1 : Int32)).toUInt32 >>> ((16 : Int32) &&& 31).toUInt32).toInt32).toUInt32 >>> ((2 : Int32) &&& 31).toUInt32).toInt32))])) _
              refine XS.icmpNo X0.here hx rfl (hb hby d5_62) rfl (flt hc62_78).1 ?_
              show Steps p.tables e below (s₁.setTop (mkF m 65 #[.val (.int p0), .val (.int (((((p0 - (1 : Int32)).toUInt32 >>> ((16 : Int32) &&& 31).toUInt32).toInt32).toUInt32 >>> ((2 : Int32) &&& 31).toUInt32).toInt32)), .val (.int (((0 : Int32) + (16 : Int32)) + (2 : Int32)))] [])) _
              refine XS.iinc X0.here hx rfl (hb hby d5_65) rfl (l' := #[.val (.int p0), .val (.int (((((p0 - (1 : Int32)).toUInt32 >>> ((16 : Int32) &&& 31).toUInt32).toInt32).toUInt32 >>> ((2 : Int32) &&& 31).toUInt32).toInt32)), .val (.int ((((0 : Int32) + (16 : Int32)) + (2 : Int32)) + (1 : Int32)))]) rfl ?_
              show Steps p.tables e below (s₁.setTop (mkF m 68 #[.val (.int p0), .val (.int (((((p0 - (1 : Int32)).toUInt32 >>> ((16 : Int32) &&& 31).toUInt32).toInt32).toUInt32 >>> ((2 : Int32) &&& 31).toUInt32).toInt32)), .val (.int ((((0 : Int32) + (16 : Int32)) + (2 : Int32)) + (1 : Int32)))] [])) _
              refine XS.iloadN X0.here hx rfl (hb hby d5_68) rfl ?_
              show Steps p.tables e below (s₁.setTop (mkF m 69 #[.val (.int p0), .val (.int (((((p0 - (1 : Int32)).toUInt32 >>> ((16 : Int32) &&& 31).toUInt32).toInt32).toUInt32 >>> ((2 : Int32) &&& 31).toUInt32).toInt32)), .val (.int ((((0 : Int32) + (16 : Int32)) + (2 : Int32)) + (1 : Int32)))] [(.int (((((p0 - (1 : Int32)).toUInt32 >>> ((16 : Int32) &&& 31).toUInt32).toInt32).toUInt32 >>> ((2 : Int32) &&& 31).toUInt32).toInt32))])) _
              refine XS.iconst X0.here hx rfl (hb hby d5_69) ?_
              show Steps p.tables e below (s₁.setTop (mkF m 70 #[.val (.int p0), .val (.int (((((p0 - (1 : Int32)).toUInt32 >>> ((16 : Int32) &&& 31).toUInt32).toInt32).toUInt32 >>> ((2 : Int32) &&& 31).toUInt32).toInt32)), .val (.int ((((0 : Int32) + (16 : Int32)) + (2 : Int32)) + (1 : Int32)))] [(.int (1 : Int32)), (.int (((((p0 - (1 : Int32)).toUInt32 >>> ((16 : Int32) &&& 31).toUInt32).toInt32).toUInt32 >>> ((2 : Int32) &&& 31).toUInt32).toInt32))])) _
              refine XS.iushr X0.here hx rfl (hb hby d5_70) rfl ?_
              show Steps p.tables e below (s₁.setTop (mkF m 71 #[.val (.int p0), .val (.int (((((p0 - (1 : Int32)).toUInt32 >>> ((16 : Int32) &&& 31).toUInt32).toInt32).toUInt32 >>> ((2 : Int32) &&& 31).toUInt32).toInt32)), .val (.int ((((0 : Int32) + (16 : Int32)) + (2 : Int32)) + (1 : Int32)))] [(.int (((((((p0 - (1 : Int32)).toUInt32 >>> ((16 : Int32) &&& 31).toUInt32).toInt32).toUInt32 >>> ((2 : Int32) &&& 31).toUInt32).toInt32).toUInt32 >>> ((1 : Int32) &&& 31).toUInt32).toInt32))])) _
              refine XS.istoreN X0.here hx rfl (hb hby d5_71) rfl (l' := #[.val (.int p0), .val (.int (((((((p0 - (1 : Int32)).toUInt32 >>> ((16 : Int32) &&& 31).toUInt32).toInt32).toUInt32 >>> ((2 : Int32) &&& 31).toUInt32).toInt32).toUInt32 >>> ((1 : Int32) &&& 31).toUInt32).toInt32)), .val (.int ((((0 : Int32) + (16 : Int32)) + (2 : Int32)) + (1 : Int32)))]) rfl ?_
              show Steps p.tables e below (s₁.setTop (mkF m 72 #[.val (.int p0), .val (.int (((((((p0 - (1 : Int32)).toUInt32 >>> ((16 : Int32) &&& 31).toUInt32).toInt32).toUInt32 >>> ((2 : Int32) &&& 31).toUInt32).toInt32).toUInt32 >>> ((1 : Int32) &&& 31).toUInt32).toInt32)), .val (.int ((((0 : Int32) + (16 : Int32)) + (2 : Int32)) + (1 : Int32)))] [])) _
              refine XS.iloadN X0.here hx rfl (hb hby d5_72) rfl ?_
              show Steps p.tables e below (s₁.setTop (mkF m 73 #[.val (.int p0), .val (.int (((((((p0 - (1 : Int32)).toUInt32 >>> ((16 : Int32) &&& 31).toUInt32).toInt32).toUInt32 >>> ((2 : Int32) &&& 31).toUInt32).toInt32).toUInt32 >>> ((1 : Int32) &&& 31).toUInt32).toInt32)), .val (.int ((((0 : Int32) + (16 : Int32)) + (2 : Int32)) + (1 : Int32)))] [(.int (((((((p0 - (1 : Int32)).toUInt32 >>> ((16 : Int32) &&& 31).toUInt32).toInt32).toUInt32 >>> ((2 : Int32) &&& 31).toUInt32).toInt32).toUInt32 >>> ((1 : Int32) &&& 31).toUInt32).toInt32))])) _
              refine XS.iconst X0.here hx rfl (hb hby d5_73) ?_
              exact kt
            by_cases hc74_82 : (((((((p0 - (1 : Int32)).toUInt32 >>> ((16 : Int32) &&& 31).toUInt32).toInt32).toUInt32 >>> ((2 : Int32) &&& 31).toUInt32).toInt32).toUInt32 >>> ((1 : Int32) &&& 31).toUInt32).toInt32) < (1 : Int32)
            · skip
              obtain ⟨fs, hr, hrun, hended, hW, hsame⟩ := X0.leave (v := some (.int ((((0 : Int32) + (16 : Int32)) + (2 : Int32)) + (1 : Int32)))) (fun h => by rw [Bd.returns] at h; cases h)
              refine ⟨_, _, G81 _ ?_, hrun, hended, _, _, rfl, ?_, ⟨_, rfl⟩, hW, hsame.mono (by decide) (by decide)⟩
              · skip
                show Steps p.tables e below (s₁.setTop (mkF m 74 #[.val (.int p0), .val (.int (((((((p0 - (1 : Int32)).toUInt32 >>> ((16 : Int32) &&& 31).toUInt32).toInt32).toUInt32 >>> ((2 : Int32) &&& 31).toUInt32).toInt32).toUInt32 >>> ((1 : Int32) &&& 31).toUInt32).toInt32)), .val (.int ((((0 : Int32) + (16 : Int32)) + (2 : Int32)) + (1 : Int32)))] [(.int (1 : Int32)), (.int (((((((p0 - (1 : Int32)).toUInt32 >>> ((16 : Int32) &&& 31).toUInt32).toInt32).toUInt32 >>> ((2 : Int32) &&& 31).toUInt32).toInt32).toUInt32 >>> ((1 : Int32) &&& 31).toUInt32).toInt32))])) _
                refine XS.icmpYes X0.here hx rfl (pc0 := 74) (pc' := 80) rfl (hb hby d5_74) rfl (tlt hc74_82).1 (by decide) (by decide) ?_
                show Steps p.tables e below (s₁.setTop (mkF m 80 #[.val (.int p0), .val (.int (((((((p0 - (1 : Int32)).toUInt32 >>> ((16 : Int32) &&& 31).toUInt32).toInt32).toUInt32 >>> ((2 : Int32) &&& 31).toUInt32).toInt32).toUInt32 >>> ((1 : Int32) &&& 31).toUInt32).toInt32)), .val (.int ((((0 : Int32) + (16 : Int32)) + (2 : Int32)) + (1 : Int32)))] [])) _
                refine XS.iloadN X0.here hx rfl (hb hby d5_80) rfl ?_
                show Steps p.tables e below (s₁.setTop (mkF m 81 #[.val (.int p0), .val (.int (((((((p0 - (1 : Int32)).toUInt32 >>> ((16 : Int32) &&& 31).toUInt32).toInt32).toUInt32 >>> ((2 : Int32) &&& 31).toUInt32).toInt32).toUInt32 >>> ((1 : Int32) &&& 31).toUInt32).toInt32)), .val (.int ((((0 : Int32) + (16 : Int32)) + (2 : Int32)) + (1 : Int32)))] [(.int ((((0 : Int32) + (16 : Int32)) + (2 : Int32)) + (1 : Int32)))])) _
                exact retI X0 hx Bd.returns (hb hby d5_81) hr
              · show Q5 Z p0 h0 n0 _ s₁.heap _
                rw [e0]
                exact ⟨by rw [f5, if_neg hc9_2, if_pos hc24_66, if_pos hc38_68, if_neg hc50_70, if_neg hc62_78, if_pos hc74_82], N0, rfl⟩
            · skip
              obtain ⟨fs, hr, hrun, hended, hW, hsame⟩ := X0.leave (v := some (.int (((((0 : Int32) + (16 : Int32)) + (2 : Int32)) + (1 : Int32)) + (1 : Int32)))) (fun h => by rw [Bd.returns] at h; cases h)
              refine ⟨_, _, G81 _ ?_, hrun, hended, _, _, rfl, ?_, ⟨_, rfl⟩, hW, hsame.mono (by decide) (by decide)⟩
              · skip
                show Steps p.tables e below (s₁.setTop (mkF m 74 #[.val (.int p0), .val (.int (((((((p0 - (1 : Int32)).toUInt32 >>> ((16 : Int32) &&& 31).toUInt32).toInt32).toUInt32 >>> ((2 : Int32) &&& 31).toUInt32).toInt32).toUInt32 >>> ((1 : Int32) &&& 31).toUInt32).toInt32)), .val (.int ((((0 : Int32) + (16 : Int32)) + (2 : Int32)) + (1 : Int32)))] [(.int (1 : Int32)), (.int (((((((p0 - (1 : Int32)).toUInt32 >>> ((16 : Int32) &&& 31).toUInt32).toInt32).toUInt32 >>> ((2 : Int32) &&& 31).toUInt32).toInt32).toUInt32 >>> ((1 : Int32) &&& 31).toUInt32).toInt32))])) _
                refine XS.icmpNo X0.here hx rfl (hb hby d5_74) rfl (flt hc74_82).1 ?_
                show Steps p.tables e below (s₁.setTop (mkF m 77 #[.val (.int p0), .val (.int (((((((p0 - (1 : Int32)).toUInt32 >>> ((16 : Int32) &&& 31).toUInt32).toInt32).toUInt32 >>> ((2 : Int32) &&& 31).toUInt32).toInt32).toUInt32 >>> ((1 : Int32) &&& 31).toUInt32).toInt32)), .val (.int ((((0 : Int32) + (16 : Int32)) + (2 : Int32)) + (1 : Int32)))] [])) _
                refine XS.iinc X0.here hx rfl (hb hby d5_77) rfl (l' := #[.val (.int p0), .val (.int (((((((p0 - (1 : Int32)).toUInt32 >>> ((16 : Int32) &&& 31).toUInt32).toInt32).toUInt32 >>> ((2 : Int32) &&& 31).toUInt32).toInt32).toUInt32 >>> ((1 : Int32) &&& 31).toUInt32).toInt32)), .val (.int (((((0 : Int32) + (16 : Int32)) + (2 : Int32)) + (1 : Int32)) + (1 : Int32)))]) rfl ?_
                show Steps p.tables e below (s₁.setTop (mkF m 80 #[.val (.int p0), .val (.int (((((((p0 - (1 : Int32)).toUInt32 >>> ((16 : Int32) &&& 31).toUInt32).toInt32).toUInt32 >>> ((2 : Int32) &&& 31).toUInt32).toInt32).toUInt32 >>> ((1 : Int32) &&& 31).toUInt32).toInt32)), .val (.int (((((0 : Int32) + (16 : Int32)) + (2 : Int32)) + (1 : Int32)) + (1 : Int32)))] [])) _
                refine XS.iloadN X0.here hx rfl (hb hby d5_80) rfl ?_
                show Steps p.tables e below (s₁.setTop (mkF m 81 #[.val (.int p0), .val (.int (((((((p0 - (1 : Int32)).toUInt32 >>> ((16 : Int32) &&& 31).toUInt32).toInt32).toUInt32 >>> ((2 : Int32) &&& 31).toUInt32).toInt32).toUInt32 >>> ((1 : Int32) &&& 31).toUInt32).toInt32)), .val (.int (((((0 : Int32) + (16 : Int32)) + (2 : Int32)) + (1 : Int32)) + (1 : Int32)))] [(.int (((((0 : Int32) + (16 : Int32)) + (2 : Int32)) + (1 : Int32)) + (1 : Int32)))])) _
                exact retI X0 hx Bd.returns (hb hby d5_81) hr
              · show Q5 Z p0 h0 n0 _ s₁.heap _
                rw [e0]
                exact ⟨by rw [f5, if_neg hc9_2, if_pos hc24_66, if_pos hc38_68, if_neg hc50_70, if_neg hc62_78, if_neg hc74_82], N0, rfl⟩
      · skip
        have G83 : ∀ t, Steps p.tables e below (s₁.setTop (mkF m 50 #[.val (.int p0), .val (.int (((((p0 - (1 : Int32)).toUInt32 >>> ((16 : Int32) &&& 31).toUInt32).toInt32).toUInt32 >>> ((4 : Int32) &&& 31).toUInt32).toInt32)), .val (.int (((0 : Int32) + (16 : Int32)) + (4 : Int32)))] [(.int (4 : Int32)), (.int (((((p0 - (1 : Int32)).toUInt32 >>> ((16 : Int32) &&& 31).toUInt32).toInt32).toUInt32 >>> ((4 : Int32) &&& 31).toUInt32).toInt32))])) t → Steps p.tables e below (s₁.setTop (entryFrame m #[(.int p0)] 3)) t := by
          intro t kt
          refine G67 _ ?_
          show Steps p.tables e below (s₁.setTop (mkF m 38 #[.val (.int p0), .val (.int (((p0 - (1 : Int32)).toUInt32 >>> ((16 : Int32) &&& 31).toUInt32).toInt32)), .val (.int ((0 : Int32) + (16 : Int32)))] [(.int (16 : Int32)), (.int (((p0 - (1 : Int32)).toUInt32 >>> ((16 : Int32) &&& 31).toUInt32).toInt32))])) _
          refine XS.icmpNo X0.here hx rfl (hb hby d5_38) rfl (flt hc38_68).1 ?_
          show Steps p.tables e below (s₁.setTop (mkF m 41 #[.val (.int p0), .val (.int (((p0 - (1 : Int32)).toUInt32 >>> ((16 : Int32) &&& 31).toUInt32).toInt32)), .val (.int ((0 : Int32) + (16 : Int32)))] [])) _
          refine XS.iinc X0.here hx rfl (hb hby d5_41) rfl (l' := #[.val (.int p0), .val (.int (((p0 - (1 : Int32)).toUInt32 >>> ((16 : Int32) &&& 31).toUInt32).toInt32)), .val (.int (((0 : Int32) + (16 : Int32)) + (4 : Int32)))]) rfl ?_
          show Steps p.tables e below (s₁.setTop (mkF m 44 #[.val (.int p0), .val (.int (((p0 - (1 : Int32)).toUInt32 >>> ((16 : Int32) &&& 31).toUInt32).toInt32)), .val (.int (((0 : Int32) + (16 : Int32)) + (4 : Int32)))] [])) _
          refine XS.iloadN X0.here hx rfl (hb hby d5_44) rfl ?_
          show Steps p.tables e below (s₁.setTop (mkF m 45 #[.val (.int p0), .val (.int (((p0 - (1 : Int32)).toUInt32 >>> ((16 : Int32) &&& 31).toUInt32).toInt32)), .val (.int (((0 : Int32) + (16 : Int32)) + (4 : Int32)))] [(.int (((p0 - (1 : Int32)).toUInt32 >>> ((16 : Int32) &&& 31).toUInt32).toInt32))])) _
          refine XS.iconst X0.here hx rfl (hb hby d5_45) ?_
          show Steps p.tables e below (s₁.setTop (mkF m 46 #[.val (.int p0), .val (.int (((p0 - (1 : Int32)).toUInt32 >>> ((16 : Int32) &&& 31).toUInt32).toInt32)), .val (.int (((0 : Int32) + (16 : Int32)) + (4 : Int32)))] [(.int (4 : Int32)), (.int (((p0 - (1 : Int32)).toUInt32 >>> ((16 : Int32) &&& 31).toUInt32).toInt32))])) _
          refine XS.iushr X0.here hx rfl (hb hby d5_46) rfl ?_
          show Steps p.tables e below (s₁.setTop (mkF m 47 #[.val (.int p0), .val (.int (((p0 - (1 : Int32)).toUInt32 >>> ((16 : Int32) &&& 31).toUInt32).toInt32)), .val (.int (((0 : Int32) + (16 : Int32)) + (4 : Int32)))] [(.int (((((p0 - (1 : Int32)).toUInt32 >>> ((16 : Int32) &&& 31).toUInt32).toInt32).toUInt32 >>> ((4 : Int32) &&& 31).toUInt32).toInt32))])) _
          refine XS.istoreN X0.here hx rfl (hb hby d5_47) rfl (l' := #[.val (.int p0), .val (.int (((((p0 - (1 : Int32)).toUInt32 >>> ((16 : Int32) &&& 31).toUInt32).toInt32).toUInt32 >>> ((4 : Int32) &&& 31).toUInt32).toInt32)), .val (.int (((0 : Int32) + (16 : Int32)) + (4 : Int32)))]) rfl ?_
          show Steps p.tables e below (s₁.setTop (mkF m 48 #[.val (.int p0), .val (.int (((((p0 - (1 : Int32)).toUInt32 >>> ((16 : Int32) &&& 31).toUInt32).toInt32).toUInt32 >>> ((4 : Int32) &&& 31).toUInt32).toInt32)), .val (.int (((0 : Int32) + (16 : Int32)) + (4 : Int32)))] [])) _
          refine XS.iloadN X0.here hx rfl (hb hby d5_48) rfl ?_
          show Steps p.tables e below (s₁.setTop (mkF m 49 #[.val (.int p0), .val (.int (((((p0 - (1 : Int32)).toUInt32 >>> ((16 : Int32) &&& 31).toUInt32).toInt32).toUInt32 >>> ((4 : Int32) &&& 31).toUInt32).toInt32)), .val (.int (((0 : Int32) + (16 : Int32)) + (4 : Int32)))] [(.int (((((p0 - (1 : Int32)).toUInt32 >>> ((16 : Int32) &&& 31).toUInt32).toInt32).toUInt32 >>> ((4 : Int32) &&& 31).toUInt32).toInt32))])) _
          refine XS.iconst X0.here hx rfl (hb hby d5_49) ?_
          exact kt
        by_cases hc50_84 : (((((p0 - (1 : Int32)).toUInt32 >>> ((16 : Int32) &&& 31).toUInt32).toInt32).toUInt32 >>> ((4 : Int32) &&& 31).toUInt32).toInt32) < (4 : Int32)
        · skip
          have G85 : ∀ t, Steps p.tables e below (s₁.setTop (mkF m 62 #[.val (.int p0), .val (.int (((((p0 - (1 : Int32)).toUInt32 >>> ((16 : Int32) &&& 31).toUInt32).toInt32).toUInt32 >>> ((4 : Int32) &&& 31).toUInt32).toInt32)), .val (.int (((0 : Int32) + (16 : Int32)) + (4 : Int32)))] [(.int (2 : Int32)), (.int (((((p0 - (1 : Int32)).toUInt32 >>> ((16 : Int32) &&& 31).toUInt32).toInt32).toUInt32 >>> ((4 : Int32) &&& 31).toUInt32).toInt32))])) t → Steps p.tables e below (s₁.setTop (entryFrame m #[(.int p0)] 3)) t := by
            intro t kt
            refine G83 _ ?_
            show Steps p.tables e below (s₁.setTop (mkF m 50 #[.val (.int p0), .val (.int (((((p0 - (1 : Int32)).toUInt32 >>> ((16 : Int32) &&& 31).toUInt32).toInt32).toUInt32 >>> ((4 : Int32) &&& 31).toUInt32).toInt32)), .val (.int (((0 : Int32) + (16 : Int32)) + (4 : Int32)))] [(.int (4 : Int32)), (.int (((((p0 - (1 : Int32)).toUInt32 >>> ((16 : Int32) &&& 31).toUInt32).toInt32).toUInt32 >>> ((4 : Int32) &&& 31).toUInt32).toInt32))])) _
            refine XS.icmpYes X0.here hx rfl (pc0 := 50) (pc' := 60) rfl (hb hby d5_50) rfl (tlt hc50_84).1 (by decide) (by decide) ?_
            show Steps p.tables e below (s₁.setTop (mkF m 60 #[.val (.int p0), .val (.int (((((p0 - (1 : Int32)).toUInt32 >>> ((16 : Int32) &&& 31).toUInt32).toInt32).toUInt32 >>> ((4 : Int32) &&& 31).toUInt32).toInt32)), .val (.int (((0 : Int32) + (16 : Int32)) + (4 : Int32)))] [])) _
            refine XS.iloadN X0.here hx rfl (hb hby d5_60) rfl ?_
            show Steps p.tables e below (s₁.setTop (mkF m 61 #[.val (.int p0), .val (.int (((((p0 - (1 : Int32)).toUInt32 >>> ((16 : Int32) &&& 31).toUInt32).toInt32).toUInt32 >>> ((4 : Int32) &&& 31).toUInt32).toInt32)), .val (.int (((0 : Int32) + (16 : Int32)) + (4 : Int32)))] [(.int (((((p0 - (1 : Int32)).toUInt32 >>> ((16 : Int32) &&& 31).toUInt32).toInt32).toUInt32 >>> ((4 : Int32) &&& 31).toUInt32).toInt32))])) _
            refine XS.iconst X0.here hx rfl (hb hby d5_61) ?_
            exact kt
          by_cases hc62_86 : (((((p0 - (1 : Int32)).toUInt32 >>> ((16 : Int32) &&& 31).toUInt32).toInt32).toUInt32 >>> ((4 : Int32) &&& 31).toUInt32).toInt32) < (2 : Int32)
          · skip
            have G87 : ∀ t, Steps p.tables e below (s₁.setTop (mkF m 74 #[.val (.int p0), .val (.int (((((p0 - (1 : Int32)).toUInt32 >>> ((16 : Int32) &&& 31).toUInt32).toInt32).toUInt32 >>> ((4 : Int32) &&& 31).toUInt32).toInt32)), .val (.int (((0 : Int32) + (16 : Int32)) + (4 : Int32)))] [(.int (1 : Int32)), (.int (((((p0 - (1 : Int32)).toUInt32 >>> ((16 : Int32) &&& 31).toUInt32).toInt32).toUInt32 >>> ((4 : Int32) &&& 31).toUInt32).toInt32))])) t → Steps p.tables e below (s₁.setTop (entryFrame m #[(.int p0)] 3)) t := by
              intro t kt
              refine G85 _ ?_
              show Steps p.tables e below (s₁.setTop (mkF m 62 #[.val (.int p0), .val (.int (((((p0 - (1 : Int32)).toUInt32 >>> ((16 : Int32) &&& 31).toUInt32).toInt32).toUInt32 >>> ((4 : Int32) &&& 31).toUInt32).toInt32)), .val (.int (((0 : Int32) + (16 : Int32)) + (4 : Int32)))] [(.int (2 : Int32)), (.int (((((p0 - (1 : Int32)).toUInt32 >>> ((16 : Int32) &&& 31).toUInt32).toInt32).toUInt32 >>> ((4 : Int32) &&& 31).toUInt32).toInt32))])) _
              refine XS.icmpYes X0.here hx rfl (pc0 := 62) (pc' := 72) rfl (hb hby d5_62) rfl (tlt hc62_86).1 (by decide) (by decide) ?_
              show Steps p.tables e below (s₁.setTop (mkF m 72 #[.val (.int p0), .val (.int (((((p0 - (1 : Int32)).toUInt32 >>> ((16 : Int32) &&& 31).toUInt32).toInt32).toUInt32 >>> ((4 : Int32) &&& 31).toUInt32).toInt32)), .val (.int (((0 : Int32) + (16 : Int32)) + (4 : Int32)))] [])) _
              refine XS.iloadN X0.here hx rfl (hb hby d5_72) rfl ?_
              show Steps p.tables e below (s₁.setTop (mkF m 73 #[.val (.int p0), .val (.int (((((p0 - (1 : Int32)).toUInt32 >>> ((16 : Int32) &&& 31).toUInt32).toInt32).toUInt32 >>> ((4 : Int32) &&& 31).toUInt32).toInt32)), .val (.int (((0 : Int32) + (16 : Int32)) + (4 : Int32)))] [(.int (((((p0 - (1 : Int32)).toUInt32 >>> ((16 : Int32) &&& 31).toUInt32).toInt32).toUInt32 >>> ((4 : Int32) &&& 31).toUInt32).toInt32))])) _
              refine XS.iconst X0.here hx rfl (hb hby d5_73) ?_
              exact kt
            by_cases hc74_88 : (((((p0 - (1 : Int32)).toUInt32 >>> ((16 : Int32) &&& 31).toUInt32).toInt32).toUInt32 >>> ((4 : Int32) &&& 31).toUInt32).toInt32) < (1 : Int32)
            · skip
              obtain ⟨fs, hr, hrun, hended, hW, hsame⟩ := X0.leave (v := some (.int (((0 : Int32) + (16 : Int32)) + (4 : Int32)))) (fun h => by rw [Bd.returns] at h; cases h)
              refine ⟨_, _, G87 _ ?_, hrun, hended, _, _, rfl, ?_, ⟨_, rfl⟩, hW, hsame.mono (by decide) (by decide)⟩
              · skip
                show Steps p.tables e below (s₁.setTop (mkF m 74 #[.val (.int p0), .val (.int (((((p0 - (1 : Int32)).toUInt32 >>> ((16 : Int32) &&& 31).toUInt32).toInt32).toUInt32 >>> ((4 : Int32) &&& 31).toUInt32).toInt32)), .val (.int (((0 : Int32) + (16 : Int32)) + (4 : Int32)))] [(.int (1 : Int32)), (.int (((((p0 - (1 : Int32)).toUInt32 >>> ((16 : Int32) &&& 31).toUInt32).toInt32).toUInt32 >>> ((4 : Int32) &&& 31).toUInt32).toInt32))])) _
                refine XS.icmpYes X0.here hx rfl (pc0 := 74) (pc' := 80) rfl (hb hby d5_74) rfl (tlt hc74_88).1 (by decide) (by decide) ?_
                show Steps p.tables e below (s₁.setTop (mkF m 80 #[.val (.int p0), .val (.int (((((p0 - (1 : Int32)).toUInt32 >>> ((16 : Int32) &&& 31).toUInt32).toInt32).toUInt32 >>> ((4 : Int32) &&& 31).toUInt32).toInt32)), .val (.int (((0 : Int32) + (16 : Int32)) + (4 : Int32)))] [])) _
                refine XS.iloadN X0.here hx rfl (hb hby d5_80) rfl ?_
                show Steps p.tables e below (s₁.setTop (mkF m 81 #[.val (.int p0), .val (.int (((((p0 - (1 : Int32)).toUInt32 >>> ((16 : Int32) &&& 31).toUInt32).toInt32).toUInt32 >>> ((4 : Int32) &&& 31).toUInt32).toInt32)), .val (.int (((0 : Int32) + (16 : Int32)) + (4 : Int32)))] [(.int (((0 : Int32) + (16 : Int32)) + (4 : Int32)))])) _
                exact retI X0 hx Bd.returns (hb hby d5_81) hr
              · show Q5 Z p0 h0 n0 _ s₁.heap _
                rw [e0]
                exact ⟨by rw [f5, if_neg hc9_2, if_pos hc24_66, if_neg hc38_68, if_pos hc50_84, if_pos hc62_86, if_pos hc74_88], N0, rfl⟩
            · skip
              obtain ⟨fs, hr, hrun, hended, hW, hsame⟩ := X0.leave (v := some (.int ((((0 : Int32) + (16 : Int32)) + (4 : Int32)) + (1 : Int32)))) (fun h => by rw [Bd.returns] at h; cases h)
              refine ⟨_, _, G87 _ ?_, hrun, hended, _, _, rfl, ?_, ⟨_, rfl⟩, hW, hsame.mono (by decide) (by decide)⟩
              · skip
                show Steps p.tables e below (s₁.setTop (mkF m 74 #[.val (.int p0), .val (.int (((((p0 - (1 : Int32)).toUInt32 >>> ((16 : Int32) &&& 31).toUInt32).toInt32).toUInt32 >>> ((4 : Int32) &&& 31).toUInt32).toInt32)), .val (.int (((0 : Int32) + (16 : Int32)) + (4 : Int32)))] [(.int (1 : Int32)), (.int (((((p0 - (1 : Int32)).toUInt32 >>> ((16 : Int32) &&& 31).toUInt32).toInt32).toUInt32 >>> ((4 : Int32) &&& 31).toUInt32).toInt32))])) _
                refine XS.icmpNo X0.here hx rfl (hb hby d5_74) rfl (flt hc74_88).1 ?_
                show Steps p.tables e below (s₁.setTop (mkF m 77 #[.val (.int p0), .val (.int (((((p0 - (1 : Int32)).toUInt32 >>> ((16 : Int32) &&& 31).toUInt32).toInt32).toUInt32 >>> ((4 : Int32) &&& 31).toUInt32).toInt32)), .val (.int (((0 : Int32) + (16 : Int32)) + (4 : Int32)))] [])) _
                refine XS.iinc X0.here hx rfl (hb hby d5_77) rfl (l' := #[.val (.int p0), .val (.int (((((p0 - (1 : Int32)).toUInt32 >>> ((16 : Int32) &&& 31).toUInt32).toInt32).toUInt32 >>> ((4 : Int32) &&& 31).toUInt32).toInt32)), .val (.int ((((0 : Int32) + (16 : Int32)) + (4 : Int32)) + (1 : Int32)))]) rfl ?_
                show Steps p.tables e below (s₁.setTop (mkF m 80 #[.val (.int p0), .val (.int (((((p0 - (1 : Int32)).toUInt32 >>> ((16 : Int32) &&& 31).toUInt32).toInt32).toUInt32 >>> ((4 : Int32) &&& 31).toUInt32).toInt32)), .val (.int ((((0 : Int32) + (16 : Int32)) + (4 : Int32)) + (1 : Int32)))] [])) _
                refine XS.iloadN X0.here hx rfl (hb hby d5_80) rfl ?_
                show Steps p.tables e below (s₁.setTop (mkF m 81 #[.val (.int p0), .val (.int (((((p0 - (1 : Int32)).toUInt32 >>> ((16 : Int32) &&& 31).toUInt32).toInt32).toUInt32 >>> ((4 : Int32) &&& 31).toUInt32).toInt32)), .val (.int ((((0 : Int32) + (16 : Int32)) + (4 : Int32)) + (1 : Int32)))] [(.int ((((0 : Int32) + (16 : Int32)) + (4 : Int32)) + (1 : Int32)))])) _
                exact retI X0 hx Bd.returns (hb hby d5_81) hr
              · show Q5 Z p0 h0 n0 _ s₁.heap _
                rw [e0]
                exact ⟨by rw [f5, if_neg hc9_2, if_pos hc24_66, if_neg hc38_68, if_pos hc50_84, if_pos hc62_86, if_neg hc74_88], N0, rfl⟩
          · skip
            have G89 : ∀ t, Steps p.tables e below (s₁.setTop (mkF m 74 #[.val (.int p0), .val (.int (((((((p0 - (1 : Int32)).toUInt32 >>> ((16 : Int32) &&& 31).toUInt32).toInt32).toUInt32 >>> ((4 : Int32) &&& 31).toUInt32).toInt32).toUInt32 >>> ((1 : Int32) &&& 31).toUInt32).toInt32)), .val (.int ((((0 : Int32) + (16 : Int32)) + (4 : Int32)) + (1 : Int32)))] [(.int (1 : Int32)), (.int (((((((p0 - (1 : Int32)).toUInt32 >>> ((16 : Int32) &&& 31).toUInt32).toInt32).toUInt32 >>> ((4 : Int32) &&& 31).toUInt32).toInt32).toUInt32 >>> ((1 : Int32) &&& 31).toUInt32).toInt32))])) t → Steps p.tables e below (s₁.setTop (entryFrame m #[(.int p0)] 3)) t := by
              intro t kt
              refine G85 _ ?_
              show Steps p.tables e below (s₁.setTop (mkF m 62 #[.val (.int p0), .val (.int (((((p0 - (1 : Int32)).toUInt32 >>> ((16 : Int32) &&& 31).toUInt32).toInt32).toUInt32 >>> ((4 : Int32) &&& 31).toUInt32).toInt32)), .val (.int (((0 : Int32) + (16 : Int32)) + (4 : Int32)))] [(.int (2 : Int32)), (.int (((((p0 - (1 : Int32)).toUInt32 >>> ((16 : Int32) &&& 31).toUInt32).toInt32).toUInt32 >>> ((4 : Int32) &&& 31).toUInt32).toInt32))])) _
              refine XS.icmpNo X0.here hx rfl (hb hby d5_62) rfl (flt hc62_86).1 ?_
              show Steps p.tables e below (s₁.setTop (mkF m 65 #[.val (.int p0), .val (.int (((((p0 - (1 : Int32)).toUInt32 >>> ((16 : Int32) &&& 31).toUInt32).toInt32).toUInt32 >>> ((4 : Int32) &&& 31).toUInt32).toInt32)), .val (.int (((0 : Int32) + (16 : Int32)) + (4 : Int32)))] [])) _
              refine XS.iinc X0.here hx rfl (hb hby d5_65) rfl (l' := #[.val (.int p0), .val (.int (((((p0 - (1 : Int32)).toUInt32 >>> ((16 : Int32) &&& 31).toUInt32).toInt32).toUInt32 >>> ((4 : Int32) &&& 31).toUInt32).toInt32)), .val (.int ((((0 : Int32) + (16 : Int32)) + (4 : Int32)) + (1 : Int32)))]) rfl ?_
              show Steps p.tables e below (s₁.setTop (mkF m 68 #[.val (.int p0), .val (.int (((((p0 - (1 : Int32)).toUInt32 >>> ((16 : Int32) &&& 31).toUInt32).toInt32).toUInt32 >>> ((4 : Int32) &&& 31).toUInt32).toInt32)), .val (.int ((((0 : Int32) + (16 : Int32)) + (4 : Int32)) + (1 : Int32)))] [])) _
              refine XS.iloadN X0.here hx rfl (hb hby d5_68) rfl ?_
              show Steps p.tables e below (s₁.setTop (mkF m 69 #[.val (.int p0), .val (.int (((((p0 - (1 : Int32)).toUInt32 >>> ((16 : Int32) &&& 31).toUInt32).toInt32).toUInt32 >>> ((4 : Int32) &&& 31).toUInt32).toInt32)), .val (.int ((((0 : Int32) + (16 : Int32)) + (4 : Int32)) + (1 : Int32)))] [(.int (((((p0 - (1 : Int32)).toUInt32 >>> ((16 : Int32) &&& 31).toUInt32).toInt32).toUInt32 >>> ((4 : Int32) &&& 31).toUInt32).toInt32))])) _
              refine XS.iconst X0.here hx rfl (hb hby d5_69) ?_
              show Steps p.tables e below (s₁.setTop (mkF m 70 #[.val (.int p0), .val (.int (((((p0 - (1 : Int32)).toUInt32 >>> ((16 : Int32) &&& 31).toUInt32).toInt32).toUInt32 >>> ((4 : Int32) &&& 31).toUInt32).toInt32)), .val (.int ((((0 : Int32) + (16 : Int32)) + (4 : Int32)) + (1 : Int32)))] [(.int (1 : Int32)), (.int (((((p0 - (1 : Int32)).toUInt32 >>> ((16 : Int32) &&& 31).toUInt32).toInt32).toUInt32 >>> ((4 : Int32) &&& 31).toUInt32).toInt32))])) _
              refine XS.iushr X0.here hx rfl (hb hby d5_70) rfl ?_
              show Steps p.tables e below (s₁.setTop (mkF m 71 #[.val (.int p0), .val (.int (((((p0 - (1 : Int32)).toUInt32 >>> ((16 : Int32) &&& 31).toUInt32).toInt32).toUInt32 >>> ((4 : Int32) &&& 31).toUInt32).toInt32)), .val (.int ((((0 : Int32) + (16 : Int32)) + (4 : Int32)) + (1 : Int32)))] [(.int (((((((p0 - (1 : Int32)).toUInt32 >>> ((16 : Int32) &&& 31).toUInt32).toInt32).toUInt32 >>> ((4 : Int32) &&& 31).toUInt32).toInt32).toUInt32 >>> ((1 : Int32) &&& 31).toUInt32).toInt32))])) _
              refine XS.istoreN X0.here hx rfl (hb hby d5_71) rfl (l' := #[.val (.int p0), .val (.int (((((((p0 - (1 : Int32)).toUInt32 >>> ((16 : Int32) &&& 31).toUInt32).toInt32).toUInt32 >>> ((4 : Int32) &&& 31).toUInt32).toInt32).toUInt32 >>> ((1 : Int32) &&& 31).toUInt32).toInt32)), .val (.int ((((0 : Int32) + (16 : Int32)) + (4 : Int32)) + (1 : Int32)))]) rfl ?_
              show Steps p.tables e below (s₁.setTop (mkF m 72 #[.val (.int p0), .val (.int (((((((p0 - (1 : Int32)).toUInt32 >>> ((16 : Int32) &&& 31).toUInt32).toInt32).toUInt32 >>> ((4 : Int32) &&& 31).toUInt32).toInt32).toUInt32 >>> ((1 : Int32) &&& 31).toUInt32).toInt32)), .val (.int ((((0 : Int32) + (16 : Int32)) + (4 : Int32)) + (1 : Int32)))] [])) _
              refine XS.iloadN X0.here hx rfl (hb hby d5_72) rfl ?_
              show Steps p.tables e below (s₁.setTop (mkF m 73 #[.val (.int p0), .val (.int (((((((p0 - (1 : Int32)).toUInt32 >>> ((16 : Int32) &&& 31).toUInt32).toInt32).toUInt32 >>> ((4 : Int32) &&& 31).toUInt32).toInt32).toUInt32 >>> ((1 : Int32) &&& 31).toUInt32).toInt32)), .val (.int ((((0 : Int32) + (16 : Int32)) + (4 : Int32)) + (1 : Int32)))] [(.int (((((((p0 - (1 : Int32)).toUInt32 >>> ((16 : Int32) &&& 31).toUInt32).toInt32).toUInt32 >>> ((4 : Int32) &&& 31).toUInt32).toInt32).toUInt32 >>> ((1 : Int32) &&& 31).toUInt32).toInt32))])) _
              refine XS.iconst X0.here hx rfl (hb hby d5_73) ?_
              exact kt
            by_cases hc74_90 : (((((((p0 - (1 : Int32)).toUInt32 >>> ((16 : Int32) &&& 31).toUInt32).toInt32).toUInt32 >>> ((4 : Int32) &&& 31).toUInt32).toInt32).toUInt32 >>> ((1 : Int32) &&& 31).toUInt32).toInt32) < (1 : Int32)
            · skip
              obtain ⟨fs, hr, hrun, hended, hW, hsame⟩ := X0.leave (v := some (.int ((((0 : Int32) + (16 : Int32)) + (4 : Int32)) + (1 : Int32)))) (fun h => by rw [Bd.returns] at h; cases h)
              refine ⟨_, _, G89 _ ?_, hrun, hended, _, _, rfl, ?_, ⟨_, rfl⟩, hW, hsame.mono (by decide) (by decide)⟩
              · skip
                show Steps p.tables e below (s₁.setTop (mkF m 74 #[.val (.int p0), .val (.int (((((((p0 - (1 : Int32)).toUInt32 >>> ((16 : Int32) &&& 31).toUInt32).toInt32).toUInt32 >>> ((4 : Int32) &&& 31).toUInt32).toInt32).toUInt32 >>> ((1 : Int32) &&& 31).toUInt32).toInt32)), .val (.int ((((0 : Int32) + (16 : Int32)) + (4 : Int32)) + (1 : Int32)))] [(.int (1 : Int32)), (.int (((((((p0 - (1 : Int32)).toUInt32 >>> ((16 : Int32) &&& 31).toUInt32).toInt32).toUInt32 >>> ((4 : Int32) &&& 31).toUInt32).toInt32).toUInt32 >>> ((1 : Int32) &&& 31).toUInt32).toInt32))])) _
                refine XS.icmpYes X0.here hx rfl (pc0 := 74) (pc' := 80) rfl (hb hby d5_74) rfl (tlt hc74_90).1 (by decide) (by decide) ?_
                show Steps p.tables e below (s₁.setTop (mkF m 80 #[.val (.int p0), .val (.int (((((((p0 - (1 : Int32)).toUInt32 >>> ((16 : Int32) &&& 31).toUInt32).toInt32).toUInt32 >>> ((4 : Int32) &&& 31).toUInt32).toInt32).toUInt32 >>> ((1 : Int32) &&& 31).toUInt32).toInt32)), .val (.int ((((0 : Int32) + (16 : Int32)) + (4 : Int32)) + (1 : Int32)))] [])) _
                refine XS.iloadN X0.here hx rfl (hb hby d5_80) rfl ?_
                show Steps p.tables e below (s₁.setTop (mkF m 81 #[.val (.int p0), .val (.int (((((((p0 - (1 : Int32)).toUInt32 >>> ((16 : Int32) &&& 31).toUInt32).toInt32).toUInt32 >>> ((4 : Int32) &&& 31).toUInt32).toInt32).toUInt32 >>> ((1 : Int32) &&& 31).toUInt32).toInt32)), .val (.int ((((0 : Int32) + (16 : Int32)) + (4 : Int32)) + (1 : Int32)))] [(.int ((((0 : Int32) + (16 : Int32)) + (4 : Int32)) + (1 : Int32)))])) _
                exact retI X0 hx Bd.returns (hb hby d5_81) hr
              · show Q5 Z p0 h0 n0 _ s₁.heap _
                rw [e0]
                exact ⟨by rw [f5, if_neg hc9_2, if_pos hc24_66, if_neg hc38_68, if_pos hc50_84, if_neg hc62_86, if_pos hc74_90], N0, rfl⟩
            · skip
              obtain ⟨fs, hr, hrun, hended, hW, hsame⟩ := X0.leave (v := some (.int (((((0 : Int32) + (16 : Int32)) + (4 : Int32)) + (1 : Int32)) + (1 : Int32)))) (fun h => by rw [Bd.returns] at h; cases h)
              refine ⟨_, _, G89 _ ?_, hrun, hended, _, _, rfl, ?_, ⟨_, rfl⟩, hW, hsame.mono (by decide) (by decide)⟩
              · skip
                show Steps p.tables e below (s₁.setTop (mkF m 74 #[.val (.int p0), .val (.int (((((((p0 - (1 : Int32)).toUInt32 >>> ((16 : Int32) &&& 31).toUInt32).toInt32).toUInt32 >>> ((4 : Int32) &&& 31).toUInt32).toInt32).toUInt32 >>> ((1 : Int32) &&& 31).toUInt32).toInt32)), .val (.int ((((0 : Int32) + (16 : Int32)) + (4 : Int32)) + (1 : Int32)))] [(.int (1 : Int32)), (.int (((((((p0 - (1 : Int32)).toUInt32 >>> ((16 : Int32) &&& 31).toUInt32).toInt32).toUInt32 >>> ((4 : Int32) &&& 31).toUInt32).toInt32).toUInt32 >>> ((1 : Int32) &&& 31).toUInt32).toInt32))])) _
                refine XS.icmpNo X0.here hx rfl (hb hby d5_74) rfl (flt hc74_90).1 ?_
                show Steps p.tables e below (s₁.setTop (mkF m 77 #[.val (.int p0), .val (.int (((((((p0 - (1 : Int32)).toUInt32 >>> ((16 : Int32) &&& 31).toUInt32).toInt32).toUInt32 >>> ((4 : Int32) &&& 31).toUInt32).toInt32).toUInt32 >>> ((1 : Int32) &&& 31).toUInt32).toInt32)), .val (.int ((((0 : Int32) + (16 : Int32)) + (4 : Int32)) + (1 : Int32)))] [])) _
                refine XS.iinc X0.here hx rfl (hb hby d5_77) rfl (l' := #[.val (.int p0), .val (.int (((((((p0 - (1 : Int32)).toUInt32 >>> ((16 : Int32) &&& 31).toUInt32).toInt32).toUInt32 >>> ((4 : Int32) &&& 31).toUInt32).toInt32).toUInt32 >>> ((1 : Int32) &&& 31).toUInt32).toInt32)), .val (.int (((((0 : Int32) + (16 : Int32)) + (4 : Int32)) + (1 : Int32)) + (1 : Int32)))]) rfl ?_
                show Steps p.tables e below (s₁.setTop (mkF m 80 #[.val (.int p0), .val (.int (((((((p0 - (1 : Int32)).toUInt32 >>> ((16 : Int32) &&& 31).toUInt32).toInt32).toUInt32 >>> ((4 : Int32) &&& 31).toUInt32).toInt32).toUInt32 >>> ((1 : Int32) &&& 31).toUInt32).toInt32)), .val (.int (((((0 : Int32) + (16 : Int32)) + (4 : Int32)) + (1 : Int32)) + (1 : Int32)))] [])) _
                refine XS.iloadN X0.here hx rfl (hb hby d5_80) rfl ?_
                show Steps p.tables e below (s₁.setTop (mkF m 81 #[.val (.int p0), .val (.int (((((((p0 - (1 : Int32)).toUInt32 >>> ((16 : Int32) &&& 31).toUInt32).toInt32).toUInt32 >>> ((4 : Int32) &&& 31).toUInt32).toInt32).toUInt32 >>> ((1 : Int32) &&& 31).toUInt32).toInt32)), .val (.int (((((0 : Int32) + (16 : Int32)) + (4 : Int32)) + (1 : Int32)) + (1 : Int32)))] [(.int (((((0 : Int32) + (16 : Int32)) + (4 : Int32)) + (1 : Int32)) + (1 : Int32)))])) _
                exact retI X0 hx Bd.returns (hb hby d5_81) hr
              · show Q5 Z p0 h0 n0 _ s₁.heap _
                rw [e0]
                exact ⟨by rw [f5, if_neg hc9_2, if_pos hc24_66, if_neg hc38_68, if_pos hc50_84, if_neg hc62_86, if_neg hc74_90], N0, rfl⟩
        · skip
          have G91 : ∀ t, Steps p.tables e below (s₁.setTop (mkF m 62 #[.val (.int p0), .val (.int (((((((p0 - (1 : Int32)).toUInt32 >>> ((16 : Int32) &&& 31).toUInt32).toInt32).toUInt32 >>> ((4 : Int32) &&& 31).toUInt32).toInt32).toUInt32 >>> ((2 : Int32) &&& 31).toUInt32).toInt32)), .val (.int ((((0 : Int32) + (16 : Int32)) + (4 : Int32)) + (2 : Int32)))] [(.int (2 : Int32)), (.int (((((((p0 - (1 : Int32)).toUInt32 >>> ((16 : Int32) &&& 31).toUInt32).toInt32).toUInt32 >>> ((4 : Int32) &&& 31).toUInt32).toInt32).toUInt32 >>> ((2 : Int32) &&& 31).toUInt32).toInt32))])) t → Steps p.tables e below (s₁.setTop (entryFrame m #[(.int p0)] 3)) t := by
            intro t kt
            refine G83 _ ?_
            show Steps p.tables e below (s₁.setTop (mkF m 50 #[.val (.int p0), .val (.int (((((p0 - (1 : Int32)).toUInt32 >>> ((16 : Int32) &&& 31).toUInt32).toInt32).toUInt32 >>> ((4 : Int32) &&& 31).toUInt32).toInt32)), .val (.int (((0 : Int32) + (16 : Int32)) + (4 : Int32)))] [(.int (4 : Int32)), (.int (((((p0 - (1 : Int32)).toUInt32 >>> ((16 : Int32) &&& 31).toUInt32).toInt32).toUInt32 >>> ((4 : Int32) &&& 31).toUInt32).toInt32))])) _
            refine XS.icmpNo X0.here hx rfl (hb hby d5_50) rfl (flt hc50_84).1 ?_
            show Steps p.tables e below (s₁.setTop (mkF m 53 #[.val (.int p0), .val (.int (((((p0 - (1 : Int32)).toUInt32 >>> ((16 : Int32) &&& 31).toUInt32).toInt32).toUInt32 >>> ((4 : Int32) &&& 31).toUInt32).toInt32)), .val (.int (((0 : Int32) + (16 : Int32)) + (4 : Int32)))] [])) _
            refine XS.iinc X0.here hx rfl (hb hby d5_53) rfl (l' := #[.val (.int p0), .val (.int (((((p0 - (1 : Int32)).toUInt32 >>> ((16 : Int32) &&& 31).toUInt32).toInt32).toUInt32 >>> ((4 : Int32) &&& 31).toUInt32).toInt32)), .val (.int ((((0 : Int32) + (16 : Int32)) + (4 : Int32)) + (2 : Int32)))]) rfl ?_
            show Steps p.tables e below (s₁.setTop (mkF m 56 #[.val (.int p0), .val (.int (((((p0 - (1 : Int32)).toUInt32 >>> ((16 : Int32) &&& 31).toUInt32).toInt32).toUInt32 >>> ((4 : Int32) &&& 31).toUInt32).toInt32)), .val (.int ((((0 : Int32) + (16 : Int32)) + (4 : Int32)) + (2 : Int32)))] [])) _
            refine XS.iloadN X0.here hx rfl (hb hby d5_56) rfl ?_
            show Steps p.tables e below (s₁.setTop (mkF m 57 #[.val (.int p0), .val (.int (((((p0 - (1 : Int32)).toUInt32 >>> ((16 : Int32) &&& 31).toUInt32).toInt32).toUInt32 >>> ((4 : Int32) &&& 31).toUInt32).toInt32)), .val (.int ((((0 : Int32) + (16 : Int32)) + (4 : Int32)) + (2 : Int32)))] [(.int (((((p0 - (1 : Int32)).toUInt32 >>> ((16 : Int32) &&& 31).toUInt32).toInt32).toUInt32 >>> ((4 : Int32) &&& 31).toUInt32).toInt32))])) _
            refine XS.iconst X0.here hx rfl (hb hby d5_57) ?_
            show Steps p.tables e below (s₁.setTop (mkF m 58 #[.val (.int p0), .val (.int (((((p0 - (1 : Int32)).toUInt32 >>> ((16 : Int32) &&& 31).toUInt32).toInt32).toUInt32 >>> ((4 : Int32) &&& 31).toUInt32).toInt32)), .val (.int ((((0 : Int32) + (16 : Int32)) + (4 : Int32)) + (2 : Int32)))] [(.int (2 : Int32)), (.int (((((p0 - (1 : Int32)).toUInt32 >>> ((16 : Int32) &&& 31).toUInt32).toInt32).toUInt32 >>> ((4 : Int32) &&& 31).toUInt32).toInt32))])) _
            refine XS.iushr X0.here hx rfl (hb hby d5_58) rfl ?_
            show Steps p.tables e below (s₁.setTop (mkF m 59 #[.val (.int p0), .val (.int (((((p0 - (1 : Int32)).toUInt32 >>> ((16 : Int32) &&& 31).toUInt32).toInt32).toUInt32 >>> ((4 : Int32) &&& 31).toUInt32).toInt32)), .val (.int ((((0 : Int32) + (16 : Int32)) + (4 : Int32)) + (2 : Int32)))] [(.int (((((((p0 - (1 : Int32)).toUInt32 >>> ((16 : Int32) &&& 31).toUInt32).toInt32).toUInt32 >>> ((4 : Int32) &&& 31).toUInt32).toInt32).toUInt32 >>> ((2 : Int32) &&& 31).toUInt32).toInt32))])) _
            refine XS.istoreN X0.here hx rfl (hb hby d5_59) rfl (l' := #[.val (.int p0), .val (.int (((((((p0 - (1 : Int32)).toUInt32 >>> ((16 : Int32) &&& 31).toUInt32).toInt32).toUInt32 >>> ((4 : Int32) &&& 31).toUInt32).toInt32).toUInt32 >>> ((2 : Int32) &&& 31).toUInt32).toInt32)), .val (.int ((((0 : Int32) + (16 : Int32)) + (4 : Int32)) + (2 : Int32)))]) rfl ?_
            show Steps p.tables e below (s₁.setTop (mkF m 60 #[.val (.int p0), .val (.int (((((((p0 - (1 : Int32)).toUInt32 >>> ((16 : Int32) &&& 31).toUInt32).toInt32).toUInt32 >>> ((4 : Int32) &&& 31).toUInt32).toInt32).toUInt32 >>> ((2 : Int32) &&& 31).toUInt32).toInt32)), .val (.int ((((0 : Int32) + (16 : Int32)) + (4 : Int32)) + (2 : Int32)))] [])) _
            refine XS.iloadN X0.here hx rfl (hb hby d5_60) rfl ?_
            show Steps p.tables e below (s₁.setTop (mkF m 61 #[.val (.int p0), .val (.int (((((((p0 - (1 : Int32)).toUInt32 >>> ((16 : Int32) &&& 31).toUInt32).toInt32).toUInt32 >>> ((4 : Int32) &&& 31).toUInt32).toInt32).toUInt32 >>> ((2 : Int32) &&& 31).toUInt32).toInt32)), .val (.int ((((0 : Int32) + (16 : Int32)) + (4 : Int32)) + (2 : Int32)))] [(.int (((((((p0 - (1 : Int32)).toUInt32 >>> ((16 : Int32) &&& 31).toUInt32).toInt32).toUInt32 >>> ((4 : Int32) &&& 31).toUInt32).toInt32).toUInt32 >>> ((2 : Int32) &&& 31).toUInt32).toInt32))])) _
            refine XS.iconst X0.here hx rfl (hb hby d5_61) ?_
            exact kt
          by_cases hc62_92 : (((((((p0 - (1 : Int32)).toUInt32 >>> ((16 : Int32) &&& 31).toUInt32).toInt32).toUInt32 >>> ((4 : Int32) &&& 31).toUInt32).toInt32).toUInt32 >>> ((2 : Int32) &&& 31).toUInt32).toInt32) < (2 : Int32)
          · skip
            have G93 : ∀ t, Steps p.tables e below (s₁.setTop (mkF m 74 #[.val (.int p0), .val (.int (((((((p0 - (1 : Int32)).toUInt32 >>> ((16 : Int32) &&& 31).toUInt32).toInt32).toUInt32 >>> ((4 : Int32) &&& 31).toUInt32).toInt32).toUInt32 >>> ((2 : Int32) &&& 31).toUInt32).toInt32)), .val (.int ((((0 : Int32) + (16 : Int32)) + (4 : Int32)) + (2 : Int32)))] [(.int (1 : Int32)), (.int (((((((p0 - (1 : Int32)).toUInt32 >>> ((16 : Int32) &&& 31).toUInt32).toInt32).toUInt32 >>> ((4 : Int32) &&& 31).toUInt32).toInt32).toUInt32 >>> ((2 : Int32) &&& 31).toUInt32).toInt32))])) t → Steps p.tables e below (s₁.setTop (entryFrame m #[(.int p0)] 3)) t := by
              intro t kt
              refine G91 _ ?_
              show Steps p.tables e below (s₁.setTop (mkF m 62 #[.val (.int p0), .val (.int (((((((p0 - (1 : Int32)).toUInt32 >>> ((16 : Int32) &&& 31).toUInt32).toInt32).toUInt32 >>> ((4 : Int32) &&& 31).toUInt32).toInt32).toUInt32 >>> ((2 : Int32) &&& 31).toUInt32).toInt32)), .val (.int ((((0 : Int32) + (16 : Int32)) + (4 : Int32)) + (2 : Int32)))] [(.int (2 : Int32)), (.int (((((((p0 - (1 : Int32)).toUInt32 >>> ((16 : Int32) &&& 31).toUInt32).toInt32).toUInt32 >>> ((4 : Int32) &&& 31).toUInt32).toInt32).toUInt32 >>> ((2 : Int32) &&& 31).toUInt32).toInt32))])) _
              refine XS.icmpYes X0.here hx rfl (pc0 := 62) (pc' := 72) rfl (hb hby d5_62) rfl (tlt hc62_92).1 (by decide) (by decide) ?_
              show Steps p.tables e below (s₁.setTop (mkF m 72 #[.val (.int p0), .val (.int (((((((p0 - (1 : Int32)).toUInt32 >>> ((16 : Int32) &&& 31).toUInt32).toInt32).toUInt32 >>> ((4 : Int32) &&& 31).toUInt32).toInt32).toUInt32 >>> ((2 : Int32) &&& 31).toUInt32).toInt32)), .val (.int ((((0 : Int32) + (16 : Int32)) + (4 : Int32)) + (2 : Int32)))] [])) _
              refine XS.iloadN X0.here hx rfl (hb hby d5_72) rfl ?_
              show Steps p.tables e below (s₁.setTop (mkF m 73 #[.val (.int p0), .val (.int (((((((p0 - (1 : Int32)).toUInt32 >>> ((16 : Int32) &&& 31).toUInt32).toInt32).toUInt32 >>> ((4 : Int32) &&& 31).toUInt32).toInt32).toUInt32 >>> ((2 : Int32) &&& 31).toUInt32).toInt32)), .val (.int ((((0 : Int32) + (16 : Int32)) + (4 : Int32)) + (2 : Int32)))] [(.int (((((((p0 - (1 : Int32)).toUInt32 >>> ((16 : Int32) &&& 31).toUInt32).toInt32).toUInt32 >>> ((4 : Int32) &&& 31).toUInt32).toInt32).toUInt32 >>> ((2 : Int32) &&& 31).toUInt32).toInt32))])) _
              refine XS.iconst X0.here hx rfl (hb hby d5_73) ?_
              exact kt
            by_cases hc74_94 : (((((((p0 - (1 : Int32)).toUInt32 >>> ((16 : Int32) &&& 31).toUInt32).toInt32).toUInt32 >>> ((4 : Int32) &&& 31).toUInt32).toInt32).toUInt32 >>> ((2 : Int32) &&& 31).toUInt32).toInt32) < (1 : Int32)
            · skip
              obtain ⟨fs, hr, hrun, hended, hW, hsame⟩ := X0.leave (v := some (.int ((((0 : Int32) + (16 : Int32)) + (4 : Int32)) + (2 : Int32)))) (fun h => by rw [Bd.returns] at h; cases h)
              refine ⟨_, _, G93 _ ?_, hrun, hended, _, _, rfl, ?_, ⟨_, rfl⟩, hW, hsame.mono (by decide) (by decide)⟩
              · skip
                show Steps p.tables e below (s₁.setTop (mkF m 74 #[.val (.int p0), .val (.int (((((((p0 - (1 : Int32)).toUInt32 >>> ((16 : Int32) &&& 31).toUInt32).toInt32).toUInt32 >>> ((4 : Int32) &&& 31).toUInt32).toInt32).toUInt32 >>> ((2 : Int32) &&& 31).toUInt32).toInt32)), .val (.int ((((0 : Int32) + (16 : Int32)) + (4 : Int32)) + (2 : Int32)))] [(.int (1 : Int32)), (.int (((((((p0 - (1 : Int32)).toUInt32 >>> ((16 : Int32) &&& 31).toUInt32).toInt32).toUInt32 >>> ((4 : Int32) &&& 31).toUInt32).toInt32).toUInt32 >>> ((2 : Int32) &&& 31).toUInt32).toInt32))])) _
                refine XS.icmpYes X0.here hx rfl (pc0 := 74) (pc' := 80) rfl (hb hby d5_74) rfl (tlt hc74_94).1 (by decide) (by decide) ?_
                show Steps p.tables e below (s₁.setTop (mkF m 80 #[.val (.int p0), .val (.int (((((((p0 - (1 : Int32)).toUInt32 >>> ((16 : Int32) &&& 31).toUInt32).toInt32).toUInt32 >>> ((4 : Int32) &&& 31).toUInt32).toInt32).toUInt32 >>> ((2 : Int32) &&& 31).toUInt32).toInt32)), .val (.int ((((0 : Int32) + (16 : Int32)) + (4 : Int32)) + (2 : Int32)))] [])) _
                refine XS.iloadN X0.here hx rfl (hb hby d5_80) rfl ?_
                show Steps p.tables e below (s₁.setTop (mkF m 81 #[.val (.int p0), .val (.int (((((((p0 - (1 : Int32)).toUInt32 >>> ((16 : Int32) &&& 31).toUInt32).toInt32).toUInt32 >>> ((4 : Int32) &&& 31).toUInt32).toInt32).toUInt32 >>> ((2 : Int32) &&& 31).toUInt32).toInt32)), .val (.int ((((0 : Int32) + (16 : Int32)) + (4 : Int32)) + (2 : Int32)))] [(.int ((((0 : Int32) + (16 : Int32)) + (4 : Int32)) + (2 : Int32)))])) _
                exact retI X0 hx Bd.returns (hb hby d5_81) hr
              · show Q5 Z p0 h0 n0 _ s₁.heap _
                rw [e0]
                exact ⟨by rw [f5, if_neg hc9_2, if_pos hc24_66, if_neg hc38_68, if_neg hc50_84, if_pos hc62_92, if_pos hc74_94], N0, rfl⟩
            · skip
              obtain ⟨fs, hr, hrun, hended, hW, hsame⟩ := X0.leave (v := some (.int (((((0 : Int32) + (16 : Int32)) + (4 : Int32)) + (2 : Int32)) + (1 : Int32)))) (fun h => by rw [Bd.returns] at h; cases h)
              refine ⟨_, _, G93 _ ?_, hrun, hended, _, _, rfl, ?_, ⟨_, rfl⟩, hW, hsame.mono (by decide) (by decide)⟩
              · skip
                show Steps p.tables e below (s₁.setTop (mkF m 74 #[.val (.int p0), .val (.int (((((((p0 - (1 : Int32)).toUInt32 >>> ((16 : Int32) &&& 31).toUInt32).toInt32).toUInt32 >>> ((4 : Int32) &&& 31).toUInt32).toInt32).toUInt32 >>> ((2 : Int32) &&& 31).toUInt32).toInt32)), .val (.int ((((0 : Int32) + (16 : Int32)) + (4 : Int32)) + (2 : Int32)))] [(.int (1 : Int32)), (.int (((((((p0 - (1 : Int32)).toUInt32 >>> ((16 : Int32) &&& 31).toUInt32).toInt32).toUInt32 >>> ((4 : Int32) &&& 31).toUInt32).toInt32).toUInt32 >>> ((2 : Int32) &&& 31).toUInt32).toInt32))])) _
                refine XS.icmpNo X0.here hx rfl (hb hby d5_74) rfl (flt hc74_94).1 ?_
                show Steps p.tables e below (s₁.setTop (mkF m 77 #[.val (.int p0), .val (.int (((((((p0 - (1 : Int32)).toUInt32 >>> ((16 : Int32) &&& 31).toUInt32).toInt32).toUInt32 >>> ((4 : Int32) &&& 31).toUInt32).toInt32).toUInt32 >>> ((2 : Int32) &&& 31).toUInt32).toInt32)), .val (.int ((((0 : Int32) + (16 : Int32)) + (4 : Int32)) + (2 : Int32)))] [])) _
                refine XS.iinc X0.here hx rfl (hb hby d5_77) rfl (l' := #[.val (.int p0), .val (.int (((((((p0 - (1 : Int32)).toUInt32 >>> ((16 : Int32) &&& 31).toUInt32).toInt32).toUInt32 >>> ((4 : Int32) &&& 31).toUInt32).toInt32).toUInt32 >>> ((2 : Int32) &&& 31).toUInt32).toInt32)), .val (.int (((((0 : Int32) + (16 : Int32)) + (4 : Int32)) + (2 : Int32)) + (1 : Int32)))]) rfl ?_
                show Steps p.tables e below (s₁.setTop (mkF m 80 #[.val (.int p0), .val (.int (((((((p0 - (1 : Int32)).toUInt32 >>> ((16 : Int32) &&& 31).toUInt32).toInt32).toUInt32 >>> ((4 : Int32) &&& 31).toUInt32).toInt32).toUInt32 >>> ((2 : Int32) &&& 31).toUInt32).toInt32)), .val (.int (((((0 : Int32) + (16 : Int32)) + (4 : Int32)) + (2 : Int32)) + (1 : Int32)))] [])) _
                refine XS.iloadN X0.here hx rfl (hb hby d5_80) rfl ?_
                show Steps p.tables e below (s₁.setTop (mkF m 81 #[.val (.int p0), .val (.int (((((((p0 - (1 : Int32)).toUInt32 >>> ((16 : Int32) &&& 31).toUInt32).toInt32).toUInt32 >>> ((4 : Int32) &&& 31).toUInt32).toInt32).toUInt32 >>> ((2 : Int32) &&& 31).toUInt32).toInt32)), .val (.int (((((0 : Int32) + (16 : Int32)) + (4 : Int32)) + (2 : Int32)) + (1 : Int32)))] [(.int (((((0 : Int32) + (16 : Int32)) + (4 : Int32)) + (2 : Int32)) + (1 : Int32)))])) _
                exact retI X0 hx Bd.returns (hb hby d5_81) hr
              · show Q5 Z p0 h0 n0 _ s₁.heap _
                rw [e0]
                exact ⟨by rw [f5, if_neg hc9_2, if_pos hc24_66, if_neg hc38_68, if_neg hc50_84, if_pos hc62_92, if_neg hc74_94], N0, rfl⟩
          · skip
            have G95 : ∀ t, Steps p.tables e below (s₁.setTop (mkF m 74 #[.val (.int p0), .val (.int (((((((((p0 - (1 : Int32)).toUInt32 >>> ((16 : Int32) &&& 31).toUInt32).toInt32).toUInt32 >>> ((4 : Int32) &&& 31).toUInt32).toInt32).toUInt32 >>> ((2 : Int32) &&& 31).toUInt32).toInt32).toUInt32 >>> ((1 : Int32) &&& 31).toUInt32).toInt32)), .val (.int (((((0 : Int32) + (16 : Int32)) + (4 : Int32)) + (2 : Int32)) + (1 : Int32)))] [(.int (1 : Int32)), (.int (((((((((p0 - (1 : Int32)).toUInt32 >>> ((16 : Int32) &&& 31).toUInt32).toInt32).toUInt32 >>> ((4 : Int32) &&& 31).toUInt32).toInt32).toUInt32 >>> ((2 : Int32) &&& 31).toUInt32).toInt32).toUInt32 >>> ((1 : Int32) &&& 31).toUInt32).toInt32))])) t → Steps p.tables e below (s₁.setTop (entryFrame m #[(.int p0)] 3)) t := by
              intro t kt
              refine G91 _ ?_
              show Steps p.tables e below (s₁.setTop (mkF m 62 #[.val (.int p0), .val (.int (((((((p0 - (1 : Int32)).toUInt32 >>> ((16 : Int32) &&& 31).toUInt32).toInt32).toUInt32 >>> ((4 : Int32) &&& 31).toUInt32).toInt32).toUInt32 >>> ((2 : Int32) &&& 31).toUInt32).toInt32)), .val (.int ((((0 : Int32) + (16 : Int32)) + (4 : Int32)) + (2 : Int32)))] [(.int (2 : Int32)), (.int (((((((p0 - (1 : Int32)).toUInt32 >>> ((16 : Int32) &&& 31).toUInt32).toInt32).toUInt32 >>> ((4 : Int32) &&& 31).toUInt32).toInt32).toUInt32 >>> ((2 : Int32) &&& 31).toUInt32).toInt32))])) _
              refine XS.icmpNo X0.here hx rfl (hb hby d5_62) rfl (flt hc62_92).1 ?_
              show Steps p.tables e below (s₁.setTop (mkF m 65 #[.val (.int p0), .val (.int (((((((p0 - (1 : Int32)).toUInt32 >>> ((16 : Int32) &&& 31).toUInt32).toInt32).toUInt32 >>> ((4 : Int32) &&& 31).toUInt32).toInt32).toUInt32 >>> ((2 : Int32) &&& 31).toUInt32).toInt32)), .val (.int ((((0 : Int32) + (16 : Int32)) + (4 : Int32)) + (2 : Int32)))] [])) _
              refine XS.iinc X0.here hx rfl (hb hby d5_65) rfl (l' := #[.val (.int p0), .val (.int (((((((p0 - (1 : Int32)).toUInt32 >>> ((16 : Int32) &&& 31).toUInt32).toInt32).toUInt32 >>> ((4 : Int32) &&& 31).toUInt32).toInt32).toUInt32 >>> ((2 : Int32) &&& 31).toUInt32).toInt32)), .val (.int (((((0 : Int32) + (16 : Int32)) + (4 : Int32)) + (2 : Int32)) + (1 : Int32)))]) rfl ?_
              show Steps p.tables e below (s₁.setTop (mkF m 68 #[.val (.int p0), .val (.int (((((((p0 - (1 : Int32)).toUInt32 >>> ((16 : Int32) &&& 31).toUInt32).toInt32).toUInt32 >>> ((4 : Int32) &&& 31).toUInt32).toInt32).toUInt32 >>> ((2 : Int32) &&& 31).toUInt32).toInt32)), .val (.int (((((0 : Int32) + (16 : Int32)) + (4 : Int32)) + (2 : Int32)) + (1 : Int32)))] [])) _
              refine XS.iloadN X0.here hx rfl (hb hby d5_68) rfl ?_
              show Steps p.tables e below (s₁.setTop (mkF m 69 #[.val (.int p0), .val (.int (((((((p0 - (1 : Int32)).toUInt32 >>> ((16 : Int32) &&& 31).toUInt32).toInt32).toUInt32 >>> ((4 : Int32) &&& 31).toUInt32).toInt32).toUInt32 >>> ((2 : Int32) &&& 31).toUInt32).toInt32)), .val (.int (((((0 : Int32) + (16 : Int32)) + (4 : Int32)) + (2 : Int32)) + (1 : Int32)))] [(.int (((((((p0 - (1 : Int32)).toUInt32 >>> ((16 : Int32) &&& 31).toUInt32).toInt32).toUInt32 >>> ((4 : Int32) &&& 31).toUInt32).toInt32).toUInt32 >>> ((2 : Int32) &&& 31).toUInt32).toInt32))])) _
              refine XS.iconst X0.here hx rfl (hb hby d5_69) ?_
              show Steps p.tables e below (s₁.setTop (mkF m 70 #[.val (.int p0), .val (.int (((((((p0 - (1 : Int32)).toUInt32 >>> ((16 : Int32) &&& 31).toUInt32).toInt32).toUInt32 >>> ((4 : Int32) &&& 31).toUInt32).toInt32).toUInt32 >>> ((2 : Int32) &&& 31).toUInt32).toInt32)), .val (.int (((((0 : Int32) + (16 : Int32)) + (4 : Int32)) + (2 : Int32)) + (1 : Int32)))] [(.int (1 : Int32)), (.int (((((((p0 - (1 : Int32)).toUInt32 >>> ((16 : Int32) &&& 31).toUInt32).toInt32).toUInt32 >>> ((4 : Int32) &&& 31).toUInt32).toInt32).toUInt32 >>> ((2 : Int32) &&& 31).toUInt32).toInt32))])) _
              refine XS.iushr X0.here hx rfl (hb hby d5_70) rfl ?_
              show Steps p.tables e below (s₁.setTop (mkF m 71 #[.val (.int p0), .val (.int (((((((p0 - (1 : Int32)).toUInt32 >>> ((16 : Int32) &&& 31).toUInt32).toInt32).toUInt32 >>> ((4 : Int32) &&& 31).toUInt32).toInt32).toUInt32 >>> ((2 : Int32) &&& 31).toUInt32).toInt32)), .val (.int (((((0 : Int32) + (16 : Int32)) + (4 : Int32)) + (2 : Int32)) + (1 : Int32)))] [(.int (((((((((p0 - (1 : Int32)).toUInt32 >>> ((16 : Int32) &&& 31).toUInt32).toInt32).toUInt32 >>> ((4 : Int32) &&& 31).toUInt32).toInt32).toUInt32 >>> ((2 : Int32) &&& 31).toUInt32).toInt32).toUInt32 >>> ((1 : Int32) &&& 31).toUInt32).toInt32))])) _
              refine XS.istoreN X0.here hx rfl (hb hby d5_71) rfl (l' := #[.val (.int p0), .val (.int (((((((((p0 - (1 : Int32)).toUInt32 >>> ((16 : Int32) &&& 31).toUInt32).toInt32).toUInt32 >>> ((4 : Int32) &&& 31).toUInt32).toInt32).toUInt32 >>> ((2 : Int32) &&& 31).toUInt32).toInt32).toUInt32 >>> ((1 : Int32) &&& 31).toUInt32).toInt32)), .val (.int (((((0 : Int32) + (16 : Int32)) + (4 : Int32)) + (2 : Int32)) + (1 : Int32)))]) rfl ?_
              show Steps p.tables e below (s₁.setTop (mkF m 72 #[.val (.int p0), .val (.int (((((((((p0 - (1 : Int32)).toUInt32 >>> ((16 : Int32) &&& 31).toUInt32).toInt32).toUInt32 >>> ((4 : Int32) &&& 31).toUInt32).toInt32).toUInt32 >>> ((2 : Int32) &&& 31).toUInt32).toInt32).toUInt32 >>> ((1 : Int32) &&& 31).toUInt32).toInt32)), .val (.int (((((0 : Int32) + (16 : Int32)) + (4 : Int32)) + (2 : Int32)) + (1 : Int32)))] [])) _
              refine XS.iloadN X0.here hx rfl (hb hby d5_72) rfl ?_
              show Steps p.tables e below (s₁.setTop (mkF m 73 #[.val (.int p0), .val (.int (((((((((p0 - (1 : Int32)).toUInt32 >>> ((16 : Int32) &&& 31).toUInt32).toInt32).toUInt32 >>> ((4 : Int32) &&& 31).toUInt32).toInt32).toUInt32 >>> ((2 : Int32) &&& 31).toUInt32).toInt32).toUInt32 >>> ((1 : Int32) &&& 31).toUInt32).toInt32)), .val (.int (((((0 : Int32) + (16 : Int32)) + (4 : Int32)) + (2 : Int32)) + (1 : Int32)))] [(.int (((((((((p0 - (1 : Int32)).toUInt32 >>> ((16 : Int32) &&& 31).toUInt32).toInt32).toUInt32 >>> ((4 : Int32) &&& 31).toUInt32).toInt32).toUInt32 >>> ((2 : Int32) &&& 31).toUInt32).toInt32).toUInt32 >>> ((1 : Int32) &&& 31).toUInt32).toInt32))])) _
              refine XS.iconst X0.here hx rfl (hb hby d5_73) ?_
              exact kt
            by_cases hc74_96 : (((((((((p0 - (1 : Int32)).toUInt32 >>> ((16 : Int32) &&& 31).toUInt32).toInt32).toUInt32 >>> ((4 : Int32) &&& 31).toUInt32).toInt32).toUInt32 >>> ((2 : Int32) &&& 31).toUInt32).toInt32).toUInt32 >>> ((1 : Int32) &&& 31).toUInt32).toInt32) < (1 : Int32)
            · skip
              obtain ⟨fs, hr, hrun, hended, hW, hsame⟩ := X0.leave (v := some (.int (((((0 : Int32) + (16 : Int32)) + (4 : Int32)) + (2 : Int32)) + (1 : Int32)))) (fun h => by rw [Bd.returns] at h; cases h)
              refine ⟨_, _, G95 _ ?_, hrun, hended, _, _, rfl, ?_, ⟨_, rfl⟩, hW, hsame.mono (by decide) (by decide)⟩
              · skip
                show Steps p.tables e below (s₁.setTop (mkF m 74 #[.val (.int p0), .val (.int (((((((((p0 - (1 : Int32)).toUInt32 >>> ((16 : Int32) &&& 31).toUInt32).toInt32).toUInt32 >>> ((4 : Int32) &&& 31).toUInt32).toInt32).toUInt32 >>> ((2 : Int32) &&& 31).toUInt32).toInt32).toUInt32 >>> ((1 : Int32) &&& 31).toUInt32).toInt32)), .val (.int (((((0 : Int32) + (16 : Int32)) + (4 : Int32)) + (2 : Int32)) + (1 : Int32)))] [(.int (1 : Int32)), (.int (((((((((p0 - (1 : Int32)).toUInt32 >>> ((16 : Int32) &&& 31).toUInt32).toInt32).toUInt32 >>> ((4 : Int32) &&& 31).toUInt32).toInt32).toUInt32 >>> ((2 : Int32) &&& 31).toUInt32).toInt32).toUInt32 >>> ((1 : Int32) &&& 31).toUInt32).toInt32))])) _
                refine XS.icmpYes X0.here hx rfl (pc0 := 74) (pc' := 80) rfl (hb hby d5_74) rfl (tlt hc74_96).1 (by decide) (by decide) ?_
                show Steps p.tables e below (s₁.setTop (mkF m 80 #[.val (.int p0), .val (.int (((((((((p0 - (1 : Int32)).toUInt32 >>> ((16 : Int32) &&& 31).toUInt32).toInt32).toUInt32 >>> ((4 : Int32) &&& 31).toUInt32).toInt32).toUInt32 >>> ((2 : Int32) &&& 31).toUInt32).toInt32).toUInt32 >>> ((1 : Int32) &&& 31).toUInt32).toInt32)), .val (.int (((((0 : Int32) + (16 : Int32)) + (4 : Int32)) + (2 : Int32)) + (1 : Int32)))] [])) _
                refine XS.iloadN X0.here hx rfl (hb hby d5_80) rfl ?_
                show Steps p.tables e below (s₁.setTop (mkF m 81 #[.val (.int p0), .val (.int (((((((((p0 - (1 : Int32)).toUInt32 >>> ((16 : Int32) &&& 31).toUInt32).toInt32).toUInt32 >>> ((4 : Int32) &&& 31).toUInt32).toInt32).toUInt32 >>> ((2 : Int32) &&& 31).toUInt32).toInt32).toUInt32 >>> ((1 : Int32) &&& 31).toUInt32).toInt32)), .val (.int (((((0 : Int32) + (16 : Int32)) + (4 : Int32)) + (2 : Int32)) + (1 : Int32)))] [(.int (((((0 : Int32) + (16 : Int32)) + (4 : Int32)) + (2 : Int32)) + (1 : Int32)))])) _
                exact retI X0 hx Bd.returns (hb hby d5_81) hr
              · show Q5 Z p0 h0 n0 _ s₁.heap _
                rw [e0]
                exact ⟨by rw [f5, if_neg hc9_2, if_pos hc24_66, if_neg hc38_68, if_neg hc50_84, if_neg hc62_92, if_pos hc74_96], N0, rfl⟩
            · skip
              obtain ⟨fs, hr, hrun, hended, hW, hsame⟩ := X0.leave (v := some (.int ((((((0 : Int32) + (16 : Int32)) + (4 : Int32)) + (2 : Int32)) + (1 : Int32)) + (1 : Int32)))) (fun h => by rw [Bd.returns] at h; cases h)
              refine ⟨_, _, G95 _ ?_, hrun, hended, _, _, rfl, ?_, ⟨_, rfl⟩, hW, hsame.mono (by decide) (by decide)⟩
              · skip
                show Steps p.tables e below (s₁.setTop (mkF m 74 #[.val (.int p0), .val (.int (((((((((p0 - (1 : Int32)).toUInt32 >>> ((16 : Int32) &&& 31).toUInt32).toInt32).toUInt32 >>> ((4 : Int32) &&& 31).toUInt32).toInt32).toUInt32 >>> ((2 : Int32) &&& 31).toUInt32).toInt32).toUInt32 >>> ((1 : Int32) &&& 31).toUInt32).toInt32)), .val (.int (((((0 : Int32) + (16 : Int32)) + (4 : Int32)) + (2 : Int32)) + (1 : Int32)))] [(.int (1 : Int32)), (.int (((((((((p0 - (1 : Int32)).toUInt32 >>> ((16 : Int32) &&& 31).toUInt32).toInt32).toUInt32 >>> ((4 : Int32) &&& 31).toUInt32).toInt32).toUInt32 >>> ((2 : Int32) &&& 31).toUInt32).toInt32).toUInt32 >>> ((1 : Int32) &&& 31).toUInt32).toInt32))])) _
                refine XS.icmpNo X0.here hx rfl (hb hby d5_74) rfl (flt hc74_96).1 ?_
                show Steps p.tables e below (s₁.setTop (mkF m 77 #[.val (.int p0), .val (.int (((((((((p0 - (1 : Int32)).toUInt32 >>> ((16 : Int32) &&& 31).toUInt32).toInt32).toUInt32 >>> ((4 : Int32) &&& 31).toUInt32).toInt32).toUInt32 >>> ((2 : Int32) &&& 31).toUInt32).toInt32).toUInt32 >>> ((1 : Int32) &&& 31).toUInt32).toInt32)), .val (.int (((((0 : Int32) + (16 : Int32)) + (4 : Int32)) + (2 : Int32)) + (1 : Int32)))] [])) _
                refine XS.iinc X0.here hx rfl (hb hby d5_77) rfl (l' := #[.val (.int p0), .val (.int (((((((((p0 - (1 : Int32)).toUInt32 >>> ((16 : Int32) &&& 31).toUInt32).toInt32).toUInt32 >>> ((4 : Int32) &&& 31).toUInt32).toInt32).toUInt32 >>> ((2 : Int32) &&& 31).toUInt32).toInt32).toUInt32 >>> ((1 : Int32) &&& 31).toUInt32).toInt32)), .val (.int ((((((0 : Int32) + (16 : Int32)) + (4 : Int32)) + (2 : Int32)) + (1 : Int32)) + (1 : Int32)))]) rfl ?_
                show Steps p.tables e below (s₁.setTop (mkF m 80 #[.val (.int p0), .val (.int (((((((((p0 - (1 : Int32)).toUInt32 >>> ((16 : Int32) &&& 31).toUInt32).toInt32).toUInt32 >>> ((4 : Int32) &&& 31).toUInt32).toInt32).toUInt32 >>> ((2 : Int32) &&& 31).toUInt32).toInt32).toUInt32 >>> ((1 : Int32) &&& 31).toUInt32).toInt32)), .val (.int ((((((0 : Int32) + (16 : Int32)) + (4 : Int32)) + (2 : Int32)) + (1 : Int32)) + (1 : Int32)))] [])) _
                refine XS.iloadN X0.here hx rfl (hb hby d5_80) rfl ?_
                show Steps p.tables e below (s₁.setTop (mkF m 81 #[.val (.int p0), .val (.int (((((((((p0 - (1 : Int32)).toUInt32 >>> ((16 : Int32) &&& 31).toUInt32).toInt32).toUInt32 >>> ((4 : Int32) &&& 31).toUInt32).toInt32).toUInt32 >>> ((2 : Int32) &&& 31).toUInt32).toInt32).toUInt32 >>> ((1 : Int32) &&& 31).toUInt32).toInt32)), .val (.int ((((((0 : Int32) + (16 : Int32)) + (4 : Int32)) + (2 : Int32)) + (1 : Int32)) + (1 : Int32)))] [(.int ((((((0 : Int32) + (16 : Int32)) + (4 : Int32)) + (2 : Int32)) + (1 : Int32)) + (1 : Int32)))])) _
                exact retI X0 hx Bd.returns (hb hby d5_81) hr
              · show Q5 Z p0 h0 n0 _ s₁.heap _
                rw [e0]
                exact ⟨by rw [f5, if_neg hc9_2, if_pos hc24_66, if_neg hc38_68, if_neg hc50_84, if_neg hc62_92, if_neg hc74_96], N0, rfl⟩
    · skip
      have G97 : ∀ t, Steps p.tables e below (s₁.setTop (mkF m 38 #[.val (.int p0), .val (.int (((((p0 - (1 : Int32)).toUInt32 >>> ((16 : Int32) &&& 31).toUInt32).toInt32).toUInt32 >>> ((8 : Int32) &&& 31).toUInt32).toInt32)), .val (.int (((0 : Int32) + (16 : Int32)) + (8 : Int32)))] [(.int (16 : Int32)), (.int (((((p0 - (1 : Int32)).toUInt32 >>> ((16 : Int32) &&& 31).toUInt32).toInt32).toUInt32 >>> ((8 : Int32) &&& 31).toUInt32).toInt32))])) t → Steps p.tables e below (s₁.setTop (entryFrame m #[(.int p0)] 3)) t := by
        intro t kt
        refine G65 _ ?_
        show Steps p.tables e below (s₁.setTop (mkF m 24 #[.val (.int p0), .val (.int (((p0 - (1 : Int32)).toUInt32 >>> ((16 : Int32) &&& 31).toUInt32).toInt32)), .val (.int ((0 : Int32) + (16 : Int32)))] [(.int (256 : Int32)), (.int (((p0 - (1 : Int32)).toUInt32 >>> ((16 : Int32) &&& 31).toUInt32).toInt32))])) _
        refine XS.icmpNo X0.here hx rfl (hb hby d5_24) rfl (flt hc24_66).1 ?_
        show Steps p.tables e below (s₁.setTop (mkF m 27 #[.val (.int p0), .val (.int (((p0 - (1 : Int32)).toUInt32 >>> ((16 : Int32) &&& 31).toUInt32).toInt32)), .val (.int ((0 : Int32) + (16 : Int32)))] [])) _
        refine XS.iinc X0.here hx rfl (hb hby d5_27) rfl (l' := #[.val (.int p0), .val (.int (((p0 - (1 : Int32)).toUInt32 >>> ((16 : Int32) &&& 31).toUInt32).toInt32)), .val (.int (((0 : Int32) + (16 : Int32)) + (8 : Int32)))]) rfl ?_
        show Steps p.tables e below (s₁.setTop (mkF m 30 #[.val (.int p0), .val (.int (((p0 - (1 : Int32)).toUInt32 >>> ((16 : Int32) &&& 31).toUInt32).toInt32)), .val (.int (((0 : Int32) + (16 : Int32)) + (8 : Int32)))] [])) _
        refine XS.iloadN X0.here hx rfl (hb hby d5_30) rfl ?_
        show Steps p.tables e below (s₁.setTop (mkF m 31 #[.val (.int p0), .val (.int (((p0 - (1 : Int32)).toUInt32 >>> ((16 : Int32) &&& 31).toUInt32).toInt32)), .val (.int (((0 : Int32) + (16 : Int32)) + (8 : Int32)))] [(.int (((p0 - (1 : Int32)).toUInt32 >>> ((16 : Int32) &&& 31).toUInt32).toInt32))])) _
        refine XS.bipush X0.here hx rfl (hb hby d5_31) ?_
        show Steps p.tables e below (s₁.setTop (mkF m 33 #[.val (.int p0), .val (.int (((p0 - (1 : Int32)).toUInt32 >>> ((16 : Int32) &&& 31).toUInt32).toInt32)), .val (.int (((0 : Int32) + (16 : Int32)) + (8 : Int32)))] [(.int (8 : Int32)), (.int (((p0 - (1 : Int32)).toUInt32 >>> ((16 : Int32) &&& 31).toUInt32).toInt32))])) _
        refine XS.iushr X0.here hx rfl (hb hby d5_33) rfl ?_
        show Steps p.tables e below (s₁.setTop (mkF m 34 #[.val (.int p0), .val (.int (((p0 - (1 : Int32)).toUInt32 >>> ((16 : Int32) &&& 31).toUInt32).toInt32)), .val (.int (((0 : Int32) + (16 : Int32)) + (8 : Int32)))] [(.int (((((p0 - (1 : Int32)).toUInt32 >>> ((16 : Int32) &&& 31).toUInt32).toInt32).toUInt32 >>> ((8 : Int32) &&& 31).toUInt32).toInt32))])) _
        refine XS.istoreN X0.here hx rfl (hb hby d5_34) rfl (l' := #[.val (.int p0), .val (.int (((((p0 - (1 : Int32)).toUInt32 >>> ((16 : Int32) &&& 31).toUInt32).toInt32).toUInt32 >>> ((8 : Int32) &&& 31).toUInt32).toInt32)), .val (.int (((0 : Int32) + (16 : Int32)) + (8 : Int32)))]) rfl ?_
        show Steps p.tables e below (s₁.setTop (mkF m 35 #[.val (.int p0), .val (.int (((((p0 - (1 : Int32)).toUInt32 >>> ((16 : Int32) &&& 31).toUInt32).toInt32).toUInt32 >>> ((8 : Int32) &&& 31).toUInt32).toInt32)), .val (.int (((0 : Int32) + (16 : Int32)) + (8 : Int32)))] [])) _
        refine XS.iloadN X0.here hx rfl (hb hby d5_35) rfl ?_
        show Steps p.tables e below (s₁.setTop (mkF m 36 #[.val (.int p0), .val (.int (((((p0 - (1 : Int32)).toUInt32 >>> ((16 : Int32) &&& 31).toUInt32).toInt32).toUInt32 >>> ((8 : Int32) &&& 31).toUInt32).toInt32)), .val (.int (((0 : Int32) + (16 : Int32)) + (8 : Int32)))] [(.int (((((p0 - (1 : Int32)).toUInt32 >>> ((16 : Int32) &&& 31).toUInt32).toInt32).toUInt32 >>> ((8 : Int32) &&& 31).toUInt32).toInt32))])) _
        refine XS.bipush X0.here hx rfl (hb hby d5_36) ?_
        exact kt
      by_cases hc38_98 : (((((p0 - (1 : Int32)).toUInt32 >>> ((16 : Int32) &&& 31).toUInt32).toInt32).toUInt32 >>> ((8 : Int32) &&& 31).toUInt32).toInt32) < (16 : Int32)
      · skip
        have G99 : ∀ t, Steps p.tables e below (s₁.setTop (mkF m 50 #[.val (.int p0), .val (.int (((((p0 - (1 : Int32)).toUInt32 >>> ((16 : Int32) &&& 31).toUInt32).toInt32).toUInt32 >>> ((8 : Int32) &&& 31).toUInt32).toInt32)), .val (.int (((0 : Int32) + (16 : Int32)) + (8 : Int32)))] [(.int (4 : Int32)), (.int (((((p0 - (1 : Int32)).toUInt32 >>> ((16 : Int32) &&& 31).toUInt32).toInt32).toUInt32 >>> ((8 : Int32) &&& 31).toUInt32).toInt32))])) t → Steps p.tables e below (s₁.setTop (entryFrame m #[(.int p0)] 3)) t := by
          intro t kt
          refine G97 _ ?_
          show Steps p.tables e below (s₁.setTop (mkF m 38 #[.val (.int p0), .val (.int (((((p0 - (1 : Int32)).toUInt32 >>> ((16 : Int32) &&& 31).toUInt32).toInt32).toUInt32 >>> ((8 : Int32) &&& 31).toUInt32).toInt32)), .val (.int (((0 : Int32) + (16 : Int32)) + (8 : Int32)))] [(.int (16 : Int32)), (.int (((((p0 - (1 : Int32)).toUInt32 >>> ((16 : Int32) &&& 31).toUInt32).toInt32).toUInt32 >>> ((8 : Int32) &&& 31).toUInt32).toInt32))])) _
          refine XS.icmpYes X0.here hx rfl (pc0 := 38) (pc' := 48) rfl (hb hby d5_38) rfl (tlt hc38_98).1 (by decide) (by decide) ?_
          show Steps p.tables e below (s₁.setTop (mkF m 48 #[.val (.int p0), .val (.int (((((p0 - (1 : Int32)).toUInt32 >>> ((16 : Int32) &&& 31).toUInt32).toInt32).toUInt32 >>> ((8 : Int32) &&& 31).toUInt32).toInt32)), .val (.int (((0 : Int32) + (16 : Int32)) + (8 : Int32)))] [])) _
          refine XS.iloadN X0.here hx rfl (hb hby d5_48) rfl ?_
          show Steps p.tables e below (s₁.setTop (mkF m 49 #[.val (.int p0), .val (.int (((((p0 - (1 : Int32)).toUInt32 >>> ((16 : Int32) &&& 31).toUInt32).toInt32).toUInt32 >>> ((8 : Int32) &&& 31).toUInt32).toInt32)), .val (.int (((0 : Int32) + (16 : Int32)) + (8 : Int32)))] [(.int (((((p0 - (1 : Int32)).toUInt32 >>> ((16 : Int32) &&& 31).toUInt32).toInt32).toUInt32 >>> ((8 : Int32) &&& 31).toUInt32).toInt32))])) _
          refine XS.iconst X0.here hx rfl (hb hby d5_49) ?_
          exact kt
        by_cases hc50_100 : (((((p0 - (1 : Int32)).toUInt32 >>> ((16 : Int32) &&& 31).toUInt32).toInt32).toUInt32 >>> ((8 : Int32) &&& 31).toUInt32).toInt32) < (4 : Int32)
        · skip
          have G101 : ∀ t, Steps p.tables e below (s₁.setTop (mkF m 62 #[.val (.int p0), .val (.int (((((p0 - (1 : Int32)).toUInt32 >>> ((16 : Int32) &&& 31).toUInt32).toInt32).toUInt32 >>> ((8 : Int32) &&& 31).toUInt32).toInt32)), .val (.int (((0 : Int32) + (16 : Int32)) + (8 : Int32)))] [(.int (2 : Int32)), (.int (((((p0 - (1 : Int32)).toUInt32 >>> ((16 : Int32) &&& 31).toUInt32).toInt32).toUInt32 >>> ((8 : Int32) &&& 31).toUInt32).toInt32))])) t → Steps p.tables e below (s₁.setTop (entryFrame m #[(.int p0)] 3)) t := by
            intro t kt
            refine G99 _ ?_
            show Steps p.tables e below (s₁.setTop (mkF m 50 #[.val (.int p0), .val (.int (((((p0 - (1 : Int32)).toUInt32 >>> ((16 : Int32) &&& 31).toUInt32).toInt32).toUInt32 >>> ((8 : Int32) &&& 31).toUInt32).toInt32)), .val (.int (((0 : Int32) + (16 : Int32)) + (8 : Int32)))] [(.int (4 : Int32)), (.int (((((p0 - (1 : Int32)).toUInt32 >>> ((16 : Int32) &&& 31).toUInt32).toInt32).toUInt32 >>> ((8 : Int32) &&& 31).toUInt32).toInt32))])) _
            refine XS.icmpYes X0.here hx rfl (pc0 := 50) (pc' := 60) rfl (hb hby d5_50) rfl (tlt hc50_100).1 (by decide) (by decide) ?_
            show Steps p.tables e below (s₁.setTop (mkF m 60 #[.val (.int p0), .val (.int (((((p0 - (1 : Int32)).toUInt32 >>> ((16 : Int32) &&& 31).toUInt32).toInt32).toUInt32 >>> ((8 : Int32) &&& 31).toUInt32).toInt32)), .val (.int (((0 : Int32) + (16 : Int32)) + (8 : Int32)))] [])) _
            refine XS.iloadN X0.here hx rfl (hb hby d5_60) rfl ?_
            show Steps p.tables e below (s₁.setTop (mkF m 61 #[.val (.int p0), .val (.int (((((p0 - (1 : Int32)).toUInt32 >>> ((16 : Int32) &&& 31).toUInt32).toInt32).toUInt32 >>> ((8 : Int32) &&& 31).toUInt32).toInt32)), .val (.int (((0 : Int32) + (16 : Int32)) + (8 : Int32)))] [(.int (((((p0 - (1 : Int32)).toUInt32 >>> ((16 : Int32) &&& 31).toUInt32).toInt32).toUInt32 >>> ((8 : Int32) &&& 31).toUInt32).toInt32))])) _
            refine XS.iconst X0.here hx rfl (hb hby d5_61) ?_
            exact kt
          by_cases hc62_102 : (((((p0 - (1 : Int32)).toUInt32 >>> ((16 : Int32) &&& 31).toUInt32).toInt32).toUInt32 >>> ((8 : Int32) &&& 31).toUInt32).toInt32) < (2 : Int32)
          · skip
            have G103 : ∀ t, Steps p.tables e below (s₁.setTop (mkF m 74 #[.val (.int p0), .val (.int (((((p0 - (1 : Int32)).toUInt32 >>> ((16 : Int32) &&& 31).toUInt32).toInt32).toUInt32 >>> ((8 : Int32) &&& 31).toUInt32).toInt32)), .val (.int (((0 : Int32) + (16 : Int32)) + (8 : Int32)))] [(.int (1 : Int32)), (.int (((((p0 - (1 : Int32)).toUInt32 >>> ((16 : Int32) &&& 31).toUInt32).toInt32).toUInt32 >>> ((8 : Int32) &&& 31).toUInt32).toInt32))])) t → Steps p.tables e below (s₁.setTop (entryFrame m #[(.int p0)] 3)) t := by
              intro t kt
              refine G101 _ ?_
              show Steps p.tables e below (s₁.setTop (mkF m 62 #[.val (.int p0), .val (.int (((((p0 - (1 : Int32)).toUInt32 >>> ((16 : Int32) &&& 31).toUInt32).toInt32).toUInt32 >>> ((8 : Int32) &&& 31).toUInt32).toInt32)), .val (.int (((0 : Int32) + (16 : Int32)) + (8 : Int32)))] [(.int (2 : Int32)), (.int (((((p0 - (1 : Int32)).toUInt32 >>> ((16 : Int32) &&& 31).toUInt32).toInt32).toUInt32 >>> ((8 : Int32) &&& 31).toUInt32).toInt32))])) _
              refine XS.icmpYes X0.here hx rfl (pc0 := 62) (pc' := 72) rfl (hb hby d5_62) rfl (tlt hc62_102).1 (by decide) (by decide) ?_
              show Steps p.tables e below (s₁.setTop (mkF m 72 #[.val (.int p0), .val (.int (((((p0 - (1 : Int32)).toUInt32 >>> ((16 : Int32) &&& 31).toUInt32).toInt32).toUInt32 >>> ((8 : Int32) &&& 31).toUInt32).toInt32)), .val (.int (((0 : Int32) + (16 : Int32)) + (8 : Int32)))] [])) _
              refine XS.iloadN X0.here hx rfl (hb hby d5_72) rfl ?_
              show Steps p.tables e below (s₁.setTop (mkF m 73 #[.val (.int p0), .val (.int (((((p0 - (1 : Int32)).toUInt32 >>> ((16 : Int32) &&& 31).toUInt32).toInt32).toUInt32 >>> ((8 : Int32) &&& 31).toUInt32).toInt32)), .val (.int (((0 : Int32) + (16 : Int32)) + (8 : Int32)))] [(.int (((((p0 - (1 : Int32)).toUInt32 >>> ((16 : Int32) &&& 31).toUInt32).toInt32).toUInt32 >>> ((8 : Int32) &&& 31).toUInt32).toInt32))])) _
              refine XS.iconst X0.here hx rfl (hb hby d5_73) ?_
              exact kt
            by_cases hc74_104 : (((((p0 - (1 : Int32)).toUInt32 >>> ((16 : Int32) &&& 31).toUInt32).toInt32).toUInt32 >>> ((8 : Int32) &&& 31).toUInt32).toInt32) < (1 : Int32)
            · skip
              obtain ⟨fs, hr, hrun, hended, hW, hsame⟩ := X0.leave (v := some (.int (((0 : Int32) + (16 : Int32)) + (8 : Int32)))) (fun h => by rw [Bd.returns] at h; cases h)
              refine ⟨_, _, G103 _ ?_, hrun, hended, _, _, rfl, ?_, ⟨_, rfl⟩, hW, hsame.mono (by decide) (by decide)⟩
              · skip
                show Steps p.tables e below (s₁.setTop (mkF m 74 #[.val (.int p0), .val (.int (((((p0 - (1 : Int32)).toUInt32 >>> ((16 : Int32) &&& 31).toUInt32).toInt32).toUInt32 >>> ((8 : Int32) &&& 31).toUInt32).toInt32)), .val (.int (((0 : Int32) + (16 : Int32)) + (8 : Int32)))] [(.int (1 : Int32)), (.int (((((p0 - (1 : Int32)).toUInt32 >>> ((16 : Int32) &&& 31).toUInt32).toInt32).toUInt32 >>> ((8 : Int32) &&& 31).toUInt32).toInt32))])) _
                refine XS.icmpYes X0.here hx rfl (pc0 := 74) (pc' := 80) rfl (hb hby d5_74) rfl (tlt hc74_104).1 (by decide) (by decide) ?_
                show Steps p.tables e below (s₁.setTop (mkF m 80 #[.val (.int p0), .val (.int (((((p0 - (1 : Int32)).toUInt32 >>> ((16 : Int32) &&& 31).toUInt32).toInt32).toUInt32 >>> ((8 : Int32) &&& 31).toUInt32).toInt32)), .val (.int (((0 : Int32) + (16 : Int32)) + (8 : Int32)))] [])) _
                refine XS.iloadN X0.here hx rfl (hb hby d5_80) rfl ?_
                show Steps p.tables e below (s₁.setTop (mkF m 81 #[.val (.int p0), .val (.int (((((p0 - (1 : Int32)).toUInt32 >>> ((16 : Int32) &&& 31).toUInt32).toInt32).toUInt32 >>> ((8 : Int32) &&& 31).toUInt32).toInt32)), .val (.int (((0 : Int32) + (16 : Int32)) + (8 : Int32)))] [(.int (((0 : Int32) + (16 : Int32)) + (8 : Int32)))])) _
                exact retI X0 hx Bd.returns (hb hby d5_81) hr
              · show Q5 Z p0 h0 n0 _ s₁.heap _
                rw [e0]
                exact ⟨by rw [f5, if_neg hc9_2, if_neg hc24_66, if_pos hc38_98, if_pos hc50_100, if_pos hc62_102, if_pos hc74_104], N0, rfl⟩
            · skip
              obtain ⟨fs, hr, hrun, hended, hW, hsame⟩ := X0.leave (v := some (.int ((((0 : Int32) + (16 : Int32)) + (8 : Int32)) + (1 : Int32)))) (fun h => by rw [Bd.returns] at h; cases h)
              refine ⟨_, _, G103 _ ?_, hrun, hended, _, _, rfl, ?_, ⟨_, rfl⟩, hW, hsame.mono (by decide) (by decide)⟩
              · skip
                show Steps p.tables e below (s₁.setTop (mkF m 74 #[.val (.int p0), .val (.int (((((p0 - (1 : Int32)).toUInt32 >>> ((16 : Int32) &&& 31).toUInt32).toInt32).toUInt32 >>> ((8 : Int32) &&& 31).toUInt32).toInt32)), .val (.int (((0 : Int32) + (16 : Int32)) + (8 : Int32)))] [(.int (1 : Int32)), (.int (((((p0 - (1 : Int32)).toUInt32 >>> ((16 : Int32) &&& 31).toUInt32).toInt32).toUInt32 >>> ((8 : Int32) &&& 31).toUInt32).toInt32))])) _
                refine XS.icmpNo X0.here hx rfl (hb hby d5_74) rfl (flt hc74_104).1 ?_
                show Steps p.tables e below (s₁.setTop (mkF m 77 #[.val (.int p0), .val (.int (((((p0 - (1 : Int32)).toUInt32 >>> ((16 : Int32) &&& 31).toUInt32).toInt32).toUInt32 >>> ((8 : Int32) &&& 31).toUInt32).toInt32)), .val (.int (((0 : Int32) + (16 : Int32)) + (8 : Int32)))] [])) _
                refine XS.iinc X0.here hx rfl (hb hby d5_77) rfl (l' := #[.val (.int p0), .val (.int (((((p0 - (1 : Int32)).toUInt32 >>> ((16 : Int32) &&& 31).toUInt32).toInt32).toUInt32 >>> ((8 : Int32) &&& 31).toUInt32).toInt32)), .val (.int ((((0 : Int32) + (16 : Int32)) + (8 : Int32)) + (1 : Int32)))]) rfl ?_
                show Steps p.tables e below (s₁.setTop (mkF m 80 #[.val (.int p0), .val (.int (((((p0 - (1 : Int32)).toUInt32 >>> ((16 : Int32) &&& 31).toUInt32).toInt32).toUInt32 >>> ((8 : Int32) &&& 31).toUInt32).toInt32)), .val (.int ((((0 : Int32) + (16 : Int32)) + (8 : Int32)) + (1 : Int32)))] [])) _
                refine XS.iloadN X0.here hx rfl (hb hby d5_80) rfl ?_
                show Steps p.tables e below (s₁.setTop (mkF m 81 #[.val (.int p0), .val (.int (((((p0 - (1 : Int32)).toUInt32 >>> ((16 : Int32) &&& 31).toUInt32).toInt32).toUInt32 >>> ((8 : Int32) &&& 31).toUInt32).toInt32)), .val (.int ((((0 : Int32) + (16 : Int32)) + (8 : Int32)) + (1 : Int32)))] [(.int ((((0 : Int32) + (16 : Int32)) + (8 : Int32)) + (1 : Int32)))])) _
                exact retI X0 hx Bd.returns (hb hby d5_81) hr
              · show Q5 Z p0 h0 n0 _ s₁.heap _
                rw [e0]
                exact ⟨by rw [f5, if_neg hc9_2, if_neg hc24_66, if_pos hc38_98, if_pos hc50_100, if_pos hc62_102, if_neg hc74_104], N0, rfl⟩
          · skip
            have G105 : ∀ t, Steps p.tables e below (s₁.setTop (mkF m 74 #[.val (.int p0), .val (.int (((((((p0 - (1 : Int32)).toUInt32 >>> ((16 : Int32) &&& 31).toUInt32).toInt32).toUInt32 >>> ((8 : Int32) &&& 31).toUInt32).toInt32).toUInt32 >>> ((1 : Int32) &&& 31).toUInt32).toInt32)), .val (.int ((((0 : Int32) + (16 : Int32)) + (8 : Int32)) + (1 : Int32)))] [(.int (1 : Int32)), (.int (((((((p0 - (1 : Int32)).toUInt32 >>> ((16 : Int32) &&& 31).toUInt32).toInt32).toUInt32 >>> ((8 : Int32) &&& 31).toUInt32).toInt32).toUInt32 >>> ((1 : Int32) &&& 31).toUInt32).toInt32))])) t → Steps p.tables e below (s₁.setTop (entryFrame m #[(.int p0)] 3)) t := by
              intro t kt
              refine G101 _ ?_
              show Steps p.tables e below (s₁.setTop (mkF m 62 #[.val (.int p0), .val (.int (((((p0 - (1 : Int32)).toUInt32 >>> ((16 : Int32) &&& 31).toUInt32).toInt32).toUInt32 >>> ((8 : Int32) &&& 31).toUInt32).toInt32)), .val (.int (((0 : Int32) + (16 : Int32)) + (8 : Int32)))] [(.int (2 : Int32)), (.int (((((p0 - (1 : Int32)).toUInt32 >>> ((16 : Int32) &&& 31).toUInt32).toInt32).toUInt32 >>> ((8 : Int32) &&& 31).toUInt32).toInt32))])) _
              refine XS.icmpNo X0.here hx rfl (hb hby d5_62) rfl (flt hc62_102).1 ?_
              show Steps p.tables e below (s₁.setTop (mkF m 65 #[.val (.int p0), .val (.int (((((p0 - (1 : Int32)).toUInt32 >>> ((16 : Int32) &&& 31).toUInt32).toInt32).toUInt32 >>> ((8 : Int32) &&& 31).toUInt32).toInt32)), .val (.int (((0 : Int32) + (16 : Int32)) + (8 : Int32)))] [])) _
              refine XS.iinc X0.here hx rfl (hb hby d5_65) rfl (l' := #[.val (.int p0), .val (.int (((((p0 - (1 : Int32)).toUInt32 >>> ((16 : Int32) &&& 31).toUInt32).toInt32).toUInt32 >>> ((8 : Int32) &&& 31).toUInt32).toInt32)), .val (.int ((((0 : Int32) + (16 : Int32)) + (8 : Int32)) + (1 : Int32)))]) rfl ?_
              show Steps p.tables e below (s₁.setTop (mkF m 68 #[.val (.int p0), .val (.int (((((p0 - (1 : Int32)).toUInt32 >>> ((16 : Int32) &&& 31).toUInt32).toInt32).toUInt32 >>> ((8 : Int32) &&& 31).toUInt32).toInt32)), .val (.int ((((0 : Int32) + (16 : Int32)) + (8 : Int32)) + (1 : Int32)))] [])) _
              refine XS.iloadN X0.here hx rfl (hb hby d5_68) rfl ?_
              show Steps p.tables e below (s₁.setTop (mkF m 69 #[.val (.int p0), .val (.int (((((p0 - (1 : Int32)).toUInt32 >>> ((16 : Int32) &&& 31).toUInt32).toInt32).toUInt32 >>> ((8 : Int32) &&& 31).toUInt32).toInt32)), .val (.int ((((0 : Int32) + (16 : Int32)) + (8 : Int32)) + (1 : Int32)))] [(.int (((((p0 - (1 : Int32)).toUInt32 >>> ((16 : Int32) &&& 31).toUInt32).toInt32).toUInt32 >>> ((8 : Int32) &&& 31).toUInt32).toInt32))])) _
              refine XS.iconst X0.here hx rfl (hb hby d5_69) ?_
              show Steps p.tables e below (s₁.setTop (mkF m 70 #[.val (.int p0), .val (.int (((((p0 - (1 : Int32)).toUInt32 >>> ((16 : Int32) &&& 31).toUInt32).toInt32).toUInt32 >>> ((8 : Int32) &&& 31).toUInt32).toInt32)), .val (.int ((((0 : Int32) + (16 : Int32)) + (8 : Int32)) + (1 : Int32)))] [(.int (1 : Int32)), (.int (((((p0 - (1 : Int32)).toUInt32 >>> ((16 : Int32) &&& 31).toUInt32).toInt32).toUInt32 >>> ((8 : Int32) &&& 31).toUInt32).toInt32))])) _
              refine XS.iushr X0.here hx rfl (hb hby d5_70) rfl ?_
              show Steps p.tables e below (s₁.setTop (mkF m 71 #[.val (.int p0), .val (.int (((((p0 - (1 : Int32)).toUInt32 >>> ((16 : Int32) &&& 31).toUInt32).toInt32).toUInt32 >>> ((8 : Int32) &&& 31).toUInt32).toInt32)), .val (.int ((((0 : Int32) + (16 : Int32)) + (8 : Int32)) + (1 : Int32)))] [(.int (((((((p0 - (1 : Int32)).toUInt32 >>> ((16 : Int32) &&& 31).toUInt32).toInt32).toUInt32 >>> ((8 : Int32) &&& 31).toUInt32).toInt32).toUInt32 >>> ((1 : Int32) &&& 31).toUInt32).toInt32))])) _
              refine XS.istoreN X0.here hx rfl (hb hby d5_71) rfl (l' := #[.val (.int p0), .val (.int (((((((p0 - (1 : Int32)).toUInt32 >>> ((16 : Int32) &&& 31).toUInt32).toInt32).toUInt32 >>> ((8 : Int32) &&& 31).toUInt32).toInt32).toUInt32 >>> ((1 : Int32) &&& 31).toUInt32).toInt32)), .val (.int ((((0 : Int32) + (16 : Int32)) + (8 : Int32)) + (1 : Int32)))]) rfl ?_
              show Steps p.tables e below (s₁.setTop (mkF m 72 #[.val (.int p0), .val (.int (((((((p0 - (1 : Int32)).toUInt32 >>> ((16 : Int32) &&& 31).toUInt32).toInt32).toUInt32 >>> ((8 : Int32) &&& 31).toUInt32).toInt32).toUInt32 >>> ((1 : Int32) &&& 31).toUInt32).toInt32)), .val (.int ((((0 : Int32) + (16 : Int32)) + (8 : Int32)) + (1 : Int32)))] [])) _
              refine XS.iloadN X0.here hx rfl (hb hby d5_72) rfl ?_
              show Steps p.tables e below (s₁.setTop (mkF m 73 #[.val (.int p0), .val (.int (((((((p0 - (1 : Int32)).toUInt32 >>> ((16 : Int32) &&& 31).toUInt32).toInt32).toUInt32 >>> ((8 : Int32) &&& 31).toUInt32).toInt32).toUInt32 >>> ((1 : Int32) &&& 31).toUInt32).toInt32)), .val (.int ((((0 : Int32) + (16 : Int32)) + (8 : Int32)) + (1 : Int32)))] [(.int (((((((p0 - (1 : Int32)).toUInt32 >>> ((16 : Int32) &&& 31).toUInt32).toInt32).toUInt32 >>> ((8 : Int32) &&& 31).toUInt32).toInt32).toUInt32 >>> ((1 : Int32) &&& 31).toUInt32).toInt32))])) _
              refine XS.iconst X0.here hx rfl (hb hby d5_73) ?_
              exact kt
            by_cases hc74_106 : (((((((p0 - (1 : Int32)).toUInt32 >>> ((16 : Int32) &&& 31).toUInt32).toInt32).toUInt32 >>> ((8 : Int32) &&& 31).toUInt32).toInt32).toUInt32 >>> ((1 : Int32) &&& 31).toUInt32).toInt32) < (1 : Int32)
            · skip
              obtain ⟨fs, hr, hrun, hended, hW, hsame⟩ := X0.leave (v := some (.int ((((0 : Int32) + (16 : Int32)) + (8 : Int32)) + (1 : Int32)))) (fun h => by rw [Bd.returns] at h; cases h)
              refine ⟨_, _, G105 _ ?_, hrun, hended, _, _, rfl, ?_, ⟨_, rfl⟩, hW, hsame.mono (by decide) (by decide)⟩
              · skip
                show Steps p.tables e below (s₁.setTop (mkF m 74 #[.val (.int p0), .val (.int (((((((p0 - (1 : Int32)).toUInt32 >>> ((16 : Int32) &&& 31).toUInt32).toInt32).toUInt32 >>> ((8 : Int32) &&& 31).toUInt32).toInt32).toUInt32 >>> ((1 : Int32) &&& 31).toUInt32).toInt32)), .val (.int ((((0 : Int32) + (16 : Int32)) + (8 : Int32)) + (1 : Int32)))] [(.int (1 : Int32)), (.int (((((((p0 - (1 : Int32)).toUInt32 >>> ((16 : Int32) &&& 31).toUInt32).toInt32).toUInt32 >>> ((8 : Int32) &&& 31).toUInt32).toInt32).toUInt32 >>> ((1 : Int32) &&& 31).toUInt32).toInt32))])) _
                refine XS.icmpYes X0.here hx rfl (pc0 := 74) (pc' := 80) rfl (hb hby d5_74) rfl (tlt hc74_106).1 (by decide) (by decide) ?_
                show Steps p.tables e below (s₁.setTop (mkF m 80 #[.val (.int p0), .val (.int (((((((p0 - (1 : Int32)).toUInt32 >>> ((16 : Int32) &&& 31).toUInt32).toInt32).toUInt32 >>> ((8 : Int32) &&& 31).toUInt32).toInt32).toUInt32 >>> ((1 : Int32) &&& 31).toUInt32).toInt32)), .val (.int ((((0 : Int32) + (16 : Int32)) + (8 : Int32)) + (1 : Int32)))] [])) _
                refine XS.iloadN X0.here hx rfl (hb hby d5_80) rfl ?_
                show Steps p.tables e below (s₁.setTop (mkF m 81 #[.val (.int p0), .val (.int (((((((p0 - (1 : Int32)).toUInt32 >>> ((16 : Int32) &&& 31).toUInt32).toInt32).toUInt32 >>> ((8 : Int32) &&& 31).toUInt32).toInt32).toUInt32 >>> ((1 : Int32) &&& 31).toUInt32).toInt32)), .val (.int ((((0 : Int32) + (16 : Int32)) + (8 : Int32)) + (1 : Int32)))] [(.int ((((0 : Int32) + (16 : Int32)) + (8 : Int32)) + (1 : Int32)))])) _
                exact retI X0 hx Bd.returns (hb hby d5_81) hr
              · show Q5 Z p0 h0 n0 _ s₁.heap _
                rw [e0]
                exact ⟨by rw [f5, if_neg hc9_2, if_neg hc24_66, if_pos hc38_98, if_pos hc50_100, if_neg hc62_102, if_pos hc74_106], N0, rfl⟩
            · skip
              obtain ⟨fs, hr, hrun, hended, hW, hsame⟩ := X0.leave (v := some (.int (((((0 : Int32) + (16 : Int32)) + (8 : Int32)) + (1 : Int32)) + (1 : Int32)))) (fun h => by rw [Bd.returns] at h; cases h)
              refine ⟨_, _, G105 _ ?_, hrun, hended, _, _, rfl, ?_, ⟨_, rfl⟩, hW, hsame.mono (by decide) (by decide)⟩
              · skip
                show Steps p.tables e below (s₁.setTop (mkF m 74 #[.val (.int p0), .val (.int (((((((p0 - (1 : Int32)).toUInt32 >>> ((16 : Int32) &&& 31).toUInt32).toInt32).toUInt32 >>> ((8 : Int32) &&& 31).toUInt32).toInt32).toUInt32 >>> ((1 : Int32) &&& 31).toUInt32).toInt32)), .val (.int ((((0 : Int32) + (16 : Int32)) + (8 : Int32)) + (1 : Int32)))] [(.int (1 : Int32)), (.int (((((((p0 - (1 : Int32)).toUInt32 >>> ((16 : Int32) &&& 31).toUInt32).toInt32).toUInt32 >>> ((8 : Int32) &&& 31).toUInt32).toInt32).toUInt32 >>> ((1 : Int32) &&& 31).toUInt32).toInt32))])) _
                refine XS.icmpNo X0.here hx rfl (hb hby d5_74) rfl (flt hc74_106).1 ?_
                show Steps p.tables e below (s₁.setTop (mkF m 77 #[.val (.int p0), .val (.int (((((((p0 - (1 : Int32)).toUInt32 >>> ((16 : Int32) &&& 31).toUInt32).toInt32).toUInt32 >>> ((8 : Int32) &&& 31).toUInt32).toInt32).toUInt32 >>> ((1 : Int32) &&& 31).toUInt32).toInt32)), .val (.int ((((0 : Int32) + (16 : Int32)) + (8 : Int32)) + (1 : Int32)))] [])) _
                refine XS.iinc X0.here hx rfl (hb hby d5_77) rfl (l' := #[.val (.int p0), .val (.int (((((((p0 - (1 : Int32)).toUInt32 >>> ((16 : Int32) &&& 31).toUInt32).toInt32).toUInt32 >>> ((8 : Int32) &&& 31).toUInt32).toInt32).toUInt32 >>> ((1 : Int32) &&& 31).toUInt32).toInt32)), .val (.int (((((0 : Int32) + (16 : Int32)) + (8 : Int32)) + (1 : Int32)) + (1 : Int32)))]) rfl ?_
                show Steps p.tables e below (s₁.setTop (mkF m 80 #[.val (.int p0), .val (.int (((((((p0 - (1 : Int32)).toUInt32 >>> ((16 : Int32) &&& 31).toUInt32).toInt32).toUInt32 >>> ((8 : Int32) &&& 31).toUInt32).toInt32).toUInt32 >>> ((1 : Int32) &&& 31).toUInt32).toInt32)), .val (.int (((((0 : Int32) + (16 : Int32)) + (8 : Int32)) + (1 : Int32)) + (1 : Int32)))] [])) _
                refine XS.iloadN X0.here hx rfl (hb hby d5_80) rfl ?_
                show Steps p.tables e below (s₁.setTop (mkF m 81 #[.val (.int p0), .val (.int (((((((p0 - (1 : Int32)).toUInt32 >>> ((16 : Int32) &&& 31).toUInt32).toInt32).toUInt32 >>> ((8 : Int32) &&& 31).toUInt32).toInt32).toUInt32 >>> ((1 : Int32) &&& 31).toUInt32).toInt32)), .val (.int (((((0 : Int32) + (16 : Int32)) + (8 : Int32)) + (1 : Int32)) + (1 : Int32)))] [(.int (((((0 : Int32) + (16 : Int32)) + (8 : Int32)) + (1 : Int32)) + (1 : Int32)))])) _
                exact retI X0 hx Bd.returns (hb hby d5_81) hr
              · show Q5 Z p0 h0 n0 _ s₁.heap _
                rw [e0]
                exact ⟨by rw [f5, if_neg hc9_2, if_neg hc24_66, if_pos hc38_98, if_pos hc50_100, if_neg hc62_102, if_neg hc74_106], N0, rfl⟩
        · skip
          have G107 : ∀ t, Steps p.tables e below (s₁.setTop (mkF m 62 #[.val (.int p0), .val (.int (((((((p0 - (1 : Int32)).toUInt32 >>> ((16 : Int32) &&& 31).toUInt32).toInt32).toUInt32 >>> ((8 : Int32) &&& 31).toUInt32).toInt32).toUInt32 >>> ((2 : Int32) &&& 31).toUInt32).toInt32)), .val (.int ((((0 : Int32) + (16 : Int32)) + (8 : Int32)) + (2 : Int32)))] [(.int (2 : Int32)), (.int (((((((p0 - (1 : Int32)).toUInt32 >>> ((16 : Int32) &&& 31).toUInt32).toInt32).toUInt32 >>> ((8 : Int32) &&& 31).toUInt32).toInt32).toUInt32 >>> ((2 : Int32) &&& 31).toUInt32).toInt32))])) t → Steps p.tables e below (s₁.setTop (entryFrame m #[(.int p0)] 3)) t := by
            intro t kt
            refine G99 _ ?_
            show Steps p.tables e below (s₁.setTop (mkF m 50 #[.val (.int p0), .val (.int (((((p0 - (1 : Int32)).toUInt32 >>> ((16 : Int32) &&& 31).toUInt32).toInt32).toUInt32 >>> ((8 : Int32) &&& 31).toUInt32).toInt32)), .val (.int (((0 : Int32) + (16 : Int32)) + (8 : Int32)))] [(.int (4 : Int32)), (.int (((((p0 - (1 : Int32)).toUInt32 >>> ((16 : Int32) &&& 31).toUInt32).toInt32).toUInt32 >>> ((8 : Int32) &&& 31).toUInt32).toInt32))])) _
            refine XS.icmpNo X0.here hx rfl (hb hby d5_50) rfl (flt hc50_100).1 ?_
            show Steps p.tables e below (s₁.setTop (mkF m 53 #[.val (.int p0), .val (.int (((((p0 - (1 : Int32)).toUInt32 >>> ((16 : Int32) &&& 31).toUInt32).toInt32).toUInt32 >>> ((8 : Int32) &&& 31).toUInt32).toInt32)), .val (.int (((0 : Int32) + (16 : Int32)) + (8 : Int32)))] [])) _
            refine XS.iinc X0.here hx rfl (hb hby d5_53) rfl (l' := #[.val (.int p0), .val (.int (((((p0 - (1 : Int32)).toUInt32 >>> ((16 : Int32) &&& 31).toUInt32).toInt32).toUInt32 >>> ((8 : Int32) &&& 31).toUInt32).toInt32)), .val (.int ((((0 : Int32) + (16 : Int32)) + (8 : Int32)) + (2 : Int32)))]) rfl ?_
            show Steps p.tables e below (s₁.setTop (mkF m 56 #[.val (.int p0), .val (.int (((((p0 - (1 : Int32)).toUInt32 >>> ((16 : Int32) &&& 31).toUInt32).toInt32).toUInt32 >>> ((8 : Int32) &&& 31).toUInt32).toInt32)), .val (.int ((((0 : Int32) + (16 : Int32)) + (8 : Int32)) + (2 : Int32)))] [])) _
            refine XS.iloadN X0.here hx rfl (hb hby d5_56) rfl ?_
            show Steps p.tables e below (s₁.setTop (mkF m 57 #[.val (.int p0), .val (.int (((((p0 - (1 : Int32)).toUInt32 >>> ((16 : Int32) &&& 31).toUInt32).toInt32).toUInt32 >>> ((8 : Int32) &&& 31).toUInt32).toInt32)), .val (.int ((((0 : Int32) + (16 : Int32)) + (8 : Int32)) + (2 : Int32)))] [(.int (((((p0 - (1 : Int32)).toUInt32 >>> ((16 : Int32) &&& 31).toUInt32).toInt32).toUInt32 >>> ((8 : Int32) &&& 31).toUInt32).toInt32))])) _
            refine XS.iconst X0.here hx rfl (hb hby d5_57) ?_
            show Steps p.tables e below (s₁.setTop (mkF m 58 #[.val (.int p0), .val (.int (((((p0 - (1 : Int32)).toUInt32 >>> ((16 : Int32) &&& 31).toUInt32).toInt32).toUInt32 >>> ((8 : Int32) &&& 31).toUInt32).toInt32)), .val (.int ((((0 : Int32) + (16 : Int32)) + (8 : Int32)) + (2 : Int32)))] [(.int (2 : Int32)), (.int (((((p0 - (1 : Int32)).toUInt32 >>> ((16 : Int32) &&& 31).toUInt32).toInt32).toUInt32 >>> ((8 : Int32) &&& 31).toUInt32).toInt32))])) _
            refine XS.iushr X0.here hx rfl (hb hby d5_58) rfl ?_
            show Steps p.tables e below (s₁.setTop (mkF m 59 #[.val (.int p0), .val (.int (((((p0 - (1 : Int32)).toUInt32 >>> ((16 : Int32) &&& 31).toUInt32).toInt32).toUInt32 >>> ((8 : Int32) &&& 31).toUInt32).toInt32)), .val (.int ((((0 : Int32) + (16 : Int32)) + (8 : Int32)) + (2 : Int32)))] [(.int (((((((p0 - (1 : Int32)).toUInt32 >>> ((16 : Int32) &&& 31).toUInt32).toInt32).toUInt32 >>> ((8 : Int32) &&& 31).toUInt32).toInt32).toUInt32 >>> ((2 : Int32) &&& 31).toUInt32).toInt32))])) _
            refine XS.istoreN X0.here hx rfl (hb hby d5_59) rfl (l' := #[.val (.int p0), .val (.int (((((((p0 - (1 : Int32)).toUInt32 >>> ((16 : Int32) &&& 31).toUInt32).toInt32).toUInt32 >>> ((8 : Int32) &&& 31).toUInt32).toInt32).toUInt32 >>> ((2 : Int32) &&& 31).toUInt32).toInt32)), .val (.int ((((0 : Int32) + (16 : Int32)) + (8 : Int32)) + (2 : Int32)))]) rfl ?_
            show Steps p.tables e below (s₁.setTop (mkF m 60 #[.val (.int p0), .val (.int (((((((p0 - (1 : Int32)).toUInt32 >>> ((16 : Int32) &&& 31).toUInt32).toInt32).toUInt32 >>> ((8 : Int32) &&& 31).toUInt32).toInt32).toUInt32 >>> ((2 : Int32) &&& 31).toUInt32).toInt32)), .val (.int ((((0 : Int32) + (16 : Int32)) + (8 : Int32)) + (2 : Int32)))] [])) _
            refine XS.iloadN X0.here hx rfl (hb hby d5_60) rfl ?_
            show Steps p.tables e below (s₁.setTop (mkF m 61 #[.val (.int p0), .val (.int (((((((p0 - (1 : Int32)).toUInt32 >>> ((16 : Int32) &&& 31).toUInt32).toInt32).toUInt32 >>> ((8 : Int32) &&& 31).toUInt32).toInt32).toUInt32 >>> ((2 : Int32) &&& 31).toUInt32).toInt32)), .val (.int ((((0 : Int32) + (16 : Int32)) + (8 : Int32)) + (2 : Int32)))] [(.int (((((((p0 - (1 : Int32)).toUInt32 >>> ((16 : Int32) &&& 31).toUInt32).toInt32).toUInt32 >>> ((8 : Int32) &&& 31).toUInt32).toInt32).toUInt32 >>> ((2 : Int32) &&& 31).toUInt32).toInt32))])) _
            refine XS.iconst X0.here hx rfl (hb hby d5_61) ?_
            exact kt
          by_cases hc62_108 : (((((((p0 - (1 : Int32)).toUInt32 >>> ((16 : Int32) &&& 31).toUInt32).toInt32).toUInt32 >>> ((8 : Int32) &&& 31).toUInt32).toInt32).toUInt32 >>> ((2 : Int32) &&& 31).toUInt32).toInt32) < (2 : Int32)
          · skip
            have G109 : ∀ t, Steps p.tables e below (s₁.setTop (mkF m 74 #[.val (.int p0), .val (.int (((((((p0 - (1 : Int32)).toUInt32 >>> ((16 : Int32) &&& 31).toUInt32).toInt32).toUInt32 >>> ((8 : Int32) &&& 31).toUInt32).toInt32).toUInt32 >>> ((2 : Int32) &&& 31).toUInt32).toInt32)), .val (.int ((((0 : Int32) + (16 : Int32)) + (8 : Int32)) + (2 : Int32)))] [(.int (1 : Int32)), (.int (((((((p0 - (1 : Int32)).toUInt32 >>> ((16 : Int32) &&& 31).toUInt32).toInt32).toUInt32 >>> ((8 : Int32) &&& 31).toUInt32).toInt32).toUInt32 >>> ((2 : Int32) &&& 31).toUInt32).toInt32))])) t → Steps p.tables e below (s₁.setTop (entryFrame m #[(.int p0)] 3)) t := by
              intro t kt
              refine G107 _ ?_
              show Steps p.tables e below (s₁.setTop (mkF m 62 #[.val (.int p0), .val (.int (((((((p0 - (1 : Int32)).toUInt32 >>> ((16 : Int32) &&& 31).toUInt32).toInt32).toUInt32 >>> ((8 : Int32) &&& 31).toUInt32).toInt32).toUInt32 >>> ((2 : Int32) &&& 31).toUInt32).toInt32)), .val (.int ((((0 : Int32) + (16 : Int32)) + (8 : Int32)) + (2 : Int32)))] [(.int (2 : Int32)), (.int (((((((p0 - (1 : Int32)).toUInt32 >>> ((16 : Int32) &&& 31).toUInt32).toInt32).toUInt32 >>> ((8 : Int32) &&& 31).toUInt32).toInt32).toUInt32 >>> ((2 : Int32) &&& 31).toUInt32).toInt32))])) _
              refine XS.icmpYes X0.here hx rfl (pc0 := 62) (pc' := 72) rfl (hb hby d5_62) rfl (tlt hc62_108).1 (by decide) (by decide) ?_
              show Steps p.tables e below (s₁.setTop (mkF m 72 #[.val (.int p0), .val (.int (((((((p0 - (1 : Int32)).toUInt32 >>> ((16 : Int32) &&& 31).toUInt32).toInt32).toUInt32 >>> ((8 : Int32) &&& 31).toUInt32).toInt32).toUInt32 >>> ((2 : Int32) &&& 31).toUInt32).toInt32)), .val (.int ((((0 : Int32) + (16 : Int32)) + (8 : Int32)) + (2 : Int32)))] [])) _
              refine XS.iloadN X0.here hx rfl (hb hby d5_72) rfl ?_
              show Steps p.tables e below (s₁.setTop (mkF m 73 #[.val (.int p0), .val (.int (((((((p0 - (1 : Int32)).toUInt32 >>> ((16 : Int32) &&& 31).toUInt32).toInt32).toUInt32 >>> ((8 : Int32) &&& 31).toUInt32).toInt32).toUInt32 >>> ((2 : Int32) &&& 31).toUInt32).toInt32)), .val (.int ((((0 : Int32) + (16 : Int32)) + (8 : Int32)) + (2 : Int32)))] [(.int (((((((p0 - (1 : Int32)).toUInt32 >>> ((16 : Int32) &&& 31).toUInt32).toInt32).toUInt32 >>> ((8 : Int32) &&& 31).toUInt32).toInt32).toUInt32 >>> ((2 : Int32) &&& 31).toUInt32).toInt32))])) _
              refine XS.iconst X0.here hx rfl (hb hby d5_73) ?_
              exact kt
            by_cases hc74_110 : (((((((p0 - (1 : Int32)).toUInt32 >>> ((16 : Int32) &&& 31).toUInt32).toInt32).toUInt32 >>> ((8 : Int32) &&& 31).toUInt32).toInt32).toUInt32 >>> ((2 : Int32) &&& 31).toUInt32).toInt32) < (1 : Int32)
            · skip
              obtain ⟨fs, hr, hrun, hended, hW, hsame⟩ := X0.leave (v := some (.int ((((0 : Int32) + (16 : Int32)) + (8 : Int32)) + (2 : Int32)))) (fun h => by rw [Bd.returns] at h; cases h)
              refine ⟨_, _, G109 _ ?_, hrun, hended, _, _, rfl, ?_, ⟨_, rfl⟩, hW, hsame.mono (by decide) (by decide)⟩
              · skip
                show Steps p.tables e below (s₁.setTop (mkF m 74 #[.val (.int p0), .val (.int (((((((p0 - (1 : Int32)).toUInt32 >>> ((16 : Int32) &&& 31).toUInt32).toInt32).toUInt32 >>> ((8 : Int32) &&& 31).toUInt32).toInt32).toUInt32 >>> ((2 : Int32) &&& 31).toUInt32).toInt32)), .val (.int ((((0 : Int32) + (16 : Int32)) + (8 : Int32)) + (2 : Int32)))] [(.int (1 : Int32)), (.int (((((((p0 - (1 : Int32)).toUInt32 >>> ((16 : Int32) &&& 31).toUInt32).toInt32).toUInt32 >>> ((8 : Int32) &&& 31).toUInt32).toInt32).toUInt32 >>> ((2 : Int32) &&& 31).toUInt32).toInt32))])) _
                refine XS.icmpYes X0.here hx rfl (pc0 := 74) (pc' := 80) rfl (hb hby d5_74) rfl (tlt hc74_110).1 (by decide) (by decide) ?_
                show Steps p.tables e below (s₁.setTop (mkF m 80 #[.val (.int p0), .val (.int (((((((p0 - (1 : Int32)).toUInt32 >>> ((16 : Int32) &&& 31).toUInt32).toInt32).toUInt32 >>> ((8 : Int32) &&& 31).toUInt32).toInt32).toUInt32 >>> ((2 : Int32) &&& 31).toUInt32).toInt32)), .val (.int ((((0 : Int32) + (16 : Int32)) + (8 : Int32)) + (2 : Int32)))] [])) _
                refine XS.iloadN X0.here hx rfl (hb hby d5_80) rfl ?_
                show Steps p.tables e below (s₁.setTop (mkF m 81 #[.val (.int p0), .val (.int (((((((p0 - (1 : Int32)).toUInt32 >>> ((16 : Int32) &&& 31).toUInt32).toInt32).toUInt32 >>> ((8 : Int32) &&& 31).toUInt32).toInt32).toUInt32 >>> ((2 : Int32) &&& 31).toUInt32).toInt32)), .val (.int ((((0 : Int32) + (16 : Int32)) + (8 : Int32)) + (2 : Int32)))] [(.int ((((0 : Int32) + (16 : Int32)) + (8 : Int32)) + (2 : Int32)))])) _
                exact retI X0 hx Bd.returns (hb hby d5_81) hr
              · show Q5 Z p0 h0 n0 _ s₁.heap _
                rw [e0]
                exact ⟨by rw [f5, if_neg hc9_2, if_neg hc24_66, if_pos hc38_98, if_neg hc50_100, if_pos hc62_108, if_pos hc74_110], N0, rfl⟩
            · skip
              obtain ⟨fs, hr, hrun, hended, hW, hsame⟩ := X0.leave (v := some (.int (((((0 : Int32) + (16 : Int32)) + (8 : Int32)) + (2 : Int32)) + (1 : Int32)))) (fun h => by rw [Bd.returns] at h; cases h)
              refine ⟨_, _, G109 _ ?_, hrun, hended, _, _, rfl, ?_, ⟨_, rfl⟩, hW, hsame.mono (by decide) (by decide)⟩
              · skip
                show Steps p.tables e below (s₁.setTop (mkF m 74 #[.val (.int p0), .val (.int (((((((p0 - (1 : Int32)).toUInt32 >>> ((16 : Int32) &&& 31).toUInt32).toInt32).toUInt32 >>> ((8 : Int32) &&& 31).toUInt32).toInt32).toUInt32 >>> ((2 : Int32) &&& 31).toUInt32).toInt32)), .val (.int ((((0 : Int32) + (16 : Int32)) + (8 : Int32)) + (2 : Int32)))] [(.int (1 : Int32)), (.int (((((((p0 - (1 : Int32)).toUInt32 >>> ((16 : Int32) &&& 31).toUInt32).toInt32).toUInt32 >>> ((8 : Int32) &&& 31).toUInt32).toInt32).toUInt32 >>> ((2 : Int32) &&& 31).toUInt32).toInt32))])) _
                refine XS.icmpNo X0.here hx rfl (hb hby d5_74) rfl (flt hc74_110).1 ?_
                show Steps p.tables e below (s₁.setTop (mkF m 77 #[.val (.int p0), .val (.int (((((((p0 - (1 : Int32)).toUInt32 >>> ((16 : Int32) &&& 31).toUInt32).toInt32).toUInt32 >>> ((8 : Int32) &&& 31).toUInt32).toInt32).toUInt32 >>> ((2 : Int32) &&& 31).toUInt32).toInt32)), .val (.int ((((0 : Int32) + (16 : Int32)) + (8 : Int32)) + (2 : Int32)))] [])) _
                refine XS.iinc X0.here hx rfl (hb hby d5_77) rfl (l' := #[.val (.int p0), .val (.int (((((((p0 - (1 : Int32)).toUInt32 >>> ((16 : Int32) &&& 31).toUInt32).toInt32).toUInt32 >>> ((8 : Int32) &&& 31).toUInt32).toInt32).toUInt32 >>> ((2 : Int32) &&& 31).toUInt32).toInt32)), .val (.int (((((0 : Int32) + (16 : Int32)) + (8 : Int32)) + (2 : Int32)) + (1 : Int32)))]) rfl ?_
                show Steps p.tables e below (s₁.setTop (mkF m 80 #[.val (.int p0), .val (.int (((((((p0 - (1 : Int32)).toUInt32 >>> ((16 : Int32) &&& 31).toUInt32).toInt32).toUInt32 >>> ((8 : Int32) &&& 31).toUInt32).toInt32).toUInt32 >>> ((2 : Int32) &&& 31).toUInt32).toInt32)), .val (.int (((((0 : Int32) + (16 : Int32)) + (8 : Int32)) + (2 : Int32)) + (1 : Int32)))] [])) _
                refine XS.iloadN X0.here hx rfl (hb hby d5_80) rfl ?_
                show Steps p.tables e below (s₁.setTop (mkF m 81 #[.val (.int p0), .val (.int (((((((p0 - (1 : Int32)).toUInt32 >>> ((16 : Int32) &&& 31).toUInt32).toInt32).toUInt32 >>> ((8 : Int32) &&& 31).toUInt32).toInt32).toUInt32 >>> ((2 : Int32) &&& 31).toUInt32).toInt32)), .val (.int (((((0 : Int32) + (16 : Int32)) + (8 : Int32)) + (2 : Int32)) + (1 : Int32)))] [(.int (((((0 : Int32) + (16 : Int32)) + (8 : Int32)) + (2 : Int32)) + (1 : Int32)))])) _
                exact retI X0 hx Bd.returns (hb hby d5_81) hr
              · show Q5 Z p0 h0 n0 _ s₁.heap _
                rw [e0]
                exact ⟨by rw [f5, if_neg hc9_2, if_neg hc24_66, if_pos hc38_98, if_neg hc50_100, if_pos hc62_108, if_neg hc74_110], N0, rfl⟩
          · skip
            have G111 : ∀ t, Steps p.tables e below (s₁.setTop (mkF m 74 #[.val (.int p0), .val (.int (((((((((p0 - (1 : Int32)).toUInt32 >>> ((16 : Int32) &&& 31).toUInt32).toInt32).toUInt32 >>> ((8 : Int32) &&& 31).toUInt32).toInt32).toUInt32 >>> ((2 : Int32) &&& 31).toUInt32).toInt32).toUInt32 >>> ((1 : Int32) &&& 31).toUInt32).toInt32)), .val (.int (((((0 : Int32) + (16 : Int32)) + (8 : Int32)) + (2 : Int32)) + (1 : Int32)))] [(.int (1 : Int32)), (.int (((((((((p0 - (1 : Int32)).toUInt32 >>> ((16 : Int32) &&& 31).toUInt32).toInt32).toUInt32 >>> ((8 : Int32) &&& 31).toUInt32).toInt32).toUInt32 >>> ((2 : Int32) &&& 31).toUInt32).toInt32).toUInt32 >>> ((1 : Int32) &&& 31).toUInt32).toInt32))])) t → Steps p.tables e below (s₁.setTop (entryFrame m #[(.int p0)] 3)) t := by
              intro t kt
              refine G107 _ ?_
              show Steps p.tables e below (s₁.setTop (mkF m 62 #[.val (.int p0), .val (.int (((((((p0 - (1 : Int32)).toUInt32 >>> ((16 : Int32) &&& 31).toUInt32).toInt32).toUInt32 >>> ((8 : Int32) &&& 31).toUInt32).toInt32).toUInt32 >>> ((2 : Int32) &&& 31).toUInt32).toInt32)), .val (.int ((((0 : Int32) + (16 : Int32)) + (8 : Int32)) + (2 : Int32)))] [(.int (2 : Int32)), (.int (((((((p0 - (1 : Int32)).toUInt32 >>> ((16 : Int32) &&& 31).toUInt32).toInt32).toUInt32 >>> ((8 : Int32) &&& 31).toUInt32).toInt32).toUInt32 >>> ((2 : Int32) &&& 31).toUInt32).toInt32))])) _
              refine XS.icmpNo X0.here hx rfl (hb hby d5_62) rfl (flt hc62_108).1 ?_
              show Steps p.tables e below (s₁.setTop (mkF m 65 #[.val (.int p0), .val (.int (((((((p0 - (1 : Int32)).toUInt32 >>> ((16 : Int32) &&& 31).toUInt32).toInt32).toUInt32 >>> ((8 : Int32) &&& 31).toUInt32).toInt32).toUInt32 >>> ((2 : Int32) &&& 31).toUInt32).toInt32)), .val (.int ((((0 : Int32) + (16 : Int32)) + (8 : Int32)) + (2 : Int32)))] [])) _
              refine XS.iinc X0.here hx rfl (hb hby d5_65) rfl (l' := #[.val (.int p0), .val (.int (((((((p0 - (1 : Int32)).toUInt32 >>> ((16 : Int32) &&& 31).toUInt32).toInt32).toUInt32 >>> ((8 : Int32) &&& 31).toUInt32).toInt32).toUInt32 >>> ((2 : Int32) &&& 31).toUInt32).toInt32)), .val (.int (((((0 : Int32) + (16 : Int32)) + (8 : Int32)) + (2 : Int32)) + (1 : Int32)))]) rfl ?_
              show Steps p.tables e below (s₁.setTop (mkF m 68 #[.val (.int p0), .val (.int (((((((p0 - (1 : Int32)).toUInt32 >>> ((16 : Int32) &&& 31).toUInt32).toInt32).toUInt32 >>> ((8 : Int32) &&& 31).toUInt32).toInt32).toUInt32 >>> ((2 : Int32) &&& 31).toUInt32).toInt32)), .val (.int (((((0 : Int32) + (16 : Int32)) + (8 : Int32)) + (2 : Int32)) + (1 : Int32)))] [])) _
              refine XS.iloadN X0.here hx rfl (hb hby d5_68) rfl ?_
              show Steps p.tables e below (s₁.setTop (mkF m 69 #[.val (.int p0), .val (.int (((((((p0 - (1 : Int32)).toUInt32 >>> ((16 : Int32) &&& 31).toUInt32).toInt32).toUInt32 >>> ((8 : Int32) &&& 31).toUInt32).toInt32).toUInt32 >>> ((2 : Int32) &&& 31).toUInt32).toInt32)), .val (.int (((((0 : Int32) + (16 : Int32)) + (8 : Int32)) + (2 : Int32)) + (1 : Int32)))] [(.int (((((((p0 - (1 : Int32)).toUInt32 >>> ((16 : Int32) &&& 31).toUInt32).toInt32).toUInt32 >>> ((8 : Int32) &&& 31).toUInt32).toInt32).toUInt32 >>> ((2 : Int32) &&& 31).toUInt32).toInt32))])) _
              refine XS.iconst X0.here hx rfl (hb hby d5_69) ?_
              show Steps p.tables e below (s₁.setTop (mkF m 70 #[.val (.int p0), .val (.int (((((((p0 - (1 : Int32)).toUInt32 >>> ((16 : Int32) &&& 31).toUInt32).toInt32).toUInt32 >>> ((8 : Int32) &&& 31).toUInt32).toInt32).toUInt32 >>> ((2 : Int32) &&& 31).toUInt32).toInt32)), .val (.int (((((0 : Int32) + (16 : Int32)) + (8 : Int32)) + (2 : Int32)) + (1 : Int32)))] [(.int (1 : Int32)), (.int (((((((p0 - (1 : Int32)).toUInt32 >>> ((16 : Int32) &&& 31).toUInt32).toInt32).toUInt32 >>> ((8 : Int32) &&& 31).toUInt32).toInt32).toUInt32 >>> ((2 : Int32) &&& 31).toUInt32).toInt32))])) _
              refine XS.iushr X0.here hx rfl (hb hby d5_70) rfl ?_
              show Steps p.tables e below (s₁.setTop (mkF m 71 #[.val (.int p0), .val (.int (((((((p0 - (1 : Int32)).toUInt32 >>> ((16 : Int32) &&& 31).toUInt32).toInt32).toUInt32 >>> ((8 : Int32) &&& 31).toUInt32).toInt32).toUInt32 >>> ((2 : Int32) &&& 31).toUInt32).toInt32)), .val (.int (((((0 : Int32) + (16 : Int32)) + (8 : Int32)) + (2 : Int32)) + (1 : Int32)))] [(.int (((((((((p0 - (1 : Int32)).toUInt32 >>> ((16 : Int32) &&& 31).toUInt32).toInt32).toUInt32 >>> ((8 : Int32) &&& 31).toUInt32).toInt32).toUInt32 >>> ((2 : Int32) &&& 31).toUInt32).toInt32).toUInt32 >>> ((1 : Int32) &&& 31).toUInt32).toInt32))])) _
              refine XS.istoreN X0.here hx rfl (hb hby d5_71) rfl (l' := #[.val (.int p0), .val (.int (((((((((p0 - (1 : Int32)).toUInt32 >>> ((16 : Int32) &&& 31).toUInt32).toInt32).toUInt32 >>> ((8 : Int32) &&& 31).toUInt32).toInt32).toUInt32 >>> ((2 : Int32) &&& 31).toUInt32).toInt32).toUInt32 >>> ((1 : Int32) &&& 31).toUInt32).toInt32)), .val (.int (((((0 : Int32) + (16 : Int32)) + (8 : Int32)) + (2 : Int32)) + (1 : Int32)))]) rfl ?_
              show Steps p.tables e below (s₁.setTop (mkF m 72 #[.val (.int p0), .val (.int (((((((((p0 - (1 : Int32)).toUInt32 >>> ((16 : Int32) &&& 31).toUInt32).toInt32).toUInt32 >>> ((8 : Int32) &&& 31).toUInt32).toInt32).toUInt32 >>> ((2 : Int32) &&& 31).toUInt32).toInt32).toUInt32 >>> ((1 : Int32) &&& 31).toUInt32).toInt32)), .val (.int (((((0 : Int32) + (16 : Int32)) + (8 : Int32)) + (2 : Int32)) + (1 : Int32)))] [])) _
              refine XS.iloadN X0.here hx rfl (hb hby d5_72) rfl ?_
              show Steps p.tables e below (s₁.setTop (mkF m 73 #[.val (.int p0), .val (.int (((((((((p0 - (1 : Int32)).toUInt32 >>> ((16 : Int32) &&& 31).toUInt32).toInt32).toUInt32 >>> ((8 : Int32) &&& 31).toUInt32).toInt32).toUInt32 >>> ((2 : Int32) &&& 31).toUInt32).toInt32).toUInt32 >>> ((1 : Int32) &&& 31).toUInt32).toInt32)), .val (.int (((((0 : Int32) + (16 : Int32)) + (8 : Int32)) + (2 : Int32)) + (1 : Int32)))] [(.int (((((((((p0 - (1 : Int32)).toUInt32 >>> ((16 : Int32) &&& 31).toUInt32).toInt32).toUInt32 >>> ((8 : Int32) &&& 31).toUInt32).toInt32).toUInt32 >>> ((2 : Int32) &&& 31).toUInt32).toInt32).toUInt32 >>> ((1 : Int32) &&& 31).toUInt32).toInt32))])) _
              refine XS.iconst X0.here hx rfl (hb hby d5_73) ?_
              exact kt
            by_cases hc74_112 : (((((((((p0 - (1 : Int32)).toUInt32 >>> ((16 : Int32) &&& 31).toUInt32).toInt32).toUInt32 >>> ((8 : Int32) &&& 31).toUInt32).toInt32).toUInt32 >>> ((2 : Int32) &&& 31).toUInt32).toInt32).toUInt32 >>> ((1 : Int32) &&& 31).toUInt32).toInt32) < (1 : Int32)
            · skip
              obtain ⟨fs, hr, hrun, hended, hW, hsame⟩ := X0.leave (v := some (.int (((((0 : Int32) + (16 : Int32)) + (8 : Int32)) + (2 : Int32)) + (1 : Int32)))) (fun h => by rw [Bd.returns] at h; cases h)
              refine ⟨_, _, G111 _ ?_, hrun, hended, _, _, rfl, ?_, ⟨_, rfl⟩, hW, hsame.mono (by decide) (by decide)⟩
              · skip
                show Steps p.tables e below (s₁.setTop (mkF m 74 #[.val (.int p0), .val (.int (((((((((p0 - (1 : Int32)).toUInt32 >>> ((16 : Int32) &&& 31).toUInt32).toInt32).toUInt32 >>> ((8 : Int32) &&& 31).toUInt32).toInt32).toUInt32 >>> ((2 : Int32) &&& 31).toUInt32).toInt32).toUInt32 >>> ((1 : Int32) &&& 31).toUInt32).toInt32)), .val (.int (((((0 : Int32) + (16 : Int32)) + (8 : Int32)) + (2 : Int32)) + (1 : Int32)))] [(.int (1 : Int32)), (.int (((((((((p0 - (1 : Int32)).toUInt32 >>> ((16 : Int32) &&& 31).toUInt32).toInt32).toUInt32 >>> ((8 : Int32) &&& 31).toUInt32).toInt32).toUInt32 >>> ((2 : Int32) &&& 31).toUInt32).toInt32).toUInt32 >>> ((1 : Int32) &&& 31).toUInt32).toInt32))])) _
                refine XS.icmpYes X0.here hx rfl (pc0 := 74) (pc' := 80) rfl (hb hby d5_74) rfl (tlt hc74_112).1 (by decide) (by decide) ?_
                show Steps p.tables e below (s₁.setTop (mkF m 80 #[.val (.int p0), .val (.int (((((((((p0 - (1 : Int32)).toUInt32 >>> ((16 : Int32) &&& 31).toUInt32).toInt32).toUInt32 >>> ((8 : Int32) &&& 31).toUInt32).toInt32).toUInt32 >>> ((2 : Int32) &&& 31).toUInt32).toInt32).toUInt32 >>> ((1 : Int32) &&& 31).toUInt32).toInt32)), .val (.int (((((0 : Int32) + (16 : Int32)) + (8 : Int32)) + (2 : Int32)) + (1 : Int32)))] [])) _
                refine XS.iloadN X0.here hx rfl (hb hby d5_80) rfl ?_
                show Steps p.tables e below (s₁.setTop (mkF m 81 #[.val (.int p0), .val (.int (((((((((p0 - (1 : Int32)).toUInt32 >>> ((16 : Int32) &&& 31).toUInt32).toInt32).toUInt32 >>> ((8 : Int32) &&& 31).toUInt32).toInt32).toUInt32 >>> ((2 : Int32) &&& 31).toUInt32).toInt32).toUInt32 >>> ((1 : Int32) &&& 31).toUInt32).toInt32)), .val (.int (((((0 : Int32) + (16 : Int32)) + (8 : Int32)) + (2 : Int32)) + (1 : Int32)))] [(.int (((((0 : Int32) + (16 : Int32)) + (8 : Int32)) + (2 : Int32)) + (1 : Int32)))])) _
                exact retI X0 hx Bd.returns (hb hby d5_81) hr
              · show Q5 Z p0 h0 n0 _ s₁.heap _
                rw [e0]
                exact ⟨by rw [f5, if_neg hc9_2, if_neg hc24_66, if_pos hc38_98, if_neg hc50_100, if_neg hc62_108, if_pos hc74_112], N0, rfl⟩
            · skip
              obtain ⟨fs, hr, hrun, hended, hW, hsame⟩ := X0.leave (v := some (.int ((((((0 : Int32) + (16 : Int32)) + (8 : Int32)) + (2 : Int32)) + (1 : Int32)) + (1 : Int32)))) (fun h => by rw [Bd.returns] at h; cases h)
              refine ⟨_, _, G111 _ ?_, hrun, hended, _, _, rfl, ?_, ⟨_, rfl⟩, hW, hsame.mono (by decide) (by decide)⟩
              · skip
                show Steps p.tables e below (s₁.setTop (mkF m 74 #[.val (.int p0), .val (.int (((((((((p0 - (1 : Int32)).toUInt32 >>> ((16 : Int32) &&& 31).toUInt32).toInt32).toUInt32 >>> ((8 : Int32) &&& 31).toUInt32).toInt32).toUInt32 >>> ((2 : Int32) &&& 31).toUInt32).toInt32).toUInt32 >>> ((1 : Int32) &&& 31).toUInt32).toInt32)), .val (.int (((((0 : Int32) + (16 : Int32)) + (8 : Int32)) + (2 : Int32)) + (1 : Int32)))] [(.int (1 : Int32)), (.int (((((((((p0 - (1 : Int32)).toUInt32 >>> ((16 : Int32) &&& 31).toUInt32).toInt32).toUInt32 >>> ((8 : Int32) &&& 31).toUInt32).toInt32).toUInt32 >>> ((2 : Int32) &&& 31).toUInt32).toInt32).toUInt32 >>> ((1 : Int32) &&& 31).toUInt32).toInt32))])) _
                refine XS.icmpNo X0.here hx rfl (hb hby d5_74) rfl (flt hc74_112).1 ?_
                show Steps p.tables e below (s₁.setTop (mkF m 77 #[.val (.int p0), .val (.int (((((((((p0 - (1 : Int32)).toUInt32 >>> ((16 : Int32) &&& 31).toUInt32).toInt32).toUInt32 >>> ((8 : Int32) &&& 31).toUInt32).toInt32).toUInt32 >>> ((2 : Int32) &&& 31).toUInt32).toInt32).toUInt32 >>> ((1 : Int32) &&& 31).toUInt32).toInt32)), .val (.int (((((0 : Int32) + (16 : Int32)) + (8 : Int32)) + (2 : Int32)) + (1 : Int32)))] [])) _
                refine XS.iinc X0.here hx rfl (hb hby d5_77) rfl (l' := #[.val (.int p0), .val (.int (((((((((p0 - (1 : Int32)).toUInt32 >>> ((16 : Int32) &&& 31).toUInt32).toInt32).toUInt32 >>> ((8 : Int32) &&& 31).toUInt32).toInt32).toUInt32 >>> ((2 : Int32) &&& 31).toUInt32).toInt32).toUInt32 >>> ((1 : Int32) &&& 31).toUInt32).toInt32)), .val (.int ((((((0 : Int32) + (16 : Int32)) + (8 : Int32)) + (2 : Int32)) + (1 : Int32)) + (1 : Int32)))]) rfl ?_
                show Steps p.tables e below (s₁.setTop (mkF m 80 #[.val (.int p0), .val (.int (((((((((p0 - (1 : Int32)).toUInt32 >>> ((16 : Int32) &&& 31).toUInt32).toInt32).toUInt32 >>> ((8 : Int32) &&& 31).toUInt32).toInt32).toUInt32 >>> ((2 : Int32) &&& 31).toUInt32).toInt32).toUInt32 >>> ((1 : Int32) &&& 31).toUInt32).toInt32)), .val (.int ((((((0 : Int32) + (16 : Int32)) + (8 : Int32)) + (2 : Int32)) + (1 : Int32)) + (1 : Int32)))] [])) _
                refine XS.iloadN X0.here hx rfl (hb hby d5_80) rfl ?_
                show Steps p.tables e below (s₁.setTop (mkF m 81 #[.val (.int p0), .val (.int (((((((((p0 - (1 : Int32)).toUInt32 >>> ((16 : Int32) &&& 31).toUInt32).toInt32).toUInt32 >>> ((8 : Int32) &&& 31).toUInt32).toInt32).toUInt32 >>> ((2 : Int32) &&& 31).toUInt32).toInt32).toUInt32 >>> ((1 : Int32) &&& 31).toUInt32).toInt32)), .val (.int ((((((0 : Int32) + (16 : Int32)) + (8 : Int32)) + (2 : Int32)) + (1 : Int32)) + (1 : Int32)))] [(.int ((((((0 : Int32) + (16 : Int32)) + (8 : Int32)) + (2 : Int32)) + (1 : Int32)) + (1 : Int32)))])) _
                exact retI X0 hx Bd.returns (hb hby d5_81) hr
              · show Q5 Z p0 h0 n0 _ s₁.heap _
                rw [e0]
                exact ⟨by rw [f5, if_neg hc9_2, if_neg hc24_66, if_pos hc38_98, if_neg hc50_100, if_neg hc62_108, if_neg hc74_112], N0, rfl⟩
      · skip
        have G113 : ∀ t, Steps p.tables e below (s₁.setTop (mkF m 50 #[.val (.int p0), .val (.int (((((((p0 - (1 : Int32)).toUInt32 >>> ((16 : Int32) &&& 31).toUInt32).toInt32).toUInt32 >>> ((8 : Int32) &&& 31).toUInt32).toInt32).toUInt32 >>> ((4 : Int32) &&& 31).toUInt32).toInt32)), .val (.int ((((0 : Int32) + (16 : Int32)) + (8 : Int32)) + (4 : Int32)))] [(.int (4 : Int32)), (.int (((((((p0 - (1 : Int32)).toUInt32 >>> ((16 : Int32) &&& 31).toUInt32).toInt32).toUInt32 >>> ((8 : Int32) &&& 31).toUInt32).toInt32).toUInt32 >>> ((4 : Int32) &&& 31).toUInt32).toInt32))])) t → Steps p.tables e below (s₁.setTop (entryFrame m #[(.int p0)] 3)) t := by
          intro t kt
          refine G97 _ ?_
          show Steps p.tables e below (s₁.setTop (mkF m 38 #[.val (.int p0), .val (.int (((((p0 - (1 : Int32)).toUInt32 >>> ((16 : Int32) &&& 31).toUInt32).toInt32).toUInt32 >>> ((8 : Int32) &&& 31).toUInt32).toInt32)), .val (.int (((0 : Int32) + (16 : Int32)) + (8 : Int32)))] [(.int (16 : Int32)), (.int (((((p0 - (1 : Int32)).toUInt32 >>> ((16 : Int32) &&& 31).toUInt32).toInt32).toUInt32 >>> ((8 : Int32) &&& 31).toUInt32).toInt32))])) _
          refine XS.icmpNo X0.here hx rfl (hb hby d5_38) rfl (flt hc38_98).1 ?_
          show Steps p.tables e below (s₁.setTop (mkF m 41 #[.val (.int p0), .val (.int (((((p0 - (1 : Int32)).toUInt32 >>> ((16 : Int32) &&& 31).toUInt32).toInt32).toUInt32 >>> ((8 : Int32) &&& 31).toUInt32).toInt32)), .val (.int (((0 : Int32) + (16 : Int32)) + (8 : Int32)))] [])) _
          refine XS.iinc X0.here hx rfl (hb hby d5_41) rfl (l' := #[.val (.int p0), .val (.int (((((p0 - (1 : Int32)).toUInt32 >>> ((16 : Int32) &&& 31).toUInt32).toInt32).toUInt32 >>> ((8 : Int32) &&& 31).toUInt32).toInt32)), .val (.int ((((0 : Int32) + (16 : Int32)) + (8 : Int32)) + (4 : Int32)))]) rfl ?_
          show Steps p.tables e below (s₁.setTop (mkF m 44 #[.val (.int p0), .val (.int (((((p0 - (1 : Int32)).toUInt32 >>> ((16 : Int32) &&& 31).toUInt32).toInt32).toUInt32 >>> ((8 : Int32) &&& 31).toUInt32).toInt32)), .val (.int ((((0 : Int32) + (16 : Int32)) + (8 : Int32)) + (4 : Int32)))] [])) _
          refine XS.iloadN X0.here hx rfl (hb hby d5_44) rfl ?_
          show Steps p.tables e below (s₁.setTop (mkF m 45 #[.val (.int p0), .val (.int (((((p0 - (1 : Int32)).toUInt32 >>> ((16 : Int32) &&& 31).toUInt32).toInt32).toUInt32 >>> ((8 : Int32) &&& 31).toUInt32).toInt32)), .val (.int ((((0 : Int32) + (16 : Int32)) + (8 : Int32)) + (4 : Int32)))] [(.int (((((p0 - (1 : Int32)).toUInt32 >>> ((16 : Int32) &&& 31).toUInt32).toInt32).toUInt32 >>> ((8 : Int32) &&& 31).toUInt32).toInt32))])) _
          refine XS.iconst X0.here hx rfl (hb hby d5_45) ?_
          show Steps p.tables e below (s₁.setTop (mkF m 46 #[.val (.int p0), .val (.int (((((p0 - (1 : Int32)).toUInt32 >>> ((16 : Int32) &&& 31).toUInt32).toInt32).toUInt32 >>> ((8 : Int32) &&& 31).toUInt32).toInt32)), .val (.int ((((0 : Int32) + (16 : Int32)) + (8 : Int32)) + (4 : Int32)))] [(.int (4 : Int32)), (.int (((((p0 - (1 : Int32)).toUInt32 >>> ((16 : Int32) &&& 31).toUInt32).toInt32).toUInt32 >>> ((8 : Int32) &&& 31).toUInt32).toInt32))])) _
          refine XS.iushr X0.here hx rfl (hb hby d5_46) rfl ?_
          show Steps p.tables e below (s₁.setTop (mkF m 47 #[.val (.int p0), .val (.int (((((p0 - (1 : Int32)).toUInt32 >>> ((16 : Int32) &&& 31).toUInt32).toInt32).toUInt32 >>> ((8 : Int32) &&& 31).toUInt32).toInt32)), .val (.int ((((0 : Int32) + (16 : Int32)) + (8 : Int32)) + (4 : Int32)))] [(.int (((((((p0 - (1 : Int32)).toUInt32 >>> ((16 : Int32) &&& 31).toUInt32).toInt32).toUInt32 >>> ((8 : Int32) &&& 31).toUInt32).toInt32).toUInt32 >>> ((4 : Int32) &&& 31).toUInt32).toInt32))])) _
          refine XS.istoreN X0.here hx rfl (hb hby d5_47) rfl (l' := #[.val (.int p0), .val (.int (((((((p0 - (1 : Int32)).toUInt32 >>> ((16 : Int32) &&& 31).toUInt32).toInt32).toUInt32 >>> ((8 : Int32) &&& 31).toUInt32).toInt32).toUInt32 >>> ((4 : Int32) &&& 31).toUInt32).toInt32)), .val (.int ((((0 : Int32) + (16 : Int32)) + (8 : Int32)) + (4 : Int32)))]) rfl ?_
          show Steps p.tables e below (s₁.setTop (mkF m 48 #[.val (.int p0), .val (.int (((((((p0 - (1 : Int32)).toUInt32 >>> ((16 : Int32) &&& 31).toUInt32).toInt32).toUInt32 >>> ((8 : Int32) &&& 31).toUInt32).toInt32).toUInt32 >>> ((4 : Int32) &&& 31).toUInt32).toInt32)), .val (.int ((((0 : Int32) + (16 : Int32)) + (8 : Int32)) + (4 : Int32)))] [])) _
          refine XS.iloadN X0.here hx rfl (hb hby d5_48) rfl ?_
          show Steps p.tables e below (s₁.setTop (mkF m 49 #[.val (.int p0), .val (.int (((((((p0 - (1 : Int32)).toUInt32 >>> ((16 : Int32) &&& 31).toUInt32).toInt32).toUInt32 >>> ((8 : Int32) &&& 31).toUInt32).toInt32).toUInt32 >>> ((4 : Int32) &&& 31).toUInt32).toInt32)), .val (.int ((((0 : Int32) + (16 : Int32)) + (8 : Int32)) + (4 : Int32)))] [(.int (((((((p0 - (1 : Int32)).toUInt32 >>> ((16 : Int32) &&& 31).toUInt32).toInt32).toUInt32 >>> ((8 : Int32) &&& 31).toUInt32).toInt32).toUInt32 >>> ((4 : Int32) &&& 31).toUInt32).toInt32))])) _
          refine XS.iconst X0.here hx rfl (hb hby d5_49) ?_
          exact kt
        by_cases hc50_114 : (((((((p0 - (1 : Int32)).toUInt32 >>> ((16 : Int32) &&& 31).toUInt32).toInt32).toUInt32 >>> ((8 : Int32) &&& 31).toUInt32).toInt32).toUInt32 >>> ((4 : Int32) &&& 31).toUInt32).toInt32) < (4 : Int32)
        · skip
          have G115 : ∀ t, Steps p.tables e below (s₁.setTop (mkF m 62 #[.val (.int p0), .val (.int (((((((p0 - (1 : Int32)).toUInt32 >>> ((16 : Int32) &&& 31).toUInt32).toInt32).toUInt32 >>> ((8 : Int32) &&& 31).toUInt32).toInt32).toUInt32 >>> ((4 : Int32) &&& 31).toUInt32).toInt32)), .val (.int ((((0 : Int32) + (16 : Int32)) + (8 : Int32)) + (4 : Int32)))] [(.int (2 : Int32)), (.int (((((((p0 - (1 : Int32)).toUInt32 >>> ((16 : Int32) &&& 31).toUInt32).toInt32).toUInt32 >>> ((8 : Int32) &&& 31).toUInt32).toInt32).toUInt32 >>> ((4 : Int32) &&& 31).toUInt32).toInt32))])) t → Steps p.tables e below (s₁.setTop (entryFrame m #[(.int p0)] 3)) t := by
            intro t kt
            refine G113 _ ?_
            show Steps p.tables e below (s₁.setTop (mkF m 50 #[.val (.int p0), .val (.int (((((((p0 - (1 : Int32)).toUInt32 >>> ((16 : Int32) &&& 31).toUInt32).toInt32).toUInt32 >>> ((8 : Int32) &&& 31).toUInt32).toInt32).toUInt32 >>> ((4 : Int32) &&& 31).toUInt32).toInt32)), .val (.int ((((0 : Int32) + (16 : Int32)) + (8 : Int32)) + (4 : Int32)))] [(.int (4 : Int32)), (.int (((((((p0 - (1 : Int32)).toUInt32 >>> ((16 : Int32) &&& 31).toUInt32).toInt32).toUInt32 >>> ((8 : Int32) &&& 31).toUInt32).toInt32).toUInt32 >>> ((4 : Int32) &&& 31).toUInt32).toInt32))])) _
            refine XS.icmpYes X0.here hx rfl (pc0 := 50) (pc' := 60) rfl (hb hby d5_50) rfl (tlt hc50_114).1 (by decide) (by decide) ?_
            show Steps p.tables e below (s₁.setTop (mkF m 60 #[.val (.int p0), .val (.int (((((((p0 - (1 : Int32)).toUInt32 >>> ((16 : Int32) &&& 31).toUInt32).toInt32).toUInt32 >>> ((8 : Int32) &&& 31).toUInt32).toInt32).toUInt32 >>> ((4 : Int32) &&& 31).toUInt32).toInt32)), .val (.int ((((0 : Int32) + (16 : Int32)) + (8 : Int32)) + (4 : Int32)))] [])) _
            refine XS.iloadN X0.here hx rfl (hb hby d5_60) rfl ?_
            show Steps p.tables e below (s₁.setTop (mkF m 61 #[.val (.int p0), .val (.int (((((((p0 - (1 : Int32)).toUInt32 >>> ((16 : Int32) &&& 31).toUInt32).toInt32).toUInt32 >>> ((8 : Int32) &&& 31).toUInt32).toInt32).toUInt32 >>> ((4 : Int32) &&& 31).toUInt32).toInt32)), .val (.int ((((0 : Int32) + (16 : Int32)) + (8 : Int32)) + (4 : Int32)))] [(.int (((((((p0 - (1 : Int32)).toUInt32 >>> ((16 : Int32) &&& 31).toUInt32).toInt32).toUInt32 >>> ((8 : Int32) &&& 31).toUInt32).toInt32).toUInt32 >>> ((4 : Int32) &&& 31).toUInt32).toInt32))])) _
            refine XS.iconst X0.here hx rfl (hb hby d5_61) ?_
            exact kt
          by_cases hc62_116 : (((((((p0 - (1 : Int32)).toUInt32 >>> ((16 : Int32) &&& 31).toUInt32).toInt32).toUInt32 >>> ((8 : Int32) &&& 31).toUInt32).toInt32).toUInt32 >>> ((4 : Int32) &&& 31).toUInt32).toInt32) < (2 : Int32)
          · skip
            have G117 : ∀ t, Steps p.tables e below (s₁.setTop (mkF m 74 #[.val (.int p0), .val (.int (((((((p0 - (1 : Int32)).toUInt32 >>> ((16 : Int32) &&& 31).toUInt32).toInt32).toUInt32 >>> ((8 : Int32) &&& 31).toUInt32).toInt32).toUInt32 >>> ((4 : Int32) &&& 31).toUInt32).toInt32)), .val (.int ((((0 : Int32) + (16 : Int32)) + (8 : Int32)) + (4 : Int32)))] [(.int (1 : Int32)), (.int (((((((p0 - (1 : Int32)).toUInt32 >>> ((16 : Int32) &&& 31).toUInt32).toInt32).toUInt32 >>> ((8 : Int32) &&& 31).toUInt32).toInt32).toUInt32 >>> ((4 : Int32) &&& 31).toUInt32).toInt32))])) t → Steps p.tables e below (s₁.setTop (entryFrame m #[(.int p0)] 3)) t := by
              intro t kt
              refine G115 _ ?_
              show Steps p.tables e below (s₁.setTop (mkF m 62 #[.val (.int p0), .val (.int (((((((p0 - (1 : Int32)).toUInt32 >>> ((16 : Int32) &&& 31).toUInt32).toInt32).toUInt32 >>> ((8 : Int32) &&& 31).toUInt32).toInt32).toUInt32 >>> ((4 : Int32) &&& 31).toUInt32).toInt32)), .val (.int ((((0 : Int32) + (16 : Int32)) + (8 : Int32)) + (4 : Int32)))] [(.int (2 : Int32)), (.int (((((((p0 - (1 : Int32)).toUInt32 >>> ((16 : Int32) &&& 31).toUInt32).toInt32).toUInt32 >>> ((8 : Int32) &&& 31).toUInt32).toInt32).toUInt32 >>> ((4 : Int32) &&& 31).toUInt32).toInt32))])) _
              refine XS.icmpYes X0.here hx rfl (pc0 := 62) (pc' := 72) rfl (hb hby d5_62) rfl (tlt hc62_116).1 (by decide) (by decide) ?_
              show Steps p.tables e below (s₁.setTop (mkF m 72 #[.val (.int p0), .val (.int (((((((p0 - (1 : Int32)).toUInt32 >>> ((16 : Int32) &&& 31).toUInt32).toInt32).toUInt32 >>> ((8 : Int32) &&& 31).toUInt32).toInt32).toUInt32 >>> ((4 : Int32) &&& 31).toUInt32).toInt32)), .val (.int ((((0 : Int32) + (16 : Int32)) + (8 : Int32)) + (4 : Int32)))] [])) _
              refine XS.iloadN X0.here hx rfl (hb hby d5_72) rfl ?_
              show Steps p.tables e below (s₁.setTop (mkF m 73 #[.val (.int p0), .val (.int (((((((p0 - (1 : Int32)).toUInt32 >>> ((16 : Int32) &&& 31).toUInt32).toInt32).toUInt32 >>> ((8 : Int32) &&& 31).toUInt32).toInt32).toUInt32 >>> ((4 : Int32) &&& 31).toUInt32).toInt32)), .val (.int ((((0 : Int32) + (16 : Int32)) + (8 : Int32)) + (4 : Int32)))] [(.int (((((((p0 - (1 : Int32)).toUInt32 >>> ((16 : Int32) &&& 31).toUInt32).toInt32).toUInt32 >>> ((8 : Int32) &&& 31).toUInt32).toInt32).toUInt32 >>> ((4 : Int32) &&& 31).toUInt32).toInt32))])) _
              refine XS.iconst X0.here hx rfl (hb hby d5_73) ?_
              exact kt
            by_cases hc74_118 : (((((((p0 - (1 : Int32)).toUInt32 >>> ((16 : Int32) &&& 31).toUInt32).toInt32).toUInt32 >>> ((8 : Int32) &&& 31).toUInt32).toInt32).toUInt32 >>> ((4 : Int32) &&& 31).toUInt32).toInt32) < (1 : Int32)
            · skip
              obtain ⟨fs, hr, hrun, hended, hW, hsame⟩ := X0.leave (v := some (.int ((((0 : Int32) + (16 : Int32)) + (8 : Int32)) + (4 : Int32)))) (fun h => by rw [Bd.returns] at h; cases h)
              refine ⟨_, _, G117 _ ?_, hrun, hended, _, _, rfl, ?_, ⟨_, rfl⟩, hW, hsame.mono (by decide) (by decide)⟩
              · skip
                show Steps p.tables e below (s₁.setTop (mkF m 74 #[.val (.int p0), .val (.int (((((((p0 - (1 : Int32)).toUInt32 >>> ((16 : Int32) &&& 31).toUInt32).toInt32).toUInt32 >>> ((8 : Int32) &&& 31).toUInt32).toInt32).toUInt32 >>> ((4 : Int32) &&& 31).toUInt32).toInt32)), .val (.int ((((0 : Int32) + (16 : Int32)) + (8 : Int32)) + (4 : Int32)))] [(.int (1 : Int32)), (.int (((((((p0 - (1 : Int32)).toUInt32 >>> ((16 : Int32) &&& 31).toUInt32).toInt32).toUInt32 >>> ((8 : Int32) &&& 31).toUInt32).toInt32).toUInt32 >>> ((4 : Int32) &&& 31).toUInt32).toInt32))])) _
                refine XS.icmpYes X0.here hx rfl (pc0 := 74) (pc' := 80) rfl (hb hby d5_74) rfl (tlt hc74_118).1 (by decide) (by decide) ?_
                show Steps p.tables e below (s₁.setTop (mkF m 80 #[.val (.int p0), .val (.int (((((((p0 - (1 : Int32)).toUInt32 >>> ((16 : Int32) &&& 31).toUInt32).toInt32).toUInt32 >>> ((8 : Int32) &&& 31).toUInt32).toInt32).toUInt32 >>> ((4 : Int32) &&& 31).toUInt32).toInt32)), .val (.int ((((0 : Int32) + (16 : Int32)) + (8 : Int32)) + (4 : Int32)))] [])) _
                refine XS.iloadN X0.here hx rfl (hb hby d5_80) rfl ?_
                show Steps p.tables e below (s₁.setTop (mkF m 81 #[.val (.int p0), .val (.int (((((((p0 - (1 : Int32)).toUInt32 >>> ((16 : Int32) &&& 31).toUInt32).toInt32).toUInt32 >>> ((8 : Int32) &&& 31).toUInt32).toInt32).toUInt32 >>> ((4 : Int32) &&& 31).toUInt32).toInt32)), .val (.int ((((0 : Int32) + (16 : Int32)) + (8 : Int32)) + (4 : Int32)))] [(.int ((((0 : Int32) + (16 : Int32)) + (8 : Int32)) + (4 : Int32)))])) _
                exact retI X0 hx Bd.returns (hb hby d5_81) hr
              · show Q5 Z p0 h0 n0 _ s₁.heap _
                rw [e0]
                exact ⟨by rw [f5, if_neg hc9_2, if_neg hc24_66, if_neg hc38_98, if_pos hc50_114, if_pos hc62_116, if_pos hc74_118], N0, rfl⟩
            · skip
              obtain ⟨fs, hr, hrun, hended, hW, hsame⟩ := X0.leave (v := some (.int (((((0 : Int32) + (16 : Int32)) + (8 : Int32)) + (4 : Int32)) + (1 : Int32)))) (fun h => by rw [Bd.returns] at h; cases h)
              refine ⟨_, _, G117 _ ?_, hrun, hended, _, _, rfl, ?_, ⟨_, rfl⟩, hW, hsame.mono (by decide) (by decide)⟩
              · skip
                show Steps p.tables e below (s₁.setTop (mkF m 74 #[.val (.int p0), .val (.int (((((((p0 - (1 : Int32)).toUInt32 >>> ((16 : Int32) &&& 31).toUInt32).toInt32).toUInt32 >>> ((8 : Int32) &&& 31).toUInt32).toInt32).toUInt32 >>> ((4 : Int32) &&& 31).toUInt32).toInt32)), .val (.int ((((0 : Int32) + (16 : Int32)) + (8 : Int32)) + (4 : Int32)))] [(.int (1 : Int32)), (.int (((((((p0 - (1 : Int32)).toUInt32 >>> ((16 : Int32) &&& 31).toUInt32).toInt32).toUInt32 >>> ((8 : Int32) &&& 31).toUInt32).toInt32).toUInt32 >>> ((4 : Int32) &&& 31).toUInt32).toInt32))])) _
                refine XS.icmpNo X0.here hx rfl (hb hby d5_74) rfl (flt hc74_118).1 ?_
                show Steps p.tables e below (s₁.setTop (mkF m 77 #[.val (.int p0), .val (.int (((((((p0 - (1 : Int32)).toUInt32 >>> ((16 : Int32) &&& 31).toUInt32).toInt32).toUInt32 >>> ((8 : Int32) &&& 31).toUInt32).toInt32).toUInt32 >>> ((4 : Int32) &&& 31).toUInt32).toInt32)), .val (.int ((((0 : Int32) + (16 : Int32)) + (8 : Int32)) + (4 : Int32)))] [])) _
                refine XS.iinc X0.here hx rfl (hb hby d5_77) rfl (l' := #[.val (.int p0), .val (.int (((((((p0 - (1 : Int32)).toUInt32 >>> ((16 : Int32) &&& 31).toUInt32).toInt32).toUInt32 >>> ((8 : Int32) &&& 31).toUInt32).toInt32).toUInt32 >>> ((4 : Int32) &&& 31).toUInt32).toInt32)), .val (.int (((((0 : Int32) + (16 : Int32)) + (8 : Int32)) + (4 : Int32)) + (1 : Int32)))]) rfl ?_
                show Steps p.tables e below (s₁.setTop (mkF m 80 #[.val (.int p0), .val (.int (((((((p0 - (1 : Int32)).toUInt32 >>> ((16 : Int32) &&& 31).toUInt32).toInt32).toUInt32 >>> ((8 : Int32) &&& 31).toUInt32).toInt32).toUInt32 >>> ((4 : Int32) &&& 31).toUInt32).toInt32)), .val (.int (((((0 : Int32) + (16 : Int32)) + (8 : Int32)) + (4 : Int32)) + (1 : Int32)))] [])) _
                refine XS.iloadN X0.here hx rfl (hb hby d5_80) rfl ?_
                show Steps p.tables e below (s₁.setTop (mkF m 81 #[.val (.int p0), .val (.int (((((((p0 - (1 : Int32)).toUInt32 >>> ((16 : Int32) &&& 31).toUInt32).toInt32).toUInt32 >>> ((8 : Int32) &&& 31).toUInt32).toInt32).toUInt32 >>> ((4 : Int32) &&& 31).toUInt32).toInt32)), .val (.int (((((0 : Int32) + (16 : Int32)) + (8 : Int32)) + (4 : Int32)) + (1 : Int32)))] [(.int (((((0 : Int32) + (16 : Int32)) + (8 : Int32)) + (4 : Int32)) + (1 : Int32)))])) _
                exact retI X0 hx Bd.returns (hb hby d5_81) hr
              · show Q5 Z p0 h0 n0 _ s₁.heap _
                rw [e0]
                exact ⟨by rw [f5, if_neg hc9_2, if_neg hc24_66, if_neg hc38_98, if_pos hc50_114, if_pos hc62_116, if_neg hc74_118], N0, rfl⟩
          · skip
            have G119 : ∀ t, Steps p.tables e below (s₁.setTop (mkF m 74 #[.val (.int p0), .val (.int (((((((((p0 - (1 : Int32)).toUInt32 >>> ((16 : Int32) &&& 31).toUInt32).toInt32).toUInt32 >>> ((8 : Int32) &&& 31).toUInt32).toInt32).toUInt32 >>> ((4 : Int32) &&& 31).toUInt32).toInt32).toUInt32 >>> ((1 : Int32) &&& 31).toUInt32).toInt32)), .val (.int (((((0 : Int32) + (16 : Int32)) + (8 : Int32)) + (4 : Int32)) + (1 : Int32)))] [(.int (1 : Int32)), (.int (((((((((p0 - (1 : Int32)).toUInt32 >>> ((16 : Int32) &&& 31).toUInt32).toInt32).toUInt32 >>> ((8 : Int32) &&& 31).toUInt32).toInt32).toUInt32 >>> ((4 : Int32) &&& 31).toUInt32).toInt32).toUInt32 >>> ((1 : Int32) &&& 31).toUInt32).toInt32))])) t → Steps p.tables e below (s₁.setTop (entryFrame m #[(.int p0)] 3)) t := by
              intro t kt
              refine G115 _ ?_
              show Steps p.tables e below (s₁.setTop (mkF m 62 #[.val (.int p0), .val (.int (((((((p0 - (1 : Int32)).toUInt32 >>> ((16 : Int32) &&& 31).toUInt32).toInt32).toUInt32 >>> ((8 : Int32) &&& 31).toUInt32).toInt32).toUInt32 >>> ((4 : Int32) &&& 31).toUInt32).toInt32)), .val (.int ((((0 : Int32) + (16 : Int32)) + (8 : Int32)) + (4 : Int32)))] [(.int (2 : Int32)), (.int (((((((p0 - (1 : Int32)).toUInt32 >>> ((16 : Int32) &&& 31).toUInt32).toInt32).toUInt32 >>> ((8 : Int32) &&& 31).toUInt32).toInt32).toUInt32 >>> ((4 : Int32) &&& 31).toUInt32).toInt32))])) _
              refine XS.icmpNo X0.here hx rfl (hb hby d5_62) rfl (flt hc62_116).1 ?_
              show Steps p.tables e below (s₁.setTop (mkF m 65 #[.val (.int p0), .val (.int (((((((p0 - (1 : Int32)).toUInt32 >>> ((16 : Int32) &&& 31).toUInt32).toInt32).toUInt32 >>> ((8 : Int32) &&& 31).toUInt32).toInt32).toUInt32 >>> ((4 : Int32) &&& 31).toUInt32).toInt32)), .val (.int ((((0 : Int32) + (16 : Int32)) + (8 : Int32)) + (4 : Int32)))] [])) _
              refine XS.iinc X0.here hx rfl (hb hby d5_65) rfl (l' := #[.val (.int p0), .val (.int (((((((p0 - (1 : Int32)).toUInt32 >>> ((16 : Int32) &&& 31).toUInt32).toInt32).toUInt32 >>> ((8 : Int32) &&& 31).toUInt32).toInt32).toUInt32 >>> ((4 : Int32) &&& 31).toUInt32).toInt32)), .val (.int (((((0 : Int32) + (16 : Int32)) + (8 : Int32)) + (4 : Int32)) + (1 : Int32)))]) rfl ?_
              show Steps p.tables e below (s₁.setTop (mkF m 68 #[.val (.int p0), .val (.int (((((((p0 - (1 : Int32)).toUInt32 >>> ((16 : Int32) &&& 31).toUInt32).toInt32).toUInt32 >>> ((8 : Int32) &&& 31).toUInt32).toInt32).toUInt32 >>> ((4 : Int32) &&& 31).toUInt32).toInt32)), .val (.int (((((0 : Int32) + (16 : Int32)) + (8 : Int32)) + (4 : Int32)) + (1 : Int32)))] [])) _
              refine XS.iloadN X0.here hx rfl (hb hby d5_68) rfl ?_
              show Steps p.tables e below (s₁.setTop (mkF m 69 #[.val (.int p0), .val (.int (((((((p0 - (1 : Int32)).toUInt32 >>> ((16 : Int32) &&& 31).toUInt32).toInt32).toUInt32 >>> ((8 : Int32) &&& 31).toUInt32).toInt32).toUInt32 >>> ((4 : Int32) &&& 31).toUInt32).toInt32)), .val (.int (((((0 : Int32) + (16 : Int32)) + (8 : Int32)) + (4 : Int32)) + (1 : Int32)))] [(.int (((((((p0 - (1 : Int32)).toUInt32 >>> ((16 : Int32) &&& 31).toUInt32).toInt32).toUInt32 >>> ((8 : Int32) &&& 31).toUInt32).toInt32).toUInt32 >>> ((4 : Int32) &&& 31).toUInt32).toInt32))])) _
              refine XS.iconst X0.here hx rfl (hb hby d5_69) ?_
              show Steps p.tables e below (s₁.setTop (mkF m 70 #[.val (.int p0), .val (.int (((((((p0 - (1 : Int32)).toUInt32 >>> ((16 : Int32) &&& 31).toUInt32).toInt32).toUInt32 >>> ((8 : Int32) &&& 31).toUInt32).toInt32).toUInt32 >>> ((4 : Int32) &&& 31).toUInt32).toInt32)), .val (.int (((((0 : Int32) + (16 : Int32)) + (8 : Int32)) + (4 : Int32)) + (1 : Int32)))] [(.int (1 : Int32)), (.int (((((((p0 - (1 : Int32)).toUInt32 >>> ((16 : Int32) &&& 31).toUInt32).toInt32).toUInt32 >>> ((8 : Int32) &&& 31).toUInt32).toInt32).toUInt32 >>> ((4 : Int32) &&& 31).toUInt32).toInt32))])) _
              refine XS.iushr X0.here hx rfl (hb hby d5_70) rfl ?_
              show Steps p.tables e below (s₁.setTop (mkF m 71 #[.val (.int p0), .val (.int (((((((p0 - (1 : Int32)).toUInt32 >>> ((16 : Int32) &&& 31).toUInt32).toInt32).toUInt32 >>> ((8 : Int32) &&& 31).toUInt32).toInt32).toUInt32 >>> ((4 : Int32) &&& 31).toUInt32).toInt32)), .val (.int (((((0 : Int32) + (16 : Int32)) + (8 : Int32)) + (4 : Int32)) + (1 : Int32)))] [(.int (((((((((p0 - (1 : Int32)).toUInt32 >>> ((16 : Int32) &&& 31).toUInt32).toInt32).toUInt32 >>> ((8 : Int32) &&& 31).toUInt32).toInt32).toUInt32 >>> ((4 : Int32) &&& 31).toUInt32).toInt32).toUInt32 >>> ((1 : Int32) &&& 31).toUInt32).toInt32))])) _
              refine XS.istoreN X0.here hx rfl (hb hby d5_71) rfl (l' := #[.val (.int p0), .val (.int (((((((((p0 - (1 : Int32)).toUInt32 >>> ((16 : Int32) &&& 31).toUInt32).toInt32).toUInt32 >>> ((8 : Int32) &&& 31).toUInt32).toInt32).toUInt32 >>> ((4 : Int32) &&& 31).toUInt32).toInt32).toUInt32 >>> ((1 : Int32) &&& 31).toUInt32).toInt32)), .val (.int (((((0 : Int32) + (16 : Int32)) + (8 : Int32)) + (4 : Int32)) + (1 : Int32)))]) rfl ?_
              show Steps p.tables e below (s₁.setTop (mkF m 72 #[.val (.int p0), .val (.int (((((((((p0 - (1 : Int32)).toUInt32 >>> ((16 : Int32) &&& 31).toUInt32).toInt32).toUInt32 >>> ((8 : Int32) &&& 31).toUInt32).toInt32).toUInt32 >>> ((4 : Int32) &&& 31).toUInt32).toInt32).toUInt32 >>> ((1 : Int32) &&& 31).toUInt32).toInt32)), .val (.int (((((0 : Int32) + (16 : Int32)) + (8 : Int32)) + (4 : Int32)) + (1 : Int32)))] [])) _
              refine XS.iloadN X0.here hx rfl (hb hby d5_72) rfl ?_
              show Steps p.tables e below (s₁.setTop (mkF m 73 #[.val (.int p0), .val (.int (((((((((p0 - (1 : Int32)).toUInt32 >>> ((16 : Int32) &&& 31).toUInt32).toInt32).toUInt32 >>> ((8 : Int32) &&& 31).toUInt32).toInt32).toUInt32 >>> ((4 : Int32) &&& 31).toUInt32).toInt32).toUInt32 >>> ((1 : Int32) &&& 31).toUInt32).toInt32)), .val (.int (((((0 : Int32) + (16 : Int32)) + (8 : Int32)) + (4 : Int32)) + (1 : Int32)))] [(.int (((((((((p0 - (1 : Int32)).toUInt32 >>> ((16 : Int32) &&& 31).toUInt32).toInt32).toUInt32 >>> ((8 : Int32) &&& 31).toUInt32).toInt32).toUInt32 >>> ((4 : Int32) &&& 31).toUInt32).toInt32).toUInt32 >>> ((1 : Int32) &&& 31).toUInt32).toInt32))])) _
              refine XS.iconst X0.here hx rfl (hb hby d5_73) ?_
              exact kt
            by_cases hc74_120 : (((((((((p0 - (1 : Int32)).toUInt32 >>> ((16 : Int32) &&& 31).toUInt32).toInt32).toUInt32 >>> ((8 : Int32) &&& 31).toUInt32).toInt32).toUInt32 >>> ((4 : Int32) &&& 31).toUInt32).toInt32).toUInt32 >>> ((1 : Int32) &&& 31).toUInt32).toInt32) < (1 : Int32)
            · skip
              obtain ⟨fs, hr, hrun, hended, hW, hsame⟩ := X0.leave (v := some (.int (((((0 : Int32) + (16 : Int32)) + (8 : Int32)) + (4 : Int32)) + (1 : Int32)))) (fun h => by rw [Bd.returns] at h; cases h)
              refine ⟨_, _, G119 _ ?_, hrun, hended, _, _, rfl, ?_, ⟨_, rfl⟩, hW, hsame.mono (by decide) (by decide)⟩
              · skip
                show Steps p.tables e below (s₁.setTop (mkF m 74 #[.val (.int p0), .val (.int (((((((((p0 - (1 : Int32)).toUInt32 >>> ((16 : Int32) &&& 31).toUInt32).toInt32).toUInt32 >>> ((8 : Int32) &&& 31).toUInt32).toInt32).toUInt32 >>> ((4 : Int32) &&& 31).toUInt32).toInt32).toUInt32 >>> ((1 : Int32) &&& 31).toUInt32).toInt32)), .val (.int (((((0 : Int32) + (16 : Int32)) + (8 : Int32)) + (4 : Int32)) + (1 : Int32)))] [(.int (1 : Int32)), (.int (((((((((p0 - (1 : Int32)).toUInt32 >>> ((16 : Int32) &&& 31).toUInt32).toInt32).toUInt32 >>> ((8 : Int32) &&& 31).toUInt32).toInt32).toUInt32 >>> ((4 : Int32) &&& 31).toUInt32).toInt32).toUInt32 >>> ((1 : Int32) &&& 31).toUInt32).toInt32))])) _
                refine XS.icmpYes X0.here hx rfl (pc0 := 74) (pc' := 80) rfl (hb hby d5_74) rfl (tlt hc74_120).1 (by decide) (by decide) ?_
                show Steps p.tables e below (s₁.setTop (mkF m 80 #[.val (.int p0), .val (.int (((((((((p0 - (1 : Int32)).toUInt32 >>> ((16 : Int32) &&& 31).toUInt32).toInt32).toUInt32 >>> ((8 : Int32) &&& 31).toUInt32).toInt32).toUInt32 >>> ((4 : Int32) &&& 31).toUInt32).toInt32).toUInt32 >>> ((1 : Int32) &&& 31).toUInt32).toInt32)), .val (.int (((((0 : Int32) + (16 : Int32)) + (8 : Int32)) + (4 : Int32)) + (1 : Int32)))] [])) _
                refine XS.iloadN X0.here hx rfl (hb hby d5_80) rfl ?_
                show Steps p.tables e below (s₁.setTop (mkF m 81 #[.val (.int p0), .val (.int (((((((((p0 - (1 : Int32)).toUInt32 >>> ((16 : Int32) &&& 31).toUInt32).toInt32).toUInt32 >>> ((8 : Int32) &&& 31).toUInt32).toInt32).toUInt32 >>> ((4 : Int32) &&& 31).toUInt32).toInt32).toUInt32 >>> ((1 : Int32) &&& 31).toUInt32).toInt32)), .val (.int (((((0 : Int32) + (16 : Int32)) + (8 : Int32)) + (4 : Int32)) + (1 : Int32)))] [(.int (((((0 : Int32) + (16 : Int32)) + (8 : Int32)) + (4 : Int32)) + (1 : Int32)))])) _
                exact retI X0 hx Bd.returns (hb hby d5_81) hr
              · show Q5 Z p0 h0 n0 _ s₁.heap _
                rw [e0]
                exact ⟨by rw [f5, if_neg hc9_2, if_neg hc24_66, if_neg hc38_98, if_pos hc50_114, if_neg hc62_116, if_pos hc74_120], N0, rfl⟩
            · skip
              obtain ⟨fs, hr, hrun, hended, hW, hsame⟩ := X0.leave (v := some (.int ((((((0 : Int32) + (16 : Int32)) + (8 : Int32)) + (4 : Int32)) + (1 : Int32)) + (1 : Int32)))) (fun h => by rw [Bd.returns] at h; cases h)
              refine ⟨_, _, G119 _ ?_, hrun, hended, _, _, rfl, ?_, ⟨_, rfl⟩, hW, hsame.mono (by decide) (by decide)⟩
              · skip
                show Steps p.tables e below (s₁.setTop (mkF m 74 #[.val (.int p0), .val (.int (((((((((p0 - (1 : Int32)).toUInt32 >>> ((16 : Int32) &&& 31).toUInt32).toInt32).toUInt32 >>> ((8 : Int32) &&& 31).toUInt32).toInt32).toUInt32 >>> ((4 : Int32) &&& 31).toUInt32).toInt32).toUInt32 >>> ((1 : Int32) &&& 31).toUInt32).toInt32)), .val (.int (((((0 : Int32) + (16 : Int32)) + (8 : Int32)) + (4 : Int32)) + (1 : Int32)))] [(.int (1 : Int32)), (.int (((((((((p0 - (1 : Int32)).toUInt32 >>> ((16 : Int32) &&& 31).toUInt32).toInt32).toUInt32 >>> ((8 : Int32) &&& 31).toUInt32).toInt32).toUInt32 >>> ((4 : Int32) &&& 31).toUInt32).toInt32).toUInt32 >>> ((1 : Int32) &&& 31).toUInt32).toInt32))])) _
                refine XS.icmpNo X0.here hx rfl (hb hby d5_74) rfl (flt hc74_120).1 ?_
                show Steps p.tables e below (s₁.setTop (mkF m 77 #[.val (.int p0), .val (.int (((((((((p0 - (1 : Int32)).toUInt32 >>> ((16 : Int32) &&& 31).toUInt32).toInt32).toUInt32 >>> ((8 : Int32) &&& 31).toUInt32).toInt32).toUInt32 >>> ((4 : Int32) &&& 31).toUInt32).toInt32).toUInt32 >>> ((1 : Int32) &&& 31).toUInt32).toInt32)), .val (.int (((((0 : Int32) + (16 : Int32)) + (8 : Int32)) + (4 : Int32)) + (1 : Int32)))] [])) _
                refine XS.iinc X0.here hx rfl (hb hby d5_77) rfl (l' := #[.val (.int p0), .val (.int (((((((((p0 - (1 : Int32)).toUInt32 >>> ((16 : Int32) &&& 31).toUInt32).toInt32).toUInt32 >>> ((8 : Int32) &&& 31).toUInt32).toInt32).toUInt32 >>> ((4 : Int32) &&& 31).toUInt32).toInt32).toUInt32 >>> ((1 : Int32) &&& 31).toUInt32).toInt32)), .val (.int ((((((0 : Int32) + (16 : Int32)) + (8 : Int32)) + (4 : Int32)) + (1 : Int32)) + (1 : Int32)))]) rfl ?_
                show Steps p.tables e below (s₁.setTop (mkF m 80 #[.val (.int p0), .val (.int (((((((((p0 - (1 : Int32)).toUInt32 >>> ((16 : Int32) &&& 31).toUInt32).toInt32).toUInt32 >>> ((8 : Int32) &&& 31).toUInt32).toInt32).toUInt32 >>> ((4 : Int32) &&& 31).toUInt32).toInt32).toUInt32 >>> ((1 : Int32) &&& 31).toUInt32).toInt32)), .val (.int ((((((0 : Int32) + (16 : Int32)) + (8 : Int32)) + (4 : Int32)) + (1 : Int32)) + (1 : Int32)))] [])) _
                refine XS.iloadN X0.here hx rfl (hb hby d5_80) rfl ?_
                show Steps p.tables e below (s₁.setTop (mkF m 81 #[.val (.int p0), .val (.int (((((((((p0 - (1 : Int32)).toUInt32 >>> ((16 : Int32) &&& 31).toUInt32).toInt32).toUInt32 >>> ((8 : Int32) &&& 31).toUInt32).toInt32).toUInt32 >>> ((4 : Int32) &&& 31).toUInt32).toInt32).toUInt32 >>> ((1 : Int32) &&& 31).toUInt32).toInt32)), .val (.int ((((((0 : Int32) + (16 : Int32)) + (8 : Int32)) + (4 : Int32)) + (1 : Int32)) + (1 : Int32)))] [(.int ((((((0 : Int32) + (16 : Int32)) + (8 : Int32)) + (4 : Int32)) + (1 : Int32)) + (1 : Int32)))])) _
                exact retI X0 hx Bd.returns (hb hby d5_81) hr
              · show Q5 Z p0 h0 n0 _ s₁.heap _
                rw [e0]
                exact ⟨by rw [f5, if_neg hc9_2, if_neg hc24_66, if_neg hc38_98, if_pos hc50_114, if_neg hc62_116, if_neg hc74_120], N0, rfl⟩
        · skip
          have G121 : ∀ t, Steps p.tables e below (s₁.setTop (mkF m 62 #[.val (.int p0), .val (.int (((((((((p0 - (1 : Int32)).toUInt32 >>> ((16 : Int32) &&& 31).toUInt32).toInt32).toUInt32 >>> ((8 : Int32) &&& 31).toUInt32).toInt32).toUInt32 >>> ((4 : Int32) &&& 31).toUInt32).toInt32).toUInt32 >>> ((2 : Int32) &&& 31).toUInt32).toInt32)), .val (.int (((((0 : Int32) + (16 : Int32)) + (8 : Int32)) + (4 : Int32)) + (2 : Int32)))] [(.int (2 : Int32)), (.int (((((((((p0 - (1 : Int32)).toUInt32 >>> ((16 : Int32) &&& 31).toUInt32).toInt32).toUInt32 >>> ((8 : Int32) &&& 31).toUInt32).toInt32).toUInt32 >>> ((4 : Int32) &&& 31).toUInt32).toInt32).toUInt32 >>> ((2 : Int32) &&& 31).toUInt32).toInt32))])) t → Steps p.tables e below (s₁.setTop (entryFrame m #[(.int p0)] 3)) t := by
            intro t kt
            refine G113 _ ?_
            show Steps p.tables e below (s₁.setTop (mkF m 50 #[.val (.int p0), .val (.int (((((((p0 - (1 : Int32)).toUInt32 >>> ((16 : Int32) &&& 31).toUInt32).toInt32).toUInt32 >>> ((8 : Int32) &&& 31).toUInt32).toInt32).toUInt32 >>> ((4 : Int32) &&& 31).toUInt32).toInt32)), .val (.int ((((0 : Int32) + (16 : Int32)) + (8 : Int32)) + (4 : Int32)))] [(.int (4 : Int32)), (.int (((((((p0 - (1 : Int32)).toUInt32 >>> ((16 : Int32) &&& 31).toUInt32).toInt32).toUInt32 >>> ((8 : Int32) &&& 31).toUInt32).toInt32).toUInt32 >>> ((4 : Int32) &&& 31).toUInt32).toInt32))])) _
            refine XS.icmpNo X0.here hx rfl (hb hby d5_50) rfl (flt hc50_114).1 ?_
            show Steps p.tables e below (s₁.setTop (mkF m 53 #[.val (.int p0), .val (.int (((((((p0 - (1 : Int32)).toUInt32 >>> ((16 : Int32) &&& 31).toUInt32).toInt32).toUInt32 >>> ((8 : Int32) &&& 31).toUInt32).toInt32).toUInt32 >>> ((4 : Int32) &&& 31).toUInt32).toInt32)), .val (.int ((((0 : Int32) + (16 : Int32)) + (8 : Int32)) + (4 : Int32)))] [])) _
            refine XS.iinc X0.here hx rfl (hb hby d5_53) rfl (l' := #[.val (.int p0), .val (.int (((((((p0 - (1 : Int32)).toUInt32 >>> ((16 : Int32) &&& 31).toUInt32).toInt32).toUInt32 >>> ((8 : Int32) &&& 31).toUInt32).toInt32).toUInt32 >>> ((4 : Int32) &&& 31).toUInt32).toInt32)), .val (.int (((((0 : Int32) + (16 : Int32)) + (8 : Int32)) + (4 : Int32)) + (2 : Int32)))]) rfl ?_
            show Steps p.tables e below (s₁.setTop (mkF m 56 #[.val (.int p0), .val (.int (((((((p0 - (1 : Int32)).toUInt32 >>> ((16 : Int32) &&& 31).toUInt32).toInt32).toUInt32 >>> ((8 : Int32) &&& 31).toUInt32).toInt32).toUInt32 >>> ((4 : Int32) &&& 31).toUInt32).toInt32)), .val (.int (((((0 : Int32) + (16 : Int32)) + (8 : Int32)) + (4 : Int32)) + (2 : Int32)))] [])) _
            refine XS.iloadN X0.here hx rfl (hb hby d5_56) rfl ?_
            show Steps p.tables e below (s₁.setTop (mkF m 57 #[.val (.int p0), .val (.int (((((((p0 - (1 : Int32)).toUInt32 >>> ((16 : Int32) &&& 31).toUInt32).toInt32).toUInt32 >>> ((8 : Int32) &&& 31).toUInt32).toInt32).toUInt32 >>> ((4 : Int32) &&& 31).toUInt32).toInt32)), .val (.int (((((0 : Int32) + (16 : Int32)) + (8 : Int32)) + (4 : Int32)) + (2 : Int32)))] [(.int (((((((p0 - (1 : Int32)).toUInt32 >>> ((16 : Int32) &&& 31).toUInt32).toInt32).toUInt32 >>> ((8 : Int32) &&& 31).toUInt32).toInt32).toUInt32 >>> ((4 : Int32) &&& 31).toUInt32).toInt32))])) _
            refine XS.iconst X0.here hx rfl (hb hby d5_57) ?_
            show Steps p.tables e below (s₁.setTop (mkF m 58 #[.val (.int p0), .val (.int (((((((p0 - (1 : Int32)).toUInt32 >>> ((16 : Int32) &&& 31).toUInt32).toInt32).toUInt32 >>> ((8 : Int32) &&& 31).toUInt32).toInt32).toUInt32 >>> ((4 : Int32) &&& 31).toUInt32).toInt32)), .val (.int (((((0 : Int32) + (16 : Int32)) + (8 : Int32)) + (4 : Int32)) + (2 : Int32)))] [(.int (2 : Int32)), (.int (((((((p0 - (1 : Int32)).toUInt32 >>> ((16 : Int32) &&& 31).toUInt32).toInt32).toUInt32 >>> ((8 : Int32) &&& 31).toUInt32).toInt32).toUInt32 >>> ((4 : Int32) &&& 31).toUInt32).toInt32))])) _
            refine XS.iushr X0.here hx rfl (hb hby d5_58) rfl ?_
            show Steps p.tables e below (s₁.setTop (mkF m 59 #[.val (.int p0), .val (.int (((((((p0 - (1 : Int32)).toUInt32 >>> ((16 : Int32) &&& 31).toUInt32).toInt32).toUInt32 >>> ((8 : Int32) &&& 31).toUInt32).toInt32).toUInt32 >>> ((4 : Int32) &&& 31).toUInt32).toInt32)), .val (.int (((((0 : Int32) + (16 : Int32)) + (8 : Int32)) + (4 : Int32)) + (2 : Int32)))] [(.int (((((((((p0 - (1 : Int32)).toUInt32 >>> ((16 : Int32) &&& 31).toUInt32).toInt32).toUInt32 >>> ((8 : Int32) &&& 31).toUInt32).toInt32).toUInt32 >>> ((4 : Int32) &&& 31).toUInt32).toInt32).toUInt32 >>> ((2 : Int32) &&& 31).toUInt32).toInt32))])) _
            refine XS.istoreN X0.here hx rfl (hb hby d5_59) rfl (l' := #[.val (.int p0), .val (.int (((((((((p0 - (1 : Int32)).toUInt32 >>> ((16 : Int32) &&& 31).toUInt32).toInt32).toUInt32 >>> ((8 : Int32) &&& 31).toUInt32).toInt32).toUInt32 >>> ((4 : Int32) &&& 31).toUInt32).toInt32).toUInt32 >>> ((2 : Int32) &&& 31).toUInt32).toInt32)), .val (.int (((((0 : Int32) + (16 : Int32)) + (8 : Int32)) + (4 : Int32)) + (2 : Int32)))]) rfl ?_
            show Steps p.tables e below (s₁.setTop (mkF m 60 #[.val (.int p0), .val (.int (((((((((p0 - (1 : Int32)).toUInt32 >>> ((16 : Int32) &&& 31).toUInt32).toInt32).toUInt32 >>> ((8 : Int32) &&& 31).toUInt32).toInt32).toUInt32 >>> ((4 : Int32) &&& 31).toUInt32).toInt32).toUInt32 >>> ((2 : Int32) &&& 31).toUInt32).toInt32)), .val (.int (((((0 : Int32) + (16 : Int32)) + (8 : Int32)) + (4 : Int32)) + (2 : Int32)))] [])) _
            refine XS.iloadN X0.here hx rfl (hb hby d5_60) rfl ?_
            show Steps p.tables e below (s₁.setTop (mkF m 61 #[.val (.int p0), .val (.int (((((((((p0 - (1 : Int32)).toUInt32 >>> ((16 : Int32) &&& 31).toUInt32).toInt32).toUInt32 >>> ((8 : Int32) &&& 31).toUInt32).toInt32).toUInt32 >>> ((4 : Int32) &&& 31).toUInt32).toInt32).toUInt32 >>> ((2 : Int32) &&& 31).toUInt32).toInt32)), .val (.int (((((0 : Int32) + (16 : Int32)) + (8 : Int32)) + (4 : Int32)) + (2 : Int32)))] [(.int (((((((((p0 - (1 : Int32)).toUInt32 >>> ((16 : Int32) &&& 31).toUInt32).toInt32).toUInt32 >>> ((8 : Int32) &&& 31).toUInt32).toInt32).toUInt32 >>> ((4 : Int32) &&& 31).toUInt32).toInt32).toUInt32 >>> ((2 : Int32) &&& 31).toUInt32).toInt32))])) _
            refine XS.iconst X0.here hx rfl (hb hby d5_61) ?_
            exact kt
          by_cases hc62_122 : (((((((((p0 - (1 : Int32)).toUInt32 >>> ((16 : Int32) &&& 31).toUInt32).toInt32).toUInt32 >>> ((8 : Int32) &&& 31).toUInt32).toInt32).toUInt32 >>> ((4 : Int32) &&& 31).toUInt32).toInt32).toUInt32 >>> ((2 : Int32) &&& 31).toUInt32).toInt32) < (2 : Int32)
          · skip
            have G123 : ∀ t, Steps p.tables e below (s₁.setTop (mkF m 74 #[.val (.int p0), .val (.int (((((((((p0 - (1 : Int32)).toUInt32 >>> ((16 : Int32) &&& 31).toUInt32).toInt32).toUInt32 >>> ((8 : Int32) &&& 31).toUInt32).toInt32).toUInt32 >>> ((4 : Int32) &&& 31).toUInt32).toInt32).toUInt32 >>> ((2 : Int32) &&& 31).toUInt32).toInt32)), .val (.int (((((0 : Int32) + (16 : Int32)) + (8 : Int32)) + (4 : Int32)) + (2 : Int32)))] [(.int (1 : Int32)), (.int (((((((((p0 - (1 : Int32)).toUInt32 >>> ((16 : Int32) &&& 31).toUInt32).toInt32).toUInt32 >>> ((8 : Int32) &&& 31).toUInt32).toInt32).toUInt32 >>> ((4 : Int32) &&& 31).toUInt32).toInt32).toUInt32 >>> ((2 : Int32) &&& 31).toUInt32).toInt32))])) t → Steps p.tables e below (s₁.setTop (entryFrame m #[(.int p0)] 3)) t := by
              intro t kt
              refine G121 _ ?_
              show Steps p.tables e below (s₁.setTop (mkF m 62 #[.val (.int p0), .val (.int (((((((((p0 - (1 : Int32)).toUInt32 >>> ((16 : Int32) &&& 31).toUInt32).toInt32).toUInt32 >>> ((8 : Int32) &&& 31).toUInt32).toInt32).toUInt32 >>> ((4 : Int32) &&& 31).toUInt32).toInt32).toUInt32 >>> ((2 : Int32) &&& 31).toUInt32).toInt32)), .val (.int (((((0 : Int32) + (16 : Int32)) + (8 : Int32)) + (4 : Int32)) + (2 : Int32)))] [(.int (2 : Int32)), (.int (((((((((p0 - (1 : Int32)).toUInt32 >>> ((16 : Int32) &&& 31).toUInt32).toInt32).toUInt32 >>> ((8 : Int32) &&& 31).toUInt32).toInt32).toUInt32 >>> ((4 : Int32) &&& 31).toUInt32).toInt32).toUInt32 >>> ((2 : Int32) &&& 31).toUInt32).toInt32))])) _
              refine XS.icmpYes X0.here hx rfl (pc0 := 62) (pc' := 72) rfl (hb hby d5_62) rfl (tlt hc62_122).1 (by decide) (by decide) ?_
              show Steps p.tables e below (s₁.setTop (mkF m 72 #[.val (.int p0), .val (.int (((((((((p0 - (1 : Int32)).toUInt32 >>> ((16 : Int32) &&& 31).toUInt32).toInt32).toUInt32 >>> ((8 : Int32) &&& 31).toUInt32).toInt32).toUInt32 >>> ((4 : Int32) &&& 31).toUInt32).toInt32).toUInt32 >>> ((2 : Int32) &&& 31).toUInt32).toInt32)), .val (.int (((((0 : Int32) + (16 : Int32)) + (8 : Int32)) + (4 : Int32)) + (2 : Int32)))] [])) _
              refine XS.iloadN X0.here hx rfl (hb hby d5_72) rfl ?_
              show Steps p.tables e below (s₁.setTop (mkF m 73 #[.val (.int p0), .val (.int (((((((((p0 - (1 : Int32)).toUInt32 >>> ((16 : Int32) &&& 31).toUInt32).toInt32).toUInt32 >>> ((8 : Int32) &&& 31).toUInt32).toInt32).toUInt32 >>> ((4 : Int32) &&& 31).toUInt32).toInt32).toUInt32 >>> ((2 : Int32) &&& 31).toUInt32).toInt32)), .val (.int (((((0 : Int32) + (16 : Int32)) + (8 : Int32)) + (4 : Int32)) + (2 : Int32)))] [(.int (((((((((p0 - (1 : Int32)).toUInt32 >>> ((16 : Int32) &&& 31).toUInt32).toInt32).toUInt32 >>> ((8 : Int32) &&& 31).toUInt32).toInt32).toUInt32 >>> ((4 : Int32) &&& 31).toUInt32).toInt32).toUInt32 >>> ((2 : Int32) &&& 31).toUInt32).toInt32))])) _
              refine XS.iconst X0.here hx rfl (hb hby d5_73) ?_
              exact kt
            by_cases hc74_124 : (((((((((p0 - (1 : Int32)).toUInt32 >>> ((16 : Int32) &&& 31).toUInt32).toInt32).toUInt32 >>> ((8 : Int32) &&& 31).toUInt32).toInt32).toUInt32 >>> ((4 : Int32) &&& 31).toUInt32).toInt32).toUInt32 >>> ((2 : Int32) &&& 31).toUInt32).toInt32) < (1 : Int32)
            · skip
              obtain ⟨fs, hr, hrun, hended, hW, hsame⟩ := X0.leave (v := some (.int (((((0 : Int32) + (16 : Int32)) + (8 : Int32)) + (4 : Int32)) + (2 : Int32)))) (fun h => by rw [Bd.returns] at h; cases h)
              refine ⟨_, _, G123 _ ?_, hrun, hended, _, _, rfl, ?_, ⟨_, rfl⟩, hW, hsame.mono (by decide) (by decide)⟩
              · skip
                show Steps p.tables e below (s₁.setTop (mkF m 74 #[.val (.int p0), .val (.int (((((((((p0 - (1 : Int32)).toUInt32 >>> ((16 : Int32) &&& 31).toUInt32).toInt32).toUInt32 >>> ((8 : Int32) &&& 31).toUInt32).toInt32).toUInt32 >>> ((4 : Int32) &&& 31).toUInt32).toInt32).toUInt32 >>> ((2 : Int32) &&& 31).toUInt32).toInt32)), .val (.int (((((0 : Int32) + (16 : Int32)) + (8 : Int32)) + (4 : Int32)) + (2 : Int32)))] [(.int (1 : Int32)), (.int (((((((((p0 - (1 : Int32)).toUInt32 >>> ((16 : Int32) &&& 31).toUInt32).toInt32).toUInt32 >>> ((8 : Int32) &&& 31).toUInt32).toInt32).toUInt32 >>> ((4 : Int32) &&& 31).toUInt32).toInt32).toUInt32 >>> ((2 : Int32) &&& 31).toUInt32).toInt32))])) _
                refine XS.icmpYes X0.here hx rfl (pc0 := 74) (pc' := 80) rfl (hb hby d5_74) rfl (tlt hc74_124).1 (by decide) (by decide) ?_
                show Steps p.tables e below (s₁.setTop (mkF m 80 #[.val (.int p0), .val (.int (((((((((p0 - (1 : Int32)).toUInt32 >>> ((16 : Int32) &&& 31).toUInt32).toInt32).toUInt32 >>> ((8 : Int32) &&& 31).toUInt32).toInt32).toUInt32 >>> ((4 : Int32) &&& 31).toUInt32).toInt32).toUInt32 >>> ((2 : Int32) &&& 31).toUInt32).toInt32)), .val (.int (((((0 : Int32) + (16 : Int32)) + (8 : Int32)) + (4 : Int32)) + (2 : Int32)))] [])) _
                refine XS.iloadN X0.here hx rfl (hb hby d5_80) rfl ?_
                show Steps p.tables e below (s₁.setTop (mkF m 81 #[.val (.int p0), .val (.int (((((((((p0 - (1 : Int32)).toUInt32 >>> ((16 : Int32) &&& 31).toUInt32).toInt32).toUInt32 >>> ((8 : Int32) &&& 31).toUInt32).toInt32).toUInt32 >>> ((4 : Int32) &&& 31).toUInt32).toInt32).toUInt32 >>> ((2 : Int32) &&& 31).toUInt32).toInt32)), .val (.int (((((0 : Int32) + (16 : Int32)) + (8 : Int32)) + (4 : Int32)) + (2 : Int32)))] [(.int (((((0 : Int32) + (16 : Int32)) + (8 : Int32)) + (4 : Int32)) + (2 : Int32)))])) _
                exact retI X0 hx Bd.returns (hb hby d5_81) hr
              · show Q5 Z p0 h0 n0 _ s₁.heap _
                rw [e0]
                exact ⟨by rw [f5, if_neg hc9_2, if_neg hc24_66, if_neg hc38_98, if_neg hc50_114, if_pos hc62_122, if_pos hc74_124], N0, rfl⟩
            · skip
              obtain ⟨fs, hr, hrun, hended, hW, hsame⟩ := X0.leave (v := some (.int ((((((0 : Int32) + (16 : Int32)) + (8 : Int32)) + (4 : Int32)) + (2 : Int32)) + (1 : Int32)))) (fun h => by rw [Bd.returns] at h; cases h)
              refine ⟨_, _, G123 _ ?_, hrun, hended, _, _, rfl, ?_, ⟨_, rfl⟩, hW, hsame.mono (by decide) (by decide)⟩
              · skip
                show Steps p.tables e below (s₁.setTop (mkF m 74 #[.val (.int p0), .val (.int (((((((((p0 - (1 : Int32)).toUInt32 >>> ((16 : Int32) &&& 31).toUInt32).toInt32).toUInt32 >>> ((8 : Int32) &&& 31).toUInt32).toInt32).toUInt32 >>> ((4 : Int32) &&& 31).toUInt32).toInt32).toUInt32 >>> ((2 : Int32) &&& 31).toUInt32).toInt32)), .val (.int (((((0 : Int32) + (16 : Int32)) + (8 : Int32)) + (4 : Int32)) + (2 : Int32)))] [(.int (1 : Int32)), (.int (((((((((p0 - (1 : Int32)).toUInt32 >>> ((16 : Int32) &&& 31).toUInt32).toInt32).toUInt32 >>> ((8 : Int32) &&& 31).toUInt32).toInt32).toUInt32 >>> ((4 : Int32) &&& 31).toUInt32).toInt32).toUInt32 >>> ((2 : Int32) &&& 31).toUInt32).toInt32))])) _
                refine XS.icmpNo X0.here hx rfl (hb hby d5_74) rfl (flt hc74_124).1 ?_
                show Steps p.tables e below (s₁.setTop (mkF m 77 #[.val (.int p0), .val (.int (((((((((p0 - (1 : Int32)).toUInt32 >>> ((16 : Int32) &&& 31).toUInt32).toInt32).toUInt32 >>> ((8 : Int32) &&& 31).toUInt32).toInt32).toUInt32 >>> ((4 : Int32) &&& 31).toUInt32).toInt32).toUInt32 >>> ((2 : Int32) &&& 31).toUInt32).toInt32)), .val (.int (((((0 : Int32) + (16 : Int32)) + (8 : Int32)) + (4 : Int32)) + (2 : Int32)))] [])) _
                refine XS.iinc X0.here hx rfl (hb hby d5_77) rfl (l' := #[.val (.int p0), .val (.int (((((((((p0 - (1 : Int32)).toUInt32 >>> ((16 : Int32) &&& 31).toUInt32).toInt32).toUInt32 >>> ((8 : Int32) &&& 31).toUInt32).toInt32).toUInt32 >>> ((4 : Int32) &&& 31).toUInt32).toInt32).toUInt32 >>> ((2 : Int32) &&& 31).toUInt32).toInt32)), .val (.int ((((((0 : Int32) + (16 : Int32)) + (8 : Int32)) + (4 : Int32)) + (2 : Int32)) + (1 : Int32)))]) rfl ?_
                show Steps p.tables e below (s₁.setTop (mkF m 80 #[.val (.int p0), .val (.int (((((((((p0 - (1 : Int32)).toUInt32 >>> ((16 : Int32) &&& 31).toUInt32).toInt32).toUInt32 >>> ((8 : Int32) &&& 31).toUInt32).toInt32).toUInt32 >>> ((4 : Int32) &&& 31).toUInt32).toInt32).toUInt32 >>> ((2 : Int32) &&& 31).toUInt32).toInt32)), .val (.int ((((((0 : Int32) + (16 : Int32)) + (8 : Int32)) + (4 : Int32)) + (2 : Int32)) + (1 : Int32)))] [])) _
                refine XS.iloadN X0.here hx rfl (hb hby d5_80) rfl ?_
                show Steps p.tables e below (s₁.setTop (mkF m 81 #[.val (.int p0), .val (.int (((((((((p0 - (1 : Int32)).toUInt32 >>> ((16 : Int32) &&& 31).toUInt32).toInt32).toUInt32 >>> ((8 : Int32) &&& 31).toUInt32).toInt32).toUInt32 >>> ((4 : Int32) &&& 31).toUInt32).toInt32).toUInt32 >>> ((2 : Int32) &&& 31).toUInt32).toInt32)), .val (.int ((((((0 : Int32) + (16 : Int32)) + (8 : Int32)) + (4 : Int32)) + (2 : Int32)) + (1 : Int32)))] [(.int ((((((0 : Int32) + (16 : Int32)) + (8 : Int32)) + (4 : Int32)) + (2 : Int32)) + (1 : Int32)))])) _
                exact retI X0 hx Bd.returns (hb hby d5_81) hr
              · show Q5 Z p0 h0 n0 _ s₁.heap _
                rw [e0]
                exact ⟨by rw [f5, if_neg hc9_2, if_neg hc24_66, if_neg hc38_98, if_neg hc50_114, if_pos hc62_122, if_neg hc74_124], N0, rfl⟩
          · skip
            have G125 : ∀ t, Steps p.tables e below (s₁.setTop (mkF m 74 #[.val (.int p0), .val (.int (((((((((((p0 - (1 : Int32)).toUInt32 >>> ((16 : Int32) &&& 31).toUInt32).toInt32).toUInt32 >>> ((8 : Int32) &&& 31).toUInt32).toInt32).toUInt32 >>> ((4 : Int32) &&& 31).toUInt32).toInt32).toUInt32 >>> ((2 : Int32) &&& 31).toUInt32).toInt32).toUInt32 >>> ((1 : Int32) &&& 31).toUInt32).toInt32)), .val (.int ((((((0 : Int32) + (16 : Int32)) + (8 : Int32)) + (4 : Int32)) + (2 : Int32)) + (1 : Int32)))] [(.int (1 : Int32)), (.int (((((((((((p0 - (1 : Int32)).toUInt32 >>> ((16 : Int32) &&& 31).toUInt32).toInt32).toUInt32 >>> ((8 : Int32) &&& 31).toUInt32).toInt32).toUInt32 >>> ((4 : Int32) &&& 31).toUInt32).toInt32).toUInt32 >>> ((2 : Int32) &&& 31).toUInt32).toInt32).toUInt32 >>> ((1 : Int32) &&& 31).toUInt32).toInt32))])) t → Steps p.tables e below (s₁.setTop (entryFrame m #[(.int p0)] 3)) t := by
              intro t kt
              refine G121 _ ?_
              show Steps p.tables e below (s₁.setTop (mkF m 62 #[.val (.int p0), .val (.int (((((((((p0 - (1 : Int32)).toUInt32 >>> ((16 : Int32) &&& 31).toUInt32).toInt32).toUInt32 >>> ((8 : Int32) &&& 31).toUInt32).toInt32).toUInt32 >>> ((4 : Int32) &&& 31).toUInt32).toInt32).toUInt32 >>> ((2 : Int32) &&& 31).toUInt32).toInt32)), .val (.int (((((0 : Int32) + (16 : Int32)) + (8 : Int32)) + (4 : Int32)) + (2 : Int32)))] [(.int (2 : Int32)), (.int (((((((((p0 - (1 : Int32)).toUInt32 >>> ((16 : Int32) &&& 31).toUInt32).toInt32).toUInt32 >>> ((8 : Int32) &&& 31).toUInt32).toInt32).toUInt32 >>> ((4 : Int32) &&& 31).toUInt32).toInt32).toUInt32 >>> ((2 : Int32) &&& 31).toUInt32).toInt32))])) _
              refine XS.icmpNo X0.here hx rfl (hb hby d5_62) rfl (flt hc62_122).1 ?_
              show Steps p.tables e below (s₁.setTop (mkF m 65 #[.val (.int p0), .val (.int (((((((((p0 - (1 : Int32)).toUInt32 >>> ((16 : Int32) &&& 31).toUInt32).toInt32).toUInt32 >>> ((8 : Int32) &&& 31).toUInt32).toInt32).toUInt32 >>> ((4 : Int32) &&& 31).toUInt32).toInt32).toUInt32 >>> ((2 : Int32) &&& 31).toUInt32).toInt32)), .val (.int (((((0 : Int32) + (16 : Int32)) + (8 : Int32)) + (4 : Int32)) + (2 : Int32)))] [])) _
              refine XS.iinc X0.here hx rfl (hb hby d5_65) rfl (l' := #[.val (.int p0), .val (.int (((((((((p0 - (1 : Int32)).toUInt32 >>> ((16 : Int32) &&& 31).toUInt32).toInt32).toUInt32 >>> ((8 : Int32) &&& 31).toUInt32).toInt32).toUInt32 >>> ((4 : Int32) &&& 31).toUInt32).toInt32).toUInt32 >>> ((2 : Int32) &&& 31).toUInt32).toInt32)), .val (.int ((((((0 : Int32) + (16 : Int32)) + (8 : Int32)) + (4 : Int32)) + (2 : Int32)) + (1 : Int32)))]) rfl ?_
              show Steps p.tables e below (s₁.setTop (mkF m 68 #[.val (.int p0), .val (.int (((((((((p0 - (1 : Int32)).toUInt32 >>> ((16 : Int32) &&& 31).toUInt32).toInt32).toUInt32 >>> ((8 : Int32) &&& 31).toUInt32).toInt32).toUInt32 >>> ((4 : Int32) &&& 31).toUInt32).toInt32).toUInt32 >>> ((2 : Int32) &&& 31).toUInt32).toInt32)), .val (.int ((((((0 : Int32) + (16 : Int32)) + (8 : Int32)) + (4 : Int32)) + (2 : Int32)) + (1 : Int32)))] [])) _
              refine XS.iloadN X0.here hx rfl (hb hby d5_68) rfl ?_
              show Steps p.tables e below (s₁.setTop (mkF m 69 #[.val (.int p0), .val (.int (((((((((p0 - (1 : Int32)).toUInt32 >>> ((16 : Int32) &&& 31).toUInt32).toInt32).toUInt32 >>> ((8 : Int32) &&& 31).toUInt32).toInt32).toUInt32 >>> ((4 : Int32) &&& 31).toUInt32).toInt32).toUInt32 >>> ((2 : Int32) &&& 31).toUInt32).toInt32)), .val (.int ((((((0 : Int32) + (16 : Int32)) + (8 : Int32)) + (4 : Int32)) + (2 : Int32)) + (1 : Int32)))] [(.int (((((((((p0 - (1 : Int32)).toUInt32 >>> ((16 : Int32) &&& 31).toUInt32).toInt32).toUInt32 >>> ((8 : Int32) &&& 31).toUInt32).toInt32).toUInt32 >>> ((4 : Int32) &&& 31).toUInt32).toInt32).toUInt32 >>> ((2 : Int32) &&& 31).toUInt32).toInt32))])) _
              refine XS.iconst X0.here hx rfl (hb hby d5_69) ?_
              show Steps p.tables e below (s₁.setTop (mkF m 70 #[.val (.int p0), .val (.int (((((((((p0 - (1 : Int32)).toUInt32 >>> ((16 : Int32) &&& 31).toUInt32).toInt32).toUInt32 >>> ((8 : Int32) &&& 31).toUInt32).toInt32).toUInt32 >>> ((4 : Int32) &&& 31).toUInt32).toInt32).toUInt32 >>> ((2 : Int32) &&& 31).toUInt32).toInt32)), .val (.int ((((((0 : Int32) + (16 : Int32)) + (8 : Int32)) + (4 : Int32)) + (2 : Int32)) + (1 : Int32)))] [(.int (1 : Int32)), (.int (((((((((p0 - (1 : Int32)).toUInt32 >>> ((16 : Int32) &&& 31).toUInt32).toInt32).toUInt32 >>> ((8 : Int32) &&& 31).toUInt32).toInt32).toUInt32 >>> ((4 : Int32) &&& 31).toUInt32).toInt32).toUInt32 >>> ((2 : Int32) &&& 31).toUInt32).toInt32))])) _
              refine XS.iushr X0.here hx rfl (hb hby d5_70) rfl ?_
              show Steps p.tables e below (s₁.setTop (mkF m 71 #[.val (.int p0), .val (.int (((((((((p0 - (1 : Int32)).toUInt32 >>> ((16 : Int32) &&& 31).toUInt32).toInt32).toUInt32 >>> ((8 : Int32) &&& 31).toUInt32).toInt32).toUInt32 >>> ((4 : Int32) &&& 31).toUInt32).toInt32).toUInt32 >>> ((2 : Int32) &&& 31).toUInt32).toInt32)), .val (.int ((((((0 : Int32) + (16 : Int32)) + (8 : Int32)) + (4 : Int32)) + (2 : Int32)) + (1 : Int32)))] [(.int (((((((((((p0 - (1 : Int32)).toUInt32 >>> ((16 : Int32) &&& 31).toUInt32).toInt32).toUInt32 >>> ((8 : Int32) &&& 31).toUInt32).toInt32).toUInt32 >>> ((4 : Int32) &&& 31).toUInt32).toInt32).toUInt32 >>> ((2 : Int32) &&& 31).toUInt32).toInt32).toUInt32 >>> ((1 : Int32) &&& 31).toUInt32).toInt32))])) _
              refine XS.istoreN X0.here hx rfl (hb hby d5_71) rfl (l' := #[.val (.int p0), .val (.int (((((((((((p0 - (1 : Int32)).toUInt32 >>> ((16 : Int32) &&& 31).toUInt32).toInt32).toUInt32 >>> ((8 : Int32) &&& 31).toUInt32).toInt32).toUInt32 >>> ((4 : Int32) &&& 31).toUInt32).toInt32).toUInt32 >>> ((2 : Int32) &&& 31).toUInt32).toInt32).toUInt32 >>> ((1 : Int32) &&& 31).toUInt32).toInt32)), .val (.int ((((((0 : Int32) + (16 : Int32)) + (8 : Int32)) + (4 : Int32)) + (2 : Int32)) + (1 : Int32)))]) rfl ?_
              show Steps p.tables e below (s₁.setTop (mkF m 72 #[.val (.int p0), .val (.int (((((((((((p0 - (1 : Int32)).toUInt32 >>> ((16 : Int32) &&& 31).toUInt32).toInt32).toUInt32 >>> ((8 : Int32) &&& 31).toUInt32).toInt32).toUInt32 >>> ((4 : Int32) &&& 31).toUInt32).toInt32).toUInt32 >>> ((2 : Int32) &&& 31).toUInt32).toInt32).toUInt32 >>> ((1 : Int32) &&& 31).toUInt32).toInt32)), .val (.int ((((((0 : Int32) + (16 : Int32)) + (8 : Int32)) + (4 : Int32)) + (2 : Int32)) + (1 : Int32)))] [])) _
              refine XS.iloadN X0.here hx rfl (hb hby d5_72) rfl ?_
              show Steps p.tables e below (s₁.setTop (mkF m 73 #[.val (.int p0), .val (.int (((((((((((p0 - (1 : Int32)).toUInt32 >>> ((16 : Int32) &&& 31).toUInt32).toInt32).toUInt32 >>> ((8 : Int32) &&& 31).toUInt32).toInt32).toUInt32 >>> ((4 : Int32) &&& 31).toUInt32).toInt32).toUInt32 >>> ((2 : Int32) &&& 31).toUInt32).toInt32).toUInt32 >>> ((1 : Int32) &&& 31).toUInt32).toInt32)), .val (.int ((((((0 : Int32) + (16 : Int32)) + (8 : Int32)) + (4 : Int32)) + (2 : Int32)) + (1 : Int32)))] [(.int (((((((((((p0 - (1 : Int32)).toUInt32 >>> ((16 : Int32) &&& 31).toUInt32).toInt32).toUInt32 >>> ((8 : Int32) &&& 31).toUInt32).toInt32).toUInt32 >>> ((4 : Int32) &&& 31).toUInt32).toInt32).toUInt32 >>> ((2 : Int32) &&& 31).toUInt32).toInt32).toUInt32 >>> ((1 : Int32) &&& 31).toUInt32).toInt32))])) _
              refine XS.iconst X0.here hx rfl (hb hby d5_73) ?_
              exact kt
            by_cases hc74_126 : (((((((((((p0 - (1 : Int32)).toUInt32 >>> ((16 : Int32) &&& 31).toUInt32).toInt32).toUInt32 >>> ((8 : Int32) &&& 31).toUInt32).toInt32).toUInt32 >>> ((4 : Int32) &&& 31).toUInt32).toInt32).toUInt32 >>> ((2 : Int32) &&& 31).toUInt32).toInt32).toUInt32 >>> ((1 : Int32) &&& 31).toUInt32).toInt32) < (1 : Int32)
            · skip
              obtain ⟨fs, hr, hrun, hended, hW, hsame⟩ := X0.leave (v := some (.int ((((((0 : Int32) + (16 : Int32)) + (8 : Int32)) + (4 : Int32)) + (2 : Int32)) + (1 : Int32)))) (fun h => by rw [Bd.returns] at h; cases h)
              refine ⟨_, _, G125 _ ?_, hrun, hended, _, _, rfl, ?_, ⟨_, rfl⟩, hW, hsame.mono (by decide) (by decide)⟩
              · skip
                show Steps p.tables e below (s₁.setTop (mkF m 74 #[.val (.int p0), .val (.int (((((((((((p0 - (1 : Int32)).toUInt32 >>> ((16 : Int32) &&& 31).toUInt32).toInt32).toUInt32 >>> ((8 : Int32) &&& 31).toUInt32).toInt32).toUInt32 >>> ((4 : Int32) &&& 31).toUInt32).toInt32).toUInt32 >>> ((2 : Int32) &&& 31).toUInt32).toInt32).toUInt32 >>> ((1 : Int32) &&& 31).toUInt32).toInt32)), .val (.int ((((((0 : Int32) + (16 : Int32)) + (8 : Int32)) + (4 : Int32)) + (2 : Int32)) + (1 : Int32)))] [(.int (1 : Int32)), (.int (((((((((((p0 - (1 : Int32)).toUInt32 >>> ((16 : Int32) &&& 31).toUInt32).toInt32).toUInt32 >>> ((8 : Int32) &&& 31).toUInt32).toInt32).toUInt32 >>> ((4 : Int32) &&& 31).toUInt32).toInt32).toUInt32 >>> ((2 : Int32) &&& 31).toUInt32).toInt32).toUInt32 >>> ((1 : Int32) &&& 31).toUInt32).toInt32))])) _
                refine XS.icmpYes X0.here hx rfl (pc0 := 74) (pc' := 80) rfl (hb hby d5_74) rfl (tlt hc74_126).1 (by decide) (by decide) ?_
                show Steps p.tables e below (s₁.setTop (mkF m 80 #[.val (.int p0), .val (.int (((((((((((p0 - (1 : Int32)).toUInt32 >>> ((16 : Int32) &&& 31).toUInt32).toInt32).toUInt32 >>> ((8 : Int32) &&& 31).toUInt32).toInt32).toUInt32 >>> ((4 : Int32) &&& 31).toUInt32).toInt32).toUInt32 >>> ((2 : Int32) &&& 31).toUInt32).toInt32).toUInt32 >>> ((1 : Int32) &&& 31).toUInt32).toInt32)), .val (.int ((((((0 : Int32) + (16 : Int32)) + (8 : Int32)) + (4 : Int32)) + (2 : Int32)) + (1 : Int32)))] [])) _
                refine XS.iloadN X0.here hx rfl (hb hby d5_80) rfl ?_
                show Steps p.tables e below (s₁.setTop (mkF m 81 #[.val (.int p0), .val (.int (((((((((((p0 - (1 : Int32)).toUInt32 >>> ((16 : Int32) &&& 31).toUInt32).toInt32).toUInt32 >>> ((8 : Int32) &&& 31).toUInt32).toInt32).toUInt32 >>> ((4 : Int32) &&& 31).toUInt32).toInt32).toUInt32 >>> ((2 : Int32) &&& 31).toUInt32).toInt32).toUInt32 >>> ((1 : Int32) &&& 31).toUInt32).toInt32)), .val (.int ((((((0 : Int32) + (16 : Int32)) + (8 : Int32)) + (4 : Int32)) + (2 : Int32)) + (1 : Int32)))] [(.int ((((((0 : Int32) + (16 : Int32)) + (8 : Int32)) + (4 : Int32)) + (2 : Int32)) + (1 : Int32)))])) _
                exact retI X0 hx Bd.returns (hb hby d5_81) hr
              · show Q5 Z p0 h0 n0 _ s₁.heap _
                rw [e0]
                exact ⟨by rw [f5, if_neg hc9_2, if_neg hc24_66, if_neg hc38_98, if_neg hc50_114, if_neg hc62_122, if_pos hc74_126], N0, rfl⟩
            · skip
              obtain ⟨fs, hr, hrun, hended, hW, hsame⟩ := X0.leave (v := some (.int (((((((0 : Int32) + (16 : Int32)) + (8 : Int32)) + (4 : Int32)) + (2 : Int32)) + (1 : Int32)) + (1 : Int32)))) (fun h => by rw [Bd.returns] at h; cases h)
              refine ⟨_, _, G125 _ ?_, hrun, hended, _, _, rfl, ?_, ⟨_, rfl⟩, hW, hsame.mono (by decide) (by decide)⟩
              · skip
                show Steps p.tables e below (s₁.setTop (mkF m 74 #[.val (.int p0), .val (.int (((((((((((p0 - (1 : Int32)).toUInt32 >>> ((16 : Int32) &&& 31).toUInt32).toInt32).toUInt32 >>> ((8 : Int32) &&& 31).toUInt32).toInt32).toUInt32 >>> ((4 : Int32) &&& 31).toUInt32).toInt32).toUInt32 >>> ((2 : Int32) &&& 31).toUInt32).toInt32).toUInt32 >>> ((1 : Int32) &&& 31).toUInt32).toInt32)), .val (.int ((((((0 : Int32) + (16 : Int32)) + (8 : Int32)) + (4 : Int32)) + (2 : Int32)) + (1 : Int32)))] [(.int (1 : Int32)), (.int (((((((((((p0 - (1 : Int32)).toUInt32 >>> ((16 : Int32) &&& 31).toUInt32).toInt32).toUInt32 >>> ((8 : Int32) &&& 31).toUInt32).toInt32).toUInt32 >>> ((4 : Int32) &&& 31).toUInt32).toInt32).toUInt32 >>> ((2 : Int32) &&& 31).toUInt32).toInt32).toUInt32 >>> ((1 : Int32) &&& 31).toUInt32).toInt32))])) _
                refine XS.icmpNo X0.here hx rfl (hb hby d5_74) rfl (flt hc74_126).1 ?_
                show Steps p.tables e below (s₁.setTop (mkF m 77 #[.val (.int p0), .val (.int (((((((((((p0 - (1 : Int32)).toUInt32 >>> ((16 : Int32) &&& 31).toUInt32).toInt32).toUInt32 >>> ((8 : Int32) &&& 31).toUInt32).toInt32).toUInt32 >>> ((4 : Int32) &&& 31).toUInt32).toInt32).toUInt32 >>> ((2 : Int32) &&& 31).toUInt32).toInt32).toUInt32 >>> ((1 : Int32) &&& 31).toUInt32).toInt32)), .val (.int ((((((0 : Int32) + (16 : Int32)) + (8 : Int32)) + (4 : Int32)) + (2 : Int32)) + (1 : Int32)))] [])) _
                refine XS.iinc X0.here hx rfl (hb hby d5_77) rfl (l' := #[.val (.int p0), .val (.int (((((((((((p0 - (1 : Int32)).toUInt32 >>> ((16 : Int32) &&& 31).toUInt32).toInt32).toUInt32 >>> ((8 : Int32) &&& 31).toUInt32).toInt32).toUInt32 >>> ((4 : Int32) &&& 31).toUInt32).toInt32).toUInt32 >>> ((2 : Int32) &&& 31).toUInt32).toInt32).toUInt32 >>> ((1 : Int32) &&& 31).toUInt32).toInt32)), .val (.int (((((((0 : Int32) + (16 : Int32)) + (8 : Int32)) + (4 : Int32)) + (2 : Int32)) + (1 : Int32)) + (1 : Int32)))]) rfl ?_
                show Steps p.tables e below (s₁.setTop (mkF m 80 #[.val (.int p0), .val (.int (((((((((((p0 - (1 : Int32)).toUInt32 >>> ((16 : Int32) &&& 31).toUInt32).toInt32).toUInt32 >>> ((8 : Int32) &&& 31).toUInt32).toInt32).toUInt32 >>> ((4 : Int32) &&& 31).toUInt32).toInt32).toUInt32 >>> ((2 : Int32) &&& 31).toUInt32).toInt32).toUInt32 >>> ((1 : Int32) &&& 31).toUInt32).toInt32)), .val (.int (((((((0 : Int32) + (16 : Int32)) + (8 : Int32)) + (4 : Int32)) + (2 : Int32)) + (1 : Int32)) + (1 : Int32)))] [])) _
                refine XS.iloadN X0.here hx rfl (hb hby d5_80) rfl ?_
                show Steps p.tables e below (s₁.setTop (mkF m 81 #[.val (.int p0), .val (.int (((((((((((p0 - (1 : Int32)).toUInt32 >>> ((16 : Int32) &&& 31).toUInt32).toInt32).toUInt32 >>> ((8 : Int32) &&& 31).toUInt32).toInt32).toUInt32 >>> ((4 : Int32) &&& 31).toUInt32).toInt32).toUInt32 >>> ((2 : Int32) &&& 31).toUInt32).toInt32).toUInt32 >>> ((1 : Int32) &&& 31).toUInt32).toInt32)), .val (.int (((((((0 : Int32) + (16 : Int32)) + (8 : Int32)) + (4 : Int32)) + (2 : Int32)) + (1 : Int32)) + (1 : Int32)))] [(.int (((((((0 : Int32) + (16 : Int32)) + (8 : Int32)) + (4 : Int32)) + (2 : Int32)) + (1 : Int32)) + (1 : Int32)))])) _
                exact retI X0 hx Bd.returns (hb hby d5_81) hr
              · show Q5 Z p0 h0 n0 _ s₁.heap _
                rw [e0]
                exact ⟨by rw [f5, if_neg hc9_2, if_neg hc24_66, if_neg hc38_98, if_neg hc50_114, if_neg hc62_122, if_neg hc74_126], N0, rfl⟩
theorem own_tail0 (z : Int32) (hz : 1 ≤ z.toInt ∧ z.toInt ≤ 3) : (if z < (2 : Int32) then (if z < (1 : Int32) then ((0 : Int32)) else (((0 : Int32) + (1 : Int32)))) else (if ((z.toUInt32 >>> ((1 : Int32) &&& 31).toUInt32).toInt32) < (1 : Int32) then (((0 : Int32) + (1 : Int32))) else ((((0 : Int32) + (1 : Int32)) + (1 : Int32))))) = (32 : Int32) - ((31 : Int32) - ((z.toUInt32 >>> ((1 : Int32) &&& 31).toUInt32).toInt32)) ∧ 1 ≤ (if z < (2 : Int32) then (if z < (1 : Int32) then ((0 : Int32)) else (((0 : Int32) + (1 : Int32)))) else (if ((z.toUInt32 >>> ((1 : Int32) &&& 31).toUInt32).toInt32) < (1 : Int32) then (((0 : Int32) + (1 : Int32))) else ((((0 : Int32) + (1 : Int32)) + (1 : Int32))))).toInt ∧ (if z < (2 : Int32) then (if z < (1 : Int32) then ((0 : Int32)) else (((0 : Int32) + (1 : Int32)))) else (if ((z.toUInt32 >>> ((1 : Int32) &&& 31).toUInt32).toInt32) < (1 : Int32) then (((0 : Int32) + (1 : Int32))) else ((((0 : Int32) + (1 : Int32)) + (1 : Int32))))).toInt ≤ 31 := by
  have e : z = 1 ∨ z = 2 ∨ z = 3 := by
    have : z.toInt = 1 ∨ z.toInt = 2 ∨ z.toInt = 3 := by omega
    rcases this with h | h | h
    · exact Or.inl (Int32.toInt_inj.mp h)
    · exact Or.inr (Or.inl (Int32.toInt_inj.mp h))
    · exact Or.inr (Or.inr (Int32.toInt_inj.mp h))
  rcases e with rfl | rfl | rfl <;> decide
theorem own_tail2 (z : Int32) (hz : 1 ≤ z.toInt ∧ z.toInt ≤ 3) : (if z < (2 : Int32) then (if z < (1 : Int32) then (((0 : Int32) + (2 : Int32))) else ((((0 : Int32) + (2 : Int32)) + (1 : Int32)))) else (if ((z.toUInt32 >>> ((1 : Int32) &&& 31).toUInt32).toInt32) < (1 : Int32) then ((((0 : Int32) + (2 : Int32)) + (1 : Int32))) else (((((0 : Int32) + (2 : Int32)) + (1 : Int32)) + (1 : Int32))))) = (32 : Int32) - (((31 : Int32) + (-2 : Int32)) - ((z.toUInt32 >>> ((1 : Int32) &&& 31).toUInt32).toInt32)) ∧ 1 ≤ (if z < (2 : Int32) then (if z < (1 : Int32) then (((0 : Int32) + (2 : Int32))) else ((((0 : Int32) + (2 : Int32)) + (1 : Int32)))) else (if ((z.toUInt32 >>> ((1 : Int32) &&& 31).toUInt32).toInt32) < (1 : Int32) then ((((0 : Int32) + (2 : Int32)) + (1 : Int32))) else (((((0 : Int32) + (2 : Int32)) + (1 : Int32)) + (1 : Int32))))).toInt ∧ (if z < (2 : Int32) then (if z < (1 : Int32) then (((0 : Int32) + (2 : Int32))) else ((((0 : Int32) + (2 : Int32)) + (1 : Int32)))) else (if ((z.toUInt32 >>> ((1 : Int32) &&& 31).toUInt32).toInt32) < (1 : Int32) then ((((0 : Int32) + (2 : Int32)) + (1 : Int32))) else (((((0 : Int32) + (2 : Int32)) + (1 : Int32)) + (1 : Int32))))).toInt ≤ 31 := by
  have e : z = 1 ∨ z = 2 ∨ z = 3 := by
    have : z.toInt = 1 ∨ z.toInt = 2 ∨ z.toInt = 3 := by omega
    rcases this with h | h | h
    · exact Or.inl (Int32.toInt_inj.mp h)
    · exact Or.inr (Or.inl (Int32.toInt_inj.mp h))
    · exact Or.inr (Or.inr (Int32.toInt_inj.mp h))
  rcases e with rfl | rfl | rfl <;> decide
theorem own_tail4 (z : Int32) (hz : 1 ≤ z.toInt ∧ z.toInt ≤ 3) : (if z < (2 : Int32) then (if z < (1 : Int32) then (((0 : Int32) + (4 : Int32))) else ((((0 : Int32) + (4 : Int32)) + (1 : Int32)))) else (if ((z.toUInt32 >>> ((1 : Int32) &&& 31).toUInt32).toInt32) < (1 : Int32) then ((((0 : Int32) + (4 : Int32)) + (1 : Int32))) else (((((0 : Int32) + (4 : Int32)) + (1 : Int32)) + (1 : Int32))))) = (32 : Int32) - (((31 : Int32) + (-4 : Int32)) - ((z.toUInt32 >>> ((1 : Int32) &&& 31).toUInt32).toInt32)) ∧ 1 ≤ (if z < (2 : Int32) then (if z < (1 : Int32) then (((0 : Int32) + (4 : Int32))) else ((((0 : Int32) + (4 : Int32)) + (1 : Int32)))) else (if ((z.toUInt32 >>> ((1 : Int32) &&& 31).toUInt32).toInt32) < (1 : Int32) then ((((0 : Int32) + (4 : Int32)) + (1 : Int32))) else (((((0 : Int32) + (4 : Int32)) + (1 : Int32)) + (1 : Int32))))).toInt ∧ (if z < (2 : Int32) then (if z < (1 : Int32) then (((0 : Int32) + (4 : Int32))) else ((((0 : Int32) + (4 : Int32)) + (1 : Int32)))) else (if ((z.toUInt32 >>> ((1 : Int32) &&& 31).toUInt32).toInt32) < (1 : Int32) then ((((0 : Int32) + (4 : Int32)) + (1 : Int32))) else (((((0 : Int32) + (4 : Int32)) + (1 : Int32)) + (1 : Int32))))).toInt ≤ 31 := by
  have e : z = 1 ∨ z = 2 ∨ z = 3 := by
    have : z.toInt = 1 ∨ z.toInt = 2 ∨ z.toInt = 3 := by omega
    rcases this with h | h | h
    · exact Or.inl (Int32.toInt_inj.mp h)
    · exact Or.inr (Or.inl (Int32.toInt_inj.mp h))
    · exact Or.inr (Or.inr (Int32.toInt_inj.mp h))
  rcases e with rfl | rfl | rfl <;> decide
theorem own_tail6 (z : Int32) (hz : 1 ≤ z.toInt ∧ z.toInt ≤ 3) : (if z < (2 : Int32) then (if z < (1 : Int32) then ((((0 : Int32) + (4 : Int32)) + (2 : Int32))) else (((((0 : Int32) + (4 : Int32)) + (2 : Int32)) + (1 : Int32)))) else (if ((z.toUInt32 >>> ((1 : Int32) &&& 31).toUInt32).toInt32) < (1 : Int32) then (((((0 : Int32) + (4 : Int32)) + (2 : Int32)) + (1 : Int32))) else ((((((0 : Int32) + (4 : Int32)) + (2 : Int32)) + (1 : Int32)) + (1 : Int32))))) = (32 : Int32) - ((((31 : Int32) + (-4 : Int32)) + (-2 : Int32)) - ((z.toUInt32 >>> ((1 : Int32) &&& 31).toUInt32).toInt32)) ∧ 1 ≤ (if z < (2 : Int32) then (if z < (1 : Int32) then ((((0 : Int32) + (4 : Int32)) + (2 : Int32))) else (((((0 : Int32) + (4 : Int32)) + (2 : Int32)) + (1 : Int32)))) else (if ((z.toUInt32 >>> ((1 : Int32) &&& 31).toUInt32).toInt32) < (1 : Int32) then (((((0 : Int32) + (4 : Int32)) + (2 : Int32)) + (1 : Int32))) else ((((((0 : Int32) + (4 : Int32)) + (2 : Int32)) + (1 : Int32)) + (1 : Int32))))).toInt ∧ (if z < (2 : Int32) then (if z < (1 : Int32) then ((((0 : Int32) + (4 : Int32)) + (2 : Int32))) else (((((0 : Int32) + (4 : Int32)) + (2 : Int32)) + (1 : Int32)))) else (if ((z.toUInt32 >>> ((1 : Int32) &&& 31).toUInt32).toInt32) < (1 : Int32) then (((((0 : Int32) + (4 : Int32)) + (2 : Int32)) + (1 : Int32))) else ((((((0 : Int32) + (4 : Int32)) + (2 : Int32)) + (1 : Int32)) + (1 : Int32))))).toInt ≤ 31 := by
  have e : z = 1 ∨ z = 2 ∨ z = 3 := by
    have : z.toInt = 1 ∨ z.toInt = 2 ∨ z.toInt = 3 := by omega
    rcases this with h | h | h
    · exact Or.inl (Int32.toInt_inj.mp h)
    · exact Or.inr (Or.inl (Int32.toInt_inj.mp h))
    · exact Or.inr (Or.inr (Int32.toInt_inj.mp h))
  rcases e with rfl | rfl | rfl <;> decide
theorem own_tail8 (z : Int32) (hz : 1 ≤ z.toInt ∧ z.toInt ≤ 3) : (if z < (2 : Int32) then (if z < (1 : Int32) then (((0 : Int32) + (8 : Int32))) else ((((0 : Int32) + (8 : Int32)) + (1 : Int32)))) else (if ((z.toUInt32 >>> ((1 : Int32) &&& 31).toUInt32).toInt32) < (1 : Int32) then ((((0 : Int32) + (8 : Int32)) + (1 : Int32))) else (((((0 : Int32) + (8 : Int32)) + (1 : Int32)) + (1 : Int32))))) = (32 : Int32) - (((31 : Int32) + (-8 : Int32)) - ((z.toUInt32 >>> ((1 : Int32) &&& 31).toUInt32).toInt32)) ∧ 1 ≤ (if z < (2 : Int32) then (if z < (1 : Int32) then (((0 : Int32) + (8 : Int32))) else ((((0 : Int32) + (8 : Int32)) + (1 : Int32)))) else (if ((z.toUInt32 >>> ((1 : Int32) &&& 31).toUInt32).toInt32) < (1 : Int32) then ((((0 : Int32) + (8 : Int32)) + (1 : Int32))) else (((((0 : Int32) + (8 : Int32)) + (1 : Int32)) + (1 : Int32))))).toInt ∧ (if z < (2 : Int32) then (if z < (1 : Int32) then (((0 : Int32) + (8 : Int32))) else ((((0 : Int32) + (8 : Int32)) + (1 : Int32)))) else (if ((z.toUInt32 >>> ((1 : Int32) &&& 31).toUInt32).toInt32) < (1 : Int32) then ((((0 : Int32) + (8 : Int32)) + (1 : Int32))) else (((((0 : Int32) + (8 : Int32)) + (1 : Int32)) + (1 : Int32))))).toInt ≤ 31 := by
  have e : z = 1 ∨ z = 2 ∨ z = 3 := by
    have : z.toInt = 1 ∨ z.toInt = 2 ∨ z.toInt = 3 := by omega
    rcases this with h | h | h
    · exact Or.inl (Int32.toInt_inj.mp h)
    · exact Or.inr (Or.inl (Int32.toInt_inj.mp h))
    · exact Or.inr (Or.inr (Int32.toInt_inj.mp h))
  rcases e with rfl | rfl | rfl <;> decide
theorem own_tail10 (z : Int32) (hz : 1 ≤ z.toInt ∧ z.toInt ≤ 3) : (if z < (2 : Int32) then (if z < (1 : Int32) then ((((0 : Int32) + (8 : Int32)) + (2 : Int32))) else (((((0 : Int32) + (8 : Int32)) + (2 : Int32)) + (1 : Int32)))) else (if ((z.toUInt32 >>> ((1 : Int32) &&& 31).toUInt32).toInt32) < (1 : Int32) then (((((0 : Int32) + (8 : Int32)) + (2 : Int32)) + (1 : Int32))) else ((((((0 : Int32) + (8 : Int32)) + (2 : Int32)) + (1 : Int32)) + (1 : Int32))))) = (32 : Int32) - ((((31 : Int32) + (-8 : Int32)) + (-2 : Int32)) - ((z.toUInt32 >>> ((1 : Int32) &&& 31).toUInt32).toInt32)) ∧ 1 ≤ (if z < (2 : Int32) then (if z < (1 : Int32) then ((((0 : Int32) + (8 : Int32)) + (2 : Int32))) else (((((0 : Int32) + (8 : Int32)) + (2 : Int32)) + (1 : Int32)))) else (if ((z.toUInt32 >>> ((1 : Int32) &&& 31).toUInt32).toInt32) < (1 : Int32) then (((((0 : Int32) + (8 : Int32)) + (2 : Int32)) + (1 : Int32))) else ((((((0 : Int32) + (8 : Int32)) + (2 : Int32)) + (1 : Int32)) + (1 : Int32))))).toInt ∧ (if z < (2 : Int32) then (if z < (1 : Int32) then ((((0 : Int32) + (8 : Int32)) + (2 : Int32))) else (((((0 : Int32) + (8 : Int32)) + (2 : Int32)) + (1 : Int32)))) else (if ((z.toUInt32 >>> ((1 : Int32) &&& 31).toUInt32).toInt32) < (1 : Int32) then (((((0 : Int32) + (8 : Int32)) + (2 : Int32)) + (1 : Int32))) else ((((((0 : Int32) + (8 : Int32)) + (2 : Int32)) + (1 : Int32)) + (1 : Int32))))).toInt ≤ 31 := by
  have e : z = 1 ∨ z = 2 ∨ z = 3 := by
    have : z.toInt = 1 ∨ z.toInt = 2 ∨ z.toInt = 3 := by omega
    rcases this with h | h | h
    · exact Or.inl (Int32.toInt_inj.mp h)
    · exact Or.inr (Or.inl (Int32.toInt_inj.mp h))
    · exact Or.inr (Or.inr (Int32.toInt_inj.mp h))
  rcases e with rfl | rfl | rfl <;> decide
theorem own_tail12 (z : Int32) (hz : 1 ≤ z.toInt ∧ z.toInt ≤ 3) : (if z < (2 : Int32) then (if z < (1 : Int32) then ((((0 : Int32) + (8 : Int32)) + (4 : Int32))) else (((((0 : Int32) + (8 : Int32)) + (4 : Int32)) + (1 : Int32)))) else (if ((z.toUInt32 >>> ((1 : Int32) &&& 31).toUInt32).toInt32) < (1 : Int32) then (((((0 : Int32) + (8 : Int32)) + (4 : Int32)) + (1 : Int32))) else ((((((0 : Int32) + (8 : Int32)) + (4 : Int32)) + (1 : Int32)) + (1 : Int32))))) = (32 : Int32) - ((((31 : Int32) + (-8 : Int32)) + (-4 : Int32)) - ((z.toUInt32 >>> ((1 : Int32) &&& 31).toUInt32).toInt32)) ∧ 1 ≤ (if z < (2 : Int32) then (if z < (1 : Int32) then ((((0 : Int32) + (8 : Int32)) + (4 : Int32))) else (((((0 : Int32) + (8 : Int32)) + (4 : Int32)) + (1 : Int32)))) else (if ((z.toUInt32 >>> ((1 : Int32) &&& 31).toUInt32).toInt32) < (1 : Int32) then (((((0 : Int32) + (8 : Int32)) + (4 : Int32)) + (1 : Int32))) else ((((((0 : Int32) + (8 : Int32)) + (4 : Int32)) + (1 : Int32)) + (1 : Int32))))).toInt ∧ (if z < (2 : Int32) then (if z < (1 : Int32) then ((((0 : Int32) + (8 : Int32)) + (4 : Int32))) else (((((0 : Int32) + (8 : Int32)) + (4 : Int32)) + (1 : Int32)))) else (if ((z.toUInt32 >>> ((1 : Int32) &&& 31).toUInt32).toInt32) < (1 : Int32) then (((((0 : Int32) + (8 : Int32)) + (4 : Int32)) + (1 : Int32))) else ((((((0 : Int32) + (8 : Int32)) + (4 : Int32)) + (1 : Int32)) + (1 : Int32))))).toInt ≤ 31 := by
  have e : z = 1 ∨ z = 2 ∨ z = 3 := by
    have : z.toInt = 1 ∨ z.toInt = 2 ∨ z.toInt = 3 := by omega
    rcases this with h | h | h
    · exact Or.inl (Int32.toInt_inj.mp h)
    · exact Or.inr (Or.inl (Int32.toInt_inj.mp h))
    · exact Or.inr (Or.inr (Int32.toInt_inj.mp h))
  rcases e with rfl | rfl | rfl <;> decide
theorem own_tail14 (z : Int32) (hz : 1 ≤ z.toInt ∧ z.toInt ≤ 3) : (if z < (2 : Int32) then (if z < (1 : Int32) then (((((0 : Int32) + (8 : Int32)) + (4 : Int32)) + (2 : Int32))) else ((((((0 : Int32) + (8 : Int32)) + (4 : Int32)) + (2 : Int32)) + (1 : Int32)))) else (if ((z.toUInt32 >>> ((1 : Int32) &&& 31).toUInt32).toInt32) < (1 : Int32) then ((((((0 : Int32) + (8 : Int32)) + (4 : Int32)) + (2 : Int32)) + (1 : Int32))) else (((((((0 : Int32) + (8 : Int32)) + (4 : Int32)) + (2 : Int32)) + (1 : Int32)) + (1 : Int32))))) = (32 : Int32) - (((((31 : Int32) + (-8 : Int32)) + (-4 : Int32)) + (-2 : Int32)) - ((z.toUInt32 >>> ((1 : Int32) &&& 31).toUInt32).toInt32)) ∧ 1 ≤ (if z < (2 : Int32) then (if z < (1 : Int32) then (((((0 : Int32) + (8 : Int32)) + (4 : Int32)) + (2 : Int32))) else ((((((0 : Int32) + (8 : Int32)) + (4 : Int32)) + (2 : Int32)) + (1 : Int32)))) else (if ((z.toUInt32 >>> ((1 : Int32) &&& 31).toUInt32).toInt32) < (1 : Int32) then ((((((0 : Int32) + (8 : Int32)) + (4 : Int32)) + (2 : Int32)) + (1 : Int32))) else (((((((0 : Int32) + (8 : Int32)) + (4 : Int32)) + (2 : Int32)) + (1 : Int32)) + (1 : Int32))))).toInt ∧ (if z < (2 : Int32) then (if z < (1 : Int32) then (((((0 : Int32) + (8 : Int32)) + (4 : Int32)) + (2 : Int32))) else ((((((0 : Int32) + (8 : Int32)) + (4 : Int32)) + (2 : Int32)) + (1 : Int32)))) else (if ((z.toUInt32 >>> ((1 : Int32) &&& 31).toUInt32).toInt32) < (1 : Int32) then ((((((0 : Int32) + (8 : Int32)) + (4 : Int32)) + (2 : Int32)) + (1 : Int32))) else (((((((0 : Int32) + (8 : Int32)) + (4 : Int32)) + (2 : Int32)) + (1 : Int32)) + (1 : Int32))))).toInt ≤ 31 := by
  have e : z = 1 ∨ z = 2 ∨ z = 3 := by
    have : z.toInt = 1 ∨ z.toInt = 2 ∨ z.toInt = 3 := by omega
    rcases this with h | h | h
    · exact Or.inl (Int32.toInt_inj.mp h)
    · exact Or.inr (Or.inl (Int32.toInt_inj.mp h))
    · exact Or.inr (Or.inr (Int32.toInt_inj.mp h))
  rcases e with rfl | rfl | rfl <;> decide
theorem own_tail16 (z : Int32) (hz : 1 ≤ z.toInt ∧ z.toInt ≤ 3) : (if z < (2 : Int32) then (if z < (1 : Int32) then (((0 : Int32) + (16 : Int32))) else ((((0 : Int32) + (16 : Int32)) + (1 : Int32)))) else (if ((z.toUInt32 >>> ((1 : Int32) &&& 31).toUInt32).toInt32) < (1 : Int32) then ((((0 : Int32) + (16 : Int32)) + (1 : Int32))) else (((((0 : Int32) + (16 : Int32)) + (1 : Int32)) + (1 : Int32))))) = (32 : Int32) - (((31 : Int32) + (-16 : Int32)) - ((z.toUInt32 >>> ((1 : Int32) &&& 31).toUInt32).toInt32)) ∧ 1 ≤ (if z < (2 : Int32) then (if z < (1 : Int32) then (((0 : Int32) + (16 : Int32))) else ((((0 : Int32) + (16 : Int32)) + (1 : Int32)))) else (if ((z.toUInt32 >>> ((1 : Int32) &&& 31).toUInt32).toInt32) < (1 : Int32) then ((((0 : Int32) + (16 : Int32)) + (1 : Int32))) else (((((0 : Int32) + (16 : Int32)) + (1 : Int32)) + (1 : Int32))))).toInt ∧ (if z < (2 : Int32) then (if z < (1 : Int32) then (((0 : Int32) + (16 : Int32))) else ((((0 : Int32) + (16 : Int32)) + (1 : Int32)))) else (if ((z.toUInt32 >>> ((1 : Int32) &&& 31).toUInt32).toInt32) < (1 : Int32) then ((((0 : Int32) + (16 : Int32)) + (1 : Int32))) else (((((0 : Int32) + (16 : Int32)) + (1 : Int32)) + (1 : Int32))))).toInt ≤ 31 := by
  have e : z = 1 ∨ z = 2 ∨ z = 3 := by
    have : z.toInt = 1 ∨ z.toInt = 2 ∨ z.toInt = 3 := by omega
    rcases this with h | h | h
    · exact Or.inl (Int32.toInt_inj.mp h)
    · exact Or.inr (Or.inl (Int32.toInt_inj.mp h))
    · exact Or.inr (Or.inr (Int32.toInt_inj.mp h))
  rcases e with rfl | rfl | rfl <;> decide
theorem own_tail18 (z : Int32) (hz : 1 ≤ z.toInt ∧ z.toInt ≤ 3) : (if z < (2 : Int32) then (if z < (1 : Int32) then ((((0 : Int32) + (16 : Int32)) + (2 : Int32))) else (((((0 : Int32) + (16 : Int32)) + (2 : Int32)) + (1 : Int32)))) else (if ((z.toUInt32 >>> ((1 : Int32) &&& 31).toUInt32).toInt32) < (1 : Int32) then (((((0 : Int32) + (16 : Int32)) + (2 : Int32)) + (1 : Int32))) else ((((((0 : Int32) + (16 : Int32)) + (2 : Int32)) + (1 : Int32)) + (1 : Int32))))) = (32 : Int32) - ((((31 : Int32) + (-16 : Int32)) + (-2 : Int32)) - ((z.toUInt32 >>> ((1 : Int32) &&& 31).toUInt32).toInt32)) ∧ 1 ≤ (if z < (2 : Int32) then (if z < (1 : Int32) then ((((0 : Int32) + (16 : Int32)) + (2 : Int32))) else (((((0 : Int32) + (16 : Int32)) + (2 : Int32)) + (1 : Int32)))) else (if ((z.toUInt32 >>> ((1 : Int32) &&& 31).toUInt32).toInt32) < (1 : Int32) then (((((0 : Int32) + (16 : Int32)) + (2 : Int32)) + (1 : Int32))) else ((((((0 : Int32) + (16 : Int32)) + (2 : Int32)) + (1 : Int32)) + (1 : Int32))))).toInt ∧ (if z < (2 : Int32) then (if z < (1 : Int32) then ((((0 : Int32) + (16 : Int32)) + (2 : Int32))) else (((((0 : Int32) + (16 : Int32)) + (2 : Int32)) + (1 : Int32)))) else (if ((z.toUInt32 >>> ((1 : Int32) &&& 31).toUInt32).toInt32) < (1 : Int32) then (((((0 : Int32) + (16 : Int32)) + (2 : Int32)) + (1 : Int32))) else ((((((0 : Int32) + (16 : Int32)) + (2 : Int32)) + (1 : Int32)) + (1 : Int32))))).toInt ≤ 31 := by
  have e : z = 1 ∨ z = 2 ∨ z = 3 := by
    have : z.toInt = 1 ∨ z.toInt = 2 ∨ z.toInt = 3 := by omega
    rcases this with h | h | h
    · exact Or.inl (Int32.toInt_inj.mp h)
    · exact Or.inr (Or.inl (Int32.toInt_inj.mp h))
    · exact Or.inr (Or.inr (Int32.toInt_inj.mp h))
  rcases e with rfl | rfl | rfl <;> decide
theorem own_tail20 (z : Int32) (hz : 1 ≤ z.toInt ∧ z.toInt ≤ 3) : (if z < (2 : Int32) then (if z < (1 : Int32) then ((((0 : Int32) + (16 : Int32)) + (4 : Int32))) else (((((0 : Int32) + (16 : Int32)) + (4 : Int32)) + (1 : Int32)))) else (if ((z.toUInt32 >>> ((1 : Int32) &&& 31).toUInt32).toInt32) < (1 : Int32) then (((((0 : Int32) + (16 : Int32)) + (4 : Int32)) + (1 : Int32))) else ((((((0 : Int32) + (16 : Int32)) + (4 : Int32)) + (1 : Int32)) + (1 : Int32))))) = (32 : Int32) - ((((31 : Int32) + (-16 : Int32)) + (-4 : Int32)) - ((z.toUInt32 >>> ((1 : Int32) &&& 31).toUInt32).toInt32)) ∧ 1 ≤ (if z < (2 : Int32) then (if z < (1 : Int32) then ((((0 : Int32) + (16 : Int32)) + (4 : Int32))) else (((((0 : Int32) + (16 : Int32)) + (4 : Int32)) + (1 : Int32)))) else (if ((z.toUInt32 >>> ((1 : Int32) &&& 31).toUInt32).toInt32) < (1 : Int32) then (((((0 : Int32) + (16 : Int32)) + (4 : Int32)) + (1 : Int32))) else ((((((0 : Int32) + (16 : Int32)) + (4 : Int32)) + (1 : Int32)) + (1 : Int32))))).toInt ∧ (if z < (2 : Int32) then (if z < (1 : Int32) then ((((0 : Int32) + (16 : Int32)) + (4 : Int32))) else (((((0 : Int32) + (16 : Int32)) + (4 : Int32)) + (1 : Int32)))) else (if ((z.toUInt32 >>> ((1 : Int32) &&& 31).toUInt32).toInt32) < (1 : Int32) then (((((0 : Int32) + (16 : Int32)) + (4 : Int32)) + (1 : Int32))) else ((((((0 : Int32) + (16 : Int32)) + (4 : Int32)) + (1 : Int32)) + (1 : Int32))))).toInt ≤ 31 := by
  have e : z = 1 ∨ z = 2 ∨ z = 3 := by
    have : z.toInt = 1 ∨ z.toInt = 2 ∨ z.toInt = 3 := by omega
    rcases this with h | h | h
    · exact Or.inl (Int32.toInt_inj.mp h)
    · exact Or.inr (Or.inl (Int32.toInt_inj.mp h))
    · exact Or.inr (Or.inr (Int32.toInt_inj.mp h))
  rcases e with rfl | rfl | rfl <;> decide
theorem own_tail22 (z : Int32) (hz : 1 ≤ z.toInt ∧ z.toInt ≤ 3) : (if z < (2 : Int32) then (if z < (1 : Int32) then (((((0 : Int32) + (16 : Int32)) + (4 : Int32)) + (2 : Int32))) else ((((((0 : Int32) + (16 : Int32)) + (4 : Int32)) + (2 : Int32)) + (1 : Int32)))) else (if ((z.toUInt32 >>> ((1 : Int32) &&& 31).toUInt32).toInt32) < (1 : Int32) then ((((((0 : Int32) + (16 : Int32)) + (4 : Int32)) + (2 : Int32)) + (1 : Int32))) else (((((((0 : Int32) + (16 : Int32)) + (4 : Int32)) + (2 : Int32)) + (1 : Int32)) + (1 : Int32))))) = (32 : Int32) - (((((31 : Int32) + (-16 : Int32)) + (-4 : Int32)) + (-2 : Int32)) - ((z.toUInt32 >>> ((1 : Int32) &&& 31).toUInt32).toInt32)) ∧ 1 ≤ (if z < (2 : Int32) then (if z < (1 : Int32) then (((((0 : Int32) + (16 : Int32)) + (4 : Int32)) + (2 : Int32))) else ((((((0 : Int32) + (16 : Int32)) + (4 : Int32)) + (2 : Int32)) + (1 : Int32)))) else (if ((z.toUInt32 >>> ((1 : Int32) &&& 31).toUInt32).toInt32) < (1 : Int32) then ((((((0 : Int32) + (16 : Int32)) + (4 : Int32)) + (2 : Int32)) + (1 : Int32))) else (((((((0 : Int32) + (16 : Int32)) + (4 : Int32)) + (2 : Int32)) + (1 : Int32)) + (1 : Int32))))).toInt ∧ (if z < (2 : Int32) then (if z < (1 : Int32) then (((((0 : Int32) + (16 : Int32)) + (4 : Int32)) + (2 : Int32))) else ((((((0 : Int32) + (16 : Int32)) + (4 : Int32)) + (2 : Int32)) + (1 : Int32)))) else (if ((z.toUInt32 >>> ((1 : Int32) &&& 31).toUInt32).toInt32) < (1 : Int32) then ((((((0 : Int32) + (16 : Int32)) + (4 : Int32)) + (2 : Int32)) + (1 : Int32))) else (((((((0 : Int32) + (16 : Int32)) + (4 : Int32)) + (2 : Int32)) + (1 : Int32)) + (1 : Int32))))).toInt ≤ 31 := by
  have e : z = 1 ∨ z = 2 ∨ z = 3 := by
    have : z.toInt = 1 ∨ z.toInt = 2 ∨ z.toInt = 3 := by omega
    rcases this with h | h | h
    · exact Or.inl (Int32.toInt_inj.mp h)
    · exact Or.inr (Or.inl (Int32.toInt_inj.mp h))
    · exact Or.inr (Or.inr (Int32.toInt_inj.mp h))
  rcases e with rfl | rfl | rfl <;> decide
theorem own_tail24 (z : Int32) (hz : 1 ≤ z.toInt ∧ z.toInt ≤ 3) : (if z < (2 : Int32) then (if z < (1 : Int32) then ((((0 : Int32) + (16 : Int32)) + (8 : Int32))) else (((((0 : Int32) + (16 : Int32)) + (8 : Int32)) + (1 : Int32)))) else (if ((z.toUInt32 >>> ((1 : Int32) &&& 31).toUInt32).toInt32) < (1 : Int32) then (((((0 : Int32) + (16 : Int32)) + (8 : Int32)) + (1 : Int32))) else ((((((0 : Int32) + (16 : Int32)) + (8 : Int32)) + (1 : Int32)) + (1 : Int32))))) = (32 : Int32) - ((((31 : Int32) + (-16 : Int32)) + (-8 : Int32)) - ((z.toUInt32 >>> ((1 : Int32) &&& 31).toUInt32).toInt32)) ∧ 1 ≤ (if z < (2 : Int32) then (if z < (1 : Int32) then ((((0 : Int32) + (16 : Int32)) + (8 : Int32))) else (((((0 : Int32) + (16 : Int32)) + (8 : Int32)) + (1 : Int32)))) else (if ((z.toUInt32 >>> ((1 : Int32) &&& 31).toUInt32).toInt32) < (1 : Int32) then (((((0 : Int32) + (16 : Int32)) + (8 : Int32)) + (1 : Int32))) else ((((((0 : Int32) + (16 : Int32)) + (8 : Int32)) + (1 : Int32)) + (1 : Int32))))).toInt ∧ (if z < (2 : Int32) then (if z < (1 : Int32) then ((((0 : Int32) + (16 : Int32)) + (8 : Int32))) else (((((0 : Int32) + (16 : Int32)) + (8 : Int32)) + (1 : Int32)))) else (if ((z.toUInt32 >>> ((1 : Int32) &&& 31).toUInt32).toInt32) < (1 : Int32) then (((((0 : Int32) + (16 : Int32)) + (8 : Int32)) + (1 : Int32))) else ((((((0 : Int32) + (16 : Int32)) + (8 : Int32)) + (1 : Int32)) + (1 : Int32))))).toInt ≤ 31 := by
  have e : z = 1 ∨ z = 2 ∨ z = 3 := by
    have : z.toInt = 1 ∨ z.toInt = 2 ∨ z.toInt = 3 := by omega
    rcases this with h | h | h
    · exact Or.inl (Int32.toInt_inj.mp h)
    · exact Or.inr (Or.inl (Int32.toInt_inj.mp h))
    · exact Or.inr (Or.inr (Int32.toInt_inj.mp h))
  rcases e with rfl | rfl | rfl <;> decide
theorem own_tail26 (z : Int32) (hz : 1 ≤ z.toInt ∧ z.toInt ≤ 3) : (if z < (2 : Int32) then (if z < (1 : Int32) then (((((0 : Int32) + (16 : Int32)) + (8 : Int32)) + (2 : Int32))) else ((((((0 : Int32) + (16 : Int32)) + (8 : Int32)) + (2 : Int32)) + (1 : Int32)))) else (if ((z.toUInt32 >>> ((1 : Int32) &&& 31).toUInt32).toInt32) < (1 : Int32) then ((((((0 : Int32) + (16 : Int32)) + (8 : Int32)) + (2 : Int32)) + (1 : Int32))) else (((((((0 : Int32) + (16 : Int32)) + (8 : Int32)) + (2 : Int32)) + (1 : Int32)) + (1 : Int32))))) = (32 : Int32) - (((((31 : Int32) + (-16 : Int32)) + (-8 : Int32)) + (-2 : Int32)) - ((z.toUInt32 >>> ((1 : Int32) &&& 31).toUInt32).toInt32)) ∧ 1 ≤ (if z < (2 : Int32) then (if z < (1 : Int32) then (((((0 : Int32) + (16 : Int32)) + (8 : Int32)) + (2 : Int32))) else ((((((0 : Int32) + (16 : Int32)) + (8 : Int32)) + (2 : Int32)) + (1 : Int32)))) else (if ((z.toUInt32 >>> ((1 : Int32) &&& 31).toUInt32).toInt32) < (1 : Int32) then ((((((0 : Int32) + (16 : Int32)) + (8 : Int32)) + (2 : Int32)) + (1 : Int32))) else (((((((0 : Int32) + (16 : Int32)) + (8 : Int32)) + (2 : Int32)) + (1 : Int32)) + (1 : Int32))))).toInt ∧ (if z < (2 : Int32) then (if z < (1 : Int32) then (((((0 : Int32) + (16 : Int32)) + (8 : Int32)) + (2 : Int32))) else ((((((0 : Int32) + (16 : Int32)) + (8 : Int32)) + (2 : Int32)) + (1 : Int32)))) else (if ((z.toUInt32 >>> ((1 : Int32) &&& 31).toUInt32).toInt32) < (1 : Int32) then ((((((0 : Int32) + (16 : Int32)) + (8 : Int32)) + (2 : Int32)) + (1 : Int32))) else (((((((0 : Int32) + (16 : Int32)) + (8 : Int32)) + (2 : Int32)) + (1 : Int32)) + (1 : Int32))))).toInt ≤ 31 := by
  have e : z = 1 ∨ z = 2 ∨ z = 3 := by
    have : z.toInt = 1 ∨ z.toInt = 2 ∨ z.toInt = 3 := by omega
    rcases this with h | h | h
    · exact Or.inl (Int32.toInt_inj.mp h)
    · exact Or.inr (Or.inl (Int32.toInt_inj.mp h))
    · exact Or.inr (Or.inr (Int32.toInt_inj.mp h))
  rcases e with rfl | rfl | rfl <;> decide
theorem own_tail28 (z : Int32) (hz : 1 ≤ z.toInt ∧ z.toInt ≤ 3) : (if z < (2 : Int32) then (if z < (1 : Int32) then (((((0 : Int32) + (16 : Int32)) + (8 : Int32)) + (4 : Int32))) else ((((((0 : Int32) + (16 : Int32)) + (8 : Int32)) + (4 : Int32)) + (1 : Int32)))) else (if ((z.toUInt32 >>> ((1 : Int32) &&& 31).toUInt32).toInt32) < (1 : Int32) then ((((((0 : Int32) + (16 : Int32)) + (8 : Int32)) + (4 : Int32)) + (1 : Int32))) else (((((((0 : Int32) + (16 : Int32)) + (8 : Int32)) + (4 : Int32)) + (1 : Int32)) + (1 : Int32))))) = (32 : Int32) - (((((31 : Int32) + (-16 : Int32)) + (-8 : Int32)) + (-4 : Int32)) - ((z.toUInt32 >>> ((1 : Int32) &&& 31).toUInt32).toInt32)) ∧ 1 ≤ (if z < (2 : Int32) then (if z < (1 : Int32) then (((((0 : Int32) + (16 : Int32)) + (8 : Int32)) + (4 : Int32))) else ((((((0 : Int32) + (16 : Int32)) + (8 : Int32)) + (4 : Int32)) + (1 : Int32)))) else (if ((z.toUInt32 >>> ((1 : Int32) &&& 31).toUInt32).toInt32) < (1 : Int32) then ((((((0 : Int32) + (16 : Int32)) + (8 : Int32)) + (4 : Int32)) + (1 : Int32))) else (((((((0 : Int32) + (16 : Int32)) + (8 : Int32)) + (4 : Int32)) + (1 : Int32)) + (1 : Int32))))).toInt ∧ (if z < (2 : Int32) then (if z < (1 : Int32) then (((((0 : Int32) + (16 : Int32)) + (8 : Int32)) + (4 : Int32))) else ((((((0 : Int32) + (16 : Int32)) + (8 : Int32)) + (4 : Int32)) + (1 : Int32)))) else (if ((z.toUInt32 >>> ((1 : Int32) &&& 31).toUInt32).toInt32) < (1 : Int32) then ((((((0 : Int32) + (16 : Int32)) + (8 : Int32)) + (4 : Int32)) + (1 : Int32))) else (((((((0 : Int32) + (16 : Int32)) + (8 : Int32)) + (4 : Int32)) + (1 : Int32)) + (1 : Int32))))).toInt ≤ 31 := by
  have e : z = 1 ∨ z = 2 ∨ z = 3 := by
    have : z.toInt = 1 ∨ z.toInt = 2 ∨ z.toInt = 3 := by omega
    rcases this with h | h | h
    · exact Or.inl (Int32.toInt_inj.mp h)
    · exact Or.inr (Or.inl (Int32.toInt_inj.mp h))
    · exact Or.inr (Or.inr (Int32.toInt_inj.mp h))
  rcases e with rfl | rfl | rfl <;> decide
theorem own_tail30 (z : Int32) (hz : 1 ≤ z.toInt ∧ z.toInt ≤ 1) : (if z < (2 : Int32) then (if z < (1 : Int32) then ((((((0 : Int32) + (16 : Int32)) + (8 : Int32)) + (4 : Int32)) + (2 : Int32))) else (((((((0 : Int32) + (16 : Int32)) + (8 : Int32)) + (4 : Int32)) + (2 : Int32)) + (1 : Int32)))) else (if ((z.toUInt32 >>> ((1 : Int32) &&& 31).toUInt32).toInt32) < (1 : Int32) then (((((((0 : Int32) + (16 : Int32)) + (8 : Int32)) + (4 : Int32)) + (2 : Int32)) + (1 : Int32))) else ((((((((0 : Int32) + (16 : Int32)) + (8 : Int32)) + (4 : Int32)) + (2 : Int32)) + (1 : Int32)) + (1 : Int32))))) = (32 : Int32) - ((((((31 : Int32) + (-16 : Int32)) + (-8 : Int32)) + (-4 : Int32)) + (-2 : Int32)) - ((z.toUInt32 >>> ((1 : Int32) &&& 31).toUInt32).toInt32)) ∧ 1 ≤ (if z < (2 : Int32) then (if z < (1 : Int32) then ((((((0 : Int32) + (16 : Int32)) + (8 : Int32)) + (4 : Int32)) + (2 : Int32))) else (((((((0 : Int32) + (16 : Int32)) + (8 : Int32)) + (4 : Int32)) + (2 : Int32)) + (1 : Int32)))) else (if ((z.toUInt32 >>> ((1 : Int32) &&& 31).toUInt32).toInt32) < (1 : Int32) then (((((((0 : Int32) + (16 : Int32)) + (8 : Int32)) + (4 : Int32)) + (2 : Int32)) + (1 : Int32))) else ((((((((0 : Int32) + (16 : Int32)) + (8 : Int32)) + (4 : Int32)) + (2 : Int32)) + (1 : Int32)) + (1 : Int32))))).toInt ∧ (if z < (2 : Int32) then (if z < (1 : Int32) then ((((((0 : Int32) + (16 : Int32)) + (8 : Int32)) + (4 : Int32)) + (2 : Int32))) else (((((((0 : Int32) + (16 : Int32)) + (8 : Int32)) + (4 : Int32)) + (2 : Int32)) + (1 : Int32)))) else (if ((z.toUInt32 >>> ((1 : Int32) &&& 31).toUInt32).toInt32) < (1 : Int32) then (((((((0 : Int32) + (16 : Int32)) + (8 : Int32)) + (4 : Int32)) + (2 : Int32)) + (1 : Int32))) else ((((((((0 : Int32) + (16 : Int32)) + (8 : Int32)) + (4 : Int32)) + (2 : Int32)) + (1 : Int32)) + (1 : Int32))))).toInt ≤ 31 := by
  have e : z = 1 := by
    have : z.toInt = 1 := by omega
    exact Int32.toInt_inj.mp this
  subst e; decide
def own_f5 (m : Int32) : Int32 := if m < (65536 : Int32) then (if m < (256 : Int32) then (if m < (16 : Int32) then (if m < (4 : Int32) then (if m < (2 : Int32) then (if m < (1 : Int32) then ((0 : Int32)) else (((0 : Int32) + (1 : Int32)))) else (if ((m.toUInt32 >>> ((1 : Int32) &&& 31).toUInt32).toInt32) < (1 : Int32) then (((0 : Int32) + (1 : Int32))) else ((((0 : Int32) + (1 : Int32)) + (1 : Int32))))) else (if ((m.toUInt32 >>> ((2 : Int32) &&& 31).toUInt32).toInt32) < (2 : Int32) then (if ((m.toUInt32 >>> ((2 : Int32) &&& 31).toUInt32).toInt32) < (1 : Int32) then (((0 : Int32) + (2 : Int32))) else ((((0 : Int32) + (2 : Int32)) + (1 : Int32)))) else (if ((((m.toUInt32 >>> ((2 : Int32) &&& 31).toUInt32).toInt32).toUInt32 >>> ((1 : Int32) &&& 31).toUInt32).toInt32) < (1 : Int32) then ((((0 : Int32) + (2 : Int32)) + (1 : Int32))) else (((((0 : Int32) + (2 : Int32)) + (1 : Int32)) + (1 : Int32)))))) else (if ((m.toUInt32 >>> ((4 : Int32) &&& 31).toUInt32).toInt32) < (4 : Int32) then (if ((m.toUInt32 >>> ((4 : Int32) &&& 31).toUInt32).toInt32) < (2 : Int32) then (if ((m.toUInt32 >>> ((4 : Int32) &&& 31).toUInt32).toInt32) < (1 : Int32) then (((0 : Int32) + (4 : Int32))) else ((((0 : Int32) + (4 : Int32)) + (1 : Int32)))) else (if ((((m.toUInt32 >>> ((4 : Int32) &&& 31).toUInt32).toInt32).toUInt32 >>> ((1 : Int32) &&& 31).toUInt32).toInt32) < (1 : Int32) then ((((0 : Int32) + (4 : Int32)) + (1 : Int32))) else (((((0 : Int32) + (4 : Int32)) + (1 : Int32)) + (1 : Int32))))) else (if ((((m.toUInt32 >>> ((4 : Int32) &&& 31).toUInt32).toInt32).toUInt32 >>> ((2 : Int32) &&& 31).toUInt32).toInt32) < (2 : Int32) then (if ((((m.toUInt32 >>> ((4 : Int32) &&& 31).toUInt32).toInt32).toUInt32 >>> ((2 : Int32) &&& 31).toUInt32).toInt32) < (1 : Int32) then ((((0 : Int32) + (4 : Int32)) + (2 : Int32))) else (((((0 : Int32) + (4 : Int32)) + (2 : Int32)) + (1 : Int32)))) else (if ((((((m.toUInt32 >>> ((4 : Int32) &&& 31).toUInt32).toInt32).toUInt32 >>> ((2 : Int32) &&& 31).toUInt32).toInt32).toUInt32 >>> ((1 : Int32) &&& 31).toUInt32).toInt32) < (1 : Int32) then (((((0 : Int32) + (4 : Int32)) + (2 : Int32)) + (1 : Int32))) else ((((((0 : Int32) + (4 : Int32)) + (2 : Int32)) + (1 : Int32)) + (1 : Int32))))))) else (if ((m.toUInt32 >>> ((8 : Int32) &&& 31).toUInt32).toInt32) < (16 : Int32) then (if ((m.toUInt32 >>> ((8 : Int32) &&& 31).toUInt32).toInt32) < (4 : Int32) then (if ((m.toUInt32 >>> ((8 : Int32) &&& 31).toUInt32).toInt32) < (2 : Int32) then (if ((m.toUInt32 >>> ((8 : Int32) &&& 31).toUInt32).toInt32) < (1 : Int32) then (((0 : Int32) + (8 : Int32))) else ((((0 : Int32) + (8 : Int32)) + (1 : Int32)))) else (if ((((m.toUInt32 >>> ((8 : Int32) &&& 31).toUInt32).toInt32).toUInt32 >>> ((1 : Int32) &&& 31).toUInt32).toInt32) < (1 : Int32) then ((((0 : Int32) + (8 : Int32)) + (1 : Int32))) else (((((0 : Int32) + (8 : Int32)) + (1 : Int32)) + (1 : Int32))))) else (if ((((m.toUInt32 >>> ((8 : Int32) &&& 31).toUInt32).toInt32).toUInt32 >>> ((2 : Int32) &&& 31).toUInt32).toInt32) < (2 : Int32) then (if ((((m.toUInt32 >>> ((8 : Int32) &&& 31).toUInt32).toInt32).toUInt32 >>> ((2 : Int32) &&& 31).toUInt32).toInt32) < (1 : Int32) then ((((0 : Int32) + (8 : Int32)) + (2 : Int32))) else (((((0 : Int32) + (8 : Int32)) + (2 : Int32)) + (1 : Int32)))) else (if ((((((m.toUInt32 >>> ((8 : Int32) &&& 31).toUInt32).toInt32).toUInt32 >>> ((2 : Int32) &&& 31).toUInt32).toInt32).toUInt32 >>> ((1 : Int32) &&& 31).toUInt32).toInt32) < (1 : Int32) then (((((0 : Int32) + (8 : Int32)) + (2 : Int32)) + (1 : Int32))) else ((((((0 : Int32) + (8 : Int32)) + (2 : Int32)) + (1 : Int32)) + (1 : Int32)))))) else (if ((((m.toUInt32 >>> ((8 : Int32) &&& 31).toUInt32).toInt32).toUInt32 >>> ((4 : Int32) &&& 31).toUInt32).toInt32) < (4 : Int32) then (if ((((m.toUInt32 >>> ((8 : Int32) &&& 31).toUInt32).toInt32).toUInt32 >>> ((4 : Int32) &&& 31).toUInt32).toInt32) < (2 : Int32) then (if ((((m.toUInt32 >>> ((8 : Int32) &&& 31).toUInt32).toInt32).toUInt32 >>> ((4 : Int32) &&& 31).toUInt32).toInt32) < (1 : Int32) then ((((0 : Int32) + (8 : Int32)) + (4 : Int32))) else (((((0 : Int32) + (8 : Int32)) + (4 : Int32)) + (1 : Int32)))) else (if ((((((m.toUInt32 >>> ((8 : Int32) &&& 31).toUInt32).toInt32).toUInt32 >>> ((4 : Int32) &&& 31).toUInt32).toInt32).toUInt32 >>> ((1 : Int32) &&& 31).toUInt32).toInt32) < (1 : Int32) then (((((0 : Int32) + (8 : Int32)) + (4 : Int32)) + (1 : Int32))) else ((((((0 : Int32) + (8 : Int32)) + (4 : Int32)) + (1 : Int32)) + (1 : Int32))))) else (if ((((((m.toUInt32 >>> ((8 : Int32) &&& 31).toUInt32).toInt32).toUInt32 >>> ((4 : Int32) &&& 31).toUInt32).toInt32).toUInt32 >>> ((2 : Int32) &&& 31).toUInt32).toInt32) < (2 : Int32) then (if ((((((m.toUInt32 >>> ((8 : Int32) &&& 31).toUInt32).toInt32).toUInt32 >>> ((4 : Int32) &&& 31).toUInt32).toInt32).toUInt32 >>> ((2 : Int32) &&& 31).toUInt32).toInt32) < (1 : Int32) then (((((0 : Int32) + (8 : Int32)) + (4 : Int32)) + (2 : Int32))) else ((((((0 : Int32) + (8 : Int32)) + (4 : Int32)) + (2 : Int32)) + (1 : Int32)))) else (if ((((((((m.toUInt32 >>> ((8 : Int32) &&& 31).toUInt32).toInt32).toUInt32 >>> ((4 : Int32) &&& 31).toUInt32).toInt32).toUInt32 >>> ((2 : Int32) &&& 31).toUInt32).toInt32).toUInt32 >>> ((1 : Int32) &&& 31).toUInt32).toInt32) < (1 : Int32) then ((((((0 : Int32) + (8 : Int32)) + (4 : Int32)) + (2 : Int32)) + (1 : Int32))) else (((((((0 : Int32) + (8 : Int32)) + (4 : Int32)) + (2 : Int32)) + (1 : Int32)) + (1 : Int32)))))))) else (if ((m.toUInt32 >>> ((16 : Int32) &&& 31).toUInt32).toInt32) < (256 : Int32) then (if ((m.toUInt32 >>> ((16 : Int32) &&& 31).toUInt32).toInt32) < (16 : Int32) then (if ((m.toUInt32 >>> ((16 : Int32) &&& 31).toUInt32).toInt32) < (4 : Int32) then (if ((m.toUInt32 >>> ((16 : Int32) &&& 31).toUInt32).toInt32) < (2 : Int32) then (if ((m.toUInt32 >>> ((16 : Int32) &&& 31).toUInt32).toInt32) < (1 : Int32) then (((0 : Int32) + (16 : Int32))) else ((((0 : Int32) + (16 : Int32)) + (1 : Int32)))) else (if ((((m.toUInt32 >>> ((16 : Int32) &&& 31).toUInt32).toInt32).toUInt32 >>> ((1 : Int32) &&& 31).toUInt32).toInt32) < (1 : Int32) then ((((0 : Int32) + (16 : Int32)) + (1 : Int32))) else (((((0 : Int32) + (16 : Int32)) + (1 : Int32)) + (1 : Int32))))) else (if ((((m.toUInt32 >>> ((16 : Int32) &&& 31).toUInt32).toInt32).toUInt32 >>> ((2 : Int32) &&& 31).toUInt32).toInt32) < (2 : Int32) then (if ((((m.toUInt32 >>> ((16 : Int32) &&& 31).toUInt32).toInt32).toUInt32 >>> ((2 : Int32) &&& 31).toUInt32).toInt32) < (1 : Int32) then ((((0 : Int32) + (16 : Int32)) + (2 : Int32))) else (((((0 : Int32) + (16 : Int32)) + (2 : Int32)) + (1 : Int32)))) else (if ((((((m.toUInt32 >>> ((16 : Int32) &&& 31).toUInt32).toInt32).toUInt32 >>> ((2 : Int32) &&& 31).toUInt32).toInt32).toUInt32 >>> ((1 : Int32) &&& 31).toUInt32).toInt32) < (1 : Int32) then (((((0 : Int32) + (16 : Int32)) + (2 : Int32)) + (1 : Int32))) else ((((((0 : Int32) + (16 : Int32)) + (2 : Int32)) + (1 : Int32)) + (1 : Int32)))))) else (if ((((m.toUInt32 >>> ((16 : Int32) &&& 31).toUInt32).toInt32).toUInt32 >>> ((4 : Int32) &&& 31).toUInt32).toInt32) < (4 : Int32) then (if ((((m.toUInt32 >>> ((16 : Int32) &&& 31).toUInt32).toInt32).toUInt32 >>> ((4 : Int32) &&& 31).toUInt32).toInt32) < (2 : Int32) then (if ((((m.toUInt32 >>> ((16 : Int32) &&& 31).toUInt32).toInt32).toUInt32 >>> ((4 : Int32) &&& 31).toUInt32).toInt32) < (1 : Int32) then ((((0 : Int32) + (16 : Int32)) + (4 : Int32))) else (((((0 : Int32) + (16 : Int32)) + (4 : Int32)) + (1 : Int32)))) else (if ((((((m.toUInt32 >>> ((16 : Int32) &&& 31).toUInt32).toInt32).toUInt32 >>> ((4 : Int32) &&& 31).toUInt32).toInt32).toUInt32 >>> ((1 : Int32) &&& 31).toUInt32).toInt32) < (1 : Int32) then (((((0 : Int32) + (16 : Int32)) + (4 : Int32)) + (1 : Int32))) else ((((((0 : Int32) + (16 : Int32)) + (4 : Int32)) + (1 : Int32)) + (1 : Int32))))) else (if ((((((m.toUInt32 >>> ((16 : Int32) &&& 31).toUInt32).toInt32).toUInt32 >>> ((4 : Int32) &&& 31).toUInt32).toInt32).toUInt32 >>> ((2 : Int32) &&& 31).toUInt32).toInt32) < (2 : Int32) then (if ((((((m.toUInt32 >>> ((16 : Int32) &&& 31).toUInt32).toInt32).toUInt32 >>> ((4 : Int32) &&& 31).toUInt32).toInt32).toUInt32 >>> ((2 : Int32) &&& 31).toUInt32).toInt32) < (1 : Int32) then (((((0 : Int32) + (16 : Int32)) + (4 : Int32)) + (2 : Int32))) else ((((((0 : Int32) + (16 : Int32)) + (4 : Int32)) + (2 : Int32)) + (1 : Int32)))) else (if ((((((((m.toUInt32 >>> ((16 : Int32) &&& 31).toUInt32).toInt32).toUInt32 >>> ((4 : Int32) &&& 31).toUInt32).toInt32).toUInt32 >>> ((2 : Int32) &&& 31).toUInt32).toInt32).toUInt32 >>> ((1 : Int32) &&& 31).toUInt32).toInt32) < (1 : Int32) then ((((((0 : Int32) + (16 : Int32)) + (4 : Int32)) + (2 : Int32)) + (1 : Int32))) else (((((((0 : Int32) + (16 : Int32)) + (4 : Int32)) + (2 : Int32)) + (1 : Int32)) + (1 : Int32))))))) else (if ((((m.toUInt32 >>> ((16 : Int32) &&& 31).toUInt32).toInt32).toUInt32 >>> ((8 : Int32) &&& 31).toUInt32).toInt32) < (16 : Int32) then (if ((((m.toUInt32 >>> ((16 : Int32) &&& 31).toUInt32).toInt32).toUInt32 >>> ((8 : Int32) &&& 31).toUInt32).toInt32) < (4 : Int32) then (if ((((m.toUInt32 >>> ((16 : Int32) &&& 31).toUInt32).toInt32).toUInt32 >>> ((8 : Int32) &&& 31).toUInt32).toInt32) < (2 : Int32) then (if ((((m.toUInt32 >>> ((16 : Int32) &&& 31).toUInt32).toInt32).toUInt32 >>> ((8 : Int32) &&& 31).toUInt32).toInt32) < (1 : Int32) then ((((0 : Int32) + (16 : Int32)) + (8 : Int32))) else (((((0 : Int32) + (16 : Int32)) + (8 : Int32)) + (1 : Int32)))) else (if ((((((m.toUInt32 >>> ((16 : Int32) &&& 31).toUInt32).toInt32).toUInt32 >>> ((8 : Int32) &&& 31).toUInt32).toInt32).toUInt32 >>> ((1 : Int32) &&& 31).toUInt32).toInt32) < (1 : Int32) then (((((0 : Int32) + (16 : Int32)) + (8 : Int32)) + (1 : Int32))) else ((((((0 : Int32) + (16 : Int32)) + (8 : Int32)) + (1 : Int32)) + (1 : Int32))))) else (if ((((((m.toUInt32 >>> ((16 : Int32) &&& 31).toUInt32).toInt32).toUInt32 >>> ((8 : Int32) &&& 31).toUInt32).toInt32).toUInt32 >>> ((2 : Int32) &&& 31).toUInt32).toInt32) < (2 : Int32) then (if ((((((m.toUInt32 >>> ((16 : Int32) &&& 31).toUInt32).toInt32).toUInt32 >>> ((8 : Int32) &&& 31).toUInt32).toInt32).toUInt32 >>> ((2 : Int32) &&& 31).toUInt32).toInt32) < (1 : Int32) then (((((0 : Int32) + (16 : Int32)) + (8 : Int32)) + (2 : Int32))) else ((((((0 : Int32) + (16 : Int32)) + (8 : Int32)) + (2 : Int32)) + (1 : Int32)))) else (if ((((((((m.toUInt32 >>> ((16 : Int32) &&& 31).toUInt32).toInt32).toUInt32 >>> ((8 : Int32) &&& 31).toUInt32).toInt32).toUInt32 >>> ((2 : Int32) &&& 31).toUInt32).toInt32).toUInt32 >>> ((1 : Int32) &&& 31).toUInt32).toInt32) < (1 : Int32) then ((((((0 : Int32) + (16 : Int32)) + (8 : Int32)) + (2 : Int32)) + (1 : Int32))) else (((((((0 : Int32) + (16 : Int32)) + (8 : Int32)) + (2 : Int32)) + (1 : Int32)) + (1 : Int32)))))) else (if ((((((m.toUInt32 >>> ((16 : Int32) &&& 31).toUInt32).toInt32).toUInt32 >>> ((8 : Int32) &&& 31).toUInt32).toInt32).toUInt32 >>> ((4 : Int32) &&& 31).toUInt32).toInt32) < (4 : Int32) then (if ((((((m.toUInt32 >>> ((16 : Int32) &&& 31).toUInt32).toInt32).toUInt32 >>> ((8 : Int32) &&& 31).toUInt32).toInt32).toUInt32 >>> ((4 : Int32) &&& 31).toUInt32).toInt32) < (2 : Int32) then (if ((((((m.toUInt32 >>> ((16 : Int32) &&& 31).toUInt32).toInt32).toUInt32 >>> ((8 : Int32) &&& 31).toUInt32).toInt32).toUInt32 >>> ((4 : Int32) &&& 31).toUInt32).toInt32) < (1 : Int32) then (((((0 : Int32) + (16 : Int32)) + (8 : Int32)) + (4 : Int32))) else ((((((0 : Int32) + (16 : Int32)) + (8 : Int32)) + (4 : Int32)) + (1 : Int32)))) else (if ((((((((m.toUInt32 >>> ((16 : Int32) &&& 31).toUInt32).toInt32).toUInt32 >>> ((8 : Int32) &&& 31).toUInt32).toInt32).toUInt32 >>> ((4 : Int32) &&& 31).toUInt32).toInt32).toUInt32 >>> ((1 : Int32) &&& 31).toUInt32).toInt32) < (1 : Int32) then ((((((0 : Int32) + (16 : Int32)) + (8 : Int32)) + (4 : Int32)) + (1 : Int32))) else (((((((0 : Int32) + (16 : Int32)) + (8 : Int32)) + (4 : Int32)) + (1 : Int32)) + (1 : Int32))))) else (if ((((((((m.toUInt32 >>> ((16 : Int32) &&& 31).toUInt32).toInt32).toUInt32 >>> ((8 : Int32) &&& 31).toUInt32).toInt32).toUInt32 >>> ((4 : Int32) &&& 31).toUInt32).toInt32).toUInt32 >>> ((2 : Int32) &&& 31).toUInt32).toInt32) < (2 : Int32) then (if ((((((((m.toUInt32 >>> ((16 : Int32) &&& 31).toUInt32).toInt32).toUInt32 >>> ((8 : Int32) &&& 31).toUInt32).toInt32).toUInt32 >>> ((4 : Int32) &&& 31).toUInt32).toInt32).toUInt32 >>> ((2 : Int32) &&& 31).toUInt32).toInt32) < (1 : Int32) then ((((((0 : Int32) + (16 : Int32)) + (8 : Int32)) + (4 : Int32)) + (2 : Int32))) else (((((((0 : Int32) + (16 : Int32)) + (8 : Int32)) + (4 : Int32)) + (2 : Int32)) + (1 : Int32)))) else (if ((((((((((m.toUInt32 >>> ((16 : Int32) &&& 31).toUInt32).toInt32).toUInt32 >>> ((8 : Int32) &&& 31).toUInt32).toInt32).toUInt32 >>> ((4 : Int32) &&& 31).toUInt32).toInt32).toUInt32 >>> ((2 : Int32) &&& 31).toUInt32).toInt32).toUInt32 >>> ((1 : Int32) &&& 31).toUInt32).toInt32) < (1 : Int32) then (((((((0 : Int32) + (16 : Int32)) + (8 : Int32)) + (4 : Int32)) + (2 : Int32)) + (1 : Int32))) else ((((((((0 : Int32) + (16 : Int32)) + (8 : Int32)) + (4 : Int32)) + (2 : Int32)) + (1 : Int32)) + (1 : Int32))))))))
theorem own_bm (m : Int32) (hm : (0 : Int32) < m) : own_f5 m = (32 : Int32) - f4 m ∧ 1 ≤ (own_f5 m).toInt ∧ (own_f5 m).toInt ≤ 31 := by
  have r := rng32 m
  have e0 : (0 : Int32).toInt = 0 := by decide
  have m0 : 0 < m.toInt := by rw [Int32.lt_iff_toInt_lt, e0] at hm; exact hm
  have t0 : (65536 : Int32).toInt = 65536 := by decide
  have t1 : (256 : Int32).toInt = 256 := by decide
  have t2 : (16 : Int32).toInt = 16 := by decide
  have t3 : (4 : Int32).toInt = 4 := by decide
  rw [own_f5, f4, if_pos hm]
  by_cases k0 : m < (65536 : Int32)
  · rw [if_pos k0, if_pos k0]
    by_cases k1 : m < (256 : Int32)
    · rw [if_pos k1, if_pos k1]
      by_cases k2 : m < (16 : Int32)
      · rw [if_pos k2, if_pos k2]
        by_cases k3 : m < (4 : Int32)
        · rw [if_pos k3, if_pos k3]
          have hz : 1 ≤ (m).toInt ∧ (m).toInt ≤ 3 := by
            rw [Int32.lt_iff_toInt_lt] at k0 k1 k2 k3
            simp only [t0, t1, t2, t3] at k0 k1 k2 k3 ⊢
            omega
          exact own_tail0 (m) hz
        · rw [if_neg k3, if_neg k3]
          have hz : 1 ≤ (((m.toUInt32 >>> ((2 : Int32) &&& 31).toUInt32).toInt32)).toInt ∧ (((m.toUInt32 >>> ((2 : Int32) &&& 31).toUInt32).toInt32)).toInt ≤ 3 := by
            have a3 := c_iushr m 2 2 (by decide) (by decide)
            rw [Int32.lt_iff_toInt_lt] at k0 k1 k2 k3
            simp only [t0, t1, t2, t3, a3] at k0 k1 k2 k3 ⊢
            omega
          exact own_tail2 (((m.toUInt32 >>> ((2 : Int32) &&& 31).toUInt32).toInt32)) hz
      · rw [if_neg k2, if_neg k2]
        by_cases k3 : ((m.toUInt32 >>> ((4 : Int32) &&& 31).toUInt32).toInt32) < (4 : Int32)
        · rw [if_pos k3, if_pos k3]
          have hz : 1 ≤ (((m.toUInt32 >>> ((4 : Int32) &&& 31).toUInt32).toInt32)).toInt ∧ (((m.toUInt32 >>> ((4 : Int32) &&& 31).toUInt32).toInt32)).toInt ≤ 3 := by
            have a2 := c_iushr m 4 4 (by decide) (by decide)
            rw [Int32.lt_iff_toInt_lt] at k0 k1 k2 k3
            simp only [t0, t1, t2, t3, a2] at k0 k1 k2 k3 ⊢
            omega
          exact own_tail4 (((m.toUInt32 >>> ((4 : Int32) &&& 31).toUInt32).toInt32)) hz
        · rw [if_neg k3, if_neg k3]
          have hz : 1 ≤ (((((m.toUInt32 >>> ((4 : Int32) &&& 31).toUInt32).toInt32).toUInt32 >>> ((2 : Int32) &&& 31).toUInt32).toInt32)).toInt ∧ (((((m.toUInt32 >>> ((4 : Int32) &&& 31).toUInt32).toInt32).toUInt32 >>> ((2 : Int32) &&& 31).toUInt32).toInt32)).toInt ≤ 3 := by
            have a2 := c_iushr m 4 4 (by decide) (by decide)
            have a3 := c_iushr ((m.toUInt32 >>> ((4 : Int32) &&& 31).toUInt32).toInt32) 2 2 (by decide) (by decide)
            rw [Int32.lt_iff_toInt_lt] at k0 k1 k2 k3
            simp only [t0, t1, t2, t3, a3, a2] at k0 k1 k2 k3 ⊢
            omega
          exact own_tail6 (((((m.toUInt32 >>> ((4 : Int32) &&& 31).toUInt32).toInt32).toUInt32 >>> ((2 : Int32) &&& 31).toUInt32).toInt32)) hz
    · rw [if_neg k1, if_neg k1]
      by_cases k2 : ((m.toUInt32 >>> ((8 : Int32) &&& 31).toUInt32).toInt32) < (16 : Int32)
      · rw [if_pos k2, if_pos k2]
        by_cases k3 : ((m.toUInt32 >>> ((8 : Int32) &&& 31).toUInt32).toInt32) < (4 : Int32)
        · rw [if_pos k3, if_pos k3]
          have hz : 1 ≤ (((m.toUInt32 >>> ((8 : Int32) &&& 31).toUInt32).toInt32)).toInt ∧ (((m.toUInt32 >>> ((8 : Int32) &&& 31).toUInt32).toInt32)).toInt ≤ 3 := by
            have a1 := c_iushr m 8 8 (by decide) (by decide)
            rw [Int32.lt_iff_toInt_lt] at k0 k1 k2 k3
            simp only [t0, t1, t2, t3, a1] at k0 k1 k2 k3 ⊢
            omega
          exact own_tail8 (((m.toUInt32 >>> ((8 : Int32) &&& 31).toUInt32).toInt32)) hz
        · rw [if_neg k3, if_neg k3]
          have hz : 1 ≤ (((((m.toUInt32 >>> ((8 : Int32) &&& 31).toUInt32).toInt32).toUInt32 >>> ((2 : Int32) &&& 31).toUInt32).toInt32)).toInt ∧ (((((m.toUInt32 >>> ((8 : Int32) &&& 31).toUInt32).toInt32).toUInt32 >>> ((2 : Int32) &&& 31).toUInt32).toInt32)).toInt ≤ 3 := by
            have a1 := c_iushr m 8 8 (by decide) (by decide)
            have a3 := c_iushr ((m.toUInt32 >>> ((8 : Int32) &&& 31).toUInt32).toInt32) 2 2 (by decide) (by decide)
            rw [Int32.lt_iff_toInt_lt] at k0 k1 k2 k3
            simp only [t0, t1, t2, t3, a3, a1] at k0 k1 k2 k3 ⊢
            omega
          exact own_tail10 (((((m.toUInt32 >>> ((8 : Int32) &&& 31).toUInt32).toInt32).toUInt32 >>> ((2 : Int32) &&& 31).toUInt32).toInt32)) hz
      · rw [if_neg k2, if_neg k2]
        by_cases k3 : ((((m.toUInt32 >>> ((8 : Int32) &&& 31).toUInt32).toInt32).toUInt32 >>> ((4 : Int32) &&& 31).toUInt32).toInt32) < (4 : Int32)
        · rw [if_pos k3, if_pos k3]
          have hz : 1 ≤ (((((m.toUInt32 >>> ((8 : Int32) &&& 31).toUInt32).toInt32).toUInt32 >>> ((4 : Int32) &&& 31).toUInt32).toInt32)).toInt ∧ (((((m.toUInt32 >>> ((8 : Int32) &&& 31).toUInt32).toInt32).toUInt32 >>> ((4 : Int32) &&& 31).toUInt32).toInt32)).toInt ≤ 3 := by
            have a1 := c_iushr m 8 8 (by decide) (by decide)
            have a2 := c_iushr ((m.toUInt32 >>> ((8 : Int32) &&& 31).toUInt32).toInt32) 4 4 (by decide) (by decide)
            rw [Int32.lt_iff_toInt_lt] at k0 k1 k2 k3
            simp only [t0, t1, t2, t3, a2, a1] at k0 k1 k2 k3 ⊢
            omega
          exact own_tail12 (((((m.toUInt32 >>> ((8 : Int32) &&& 31).toUInt32).toInt32).toUInt32 >>> ((4 : Int32) &&& 31).toUInt32).toInt32)) hz
        · rw [if_neg k3, if_neg k3]
          have hz : 1 ≤ (((((((m.toUInt32 >>> ((8 : Int32) &&& 31).toUInt32).toInt32).toUInt32 >>> ((4 : Int32) &&& 31).toUInt32).toInt32).toUInt32 >>> ((2 : Int32) &&& 31).toUInt32).toInt32)).toInt ∧ (((((((m.toUInt32 >>> ((8 : Int32) &&& 31).toUInt32).toInt32).toUInt32 >>> ((4 : Int32) &&& 31).toUInt32).toInt32).toUInt32 >>> ((2 : Int32) &&& 31).toUInt32).toInt32)).toInt ≤ 3 := by
            have a1 := c_iushr m 8 8 (by decide) (by decide)
            have a2 := c_iushr ((m.toUInt32 >>> ((8 : Int32) &&& 31).toUInt32).toInt32) 4 4 (by decide) (by decide)
            have a3 := c_iushr ((((m.toUInt32 >>> ((8 : Int32) &&& 31).toUInt32).toInt32).toUInt32 >>> ((4 : Int32) &&& 31).toUInt32).toInt32) 2 2 (by decide) (by decide)
            rw [Int32.lt_iff_toInt_lt] at k0 k1 k2 k3
            simp only [t0, t1, t2, t3, a3, a2, a1] at k0 k1 k2 k3 ⊢
            omega
          exact own_tail14 (((((((m.toUInt32 >>> ((8 : Int32) &&& 31).toUInt32).toInt32).toUInt32 >>> ((4 : Int32) &&& 31).toUInt32).toInt32).toUInt32 >>> ((2 : Int32) &&& 31).toUInt32).toInt32)) hz
  · rw [if_neg k0, if_neg k0]
    by_cases k1 : ((m.toUInt32 >>> ((16 : Int32) &&& 31).toUInt32).toInt32) < (256 : Int32)
    · rw [if_pos k1, if_pos k1]
      by_cases k2 : ((m.toUInt32 >>> ((16 : Int32) &&& 31).toUInt32).toInt32) < (16 : Int32)
      · rw [if_pos k2, if_pos k2]
        by_cases k3 : ((m.toUInt32 >>> ((16 : Int32) &&& 31).toUInt32).toInt32) < (4 : Int32)
        · rw [if_pos k3, if_pos k3]
          have hz : 1 ≤ (((m.toUInt32 >>> ((16 : Int32) &&& 31).toUInt32).toInt32)).toInt ∧ (((m.toUInt32 >>> ((16 : Int32) &&& 31).toUInt32).toInt32)).toInt ≤ 3 := by
            have a0 := c_iushr m 16 16 (by decide) (by decide)
            rw [Int32.lt_iff_toInt_lt] at k0 k1 k2 k3
            simp only [t0, t1, t2, t3, a0] at k0 k1 k2 k3 ⊢
            omega
          exact own_tail16 (((m.toUInt32 >>> ((16 : Int32) &&& 31).toUInt32).toInt32)) hz
        · rw [if_neg k3, if_neg k3]
          have hz : 1 ≤ (((((m.toUInt32 >>> ((16 : Int32) &&& 31).toUInt32).toInt32).toUInt32 >>> ((2 : Int32) &&& 31).toUInt32).toInt32)).toInt ∧ (((((m.toUInt32 >>> ((16 : Int32) &&& 31).toUInt32).toInt32).toUInt32 >>> ((2 : Int32) &&& 31).toUInt32).toInt32)).toInt ≤ 3 := by
            have a0 := c_iushr m 16 16 (by decide) (by decide)
            have a3 := c_iushr ((m.toUInt32 >>> ((16 : Int32) &&& 31).toUInt32).toInt32) 2 2 (by decide) (by decide)
            rw [Int32.lt_iff_toInt_lt] at k0 k1 k2 k3
            simp only [t0, t1, t2, t3, a3, a0] at k0 k1 k2 k3 ⊢
            omega
          exact own_tail18 (((((m.toUInt32 >>> ((16 : Int32) &&& 31).toUInt32).toInt32).toUInt32 >>> ((2 : Int32) &&& 31).toUInt32).toInt32)) hz
      · rw [if_neg k2, if_neg k2]
        by_cases k3 : ((((m.toUInt32 >>> ((16 : Int32) &&& 31).toUInt32).toInt32).toUInt32 >>> ((4 : Int32) &&& 31).toUInt32).toInt32) < (4 : Int32)
        · rw [if_pos k3, if_pos k3]
          have hz : 1 ≤ (((((m.toUInt32 >>> ((16 : Int32) &&& 31).toUInt32).toInt32).toUInt32 >>> ((4 : Int32) &&& 31).toUInt32).toInt32)).toInt ∧ (((((m.toUInt32 >>> ((16 : Int32) &&& 31).toUInt32).toInt32).toUInt32 >>> ((4 : Int32) &&& 31).toUInt32).toInt32)).toInt ≤ 3 := by
            have a0 := c_iushr m 16 16 (by decide) (by decide)
            have a2 := c_iushr ((m.toUInt32 >>> ((16 : Int32) &&& 31).toUInt32).toInt32) 4 4 (by decide) (by decide)
            rw [Int32.lt_iff_toInt_lt] at k0 k1 k2 k3
            simp only [t0, t1, t2, t3, a2, a0] at k0 k1 k2 k3 ⊢
            omega
          exact own_tail20 (((((m.toUInt32 >>> ((16 : Int32) &&& 31).toUInt32).toInt32).toUInt32 >>> ((4 : Int32) &&& 31).toUInt32).toInt32)) hz
        · rw [if_neg k3, if_neg k3]
          have hz : 1 ≤ (((((((m.toUInt32 >>> ((16 : Int32) &&& 31).toUInt32).toInt32).toUInt32 >>> ((4 : Int32) &&& 31).toUInt32).toInt32).toUInt32 >>> ((2 : Int32) &&& 31).toUInt32).toInt32)).toInt ∧ (((((((m.toUInt32 >>> ((16 : Int32) &&& 31).toUInt32).toInt32).toUInt32 >>> ((4 : Int32) &&& 31).toUInt32).toInt32).toUInt32 >>> ((2 : Int32) &&& 31).toUInt32).toInt32)).toInt ≤ 3 := by
            have a0 := c_iushr m 16 16 (by decide) (by decide)
            have a2 := c_iushr ((m.toUInt32 >>> ((16 : Int32) &&& 31).toUInt32).toInt32) 4 4 (by decide) (by decide)
            have a3 := c_iushr ((((m.toUInt32 >>> ((16 : Int32) &&& 31).toUInt32).toInt32).toUInt32 >>> ((4 : Int32) &&& 31).toUInt32).toInt32) 2 2 (by decide) (by decide)
            rw [Int32.lt_iff_toInt_lt] at k0 k1 k2 k3
            simp only [t0, t1, t2, t3, a3, a2, a0] at k0 k1 k2 k3 ⊢
            omega
          exact own_tail22 (((((((m.toUInt32 >>> ((16 : Int32) &&& 31).toUInt32).toInt32).toUInt32 >>> ((4 : Int32) &&& 31).toUInt32).toInt32).toUInt32 >>> ((2 : Int32) &&& 31).toUInt32).toInt32)) hz
    · rw [if_neg k1, if_neg k1]
      by_cases k2 : ((((m.toUInt32 >>> ((16 : Int32) &&& 31).toUInt32).toInt32).toUInt32 >>> ((8 : Int32) &&& 31).toUInt32).toInt32) < (16 : Int32)
      · rw [if_pos k2, if_pos k2]
        by_cases k3 : ((((m.toUInt32 >>> ((16 : Int32) &&& 31).toUInt32).toInt32).toUInt32 >>> ((8 : Int32) &&& 31).toUInt32).toInt32) < (4 : Int32)
        · rw [if_pos k3, if_pos k3]
          have hz : 1 ≤ (((((m.toUInt32 >>> ((16 : Int32) &&& 31).toUInt32).toInt32).toUInt32 >>> ((8 : Int32) &&& 31).toUInt32).toInt32)).toInt ∧ (((((m.toUInt32 >>> ((16 : Int32) &&& 31).toUInt32).toInt32).toUInt32 >>> ((8 : Int32) &&& 31).toUInt32).toInt32)).toInt ≤ 3 := by
            have a0 := c_iushr m 16 16 (by decide) (by decide)
            have a1 := c_iushr ((m.toUInt32 >>> ((16 : Int32) &&& 31).toUInt32).toInt32) 8 8 (by decide) (by decide)
            rw [Int32.lt_iff_toInt_lt] at k0 k1 k2 k3
            simp only [t0, t1, t2, t3, a1, a0] at k0 k1 k2 k3 ⊢
            omega
          exact own_tail24 (((((m.toUInt32 >>> ((16 : Int32) &&& 31).toUInt32).toInt32).toUInt32 >>> ((8 : Int32) &&& 31).toUInt32).toInt32)) hz
        · rw [if_neg k3, if_neg k3]
          have hz : 1 ≤ (((((((m.toUInt32 >>> ((16 : Int32) &&& 31).toUInt32).toInt32).toUInt32 >>> ((8 : Int32) &&& 31).toUInt32).toInt32).toUInt32 >>> ((2 : Int32) &&& 31).toUInt32).toInt32)).toInt ∧ (((((((m.toUInt32 >>> ((16 : Int32) &&& 31).toUInt32).toInt32).toUInt32 >>> ((8 : Int32) &&& 31).toUInt32).toInt32).toUInt32 >>> ((2 : Int32) &&& 31).toUInt32).toInt32)).toInt ≤ 3 := by
            have a0 := c_iushr m 16 16 (by decide) (by decide)
            have a1 := c_iushr ((m.toUInt32 >>> ((16 : Int32) &&& 31).toUInt32).toInt32) 8 8 (by decide) (by decide)
            have a3 := c_iushr ((((m.toUInt32 >>> ((16 : Int32) &&& 31).toUInt32).toInt32).toUInt32 >>> ((8 : Int32) &&& 31).toUInt32).toInt32) 2 2 (by decide) (by decide)
            rw [Int32.lt_iff_toInt_lt] at k0 k1 k2 k3
            simp only [t0, t1, t2, t3, a3, a1, a0] at k0 k1 k2 k3 ⊢
            omega
          exact own_tail26 (((((((m.toUInt32 >>> ((16 : Int32) &&& 31).toUInt32).toInt32).toUInt32 >>> ((8 : Int32) &&& 31).toUInt32).toInt32).toUInt32 >>> ((2 : Int32) &&& 31).toUInt32).toInt32)) hz
      · rw [if_neg k2, if_neg k2]
        by_cases k3 : ((((((m.toUInt32 >>> ((16 : Int32) &&& 31).toUInt32).toInt32).toUInt32 >>> ((8 : Int32) &&& 31).toUInt32).toInt32).toUInt32 >>> ((4 : Int32) &&& 31).toUInt32).toInt32) < (4 : Int32)
        · rw [if_pos k3, if_pos k3]
          have hz : 1 ≤ (((((((m.toUInt32 >>> ((16 : Int32) &&& 31).toUInt32).toInt32).toUInt32 >>> ((8 : Int32) &&& 31).toUInt32).toInt32).toUInt32 >>> ((4 : Int32) &&& 31).toUInt32).toInt32)).toInt ∧ (((((((m.toUInt32 >>> ((16 : Int32) &&& 31).toUInt32).toInt32).toUInt32 >>> ((8 : Int32) &&& 31).toUInt32).toInt32).toUInt32 >>> ((4 : Int32) &&& 31).toUInt32).toInt32)).toInt ≤ 3 := by
            have a0 := c_iushr m 16 16 (by decide) (by decide)
            have a1 := c_iushr ((m.toUInt32 >>> ((16 : Int32) &&& 31).toUInt32).toInt32) 8 8 (by decide) (by decide)
            have a2 := c_iushr ((((m.toUInt32 >>> ((16 : Int32) &&& 31).toUInt32).toInt32).toUInt32 >>> ((8 : Int32) &&& 31).toUInt32).toInt32) 4 4 (by decide) (by decide)
            rw [Int32.lt_iff_toInt_lt] at k0 k1 k2 k3
            simp only [t0, t1, t2, t3, a2, a1, a0] at k0 k1 k2 k3 ⊢
            omega
          exact own_tail28 (((((((m.toUInt32 >>> ((16 : Int32) &&& 31).toUInt32).toInt32).toUInt32 >>> ((8 : Int32) &&& 31).toUInt32).toInt32).toUInt32 >>> ((4 : Int32) &&& 31).toUInt32).toInt32)) hz
        · rw [if_neg k3, if_neg k3]
          have hz : 1 ≤ (((((((((m.toUInt32 >>> ((16 : Int32) &&& 31).toUInt32).toInt32).toUInt32 >>> ((8 : Int32) &&& 31).toUInt32).toInt32).toUInt32 >>> ((4 : Int32) &&& 31).toUInt32).toInt32).toUInt32 >>> ((2 : Int32) &&& 31).toUInt32).toInt32)).toInt ∧ (((((((((m.toUInt32 >>> ((16 : Int32) &&& 31).toUInt32).toInt32).toUInt32 >>> ((8 : Int32) &&& 31).toUInt32).toInt32).toUInt32 >>> ((4 : Int32) &&& 31).toUInt32).toInt32).toUInt32 >>> ((2 : Int32) &&& 31).toUInt32).toInt32)).toInt ≤ 1 := by
            have a0 := c_iushr m 16 16 (by decide) (by decide)
            have a1 := c_iushr ((m.toUInt32 >>> ((16 : Int32) &&& 31).toUInt32).toInt32) 8 8 (by decide) (by decide)
            have a2 := c_iushr ((((m.toUInt32 >>> ((16 : Int32) &&& 31).toUInt32).toInt32).toUInt32 >>> ((8 : Int32) &&& 31).toUInt32).toInt32) 4 4 (by decide) (by decide)
            have a3 := c_iushr ((((((m.toUInt32 >>> ((16 : Int32) &&& 31).toUInt32).toInt32).toUInt32 >>> ((8 : Int32) &&& 31).toUInt32).toInt32).toUInt32 >>> ((4 : Int32) &&& 31).toUInt32).toInt32) 2 2 (by decide) (by decide)
            rw [Int32.lt_iff_toInt_lt] at k0 k1 k2 k3
            simp only [t0, t1, t2, t3, a3, a2, a1, a0] at k0 k1 k2 k3 ⊢
            omega
          exact own_tail30 (((((((((m.toUInt32 >>> ((16 : Int32) &&& 31).toUInt32).toInt32).toUInt32 >>> ((8 : Int32) &&& 31).toUInt32).toInt32).toUInt32 >>> ((4 : Int32) &&& 31).toUInt32).toInt32).toUInt32 >>> ((2 : Int32) &&& 31).toUInt32).toInt32)) hz
theorem own_bits (p : Int32) (h : (1 : Int32) < p) : f5 p = ((32 : Int32) - (f4 (p - (1 : Int32)))) ∧ 1 ≤ (f5 p).toInt ∧ (f5 p).toInt ≤ 31 := by
  have e1 : (1 : Int32).toInt = 1 := by decide
  have e0 : (0 : Int32).toInt = 0 := by decide
  have q := c_isub p 1
  have r := rng32 (p - 1)
  have r2 := rng32 p
  rw [Int32.lt_iff_toInt_lt, e1] at h
  rw [e1] at q
  have hm : (0 : Int32) < p - (1 : Int32) := by rw [Int32.lt_iff_toInt_lt, e0]; omega
  exact own_bm (p - (1 : Int32)) hm
theorem own_bits0 (p : Int32) (h : ¬ ((1 : Int32) < p)) (h1 : 1 ≤ p.toInt) : f5 p = (0 : Int32) := by
  have e1 : (1 : Int32).toInt = 1 := by decide
  rw [Int32.lt_iff_toInt_lt, e1] at h
  obtain rfl : p = 1 := Int32.toInt_inj.mp (by omega)
  decide
theorem own_b31 (p : Int32) (h1 : 1 ≤ p.toInt) : 0 ≤ (f5 p).toInt ∧ (f5 p).toInt ≤ 31 ∧ (1 < p.toInt → 1 ≤ (f5 p).toInt) := by
  have e1 : (1 : Int32).toInt = 1 := by decide
  by_cases h : (1 : Int32) < p
  · obtain ⟨-, a, b⟩ := own_bits p h
    exact ⟨by omega, b, fun _ => a⟩
  · rw [own_bits0 p h h1]
    rw [Int32.lt_iff_toInt_lt, e1] at h
    exact ⟨by decide, by decide, fun q => by omega⟩
theorem own_mulb {i b : Int} (h1 : 0 ≤ i) (h2 : i ≤ 15) (h3 : 0 ≤ b) (h4 : b ≤ 31) : 0 ≤ i * b ∧ i * b ≤ 465 := by
  have q1 := Int.mul_nonneg h1 h3
  have q2 := Int.mul_le_mul h2 h4 h3 (by decide)
  omega
theorem own_Mval (n b : Int32) (hn : 0 ≤ n.toInt ∧ n.toInt ≤ 15) (hb : 0 ≤ b.toInt ∧ b.toInt ≤ 31) : (((((((n.toInt64) * (b.toInt64)) + (64 : Int64)) - (1 : Int64)) / (64 : Int64)).toInt32)).toInt = (n.toInt * b.toInt + 63) / 64 := by
  have w := Jvm.Free.XT.wideMul n b
  have q := own_mulb hn.1 hn.2 hb.1 hb.2
  have e64 : (64 : Int64).toInt = 64 := by decide
  have e1 : (1 : Int64).toInt = 1 := by decide
  generalize hx : ((n.toInt64) * (b.toInt64)) = x at w ⊢
  have a1 := c_ladd x 64
  have r1 := rng64 (x + 64)
  have a2 := c_lsub (x + 64) 1
  have r2 := rng64 (x + 64 - 1)
  rw [e64] at a1
  rw [e1] at a2
  have v1 : (x + 64 - 1).toInt = x.toInt + 63 := by omega
  have a3 := (c_ldiv (x + 64 - 1) 64 64 (by decide) (by decide)).1 (by omega)
  have a4 := c_l2i ((x + 64 - 1) / 64)
  have r4 := rng32 ((x + 64 - 1) / 64).toInt32
  rw [a3, v1, w] at a4
  omega
theorem own_word (i n b M : Int32) (hi : 0 ≤ i.toInt) (hin : i.toInt + 1 = n.toInt) (hn : n.toInt ≤ 15) (hb : 1 ≤ b.toInt ∧ b.toInt ≤ 31) (hM : M.toInt = (n.toInt * b.toInt + 63) / 64) (wd sh : Int32) (hwd : wd = ((((i.toInt64) * (b.toInt64)) / (64 : Int64)).toInt32)) (hsh : sh = ((((i.toInt64) * (b.toInt64)) - (((i.toInt64) * (b.toInt64)) / (64 : Int64)) * (64 : Int64)).toInt32)) :
    (¬ wd < 0 ∧ wd < M) ∧ ((64 : Int32) < (sh + b) → ¬ (wd + (1 : Int32)) < 0 ∧ (wd + (1 : Int32)) < M ∧ ¬ (wd + (1 : Int32)) = wd) := by
  have w := Jvm.Free.XT.wideMul i b
  have q := own_mulb hi (by omega) (by omega) hb.2
  have nb : n.toInt * b.toInt = i.toInt * b.toInt + b.toInt := by rw [← hin, Int.add_mul, Int.one_mul]
  have e0 : (0 : Int32).toInt = 0 := by decide
  have e1 : (1 : Int32).toInt = 1 := by decide
  have e64 : (64 : Int32).toInt = 64 := by decide
  generalize hx : ((i.toInt64) * (b.toInt64)) = x at w hwd hsh
  have a1 := (c_ldiv x 64 64 (by decide) (by decide)).1 (by omega)
  have a2 := c_l2i (x / 64)
  have r2 := rng32 (x / 64).toInt32
  have a3 := (c_lrem x 64 64 (by decide)).1 (by omega)
  have a4 := c_l2i (x - x / 64 * 64)
  have r4 := rng32 (x - x / 64 * 64).toInt32
  rw [← hwd] at a2 r2
  rw [← hsh] at a4 r4
  rw [a1] at a2
  rw [a3] at a4
  rw [nb] at hM
  generalize hP : i.toInt * b.toInt = P at *
  have v1 : wd.toInt = P / 64 := by omega
  have v2 : sh.toInt = P % 64 := by omega
  have a5 := c_iadd sh b
  have r5 := rng32 (sh + b)
  have a6 := c_iadd wd 1
  have r6 := rng32 (wd + 1)
  rw [e1] at a6
  have v5 : (sh + b).toInt = sh.toInt + b.toInt := by omega
  have v6 : (wd + 1).toInt = wd.toInt + 1 := by omega
  refine ⟨⟨?_, ?_⟩, fun h => ⟨?_, ?_, fun h' => ?_⟩⟩
  · rw [Int32.lt_iff_toInt_lt, e0]; omega
  · rw [Int32.lt_iff_toInt_lt]; omega
  · rw [Int32.lt_iff_toInt_lt, e0, v6]; omega
  · rw [Int32.lt_iff_toInt_lt, e64, v5] at h
    rw [Int32.lt_iff_toInt_lt, v6]; omega
  · have := congrArg Int32.toInt h'
    rw [v6] at this; omega
theorem d2_62 : decode prog_10_method_1_code 62 = .ok (.iload_n 3, 1) := by decide +kernel
theorem d2_63 : decode prog_10_method_1_code 63 = .ok (.aload_n 0, 1) := by decide +kernel
theorem d2_64 : decode prog_10_method_1_code 64 = .ok (.getfield 7, 3) := by decide +kernel
theorem d2_67 : decode prog_10_method_1_code 67 = .ok (.if_icmp .ge 126, 3) := by decide +kernel
theorem d2_70 : decode prog_10_method_1_code 70 = .ok (.aload_n 1, 1) := by decide +kernel
theorem d2_71 : decode prog_10_method_1_code 71 = .ok (.iload_n 3, 1) := by decide +kernel
theorem d2_72 : decode prog_10_method_1_code 72 = .ok (.iaload, 1) := by decide +kernel
theorem d2_73 : decode prog_10_method_1_code 73 = .ok (.istore 4, 2) := by decide +kernel
theorem d2_75 : decode prog_10_method_1_code 75 = .ok (.iload 4, 2) := by decide +kernel
theorem d2_77 : decode prog_10_method_1_code 77 = .ok (.ifCond .lt 9, 3) := by decide +kernel
theorem d2_80 : decode prog_10_method_1_code 80 = .ok (.iload 4, 2) := by decide +kernel
theorem d2_82 : decode prog_10_method_1_code 82 = .ok (.iload_n 2, 1) := by decide +kernel
theorem d2_83 : decode prog_10_method_1_code 83 = .ok (.if_icmp .lt 19, 3) := by decide +kernel
theorem d2_102 : decode prog_10_method_1_code 102 = .ok (.iload 4, 2) := by decide +kernel
theorem d2_104 : decode prog_10_method_1_code 104 = .ok (.ifCond .ne 6, 3) := by decide +kernel
theorem d2_107 : decode prog_10_method_1_code 107 = .ok (.goto 80, 3) := by decide +kernel
theorem d2_187 : decode prog_10_method_1_code 187 = .ok (.iinc 3 1, 3) := by decide +kernel
theorem d2_190 : decode prog_10_method_1_code 190 = .ok (.goto (-128), 3) := by decide +kernel
set_option maxRecDepth 65536 in
set_option maxHeartbeats 40000000 in
theorem turn {p : Program} {l : Launch} {e : Env} {R : Room} {s : State} {m : MethodId} {args : Array Value} {below : List Frame} {meth : Method} {c : Code} {T0 : State} {locs : List Loc} {cells slots : Nat} {Z : State} {a0 : Array Value} {h0 : Heap} {n0 : Nat} (r0 r1 : Addr) (p2 i n : Int32) (s4 : Slot) (ci : Cell)
    (X0 : Stand p l e R s m args below meth c T0 locs cells slots) (hx : p.tables.exec = Jvm.exec) (hZ : Z.Warmed39 s.vm) (hw : ∀ d ∈ tables_1, d.before a0 Z = true) (hby : c.code = prog_10_method_1_code) (hml : c.maxLocals = 9) (hown : s.vm.findClass "com/example/moffett/moffett/requests/PackedIndexes" = some m.cls) (e0 : T0.heap = h0) (N0 : Fr n0 locs) (Z0 : n0 ≤ h0.size) (Fs : Fld Z h0 r0 "com/example/moffett/moffett/requests/PackedIndexes" "size" "I" (.int n)) (hs4 : One s4) (Ai : Arr Z h0 r1 ci .int) (hin : ¬ (i < 0 ∨ ci.slots.size ≤ i.toNatClampNeg)) (hat : ci.slots[i.toNatClampNeg]? = some (.int (0 : Int32))) (hlt : i < n) (hbp : (0 : Int32) < p2) :
    ∃ T' : State, Stand p l e R s m args below meth c T' locs cells slots ∧ T'.heap = h0 ∧ ∀ t, Steps p.tables e below (T'.setTop (mkF m 62 #[.val (.ref r0), .val (.ref r1), .val (.int p2), .val (.int (i + (1 : Int32))), .val (.int (0 : Int32)), .unset, .unset, .unset, .unset] [])) t → Steps p.tables e below (T0.setTop (mkF m 62 #[.val (.ref r0), .val (.ref r1), .val (.int p2), .val (.int i), s4, .unset, .unset, .unset, .unset] [])) t := by
  have kp0 : Keep h0 h0 [] := Keep.refl _ _
  have G0 : ∀ t, Steps p.tables e below (T0.setTop (mkF m 62 #[.val (.ref r0), .val (.ref r1), .val (.int p2), .val (.int i), s4, .unset, .unset, .unset, .unset] [])) t → Steps p.tables e below (T0.setTop (mkF m 62 #[.val (.ref r0), .val (.ref r1), .val (.int p2), .val (.int i), s4, .unset, .unset, .unset, .unset] [])) t := fun t k => k
  obtain ⟨T1, X1, e1, st1⟩ := getF X0 hx hZ hown (host := "") (Or.inl (hw _ (List.mem_of_getElem? (i := 15) rfl))) Via.refl e0 Fs (g := (mkF m 64 #[.val (.ref r0), .val (.ref r1), .val (.int p2), .val (.int i), s4, .unset, .unset, .unset, .unset] [(.ref r0), (.int i)])) rfl rfl (hb hby d2_64)
  have G2 : ∀ t, Steps p.tables e below (T1.setTop (mkF m 67 #[.val (.ref r0), .val (.ref r1), .val (.int p2), .val (.int i), s4, .unset, .unset, .unset, .unset] [(.int n), (.int i)])) t → Steps p.tables e below (T0.setTop (mkF m 62 #[.val (.ref r0), .val (.ref r1), .val (.int p2), .val (.int i), s4, .unset, .unset, .unset, .unset] [])) t := by
    intro t kt
    refine G0 _ ?_
    show Steps p.tables e below (T0.setTop (mkF m 62 #[.val (.ref r0), .val (.ref r1), .val (.int p2), .val (.int i), s4, .unset, .unset, .unset, .unset] [])) _
    refine XS.iloadN X0.here hx rfl (hb hby d2_62) rfl ?_
    show Steps p.tables e below (T0.setTop (mkF m 63 #[.val (.ref r0), .val (.ref r1), .val (.int p2), .val (.int i), s4, .unset, .unset, .unset, .unset] [(.int i)])) _
    refine XS.aloadN X0.here hx rfl (hb hby d2_63) rfl rfl ?_
    show Steps p.tables e below (T0.setTop (mkF m 64 #[.val (.ref r0), .val (.ref r1), .val (.int p2), .val (.int i), s4, .unset, .unset, .unset, .unset] [(.ref r0), (.int i)])) _
    refine st1 _ ?_
    exact kt
  have hc67_3 : i < n := hlt
  have G4 : ∀ t, Steps p.tables e below (T1.setTop (mkF m 77 #[.val (.ref r0), .val (.ref r1), .val (.int p2), .val (.int i), .val (.int (0 : Int32)), .unset, .unset, .unset, .unset] [(.int (0 : Int32))])) t → Steps p.tables e below (T0.setTop (mkF m 62 #[.val (.ref r0), .val (.ref r1), .val (.int p2), .val (.int i), s4, .unset, .unset, .unset, .unset] [])) t := by
    intro t kt
    refine G2 _ ?_
    show Steps p.tables e below (T1.setTop (mkF m 67 #[.val (.ref r0), .val (.ref r1), .val (.int p2), .val (.int i), s4, .unset, .unset, .unset, .unset] [(.int n), (.int i)])) _
    refine XS.icmpNo X1.here hx rfl (hb hby d2_67) rfl (tlt hc67_3).2.1 ?_
    show Steps p.tables e below (T1.setTop (mkF m 70 #[.val (.ref r0), .val (.ref r1), .val (.int p2), .val (.int i), s4, .unset, .unset, .unset, .unset] [])) _
    refine XS.aloadN X1.here hx rfl (hb hby d2_70) rfl rfl ?_
    show Steps p.tables e below (T1.setTop (mkF m 71 #[.val (.ref r0), .val (.ref r1), .val (.int p2), .val (.int i), s4, .unset, .unset, .unset, .unset] [(.ref r1)])) _
    refine XS.iloadN X1.here hx rfl (hb hby d2_71) rfl ?_
    show Steps p.tables e below (T1.setTop (mkF m 72 #[.val (.ref r0), .val (.ref r1), .val (.int p2), .val (.int i), s4, .unset, .unset, .unset, .unset] [(.int i), (.ref r1)])) _
    refine X1.iaload hx (j := i) (v := (.int (0 : Int32))) (by rw [e1]; exact Ai.1) (State.isArrayOf_alike hZ.alike Ai.2.1) Ai.2.2 hin hat (g := (mkF m 72 #[.val (.ref r0), .val (.ref r1), .val (.int p2), .val (.int i), s4, .unset, .unset, .unset, .unset] [(.int i), (.ref r1)])) rfl rfl (hb hby d2_72) _ ?_
    show Steps p.tables e below (T1.setTop (mkF m 73 #[.val (.ref r0), .val (.ref r1), .val (.int p2), .val (.int i), s4, .unset, .unset, .unset, .unset] [(.int (0 : Int32))])) _
    refine XS.istore X1.here hx rfl (hb hby d2_73) rfl (l' := #[.val (.ref r0), .val (.ref r1), .val (.int p2), .val (.int i), .val (.int (0 : Int32)), .unset, .unset, .unset, .unset]) (XS.store1 (o := s4) rfl hs4 rfl) ?_
    show Steps p.tables e below (T1.setTop (mkF m 75 #[.val (.ref r0), .val (.ref r1), .val (.int p2), .val (.int i), .val (.int (0 : Int32)), .unset, .unset, .unset, .unset] [])) _
    refine XS.iload X1.here hx rfl (hb hby d2_75) rfl ?_
    exact kt
  have G5 : ∀ t, Steps p.tables e below (T1.setTop (mkF m 83 #[.val (.ref r0), .val (.ref r1), .val (.int p2), .val (.int i), .val (.int (0 : Int32)), .unset, .unset, .unset, .unset] [(.int p2), (.int (0 : Int32))])) t → Steps p.tables e below (T0.setTop (mkF m 62 #[.val (.ref r0), .val (.ref r1), .val (.int p2), .val (.int i), s4, .unset, .unset, .unset, .unset] [])) t := by
    intro t kt
    refine G4 _ ?_
    show Steps p.tables e below (T1.setTop (mkF m 77 #[.val (.ref r0), .val (.ref r1), .val (.int p2), .val (.int i), .val (.int (0 : Int32)), .unset, .unset, .unset, .unset] [(.int (0 : Int32))])) _
    refine XS.ifNo X1.here hx rfl (hb hby d2_77) rfl ((if0 _ _).trans (flt (by decide)).1) ?_
    show Steps p.tables e below (T1.setTop (mkF m 80 #[.val (.ref r0), .val (.ref r1), .val (.int p2), .val (.int i), .val (.int (0 : Int32)), .unset, .unset, .unset, .unset] [])) _
    refine XS.iload X1.here hx rfl (hb hby d2_80) rfl ?_
    show Steps p.tables e below (T1.setTop (mkF m 82 #[.val (.ref r0), .val (.ref r1), .val (.int p2), .val (.int i), .val (.int (0 : Int32)), .unset, .unset, .unset, .unset] [(.int (0 : Int32))])) _
    refine XS.iloadN X1.here hx rfl (hb hby d2_82) rfl ?_
    exact kt
  have hc83_6 : (0 : Int32) < p2 := hbp
  have G7 : ∀ t, Steps p.tables e below (T1.setTop (mkF m 104 #[.val (.ref r0), .val (.ref r1), .val (.int p2), .val (.int i), .val (.int (0 : Int32)), .unset, .unset, .unset, .unset] [(.int (0 : Int32))])) t → Steps p.tables e below (T0.setTop (mkF m 62 #[.val (.ref r0), .val (.ref r1), .val (.int p2), .val (.int i), s4, .unset, .unset, .unset, .unset] [])) t := by
    intro t kt
    refine G5 _ ?_
    show Steps p.tables e below (T1.setTop (mkF m 83 #[.val (.ref r0), .val (.ref r1), .val (.int p2), .val (.int i), .val (.int (0 : Int32)), .unset, .unset, .unset, .unset] [(.int p2), (.int (0 : Int32))])) _
    refine XS.icmpYes X1.here hx rfl (pc0 := 83) (pc' := 102) rfl (hb hby d2_83) rfl (tlt hc83_6).1 (by decide) (by decide) ?_
    show Steps p.tables e below (T1.setTop (mkF m 102 #[.val (.ref r0), .val (.ref r1), .val (.int p2), .val (.int i), .val (.int (0 : Int32)), .unset, .unset, .unset, .unset] [])) _
    refine XS.iload X1.here hx rfl (hb hby d2_102) rfl ?_
    exact kt
  have G8 : ∀ t, Steps p.tables e below (T1.setTop (mkF m 62 #[.val (.ref r0), .val (.ref r1), .val (.int p2), .val (.int (i + (1 : Int32))), .val (.int (0 : Int32)), .unset, .unset, .unset, .unset] [])) t → Steps p.tables e below (T0.setTop (mkF m 62 #[.val (.ref r0), .val (.ref r1), .val (.int p2), .val (.int i), s4, .unset, .unset, .unset, .unset] [])) t := by
    intro t kt
    refine G7 _ ?_
    show Steps p.tables e below (T1.setTop (mkF m 104 #[.val (.ref r0), .val (.ref r1), .val (.int p2), .val (.int i), .val (.int (0 : Int32)), .unset, .unset, .unset, .unset] [(.int (0 : Int32))])) _
    refine XS.ifNo X1.here hx rfl (hb hby d2_104) rfl ((if0 _ _).trans (teq (by decide)).2) ?_
    show Steps p.tables e below (T1.setTop (mkF m 107 #[.val (.ref r0), .val (.ref r1), .val (.int p2), .val (.int i), .val (.int (0 : Int32)), .unset, .unset, .unset, .unset] [])) _
    refine XS.goto X1.here hx rfl (pc0 := 107) (pc' := 187) rfl (hb hby d2_107) (by decide) (by decide) ?_
    show Steps p.tables e below (T1.setTop (mkF m 187 #[.val (.ref r0), .val (.ref r1), .val (.int p2), .val (.int i), .val (.int (0 : Int32)), .unset, .unset, .unset, .unset] [])) _
    refine XS.iinc X1.here hx rfl (hb hby d2_187) rfl (l' := #[.val (.ref r0), .val (.ref r1), .val (.int p2), .val (.int (i + (1 : Int32))), .val (.int (0 : Int32)), .unset, .unset, .unset, .unset]) rfl ?_
    show Steps p.tables e below (T1.setTop (mkF m 190 #[.val (.ref r0), .val (.ref r1), .val (.int p2), .val (.int (i + (1 : Int32))), .val (.int (0 : Int32)), .unset, .unset, .unset, .unset] [])) _
    refine XS.goto X1.here hx rfl (pc0 := 190) (pc' := 62) rfl (hb hby d2_190) (by decide) (by decide) ?_
    exact kt
  exact ⟨_, X1, e1, G8⟩
set_option maxRecDepth 65536 in
set_option maxHeartbeats 40000000 in
theorem gone {p : Program} {l : Launch} {e : Env} {R : Room} {s : State} {m : MethodId} {args : Array Value} {below : List Frame} {meth : Method} {c : Code} {T0 : State} {locs : List Loc} {cells slots : Nat} {Z : State} {a0 : Array Value} {h0 : Heap} {n0 : Nat} (r0 r1 wa : Addr) (p2 i n : Int32) (s4 : Slot)
    (X0 : Stand p l e R s m args below meth c T0 locs cells slots) (hx : p.tables.exec = Jvm.exec) (hZ : Z.Warmed39 s.vm) (hw : ∀ d ∈ tables_1, d.before a0 Z = true) (hby : c.code = prog_10_method_1_code) (hml : c.maxLocals = 9) (hown : s.vm.findClass "com/example/moffett/moffett/requests/PackedIndexes" = some m.cls) (e0 : T0.heap = h0) (N0 : Fr n0 locs) (Z0 : n0 ≤ h0.size) (Fs : Fld Z h0 r0 "com/example/moffett/moffett/requests/PackedIndexes" "size" "I" (.int n)) (hge : ¬ (i < n)) :
    ∃ (T' : State) (h' : Heap) (locs' : List Loc) (Ls : Array Slot), Stand p l e R s m args below meth c T' locs' cells slots ∧ T'.heap = h' ∧ Fr n0 locs' ∧ Keep h0 h' [wa] ∧ ∀ t, Steps p.tables e below (T'.setTop (mkF m 193 Ls [])) t → Steps p.tables e below (T0.setTop (mkF m 62 #[.val (.ref r0), .val (.ref r1), .val (.int p2), .val (.int i), s4, .unset, .unset, .unset, .unset] [])) t := by
  have kp0 : Keep h0 h0 [wa] := Keep.refl _ _
  have G0 : ∀ t, Steps p.tables e below (T0.setTop (mkF m 62 #[.val (.ref r0), .val (.ref r1), .val (.int p2), .val (.int i), s4, .unset, .unset, .unset, .unset] [])) t → Steps p.tables e below (T0.setTop (mkF m 62 #[.val (.ref r0), .val (.ref r1), .val (.int p2), .val (.int i), s4, .unset, .unset, .unset, .unset] [])) t := fun t k => k
  obtain ⟨T1, X1, e1, st1⟩ := getF X0 hx hZ hown (host := "") (Or.inl (hw _ (List.mem_of_getElem? (i := 15) rfl))) Via.refl e0 Fs (g := (mkF m 64 #[.val (.ref r0), .val (.ref r1), .val (.int p2), .val (.int i), s4, .unset, .unset, .unset, .unset] [(.ref r0), (.int i)])) rfl rfl (hb hby d2_64)
  have G2 : ∀ t, Steps p.tables e below (T1.setTop (mkF m 67 #[.val (.ref r0), .val (.ref r1), .val (.int p2), .val (.int i), s4, .unset, .unset, .unset, .unset] [(.int n), (.int i)])) t → Steps p.tables e below (T0.setTop (mkF m 62 #[.val (.ref r0), .val (.ref r1), .val (.int p2), .val (.int i), s4, .unset, .unset, .unset, .unset] [])) t := by
    intro t kt
    refine G0 _ ?_
    show Steps p.tables e below (T0.setTop (mkF m 62 #[.val (.ref r0), .val (.ref r1), .val (.int p2), .val (.int i), s4, .unset, .unset, .unset, .unset] [])) _
    refine XS.iloadN X0.here hx rfl (hb hby d2_62) rfl ?_
    show Steps p.tables e below (T0.setTop (mkF m 63 #[.val (.ref r0), .val (.ref r1), .val (.int p2), .val (.int i), s4, .unset, .unset, .unset, .unset] [(.int i)])) _
    refine XS.aloadN X0.here hx rfl (hb hby d2_63) rfl rfl ?_
    show Steps p.tables e below (T0.setTop (mkF m 64 #[.val (.ref r0), .val (.ref r1), .val (.int p2), .val (.int i), s4, .unset, .unset, .unset, .unset] [(.ref r0), (.int i)])) _
    refine st1 _ ?_
    exact kt
  have hc67_3 : ¬ (i < n) := hge
  have G4 : ∀ t, Steps p.tables e below (T1.setTop (mkF m 193 #[.val (.ref r0), .val (.ref r1), .val (.int p2), .val (.int i), s4, .unset, .unset, .unset, .unset] [])) t → Steps p.tables e below (T0.setTop (mkF m 62 #[.val (.ref r0), .val (.ref r1), .val (.int p2), .val (.int i), s4, .unset, .unset, .unset, .unset] [])) t := by
    intro t kt
    refine G2 _ ?_
    show Steps p.tables e below (T1.setTop (mkF m 67 #[.val (.ref r0), .val (.ref r1), .val (.int p2), .val (.int i), s4, .unset, .unset, .unset, .unset] [(.int n), (.int i)])) _
    refine XS.icmpYes X1.here hx rfl (pc0 := 67) (pc' := 193) rfl (hb hby d2_67) rfl (flt hc67_3).2.1 (by decide) (by decide) ?_
    exact kt
  exact ⟨_, _, _, _, X1, e1, N0, kp0, G4⟩
theorem d2_110 : decode prog_10_method_1_code 110 = .ok (.iload_n 3, 1) := by decide +kernel
theorem d2_111 : decode prog_10_method_1_code 111 = .ok (.i2l, 1) := by decide +kernel
theorem d2_112 : decode prog_10_method_1_code 112 = .ok (.aload_n 0, 1) := by decide +kernel
theorem d2_113 : decode prog_10_method_1_code 113 = .ok (.getfield 19, 3) := by decide +kernel
theorem d2_116 : decode prog_10_method_1_code 116 = .ok (.i2l, 1) := by decide +kernel
theorem d2_117 : decode prog_10_method_1_code 117 = .ok (.lmul, 1) := by decide +kernel
theorem d2_118 : decode prog_10_method_1_code 118 = .ok (.lstore 5, 2) := by decide +kernel
theorem d2_120 : decode prog_10_method_1_code 120 = .ok (.lload 5, 2) := by decide +kernel
theorem d2_122 : decode prog_10_method_1_code 122 = .ok (.ldc2_w 24, 3) := by decide +kernel
theorem d2_125 : decode prog_10_method_1_code 125 = .ok (.ldiv, 1) := by decide +kernel
theorem d2_126 : decode prog_10_method_1_code 126 = .ok (.l2i, 1) := by decide +kernel
theorem d2_127 : decode prog_10_method_1_code 127 = .ok (.istore 7, 2) := by decide +kernel
theorem d2_129 : decode prog_10_method_1_code 129 = .ok (.lload 5, 2) := by decide +kernel
theorem d2_131 : decode prog_10_method_1_code 131 = .ok (.ldc2_w 24, 3) := by decide +kernel
theorem d2_134 : decode prog_10_method_1_code 134 = .ok (.lrem, 1) := by decide +kernel
theorem d2_135 : decode prog_10_method_1_code 135 = .ok (.l2i, 1) := by decide +kernel
theorem d2_136 : decode prog_10_method_1_code 136 = .ok (.istore 8, 2) := by decide +kernel
theorem d2_138 : decode prog_10_method_1_code 138 = .ok (.aload_n 0, 1) := by decide +kernel
theorem d2_139 : decode prog_10_method_1_code 139 = .ok (.getfield 26, 3) := by decide +kernel
theorem d2_142 : decode prog_10_method_1_code 142 = .ok (.iload 7, 2) := by decide +kernel
theorem d2_144 : decode prog_10_method_1_code 144 = .ok (.dup2, 1) := by decide +kernel
theorem d2_145 : decode prog_10_method_1_code 145 = .ok (.laload, 1) := by decide +kernel
theorem d2_146 : decode prog_10_method_1_code 146 = .ok (.iload 4, 2) := by decide +kernel
theorem d2_148 : decode prog_10_method_1_code 148 = .ok (.i2l, 1) := by decide +kernel
theorem d2_149 : decode prog_10_method_1_code 149 = .ok (.iload 8, 2) := by decide +kernel
theorem d2_151 : decode prog_10_method_1_code 151 = .ok (.lshl, 1) := by decide +kernel
theorem d2_152 : decode prog_10_method_1_code 152 = .ok (.lor, 1) := by decide +kernel
theorem d2_153 : decode prog_10_method_1_code 153 = .ok (.lastore, 1) := by decide +kernel
theorem d2_154 : decode prog_10_method_1_code 154 = .ok (.iload 8, 2) := by decide +kernel
theorem d2_156 : decode prog_10_method_1_code 156 = .ok (.aload_n 0, 1) := by decide +kernel
theorem d2_157 : decode prog_10_method_1_code 157 = .ok (.getfield 19, 3) := by decide +kernel
theorem d2_160 : decode prog_10_method_1_code 160 = .ok (.iadd, 1) := by decide +kernel
theorem d2_161 : decode prog_10_method_1_code 161 = .ok (.bipush 64, 2) := by decide +kernel
theorem d2_163 : decode prog_10_method_1_code 163 = .ok (.if_icmp .le 24, 3) := by decide +kernel
theorem d2_166 : decode prog_10_method_1_code 166 = .ok (.aload_n 0, 1) := by decide +kernel
theorem d2_167 : decode prog_10_method_1_code 167 = .ok (.getfield 26, 3) := by decide +kernel
theorem d2_170 : decode prog_10_method_1_code 170 = .ok (.iload 7, 2) := by decide +kernel
theorem d2_172 : decode prog_10_method_1_code 172 = .ok (.iconst 1, 1) := by decide +kernel
theorem d2_173 : decode prog_10_method_1_code 173 = .ok (.iadd, 1) := by decide +kernel
theorem d2_174 : decode prog_10_method_1_code 174 = .ok (.dup2, 1) := by decide +kernel
theorem d2_175 : decode prog_10_method_1_code 175 = .ok (.laload, 1) := by decide +kernel
theorem d2_176 : decode prog_10_method_1_code 176 = .ok (.iload 4, 2) := by decide +kernel
theorem d2_178 : decode prog_10_method_1_code 178 = .ok (.i2l, 1) := by decide +kernel
theorem d2_179 : decode prog_10_method_1_code 179 = .ok (.bipush 64, 2) := by decide +kernel
theorem d2_181 : decode prog_10_method_1_code 181 = .ok (.iload 8, 2) := by decide +kernel
theorem d2_183 : decode prog_10_method_1_code 183 = .ok (.isub, 1) := by decide +kernel
theorem d2_184 : decode prog_10_method_1_code 184 = .ok (.lushr, 1) := by decide +kernel
theorem d2_185 : decode prog_10_method_1_code 185 = .ok (.lor, 1) := by decide +kernel
theorem d2_186 : decode prog_10_method_1_code 186 = .ok (.lastore, 1) := by decide +kernel
set_option maxRecDepth 65536 in
set_option maxHeartbeats 40000000 in
theorem last {p : Program} {l : Launch} {e : Env} {R : Room} {s : State} {m : MethodId} {args : Array Value} {below : List Frame} {meth : Method} {c : Code} {T0 : State} {locs : List Loc} {cells slots : Nat} {Z : State} {a0 : Array Value} {h0 : Heap} {n0 : Nat} (r0 r1 wa : Addr) (p2 i n b x M : Int32) (s4 : Slot) (ci cw : Cell)
    (X0 : Stand p l e R s m args below meth c T0 locs cells slots) (hx : p.tables.exec = Jvm.exec) (hZ : Z.Warmed39 s.vm) (hw : ∀ d ∈ tables_1, d.before a0 Z = true) (hby : c.code = prog_10_method_1_code) (hml : c.maxLocals = 9) (hown : s.vm.findClass "com/example/moffett/moffett/requests/PackedIndexes" = some m.cls) (e0 : T0.heap = h0) (N0 : Fr n0 locs) (Z0 : n0 ≤ h0.size) (Fs : Fld Z h0 r0 "com/example/moffett/moffett/requests/PackedIndexes" "size" "I" (.int n)) (Fb : Fld Z h0 r0 "com/example/moffett/moffett/requests/PackedIndexes" "bitsEach" "I" (.int b)) (Fw : Fld Z h0 r0 "com/example/moffett/moffett/requests/PackedIndexes" "words" "[J" (.ref wa)) (hs4 : One s4) (Ai : Arr Z h0 r1 ci .int) (hin : ¬ (i < 0 ∨ ci.slots.size ≤ i.toNatClampNeg)) (hat : ci.slots[i.toNatClampNeg]? = some (.int x)) (hlt : i < n) (hge : ¬ ((i + (1 : Int32)) < n)) (hx0 : ¬ (x < (0 : Int32))) (hxb : x < p2) (g_wa : n0 ≤ wa) (hne : r0 ≠ wa) (Aw : Arr Z h0 wa cw .long) (Sw : cw.slots.size = M.toNatClampNeg) (hwz : ∀ j : Int32, ¬ (j < 0 ∨ cw.slots.size ≤ j.toNatClampNeg) → cw.slots[j.toNatClampNeg]? = some (.long (0 : Int64))) (hi0 : 0 ≤ i.toInt) (hi1 : i.toInt + 1 = n.toInt) (hn15 : n.toInt ≤ 15) (hb1 : ¬ (x = (0 : Int32)) → 1 ≤ b.toInt) (hb31 : b.toInt ≤ 31) (hM : M.toInt = (n.toInt * b.toInt + 63) / 64) :
    ∃ (T' : State) (h' : Heap) (locs' : List Loc) (Ls : Array Slot), Stand p l e R s m args below meth c T' locs' cells slots ∧ T'.heap = h' ∧ Fr n0 locs' ∧ Keep h0 h' [wa] ∧ ∀ t, Steps p.tables e below (T'.setTop (mkF m 193 Ls [])) t → Steps p.tables e below (T0.setTop (mkF m 62 #[.val (.ref r0), .val (.ref r1), .val (.int p2), .val (.int i), s4, .unset, .unset, .unset, .unset] [])) t := by
  have kp0 : Keep h0 h0 [wa] := Keep.refl _ _
  have G0 : ∀ t, Steps p.tables e below (T0.setTop (mkF m 62 #[.val (.ref r0), .val (.ref r1), .val (.int p2), .val (.int i), s4, .unset, .unset, .unset, .unset] [])) t → Steps p.tables e below (T0.setTop (mkF m 62 #[.val (.ref r0), .val (.ref r1), .val (.int p2), .val (.int i), s4, .unset, .unset, .unset, .unset] [])) t := fun t k => k
  obtain ⟨T1, X1, e1, st1⟩ := getF X0 hx hZ hown (host := "") (Or.inl (hw _ (List.mem_of_getElem? (i := 15) rfl))) Via.refl e0 Fs (g := (mkF m 64 #[.val (.ref r0), .val (.ref r1), .val (.int p2), .val (.int i), s4, .unset, .unset, .unset, .unset] [(.ref r0), (.int i)])) rfl rfl (hb hby d2_64)
  have G2 : ∀ t, Steps p.tables e below (T1.setTop (mkF m 67 #[.val (.ref r0), .val (.ref r1), .val (.int p2), .val (.int i), s4, .unset, .unset, .unset, .unset] [(.int n), (.int i)])) t → Steps p.tables e below (T0.setTop (mkF m 62 #[.val (.ref r0), .val (.ref r1), .val (.int p2), .val (.int i), s4, .unset, .unset, .unset, .unset] [])) t := by
    intro t kt
    refine G0 _ ?_
    show Steps p.tables e below (T0.setTop (mkF m 62 #[.val (.ref r0), .val (.ref r1), .val (.int p2), .val (.int i), s4, .unset, .unset, .unset, .unset] [])) _
    refine XS.iloadN X0.here hx rfl (hb hby d2_62) rfl ?_
    show Steps p.tables e below (T0.setTop (mkF m 63 #[.val (.ref r0), .val (.ref r1), .val (.int p2), .val (.int i), s4, .unset, .unset, .unset, .unset] [(.int i)])) _
    refine XS.aloadN X0.here hx rfl (hb hby d2_63) rfl rfl ?_
    show Steps p.tables e below (T0.setTop (mkF m 64 #[.val (.ref r0), .val (.ref r1), .val (.int p2), .val (.int i), s4, .unset, .unset, .unset, .unset] [(.ref r0), (.int i)])) _
    refine st1 _ ?_
    exact kt
  have hc67_3 : i < n := hlt
  have G4 : ∀ t, Steps p.tables e below (T1.setTop (mkF m 77 #[.val (.ref r0), .val (.ref r1), .val (.int p2), .val (.int i), .val (.int x), .unset, .unset, .unset, .unset] [(.int x)])) t → Steps p.tables e below (T0.setTop (mkF m 62 #[.val (.ref r0), .val (.ref r1), .val (.int p2), .val (.int i), s4, .unset, .unset, .unset, .unset] [])) t := by
    intro t kt
    refine G2 _ ?_
    show Steps p.tables e below (T1.setTop (mkF m 67 #[.val (.ref r0), .val (.ref r1), .val (.int p2), .val (.int i), s4, .unset, .unset, .unset, .unset] [(.int n), (.int i)])) _
    refine XS.icmpNo X1.here hx rfl (hb hby d2_67) rfl (tlt hc67_3).2.1 ?_
    show Steps p.tables e below (T1.setTop (mkF m 70 #[.val (.ref r0), .val (.ref r1), .val (.int p2), .val (.int i), s4, .unset, .unset, .unset, .unset] [])) _
    refine XS.aloadN X1.here hx rfl (hb hby d2_70) rfl rfl ?_
    show Steps p.tables e below (T1.setTop (mkF m 71 #[.val (.ref r0), .val (.ref r1), .val (.int p2), .val (.int i), s4, .unset, .unset, .unset, .unset] [(.ref r1)])) _
    refine XS.iloadN X1.here hx rfl (hb hby d2_71) rfl ?_
    show Steps p.tables e below (T1.setTop (mkF m 72 #[.val (.ref r0), .val (.ref r1), .val (.int p2), .val (.int i), s4, .unset, .unset, .unset, .unset] [(.int i), (.ref r1)])) _
    refine X1.iaload hx (j := i) (v := (.int x)) (by rw [e1]; exact Ai.1) (State.isArrayOf_alike hZ.alike Ai.2.1) Ai.2.2 hin hat (g := (mkF m 72 #[.val (.ref r0), .val (.ref r1), .val (.int p2), .val (.int i), s4, .unset, .unset, .unset, .unset] [(.int i), (.ref r1)])) rfl rfl (hb hby d2_72) _ ?_
    show Steps p.tables e below (T1.setTop (mkF m 73 #[.val (.ref r0), .val (.ref r1), .val (.int p2), .val (.int i), s4, .unset, .unset, .unset, .unset] [(.int x)])) _
    refine XS.istore X1.here hx rfl (hb hby d2_73) rfl (l' := #[.val (.ref r0), .val (.ref r1), .val (.int p2), .val (.int i), .val (.int x), .unset, .unset, .unset, .unset]) (XS.store1 (o := s4) rfl hs4 rfl) ?_
    show Steps p.tables e below (T1.setTop (mkF m 75 #[.val (.ref r0), .val (.ref r1), .val (.int p2), .val (.int i), .val (.int x), .unset, .unset, .unset, .unset] [])) _
    refine XS.iload X1.here hx rfl (hb hby d2_75) rfl ?_
    exact kt
  have hc77_5 : ¬ (x < (0 : Int32)) := hx0
  have G6 : ∀ t, Steps p.tables e below (T1.setTop (mkF m 83 #[.val (.ref r0), .val (.ref r1), .val (.int p2), .val (.int i), .val (.int x), .unset, .unset, .unset, .unset] [(.int p2), (.int x)])) t → Steps p.tables e below (T0.setTop (mkF m 62 #[.val (.ref r0), .val (.ref r1), .val (.int p2), .val (.int i), s4, .unset, .unset, .unset, .unset] [])) t := by
    intro t kt
    refine G4 _ ?_
    show Steps p.tables e below (T1.setTop (mkF m 77 #[.val (.ref r0), .val (.ref r1), .val (.int p2), .val (.int i), .val (.int x), .unset, .unset, .unset, .unset] [(.int x)])) _
    refine XS.ifNo X1.here hx rfl (hb hby d2_77) rfl ((if0 _ _).trans (flt hc77_5).1) ?_
    show Steps p.tables e below (T1.setTop (mkF m 80 #[.val (.ref r0), .val (.ref r1), .val (.int p2), .val (.int i), .val (.int x), .unset, .unset, .unset, .unset] [])) _
    refine XS.iload X1.here hx rfl (hb hby d2_80) rfl ?_
    show Steps p.tables e below (T1.setTop (mkF m 82 #[.val (.ref r0), .val (.ref r1), .val (.int p2), .val (.int i), .val (.int x), .unset, .unset, .unset, .unset] [(.int x)])) _
    refine XS.iloadN X1.here hx rfl (hb hby d2_82) rfl ?_
    exact kt
  have hc83_7 : x < p2 := hxb
  have G8 : ∀ t, Steps p.tables e below (T1.setTop (mkF m 104 #[.val (.ref r0), .val (.ref r1), .val (.int p2), .val (.int i), .val (.int x), .unset, .unset, .unset, .unset] [(.int x)])) t → Steps p.tables e below (T0.setTop (mkF m 62 #[.val (.ref r0), .val (.ref r1), .val (.int p2), .val (.int i), s4, .unset, .unset, .unset, .unset] [])) t := by
    intro t kt
    refine G6 _ ?_
    show Steps p.tables e below (T1.setTop (mkF m 83 #[.val (.ref r0), .val (.ref r1), .val (.int p2), .val (.int i), .val (.int x), .unset, .unset, .unset, .unset] [(.int p2), (.int x)])) _
    refine XS.icmpYes X1.here hx rfl (pc0 := 83) (pc' := 102) rfl (hb hby d2_83) rfl (tlt hc83_7).1 (by decide) (by decide) ?_
    show Steps p.tables e below (T1.setTop (mkF m 102 #[.val (.ref r0), .val (.ref r1), .val (.int p2), .val (.int i), .val (.int x), .unset, .unset, .unset, .unset] [])) _
    refine XS.iload X1.here hx rfl (hb hby d2_102) rfl ?_
    exact kt
  by_cases hc104_9 : x = (0 : Int32)
  · skip
    obtain ⟨T10, X10, e10, st10⟩ := getF X1 hx hZ hown (host := "") (Or.inl (hw _ (List.mem_of_getElem? (i := 15) rfl))) Via.refl e1 Fs (g := (mkF m 64 #[.val (.ref r0), .val (.ref r1), .val (.int p2), .val (.int (i + (1 : Int32))), .val (.int x), .unset, .unset, .unset, .unset] [(.ref r0), (.int (i + (1 : Int32)))])) rfl rfl (hb hby d2_64)
    have G11 : ∀ t, Steps p.tables e below (T10.setTop (mkF m 67 #[.val (.ref r0), .val (.ref r1), .val (.int p2), .val (.int (i + (1 : Int32))), .val (.int x), .unset, .unset, .unset, .unset] [(.int n), (.int (i + (1 : Int32)))])) t → Steps p.tables e below (T0.setTop (mkF m 62 #[.val (.ref r0), .val (.ref r1), .val (.int p2), .val (.int i), s4, .unset, .unset, .unset, .unset] [])) t := by
      intro t kt
      refine G8 _ ?_
      show Steps p.tables e below (T1.setTop (mkF m 104 #[.val (.ref r0), .val (.ref r1), .val (.int p2), .val (.int i), .val (.int x), .unset, .unset, .unset, .unset] [(.int x)])) _
      refine XS.ifNo X1.here hx rfl (hb hby d2_104) rfl ((if0 _ _).trans (teq hc104_9).2) ?_
      show Steps p.tables e below (T1.setTop (mkF m 107 #[.val (.ref r0), .val (.ref r1), .val (.int p2), .val (.int i), .val (.int x), .unset, .unset, .unset, .unset] [])) _
      refine XS.goto X1.here hx rfl (pc0 := 107) (pc' := 187) rfl (hb hby d2_107) (by decide) (by decide) ?_
      show Steps p.tables e below (T1.setTop (mkF m 187 #[.val (.ref r0), .val (.ref r1), .val (.int p2), .val (.int i), .val (.int x), .unset, .unset, .unset, .unset] [])) _
      refine XS.iinc X1.here hx rfl (hb hby d2_187) rfl (l' := #[.val (.ref r0), .val (.ref r1), .val (.int p2), .val (.int (i + (1 : Int32))), .val (.int x), .unset, .unset, .unset, .unset]) rfl ?_
      show Steps p.tables e below (T1.setTop (mkF m 190 #[.val (.ref r0), .val (.ref r1), .val (.int p2), .val (.int (i + (1 : Int32))), .val (.int x), .unset, .unset, .unset, .unset] [])) _
      refine XS.goto X1.here hx rfl (pc0 := 190) (pc' := 62) rfl (hb hby d2_190) (by decide) (by decide) ?_
      show Steps p.tables e below (T1.setTop (mkF m 62 #[.val (.ref r0), .val (.ref r1), .val (.int p2), .val (.int (i + (1 : Int32))), .val (.int x), .unset, .unset, .unset, .unset] [])) _
      refine XS.iloadN X1.here hx rfl (hb hby d2_62) rfl ?_
      show Steps p.tables e below (T1.setTop (mkF m 63 #[.val (.ref r0), .val (.ref r1), .val (.int p2), .val (.int (i + (1 : Int32))), .val (.int x), .unset, .unset, .unset, .unset] [(.int (i + (1 : Int32)))])) _
      refine XS.aloadN X1.here hx rfl (hb hby d2_63) rfl rfl ?_
      show Steps p.tables e below (T1.setTop (mkF m 64 #[.val (.ref r0), .val (.ref r1), .val (.int p2), .val (.int (i + (1 : Int32))), .val (.int x), .unset, .unset, .unset, .unset] [(.ref r0), (.int (i + (1 : Int32)))])) _
      refine st10 _ ?_
      exact kt
    have hc67_12 : ¬ ((i + (1 : Int32)) < n) := hge
    have G13 : ∀ t, Steps p.tables e below (T10.setTop (mkF m 193 #[.val (.ref r0), .val (.ref r1), .val (.int p2), .val (.int (i + (1 : Int32))), .val (.int x), .unset, .unset, .unset, .unset] [])) t → Steps p.tables e below (T0.setTop (mkF m 62 #[.val (.ref r0), .val (.ref r1), .val (.int p2), .val (.int i), s4, .unset, .unset, .unset, .unset] [])) t := by
      intro t kt
      refine G11 _ ?_
      show Steps p.tables e below (T10.setTop (mkF m 67 #[.val (.ref r0), .val (.ref r1), .val (.int p2), .val (.int (i + (1 : Int32))), .val (.int x), .unset, .unset, .unset, .unset] [(.int n), (.int (i + (1 : Int32)))])) _
      refine XS.icmpYes X10.here hx rfl (pc0 := 67) (pc' := 193) rfl (hb hby d2_67) rfl (flt hc67_12).2.1 (by decide) (by decide) ?_
      exact kt
    exact ⟨_, _, _, _, X10, e10, N0, kp0, G13⟩
  · skip
    obtain ⟨T14, X14, e14, st14⟩ := getF X1 hx hZ hown (host := "") (Or.inl (hw _ (List.mem_of_getElem? (i := 22) rfl))) Via.refl e1 Fb (g := (mkF m 113 #[.val (.ref r0), .val (.ref r1), .val (.int p2), .val (.int i), .val (.int x), .unset, .unset, .unset, .unset] [(.ref r0), (.long (i.toInt64))])) rfl rfl (hb hby d2_113)
    have G15 : ∀ t, Steps p.tables e below (T14.setTop (mkF m 138 #[.val (.ref r0), .val (.ref r1), .val (.int p2), .val (.int i), .val (.int x), .val (.long ((i.toInt64) * (b.toInt64))), .second, .val (.int ((((i.toInt64) * (b.toInt64)) / (64 : Int64)).toInt32)), .val (.int ((((i.toInt64) * (b.toInt64)) - (((i.toInt64) * (b.toInt64)) / (64 : Int64)) * (64 : Int64)).toInt32))] [])) t → Steps p.tables e below (T0.setTop (mkF m 62 #[.val (.ref r0), .val (.ref r1), .val (.int p2), .val (.int i), s4, .unset, .unset, .unset, .unset] [])) t := by
      intro t kt
      refine G8 _ ?_
      show Steps p.tables e below (T1.setTop (mkF m 104 #[.val (.ref r0), .val (.ref r1), .val (.int p2), .val (.int i), .val (.int x), .unset, .unset, .unset, .unset] [(.int x)])) _
      refine XS.ifYes X1.here hx rfl (pc0 := 104) (pc' := 110) rfl (hb hby d2_104) rfl ((if0 _ _).trans (feq hc104_9).2) (by decide) (by decide) ?_
      show Steps p.tables e below (T1.setTop (mkF m 110 #[.val (.ref r0), .val (.ref r1), .val (.int p2), .val (.int i), .val (.int x), .unset, .unset, .unset, .unset] [])) _
      refine XS.iloadN X1.here hx rfl (hb hby d2_110) rfl ?_
      show Steps p.tables e below (T1.setTop (mkF m 111 #[.val (.ref r0), .val (.ref r1), .val (.int p2), .val (.int i), .val (.int x), .unset, .unset, .unset, .unset] [(.int i)])) _
      refine XS.i2l X1.here hx rfl (hb hby d2_111) rfl ?_
      show Steps p.tables e below (T1.setTop (mkF m 112 #[.val (.ref r0), .val (.ref r1), .val (.int p2), .val (.int i), .val (.int x), .unset, .unset, .unset, .unset] [(.long (i.toInt64))])) _
      refine XS.aloadN X1.here hx rfl (hb hby d2_112) rfl rfl ?_
      show Steps p.tables e below (T1.setTop (mkF m 113 #[.val (.ref r0), .val (.ref r1), .val (.int p2), .val (.int i), .val (.int x), .unset, .unset, .unset, .unset] [(.ref r0), (.long (i.toInt64))])) _
      refine st14 _ ?_
      show Steps p.tables e below (T14.setTop (mkF m 116 #[.val (.ref r0), .val (.ref r1), .val (.int p2), .val (.int i), .val (.int x), .unset, .unset, .unset, .unset] [(.int b), (.long (i.toInt64))])) _
      refine XS.i2l X14.here hx rfl (hb hby d2_116) rfl ?_
      show Steps p.tables e below (T14.setTop (mkF m 117 #[.val (.ref r0), .val (.ref r1), .val (.int p2), .val (.int i), .val (.int x), .unset, .unset, .unset, .unset] [(.long (b.toInt64)), (.long (i.toInt64))])) _
      refine XS.lmul X14.here hx rfl (hb hby d2_117) rfl ?_
      show Steps p.tables e below (T14.setTop (mkF m 118 #[.val (.ref r0), .val (.ref r1), .val (.int p2), .val (.int i), .val (.int x), .unset, .unset, .unset, .unset] [(.long ((i.toInt64) * (b.toInt64)))])) _
      refine XS.lstore X14.here hx rfl (hb hby d2_118) rfl (l' := #[.val (.ref r0), .val (.ref r1), .val (.int p2), .val (.int i), .val (.int x), .val (.long ((i.toInt64) * (b.toInt64))), .second, .unset, .unset]) rfl ?_
      show Steps p.tables e below (T14.setTop (mkF m 120 #[.val (.ref r0), .val (.ref r1), .val (.int p2), .val (.int i), .val (.int x), .val (.long ((i.toInt64) * (b.toInt64))), .second, .unset, .unset] [])) _
      refine XS.lload X14.here hx rfl (hb hby d2_120) rfl ?_
      show Steps p.tables e below (T14.setTop (mkF m 122 #[.val (.ref r0), .val (.ref r1), .val (.int p2), .val (.int i), .val (.int x), .val (.long ((i.toInt64) * (b.toInt64))), .second, .unset, .unset] [(.long ((i.toInt64) * (b.toInt64)))])) _
      refine X14.ldc2Long hx hown (mvT hZ (hw _ (List.mem_of_getElem? (i := 24) rfl))) (g := (mkF m 122 #[.val (.ref r0), .val (.ref r1), .val (.int p2), .val (.int i), .val (.int x), .val (.long ((i.toInt64) * (b.toInt64))), .second, .unset, .unset] [(.long ((i.toInt64) * (b.toInt64)))])) rfl (hb hby d2_122) _ ?_
      show Steps p.tables e below (T14.setTop (mkF m 125 #[.val (.ref r0), .val (.ref r1), .val (.int p2), .val (.int i), .val (.int x), .val (.long ((i.toInt64) * (b.toInt64))), .second, .unset, .unset] [(.long (64 : Int64)), (.long ((i.toInt64) * (b.toInt64)))])) _
      refine XS.ldiv X14.here hx rfl (hb hby d2_125) rfl (by decide) ?_
      show Steps p.tables e below (T14.setTop (mkF m 126 #[.val (.ref r0), .val (.ref r1), .val (.int p2), .val (.int i), .val (.int x), .val (.long ((i.toInt64) * (b.toInt64))), .second, .unset, .unset] [(.long (((i.toInt64) * (b.toInt64)) / (64 : Int64)))])) _
      refine XS.l2i X14.here hx rfl (hb hby d2_126) rfl ?_
      show Steps p.tables e below (T14.setTop (mkF m 127 #[.val (.ref r0), .val (.ref r1), .val (.int p2), .val (.int i), .val (.int x), .val (.long ((i.toInt64) * (b.toInt64))), .second, .unset, .unset] [(.int ((((i.toInt64) * (b.toInt64)) / (64 : Int64)).toInt32))])) _
      refine XS.istore X14.here hx rfl (hb hby d2_127) rfl (l' := #[.val (.ref r0), .val (.ref r1), .val (.int p2), .val (.int i), .val (.int x), .val (.long ((i.toInt64) * (b.toInt64))), .second, .val (.int ((((i.toInt64) * (b.toInt64)) / (64 : Int64)).toInt32)), .unset]) rfl ?_
      show Steps p.tables e below (T14.setTop (mkF m 129 #[.val (.ref r0), .val (.ref r1), .val (.int p2), .val (.int i), .val (.int x), .val (.long ((i.toInt64) * (b.toInt64))), .second, .val (.int ((((i.toInt64) * (b.toInt64)) / (64 : Int64)).toInt32)), .unset] [])) _
      refine XS.lload X14.here hx rfl (hb hby d2_129) rfl ?_
      show Steps p.tables e below (T14.setTop (mkF m 131 #[.val (.ref r0), .val (.ref r1), .val (.int p2), .val (.int i), .val (.int x), .val (.long ((i.toInt64) * (b.toInt64))), .second, .val (.int ((((i.toInt64) * (b.toInt64)) / (64 : Int64)).toInt32)), .unset] [(.long ((i.toInt64) * (b.toInt64)))])) _
      refine X14.ldc2Long hx hown (mvT hZ (hw _ (List.mem_of_getElem? (i := 24) rfl))) (g := (mkF m 131 #[.val (.ref r0), .val (.ref r1), .val (.int p2), .val (.int i), .val (.int x), .val (.long ((i.toInt64) * (b.toInt64))), .second, .val (.int ((((i.toInt64) * (b.toInt64)) / (64 : Int64)).toInt32)), .unset] [(.long ((i.toInt64) * (b.toInt64)))])) rfl (hb hby d2_131) _ ?_
      show Steps p.tables e below (T14.setTop (mkF m 134 #[.val (.ref r0), .val (.ref r1), .val (.int p2), .val (.int i), .val (.int x), .val (.long ((i.toInt64) * (b.toInt64))), .second, .val (.int ((((i.toInt64) * (b.toInt64)) / (64 : Int64)).toInt32)), .unset] [(.long (64 : Int64)), (.long ((i.toInt64) * (b.toInt64)))])) _
      refine XS.lrem X14.here hx rfl (hb hby d2_134) rfl (by decide) ?_
      show Steps p.tables e below (T14.setTop (mkF m 135 #[.val (.ref r0), .val (.ref r1), .val (.int p2), .val (.int i), .val (.int x), .val (.long ((i.toInt64) * (b.toInt64))), .second, .val (.int ((((i.toInt64) * (b.toInt64)) / (64 : Int64)).toInt32)), .unset] [(.long (((i.toInt64) * (b.toInt64)) - (((i.toInt64) * (b.toInt64)) / (64 : Int64)) * (64 : Int64)))])) _
      refine XS.l2i X14.here hx rfl (hb hby d2_135) rfl ?_
      show Steps p.tables e below (T14.setTop (mkF m 136 #[.val (.ref r0), .val (.ref r1), .val (.int p2), .val (.int i), .val (.int x), .val (.long ((i.toInt64) * (b.toInt64))), .second, .val (.int ((((i.toInt64) * (b.toInt64)) / (64 : Int64)).toInt32)), .unset] [(.int ((((i.toInt64) * (b.toInt64)) - (((i.toInt64) * (b.toInt64)) / (64 : Int64)) * (64 : Int64)).toInt32))])) _
      refine XS.istore X14.here hx rfl (hb hby d2_136) rfl (l' := #[.val (.ref r0), .val (.ref r1), .val (.int p2), .val (.int i), .val (.int x), .val (.long ((i.toInt64) * (b.toInt64))), .second, .val (.int ((((i.toInt64) * (b.toInt64)) / (64 : Int64)).toInt32)), .val (.int ((((i.toInt64) * (b.toInt64)) - (((i.toInt64) * (b.toInt64)) / (64 : Int64)) * (64 : Int64)).toInt32))]) rfl ?_
      exact kt
    obtain ⟨bit, hbit⟩ : ∃ z : Int64, z = ((i.toInt64) * (b.toInt64)) := ⟨_, rfl⟩
    obtain ⟨wd, hwd⟩ : ∃ z : Int32, z = ((((i.toInt64) * (b.toInt64)) / (64 : Int64)).toInt32) := ⟨_, rfl⟩
    obtain ⟨sh, hsh⟩ : ∃ z : Int32, z = ((((i.toInt64) * (b.toInt64)) - (((i.toInt64) * (b.toInt64)) / (64 : Int64)) * (64 : Int64)).toInt32) := ⟨_, rfl⟩
    have G16 : ∀ t, Steps p.tables e below (T14.setTop (mkF m 138 #[.val (.ref r0), .val (.ref r1), .val (.int p2), .val (.int i), .val (.int x), .val (.long bit), .second, .val (.int wd), .val (.int sh)] [])) t → Steps p.tables e below (T0.setTop (mkF m 62 #[.val (.ref r0), .val (.ref r1), .val (.int p2), .val (.int i), s4, .unset, .unset, .unset, .unset] [])) t := by
      intro t kt
      rw [hbit, hwd, hsh] at kt
      exact G15 t kt
    have hwo := own_word i n b M hi0 hi1 hn15 ⟨hb1 hc104_9, hb31⟩ hM wd sh hwd hsh
    obtain ⟨T17, X17, e17, st17⟩ := getF X14 hx hZ hown (host := "") (Or.inl (hw _ (List.mem_of_getElem? (i := 26) rfl))) Via.refl e14 Fw (g := (mkF m 139 #[.val (.ref r0), .val (.ref r1), .val (.int p2), .val (.int i), .val (.int x), .val (.long bit), .second, .val (.int wd), .val (.int sh)] [(.ref r0)])) rfl rfl (hb hby d2_139)
    have hin1 : ¬ (wd < 0 ∨ cw.slots.size ≤ (wd).toNatClampNeg) := inb_of Sw hwo.1
    have hat1 := hwz wd hin1
    obtain ⟨T18, h18, X18, e18, W18, st18⟩ := stJ X17 hx hZ e17 Aw (j := wd) hin1 (g := (mkF m 153 #[.val (.ref r0), .val (.ref r1), .val (.int p2), .val (.int i), .val (.int x), .val (.long bit), .second, .val (.int wd), .val (.int sh)] [(.long ((0 : Int64) ||| ((x.toInt64) <<< (sh &&& 0x3f).toInt64))), (.int wd), (.ref wa)])) rfl rfl (hb hby d2_153)
    have fa19 : Fld Z h18 r0 "com/example/moffett/moffett/requests/PackedIndexes" "size" "I" (.int n) := Fs.other W18 (Or.inl hne)
    have fa20 : Fld Z h18 r0 "com/example/moffett/moffett/requests/PackedIndexes" "bitsEach" "I" (.int b) := Fb.other W18 (Or.inl hne)
    have fa21 : Fld Z h18 r0 "com/example/moffett/moffett/requests/PackedIndexes" "words" "[J" (.ref wa) := Fw.other W18 (Or.inl hne)
    have z22 : n0 ≤ h18.size := Nat.le_trans Z0 (Nat.le_of_eq W18.size.symm)
    have kp23 : Keep h0 h18 [wa] := kp0.wr W18 (Or.inl (List.mem_of_getElem? (i := 0) rfl))
    have N18 := Fr.snoc X18 N0 g_wa
    have Aw2 := Aw.same W18
    obtain ⟨T24, X24, e24, st24⟩ := getF X18 hx hZ hown (host := "") (Or.inl (hw _ (List.mem_of_getElem? (i := 22) rfl))) Via.refl e18 fa20 (g := (mkF m 157 #[.val (.ref r0), .val (.ref r1), .val (.int p2), .val (.int i), .val (.int x), .val (.long bit), .second, .val (.int wd), .val (.int sh)] [(.ref r0), (.int sh)])) rfl rfl (hb hby d2_157)
    have G25 : ∀ t, Steps p.tables e below (T24.setTop (mkF m 163 #[.val (.ref r0), .val (.ref r1), .val (.int p2), .val (.int i), .val (.int x), .val (.long bit), .second, .val (.int wd), .val (.int sh)] [(.int (64 : Int32)), (.int (sh + b))])) t → Steps p.tables e below (T0.setTop (mkF m 62 #[.val (.ref r0), .val (.ref r1), .val (.int p2), .val (.int i), s4, .unset, .unset, .unset, .unset] [])) t := by
      intro t kt
      refine G16 _ ?_
      show Steps p.tables e below (T14.setTop (mkF m 138 #[.val (.ref r0), .val (.ref r1), .val (.int p2), .val (.int i), .val (.int x), .val (.long bit), .second, .val (.int wd), .val (.int sh)] [])) _
      refine XS.aloadN X14.here hx rfl (hb hby d2_138) rfl rfl ?_
      show Steps p.tables e below (T14.setTop (mkF m 139 #[.val (.ref r0), .val (.ref r1), .val (.int p2), .val (.int i), .val (.int x), .val (.long bit), .second, .val (.int wd), .val (.int sh)] [(.ref r0)])) _
      refine st17 _ ?_
      show Steps p.tables e below (T17.setTop (mkF m 142 #[.val (.ref r0), .val (.ref r1), .val (.int p2), .val (.int i), .val (.int x), .val (.long bit), .second, .val (.int wd), .val (.int sh)] [(.ref wa)])) _
      refine XS.iload X17.here hx rfl (hb hby d2_142) rfl ?_
      show Steps p.tables e below (T17.setTop (mkF m 144 #[.val (.ref r0), .val (.ref r1), .val (.int p2), .val (.int i), .val (.int x), .val (.long bit), .second, .val (.int wd), .val (.int sh)] [(.int wd), (.ref wa)])) _
      jvm_step X17.here [X17.here.top, hx, (hb hby d2_144), Value.category]
      show Steps p.tables e below (T17.setTop (mkF m 145 #[.val (.ref r0), .val (.ref r1), .val (.int p2), .val (.int i), .val (.int x), .val (.long bit), .second, .val (.int wd), .val (.int sh)] [(.int wd), (.ref wa), (.int wd), (.ref wa)])) _
      refine X17.laload hx (j := wd) (v := (.long (0 : Int64))) (by rw [e17]; exact Aw.1) (State.isArrayOf_alike hZ.alike Aw.2.1) Aw.2.2 hin1 hat1 (g := (mkF m 145 #[.val (.ref r0), .val (.ref r1), .val (.int p2), .val (.int i), .val (.int x), .val (.long bit), .second, .val (.int wd), .val (.int sh)] [(.int wd), (.ref wa), (.int wd), (.ref wa)])) rfl rfl (hb hby d2_145) _ ?_
      show Steps p.tables e below (T17.setTop (mkF m 146 #[.val (.ref r0), .val (.ref r1), .val (.int p2), .val (.int i), .val (.int x), .val (.long bit), .second, .val (.int wd), .val (.int sh)] [(.long (0 : Int64)), (.int wd), (.ref wa)])) _
      refine XS.iload X17.here hx rfl (hb hby d2_146) rfl ?_
      show Steps p.tables e below (T17.setTop (mkF m 148 #[.val (.ref r0), .val (.ref r1), .val (.int p2), .val (.int i), .val (.int x), .val (.long bit), .second, .val (.int wd), .val (.int sh)] [(.int x), (.long (0 : Int64)), (.int wd), (.ref wa)])) _
      refine XS.i2l X17.here hx rfl (hb hby d2_148) rfl ?_
      show Steps p.tables e below (T17.setTop (mkF m 149 #[.val (.ref r0), .val (.ref r1), .val (.int p2), .val (.int i), .val (.int x), .val (.long bit), .second, .val (.int wd), .val (.int sh)] [(.long (x.toInt64)), (.long (0 : Int64)), (.int wd), (.ref wa)])) _
      refine XS.iload X17.here hx rfl (hb hby d2_149) rfl ?_
      show Steps p.tables e below (T17.setTop (mkF m 151 #[.val (.ref r0), .val (.ref r1), .val (.int p2), .val (.int i), .val (.int x), .val (.long bit), .second, .val (.int wd), .val (.int sh)] [(.int sh), (.long (x.toInt64)), (.long (0 : Int64)), (.int wd), (.ref wa)])) _
      refine XS.lshl X17.here hx rfl (hb hby d2_151) rfl ?_
      show Steps p.tables e below (T17.setTop (mkF m 152 #[.val (.ref r0), .val (.ref r1), .val (.int p2), .val (.int i), .val (.int x), .val (.long bit), .second, .val (.int wd), .val (.int sh)] [(.long ((x.toInt64) <<< (sh &&& 0x3f).toInt64)), (.long (0 : Int64)), (.int wd), (.ref wa)])) _
      refine XS.lor X17.here hx rfl (hb hby d2_152) rfl ?_
      show Steps p.tables e below (T17.setTop (mkF m 153 #[.val (.ref r0), .val (.ref r1), .val (.int p2), .val (.int i), .val (.int x), .val (.long bit), .second, .val (.int wd), .val (.int sh)] [(.long ((0 : Int64) ||| ((x.toInt64) <<< (sh &&& 0x3f).toInt64))), (.int wd), (.ref wa)])) _
      refine st18 _ ?_
      show Steps p.tables e below (T18.setTop (mkF m 154 #[.val (.ref r0), .val (.ref r1), .val (.int p2), .val (.int i), .val (.int x), .val (.long bit), .second, .val (.int wd), .val (.int sh)] [])) _
      refine XS.iload X18.here hx rfl (hb hby d2_154) rfl ?_
      show Steps p.tables e below (T18.setTop (mkF m 156 #[.val (.ref r0), .val (.ref r1), .val (.int p2), .val (.int i), .val (.int x), .val (.long bit), .second, .val (.int wd), .val (.int sh)] [(.int sh)])) _
      refine XS.aloadN X18.here hx rfl (hb hby d2_156) rfl rfl ?_
      show Steps p.tables e below (T18.setTop (mkF m 157 #[.val (.ref r0), .val (.ref r1), .val (.int p2), .val (.int i), .val (.int x), .val (.long bit), .second, .val (.int wd), .val (.int sh)] [(.ref r0), (.int sh)])) _
      refine st24 _ ?_
      show Steps p.tables e below (T24.setTop (mkF m 160 #[.val (.ref r0), .val (.ref r1), .val (.int p2), .val (.int i), .val (.int x), .val (.long bit), .second, .val (.int wd), .val (.int sh)] [(.int b), (.int sh)])) _
      refine XS.iadd X24.here hx rfl (hb hby d2_160) rfl ?_
      show Steps p.tables e below (T24.setTop (mkF m 161 #[.val (.ref r0), .val (.ref r1), .val (.int p2), .val (.int i), .val (.int x), .val (.long bit), .second, .val (.int wd), .val (.int sh)] [(.int (sh + b))])) _
      refine XS.bipush X24.here hx rfl (hb hby d2_161) ?_
      exact kt
    by_cases hc163_26 : (64 : Int32) < (sh + b)
    · skip
      obtain ⟨T27, X27, e27, st27⟩ := getF X24 hx hZ hown (host := "") (Or.inl (hw _ (List.mem_of_getElem? (i := 26) rfl))) Via.refl e24 fa21 (g := (mkF m 167 #[.val (.ref r0), .val (.ref r1), .val (.int p2), .val (.int i), .val (.int x), .val (.long bit), .second, .val (.int wd), .val (.int sh)] [(.ref r0)])) rfl rfl (hb hby d2_167)
      have hwo2 := hwo.2 hc163_26
      have hin2 : ¬ ((wd + (1 : Int32)) < 0 ∨ cw.slots.size ≤ ((wd + (1 : Int32))).toNatClampNeg) := inb_of Sw ⟨hwo2.1, hwo2.2.1⟩
      have hin3 : ¬ ((wd + (1 : Int32)) < 0 ∨ (cw.setSlot wd.toNatClampNeg (.long ((0 : Int64) ||| ((x.toInt64) <<< (sh &&& 0x3f).toInt64)))).slots.size ≤ ((wd + (1 : Int32))).toNatClampNeg) := by rw [sz_set]; exact hin2
      have hat2 := (get_miss (v := (.long ((0 : Int64) ||| ((x.toInt64) <<< (sh &&& 0x3f).toInt64)))) hwo.1.1 hwo2.1 hwo2.2.2).trans (hwz (wd + (1 : Int32)) hin2)
      obtain ⟨T28, h28, X28, e28, W28, st28⟩ := stJ X27 hx hZ e27 Aw2 (j := (wd + (1 : Int32))) hin3 (g := (mkF m 186 #[.val (.ref r0), .val (.ref r1), .val (.int p2), .val (.int i), .val (.int x), .val (.long bit), .second, .val (.int wd), .val (.int sh)] [(.long ((0 : Int64) ||| (((x.toInt64).toUInt64 >>> (((64 : Int32) - sh) &&& 0x3f).toInt64.toUInt64).toInt64))), (.int (wd + (1 : Int32))), (.ref wa)])) rfl rfl (hb hby d2_186)
      have fa29 : Fld Z h28 r0 "com/example/moffett/moffett/requests/PackedIndexes" "size" "I" (.int n) := fa19.other W28 (Or.inl hne)
      have fa30 : Fld Z h28 r0 "com/example/moffett/moffett/requests/PackedIndexes" "bitsEach" "I" (.int b) := fa20.other W28 (Or.inl hne)
      have fa31 : Fld Z h28 r0 "com/example/moffett/moffett/requests/PackedIndexes" "words" "[J" (.ref wa) := fa21.other W28 (Or.inl hne)
      have z32 : n0 ≤ h28.size := Nat.le_trans z22 (Nat.le_of_eq W28.size.symm)
      have kp33 : Keep h0 h28 [wa] := kp23.wr W28 (Or.inl (List.mem_of_getElem? (i := 0) rfl))
      have N28 := Fr.snoc X28 N18 g_wa
      obtain ⟨T34, X34, e34, st34⟩ := getF X28 hx hZ hown (host := "") (Or.inl (hw _ (List.mem_of_getElem? (i := 15) rfl))) Via.refl e28 fa29 (g := (mkF m 64 #[.val (.ref r0), .val (.ref r1), .val (.int p2), .val (.int (i + (1 : Int32))), .val (.int x), .val (.long bit), .second, .val (.int wd), .val (.int sh)] [(.ref r0), (.int (i + (1 : Int32)))])) rfl rfl (hb hby d2_64)
      have G35 : ∀ t, Steps p.tables e below (T34.setTop (mkF m 67 #[.val (.ref r0), .val (.ref r1), .val (.int p2), .val (.int (i + (1 : Int32))), .val (.int x), .val (.long bit), .second, .val (.int wd), .val (.int sh)] [(.int n), (.int (i + (1 : Int32)))])) t → Steps p.tables e below (T0.setTop (mkF m 62 #[.val (.ref r0), .val (.ref r1), .val (.int p2), .val (.int i), s4, .unset, .unset, .unset, .unset] [])) t := by
        intro t kt
        refine G25 _ ?_
        show Steps p.tables e below (T24.setTop (mkF m 163 #[.val (.ref r0), .val (.ref r1), .val (.int p2), .val (.int i), .val (.int x), .val (.long bit), .second, .val (.int wd), .val (.int sh)] [(.int (64 : Int32)), (.int (sh + b))])) _
        refine XS.icmpNo X24.here hx rfl (hb hby d2_163) rfl (tlt hc163_26).2.2.2 ?_
        show Steps p.tables e below (T24.setTop (mkF m 166 #[.val (.ref r0), .val (.ref r1), .val (.int p2), .val (.int i), .val (.int x), .val (.long bit), .second, .val (.int wd), .val (.int sh)] [])) _
        refine XS.aloadN X24.here hx rfl (hb hby d2_166) rfl rfl ?_
        show Steps p.tables e below (T24.setTop (mkF m 167 #[.val (.ref r0), .val (.ref r1), .val (.int p2), .val (.int i), .val (.int x), .val (.long bit), .second, .val (.int wd), .val (.int sh)] [(.ref r0)])) _
        refine st27 _ ?_
        show Steps p.tables e below (T27.setTop (mkF m 170 #[.val (.ref r0), .val (.ref r1), .val (.int p2), .val (.int i), .val (.int x), .val (.long bit), .second, .val (.int wd), .val (.int sh)] [(.ref wa)])) _
        refine XS.iload X27.here hx rfl (hb hby d2_170) rfl ?_
        show Steps p.tables e below (T27.setTop (mkF m 172 #[.val (.ref r0), .val (.ref r1), .val (.int p2), .val (.int i), .val (.int x), .val (.long bit), .second, .val (.int wd), .val (.int sh)] [(.int wd), (.ref wa)])) _
        refine XS.iconst X27.here hx rfl (hb hby d2_172) ?_
        show Steps p.tables e below (T27.setTop (mkF m 173 #[.val (.ref r0), .val (.ref r1), .val (.int p2), .val (.int i), .val (.int x), .val (.long bit), .second, .val (.int wd), .val (.int sh)] [(.int (1 : Int32)), (.int wd), (.ref wa)])) _
        refine XS.iadd X27.here hx rfl (hb hby d2_173) rfl ?_
        show Steps p.tables e below (T27.setTop (mkF m 174 #[.val (.ref r0), .val (.ref r1), .val (.int p2), .val (.int i), .val (.int x), .val (.long bit), .second, .val (.int wd), .val (.int sh)] [(.int (wd + (1 : Int32))), (.ref wa)])) _
        jvm_step X27.here [X27.here.top, hx, (hb hby d2_174), Value.category]
        show Steps p.tables e below (T27.setTop (mkF m 175 #[.val (.ref r0), .val (.ref r1), .val (.int p2), .val (.int i), .val (.int x), .val (.long bit), .second, .val (.int wd), .val (.int sh)] [(.int (wd + (1 : Int32))), (.ref wa), (.int (wd + (1 : Int32))), (.ref wa)])) _
        refine X27.laload hx (j := (wd + (1 : Int32))) (v := (.long (0 : Int64))) (by rw [e27]; exact Aw2.1) (State.isArrayOf_alike hZ.alike Aw2.2.1) Aw2.2.2 hin3 hat2 (g := (mkF m 175 #[.val (.ref r0), .val (.ref r1), .val (.int p2), .val (.int i), .val (.int x), .val (.long bit), .second, .val (.int wd), .val (.int sh)] [(.int (wd + (1 : Int32))), (.ref wa), (.int (wd + (1 : Int32))), (.ref wa)])) rfl rfl (hb hby d2_175) _ ?_
        show Steps p.tables e below (T27.setTop (mkF m 176 #[.val (.ref r0), .val (.ref r1), .val (.int p2), .val (.int i), .val (.int x), .val (.long bit), .second, .val (.int wd), .val (.int sh)] [(.long (0 : Int64)), (.int (wd + (1 : Int32))), (.ref wa)])) _
        refine XS.iload X27.here hx rfl (hb hby d2_176) rfl ?_
        show Steps p.tables e below (T27.setTop (mkF m 178 #[.val (.ref r0), .val (.ref r1), .val (.int p2), .val (.int i), .val (.int x), .val (.long bit), .second, .val (.int wd), .val (.int sh)] [(.int x), (.long (0 : Int64)), (.int (wd + (1 : Int32))), (.ref wa)])) _
        refine XS.i2l X27.here hx rfl (hb hby d2_178) rfl ?_
        show Steps p.tables e below (T27.setTop (mkF m 179 #[.val (.ref r0), .val (.ref r1), .val (.int p2), .val (.int i), .val (.int x), .val (.long bit), .second, .val (.int wd), .val (.int sh)] [(.long (x.toInt64)), (.long (0 : Int64)), (.int (wd + (1 : Int32))), (.ref wa)])) _
        refine XS.bipush X27.here hx rfl (hb hby d2_179) ?_
        show Steps p.tables e below (T27.setTop (mkF m 181 #[.val (.ref r0), .val (.ref r1), .val (.int p2), .val (.int i), .val (.int x), .val (.long bit), .second, .val (.int wd), .val (.int sh)] [(.int (64 : Int32)), (.long (x.toInt64)), (.long (0 : Int64)), (.int (wd + (1 : Int32))), (.ref wa)])) _
        refine XS.iload X27.here hx rfl (hb hby d2_181) rfl ?_
        show Steps p.tables e below (T27.setTop (mkF m 183 #[.val (.ref r0), .val (.ref r1), .val (.int p2), .val (.int i), .val (.int x), .val (.long bit), .second, .val (.int wd), .val (.int sh)] [(.int sh), (.int (64 : Int32)), (.long (x.toInt64)), (.long (0 : Int64)), (.int (wd + (1 : Int32))), (.ref wa)])) _
        refine XS.isub X27.here hx rfl (hb hby d2_183) rfl ?_
        show Steps p.tables e below (T27.setTop (mkF m 184 #[.val (.ref r0), .val (.ref r1), .val (.int p2), .val (.int i), .val (.int x), .val (.long bit), .second, .val (.int wd), .val (.int sh)] [(.int ((64 : Int32) - sh)), (.long (x.toInt64)), (.long (0 : Int64)), (.int (wd + (1 : Int32))), (.ref wa)])) _
        refine XS.lushr X27.here hx rfl (hb hby d2_184) rfl ?_
        show Steps p.tables e below (T27.setTop (mkF m 185 #[.val (.ref r0), .val (.ref r1), .val (.int p2), .val (.int i), .val (.int x), .val (.long bit), .second, .val (.int wd), .val (.int sh)] [(.long (((x.toInt64).toUInt64 >>> (((64 : Int32) - sh) &&& 0x3f).toInt64.toUInt64).toInt64)), (.long (0 : Int64)), (.int (wd + (1 : Int32))), (.ref wa)])) _
        refine XS.lor X27.here hx rfl (hb hby d2_185) rfl ?_
        show Steps p.tables e below (T27.setTop (mkF m 186 #[.val (.ref r0), .val (.ref r1), .val (.int p2), .val (.int i), .val (.int x), .val (.long bit), .second, .val (.int wd), .val (.int sh)] [(.long ((0 : Int64) ||| (((x.toInt64).toUInt64 >>> (((64 : Int32) - sh) &&& 0x3f).toInt64.toUInt64).toInt64))), (.int (wd + (1 : Int32))), (.ref wa)])) _
        refine st28 _ ?_
        show Steps p.tables e below (T28.setTop (mkF m 187 #[.val (.ref r0), .val (.ref r1), .val (.int p2), .val (.int i), .val (.int x), .val (.long bit), .second, .val (.int wd), .val (.int sh)] [])) _
        refine XS.iinc X28.here hx rfl (hb hby d2_187) rfl (l' := #[.val (.ref r0), .val (.ref r1), .val (.int p2), .val (.int (i + (1 : Int32))), .val (.int x), .val (.long bit), .second, .val (.int wd), .val (.int sh)]) rfl ?_
        show Steps p.tables e below (T28.setTop (mkF m 190 #[.val (.ref r0), .val (.ref r1), .val (.int p2), .val (.int (i + (1 : Int32))), .val (.int x), .val (.long bit), .second, .val (.int wd), .val (.int sh)] [])) _
        refine XS.goto X28.here hx rfl (pc0 := 190) (pc' := 62) rfl (hb hby d2_190) (by decide) (by decide) ?_
        show Steps p.tables e below (T28.setTop (mkF m 62 #[.val (.ref r0), .val (.ref r1), .val (.int p2), .val (.int (i + (1 : Int32))), .val (.int x), .val (.long bit), .second, .val (.int wd), .val (.int sh)] [])) _
        refine XS.iloadN X28.here hx rfl (hb hby d2_62) rfl ?_
        show Steps p.tables e below (T28.setTop (mkF m 63 #[.val (.ref r0), .val (.ref r1), .val (.int p2), .val (.int (i + (1 : Int32))), .val (.int x), .val (.long bit), .second, .val (.int wd), .val (.int sh)] [(.int (i + (1 : Int32)))])) _
        refine XS.aloadN X28.here hx rfl (hb hby d2_63) rfl rfl ?_
        show Steps p.tables e below (T28.setTop (mkF m 64 #[.val (.ref r0), .val (.ref r1), .val (.int p2), .val (.int (i + (1 : Int32))), .val (.int x), .val (.long bit), .second, .val (.int wd), .val (.int sh)] [(.ref r0), (.int (i + (1 : Int32)))])) _
        refine st34 _ ?_
        exact kt
      have hc67_36 : ¬ ((i + (1 : Int32)) < n) := hge
      have G37 : ∀ t, Steps p.tables e below (T34.setTop (mkF m 193 #[.val (.ref r0), .val (.ref r1), .val (.int p2), .val (.int (i + (1 : Int32))), .val (.int x), .val (.long bit), .second, .val (.int wd), .val (.int sh)] [])) t → Steps p.tables e below (T0.setTop (mkF m 62 #[.val (.ref r0), .val (.ref r1), .val (.int p2), .val (.int i), s4, .unset, .unset, .unset, .unset] [])) t := by
        intro t kt
        refine G35 _ ?_
        show Steps p.tables e below (T34.setTop (mkF m 67 #[.val (.ref r0), .val (.ref r1), .val (.int p2), .val (.int (i + (1 : Int32))), .val (.int x), .val (.long bit), .second, .val (.int wd), .val (.int sh)] [(.int n), (.int (i + (1 : Int32)))])) _
        refine XS.icmpYes X34.here hx rfl (pc0 := 67) (pc' := 193) rfl (hb hby d2_67) rfl (flt hc67_36).2.1 (by decide) (by decide) ?_
        exact kt
      exact ⟨_, _, _, _, X34, e34, N28, kp33, G37⟩
    · skip
      obtain ⟨T38, X38, e38, st38⟩ := getF X24 hx hZ hown (host := "") (Or.inl (hw _ (List.mem_of_getElem? (i := 15) rfl))) Via.refl e24 fa19 (g := (mkF m 64 #[.val (.ref r0), .val (.ref r1), .val (.int p2), .val (.int (i + (1 : Int32))), .val (.int x), .val (.long bit), .second, .val (.int wd), .val (.int sh)] [(.ref r0), (.int (i + (1 : Int32)))])) rfl rfl (hb hby d2_64)
      have G39 : ∀ t, Steps p.tables e below (T38.setTop (mkF m 67 #[.val (.ref r0), .val (.ref r1), .val (.int p2), .val (.int (i + (1 : Int32))), .val (.int x), .val (.long bit), .second, .val (.int wd), .val (.int sh)] [(.int n), (.int (i + (1 : Int32)))])) t → Steps p.tables e below (T0.setTop (mkF m 62 #[.val (.ref r0), .val (.ref r1), .val (.int p2), .val (.int i), s4, .unset, .unset, .unset, .unset] [])) t := by
        intro t kt
        refine G25 _ ?_
        show Steps p.tables e below (T24.setTop (mkF m 163 #[.val (.ref r0), .val (.ref r1), .val (.int p2), .val (.int i), .val (.int x), .val (.long bit), .second, .val (.int wd), .val (.int sh)] [(.int (64 : Int32)), (.int (sh + b))])) _
        refine XS.icmpYes X24.here hx rfl (pc0 := 163) (pc' := 187) rfl (hb hby d2_163) rfl (flt hc163_26).2.2.2 (by decide) (by decide) ?_
        show Steps p.tables e below (T24.setTop (mkF m 187 #[.val (.ref r0), .val (.ref r1), .val (.int p2), .val (.int i), .val (.int x), .val (.long bit), .second, .val (.int wd), .val (.int sh)] [])) _
        refine XS.iinc X24.here hx rfl (hb hby d2_187) rfl (l' := #[.val (.ref r0), .val (.ref r1), .val (.int p2), .val (.int (i + (1 : Int32))), .val (.int x), .val (.long bit), .second, .val (.int wd), .val (.int sh)]) rfl ?_
        show Steps p.tables e below (T24.setTop (mkF m 190 #[.val (.ref r0), .val (.ref r1), .val (.int p2), .val (.int (i + (1 : Int32))), .val (.int x), .val (.long bit), .second, .val (.int wd), .val (.int sh)] [])) _
        refine XS.goto X24.here hx rfl (pc0 := 190) (pc' := 62) rfl (hb hby d2_190) (by decide) (by decide) ?_
        show Steps p.tables e below (T24.setTop (mkF m 62 #[.val (.ref r0), .val (.ref r1), .val (.int p2), .val (.int (i + (1 : Int32))), .val (.int x), .val (.long bit), .second, .val (.int wd), .val (.int sh)] [])) _
        refine XS.iloadN X24.here hx rfl (hb hby d2_62) rfl ?_
        show Steps p.tables e below (T24.setTop (mkF m 63 #[.val (.ref r0), .val (.ref r1), .val (.int p2), .val (.int (i + (1 : Int32))), .val (.int x), .val (.long bit), .second, .val (.int wd), .val (.int sh)] [(.int (i + (1 : Int32)))])) _
        refine XS.aloadN X24.here hx rfl (hb hby d2_63) rfl rfl ?_
        show Steps p.tables e below (T24.setTop (mkF m 64 #[.val (.ref r0), .val (.ref r1), .val (.int p2), .val (.int (i + (1 : Int32))), .val (.int x), .val (.long bit), .second, .val (.int wd), .val (.int sh)] [(.ref r0), (.int (i + (1 : Int32)))])) _
        refine st38 _ ?_
        exact kt
      have hc67_40 : ¬ ((i + (1 : Int32)) < n) := hge
      have G41 : ∀ t, Steps p.tables e below (T38.setTop (mkF m 193 #[.val (.ref r0), .val (.ref r1), .val (.int p2), .val (.int (i + (1 : Int32))), .val (.int x), .val (.long bit), .second, .val (.int wd), .val (.int sh)] [])) t → Steps p.tables e below (T0.setTop (mkF m 62 #[.val (.ref r0), .val (.ref r1), .val (.int p2), .val (.int i), s4, .unset, .unset, .unset, .unset] [])) t := by
        intro t kt
        refine G39 _ ?_
        show Steps p.tables e below (T38.setTop (mkF m 67 #[.val (.ref r0), .val (.ref r1), .val (.int p2), .val (.int (i + (1 : Int32))), .val (.int x), .val (.long bit), .second, .val (.int wd), .val (.int sh)] [(.int n), (.int (i + (1 : Int32)))])) _
        refine XS.icmpYes X38.here hx rfl (pc0 := 67) (pc' := 193) rfl (hb hby d2_67) rfl (flt hc67_40).2.1 (by decide) (by decide) ?_
        exact kt
      exact ⟨_, _, _, _, X38, e38, N18, kp23, G41⟩
theorem own_lt {i n : Int32} (h : i.toInt < n.toInt) : i < n := by rw [Int32.lt_iff_toInt_lt]; exact h
theorem own_inc {i n : Int32} (h0 : 0 ≤ i.toInt) (h : i.toInt < n.toInt) : (i + (1 : Int32)).toInt = i.toInt + 1 := by
  have q := c_iadd i 1
  have r := rng32 (i + 1)
  have r2 := rng32 n
  have e1 : (1 : Int32).toInt = 1 := by decide
  rw [e1] at q
  omega
set_option maxRecDepth 65536 in
set_option maxHeartbeats 40000000 in
theorem loop {p : Program} {l : Launch} {e : Env} {R : Room} {s : State} {m : MethodId} {args : Array Value} {below : List Frame} {meth : Method} {c : Code} {locs : List Loc} {cells slots : Nat} {Z : State} {a0 : Array Value} {h0 : Heap} {n0 : Nat} (r0 r1 wa : Addr) (p2 n b x M : Int32) (ci cw : Cell)
    (hx : p.tables.exec = Jvm.exec) (hZ : Z.Warmed39 s.vm) (hw : ∀ d ∈ tables_1, d.before a0 Z = true) (hby : c.code = prog_10_method_1_code) (hml : c.maxLocals = 9) (hown : s.vm.findClass "com/example/moffett/moffett/requests/PackedIndexes" = some m.cls) (N0 : Fr n0 locs) (Z0 : n0 ≤ h0.size) (Fs : Fld Z h0 r0 "com/example/moffett/moffett/requests/PackedIndexes" "size" "I" (.int n)) (Fb : Fld Z h0 r0 "com/example/moffett/moffett/requests/PackedIndexes" "bitsEach" "I" (.int b)) (Fw : Fld Z h0 r0 "com/example/moffett/moffett/requests/PackedIndexes" "words" "[J" (.ref wa))
    (Ai : Arr Z h0 r1 ci .int) (Si : ci.slots.size = n.toNatClampNeg) (hz : ∀ k : Nat, (k : Int) + 1 < n.toInt → ci.slots[k]? = some (.int (0 : Int32))) (hl : ∀ k : Nat, (k : Int) + 1 = n.toInt → ci.slots[k]? = some (.int x)) (hx0 : ¬ (x < (0 : Int32))) (hxb : x < p2) (hbp : (0 : Int32) < p2) (g_wa : n0 ≤ wa) (hne : r0 ≠ wa)
    (Aw : Arr Z h0 wa cw .long) (Sw : cw.slots.size = M.toNatClampNeg) (hwz : ∀ j : Int32, ¬ (j < 0 ∨ cw.slots.size ≤ j.toNatClampNeg) → cw.slots[j.toNatClampNeg]? = some (.long (0 : Int64)))
    (hn15 : n.toInt ≤ 15) (hb1 : ¬ (x = (0 : Int32)) → 1 ≤ b.toInt) (hb31 : b.toInt ≤ 31) (hM : M.toInt = (n.toInt * b.toInt + 63) / 64) :
    ∀ (k : Nat) (i : Int32) (s4 : Slot) (T0 : State), 0 ≤ i.toInt → i.toInt + k + 1 = n.toInt → One s4 → Stand p l e R s m args below meth c T0 locs cells slots → T0.heap = h0 →
    ∃ (T' : State) (h' : Heap) (locs' : List Loc) (Ls : Array Slot), Stand p l e R s m args below meth c T' locs' cells slots ∧ T'.heap = h' ∧ Fr n0 locs' ∧ Keep h0 h' [wa] ∧ ∀ t, Steps p.tables e below (T'.setTop (mkF m 193 Ls [])) t → Steps p.tables e below (T0.setTop (mkF m 62 #[.val (.ref r0), .val (.ref r1), .val (.int p2), .val (.int i), s4, .unset, .unset, .unset, .unset] [])) t
  | 0, i, s4, T0, hi0, hik, hs4, X0, e0 => by
    have hi1 : i.toInt + 1 = n.toInt := by omega
    have hlt : i.toInt < n.toInt := by omega
    have hinc := own_inc hi0 hlt
    have hi' : i.toNatClampNeg = i.toInt.toNat := rfl
    have hin : ¬ (i < 0 ∨ ci.slots.size ≤ i.toNatClampNeg) := inb_of Si ⟨by rw [Int32.lt_iff_toInt_lt]; exact fun q => absurd hi0 (Int.not_le.mpr q), own_lt hlt⟩
    exact last r0 r1 wa p2 i n b x M s4 ci cw X0 hx hZ hw hby hml hown e0 N0 Z0 Fs Fb Fw hs4 Ai hin (hl _ (by omega)) (own_lt hlt) (by rw [Int32.lt_iff_toInt_lt]; omega) hx0 hxb g_wa hne Aw Sw hwz hi0 hi1 hn15 hb1 hb31 hM
  | k + 1, i, s4, T0, hi0, hik, hs4, X0, e0 => by
    have hlt : i.toInt < n.toInt := by omega
    have hinc := own_inc hi0 hlt
    have hi' : i.toNatClampNeg = i.toInt.toNat := rfl
    have hin : ¬ (i < 0 ∨ ci.slots.size ≤ i.toNatClampNeg) := inb_of Si ⟨by rw [Int32.lt_iff_toInt_lt]; exact fun q => absurd hi0 (Int.not_le.mpr q), own_lt hlt⟩
    obtain ⟨T1, X1, e1, st1⟩ := turn r0 r1 p2 i n s4 ci X0 hx hZ hw hby hml hown e0 N0 Z0 Fs hs4 Ai hin (hz _ (by omega)) (own_lt hlt) hbp
    obtain ⟨T2, h2, L2, Ls2, X2, e2, N2, K2, st2⟩ := loop r0 r1 wa p2 n b x M ci cw hx hZ hw hby hml hown N0 Z0 Fs Fb Fw Ai Si hz hl hx0 hxb hbp g_wa hne Aw Sw hwz hn15 hb1 hb31 hM k (i + (1 : Int32)) _ T1 (by omega) (by omega) (One.val (w := .int (0 : Int32)) rfl) X1 e1
    exact ⟨T2, h2, L2, Ls2, X2, e2, N2, K2, fun t kt => st1 _ (st2 t kt)⟩
theorem own_arr_keep {Z : State} {h h' : Heap} {a : Addr} {c : Cell} {ty : FieldType} {ws : List Addr} (A : Arr Z h a c ty) (K : Keep h h' ws) : ∃ c', Arr Z h' a c' ty ∧ c'.slots.size = c.slots.size := by
  obtain ⟨c', e1, e2, e3, e4⟩ := K.2.2 _ _ A.1
  obtain ⟨q1, k, q2, comp, q3⟩ := A.2.1
  exact ⟨c', ⟨e1, ⟨by rw [e3]; exact q1, k, by rw [e2]; exact q2, comp, q3⟩, by rw [e3]; exact A.2.2⟩, e4⟩
theorem own_big {x p : Int32} (h0 : ¬ (x < (0 : Int32))) (hb : x < p) (h : ¬ (x = (0 : Int32))) : 1 < p.toInt := by
  have e0 : (0 : Int32).toInt = 0 := by decide
  rw [Int32.lt_iff_toInt_lt, e0] at h0
  rw [Int32.lt_iff_toInt_lt] at hb
  have : ¬ x.toInt = 0 := fun q => h (Int32.toInt_inj.mp (by rw [q, e0]))
  omega
theorem d2_0 : decode prog_10_method_1_code 0 = .ok (.aload_n 0, 1) := by decide +kernel
theorem d2_1 : decode prog_10_method_1_code 1 = .ok (.invokespecial 1, 3) := by decide +kernel
theorem d2_4 : decode prog_10_method_1_code 4 = .ok (.aload_n 0, 1) := by decide +kernel
theorem d2_5 : decode prog_10_method_1_code 5 = .ok (.aload_n 1, 1) := by decide +kernel
theorem d2_6 : decode prog_10_method_1_code 6 = .ok (.arraylength, 1) := by decide +kernel
theorem d2_7 : decode prog_10_method_1_code 7 = .ok (.putfield 7, 3) := by decide +kernel
theorem d2_10 : decode prog_10_method_1_code 10 = .ok (.aload_n 0, 1) := by decide +kernel
theorem d2_11 : decode prog_10_method_1_code 11 = .ok (.iload_n 2, 1) := by decide +kernel
theorem d2_12 : decode prog_10_method_1_code 12 = .ok (.iconst 1, 1) := by decide +kernel
theorem d2_13 : decode prog_10_method_1_code 13 = .ok (.if_icmp .gt 7, 3) := by decide +kernel
theorem d2_20 : decode prog_10_method_1_code 20 = .ok (.bipush 32, 2) := by decide +kernel
theorem d2_22 : decode prog_10_method_1_code 22 = .ok (.iload_n 2, 1) := by decide +kernel
theorem d2_23 : decode prog_10_method_1_code 23 = .ok (.iconst 1, 1) := by decide +kernel
theorem d2_24 : decode prog_10_method_1_code 24 = .ok (.isub, 1) := by decide +kernel
theorem d2_25 : decode prog_10_method_1_code 25 = .ok (.invokestatic 15, 3) := by decide +kernel
theorem pd_0 : parseMethodDescriptor "(I)I" = some ⟨[.int], some .int⟩ := by decide +kernel
theorem d2_28 : decode prog_10_method_1_code 28 = .ok (.isub, 1) := by decide +kernel
theorem d2_29 : decode prog_10_method_1_code 29 = .ok (.putfield 19, 3) := by decide +kernel
theorem d2_32 : decode prog_10_method_1_code 32 = .ok (.aload_n 0, 1) := by decide +kernel
theorem d2_33 : decode prog_10_method_1_code 33 = .ok (.aload_n 0, 1) := by decide +kernel
theorem d2_34 : decode prog_10_method_1_code 34 = .ok (.getfield 7, 3) := by decide +kernel
theorem d2_37 : decode prog_10_method_1_code 37 = .ok (.i2l, 1) := by decide +kernel
theorem d2_38 : decode prog_10_method_1_code 38 = .ok (.aload_n 0, 1) := by decide +kernel
theorem d2_39 : decode prog_10_method_1_code 39 = .ok (.getfield 19, 3) := by decide +kernel
theorem d2_42 : decode prog_10_method_1_code 42 = .ok (.i2l, 1) := by decide +kernel
theorem d2_43 : decode prog_10_method_1_code 43 = .ok (.lmul, 1) := by decide +kernel
theorem d2_44 : decode prog_10_method_1_code 44 = .ok (.ldc2_w 24, 3) := by decide +kernel
theorem d2_47 : decode prog_10_method_1_code 47 = .ok (.ladd, 1) := by decide +kernel
theorem d2_48 : decode prog_10_method_1_code 48 = .ok (.lconst 1, 1) := by decide +kernel
theorem d2_49 : decode prog_10_method_1_code 49 = .ok (.lsub, 1) := by decide +kernel
theorem d2_50 : decode prog_10_method_1_code 50 = .ok (.ldc2_w 24, 3) := by decide +kernel
theorem d2_53 : decode prog_10_method_1_code 53 = .ok (.ldiv, 1) := by decide +kernel
theorem d2_54 : decode prog_10_method_1_code 54 = .ok (.l2i, 1) := by decide +kernel
theorem d2_55 : decode prog_10_method_1_code 55 = .ok (.newarray .long, 2) := by decide +kernel
theorem d2_57 : decode prog_10_method_1_code 57 = .ok (.putfield 26, 3) := by decide +kernel
theorem d2_60 : decode prog_10_method_1_code 60 = .ok (.iconst 0, 1) := by decide +kernel
theorem d2_61 : decode prog_10_method_1_code 61 = .ok (.istore_n 3, 1) := by decide +kernel
theorem d2_193 : decode prog_10_method_1_code 193 = .ok (.return_, 1) := by decide +kernel
theorem d2_16 : decode prog_10_method_1_code 16 = .ok (.iconst 0, 1) := by decide +kernel
theorem d2_17 : decode prog_10_method_1_code 17 = .ok (.goto 12, 3) := by decide +kernel
def Q2 (Z : State) (r0 : Addr) (r1 : Addr) (p2 : Int32) (n : Int32) (kk : ClassId) (vs : List Value) (x : Int32) (h0 : Heap) (n0 : Nat) (v : Option Value) (h : Heap) (L : List Loc) : Prop := v = none ∧ Fr n0 L ∧ Keep h0 h [r0] ∧ Exa Z h r0 "com/example/moffett/moffett/requests/PackedIndexes" ∧ ∃ (wa : Addr) (cw : Cell) (M : Int32), Fld Z h r0 "com/example/moffett/moffett/requests/PackedIndexes" "words" "[J" (.ref wa) ∧ Arr Z h wa cw .long ∧ cw.slots.size = M.toNatClampNeg ∧ ¬ M < 0 ∧ M.toInt = (n.toInt * (f5 p2).toInt + 63) / 64
theorem ef_rm2 (m : MethodId) (x0 : Addr) (x1 : Addr) (x2 : Int32) : entryFrame m #[(.ref x0), (.ref x1), (.int x2)] 9 = mkF m 0 #[.val (.ref x0), .val (.ref x1), .val (.int x2), .unset, .unset, .unset, .unset, .unset, .unset] [] := by first | (simp [entryFrame, mkF, argsToLocals, Value.category]; done) | rfl
theorem pnc_com_example_moffett_moffett_requests_PackedIndexes : plainName "com/example/moffett/moffett/requests/PackedIndexes" = true := by first | (simp [plainName, overriddenIn]; done) | decide +kernel
set_option maxRecDepth 65536 in
set_option maxHeartbeats 40000000 in
theorem rm2 (l : Launch) (Z : State) (a0 : Array Value) (hw : ∀ d ∈ tables_1, d.before a0 Z = true) (ws : List Jvm.Cond) (r0 : Addr) (r1 : Addr) (p2 : Int32) (n : Int32) (kk : ClassId) (vs : List Value) (x : Int32) (h0 : Heap) (n0 : Nat) (Z0 : n0 ≤ h0.size) (E0 : Exa Z h0 r0 "com/example/moffett/moffett/requests/PackedIndexes") (Fs : Fld Z h0 r0 "com/example/moffett/moffett/requests/PackedIndexes" "size" "I" (.int (0 : Int32))) (Fb : Fld Z h0 r0 "com/example/moffett/moffett/requests/PackedIndexes" "bitsEach" "I" (.int (0 : Int32))) (Fw : Fld Z h0 r0 "com/example/moffett/moffett/requests/PackedIndexes" "words" "[J" .null) (V1 : Arv Z h0 r1 kk .int n vs (.int (0 : Int32))) (g_r0 : n0 ≤ r0) (hne : r0 ≠ r1) (hn : 0 ≤ n.toInt ∧ n.toInt ≤ 15) (hz : ∀ k : Nat, (k : Int) + 1 < n.toInt → vs.getD k (.int (0 : Int32)) = .int (0 : Int32)) (hl : ∀ k : Nat, (k : Int) + 1 = n.toInt → vs.getD k (.int (0 : Int32)) = .int x) (hx0 : ¬ (x < (0 : Int32))) (hxb : x < p2) (hp1 : 1 ≤ p2.toInt) :
    MetFree l (⟨"com/example/moffett/moffett/requests/PackedIndexes", "<init>", "([II)V"⟩ : MethodName) (head1 (Jvm.Cond.code (⟨"com/example/moffett/moffett/requests/PackedIndexes", "<init>", "([II)V"⟩ : MethodName) prog_10_method_1_code 9 none :: ws) ({ frames := 1, cells := 1, slots := 8, locals := 15 } : Room)) (fun a U => a = #[(.ref r0), (.ref r1), (.int p2)] ∧ Z.Warmed39 U.vm ∧ U.heap = h0) (fun _ _ _ _ _ => True) (fun _ U o U' => ∃ v L, o = .returned v ∧ Q2 Z r0 r1 p2 n kk vs x h0 n0 v U'.heap L ∧ FrameEnd U o U' L ({ frames := 1, cells := 1, slots := 8, locals := 15 } : Room).cells ({ frames := 1, cells := 1, slots := 8, locals := 15 } : Room).slots) := by
  refine MetFree.of_bodySF (plainFor_of_name pnc_com_example_moffett_moffett_requests_PackedIndexes) hisR ?_
  intro p e s m args below meth c s₁ Bd hml0 hP hK
  obtain ⟨rfl, hZ, hh⟩ := hP
  have hx := Bd.exec
  have hby := Bd.bytes
  have hml : c.maxLocals = 9 := hml0
  have hown : s.vm.findClass "com/example/moffett/moffett/requests/PackedIndexes" = some m.cls := findClass_of_methodNamed Bd.named
  have hnm := (name_of_methodNamed Bd.named Bd.method).1
  have X0 : Stand p l e ({ frames := 1, cells := 1, slots := 8, locals := 15 } : Room) s m #[(.ref r0), (.ref r1), (.int p2)] below meth c s₁ [] 0 0 := Stand.of_body Bd
  have e0 : s₁.heap = h0 := by rw [← hh, Bd.state]; rfl
  have N0 := Fr.nil n0
  have kp0 : Keep h0 h0 [r0] := Keep.refl _ _
  have G0 : ∀ t, Steps p.tables e below (s₁.setTop (mkF m 0 #[.val (.ref r0), .val (.ref r1), .val (.int p2), .unset, .unset, .unset, .unset, .unset, .unset] [])) t → Steps p.tables e below (s₁.setTop (entryFrame m #[(.ref r0), (.ref r1), (.int p2)] 9)) t := fun t k => castTop (ef_rm2 m r0 r1 p2) k
  obtain ⟨T1, X1, e1, st1⟩ := initO X0 hx hZ hown (hw _ (List.mem_of_getElem? (i := 12) rfl)) (hw _ (List.mem_of_getElem? (i := 13) rfl)) (hw _ (List.mem_of_getElem? (i := 14) rfl)) e0 (g := (mkF m 1 #[.val (.ref r0), .val (.ref r1), .val (.int p2), .unset, .unset, .unset, .unset, .unset, .unset] [(.ref r0)])) rfl (by rw [hml]; rfl) rfl (hb hby d2_1) (by decide) (W := 0) (by show 2 * 0 + _ ≤ _; exact Nat.le_of_eq rfl) (by decide)
  obtain ⟨cl2, Ar2, q2, S2, M2, H2, G2⟩ := id V1
  obtain ⟨T3, h3, X3, e3, W3, st3⟩ := putF X1 hx hZ hown (host := "") (Or.inl (hw _ (List.mem_of_getElem? (i := 15) rfl))) Via.refl e1 Fs E0 (Or.inr ⟨(hw _ (List.mem_of_getElem? (i := 16) rfl)), rfl, hnm⟩) (hw _ (List.mem_of_getElem? (i := 7) rfl)) (ty := .int) (by decide) rfl rfl (g := (mkF m 7 #[.val (.ref r0), .val (.ref r1), .val (.int p2), .unset, .unset, .unset, .unset, .unset, .unset] [(.int n), (.ref r0)])) rfl rfl (hb hby d2_7)
  have fa4 : Exa Z h3 r0 "com/example/moffett/moffett/requests/PackedIndexes" := E0.wr W3
  have fa5 : Fld Z h3 r0 "com/example/moffett/moffett/requests/PackedIndexes" "size" "I" (.int n) := Fs.same W3
  have fa6 : Fld Z h3 r0 "com/example/moffett/moffett/requests/PackedIndexes" "bitsEach" "I" (.int (0 : Int32)) := Fb.other W3 (Or.inr (slot_ne (Or.inr (hw _ (List.mem_of_getElem? (i := 23) rfl))) (Or.inr (hw _ (List.mem_of_getElem? (i := 16) rfl))) (by decide) (t := .int) (t' := .int) (by decide) (by decide)))
  have fa7 : Fld Z h3 r0 "com/example/moffett/moffett/requests/PackedIndexes" "words" "[J" .null := Fw.other W3 (Or.inr (slot_ne (Or.inr (hw _ (List.mem_of_getElem? (i := 27) rfl))) (Or.inr (hw _ (List.mem_of_getElem? (i := 16) rfl))) (by decide) (t := (.array .long)) (t' := .int) (by decide) (by decide)))
  have fa8 : Arv Z h3 r1 kk .int n vs (.int (0 : Int32)) := V1.other W3 (Ne.symm hne)
  have z9 : n0 ≤ h3.size := Nat.le_trans Z0 (Nat.le_of_eq W3.size.symm)
  have kp10 : Keep h0 h3 [r0] := kp0.wr W3 (Or.inl (List.mem_of_getElem? (i := 0) rfl))
  have N3 := Fr.snoc X3 N0 g_r0
  have G11 : ∀ t, Steps p.tables e below (T3.setTop (mkF m 13 #[.val (.ref r0), .val (.ref r1), .val (.int p2), .unset, .unset, .unset, .unset, .unset, .unset] [(.int (1 : Int32)), (.int p2), (.ref r0)])) t → Steps p.tables e below (s₁.setTop (entryFrame m #[(.ref r0), (.ref r1), (.int p2)] 9)) t := by
    intro t kt
    refine G0 _ ?_
    show Steps p.tables e below (s₁.setTop (mkF m 0 #[.val (.ref r0), .val (.ref r1), .val (.int p2), .unset, .unset, .unset, .unset, .unset, .unset] [])) _
    refine XS.aloadN X0.here hx rfl (hb hby d2_0) rfl rfl ?_
    show Steps p.tables e below (s₁.setTop (mkF m 1 #[.val (.ref r0), .val (.ref r1), .val (.int p2), .unset, .unset, .unset, .unset, .unset, .unset] [(.ref r0)])) _
    refine st1 _ ?_
    show Steps p.tables e below (T1.setTop (mkF m 4 #[.val (.ref r0), .val (.ref r1), .val (.int p2), .unset, .unset, .unset, .unset, .unset, .unset] [])) _
    refine XS.aloadN X1.here hx rfl (hb hby d2_4) rfl rfl ?_
    show Steps p.tables e below (T1.setTop (mkF m 5 #[.val (.ref r0), .val (.ref r1), .val (.int p2), .unset, .unset, .unset, .unset, .unset, .unset] [(.ref r0)])) _
    refine XS.aloadN X1.here hx rfl (hb hby d2_5) rfl rfl ?_
    show Steps p.tables e below (T1.setTop (mkF m 6 #[.val (.ref r0), .val (.ref r1), .val (.int p2), .unset, .unset, .unset, .unset, .unset, .unset] [(.ref r1), (.ref r0)])) _
    refine X1.arraylength hx (by rw [e1]; exact Ar2.1) (State.isArrayOf_alike hZ.alike Ar2.2.1) (g := (mkF m 6 #[.val (.ref r0), .val (.ref r1), .val (.int p2), .unset, .unset, .unset, .unset, .unset, .unset] [(.ref r1), (.ref r0)])) rfl rfl (hb hby d2_6) _ ?_
    rw [len_of S2 M2]
    show Steps p.tables e below (T1.setTop (mkF m 7 #[.val (.ref r0), .val (.ref r1), .val (.int p2), .unset, .unset, .unset, .unset, .unset, .unset] [(.int n), (.ref r0)])) _
    refine st3 _ ?_
    show Steps p.tables e below (T3.setTop (mkF m 10 #[.val (.ref r0), .val (.ref r1), .val (.int p2), .unset, .unset, .unset, .unset, .unset, .unset] [])) _
    refine XS.aloadN X3.here hx rfl (hb hby d2_10) rfl rfl ?_
    show Steps p.tables e below (T3.setTop (mkF m 11 #[.val (.ref r0), .val (.ref r1), .val (.int p2), .unset, .unset, .unset, .unset, .unset, .unset] [(.ref r0)])) _
    refine XS.iloadN X3.here hx rfl (hb hby d2_11) rfl ?_
    show Steps p.tables e below (T3.setTop (mkF m 12 #[.val (.ref r0), .val (.ref r1), .val (.int p2), .unset, .unset, .unset, .unset, .unset, .unset] [(.int p2), (.ref r0)])) _
    refine XS.iconst X3.here hx rfl (hb hby d2_12) ?_
    exact kt
  by_cases hc13_12 : (1 : Int32) < p2
  · skip
    obtain ⟨_, _, ⟨T13, L13, k13, n13⟩, -, X13, ⟨Lc13, hQ13, l13, y13, z13⟩, st13⟩ := Jvm.LawKit.callS X3 hx (y := (⟨"java/lang/Integer", "numberOfLeadingZeros", "(I)I"⟩ : MethodName)) hown (mvT hZ (hw _ (List.mem_of_getElem? (i := 17) rfl))) (mvT hZ (hw _ (List.mem_of_getElem? (i := 18) rfl))) (mvT hZ (hw _ (List.mem_of_getElem? (i := 19) rfl))) (mvT hZ (hw _ (List.mem_of_getElem? (i := 20) rfl))) (by decide) (backOf (W := 2) (rm4 l Z a0 hw [] (p2 - (1 : Int32))  h3 n0 z9 ) hZ (hw _ (List.mem_of_getElem? (i := 20) rfl)) (hw _ (List.mem_of_getElem? (i := 19) rfl)) (by decide) (by decide)) (g := (mkF m 25 #[.val (.ref r0), .val (.ref r1), .val (.int p2), .unset, .unset, .unset, .unset, .unset, .unset] [(.int (p2 - (1 : Int32))), (.int (32 : Int32)), (.ref r0)])) rfl (by rw [hml]; rfl) (argsL := [(.int (p2 - (1 : Int32)))]) (rest := [(.int (32 : Int32)), (.ref r0)]) (lenOf pd_0 rfl) rfl (by show 2 * 0 + _ ≤ _; exact Nat.le_of_eq rfl) (hb hby d2_25) (fun _ _ => ⟨rfl, e3, (by decide : 0 + 0 ≤ _), (by decide : 0 + 0 ≤ _)⟩)
    dsimp only [Pt.U, Pt.locs, Pt.cells, Pt.slots] at X13 l13 y13 z13 st13 hQ13
    subst l13 y13 z13
    obtain ⟨rfl, N13q, eh13⟩ := hQ13
    have N13 := Fr.app N3 N13q
    have G14 : ∀ t, Steps p.tables e below (T13.setTop (mkF m 29 #[.val (.ref r0), .val (.ref r1), .val (.int p2), .unset, .unset, .unset, .unset, .unset, .unset] [(.int ((32 : Int32) - (f4 (p2 - (1 : Int32))))), (.ref r0)])) t → Steps p.tables e below (s₁.setTop (entryFrame m #[(.ref r0), (.ref r1), (.int p2)] 9)) t := by
      intro t kt
      refine G11 _ ?_
      show Steps p.tables e below (T3.setTop (mkF m 13 #[.val (.ref r0), .val (.ref r1), .val (.int p2), .unset, .unset, .unset, .unset, .unset, .unset] [(.int (1 : Int32)), (.int p2), (.ref r0)])) _
      refine XS.icmpYes X3.here hx rfl (pc0 := 13) (pc' := 20) rfl (hb hby d2_13) rfl (tlt hc13_12).2.2.1 (by decide) (by decide) ?_
      show Steps p.tables e below (T3.setTop (mkF m 20 #[.val (.ref r0), .val (.ref r1), .val (.int p2), .unset, .unset, .unset, .unset, .unset, .unset] [(.ref r0)])) _
      refine XS.bipush X3.here hx rfl (hb hby d2_20) ?_
      show Steps p.tables e below (T3.setTop (mkF m 22 #[.val (.ref r0), .val (.ref r1), .val (.int p2), .unset, .unset, .unset, .unset, .unset, .unset] [(.int (32 : Int32)), (.ref r0)])) _
      refine XS.iloadN X3.here hx rfl (hb hby d2_22) rfl ?_
      show Steps p.tables e below (T3.setTop (mkF m 23 #[.val (.ref r0), .val (.ref r1), .val (.int p2), .unset, .unset, .unset, .unset, .unset, .unset] [(.int p2), (.int (32 : Int32)), (.ref r0)])) _
      refine XS.iconst X3.here hx rfl (hb hby d2_23) ?_
      show Steps p.tables e below (T3.setTop (mkF m 24 #[.val (.ref r0), .val (.ref r1), .val (.int p2), .unset, .unset, .unset, .unset, .unset, .unset] [(.int (1 : Int32)), (.int p2), (.int (32 : Int32)), (.ref r0)])) _
      refine XS.isub X3.here hx rfl (hb hby d2_24) rfl ?_
      show Steps p.tables e below (T3.setTop (mkF m 25 #[.val (.ref r0), .val (.ref r1), .val (.int p2), .unset, .unset, .unset, .unset, .unset, .unset] [(.int (p2 - (1 : Int32))), (.int (32 : Int32)), (.ref r0)])) _
      refine st13 _ ?_
      show Steps p.tables e below (T13.setTop (mkF m 28 #[.val (.ref r0), .val (.ref r1), .val (.int p2), .unset, .unset, .unset, .unset, .unset, .unset] [(.int (f4 (p2 - (1 : Int32)))), (.int (32 : Int32)), (.ref r0)])) _
      refine XS.isub X13.here hx rfl (hb hby d2_28) rfl ?_
      exact kt
    obtain ⟨bt, hbt⟩ : ∃ z : Int32, z = ((32 : Int32) - (f4 (p2 - (1 : Int32)))) := ⟨_, rfl⟩
    have G15 : ∀ t, Steps p.tables e below (T13.setTop (mkF m 29 #[.val (.ref r0), .val (.ref r1), .val (.int p2), .unset, .unset, .unset, .unset, .unset, .unset] [(.int bt), (.ref r0)])) t → Steps p.tables e below (s₁.setTop (entryFrame m #[(.ref r0), (.ref r1), (.int p2)] 9)) t := by
      intro t kt
      rw [hbt] at kt
      exact G14 t kt
    have hbt5 : bt = f5 p2 := by rw [hbt]; exact (own_bits p2 hc13_12).1.symm
    have hbb := own_b31 p2 hp1
    rw [← hbt5] at hbb
    obtain ⟨T16, h16, X16, e16, W16, st16⟩ := putF X13 hx hZ hown (host := "") (Or.inl (hw _ (List.mem_of_getElem? (i := 22) rfl))) Via.refl eh13 fa6 fa4 (Or.inr ⟨(hw _ (List.mem_of_getElem? (i := 23) rfl)), rfl, hnm⟩) (hw _ (List.mem_of_getElem? (i := 7) rfl)) (ty := .int) (by decide) rfl rfl (g := (mkF m 29 #[.val (.ref r0), .val (.ref r1), .val (.int p2), .unset, .unset, .unset, .unset, .unset, .unset] [(.int bt), (.ref r0)])) rfl rfl (hb hby d2_29)
    have fa17 : Exa Z h16 r0 "com/example/moffett/moffett/requests/PackedIndexes" := fa4.wr W16
    have fa18 : Fld Z h16 r0 "com/example/moffett/moffett/requests/PackedIndexes" "size" "I" (.int n) := fa5.other W16 (Or.inr (slot_ne (Or.inr (hw _ (List.mem_of_getElem? (i := 16) rfl))) (Or.inr (hw _ (List.mem_of_getElem? (i := 23) rfl))) (by decide) (t := .int) (t' := .int) (by decide) (by decide)))
    have fa19 : Fld Z h16 r0 "com/example/moffett/moffett/requests/PackedIndexes" "bitsEach" "I" (.int bt) := fa6.same W16
    have fa20 : Fld Z h16 r0 "com/example/moffett/moffett/requests/PackedIndexes" "words" "[J" .null := fa7.other W16 (Or.inr (slot_ne (Or.inr (hw _ (List.mem_of_getElem? (i := 27) rfl))) (Or.inr (hw _ (List.mem_of_getElem? (i := 23) rfl))) (by decide) (t := (.array .long)) (t' := .int) (by decide) (by decide)))
    have fa21 : Arv Z h16 r1 kk .int n vs (.int (0 : Int32)) := fa8.other W16 (Ne.symm hne)
    have z22 : n0 ≤ h16.size := Nat.le_trans z9 (Nat.le_of_eq W16.size.symm)
    have kp23 : Keep h0 h16 [r0] := kp10.wr W16 (Or.inl (List.mem_of_getElem? (i := 0) rfl))
    have N16 := Fr.snoc X16 N13 g_r0
    obtain ⟨T24, X24, e24, st24⟩ := getF X16 hx hZ hown (host := "") (Or.inl (hw _ (List.mem_of_getElem? (i := 15) rfl))) Via.refl e16 fa18 (g := (mkF m 34 #[.val (.ref r0), .val (.ref r1), .val (.int p2), .unset, .unset, .unset, .unset, .unset, .unset] [(.ref r0), (.ref r0)])) rfl rfl (hb hby d2_34)
    obtain ⟨T25, X25, e25, st25⟩ := getF X24 hx hZ hown (host := "") (Or.inl (hw _ (List.mem_of_getElem? (i := 22) rfl))) Via.refl e24 fa19 (g := (mkF m 39 #[.val (.ref r0), .val (.ref r1), .val (.int p2), .unset, .unset, .unset, .unset, .unset, .unset] [(.ref r0), (.long (n.toInt64)), (.ref r0)])) rfl rfl (hb hby d2_39)
    have G26 : ∀ t, Steps p.tables e below (T25.setTop (mkF m 55 #[.val (.ref r0), .val (.ref r1), .val (.int p2), .unset, .unset, .unset, .unset, .unset, .unset] [(.int ((((((n.toInt64) * (bt.toInt64)) + (64 : Int64)) - (1 : Int64)) / (64 : Int64)).toInt32)), (.ref r0)])) t → Steps p.tables e below (s₁.setTop (entryFrame m #[(.ref r0), (.ref r1), (.int p2)] 9)) t := by
      intro t kt
      refine G15 _ ?_
      show Steps p.tables e below (T13.setTop (mkF m 29 #[.val (.ref r0), .val (.ref r1), .val (.int p2), .unset, .unset, .unset, .unset, .unset, .unset] [(.int bt), (.ref r0)])) _
      refine st16 _ ?_
      show Steps p.tables e below (T16.setTop (mkF m 32 #[.val (.ref r0), .val (.ref r1), .val (.int p2), .unset, .unset, .unset, .unset, .unset, .unset] [])) _
      refine XS.aloadN X16.here hx rfl (hb hby d2_32) rfl rfl ?_
      show Steps p.tables e below (T16.setTop (mkF m 33 #[.val (.ref r0), .val (.ref r1), .val (.int p2), .unset, .unset, .unset, .unset, .unset, .unset] [(.ref r0)])) _
      refine XS.aloadN X16.here hx rfl (hb hby d2_33) rfl rfl ?_
      show Steps p.tables e below (T16.setTop (mkF m 34 #[.val (.ref r0), .val (.ref r1), .val (.int p2), .unset, .unset, .unset, .unset, .unset, .unset] [(.ref r0), (.ref r0)])) _
      refine st24 _ ?_
      show Steps p.tables e below (T24.setTop (mkF m 37 #[.val (.ref r0), .val (.ref r1), .val (.int p2), .unset, .unset, .unset, .unset, .unset, .unset] [(.int n), (.ref r0)])) _
      refine XS.i2l X24.here hx rfl (hb hby d2_37) rfl ?_
      show Steps p.tables e below (T24.setTop (mkF m 38 #[.val (.ref r0), .val (.ref r1), .val (.int p2), .unset, .unset, .unset, .unset, .unset, .unset] [(.long (n.toInt64)), (.ref r0)])) _
      refine XS.aloadN X24.here hx rfl (hb hby d2_38) rfl rfl ?_
      show Steps p.tables e below (T24.setTop (mkF m 39 #[.val (.ref r0), .val (.ref r1), .val (.int p2), .unset, .unset, .unset, .unset, .unset, .unset] [(.ref r0), (.long (n.toInt64)), (.ref r0)])) _
      refine st25 _ ?_
      show Steps p.tables e below (T25.setTop (mkF m 42 #[.val (.ref r0), .val (.ref r1), .val (.int p2), .unset, .unset, .unset, .unset, .unset, .unset] [(.int bt), (.long (n.toInt64)), (.ref r0)])) _
      refine XS.i2l X25.here hx rfl (hb hby d2_42) rfl ?_
      show Steps p.tables e below (T25.setTop (mkF m 43 #[.val (.ref r0), .val (.ref r1), .val (.int p2), .unset, .unset, .unset, .unset, .unset, .unset] [(.long (bt.toInt64)), (.long (n.toInt64)), (.ref r0)])) _
      refine XS.lmul X25.here hx rfl (hb hby d2_43) rfl ?_
      show Steps p.tables e below (T25.setTop (mkF m 44 #[.val (.ref r0), .val (.ref r1), .val (.int p2), .unset, .unset, .unset, .unset, .unset, .unset] [(.long ((n.toInt64) * (bt.toInt64))), (.ref r0)])) _
      refine X25.ldc2Long hx hown (mvT hZ (hw _ (List.mem_of_getElem? (i := 24) rfl))) (g := (mkF m 44 #[.val (.ref r0), .val (.ref r1), .val (.int p2), .unset, .unset, .unset, .unset, .unset, .unset] [(.long ((n.toInt64) * (bt.toInt64))), (.ref r0)])) rfl (hb hby d2_44) _ ?_
      show Steps p.tables e below (T25.setTop (mkF m 47 #[.val (.ref r0), .val (.ref r1), .val (.int p2), .unset, .unset, .unset, .unset, .unset, .unset] [(.long (64 : Int64)), (.long ((n.toInt64) * (bt.toInt64))), (.ref r0)])) _
      refine XS.ladd X25.here hx rfl (hb hby d2_47) rfl ?_
      show Steps p.tables e below (T25.setTop (mkF m 48 #[.val (.ref r0), .val (.ref r1), .val (.int p2), .unset, .unset, .unset, .unset, .unset, .unset] [(.long (((n.toInt64) * (bt.toInt64)) + (64 : Int64))), (.ref r0)])) _
      refine XS.lconst X25.here hx rfl (hb hby d2_48) ?_
      show Steps p.tables e below (T25.setTop (mkF m 49 #[.val (.ref r0), .val (.ref r1), .val (.int p2), .unset, .unset, .unset, .unset, .unset, .unset] [(.long (1 : Int64)), (.long (((n.toInt64) * (bt.toInt64)) + (64 : Int64))), (.ref r0)])) _
      refine XS.lsub X25.here hx rfl (hb hby d2_49) rfl ?_
      show Steps p.tables e below (T25.setTop (mkF m 50 #[.val (.ref r0), .val (.ref r1), .val (.int p2), .unset, .unset, .unset, .unset, .unset, .unset] [(.long ((((n.toInt64) * (bt.toInt64)) + (64 : Int64)) - (1 : Int64))), (.ref r0)])) _
      refine X25.ldc2Long hx hown (mvT hZ (hw _ (List.mem_of_getElem? (i := 24) rfl))) (g := (mkF m 50 #[.val (.ref r0), .val (.ref r1), .val (.int p2), .unset, .unset, .unset, .unset, .unset, .unset] [(.long ((((n.toInt64) * (bt.toInt64)) + (64 : Int64)) - (1 : Int64))), (.ref r0)])) rfl (hb hby d2_50) _ ?_
      show Steps p.tables e below (T25.setTop (mkF m 53 #[.val (.ref r0), .val (.ref r1), .val (.int p2), .unset, .unset, .unset, .unset, .unset, .unset] [(.long (64 : Int64)), (.long ((((n.toInt64) * (bt.toInt64)) + (64 : Int64)) - (1 : Int64))), (.ref r0)])) _
      refine XS.ldiv X25.here hx rfl (hb hby d2_53) rfl (by decide) ?_
      show Steps p.tables e below (T25.setTop (mkF m 54 #[.val (.ref r0), .val (.ref r1), .val (.int p2), .unset, .unset, .unset, .unset, .unset, .unset] [(.long (((((n.toInt64) * (bt.toInt64)) + (64 : Int64)) - (1 : Int64)) / (64 : Int64))), (.ref r0)])) _
      refine XS.l2i X25.here hx rfl (hb hby d2_54) rfl ?_
      exact kt
    obtain ⟨M, hM⟩ : ∃ z : Int32, z = ((((((n.toInt64) * (bt.toInt64)) + (64 : Int64)) - (1 : Int64)) / (64 : Int64)).toInt32) := ⟨_, rfl⟩
    have G27 : ∀ t, Steps p.tables e below (T25.setTop (mkF m 55 #[.val (.ref r0), .val (.ref r1), .val (.int p2), .unset, .unset, .unset, .unset, .unset, .unset] [(.int M), (.ref r0)])) t → Steps p.tables e below (s₁.setTop (entryFrame m #[(.ref r0), (.ref r1), (.int p2)] 9)) t := by
      intro t kt
      rw [hM] at kt
      exact G26 t kt
    have hMI : M.toInt = (n.toInt * bt.toInt + 63) / 64 := by rw [hM]; exact own_Mval n bt hn ⟨hbb.1, hbb.2.1⟩
    have hMq := own_mulb hn.1 hn.2 hbb.1 hbb.2.1
    have hM0 : ¬ M < 0 := by rw [Int32.lt_iff_toInt_lt]; show ¬ M.toInt < 0; omega
    have hM8 : M.toNatClampNeg ≤ 8 := by show M.toInt.toNat ≤ 8; omega
    obtain ⟨T28, h28, k28, X28, e28, E28, A28, st28⟩ := newP X25 hx hZ (hw _ (List.mem_of_getElem? (i := 25) rfl)) e25 (g := (mkF m 55 #[.val (.ref r0), .val (.ref r1), .val (.int p2), .unset, .unset, .unset, .unset, .unset, .unset] [(.int M), (.ref r0)])) rfl (hb hby d2_55) rfl hM0 (cap := 8) hM8 (by decide) (by decide) (by decide)
    obtain ⟨b28, g28⟩ : ∃ z, z = h16.size := ⟨_, rfl⟩
    rw [← g28] at A28 st28
    have g_b28 : n0 ≤ b28 := Nat.le_trans z22 (Nat.le_of_eq g28.symm)
    have sz_b28 : h0.size ≤ b28 := Nat.le_trans kp23.1 (Nat.le_of_eq g28.symm)
    have ne_r0_b28 : r0 ≠ b28 := Nat.ne_of_lt (Nat.lt_of_lt_of_le fa17.lt (Nat.le_of_eq g28.symm))
    have ne_r1_b28 : r1 ≠ b28 := Nat.ne_of_lt (Nat.lt_of_lt_of_le fa21.lt (Nat.le_of_eq g28.symm))
    have fa29 : Exa Z h28 r0 "com/example/moffett/moffett/requests/PackedIndexes" := fa17.ext E28
    have fa30 : Fld Z h28 r0 "com/example/moffett/moffett/requests/PackedIndexes" "size" "I" (.int n) := fa18.ext E28
    have fa31 : Fld Z h28 r0 "com/example/moffett/moffett/requests/PackedIndexes" "bitsEach" "I" (.int bt) := fa19.ext E28
    have fa32 : Fld Z h28 r0 "com/example/moffett/moffett/requests/PackedIndexes" "words" "[J" .null := fa20.ext E28
    have fa33 : Arv Z h28 r1 kk .int n vs (.int (0 : Int32)) := fa21.ext E28
    have z34 : n0 ≤ h28.size := Nat.le_trans z22 E28.1
    have kp35 : Keep h0 h28 [r0] := kp23.ext E28
    have fa36 : Arv Z h28 b28 k28 .long M [] (.long (0 : Int64)) := Arv.new A28 hM0
    obtain ⟨T37, h37, X37, e37, W37, st37⟩ := putF X28 hx hZ hown (host := "") (Or.inl (hw _ (List.mem_of_getElem? (i := 26) rfl))) Via.refl e28 fa32 fa29 (Or.inr ⟨(hw _ (List.mem_of_getElem? (i := 27) rfl)), rfl, hnm⟩) (hw _ (List.mem_of_getElem? (i := 7) rfl)) (ty := (.array .long)) (by decide) rfl rfl (g := (mkF m 57 #[.val (.ref r0), .val (.ref r1), .val (.int p2), .unset, .unset, .unset, .unset, .unset, .unset] [(.ref b28), (.ref r0)])) rfl rfl (hb hby d2_57)
    have fa38 : Exa Z h37 r0 "com/example/moffett/moffett/requests/PackedIndexes" := fa29.wr W37
    have fa39 : Fld Z h37 r0 "com/example/moffett/moffett/requests/PackedIndexes" "size" "I" (.int n) := fa30.other W37 (Or.inr (slot_ne (Or.inr (hw _ (List.mem_of_getElem? (i := 16) rfl))) (Or.inr (hw _ (List.mem_of_getElem? (i := 27) rfl))) (by decide) (t := .int) (t' := (.array .long)) (by decide) (by decide)))
    have fa40 : Fld Z h37 r0 "com/example/moffett/moffett/requests/PackedIndexes" "bitsEach" "I" (.int bt) := fa31.other W37 (Or.inr (slot_ne (Or.inr (hw _ (List.mem_of_getElem? (i := 23) rfl))) (Or.inr (hw _ (List.mem_of_getElem? (i := 27) rfl))) (by decide) (t := .int) (t' := (.array .long)) (by decide) (by decide)))
    have fa41 : Fld Z h37 r0 "com/example/moffett/moffett/requests/PackedIndexes" "words" "[J" (.ref b28) := fa32.same W37
    have fa42 : Arv Z h37 r1 kk .int n vs (.int (0 : Int32)) := fa33.other W37 (Ne.symm hne)
    have fa43 : Arv Z h37 b28 k28 .long M [] (.long (0 : Int64)) := fa36.other W37 (Ne.symm ne_r0_b28)
    have z44 : n0 ≤ h37.size := Nat.le_trans z34 (Nat.le_of_eq W37.size.symm)
    have kp45 : Keep h0 h37 [r0] := kp35.wr W37 (Or.inl (List.mem_of_getElem? (i := 0) rfl))
    have N37 := Fr.snoc X37 N16 g_r0
    have G46 : ∀ t, Steps p.tables e below (T37.setTop (mkF m 62 #[.val (.ref r0), .val (.ref r1), .val (.int p2), .val (.int (0 : Int32)), .unset, .unset, .unset, .unset, .unset] [])) t → Steps p.tables e below (s₁.setTop (entryFrame m #[(.ref r0), (.ref r1), (.int p2)] 9)) t := by
      intro t kt
      refine G27 _ ?_
      show Steps p.tables e below (T25.setTop (mkF m 55 #[.val (.ref r0), .val (.ref r1), .val (.int p2), .unset, .unset, .unset, .unset, .unset, .unset] [(.int M), (.ref r0)])) _
      refine st28 _ ?_
      show Steps p.tables e below (T28.setTop (mkF m 57 #[.val (.ref r0), .val (.ref r1), .val (.int p2), .unset, .unset, .unset, .unset, .unset, .unset] [(.ref b28), (.ref r0)])) _
      refine st37 _ ?_
      show Steps p.tables e below (T37.setTop (mkF m 60 #[.val (.ref r0), .val (.ref r1), .val (.int p2), .unset, .unset, .unset, .unset, .unset, .unset] [])) _
      refine XS.iconst X37.here hx rfl (hb hby d2_60) ?_
      show Steps p.tables e below (T37.setTop (mkF m 61 #[.val (.ref r0), .val (.ref r1), .val (.int p2), .unset, .unset, .unset, .unset, .unset, .unset] [(.int (0 : Int32))])) _
      refine XS.istoreN X37.here hx rfl (hb hby d2_61) rfl (l' := #[.val (.ref r0), .val (.ref r1), .val (.int p2), .val (.int (0 : Int32)), .unset, .unset, .unset, .unset, .unset]) rfl ?_
      exact kt
    obtain ⟨cw, Aw, qw, Sw, Mw, Hw, Gw⟩ := id fa43
    obtain ⟨ci, Ai, qi, Si, Mi, Hi, Gi⟩ := id fa42
    have hwz : ∀ j : Int32, ¬ (j < 0 ∨ cw.slots.size ≤ j.toNatClampNeg) → cw.slots[j.toNatClampNeg]? = some (.long (0 : Int64)) := fun j q => Hw.at q rfl
    have Si' : ci.slots.size = n.toInt.toNat := Si
    have hzi : ∀ k : Nat, (k : Int) + 1 < n.toInt → ci.slots[k]? = some (.int (0 : Int32)) := fun k q => by rw [Hi k (by omega), hz k q]
    have hli : ∀ k : Nat, (k : Int) + 1 = n.toInt → ci.slots[k]? = some (.int x) := fun k q => by rw [Hi k (by omega), hl k q]
    have hb1 : ¬ (x = (0 : Int32)) → 1 ≤ bt.toInt := fun q => hbb.2.2 (own_big hx0 hxb q)
    have hlp : ∃ (T' : State) (h' : Heap) (locs' : List Loc) (Ls : Array Slot), Stand p l e ({ frames := 1, cells := 1, slots := 8, locals := 15 } : Room) s m #[(.ref r0), (.ref r1), (.int p2)] below meth c T' locs' 1 8 ∧ T'.heap = h' ∧ Fr n0 locs' ∧ Keep h37 h' [b28] ∧ ∀ t, Steps p.tables e below (T'.setTop (mkF m 193 Ls [])) t → Steps p.tables e below (T37.setTop (mkF m 62 #[.val (.ref r0), .val (.ref r1), .val (.int p2), .val (.int (0 : Int32)), .unset, .unset, .unset, .unset, .unset] [])) t := by
      by_cases hn0 : n.toInt = 0
      · exact gone r0 r1 b28 p2 (0 : Int32) n .unset X37 hx hZ hw hby hml hown e37 N37 z44 fa39 (by rw [Int32.lt_iff_toInt_lt]; show ¬ (0 < n.toInt); omega)
      · exact loop r0 r1 b28 p2 n bt x M ci cw hx hZ hw hby hml hown N37 z44 fa39 fa40 fa41 Ai Si hzi hli hx0 hxb (by rw [Int32.lt_iff_toInt_lt]; show 0 < p2.toInt; omega) g_b28 ne_r0_b28 Aw Sw hwz hn.2 hb1 hbb.2.1 hMI (n.toInt.toNat - 1) (0 : Int32) .unset T37 (by decide) (by show 0 + _ + 1 = _; omega) One.u X37 e37
    obtain ⟨TL, hL, LL, LsL, XL, eL, NL, KL, GL⟩ := hlp
    have GA : ∀ t, Steps p.tables e below (TL.setTop (mkF m 193 LsL [])) t → Steps p.tables e below (s₁.setTop (entryFrame m #[(.ref r0), (.ref r1), (.int p2)] 9)) t := fun t k => G46 _ (GL t k)
    have fa47 : Exa Z hL r0 "com/example/moffett/moffett/requests/PackedIndexes" := fa38.keep KL
    have fa48 : Fld Z hL r0 "com/example/moffett/moffett/requests/PackedIndexes" "size" "I" (.int n) := fa39.keep KL (ninS ne_r0_b28 nin0)
    have fa49 : Fld Z hL r0 "com/example/moffett/moffett/requests/PackedIndexes" "bitsEach" "I" (.int bt) := fa40.keep KL (ninS ne_r0_b28 nin0)
    have fa50 : Fld Z hL r0 "com/example/moffett/moffett/requests/PackedIndexes" "words" "[J" (.ref b28) := fa41.keep KL (ninS ne_r0_b28 nin0)
    have fa51 : Arv Z hL r1 kk .int n vs (.int (0 : Int32)) := fa42.keep KL (ninS ne_r1_b28 nin0)
    have z52 : n0 ≤ hL.size := Nat.le_trans z44 KL.1
    have kp53 : Keep h0 hL [r0] := kp45.trans KL (allS (Or.inr sz_b28) all0)
    obtain ⟨cw2, Aw2, Sw2⟩ := own_arr_keep Aw KL
    obtain ⟨fs, hr, hrun, hended, hW, hsame⟩ := XL.leave (v := none) (fun _ => rfl)
    refine ⟨_, _, GA _ ?_, hrun, hended, _, _, rfl, ?_, ⟨_, rfl⟩, hW, hsame.mono (by decide) (by decide)⟩
    · skip
      show Steps p.tables e below (TL.setTop (mkF m 193 LsL [])) _
      exact XL.returnOut hx Bd.returns (hb hby d2_193) hr
    · show Q2 Z r0 r1 p2 n kk vs x h0 n0 _ TL.heap _
      rw [eL]
      exact ⟨rfl, NL, kp53, fa47, b28, cw2, M, fa50, Aw2, Sw2.trans Sw, hM0, by rw [hMI, hbt5]⟩
  · skip
    have G54 : ∀ t, Steps p.tables e below (T3.setTop (mkF m 29 #[.val (.ref r0), .val (.ref r1), .val (.int p2), .unset, .unset, .unset, .unset, .unset, .unset] [(.int (0 : Int32)), (.ref r0)])) t → Steps p.tables e below (s₁.setTop (entryFrame m #[(.ref r0), (.ref r1), (.int p2)] 9)) t := by
      intro t kt
      refine G11 _ ?_
      show Steps p.tables e below (T3.setTop (mkF m 13 #[.val (.ref r0), .val (.ref r1), .val (.int p2), .unset, .unset, .unset, .unset, .unset, .unset] [(.int (1 : Int32)), (.int p2), (.ref r0)])) _
      refine XS.icmpNo X3.here hx rfl (hb hby d2_13) rfl (flt hc13_12).2.2.1 ?_
      show Steps p.tables e below (T3.setTop (mkF m 16 #[.val (.ref r0), .val (.ref r1), .val (.int p2), .unset, .unset, .unset, .unset, .unset, .unset] [(.ref r0)])) _
      refine XS.iconst X3.here hx rfl (hb hby d2_16) ?_
      show Steps p.tables e below (T3.setTop (mkF m 17 #[.val (.ref r0), .val (.ref r1), .val (.int p2), .unset, .unset, .unset, .unset, .unset, .unset] [(.int (0 : Int32)), (.ref r0)])) _
      refine XS.goto X3.here hx rfl (pc0 := 17) (pc' := 29) rfl (hb hby d2_17) (by decide) (by decide) ?_
      exact kt
    obtain ⟨bt, hbt⟩ : ∃ z : Int32, z = (0 : Int32) := ⟨_, rfl⟩
    have G55 : ∀ t, Steps p.tables e below (T3.setTop (mkF m 29 #[.val (.ref r0), .val (.ref r1), .val (.int p2), .unset, .unset, .unset, .unset, .unset, .unset] [(.int bt), (.ref r0)])) t → Steps p.tables e below (s₁.setTop (entryFrame m #[(.ref r0), (.ref r1), (.int p2)] 9)) t := by
      intro t kt
      rw [hbt] at kt
      exact G54 t kt
    have hbt5 : bt = f5 p2 := by rw [hbt]; exact (own_bits0 p2 hc13_12 hp1).symm
    have hbb := own_b31 p2 hp1
    rw [← hbt5] at hbb
    obtain ⟨T56, h56, X56, e56, W56, st56⟩ := putF X3 hx hZ hown (host := "") (Or.inl (hw _ (List.mem_of_getElem? (i := 22) rfl))) Via.refl e3 fa6 fa4 (Or.inr ⟨(hw _ (List.mem_of_getElem? (i := 23) rfl)), rfl, hnm⟩) (hw _ (List.mem_of_getElem? (i := 7) rfl)) (ty := .int) (by decide) rfl rfl (g := (mkF m 29 #[.val (.ref r0), .val (.ref r1), .val (.int p2), .unset, .unset, .unset, .unset, .unset, .unset] [(.int bt), (.ref r0)])) rfl rfl (hb hby d2_29)
    have fa57 : Exa Z h56 r0 "com/example/moffett/moffett/requests/PackedIndexes" := fa4.wr W56
    have fa58 : Fld Z h56 r0 "com/example/moffett/moffett/requests/PackedIndexes" "size" "I" (.int n) := fa5.other W56 (Or.inr (slot_ne (Or.inr (hw _ (List.mem_of_getElem? (i := 16) rfl))) (Or.inr (hw _ (List.mem_of_getElem? (i := 23) rfl))) (by decide) (t := .int) (t' := .int) (by decide) (by decide)))
    have fa59 : Fld Z h56 r0 "com/example/moffett/moffett/requests/PackedIndexes" "bitsEach" "I" (.int bt) := fa6.same W56
    have fa60 : Fld Z h56 r0 "com/example/moffett/moffett/requests/PackedIndexes" "words" "[J" .null := fa7.other W56 (Or.inr (slot_ne (Or.inr (hw _ (List.mem_of_getElem? (i := 27) rfl))) (Or.inr (hw _ (List.mem_of_getElem? (i := 23) rfl))) (by decide) (t := (.array .long)) (t' := .int) (by decide) (by decide)))
    have fa61 : Arv Z h56 r1 kk .int n vs (.int (0 : Int32)) := fa8.other W56 (Ne.symm hne)
    have z62 : n0 ≤ h56.size := Nat.le_trans z9 (Nat.le_of_eq W56.size.symm)
    have kp63 : Keep h0 h56 [r0] := kp10.wr W56 (Or.inl (List.mem_of_getElem? (i := 0) rfl))
    have N56 := Fr.snoc X56 N3 g_r0
    obtain ⟨T64, X64, e64, st64⟩ := getF X56 hx hZ hown (host := "") (Or.inl (hw _ (List.mem_of_getElem? (i := 15) rfl))) Via.refl e56 fa58 (g := (mkF m 34 #[.val (.ref r0), .val (.ref r1), .val (.int p2), .unset, .unset, .unset, .unset, .unset, .unset] [(.ref r0), (.ref r0)])) rfl rfl (hb hby d2_34)
    obtain ⟨T65, X65, e65, st65⟩ := getF X64 hx hZ hown (host := "") (Or.inl (hw _ (List.mem_of_getElem? (i := 22) rfl))) Via.refl e64 fa59 (g := (mkF m 39 #[.val (.ref r0), .val (.ref r1), .val (.int p2), .unset, .unset, .unset, .unset, .unset, .unset] [(.ref r0), (.long (n.toInt64)), (.ref r0)])) rfl rfl (hb hby d2_39)
    have G66 : ∀ t, Steps p.tables e below (T65.setTop (mkF m 55 #[.val (.ref r0), .val (.ref r1), .val (.int p2), .unset, .unset, .unset, .unset, .unset, .unset] [(.int ((((((n.toInt64) * (bt.toInt64)) + (64 : Int64)) - (1 : Int64)) / (64 : Int64)).toInt32)), (.ref r0)])) t → Steps p.tables e below (s₁.setTop (entryFrame m #[(.ref r0), (.ref r1), (.int p2)] 9)) t := by
      intro t kt
      refine G55 _ ?_
      show Steps p.tables e below (T3.setTop (mkF m 29 #[.val (.ref r0), .val (.ref r1), .val (.int p2), .unset, .unset, .unset, .unset, .unset, .unset] [(.int bt), (.ref r0)])) _
      refine st56 _ ?_
      show Steps p.tables e below (T56.setTop (mkF m 32 #[.val (.ref r0), .val (.ref r1), .val (.int p2), .unset, .unset, .unset, .unset, .unset, .unset] [])) _
      refine XS.aloadN X56.here hx rfl (hb hby d2_32) rfl rfl ?_
      show Steps p.tables e below (T56.setTop (mkF m 33 #[.val (.ref r0), .val (.ref r1), .val (.int p2), .unset, .unset, .unset, .unset, .unset, .unset] [(.ref r0)])) _
      refine XS.aloadN X56.here hx rfl (hb hby d2_33) rfl rfl ?_
      show Steps p.tables e below (T56.setTop (mkF m 34 #[.val (.ref r0), .val (.ref r1), .val (.int p2), .unset, .unset, .unset, .unset, .unset, .unset] [(.ref r0), (.ref r0)])) _
      refine st64 _ ?_
      show Steps p.tables e below (T64.setTop (mkF m 37 #[.val (.ref r0), .val (.ref r1), .val (.int p2), .unset, .unset, .unset, .unset, .unset, .unset] [(.int n), (.ref r0)])) _
      refine XS.i2l X64.here hx rfl (hb hby d2_37) rfl ?_
      show Steps p.tables e below (T64.setTop (mkF m 38 #[.val (.ref r0), .val (.ref r1), .val (.int p2), .unset, .unset, .unset, .unset, .unset, .unset] [(.long (n.toInt64)), (.ref r0)])) _
      refine XS.aloadN X64.here hx rfl (hb hby d2_38) rfl rfl ?_
      show Steps p.tables e below (T64.setTop (mkF m 39 #[.val (.ref r0), .val (.ref r1), .val (.int p2), .unset, .unset, .unset, .unset, .unset, .unset] [(.ref r0), (.long (n.toInt64)), (.ref r0)])) _
      refine st65 _ ?_
      show Steps p.tables e below (T65.setTop (mkF m 42 #[.val (.ref r0), .val (.ref r1), .val (.int p2), .unset, .unset, .unset, .unset, .unset, .unset] [(.int bt), (.long (n.toInt64)), (.ref r0)])) _
      refine XS.i2l X65.here hx rfl (hb hby d2_42) rfl ?_
      show Steps p.tables e below (T65.setTop (mkF m 43 #[.val (.ref r0), .val (.ref r1), .val (.int p2), .unset, .unset, .unset, .unset, .unset, .unset] [(.long (bt.toInt64)), (.long (n.toInt64)), (.ref r0)])) _
      refine XS.lmul X65.here hx rfl (hb hby d2_43) rfl ?_
      show Steps p.tables e below (T65.setTop (mkF m 44 #[.val (.ref r0), .val (.ref r1), .val (.int p2), .unset, .unset, .unset, .unset, .unset, .unset] [(.long ((n.toInt64) * (bt.toInt64))), (.ref r0)])) _
      refine X65.ldc2Long hx hown (mvT hZ (hw _ (List.mem_of_getElem? (i := 24) rfl))) (g := (mkF m 44 #[.val (.ref r0), .val (.ref r1), .val (.int p2), .unset, .unset, .unset, .unset, .unset, .unset] [(.long ((n.toInt64) * (bt.toInt64))), (.ref r0)])) rfl (hb hby d2_44) _ ?_
      show Steps p.tables e below (T65.setTop (mkF m 47 #[.val (.ref r0), .val (.ref r1), .val (.int p2), .unset, .unset, .unset, .unset, .unset, .unset] [(.long (64 : Int64)), (.long ((n.toInt64) * (bt.toInt64))), (.ref r0)])) _
      refine XS.ladd X65.here hx rfl (hb hby d2_47) rfl ?_
      show Steps p.tables e below (T65.setTop (mkF m 48 #[.val (.ref r0), .val (.ref r1), .val (.int p2), .unset, .unset, .unset, .unset, .unset, .unset] [(.long (((n.toInt64) * (bt.toInt64)) + (64 : Int64))), (.ref r0)])) _
      refine XS.lconst X65.here hx rfl (hb hby d2_48) ?_
      show Steps p.tables e below (T65.setTop (mkF m 49 #[.val (.ref r0), .val (.ref r1), .val (.int p2), .unset, .unset, .unset, .unset, .unset, .unset] [(.long (1 : Int64)), (.long (((n.toInt64) * (bt.toInt64)) + (64 : Int64))), (.ref r0)])) _
      refine XS.lsub X65.here hx rfl (hb hby d2_49) rfl ?_
      show Steps p.tables e below (T65.setTop (mkF m 50 #[.val (.ref r0), .val (.ref r1), .val (.int p2), .unset, .unset, .unset, .unset, .unset, .unset] [(.long ((((n.toInt64) * (bt.toInt64)) + (64 : Int64)) - (1 : Int64))), (.ref r0)])) _
      refine X65.ldc2Long hx hown (mvT hZ (hw _ (List.mem_of_getElem? (i := 24) rfl))) (g := (mkF m 50 #[.val (.ref r0), .val (.ref r1), .val (.int p2), .unset, .unset, .unset, .unset, .unset, .unset] [(.long ((((n.toInt64) * (bt.toInt64)) + (64 : Int64)) - (1 : Int64))), (.ref r0)])) rfl (hb hby d2_50) _ ?_
      show Steps p.tables e below (T65.setTop (mkF m 53 #[.val (.ref r0), .val (.ref r1), .val (.int p2), .unset, .unset, .unset, .unset, .unset, .unset] [(.long (64 : Int64)), (.long ((((n.toInt64) * (bt.toInt64)) + (64 : Int64)) - (1 : Int64))), (.ref r0)])) _
      refine XS.ldiv X65.here hx rfl (hb hby d2_53) rfl (by decide) ?_
      show Steps p.tables e below (T65.setTop (mkF m 54 #[.val (.ref r0), .val (.ref r1), .val (.int p2), .unset, .unset, .unset, .unset, .unset, .unset] [(.long (((((n.toInt64) * (bt.toInt64)) + (64 : Int64)) - (1 : Int64)) / (64 : Int64))), (.ref r0)])) _
      refine XS.l2i X65.here hx rfl (hb hby d2_54) rfl ?_
      exact kt
    obtain ⟨M, hM⟩ : ∃ z : Int32, z = ((((((n.toInt64) * (bt.toInt64)) + (64 : Int64)) - (1 : Int64)) / (64 : Int64)).toInt32) := ⟨_, rfl⟩
    have G67 : ∀ t, Steps p.tables e below (T65.setTop (mkF m 55 #[.val (.ref r0), .val (.ref r1), .val (.int p2), .unset, .unset, .unset, .unset, .unset, .unset] [(.int M), (.ref r0)])) t → Steps p.tables e below (s₁.setTop (entryFrame m #[(.ref r0), (.ref r1), (.int p2)] 9)) t := by
      intro t kt
      rw [hM] at kt
      exact G66 t kt
    have hMI : M.toInt = (n.toInt * bt.toInt + 63) / 64 := by rw [hM]; exact own_Mval n bt hn ⟨hbb.1, hbb.2.1⟩
    have hMq := own_mulb hn.1 hn.2 hbb.1 hbb.2.1
    have hM0 : ¬ M < 0 := by rw [Int32.lt_iff_toInt_lt]; show ¬ M.toInt < 0; omega
    have hM8 : M.toNatClampNeg ≤ 8 := by show M.toInt.toNat ≤ 8; omega
    obtain ⟨T68, h68, k68, X68, e68, E68, A68, st68⟩ := newP X65 hx hZ (hw _ (List.mem_of_getElem? (i := 25) rfl)) e65 (g := (mkF m 55 #[.val (.ref r0), .val (.ref r1), .val (.int p2), .unset, .unset, .unset, .unset, .unset, .unset] [(.int M), (.ref r0)])) rfl (hb hby d2_55) rfl hM0 (cap := 8) hM8 (by decide) (by decide) (by decide)
    obtain ⟨b68, g68⟩ : ∃ z, z = h56.size := ⟨_, rfl⟩
    rw [← g68] at A68 st68
    have g_b68 : n0 ≤ b68 := Nat.le_trans z62 (Nat.le_of_eq g68.symm)
    have sz_b68 : h0.size ≤ b68 := Nat.le_trans kp63.1 (Nat.le_of_eq g68.symm)
    have ne_r0_b68 : r0 ≠ b68 := Nat.ne_of_lt (Nat.lt_of_lt_of_le fa57.lt (Nat.le_of_eq g68.symm))
    have ne_r1_b68 : r1 ≠ b68 := Nat.ne_of_lt (Nat.lt_of_lt_of_le fa61.lt (Nat.le_of_eq g68.symm))
    have fa69 : Exa Z h68 r0 "com/example/moffett/moffett/requests/PackedIndexes" := fa57.ext E68
    have fa70 : Fld Z h68 r0 "com/example/moffett/moffett/requests/PackedIndexes" "size" "I" (.int n) := fa58.ext E68
    have fa71 : Fld Z h68 r0 "com/example/moffett/moffett/requests/PackedIndexes" "bitsEach" "I" (.int bt) := fa59.ext E68
    have fa72 : Fld Z h68 r0 "com/example/moffett/moffett/requests/PackedIndexes" "words" "[J" .null := fa60.ext E68
    have fa73 : Arv Z h68 r1 kk .int n vs (.int (0 : Int32)) := fa61.ext E68
    have z74 : n0 ≤ h68.size := Nat.le_trans z62 E68.1
    have kp75 : Keep h0 h68 [r0] := kp63.ext E68
    have fa76 : Arv Z h68 b68 k68 .long M [] (.long (0 : Int64)) := Arv.new A68 hM0
    obtain ⟨T77, h77, X77, e77, W77, st77⟩ := putF X68 hx hZ hown (host := "") (Or.inl (hw _ (List.mem_of_getElem? (i := 26) rfl))) Via.refl e68 fa72 fa69 (Or.inr ⟨(hw _ (List.mem_of_getElem? (i := 27) rfl)), rfl, hnm⟩) (hw _ (List.mem_of_getElem? (i := 7) rfl)) (ty := (.array .long)) (by decide) rfl rfl (g := (mkF m 57 #[.val (.ref r0), .val (.ref r1), .val (.int p2), .unset, .unset, .unset, .unset, .unset, .unset] [(.ref b68), (.ref r0)])) rfl rfl (hb hby d2_57)
    have fa78 : Exa Z h77 r0 "com/example/moffett/moffett/requests/PackedIndexes" := fa69.wr W77
    have fa79 : Fld Z h77 r0 "com/example/moffett/moffett/requests/PackedIndexes" "size" "I" (.int n) := fa70.other W77 (Or.inr (slot_ne (Or.inr (hw _ (List.mem_of_getElem? (i := 16) rfl))) (Or.inr (hw _ (List.mem_of_getElem? (i := 27) rfl))) (by decide) (t := .int) (t' := (.array .long)) (by decide) (by decide)))
    have fa80 : Fld Z h77 r0 "com/example/moffett/moffett/requests/PackedIndexes" "bitsEach" "I" (.int bt) := fa71.other W77 (Or.inr (slot_ne (Or.inr (hw _ (List.mem_of_getElem? (i := 23) rfl))) (Or.inr (hw _ (List.mem_of_getElem? (i := 27) rfl))) (by decide) (t := .int) (t' := (.array .long)) (by decide) (by decide)))
    have fa81 : Fld Z h77 r0 "com/example/moffett/moffett/requests/PackedIndexes" "words" "[J" (.ref b68) := fa72.same W77
    have fa82 : Arv Z h77 r1 kk .int n vs (.int (0 : Int32)) := fa73.other W77 (Ne.symm hne)
    have fa83 : Arv Z h77 b68 k68 .long M [] (.long (0 : Int64)) := fa76.other W77 (Ne.symm ne_r0_b68)
    have z84 : n0 ≤ h77.size := Nat.le_trans z74 (Nat.le_of_eq W77.size.symm)
    have kp85 : Keep h0 h77 [r0] := kp75.wr W77 (Or.inl (List.mem_of_getElem? (i := 0) rfl))
    have N77 := Fr.snoc X77 N56 g_r0
    have G86 : ∀ t, Steps p.tables e below (T77.setTop (mkF m 62 #[.val (.ref r0), .val (.ref r1), .val (.int p2), .val (.int (0 : Int32)), .unset, .unset, .unset, .unset, .unset] [])) t → Steps p.tables e below (s₁.setTop (entryFrame m #[(.ref r0), (.ref r1), (.int p2)] 9)) t := by
      intro t kt
      refine G67 _ ?_
      show Steps p.tables e below (T65.setTop (mkF m 55 #[.val (.ref r0), .val (.ref r1), .val (.int p2), .unset, .unset, .unset, .unset, .unset, .unset] [(.int M), (.ref r0)])) _
      refine st68 _ ?_
      show Steps p.tables e below (T68.setTop (mkF m 57 #[.val (.ref r0), .val (.ref r1), .val (.int p2), .unset, .unset, .unset, .unset, .unset, .unset] [(.ref b68), (.ref r0)])) _
      refine st77 _ ?_
      show Steps p.tables e below (T77.setTop (mkF m 60 #[.val (.ref r0), .val (.ref r1), .val (.int p2), .unset, .unset, .unset, .unset, .unset, .unset] [])) _
      refine XS.iconst X77.here hx rfl (hb hby d2_60) ?_
      show Steps p.tables e below (T77.setTop (mkF m 61 #[.val (.ref r0), .val (.ref r1), .val (.int p2), .unset, .unset, .unset, .unset, .unset, .unset] [(.int (0 : Int32))])) _
      refine XS.istoreN X77.here hx rfl (hb hby d2_61) rfl (l' := #[.val (.ref r0), .val (.ref r1), .val (.int p2), .val (.int (0 : Int32)), .unset, .unset, .unset, .unset, .unset]) rfl ?_
      exact kt
    obtain ⟨cw, Aw, qw, Sw, Mw, Hw, Gw⟩ := id fa83
    obtain ⟨ci, Ai, qi, Si, Mi, Hi, Gi⟩ := id fa82
    have hwz : ∀ j : Int32, ¬ (j < 0 ∨ cw.slots.size ≤ j.toNatClampNeg) → cw.slots[j.toNatClampNeg]? = some (.long (0 : Int64)) := fun j q => Hw.at q rfl
    have Si' : ci.slots.size = n.toInt.toNat := Si
    have hzi : ∀ k : Nat, (k : Int) + 1 < n.toInt → ci.slots[k]? = some (.int (0 : Int32)) := fun k q => by rw [Hi k (by omega), hz k q]
    have hli : ∀ k : Nat, (k : Int) + 1 = n.toInt → ci.slots[k]? = some (.int x) := fun k q => by rw [Hi k (by omega), hl k q]
    have hb1 : ¬ (x = (0 : Int32)) → 1 ≤ bt.toInt := fun q => hbb.2.2 (own_big hx0 hxb q)
    have hlp : ∃ (T' : State) (h' : Heap) (locs' : List Loc) (Ls : Array Slot), Stand p l e ({ frames := 1, cells := 1, slots := 8, locals := 15 } : Room) s m #[(.ref r0), (.ref r1), (.int p2)] below meth c T' locs' 1 8 ∧ T'.heap = h' ∧ Fr n0 locs' ∧ Keep h77 h' [b68] ∧ ∀ t, Steps p.tables e below (T'.setTop (mkF m 193 Ls [])) t → Steps p.tables e below (T77.setTop (mkF m 62 #[.val (.ref r0), .val (.ref r1), .val (.int p2), .val (.int (0 : Int32)), .unset, .unset, .unset, .unset, .unset] [])) t := by
      by_cases hn0 : n.toInt = 0
      · exact gone r0 r1 b68 p2 (0 : Int32) n .unset X77 hx hZ hw hby hml hown e77 N77 z84 fa79 (by rw [Int32.lt_iff_toInt_lt]; show ¬ (0 < n.toInt); omega)
      · exact loop r0 r1 b68 p2 n bt x M ci cw hx hZ hw hby hml hown N77 z84 fa79 fa80 fa81 Ai Si hzi hli hx0 hxb (by rw [Int32.lt_iff_toInt_lt]; show 0 < p2.toInt; omega) g_b68 ne_r0_b68 Aw Sw hwz hn.2 hb1 hbb.2.1 hMI (n.toInt.toNat - 1) (0 : Int32) .unset T77 (by decide) (by show 0 + _ + 1 = _; omega) One.u X77 e77
    obtain ⟨TL, hL, LL, LsL, XL, eL, NL, KL, GL⟩ := hlp
    have GA : ∀ t, Steps p.tables e below (TL.setTop (mkF m 193 LsL [])) t → Steps p.tables e below (s₁.setTop (entryFrame m #[(.ref r0), (.ref r1), (.int p2)] 9)) t := fun t k => G86 _ (GL t k)
    have fa87 : Exa Z hL r0 "com/example/moffett/moffett/requests/PackedIndexes" := fa78.keep KL
    have fa88 : Fld Z hL r0 "com/example/moffett/moffett/requests/PackedIndexes" "size" "I" (.int n) := fa79.keep KL (ninS ne_r0_b68 nin0)
    have fa89 : Fld Z hL r0 "com/example/moffett/moffett/requests/PackedIndexes" "bitsEach" "I" (.int bt) := fa80.keep KL (ninS ne_r0_b68 nin0)
    have fa90 : Fld Z hL r0 "com/example/moffett/moffett/requests/PackedIndexes" "words" "[J" (.ref b68) := fa81.keep KL (ninS ne_r0_b68 nin0)
    have fa91 : Arv Z hL r1 kk .int n vs (.int (0 : Int32)) := fa82.keep KL (ninS ne_r1_b68 nin0)
    have z92 : n0 ≤ hL.size := Nat.le_trans z84 KL.1
    have kp93 : Keep h0 hL [r0] := kp85.trans KL (allS (Or.inr sz_b68) all0)
    obtain ⟨cw2, Aw2, Sw2⟩ := own_arr_keep Aw KL
    obtain ⟨fs, hr, hrun, hended, hW, hsame⟩ := XL.leave (v := none) (fun _ => rfl)
    refine ⟨_, _, GA _ ?_, hrun, hended, _, _, rfl, ?_, ⟨_, rfl⟩, hW, hsame.mono (by decide) (by decide)⟩
    · skip
      show Steps p.tables e below (TL.setTop (mkF m 193 LsL [])) _
      exact XL.returnOut hx Bd.returns (hb hby d2_193) hr
    · show Q2 Z r0 r1 p2 n kk vs x h0 n0 _ TL.heap _
      rw [eL]
      exact ⟨rfl, NL, kp93, fa87, b68, cw2, M, fa90, Aw2, Sw2.trans Sw, hM0, by rw [hMI, hbt5]⟩
theorem d6_0 : decode prog_10_method_4_code 0 = .ok (.ldc2_w 45, 3) := by decide +kernel
theorem d6_3 : decode prog_10_method_4_code 3 = .ok (.ldc2_w 47, 3) := by decide +kernel
theorem d6_6 : decode prog_10_method_4_code 6 = .ok (.aload_n 0, 1) := by decide +kernel
theorem d6_7 : decode prog_10_method_4_code 7 = .ok (.getfield 26, 3) := by decide +kernel
theorem d6_10 : decode prog_10_method_4_code 10 = .ok (.arraylength, 1) := by decide +kernel
theorem d6_11 : decode prog_10_method_4_code 11 = .ok (.i2l, 1) := by decide +kernel
theorem d6_12 : decode prog_10_method_4_code 12 = .ok (.lmul, 1) := by decide +kernel
theorem d6_13 : decode prog_10_method_4_code 13 = .ok (.ladd, 1) := by decide +kernel
theorem d6_14 : decode prog_10_method_4_code 14 = .ok (.lreturn, 1) := by decide +kernel
def Q6 (Z : State) (r0 : Addr) (wa : Addr) (cw : Cell) (M : Int32) (h0 : Heap) (n0 : Nat) (v : Option Value) (h : Heap) (L : List Loc) : Prop := v = some (.long ((16 : Int64) + ((8 : Int64) * (M.toInt64)))) ∧ Fr n0 L ∧ h = h0
theorem ef_rm6 (m : MethodId) (x0 : Addr) : entryFrame m #[(.ref x0)] 1 = mkF m 0 #[.val (.ref x0)] [] := by first | (simp [entryFrame, mkF, argsToLocals, Value.category]; done) | rfl
set_option maxRecDepth 65536 in
set_option maxHeartbeats 40000000 in
theorem rm6 (l : Launch) (Z : State) (a0 : Array Value) (hw : ∀ d ∈ tables_1, d.before a0 Z = true) (ws : List Jvm.Cond) (r0 : Addr) (wa : Addr) (cw : Cell) (M : Int32) (h0 : Heap) (n0 : Nat) (Z0 : n0 ≤ h0.size) (Fw : Fld Z h0 r0 "com/example/moffett/moffett/requests/PackedIndexes" "words" "[J" (.ref wa)) (Aw : Arr Z h0 wa cw .long) (Sw : cw.slots.size = M.toNatClampNeg) (Mw : ¬ M < 0) :
    MetFree l (⟨"com/example/moffett/moffett/requests/PackedIndexes", "heapBytes", "()J"⟩ : MethodName) (head1 (Jvm.Cond.code (⟨"com/example/moffett/moffett/requests/PackedIndexes", "heapBytes", "()J"⟩ : MethodName) prog_10_method_4_code 1 (some .long) :: ws) ({ frames := 0, cells := 0, slots := 0, locals := 0 } : Room)) (fun a U => a = #[(.ref r0)] ∧ Z.Warmed39 U.vm ∧ U.heap = h0) (fun _ _ _ _ _ => True) (fun _ U o U' => ∃ v L, o = .returned v ∧ Q6 Z r0 wa cw M h0 n0 v U'.heap L ∧ FrameEnd U o U' L ({ frames := 0, cells := 0, slots := 0, locals := 0 } : Room).cells ({ frames := 0, cells := 0, slots := 0, locals := 0 } : Room).slots) := by
  refine MetFree.of_bodySF (plainFor_of_name pnc_com_example_moffett_moffett_requests_PackedIndexes) hisR ?_
  intro p e s m args below meth c s₁ Bd hml0 hP hK
  obtain ⟨rfl, hZ, hh⟩ := hP
  have hx := Bd.exec
  have hby := Bd.bytes
  have hml : c.maxLocals = 1 := hml0
  have hown : s.vm.findClass "com/example/moffett/moffett/requests/PackedIndexes" = some m.cls := findClass_of_methodNamed Bd.named
  have hnm := (name_of_methodNamed Bd.named Bd.method).1
  have X0 : Stand p l e ({ frames := 0, cells := 0, slots := 0, locals := 0 } : Room) s m #[(.ref r0)] below meth c s₁ [] 0 0 := Stand.of_body Bd
  have e0 : s₁.heap = h0 := by rw [← hh, Bd.state]; rfl
  have N0 := Fr.nil n0
  have kp0 : Keep h0 h0 [] := Keep.refl _ _
  have G0 : ∀ t, Steps p.tables e below (s₁.setTop (mkF m 0 #[.val (.ref r0)] [])) t → Steps p.tables e below (s₁.setTop (entryFrame m #[(.ref r0)] 1)) t := fun t k => castTop (ef_rm6 m r0) k
  obtain ⟨T1, X1, e1, st1⟩ := getF X0 hx hZ hown (host := "") (Or.inl (hw _ (List.mem_of_getElem? (i := 26) rfl))) Via.refl e0 Fw (g := (mkF m 7 #[.val (.ref r0)] [(.ref r0), (.long (8 : Int64)), (.long (16 : Int64))])) rfl rfl (hb hby d6_7)
  obtain ⟨fs, hr, hrun, hended, hW, hsame⟩ := X1.leave (v := some (.long ((16 : Int64) + ((8 : Int64) * (M.toInt64))))) (fun h => by rw [Bd.returns] at h; cases h)
  refine ⟨_, _, G0 _ ?_, hrun, hended, _, _, rfl, ?_, ⟨_, rfl⟩, hW, hsame.mono (by decide) (by decide)⟩
  · skip
    show Steps p.tables e below (s₁.setTop (mkF m 0 #[.val (.ref r0)] [])) _
    refine X0.ldc2Long hx hown (mvT hZ (hw _ (List.mem_of_getElem? (i := 40) rfl))) (g := (mkF m 0 #[.val (.ref r0)] [])) rfl (hb hby d6_0) _ ?_
    show Steps p.tables e below (s₁.setTop (mkF m 3 #[.val (.ref r0)] [(.long (16 : Int64))])) _
    refine X0.ldc2Long hx hown (mvT hZ (hw _ (List.mem_of_getElem? (i := 41) rfl))) (g := (mkF m 3 #[.val (.ref r0)] [(.long (16 : Int64))])) rfl (hb hby d6_3) _ ?_
    show Steps p.tables e below (s₁.setTop (mkF m 6 #[.val (.ref r0)] [(.long (8 : Int64)), (.long (16 : Int64))])) _
    refine XS.aloadN X0.here hx rfl (hb hby d6_6) rfl rfl ?_
    show Steps p.tables e below (s₁.setTop (mkF m 7 #[.val (.ref r0)] [(.ref r0), (.long (8 : Int64)), (.long (16 : Int64))])) _
    refine st1 _ ?_
    show Steps p.tables e below (T1.setTop (mkF m 10 #[.val (.ref r0)] [(.ref wa), (.long (8 : Int64)), (.long (16 : Int64))])) _
    refine X1.arraylength hx (by rw [e1]; exact Aw.1) (State.isArrayOf_alike hZ.alike Aw.2.1) (g := (mkF m 10 #[.val (.ref r0)] [(.ref wa), (.long (8 : Int64)), (.long (16 : Int64))])) rfl rfl (hb hby d6_10) _ ?_
    rw [len_of Sw Mw]
    show Steps p.tables e below (T1.setTop (mkF m 11 #[.val (.ref r0)] [(.int M), (.long (8 : Int64)), (.long (16 : Int64))])) _
    refine XS.i2l X1.here hx rfl (hb hby d6_11) rfl ?_
    show Steps p.tables e below (T1.setTop (mkF m 12 #[.val (.ref r0)] [(.long (M.toInt64)), (.long (8 : Int64)), (.long (16 : Int64))])) _
    refine XS.lmul X1.here hx rfl (hb hby d6_12) rfl ?_
    show Steps p.tables e below (T1.setTop (mkF m 13 #[.val (.ref r0)] [(.long ((8 : Int64) * (M.toInt64))), (.long (16 : Int64))])) _
    refine XS.ladd X1.here hx rfl (hb hby d6_13) rfl ?_
    show Steps p.tables e below (T1.setTop (mkF m 14 #[.val (.ref r0)] [(.long ((16 : Int64) + ((8 : Int64) * (M.toInt64))))])) _
    exact retOut X1 hx Bd.returns rfl (Or.inr (Or.inl ⟨rfl, rfl, _, rfl⟩)) (hb hby d6_14) hr
  · show Q6 Z r0 wa cw M h0 n0 _ T1.heap _
    rw [e1]
    exact ⟨rfl, N0, rfl⟩
theorem own_max (y : Int32) : 1 ≤ (fmax (1 : Int32) y).toInt := by
  have e1 : (1 : Int32).toInt = 1 := by decide
  rw [fmax]
  by_cases h : (1 : Int32) < y
  · rw [if_pos h]; rw [Int32.lt_iff_toInt_lt, e1] at h; omega
  · rw [if_neg h]; decide
theorem own_rem (d bd : Int32) (h : 1 ≤ bd.toInt) : ¬ (((d &&& (2147483647 : Int32)) % bd) < (0 : Int32)) ∧ ((d &&& (2147483647 : Int32)) % bd) < bd := by
  have m := c_mask d 2147483647 31 (by decide) (by decide)
  have e0 : (0 : Int32).toInt = 0 := by decide
  generalize hy : d &&& (2147483647 : Int32) = y at m ⊢
  have q := (c_iremV y bd).1 (by omega) (by omega)
  rw [Int32.lt_iff_toInt_lt, Int32.lt_iff_toInt_lt, e0]
  omega
theorem own_set_lo {n : Int32} {N : Nat} {x : Value} (hn : 0 < n.toInt) (hN : N = n.toInt.toNat) (k : Nat) (q : (k : Int) + 1 < n.toInt) : ((([] : List Value) ++ List.replicate N (Value.int (0 : Int32))).set (n - (1 : Int32)).toNatClampNeg x).getD k (.int (0 : Int32)) = .int (0 : Int32) := by
  have a := c_isub n 1
  have r := rng32 (n - 1)
  have r2 := rng32 n
  have e1 : (1 : Int32).toInt = 1 := by decide
  rw [e1] at a
  have hk : (n - (1 : Int32)).toNatClampNeg = (n - 1).toInt.toNat := rfl
  rw [List.nil_append, List.getD_eq_getElem?_getD, List.getElem?_set_ne (by omega), List.getElem?_replicate]
  split <;> rfl
theorem own_set_hi {n : Int32} {N : Nat} {x : Value} (hn : 0 < n.toInt) (hN : N = n.toInt.toNat) (k : Nat) (q : (k : Int) + 1 = n.toInt) : ((([] : List Value) ++ List.replicate N (Value.int (0 : Int32))).set (n - (1 : Int32)).toNatClampNeg x).getD k (.int (0 : Int32)) = x := by
  have a := c_isub n 1
  have r := rng32 (n - 1)
  have r2 := rng32 n
  have e1 : (1 : Int32).toInt = 1 := by decide
  rw [e1] at a
  have hk : (n - (1 : Int32)).toNatClampNeg = (n - 1).toInt.toNat := rfl
  have hk2 : (n - (1 : Int32)).toNatClampNeg = k := by omega
  rw [List.nil_append, List.getD_eq_getElem?_getD, hk2, List.getElem?_set_self (by rw [List.length_replicate]; omega)]
  rfl
theorem own_sub1 {n : Int32} (h : 0 < n.toInt) : ¬ (n - (1 : Int32)) < 0 ∧ (n - (1 : Int32)) < n := by
  have a := c_isub n 1
  have r := rng32 (n - 1)
  have r2 := rng32 n
  have e1 : (1 : Int32).toInt = 1 := by decide
  have e0 : (0 : Int32).toInt = 0 := by decide
  rw [e1] at a
  rw [Int32.lt_iff_toInt_lt, Int32.lt_iff_toInt_lt, e0]
  omega
theorem own_ixn {n : Int32} (h : 0 < n.toInt) : (n - (1 : Int32)).toNatClampNeg < n.toNatClampNeg := by
  have a := c_isub n 1
  have r := rng32 (n - 1)
  have r2 := rng32 n
  have e1 : (1 : Int32).toInt = 1 := by decide
  rw [e1] at a
  show (n - (1 : Int32)).toInt.toNat < n.toInt.toNat
  omega
theorem own_fin (n b M j : Int32) (hn : 0 ≤ n.toInt ∧ n.toInt ≤ 15) (hb : 0 ≤ b.toInt ∧ b.toInt ≤ 31) (hM : M.toInt = (n.toInt * b.toInt + 63) / 64) (hj : j = (if ((n * b) % (64 : Int32)) = (0 : Int32) then (0 : Int32) else (1 : Int32))) : M = (((n * b) / (64 : Int32)) + j) := by
  have q := own_mulb hn.1 hn.2 hb.1 hb.2
  have a := c_imul n b
  have r := rng32 (n * b)
  have v : (n * b).toInt = n.toInt * b.toInt := by omega
  have d1 := (c_idiv (n * b) 64 64 (by decide) (by decide)).1 (by omega)
  have d2 := (c_irem (n * b) 64 64 (by decide)).1 (by omega)
  have a2 := c_iadd ((n * b) / 64) j
  have r2 := rng32 ((n * b) / 64 + j)
  have e0 : (0 : Int32).toInt = 0 := by decide
  have e1 : (1 : Int32).toInt = 1 := by decide
  apply Int32.toInt_inj.mp
  rw [hM]
  generalize n.toInt * b.toInt = P at *
  by_cases h : ((n * b) % (64 : Int32)) = (0 : Int32)
  · rw [if_pos h] at hj
    have h' := congrArg Int32.toInt h
    rw [hj, e0] at a2
    rw [hj] at r2 ⊢
    rw [e0] at h'
    omega
  · rw [if_neg h] at hj
    have h' : ¬ ((n * b) % (64 : Int32)).toInt = 0 := fun q => h (Int32.toInt_inj.mp (by rw [q, e0]))
    rw [hj, e1] at a2
    rw [hj] at r2 ⊢
    omega
-- the law
theorem pd_1 : parseMethodDescriptor "(II)I" = some ⟨[.int, .int], some .int⟩ := by decide +kernel
theorem pd_2 : parseMethodDescriptor "([II)V" = some ⟨[(.array .int), .int], none⟩ := by decide +kernel
theorem pd_3 : parseMethodDescriptor "()J" = some ⟨[], some .long⟩ := by decide +kernel
def Q0 (Z : State) (p0 : Int32) (p1 : Int32) (p2 : Int32) (h0 : Heap) (n0 : Nat) (v : Option Value) (h : Heap) (L : List Loc) : Prop := v = some (.int (1 : Int32)) ∧ Fr n0 L
theorem ef_rm0 (m : MethodId) (x0 : Int32) (x1 : Int32) (x2 : Int32) : entryFrame m #[(.int x0), (.int x1), (.int x2)] maxLocals = mkF m 0 #[.val (.int x0), .val (.int x1), .val (.int x2), .unset, .unset, .unset, .unset, .unset, .unset, .unset, .unset, .unset] [] := by first | (simp [entryFrame, mkF, argsToLocals, Value.category, maxLocals]; done) | rfl
set_option maxRecDepth 65536 in
set_option maxHeartbeats 40000000 in
theorem rm0 (l : Launch) (Z : State) (a0 : Array Value) (hw : ∀ d ∈ tables_1, d.before a0 Z = true) (ws : List Jvm.Cond) (p0 : Int32) (p1 : Int32) (p2 : Int32) (h0 : Heap) (n0 : Nat) (Z0 : n0 ≤ h0.size) :
    MetFree l x (head1 (Jvm.Cond.code x code maxLocals ret :: ws) room_1) (fun a U => a = #[(.int p0), (.int p1), (.int p2)] ∧ Z.Warmed39 U.vm ∧ U.heap = h0) (fun _ _ _ _ _ => True) (fun _ U o U' => ∃ v L, o = .returned v ∧ Q0 Z p0 p1 p2 h0 n0 v U'.heap L ∧ FrameEnd U o U' L room_1.cells room_1.slots) := by
  refine MetFree.of_bodySF (plainFor_of_name pnc_com_example_moffett_moffett_requests_PackedIndexesHeapBytesPinLaw) hisR ?_
  intro p e s m args below meth c s₁ Bd hml0 hP hK
  obtain ⟨rfl, hZ, hh⟩ := hP
  have hx := Bd.exec
  have hby := Bd.bytes
  have hml : c.maxLocals = 12 := hml0
  have hown : s.vm.findClass "com/example/moffett/moffett/requests/PackedIndexesHeapBytesPinLaw" = some m.cls := findClass_of_methodNamed Bd.named
  have hnm := (name_of_methodNamed Bd.named Bd.method).1
  have X0 : Stand p l e room_1 s m #[(.int p0), (.int p1), (.int p2)] below meth c s₁ [] 0 0 := Stand.of_body Bd
  have e0 : s₁.heap = h0 := by rw [← hh, Bd.state]; rfl
  have N0 := Fr.nil n0
  have kp0 : Keep h0 h0 [] := Keep.refl _ _
  have G0 : ∀ t, Steps p.tables e below (s₁.setTop (mkF m 0 #[.val (.int p0), .val (.int p1), .val (.int p2), .unset, .unset, .unset, .unset, .unset, .unset, .unset, .unset, .unset] [])) t → Steps p.tables e below (s₁.setTop (entryFrame m #[(.int p0), (.int p1), (.int p2)] maxLocals)) t := fun t k => castTop (ef_rm0 m p0 p1 p2) k
  have G1 : ∀ t, Steps p.tables e below (s₁.setTop (mkF m 5 #[.val (.int p0), .val (.int p1), .val (.int p2), .val (.int (p0 &&& (15 : Int32))), .unset, .unset, .unset, .unset, .unset, .unset, .unset, .unset] [])) t → Steps p.tables e below (s₁.setTop (entryFrame m #[(.int p0), (.int p1), (.int p2)] maxLocals)) t := by
    intro t kt
    refine G0 _ ?_
    show Steps p.tables e below (s₁.setTop (mkF m 0 #[.val (.int p0), .val (.int p1), .val (.int p2), .unset, .unset, .unset, .unset, .unset, .unset, .unset, .unset, .unset] [])) _
    refine XS.iloadN X0.here hx rfl (hb hby at_0) rfl ?_
    show Steps p.tables e below (s₁.setTop (mkF m 1 #[.val (.int p0), .val (.int p1), .val (.int p2), .unset, .unset, .unset, .unset, .unset, .unset, .unset, .unset, .unset] [(.int p0)])) _
    refine XS.bipush X0.here hx rfl (hb hby at_1) ?_
    show Steps p.tables e below (s₁.setTop (mkF m 3 #[.val (.int p0), .val (.int p1), .val (.int p2), .unset, .unset, .unset, .unset, .unset, .unset, .unset, .unset, .unset] [(.int (15 : Int32)), (.int p0)])) _
    refine XS.iand X0.here hx rfl (hb hby at_3) rfl ?_
    show Steps p.tables e below (s₁.setTop (mkF m 4 #[.val (.int p0), .val (.int p1), .val (.int p2), .unset, .unset, .unset, .unset, .unset, .unset, .unset, .unset, .unset] [(.int (p0 &&& (15 : Int32)))])) _
    refine XS.istoreN X0.here hx rfl (hb hby at_4) rfl (l' := #[.val (.int p0), .val (.int p1), .val (.int p2), .val (.int (p0 &&& (15 : Int32))), .unset, .unset, .unset, .unset, .unset, .unset, .unset, .unset]) rfl ?_
    exact kt
  obtain ⟨n, hn⟩ : ∃ z : Int32, z = (p0 &&& (15 : Int32)) := ⟨_, rfl⟩
  have G2 : ∀ t, Steps p.tables e below (s₁.setTop (mkF m 5 #[.val (.int p0), .val (.int p1), .val (.int p2), .val (.int n), .unset, .unset, .unset, .unset, .unset, .unset, .unset, .unset] [])) t → Steps p.tables e below (s₁.setTop (entryFrame m #[(.int p0), (.int p1), (.int p2)] maxLocals)) t := by
    intro t kt
    rw [hn] at kt
    exact G1 t kt
  have hnb : 0 ≤ n.toInt ∧ n.toInt ≤ 15 := by have q := c_mask p0 15 4 (by decide) (by decide); rw [hn, q]; omega
  have hn0 : ¬ n < 0 := by rw [Int32.lt_iff_toInt_lt]; show ¬ n.toInt < 0; omega
  have hn15 : n.toNatClampNeg ≤ 15 := by show n.toInt.toNat ≤ 15; omega
  obtain ⟨_, _, ⟨T3, L3, k3, n3⟩, -, X3, ⟨Lc3, hQ3, l3, y3, z3⟩, st3⟩ := Jvm.LawKit.callS X0 hx (y := (⟨"java/lang/Math", "max", "(II)I"⟩ : MethodName)) hown (mvT hZ (hw _ (List.mem_of_getElem? (i := 1) rfl))) (mvT hZ (hw _ (List.mem_of_getElem? (i := 2) rfl))) (mvT hZ (hw _ (List.mem_of_getElem? (i := 3) rfl))) (mvT hZ (hw _ (List.mem_of_getElem? (i := 4) rfl))) (by decide) (backOf (W := 0) (rm1 l Z a0 hw [] (1 : Int32) (p1 &&& (2147483647 : Int32))  h0 n0 Z0 ) hZ (hw _ (List.mem_of_getElem? (i := 4) rfl)) (hw _ (List.mem_of_getElem? (i := 3) rfl)) (by decide) (by decide)) (g := (mkF m 10 #[.val (.int p0), .val (.int p1), .val (.int p2), .val (.int n), .unset, .unset, .unset, .unset, .unset, .unset, .unset, .unset] [(.int (p1 &&& (2147483647 : Int32))), (.int (1 : Int32))])) rfl (by rw [hml]; rfl) (argsL := [(.int (1 : Int32)), (.int (p1 &&& (2147483647 : Int32)))]) (rest := []) (lenOf pd_1 rfl) rfl (by show 2 * 0 + _ ≤ _; exact Nat.le_of_eq rfl) (hb hby at_10) (fun _ _ => ⟨rfl, e0, (by decide : 0 + 0 ≤ _), (by decide : 0 + 0 ≤ _)⟩)
  dsimp only [Pt.U, Pt.locs, Pt.cells, Pt.slots] at X3 l3 y3 z3 st3 hQ3
  subst l3 y3 z3
  obtain ⟨rfl, N3q, eh3⟩ := hQ3
  have N3 := Fr.app N0 N3q
  have G4 : ∀ t, Steps p.tables e below (T3.setTop (mkF m 15 #[.val (.int p0), .val (.int p1), .val (.int p2), .val (.int n), .val (.int (fmax (1 : Int32) (p1 &&& (2147483647 : Int32)))), .unset, .unset, .unset, .unset, .unset, .unset, .unset] [])) t → Steps p.tables e below (s₁.setTop (entryFrame m #[(.int p0), (.int p1), (.int p2)] maxLocals)) t := by
    intro t kt
    refine G2 _ ?_
    show Steps p.tables e below (s₁.setTop (mkF m 5 #[.val (.int p0), .val (.int p1), .val (.int p2), .val (.int n), .unset, .unset, .unset, .unset, .unset, .unset, .unset, .unset] [])) _
    refine XS.iconst X0.here hx rfl (hb hby at_5) ?_
    show Steps p.tables e below (s₁.setTop (mkF m 6 #[.val (.int p0), .val (.int p1), .val (.int p2), .val (.int n), .unset, .unset, .unset, .unset, .unset, .unset, .unset, .unset] [(.int (1 : Int32))])) _
    refine XS.iloadN X0.here hx rfl (hb hby at_6) rfl ?_
    show Steps p.tables e below (s₁.setTop (mkF m 7 #[.val (.int p0), .val (.int p1), .val (.int p2), .val (.int n), .unset, .unset, .unset, .unset, .unset, .unset, .unset, .unset] [(.int p1), (.int (1 : Int32))])) _
    refine X0.ldcInt hx hown (mvT hZ (hw _ (List.mem_of_getElem? (i := 0) rfl))) (g := (mkF m 7 #[.val (.int p0), .val (.int p1), .val (.int p2), .val (.int n), .unset, .unset, .unset, .unset, .unset, .unset, .unset, .unset] [(.int p1), (.int (1 : Int32))])) rfl (hb hby at_7) _ ?_
    show Steps p.tables e below (s₁.setTop (mkF m 9 #[.val (.int p0), .val (.int p1), .val (.int p2), .val (.int n), .unset, .unset, .unset, .unset, .unset, .unset, .unset, .unset] [(.int (2147483647 : Int32)), (.int p1), (.int (1 : Int32))])) _
    refine XS.iand X0.here hx rfl (hb hby at_9) rfl ?_
    show Steps p.tables e below (s₁.setTop (mkF m 10 #[.val (.int p0), .val (.int p1), .val (.int p2), .val (.int n), .unset, .unset, .unset, .unset, .unset, .unset, .unset, .unset] [(.int (p1 &&& (2147483647 : Int32))), (.int (1 : Int32))])) _
    refine st3 _ ?_
    show Steps p.tables e below (T3.setTop (mkF m 13 #[.val (.int p0), .val (.int p1), .val (.int p2), .val (.int n), .unset, .unset, .unset, .unset, .unset, .unset, .unset, .unset] [(.int (fmax (1 : Int32) (p1 &&& (2147483647 : Int32))))])) _
    refine XS.istore X3.here hx rfl (hb hby at_13) rfl (l' := #[.val (.int p0), .val (.int p1), .val (.int p2), .val (.int n), .val (.int (fmax (1 : Int32) (p1 &&& (2147483647 : Int32)))), .unset, .unset, .unset, .unset, .unset, .unset, .unset]) rfl ?_
    exact kt
  obtain ⟨bd, hbd⟩ : ∃ z : Int32, z = (fmax (1 : Int32) (p1 &&& (2147483647 : Int32))) := ⟨_, rfl⟩
  have G5 : ∀ t, Steps p.tables e below (T3.setTop (mkF m 15 #[.val (.int p0), .val (.int p1), .val (.int p2), .val (.int n), .val (.int bd), .unset, .unset, .unset, .unset, .unset, .unset, .unset] [])) t → Steps p.tables e below (s₁.setTop (entryFrame m #[(.int p0), (.int p1), (.int p2)] maxLocals)) t := by
    intro t kt
    rw [hbd] at kt
    exact G4 t kt
  have hbd1 : 1 ≤ bd.toInt := by rw [hbd]; exact own_max _
  have hbdz : bd ≠ 0 := fun q => by rw [q] at hbd1; exact absurd hbd1 (by decide)
  obtain ⟨T6, h6, k6, X6, e6, E6, A6, st6⟩ := newP X3 hx hZ (hw _ (List.mem_of_getElem? (i := 5) rfl)) eh3 (g := (mkF m 16 #[.val (.int p0), .val (.int p1), .val (.int p2), .val (.int n), .val (.int bd), .unset, .unset, .unset, .unset, .unset, .unset, .unset] [(.int n)])) rfl (hb hby at_16) rfl hn0 (cap := 15) hn15 (by decide) (by decide) (by decide)
  obtain ⟨b6, g6⟩ : ∃ z, z = h0.size := ⟨_, rfl⟩
  rw [← g6] at A6 st6
  have g_b6 : n0 ≤ b6 := Nat.le_trans Z0 (Nat.le_of_eq g6.symm)
  have sz_b6 : h0.size ≤ b6 := Nat.le_trans kp0.1 (Nat.le_of_eq g6.symm)
  have z7 : n0 ≤ h6.size := Nat.le_trans Z0 E6.1
  have kp8 : Keep h0 h6 [] := kp0.ext E6
  have fa9 : Arv Z h6 b6 k6 .int n [] (.int (0 : Int32)) := Arv.new A6 hn0
  have G10 : ∀ t, Steps p.tables e below (T6.setTop (mkF m 21 #[.val (.int p0), .val (.int p1), .val (.int p2), .val (.int n), .val (.int bd), .val (.ref b6), .unset, .unset, .unset, .unset, .unset, .unset] [(.int n)])) t → Steps p.tables e below (s₁.setTop (entryFrame m #[(.int p0), (.int p1), (.int p2)] maxLocals)) t := by
    intro t kt
    refine G5 _ ?_
    show Steps p.tables e below (T3.setTop (mkF m 15 #[.val (.int p0), .val (.int p1), .val (.int p2), .val (.int n), .val (.int bd), .unset, .unset, .unset, .unset, .unset, .unset, .unset] [])) _
    refine XS.iloadN X3.here hx rfl (hb hby at_15) rfl ?_
    show Steps p.tables e below (T3.setTop (mkF m 16 #[.val (.int p0), .val (.int p1), .val (.int p2), .val (.int n), .val (.int bd), .unset, .unset, .unset, .unset, .unset, .unset, .unset] [(.int n)])) _
    refine st6 _ ?_
    show Steps p.tables e below (T6.setTop (mkF m 18 #[.val (.int p0), .val (.int p1), .val (.int p2), .val (.int n), .val (.int bd), .unset, .unset, .unset, .unset, .unset, .unset, .unset] [(.ref b6)])) _
    refine XS.astore X6.here hx rfl (hb hby at_18) rfl rfl (l' := #[.val (.int p0), .val (.int p1), .val (.int p2), .val (.int n), .val (.int bd), .val (.ref b6), .unset, .unset, .unset, .unset, .unset, .unset]) rfl ?_
    show Steps p.tables e below (T6.setTop (mkF m 20 #[.val (.int p0), .val (.int p1), .val (.int p2), .val (.int n), .val (.int bd), .val (.ref b6), .unset, .unset, .unset, .unset, .unset, .unset] [])) _
    refine XS.iloadN X6.here hx rfl (hb hby at_20) rfl ?_
    exact kt
  by_cases hc21_11 : (0 : Int32) < n
  · skip
    have G12 : ∀ t, Steps p.tables e below (T6.setTop (mkF m 36 #[.val (.int p0), .val (.int p1), .val (.int p2), .val (.int n), .val (.int bd), .val (.ref b6), .unset, .unset, .unset, .unset, .unset, .unset] [(.int ((p2 &&& (2147483647 : Int32)) % bd)), (.int (n - (1 : Int32))), (.ref b6)])) t → Steps p.tables e below (s₁.setTop (entryFrame m #[(.int p0), (.int p1), (.int p2)] maxLocals)) t := by
      intro t kt
      refine G10 _ ?_
      show Steps p.tables e below (T6.setTop (mkF m 21 #[.val (.int p0), .val (.int p1), .val (.int p2), .val (.int n), .val (.int bd), .val (.ref b6), .unset, .unset, .unset, .unset, .unset, .unset] [(.int n)])) _
      refine XS.ifNo X6.here hx rfl (hb hby at_21) rfl ((if0 _ _).trans (tlt hc21_11).2.2.2) ?_
      show Steps p.tables e below (T6.setTop (mkF m 24 #[.val (.int p0), .val (.int p1), .val (.int p2), .val (.int n), .val (.int bd), .val (.ref b6), .unset, .unset, .unset, .unset, .unset, .unset] [])) _
      refine XS.aload X6.here hx rfl (hb hby at_24) rfl rfl ?_
      show Steps p.tables e below (T6.setTop (mkF m 26 #[.val (.int p0), .val (.int p1), .val (.int p2), .val (.int n), .val (.int bd), .val (.ref b6), .unset, .unset, .unset, .unset, .unset, .unset] [(.ref b6)])) _
      refine XS.iloadN X6.here hx rfl (hb hby at_26) rfl ?_
      show Steps p.tables e below (T6.setTop (mkF m 27 #[.val (.int p0), .val (.int p1), .val (.int p2), .val (.int n), .val (.int bd), .val (.ref b6), .unset, .unset, .unset, .unset, .unset, .unset] [(.int n), (.ref b6)])) _
      refine XS.iconst X6.here hx rfl (hb hby at_27) ?_
      show Steps p.tables e below (T6.setTop (mkF m 28 #[.val (.int p0), .val (.int p1), .val (.int p2), .val (.int n), .val (.int bd), .val (.ref b6), .unset, .unset, .unset, .unset, .unset, .unset] [(.int (1 : Int32)), (.int n), (.ref b6)])) _
      refine XS.isub X6.here hx rfl (hb hby at_28) rfl ?_
      show Steps p.tables e below (T6.setTop (mkF m 29 #[.val (.int p0), .val (.int p1), .val (.int p2), .val (.int n), .val (.int bd), .val (.ref b6), .unset, .unset, .unset, .unset, .unset, .unset] [(.int (n - (1 : Int32))), (.ref b6)])) _
      refine XS.iloadN X6.here hx rfl (hb hby at_29) rfl ?_
      show Steps p.tables e below (T6.setTop (mkF m 30 #[.val (.int p0), .val (.int p1), .val (.int p2), .val (.int n), .val (.int bd), .val (.ref b6), .unset, .unset, .unset, .unset, .unset, .unset] [(.int p2), (.int (n - (1 : Int32))), (.ref b6)])) _
      refine X6.ldcInt hx hown (mvT hZ (hw _ (List.mem_of_getElem? (i := 0) rfl))) (g := (mkF m 30 #[.val (.int p0), .val (.int p1), .val (.int p2), .val (.int n), .val (.int bd), .val (.ref b6), .unset, .unset, .unset, .unset, .unset, .unset] [(.int p2), (.int (n - (1 : Int32))), (.ref b6)])) rfl (hb hby at_30) _ ?_
      show Steps p.tables e below (T6.setTop (mkF m 32 #[.val (.int p0), .val (.int p1), .val (.int p2), .val (.int n), .val (.int bd), .val (.ref b6), .unset, .unset, .unset, .unset, .unset, .unset] [(.int (2147483647 : Int32)), (.int p2), (.int (n - (1 : Int32))), (.ref b6)])) _
      refine XS.iand X6.here hx rfl (hb hby at_32) rfl ?_
      show Steps p.tables e below (T6.setTop (mkF m 33 #[.val (.int p0), .val (.int p1), .val (.int p2), .val (.int n), .val (.int bd), .val (.ref b6), .unset, .unset, .unset, .unset, .unset, .unset] [(.int (p2 &&& (2147483647 : Int32))), (.int (n - (1 : Int32))), (.ref b6)])) _
      refine XS.iload X6.here hx rfl (hb hby at_33) rfl ?_
      show Steps p.tables e below (T6.setTop (mkF m 35 #[.val (.int p0), .val (.int p1), .val (.int p2), .val (.int n), .val (.int bd), .val (.ref b6), .unset, .unset, .unset, .unset, .unset, .unset] [(.int bd), (.int (p2 &&& (2147483647 : Int32))), (.int (n - (1 : Int32))), (.ref b6)])) _
      refine iremM X6 hx rfl (hb hby at_35) rfl hbdz ?_
      exact kt
    obtain ⟨xx, hxx⟩ : ∃ z : Int32, z = ((p2 &&& (2147483647 : Int32)) % bd) := ⟨_, rfl⟩
    have G13 : ∀ t, Steps p.tables e below (T6.setTop (mkF m 36 #[.val (.int p0), .val (.int p1), .val (.int p2), .val (.int n), .val (.int bd), .val (.ref b6), .unset, .unset, .unset, .unset, .unset, .unset] [(.int xx), (.int (n - (1 : Int32))), (.ref b6)])) t → Steps p.tables e below (s₁.setTop (entryFrame m #[(.int p0), (.int p1), (.int p2)] maxLocals)) t := by
      intro t kt
      rw [hxx] at kt
      exact G12 t kt
    have hxr := own_rem p2 bd hbd1
    rw [← hxx] at hxr
    have hx0 := hxr.1
    have hxb := hxr.2
    have hnp : 0 < n.toInt := by have q := hc21_11; rw [Int32.lt_iff_toInt_lt] at q; exact q
    have fa14 : Arv Z h6 b6 k6 .int n ([] ++ List.replicate n.toNatClampNeg (Value.int (0 : Int32))) (.int (0 : Int32)) := fa9.pad (pad_rep [] _ _)
    obtain ⟨cl15, Ar15, q15, S15, M15, H15, G15⟩ := id fa14
    have hin15 : ¬ ((n - (1 : Int32)) < 0 ∨ cl15.slots.size ≤ ((n - (1 : Int32))).toNatClampNeg) := inb_of S15 (own_sub1 hnp)
    obtain ⟨T16, h16, X16, e16, W16, st16⟩ := stI X6 hx hZ e6 Ar15 (j := (n - (1 : Int32))) hin15 (g := (mkF m 36 #[.val (.int p0), .val (.int p1), .val (.int p2), .val (.int n), .val (.int bd), .val (.ref b6), .unset, .unset, .unset, .unset, .unset, .unset] [(.int xx), (.int (n - (1 : Int32))), (.ref b6)])) rfl rfl (hb hby at_36)
    have z17 : n0 ≤ h16.size := Nat.le_trans z7 (Nat.le_of_eq W16.size.symm)
    have kp18 : Keep h0 h16 [] := kp8.wr W16 (Or.inr sz_b6)
    have fa19 : Arv Z h16 b6 k6 .int n (([] ++ List.replicate n.toNatClampNeg (Value.int (0 : Int32))).set (n - (1 : Int32)).toNatClampNeg (.int xx)) (.int (0 : Int32)) := Arv.set Ar15 q15 S15 M15 H15 G15 rfl W16 _ rfl (by rw [List.nil_append, List.length_replicate]; exact own_ixn hnp)
    have N16 := Fr.snoc X16 N3 g_b6
    obtain ⟨T20, h20, X20, e20, E20, A20, D20, -, st20⟩ := newO X16 hx hZ hown (hw _ (List.mem_of_getElem? (i := 6) rfl)) (hw _ (List.mem_of_getElem? (i := 7) rfl)) (hw _ (List.mem_of_getElem? (i := 8) rfl)) e16 (g := (mkF m 37 #[.val (.int p0), .val (.int p1), .val (.int p2), .val (.int n), .val (.int bd), .val (.ref b6), .unset, .unset, .unset, .unset, .unset, .unset] [])) rfl (hb hby at_37) (by decide) (by decide)
    obtain ⟨b20, g20⟩ : ∃ z, z = h16.size := ⟨_, rfl⟩
    rw [← g20] at A20 D20 st20
    have g_b20 : n0 ≤ b20 := Nat.le_trans z17 (Nat.le_of_eq g20.symm)
    have sz_b20 : h0.size ≤ b20 := Nat.le_trans kp18.1 (Nat.le_of_eq g20.symm)
    have ne_b6_b20 : b6 ≠ b20 := Nat.ne_of_lt (Nat.lt_of_lt_of_le fa19.lt (Nat.le_of_eq g20.symm))
    have fa21 : Arv Z h20 b6 k6 .int n (([] ++ List.replicate n.toNatClampNeg (Value.int (0 : Int32))).set (n - (1 : Int32)).toNatClampNeg (.int xx)) (.int (0 : Int32)) := fa19.ext E20
    have z22 : n0 ≤ h20.size := Nat.le_trans z17 E20.1
    have kp23 : Keep h0 h20 [] := kp18.ext E20
    have fa24 : Fld Z h20 b20 "com/example/moffett/moffett/requests/PackedIndexes" "size" "I" (.int (0 : Int32)) := D20 (Or.inr (hw _ (List.mem_of_getElem? (i := 16) rfl))) (ty := .int) (by decide)
    have fa25 : Fld Z h20 b20 "com/example/moffett/moffett/requests/PackedIndexes" "bitsEach" "I" (.int (0 : Int32)) := D20 (Or.inr (hw _ (List.mem_of_getElem? (i := 23) rfl))) (ty := .int) (by decide)
    have fa26 : Fld Z h20 b20 "com/example/moffett/moffett/requests/PackedIndexes" "words" "[J" .null := D20 (Or.inr (hw _ (List.mem_of_getElem? (i := 27) rfl))) (ty := (.array .long)) (by decide)
    have hzv := own_set_lo (n := n) (N := n.toNatClampNeg) (x := .int xx) hnp rfl
    have hlv := own_set_hi (n := n) (N := n.toNatClampNeg) (x := .int xx) hnp rfl
    obtain ⟨_, _, ⟨T27, L27, k27, n27⟩, -, X27, ⟨Lc27, hQ27, l27, y27, z27⟩, st27⟩ := X20.specialBack hx (y := (⟨"com/example/moffett/moffett/requests/PackedIndexes", "<init>", "([II)V"⟩ : MethodName)) rfl hown (mvT hZ (hw _ (List.mem_of_getElem? (i := 9) rfl))) (mvT hZ (hw _ (List.mem_of_getElem? (i := 10) rfl))) (mvT hZ (hw _ (List.mem_of_getElem? (i := 11) rfl))) (by decide) (backOf (W := 1) (rm2 l Z a0 hw [] b20 b6 bd n k6 (([] ++ List.replicate n.toNatClampNeg (Value.int (0 : Int32))).set (n - (1 : Int32)).toNatClampNeg (.int xx)) xx h20 n0 z22 A20 fa24 fa25 fa26 fa21 g_b20 (Ne.symm ne_b6_b20) hnb hzv hlv hx0 hxb hbd1) hZ (hw _ (List.mem_of_getElem? (i := 11) rfl)) (hw _ (List.mem_of_getElem? (i := 8) rfl)) (by decide) (by decide)) (g := (mkF m 45 #[.val (.int p0), .val (.int p1), .val (.int p2), .val (.int n), .val (.int bd), .val (.ref b6), .unset, .unset, .unset, .unset, .unset, .unset] [(.int bd), (.ref b6), (.ref b20), (.ref b20)])) rfl (by rw [hml]; rfl) (Steps.refl _) (a := b20) (argsL := [(.ref b6), (.int bd)]) (rest := [(.ref b20)]) (lenOf pd_2 rfl) rfl (by show 2 * 0 + _ ≤ _; exact Nat.le_of_eq rfl) (hb hby at_45) (fun _ _ => ⟨rfl, e20, (by decide : 2 + 1 ≤ _), (by decide : 18 + 8 ≤ _)⟩)
    dsimp only [Pt.U, Pt.locs, Pt.cells, Pt.slots] at X27 l27 y27 z27 st27 hQ27
    subst l27 y27 z27
    obtain ⟨rfl, N27q, K27, A27, wa, cw, M, Fw27, Aw, Sw, Mw, hMv⟩ := hQ27
    have N27 := Fr.app N16 N27q
    have fa28 : Arv Z T27.heap b6 k6 .int n (([] ++ List.replicate n.toNatClampNeg (Value.int (0 : Int32))).set (n - (1 : Int32)).toNatClampNeg (.int xx)) (.int (0 : Int32)) := fa21.keep K27 (ninS ne_b6_b20 nin0)
    have fa29 : Exa Z T27.heap b20 "com/example/moffett/moffett/requests/PackedIndexes" := A20.keep K27
    have z30 : n0 ≤ T27.heap.size := Nat.le_trans z22 K27.1
    have kp31 : Keep h0 T27.heap [] := kp23.trans K27 (allS (Or.inr sz_b20) all0)
    obtain ⟨_, _, ⟨T32, L32, k32, n32⟩, -, X32, ⟨Lc32, hQ32, l32, y32, z32⟩, st32⟩ := Jvm.LawKit.callS X27 hx (y := (⟨"com/example/moffett/moffett/requests/PackedIndexesHeapBytesPinLaw", "bitsFor", "(I)I"⟩ : MethodName)) hown (mvT hZ (hw _ (List.mem_of_getElem? (i := 28) rfl))) (mvT hZ (hw _ (List.mem_of_getElem? (i := 29) rfl))) (mvT hZ (hw _ (List.mem_of_getElem? (i := 30) rfl))) (mvT hZ (hw _ (List.mem_of_getElem? (i := 31) rfl))) (by decide) (backOf (W := 0) (rm5 l Z a0 hw [] bd  T27.heap n0 z30 ) hZ (hw _ (List.mem_of_getElem? (i := 31) rfl)) (hw _ (List.mem_of_getElem? (i := 30) rfl)) (by decide) (by decide)) (g := (mkF m 52 #[.val (.int p0), .val (.int p1), .val (.int p2), .val (.int n), .val (.int bd), .val (.ref b6), .val (.ref b20), .unset, .unset, .unset, .unset, .unset] [(.int bd)])) rfl (by rw [hml]; rfl) (argsL := [(.int bd)]) (rest := []) (lenOf pd_0 rfl) rfl (by show 2 * 0 + _ ≤ _; exact Nat.le_of_eq rfl) (hb hby at_52) (fun _ _ => ⟨rfl, rfl, (by decide : 3 + 0 ≤ _), (by decide : 26 + 0 ≤ _)⟩)
    dsimp only [Pt.U, Pt.locs, Pt.cells, Pt.slots] at X32 l32 y32 z32 st32 hQ32
    subst l32 y32 z32
    obtain ⟨rfl, N32q, eh32⟩ := hQ32
    have N32 := Fr.app N27 N32q
    have G33 : ∀ t, Steps p.tables e below (T32.setTop (mkF m 73 #[.val (.int p0), .val (.int p1), .val (.int p2), .val (.int n), .val (.int bd), .val (.ref b6), .val (.ref b20), .val (.int (f5 bd)), .val (.int (n * (f5 bd))), .unset, .unset, .unset] [(.int ((n * (f5 bd)) % (64 : Int32))), (.int ((n * (f5 bd)) / (64 : Int32)))])) t → Steps p.tables e below (s₁.setTop (entryFrame m #[(.int p0), (.int p1), (.int p2)] maxLocals)) t := by
      intro t kt
      refine G13 _ ?_
      show Steps p.tables e below (T6.setTop (mkF m 36 #[.val (.int p0), .val (.int p1), .val (.int p2), .val (.int n), .val (.int bd), .val (.ref b6), .unset, .unset, .unset, .unset, .unset, .unset] [(.int xx), (.int (n - (1 : Int32))), (.ref b6)])) _
      refine st16 _ ?_
      show Steps p.tables e below (T16.setTop (mkF m 37 #[.val (.int p0), .val (.int p1), .val (.int p2), .val (.int n), .val (.int bd), .val (.ref b6), .unset, .unset, .unset, .unset, .unset, .unset] [])) _
      refine st20 _ ?_
      show Steps p.tables e below (T20.setTop (mkF m 40 #[.val (.int p0), .val (.int p1), .val (.int p2), .val (.int n), .val (.int bd), .val (.ref b6), .unset, .unset, .unset, .unset, .unset, .unset] [(.ref b20)])) _
      refine XS.dup X20.here hx rfl (hb hby at_40) rfl rfl ?_
      show Steps p.tables e below (T20.setTop (mkF m 41 #[.val (.int p0), .val (.int p1), .val (.int p2), .val (.int n), .val (.int bd), .val (.ref b6), .unset, .unset, .unset, .unset, .unset, .unset] [(.ref b20), (.ref b20)])) _
      refine XS.aload X20.here hx rfl (hb hby at_41) rfl rfl ?_
      show Steps p.tables e below (T20.setTop (mkF m 43 #[.val (.int p0), .val (.int p1), .val (.int p2), .val (.int n), .val (.int bd), .val (.ref b6), .unset, .unset, .unset, .unset, .unset, .unset] [(.ref b6), (.ref b20), (.ref b20)])) _
      refine XS.iload X20.here hx rfl (hb hby at_43) rfl ?_
      show Steps p.tables e below (T20.setTop (mkF m 45 #[.val (.int p0), .val (.int p1), .val (.int p2), .val (.int n), .val (.int bd), .val (.ref b6), .unset, .unset, .unset, .unset, .unset, .unset] [(.int bd), (.ref b6), (.ref b20), (.ref b20)])) _
      refine st27.trans ?_
      show Steps p.tables e below (T27.setTop (mkF m 48 #[.val (.int p0), .val (.int p1), .val (.int p2), .val (.int n), .val (.int bd), .val (.ref b6), .unset, .unset, .unset, .unset, .unset, .unset] [(.ref b20)])) _
      refine XS.astore X27.here hx rfl (hb hby at_48) rfl rfl (l' := #[.val (.int p0), .val (.int p1), .val (.int p2), .val (.int n), .val (.int bd), .val (.ref b6), .val (.ref b20), .unset, .unset, .unset, .unset, .unset]) rfl ?_
      show Steps p.tables e below (T27.setTop (mkF m 50 #[.val (.int p0), .val (.int p1), .val (.int p2), .val (.int n), .val (.int bd), .val (.ref b6), .val (.ref b20), .unset, .unset, .unset, .unset, .unset] [])) _
      refine XS.iload X27.here hx rfl (hb hby at_50) rfl ?_
      show Steps p.tables e below (T27.setTop (mkF m 52 #[.val (.int p0), .val (.int p1), .val (.int p2), .val (.int n), .val (.int bd), .val (.ref b6), .val (.ref b20), .unset, .unset, .unset, .unset, .unset] [(.int bd)])) _
      refine st32 _ ?_
      show Steps p.tables e below (T32.setTop (mkF m 55 #[.val (.int p0), .val (.int p1), .val (.int p2), .val (.int n), .val (.int bd), .val (.ref b6), .val (.ref b20), .unset, .unset, .unset, .unset, .unset] [(.int (f5 bd))])) _
      refine XS.istore X32.here hx rfl (hb hby at_55) rfl (l' := #[.val (.int p0), .val (.int p1), .val (.int p2), .val (.int n), .val (.int bd), .val (.ref b6), .val (.ref b20), .val (.int (f5 bd)), .unset, .unset, .unset, .unset]) rfl ?_
      show Steps p.tables e below (T32.setTop (mkF m 57 #[.val (.int p0), .val (.int p1), .val (.int p2), .val (.int n), .val (.int bd), .val (.ref b6), .val (.ref b20), .val (.int (f5 bd)), .unset, .unset, .unset, .unset] [])) _
      refine XS.iloadN X32.here hx rfl (hb hby at_57) rfl ?_
      show Steps p.tables e below (T32.setTop (mkF m 58 #[.val (.int p0), .val (.int p1), .val (.int p2), .val (.int n), .val (.int bd), .val (.ref b6), .val (.ref b20), .val (.int (f5 bd)), .unset, .unset, .unset, .unset] [(.int n)])) _
      refine XS.iload X32.here hx rfl (hb hby at_58) rfl ?_
      show Steps p.tables e below (T32.setTop (mkF m 60 #[.val (.int p0), .val (.int p1), .val (.int p2), .val (.int n), .val (.int bd), .val (.ref b6), .val (.ref b20), .val (.int (f5 bd)), .unset, .unset, .unset, .unset] [(.int (f5 bd)), (.int n)])) _
      refine XS.imul X32.here hx rfl (hb hby at_60) rfl ?_
      show Steps p.tables e below (T32.setTop (mkF m 61 #[.val (.int p0), .val (.int p1), .val (.int p2), .val (.int n), .val (.int bd), .val (.ref b6), .val (.ref b20), .val (.int (f5 bd)), .unset, .unset, .unset, .unset] [(.int (n * (f5 bd)))])) _
      refine XS.istore X32.here hx rfl (hb hby at_61) rfl (l' := #[.val (.int p0), .val (.int p1), .val (.int p2), .val (.int n), .val (.int bd), .val (.ref b6), .val (.ref b20), .val (.int (f5 bd)), .val (.int (n * (f5 bd))), .unset, .unset, .unset]) rfl ?_
      show Steps p.tables e below (T32.setTop (mkF m 63 #[.val (.int p0), .val (.int p1), .val (.int p2), .val (.int n), .val (.int bd), .val (.ref b6), .val (.ref b20), .val (.int (f5 bd)), .val (.int (n * (f5 bd))), .unset, .unset, .unset] [])) _
      refine XS.iload X32.here hx rfl (hb hby at_63) rfl ?_
      show Steps p.tables e below (T32.setTop (mkF m 65 #[.val (.int p0), .val (.int p1), .val (.int p2), .val (.int n), .val (.int bd), .val (.ref b6), .val (.ref b20), .val (.int (f5 bd)), .val (.int (n * (f5 bd))), .unset, .unset, .unset] [(.int (n * (f5 bd)))])) _
      refine XS.bipush X32.here hx rfl (hb hby at_65) ?_
      show Steps p.tables e below (T32.setTop (mkF m 67 #[.val (.int p0), .val (.int p1), .val (.int p2), .val (.int n), .val (.int bd), .val (.ref b6), .val (.ref b20), .val (.int (f5 bd)), .val (.int (n * (f5 bd))), .unset, .unset, .unset] [(.int (64 : Int32)), (.int (n * (f5 bd)))])) _
      refine XS.idiv X32.here hx rfl (hb hby at_67) rfl (by decide) ?_
      show Steps p.tables e below (T32.setTop (mkF m 68 #[.val (.int p0), .val (.int p1), .val (.int p2), .val (.int n), .val (.int bd), .val (.ref b6), .val (.ref b20), .val (.int (f5 bd)), .val (.int (n * (f5 bd))), .unset, .unset, .unset] [(.int ((n * (f5 bd)) / (64 : Int32)))])) _
      refine XS.iload X32.here hx rfl (hb hby at_68) rfl ?_
      show Steps p.tables e below (T32.setTop (mkF m 70 #[.val (.int p0), .val (.int p1), .val (.int p2), .val (.int n), .val (.int bd), .val (.ref b6), .val (.ref b20), .val (.int (f5 bd)), .val (.int (n * (f5 bd))), .unset, .unset, .unset] [(.int (n * (f5 bd))), (.int ((n * (f5 bd)) / (64 : Int32)))])) _
      refine XS.bipush X32.here hx rfl (hb hby at_70) ?_
      show Steps p.tables e below (T32.setTop (mkF m 72 #[.val (.int p0), .val (.int p1), .val (.int p2), .val (.int n), .val (.int bd), .val (.ref b6), .val (.ref b20), .val (.int (f5 bd)), .val (.int (n * (f5 bd))), .unset, .unset, .unset] [(.int (64 : Int32)), (.int (n * (f5 bd))), (.int ((n * (f5 bd)) / (64 : Int32)))])) _
      refine iremM X32 hx rfl (hb hby at_72) rfl (by decide) ?_
      exact kt
    obtain ⟨j34, hj34⟩ : ∃ z : Int32, z = (if ((n * (f5 bd)) % (64 : Int32)) = (0 : Int32) then (0 : Int32) else (1 : Int32)) := ⟨_, rfl⟩
    have G35 : ∀ t, Steps p.tables e below (T32.setTop (mkF m 81 #[.val (.int p0), .val (.int p1), .val (.int p2), .val (.int n), .val (.int bd), .val (.ref b6), .val (.ref b20), .val (.int (f5 bd)), .val (.int (n * (f5 bd))), .unset, .unset, .unset] [(.int j34), (.int ((n * (f5 bd)) / (64 : Int32)))])) t → Steps p.tables e below (s₁.setTop (entryFrame m #[(.int p0), (.int p1), (.int p2)] maxLocals)) t := by
      intro t kt
      by_cases hc73_36 : ((n * (f5 bd)) % (64 : Int32)) = (0 : Int32)
      · skip
        rw [show j34 = (0 : Int32) from by rw [hj34, if_pos hc73_36]] at kt
        refine G33 _ ?_
        show Steps p.tables e below (T32.setTop (mkF m 73 #[.val (.int p0), .val (.int p1), .val (.int p2), .val (.int n), .val (.int bd), .val (.ref b6), .val (.ref b20), .val (.int (f5 bd)), .val (.int (n * (f5 bd))), .unset, .unset, .unset] [(.int ((n * (f5 bd)) % (64 : Int32))), (.int ((n * (f5 bd)) / (64 : Int32)))])) _
        refine XS.ifYes X32.here hx rfl (pc0 := 73) (pc' := 80) rfl (hb hby at_73) rfl ((if0 _ _).trans (teq hc73_36).1) (by decide) (by decide) ?_
        show Steps p.tables e below (T32.setTop (mkF m 80 #[.val (.int p0), .val (.int p1), .val (.int p2), .val (.int n), .val (.int bd), .val (.ref b6), .val (.ref b20), .val (.int (f5 bd)), .val (.int (n * (f5 bd))), .unset, .unset, .unset] [(.int ((n * (f5 bd)) / (64 : Int32)))])) _
        refine XS.iconst X32.here hx rfl (hb hby at_80) ?_
        exact kt
      · skip
        rw [show j34 = (1 : Int32) from by rw [hj34, if_neg hc73_36]] at kt
        refine G33 _ ?_
        show Steps p.tables e below (T32.setTop (mkF m 73 #[.val (.int p0), .val (.int p1), .val (.int p2), .val (.int n), .val (.int bd), .val (.ref b6), .val (.ref b20), .val (.int (f5 bd)), .val (.int (n * (f5 bd))), .unset, .unset, .unset] [(.int ((n * (f5 bd)) % (64 : Int32))), (.int ((n * (f5 bd)) / (64 : Int32)))])) _
        refine XS.ifNo X32.here hx rfl (hb hby at_73) rfl ((if0 _ _).trans (feq hc73_36).1) ?_
        show Steps p.tables e below (T32.setTop (mkF m 76 #[.val (.int p0), .val (.int p1), .val (.int p2), .val (.int n), .val (.int bd), .val (.ref b6), .val (.ref b20), .val (.int (f5 bd)), .val (.int (n * (f5 bd))), .unset, .unset, .unset] [(.int ((n * (f5 bd)) / (64 : Int32)))])) _
        refine XS.iconst X32.here hx rfl (hb hby at_76) ?_
        show Steps p.tables e below (T32.setTop (mkF m 77 #[.val (.int p0), .val (.int p1), .val (.int p2), .val (.int n), .val (.int bd), .val (.ref b6), .val (.ref b20), .val (.int (f5 bd)), .val (.int (n * (f5 bd))), .unset, .unset, .unset] [(.int (1 : Int32)), (.int ((n * (f5 bd)) / (64 : Int32)))])) _
        refine XS.goto X32.here hx rfl (pc0 := 77) (pc' := 81) rfl (hb hby at_77) (by decide) (by decide) ?_
        exact kt
    obtain ⟨cq37, kq37, q37a, q37b, q37c⟩ := isOf hZ eh32 fa29
    obtain ⟨_, _, ⟨T37, L37, k37, n37⟩, -, X37, ⟨Lc37, hQ37, l37, y37, z37⟩, st37⟩ := X32.virtualBack hx (y := (⟨"com/example/moffett/moffett/requests/PackedIndexes", "heapBytes", "()J"⟩ : MethodName)) (z := (⟨"com/example/moffett/moffett/requests/PackedIndexes", "heapBytes", "()J"⟩ : MethodName)) hown (mvT hZ (hw _ (List.mem_of_getElem? (i := 35) rfl))) (mvT hZ (hw _ (List.mem_of_getElem? (i := 36) rfl))) (notFace_of_selects (args := #[]) (mvT hZ (hw _ (List.mem_of_getElem? (i := 38) rfl)))) (mvT hZ (hw _ (List.mem_of_getElem? (i := 38) rfl))) (mvT hZ (hw _ (List.mem_of_getElem? (i := 37) rfl))) (by decide) (backOf (W := 0) (rm6 l Z a0 hw [] b20 wa cw M T27.heap n0 z30 Fw27 Aw Sw Mw) hZ (hw _ (List.mem_of_getElem? (i := 39) rfl)) (hw _ (List.mem_of_getElem? (i := 8) rfl)) (by decide) (by decide)) q37a q37c (g := (mkF m 99 #[.val (.int p0), .val (.int p1), .val (.int p2), .val (.int n), .val (.int bd), .val (.ref b6), .val (.ref b20), .val (.int (f5 bd)), .val (.int (n * (f5 bd))), .val (.int (((n * (f5 bd)) / (64 : Int32)) + j34)), .val (.long ((16 : Int64) + ((8 : Int64) * ((((n * (f5 bd)) / (64 : Int32)) + j34).toInt64)))), .second] [(.ref b20)])) rfl (by rw [hml]; rfl) (Steps.refl _) (argsL := []) (rest := []) (lenOf pd_3 rfl) rfl (by show 2 * 0 + _ ≤ _; exact Nat.le_of_eq rfl) (hb hby at_99) (fun _ _ => ⟨rfl, eh32, (by decide : 3 + 0 ≤ _), (by decide : 26 + 0 ≤ _)⟩)
    dsimp only [Pt.U, Pt.locs, Pt.cells, Pt.slots] at X37 l37 y37 z37 st37 hQ37
    subst l37 y37 z37
    obtain ⟨rfl, N37q, eh37⟩ := hQ37
    have N37 := Fr.app N32 N37q
    have G38 : ∀ t, Steps p.tables e below (T37.setTop (mkF m 105 #[.val (.int p0), .val (.int p1), .val (.int p2), .val (.int n), .val (.int bd), .val (.ref b6), .val (.ref b20), .val (.int (f5 bd)), .val (.int (n * (f5 bd))), .val (.int (((n * (f5 bd)) / (64 : Int32)) + j34)), .val (.long ((16 : Int64) + ((8 : Int64) * ((((n * (f5 bd)) / (64 : Int32)) + j34).toInt64)))), .second] [(.int (lcmpW ((16 : Int64) + ((8 : Int64) * (M.toInt64))) ((16 : Int64) + ((8 : Int64) * ((((n * (f5 bd)) / (64 : Int32)) + j34).toInt64)))))])) t → Steps p.tables e below (s₁.setTop (entryFrame m #[(.int p0), (.int p1), (.int p2)] maxLocals)) t := by
      intro t kt
      refine G35 _ ?_
      show Steps p.tables e below (T32.setTop (mkF m 81 #[.val (.int p0), .val (.int p1), .val (.int p2), .val (.int n), .val (.int bd), .val (.ref b6), .val (.ref b20), .val (.int (f5 bd)), .val (.int (n * (f5 bd))), .unset, .unset, .unset] [(.int j34), (.int ((n * (f5 bd)) / (64 : Int32)))])) _
      refine XS.iadd X32.here hx rfl (hb hby at_81) rfl ?_
      show Steps p.tables e below (T32.setTop (mkF m 82 #[.val (.int p0), .val (.int p1), .val (.int p2), .val (.int n), .val (.int bd), .val (.ref b6), .val (.ref b20), .val (.int (f5 bd)), .val (.int (n * (f5 bd))), .unset, .unset, .unset] [(.int (((n * (f5 bd)) / (64 : Int32)) + j34))])) _
      refine XS.istore X32.here hx rfl (hb hby at_82) rfl (l' := #[.val (.int p0), .val (.int p1), .val (.int p2), .val (.int n), .val (.int bd), .val (.ref b6), .val (.ref b20), .val (.int (f5 bd)), .val (.int (n * (f5 bd))), .val (.int (((n * (f5 bd)) / (64 : Int32)) + j34)), .unset, .unset]) rfl ?_
      show Steps p.tables e below (T32.setTop (mkF m 84 #[.val (.int p0), .val (.int p1), .val (.int p2), .val (.int n), .val (.int bd), .val (.ref b6), .val (.ref b20), .val (.int (f5 bd)), .val (.int (n * (f5 bd))), .val (.int (((n * (f5 bd)) / (64 : Int32)) + j34)), .unset, .unset] [])) _
      refine X32.ldc2Long hx hown (mvT hZ (hw _ (List.mem_of_getElem? (i := 33) rfl))) (g := (mkF m 84 #[.val (.int p0), .val (.int p1), .val (.int p2), .val (.int n), .val (.int bd), .val (.ref b6), .val (.ref b20), .val (.int (f5 bd)), .val (.int (n * (f5 bd))), .val (.int (((n * (f5 bd)) / (64 : Int32)) + j34)), .unset, .unset] [])) rfl (hb hby at_84) _ ?_
      show Steps p.tables e below (T32.setTop (mkF m 87 #[.val (.int p0), .val (.int p1), .val (.int p2), .val (.int n), .val (.int bd), .val (.ref b6), .val (.ref b20), .val (.int (f5 bd)), .val (.int (n * (f5 bd))), .val (.int (((n * (f5 bd)) / (64 : Int32)) + j34)), .unset, .unset] [(.long (16 : Int64))])) _
      refine X32.ldc2Long hx hown (mvT hZ (hw _ (List.mem_of_getElem? (i := 34) rfl))) (g := (mkF m 87 #[.val (.int p0), .val (.int p1), .val (.int p2), .val (.int n), .val (.int bd), .val (.ref b6), .val (.ref b20), .val (.int (f5 bd)), .val (.int (n * (f5 bd))), .val (.int (((n * (f5 bd)) / (64 : Int32)) + j34)), .unset, .unset] [(.long (16 : Int64))])) rfl (hb hby at_87) _ ?_
      show Steps p.tables e below (T32.setTop (mkF m 90 #[.val (.int p0), .val (.int p1), .val (.int p2), .val (.int n), .val (.int bd), .val (.ref b6), .val (.ref b20), .val (.int (f5 bd)), .val (.int (n * (f5 bd))), .val (.int (((n * (f5 bd)) / (64 : Int32)) + j34)), .unset, .unset] [(.long (8 : Int64)), (.long (16 : Int64))])) _
      refine XS.iload X32.here hx rfl (hb hby at_90) rfl ?_
      show Steps p.tables e below (T32.setTop (mkF m 92 #[.val (.int p0), .val (.int p1), .val (.int p2), .val (.int n), .val (.int bd), .val (.ref b6), .val (.ref b20), .val (.int (f5 bd)), .val (.int (n * (f5 bd))), .val (.int (((n * (f5 bd)) / (64 : Int32)) + j34)), .unset, .unset] [(.int (((n * (f5 bd)) / (64 : Int32)) + j34)), (.long (8 : Int64)), (.long (16 : Int64))])) _
      refine XS.i2l X32.here hx rfl (hb hby at_92) rfl ?_
      show Steps p.tables e below (T32.setTop (mkF m 93 #[.val (.int p0), .val (.int p1), .val (.int p2), .val (.int n), .val (.int bd), .val (.ref b6), .val (.ref b20), .val (.int (f5 bd)), .val (.int (n * (f5 bd))), .val (.int (((n * (f5 bd)) / (64 : Int32)) + j34)), .unset, .unset] [(.long ((((n * (f5 bd)) / (64 : Int32)) + j34).toInt64)), (.long (8 : Int64)), (.long (16 : Int64))])) _
      refine XS.lmul X32.here hx rfl (hb hby at_93) rfl ?_
      show Steps p.tables e below (T32.setTop (mkF m 94 #[.val (.int p0), .val (.int p1), .val (.int p2), .val (.int n), .val (.int bd), .val (.ref b6), .val (.ref b20), .val (.int (f5 bd)), .val (.int (n * (f5 bd))), .val (.int (((n * (f5 bd)) / (64 : Int32)) + j34)), .unset, .unset] [(.long ((8 : Int64) * ((((n * (f5 bd)) / (64 : Int32)) + j34).toInt64))), (.long (16 : Int64))])) _
      refine XS.ladd X32.here hx rfl (hb hby at_94) rfl ?_
      show Steps p.tables e below (T32.setTop (mkF m 95 #[.val (.int p0), .val (.int p1), .val (.int p2), .val (.int n), .val (.int bd), .val (.ref b6), .val (.ref b20), .val (.int (f5 bd)), .val (.int (n * (f5 bd))), .val (.int (((n * (f5 bd)) / (64 : Int32)) + j34)), .unset, .unset] [(.long ((16 : Int64) + ((8 : Int64) * ((((n * (f5 bd)) / (64 : Int32)) + j34).toInt64))))])) _
      refine XS.lstore X32.here hx rfl (hb hby at_95) rfl (l' := #[.val (.int p0), .val (.int p1), .val (.int p2), .val (.int n), .val (.int bd), .val (.ref b6), .val (.ref b20), .val (.int (f5 bd)), .val (.int (n * (f5 bd))), .val (.int (((n * (f5 bd)) / (64 : Int32)) + j34)), .val (.long ((16 : Int64) + ((8 : Int64) * ((((n * (f5 bd)) / (64 : Int32)) + j34).toInt64)))), .second]) rfl ?_
      show Steps p.tables e below (T32.setTop (mkF m 97 #[.val (.int p0), .val (.int p1), .val (.int p2), .val (.int n), .val (.int bd), .val (.ref b6), .val (.ref b20), .val (.int (f5 bd)), .val (.int (n * (f5 bd))), .val (.int (((n * (f5 bd)) / (64 : Int32)) + j34)), .val (.long ((16 : Int64) + ((8 : Int64) * ((((n * (f5 bd)) / (64 : Int32)) + j34).toInt64)))), .second] [])) _
      refine XS.aload X32.here hx rfl (hb hby at_97) rfl rfl ?_
      show Steps p.tables e below (T32.setTop (mkF m 99 #[.val (.int p0), .val (.int p1), .val (.int p2), .val (.int n), .val (.int bd), .val (.ref b6), .val (.ref b20), .val (.int (f5 bd)), .val (.int (n * (f5 bd))), .val (.int (((n * (f5 bd)) / (64 : Int32)) + j34)), .val (.long ((16 : Int64) + ((8 : Int64) * ((((n * (f5 bd)) / (64 : Int32)) + j34).toInt64)))), .second] [(.ref b20)])) _
      refine st37.trans ?_
      show Steps p.tables e below (T37.setTop (mkF m 102 #[.val (.int p0), .val (.int p1), .val (.int p2), .val (.int n), .val (.int bd), .val (.ref b6), .val (.ref b20), .val (.int (f5 bd)), .val (.int (n * (f5 bd))), .val (.int (((n * (f5 bd)) / (64 : Int32)) + j34)), .val (.long ((16 : Int64) + ((8 : Int64) * ((((n * (f5 bd)) / (64 : Int32)) + j34).toInt64)))), .second] [(.long ((16 : Int64) + ((8 : Int64) * (M.toInt64))))])) _
      refine XS.lload X37.here hx rfl (hb hby at_102) rfl ?_
      show Steps p.tables e below (T37.setTop (mkF m 104 #[.val (.int p0), .val (.int p1), .val (.int p2), .val (.int n), .val (.int bd), .val (.ref b6), .val (.ref b20), .val (.int (f5 bd)), .val (.int (n * (f5 bd))), .val (.int (((n * (f5 bd)) / (64 : Int32)) + j34)), .val (.long ((16 : Int64) + ((8 : Int64) * ((((n * (f5 bd)) / (64 : Int32)) + j34).toInt64)))), .second] [(.long ((16 : Int64) + ((8 : Int64) * ((((n * (f5 bd)) / (64 : Int32)) + j34).toInt64)))), (.long ((16 : Int64) + ((8 : Int64) * (M.toInt64))))])) _
      refine XS.lcmp X37.here hx rfl (hb hby at_104) rfl ?_
      exact kt
    have hc105_39 : ((16 : Int64) + ((8 : Int64) * (M.toInt64))) = ((16 : Int64) + ((8 : Int64) * ((((n * (f5 bd)) / (64 : Int32)) + j34).toInt64))) := by rw [own_fin n (f5 bd) M j34 hnb ⟨(own_b31 bd hbd1).1, (own_b31 bd hbd1).2.1⟩ hMv hj34]
    obtain ⟨fs, hr, hrun, hended, hW, hsame⟩ := X37.leave (v := some (.int (1 : Int32))) (fun h => by rw [Bd.returns] at h; cases h)
    refine ⟨_, _, G38 _ ?_, hrun, hended, _, _, rfl, ?_, ⟨_, rfl⟩, hW, hsame.mono (by decide) (by decide)⟩
    · skip
      show Steps p.tables e below (T37.setTop (mkF m 105 #[.val (.int p0), .val (.int p1), .val (.int p2), .val (.int n), .val (.int bd), .val (.ref b6), .val (.ref b20), .val (.int (f5 bd)), .val (.int (n * (f5 bd))), .val (.int (((n * (f5 bd)) / (64 : Int32)) + j34)), .val (.long ((16 : Int64) + ((8 : Int64) * ((((n * (f5 bd)) / (64 : Int32)) + j34).toInt64)))), .second] [(.int (lcmpW ((16 : Int64) + ((8 : Int64) * (M.toInt64))) ((16 : Int64) + ((8 : Int64) * ((((n * (f5 bd)) / (64 : Int32)) + j34).toInt64)))))])) _
      refine XS.ifNo X37.here hx rfl (hb hby at_105) rfl ((if0 _ _).trans (teq ((lw_eq _ _).mpr hc105_39)).2) ?_
      show Steps p.tables e below (T37.setTop (mkF m 108 #[.val (.int p0), .val (.int p1), .val (.int p2), .val (.int n), .val (.int bd), .val (.ref b6), .val (.ref b20), .val (.int (f5 bd)), .val (.int (n * (f5 bd))), .val (.int (((n * (f5 bd)) / (64 : Int32)) + j34)), .val (.long ((16 : Int64) + ((8 : Int64) * ((((n * (f5 bd)) / (64 : Int32)) + j34).toInt64)))), .second] [])) _
      refine XS.iconst X37.here hx rfl (hb hby at_108) ?_
      show Steps p.tables e below (T37.setTop (mkF m 109 #[.val (.int p0), .val (.int p1), .val (.int p2), .val (.int n), .val (.int bd), .val (.ref b6), .val (.ref b20), .val (.int (f5 bd)), .val (.int (n * (f5 bd))), .val (.int (((n * (f5 bd)) / (64 : Int32)) + j34)), .val (.long ((16 : Int64) + ((8 : Int64) * ((((n * (f5 bd)) / (64 : Int32)) + j34).toInt64)))), .second] [(.int (1 : Int32))])) _
      refine XS.goto X37.here hx rfl (pc0 := 109) (pc' := 113) rfl (hb hby at_109) (by decide) (by decide) ?_
      show Steps p.tables e below (T37.setTop (mkF m 113 #[.val (.int p0), .val (.int p1), .val (.int p2), .val (.int n), .val (.int bd), .val (.ref b6), .val (.ref b20), .val (.int (f5 bd)), .val (.int (n * (f5 bd))), .val (.int (((n * (f5 bd)) / (64 : Int32)) + j34)), .val (.long ((16 : Int64) + ((8 : Int64) * ((((n * (f5 bd)) / (64 : Int32)) + j34).toInt64)))), .second] [(.int (1 : Int32))])) _
      exact retN X37 hx (t := .boolean) Bd.returns (by simp) (hb hby at_113) hr
    · show Q0 Z p0 p1 p2 h0 n0 _ T37.heap _
      rw [eh37]
      exact ⟨rfl, N37⟩
  · skip
    obtain ⟨T40, h40, X40, e40, E40, A40, D40, -, st40⟩ := newO X6 hx hZ hown (hw _ (List.mem_of_getElem? (i := 6) rfl)) (hw _ (List.mem_of_getElem? (i := 7) rfl)) (hw _ (List.mem_of_getElem? (i := 8) rfl)) e6 (g := (mkF m 37 #[.val (.int p0), .val (.int p1), .val (.int p2), .val (.int n), .val (.int bd), .val (.ref b6), .unset, .unset, .unset, .unset, .unset, .unset] [])) rfl (hb hby at_37) (by decide) (by decide)
    obtain ⟨b40, g40⟩ : ∃ z, z = h6.size := ⟨_, rfl⟩
    rw [← g40] at A40 D40 st40
    have g_b40 : n0 ≤ b40 := Nat.le_trans z7 (Nat.le_of_eq g40.symm)
    have sz_b40 : h0.size ≤ b40 := Nat.le_trans kp8.1 (Nat.le_of_eq g40.symm)
    have ne_b6_b40 : b6 ≠ b40 := Nat.ne_of_lt (Nat.lt_of_lt_of_le fa9.lt (Nat.le_of_eq g40.symm))
    have fa41 : Arv Z h40 b6 k6 .int n [] (.int (0 : Int32)) := fa9.ext E40
    have z42 : n0 ≤ h40.size := Nat.le_trans z7 E40.1
    have kp43 : Keep h0 h40 [] := kp8.ext E40
    have fa44 : Fld Z h40 b40 "com/example/moffett/moffett/requests/PackedIndexes" "size" "I" (.int (0 : Int32)) := D40 (Or.inr (hw _ (List.mem_of_getElem? (i := 16) rfl))) (ty := .int) (by decide)
    have fa45 : Fld Z h40 b40 "com/example/moffett/moffett/requests/PackedIndexes" "bitsEach" "I" (.int (0 : Int32)) := D40 (Or.inr (hw _ (List.mem_of_getElem? (i := 23) rfl))) (ty := .int) (by decide)
    have fa46 : Fld Z h40 b40 "com/example/moffett/moffett/requests/PackedIndexes" "words" "[J" .null := D40 (Or.inr (hw _ (List.mem_of_getElem? (i := 27) rfl))) (ty := (.array .long)) (by decide)
    have hnz : n.toInt = 0 := by have q := hc21_11; rw [Int32.lt_iff_toInt_lt] at q; have e0 : (0 : Int32).toInt = 0 := (by decide); rw [e0] at q; omega
    have hzv : ∀ k : Nat, (k : Int) + 1 < n.toInt → ([] : List Value).getD k (.int (0 : Int32)) = .int (0 : Int32) := fun k q => by omega
    have hlv : ∀ k : Nat, (k : Int) + 1 = n.toInt → ([] : List Value).getD k (.int (0 : Int32)) = .int (0 : Int32) := fun k q => by omega
    have hx0 : ¬ ((0 : Int32) < (0 : Int32)) := by decide
    have hxb : (0 : Int32) < bd := by rw [Int32.lt_iff_toInt_lt]; show 0 < bd.toInt; omega
    obtain ⟨_, _, ⟨T47, L47, k47, n47⟩, -, X47, ⟨Lc47, hQ47, l47, y47, z47⟩, st47⟩ := X40.specialBack hx (y := (⟨"com/example/moffett/moffett/requests/PackedIndexes", "<init>", "([II)V"⟩ : MethodName)) rfl hown (mvT hZ (hw _ (List.mem_of_getElem? (i := 9) rfl))) (mvT hZ (hw _ (List.mem_of_getElem? (i := 10) rfl))) (mvT hZ (hw _ (List.mem_of_getElem? (i := 11) rfl))) (by decide) (backOf (W := 1) (rm2 l Z a0 hw [] b40 b6 bd n k6 [] (0 : Int32) h40 n0 z42 A40 fa44 fa45 fa46 fa41 g_b40 (Ne.symm ne_b6_b40) hnb hzv hlv hx0 hxb hbd1) hZ (hw _ (List.mem_of_getElem? (i := 11) rfl)) (hw _ (List.mem_of_getElem? (i := 8) rfl)) (by decide) (by decide)) (g := (mkF m 45 #[.val (.int p0), .val (.int p1), .val (.int p2), .val (.int n), .val (.int bd), .val (.ref b6), .unset, .unset, .unset, .unset, .unset, .unset] [(.int bd), (.ref b6), (.ref b40), (.ref b40)])) rfl (by rw [hml]; rfl) (Steps.refl _) (a := b40) (argsL := [(.ref b6), (.int bd)]) (rest := [(.ref b40)]) (lenOf pd_2 rfl) rfl (by show 2 * 0 + _ ≤ _; exact Nat.le_of_eq rfl) (hb hby at_45) (fun _ _ => ⟨rfl, e40, (by decide : 2 + 1 ≤ _), (by decide : 18 + 8 ≤ _)⟩)
    dsimp only [Pt.U, Pt.locs, Pt.cells, Pt.slots] at X47 l47 y47 z47 st47 hQ47
    subst l47 y47 z47
    obtain ⟨rfl, N47q, K47, A47, wa, cw, M, Fw47, Aw, Sw, Mw, hMv⟩ := hQ47
    have N47 := Fr.app N3 N47q
    have fa48 : Arv Z T47.heap b6 k6 .int n [] (.int (0 : Int32)) := fa41.keep K47 (ninS ne_b6_b40 nin0)
    have fa49 : Exa Z T47.heap b40 "com/example/moffett/moffett/requests/PackedIndexes" := A40.keep K47
    have z50 : n0 ≤ T47.heap.size := Nat.le_trans z42 K47.1
    have kp51 : Keep h0 T47.heap [] := kp43.trans K47 (allS (Or.inr sz_b40) all0)
    obtain ⟨_, _, ⟨T52, L52, k52, n52⟩, -, X52, ⟨Lc52, hQ52, l52, y52, z52⟩, st52⟩ := Jvm.LawKit.callS X47 hx (y := (⟨"com/example/moffett/moffett/requests/PackedIndexesHeapBytesPinLaw", "bitsFor", "(I)I"⟩ : MethodName)) hown (mvT hZ (hw _ (List.mem_of_getElem? (i := 28) rfl))) (mvT hZ (hw _ (List.mem_of_getElem? (i := 29) rfl))) (mvT hZ (hw _ (List.mem_of_getElem? (i := 30) rfl))) (mvT hZ (hw _ (List.mem_of_getElem? (i := 31) rfl))) (by decide) (backOf (W := 0) (rm5 l Z a0 hw [] bd  T47.heap n0 z50 ) hZ (hw _ (List.mem_of_getElem? (i := 31) rfl)) (hw _ (List.mem_of_getElem? (i := 30) rfl)) (by decide) (by decide)) (g := (mkF m 52 #[.val (.int p0), .val (.int p1), .val (.int p2), .val (.int n), .val (.int bd), .val (.ref b6), .val (.ref b40), .unset, .unset, .unset, .unset, .unset] [(.int bd)])) rfl (by rw [hml]; rfl) (argsL := [(.int bd)]) (rest := []) (lenOf pd_0 rfl) rfl (by show 2 * 0 + _ ≤ _; exact Nat.le_of_eq rfl) (hb hby at_52) (fun _ _ => ⟨rfl, rfl, (by decide : 3 + 0 ≤ _), (by decide : 26 + 0 ≤ _)⟩)
    dsimp only [Pt.U, Pt.locs, Pt.cells, Pt.slots] at X52 l52 y52 z52 st52 hQ52
    subst l52 y52 z52
    obtain ⟨rfl, N52q, eh52⟩ := hQ52
    have N52 := Fr.app N47 N52q
    have G53 : ∀ t, Steps p.tables e below (T52.setTop (mkF m 73 #[.val (.int p0), .val (.int p1), .val (.int p2), .val (.int n), .val (.int bd), .val (.ref b6), .val (.ref b40), .val (.int (f5 bd)), .val (.int (n * (f5 bd))), .unset, .unset, .unset] [(.int ((n * (f5 bd)) % (64 : Int32))), (.int ((n * (f5 bd)) / (64 : Int32)))])) t → Steps p.tables e below (s₁.setTop (entryFrame m #[(.int p0), (.int p1), (.int p2)] maxLocals)) t := by
      intro t kt
      refine G10 _ ?_
      show Steps p.tables e below (T6.setTop (mkF m 21 #[.val (.int p0), .val (.int p1), .val (.int p2), .val (.int n), .val (.int bd), .val (.ref b6), .unset, .unset, .unset, .unset, .unset, .unset] [(.int n)])) _
      refine XS.ifYes X6.here hx rfl (pc0 := 21) (pc' := 37) rfl (hb hby at_21) rfl ((if0 _ _).trans (flt hc21_11).2.2.2) (by decide) (by decide) ?_
      show Steps p.tables e below (T6.setTop (mkF m 37 #[.val (.int p0), .val (.int p1), .val (.int p2), .val (.int n), .val (.int bd), .val (.ref b6), .unset, .unset, .unset, .unset, .unset, .unset] [])) _
      refine st40 _ ?_
      show Steps p.tables e below (T40.setTop (mkF m 40 #[.val (.int p0), .val (.int p1), .val (.int p2), .val (.int n), .val (.int bd), .val (.ref b6), .unset, .unset, .unset, .unset, .unset, .unset] [(.ref b40)])) _
      refine XS.dup X40.here hx rfl (hb hby at_40) rfl rfl ?_
      show Steps p.tables e below (T40.setTop (mkF m 41 #[.val (.int p0), .val (.int p1), .val (.int p2), .val (.int n), .val (.int bd), .val (.ref b6), .unset, .unset, .unset, .unset, .unset, .unset] [(.ref b40), (.ref b40)])) _
      refine XS.aload X40.here hx rfl (hb hby at_41) rfl rfl ?_
      show Steps p.tables e below (T40.setTop (mkF m 43 #[.val (.int p0), .val (.int p1), .val (.int p2), .val (.int n), .val (.int bd), .val (.ref b6), .unset, .unset, .unset, .unset, .unset, .unset] [(.ref b6), (.ref b40), (.ref b40)])) _
      refine XS.iload X40.here hx rfl (hb hby at_43) rfl ?_
      show Steps p.tables e below (T40.setTop (mkF m 45 #[.val (.int p0), .val (.int p1), .val (.int p2), .val (.int n), .val (.int bd), .val (.ref b6), .unset, .unset, .unset, .unset, .unset, .unset] [(.int bd), (.ref b6), (.ref b40), (.ref b40)])) _
      refine st47.trans ?_
      show Steps p.tables e below (T47.setTop (mkF m 48 #[.val (.int p0), .val (.int p1), .val (.int p2), .val (.int n), .val (.int bd), .val (.ref b6), .unset, .unset, .unset, .unset, .unset, .unset] [(.ref b40)])) _
      refine XS.astore X47.here hx rfl (hb hby at_48) rfl rfl (l' := #[.val (.int p0), .val (.int p1), .val (.int p2), .val (.int n), .val (.int bd), .val (.ref b6), .val (.ref b40), .unset, .unset, .unset, .unset, .unset]) rfl ?_
      show Steps p.tables e below (T47.setTop (mkF m 50 #[.val (.int p0), .val (.int p1), .val (.int p2), .val (.int n), .val (.int bd), .val (.ref b6), .val (.ref b40), .unset, .unset, .unset, .unset, .unset] [])) _
      refine XS.iload X47.here hx rfl (hb hby at_50) rfl ?_
      show Steps p.tables e below (T47.setTop (mkF m 52 #[.val (.int p0), .val (.int p1), .val (.int p2), .val (.int n), .val (.int bd), .val (.ref b6), .val (.ref b40), .unset, .unset, .unset, .unset, .unset] [(.int bd)])) _
      refine st52 _ ?_
      show Steps p.tables e below (T52.setTop (mkF m 55 #[.val (.int p0), .val (.int p1), .val (.int p2), .val (.int n), .val (.int bd), .val (.ref b6), .val (.ref b40), .unset, .unset, .unset, .unset, .unset] [(.int (f5 bd))])) _
      refine XS.istore X52.here hx rfl (hb hby at_55) rfl (l' := #[.val (.int p0), .val (.int p1), .val (.int p2), .val (.int n), .val (.int bd), .val (.ref b6), .val (.ref b40), .val (.int (f5 bd)), .unset, .unset, .unset, .unset]) rfl ?_
      show Steps p.tables e below (T52.setTop (mkF m 57 #[.val (.int p0), .val (.int p1), .val (.int p2), .val (.int n), .val (.int bd), .val (.ref b6), .val (.ref b40), .val (.int (f5 bd)), .unset, .unset, .unset, .unset] [])) _
      refine XS.iloadN X52.here hx rfl (hb hby at_57) rfl ?_
      show Steps p.tables e below (T52.setTop (mkF m 58 #[.val (.int p0), .val (.int p1), .val (.int p2), .val (.int n), .val (.int bd), .val (.ref b6), .val (.ref b40), .val (.int (f5 bd)), .unset, .unset, .unset, .unset] [(.int n)])) _
      refine XS.iload X52.here hx rfl (hb hby at_58) rfl ?_
      show Steps p.tables e below (T52.setTop (mkF m 60 #[.val (.int p0), .val (.int p1), .val (.int p2), .val (.int n), .val (.int bd), .val (.ref b6), .val (.ref b40), .val (.int (f5 bd)), .unset, .unset, .unset, .unset] [(.int (f5 bd)), (.int n)])) _
      refine XS.imul X52.here hx rfl (hb hby at_60) rfl ?_
      show Steps p.tables e below (T52.setTop (mkF m 61 #[.val (.int p0), .val (.int p1), .val (.int p2), .val (.int n), .val (.int bd), .val (.ref b6), .val (.ref b40), .val (.int (f5 bd)), .unset, .unset, .unset, .unset] [(.int (n * (f5 bd)))])) _
      refine XS.istore X52.here hx rfl (hb hby at_61) rfl (l' := #[.val (.int p0), .val (.int p1), .val (.int p2), .val (.int n), .val (.int bd), .val (.ref b6), .val (.ref b40), .val (.int (f5 bd)), .val (.int (n * (f5 bd))), .unset, .unset, .unset]) rfl ?_
      show Steps p.tables e below (T52.setTop (mkF m 63 #[.val (.int p0), .val (.int p1), .val (.int p2), .val (.int n), .val (.int bd), .val (.ref b6), .val (.ref b40), .val (.int (f5 bd)), .val (.int (n * (f5 bd))), .unset, .unset, .unset] [])) _
      refine XS.iload X52.here hx rfl (hb hby at_63) rfl ?_
      show Steps p.tables e below (T52.setTop (mkF m 65 #[.val (.int p0), .val (.int p1), .val (.int p2), .val (.int n), .val (.int bd), .val (.ref b6), .val (.ref b40), .val (.int (f5 bd)), .val (.int (n * (f5 bd))), .unset, .unset, .unset] [(.int (n * (f5 bd)))])) _
      refine XS.bipush X52.here hx rfl (hb hby at_65) ?_
      show Steps p.tables e below (T52.setTop (mkF m 67 #[.val (.int p0), .val (.int p1), .val (.int p2), .val (.int n), .val (.int bd), .val (.ref b6), .val (.ref b40), .val (.int (f5 bd)), .val (.int (n * (f5 bd))), .unset, .unset, .unset] [(.int (64 : Int32)), (.int (n * (f5 bd)))])) _
      refine XS.idiv X52.here hx rfl (hb hby at_67) rfl (by decide) ?_
      show Steps p.tables e below (T52.setTop (mkF m 68 #[.val (.int p0), .val (.int p1), .val (.int p2), .val (.int n), .val (.int bd), .val (.ref b6), .val (.ref b40), .val (.int (f5 bd)), .val (.int (n * (f5 bd))), .unset, .unset, .unset] [(.int ((n * (f5 bd)) / (64 : Int32)))])) _
      refine XS.iload X52.here hx rfl (hb hby at_68) rfl ?_
      show Steps p.tables e below (T52.setTop (mkF m 70 #[.val (.int p0), .val (.int p1), .val (.int p2), .val (.int n), .val (.int bd), .val (.ref b6), .val (.ref b40), .val (.int (f5 bd)), .val (.int (n * (f5 bd))), .unset, .unset, .unset] [(.int (n * (f5 bd))), (.int ((n * (f5 bd)) / (64 : Int32)))])) _
      refine XS.bipush X52.here hx rfl (hb hby at_70) ?_
      show Steps p.tables e below (T52.setTop (mkF m 72 #[.val (.int p0), .val (.int p1), .val (.int p2), .val (.int n), .val (.int bd), .val (.ref b6), .val (.ref b40), .val (.int (f5 bd)), .val (.int (n * (f5 bd))), .unset, .unset, .unset] [(.int (64 : Int32)), (.int (n * (f5 bd))), (.int ((n * (f5 bd)) / (64 : Int32)))])) _
      refine iremM X52 hx rfl (hb hby at_72) rfl (by decide) ?_
      exact kt
    obtain ⟨j54, hj54⟩ : ∃ z : Int32, z = (if ((n * (f5 bd)) % (64 : Int32)) = (0 : Int32) then (0 : Int32) else (1 : Int32)) := ⟨_, rfl⟩
    have G55 : ∀ t, Steps p.tables e below (T52.setTop (mkF m 81 #[.val (.int p0), .val (.int p1), .val (.int p2), .val (.int n), .val (.int bd), .val (.ref b6), .val (.ref b40), .val (.int (f5 bd)), .val (.int (n * (f5 bd))), .unset, .unset, .unset] [(.int j54), (.int ((n * (f5 bd)) / (64 : Int32)))])) t → Steps p.tables e below (s₁.setTop (entryFrame m #[(.int p0), (.int p1), (.int p2)] maxLocals)) t := by
      intro t kt
      by_cases hc73_56 : ((n * (f5 bd)) % (64 : Int32)) = (0 : Int32)
      · skip
        rw [show j54 = (0 : Int32) from by rw [hj54, if_pos hc73_56]] at kt
        refine G53 _ ?_
        show Steps p.tables e below (T52.setTop (mkF m 73 #[.val (.int p0), .val (.int p1), .val (.int p2), .val (.int n), .val (.int bd), .val (.ref b6), .val (.ref b40), .val (.int (f5 bd)), .val (.int (n * (f5 bd))), .unset, .unset, .unset] [(.int ((n * (f5 bd)) % (64 : Int32))), (.int ((n * (f5 bd)) / (64 : Int32)))])) _
        refine XS.ifYes X52.here hx rfl (pc0 := 73) (pc' := 80) rfl (hb hby at_73) rfl ((if0 _ _).trans (teq hc73_56).1) (by decide) (by decide) ?_
        show Steps p.tables e below (T52.setTop (mkF m 80 #[.val (.int p0), .val (.int p1), .val (.int p2), .val (.int n), .val (.int bd), .val (.ref b6), .val (.ref b40), .val (.int (f5 bd)), .val (.int (n * (f5 bd))), .unset, .unset, .unset] [(.int ((n * (f5 bd)) / (64 : Int32)))])) _
        refine XS.iconst X52.here hx rfl (hb hby at_80) ?_
        exact kt
      · skip
        rw [show j54 = (1 : Int32) from by rw [hj54, if_neg hc73_56]] at kt
        refine G53 _ ?_
        show Steps p.tables e below (T52.setTop (mkF m 73 #[.val (.int p0), .val (.int p1), .val (.int p2), .val (.int n), .val (.int bd), .val (.ref b6), .val (.ref b40), .val (.int (f5 bd)), .val (.int (n * (f5 bd))), .unset, .unset, .unset] [(.int ((n * (f5 bd)) % (64 : Int32))), (.int ((n * (f5 bd)) / (64 : Int32)))])) _
        refine XS.ifNo X52.here hx rfl (hb hby at_73) rfl ((if0 _ _).trans (feq hc73_56).1) ?_
        show Steps p.tables e below (T52.setTop (mkF m 76 #[.val (.int p0), .val (.int p1), .val (.int p2), .val (.int n), .val (.int bd), .val (.ref b6), .val (.ref b40), .val (.int (f5 bd)), .val (.int (n * (f5 bd))), .unset, .unset, .unset] [(.int ((n * (f5 bd)) / (64 : Int32)))])) _
        refine XS.iconst X52.here hx rfl (hb hby at_76) ?_
        show Steps p.tables e below (T52.setTop (mkF m 77 #[.val (.int p0), .val (.int p1), .val (.int p2), .val (.int n), .val (.int bd), .val (.ref b6), .val (.ref b40), .val (.int (f5 bd)), .val (.int (n * (f5 bd))), .unset, .unset, .unset] [(.int (1 : Int32)), (.int ((n * (f5 bd)) / (64 : Int32)))])) _
        refine XS.goto X52.here hx rfl (pc0 := 77) (pc' := 81) rfl (hb hby at_77) (by decide) (by decide) ?_
        exact kt
    obtain ⟨cq57, kq57, q57a, q57b, q57c⟩ := isOf hZ eh52 fa49
    obtain ⟨_, _, ⟨T57, L57, k57, n57⟩, -, X57, ⟨Lc57, hQ57, l57, y57, z57⟩, st57⟩ := X52.virtualBack hx (y := (⟨"com/example/moffett/moffett/requests/PackedIndexes", "heapBytes", "()J"⟩ : MethodName)) (z := (⟨"com/example/moffett/moffett/requests/PackedIndexes", "heapBytes", "()J"⟩ : MethodName)) hown (mvT hZ (hw _ (List.mem_of_getElem? (i := 35) rfl))) (mvT hZ (hw _ (List.mem_of_getElem? (i := 36) rfl))) (notFace_of_selects (args := #[]) (mvT hZ (hw _ (List.mem_of_getElem? (i := 38) rfl)))) (mvT hZ (hw _ (List.mem_of_getElem? (i := 38) rfl))) (mvT hZ (hw _ (List.mem_of_getElem? (i := 37) rfl))) (by decide) (backOf (W := 0) (rm6 l Z a0 hw [] b40 wa cw M T47.heap n0 z50 Fw47 Aw Sw Mw) hZ (hw _ (List.mem_of_getElem? (i := 39) rfl)) (hw _ (List.mem_of_getElem? (i := 8) rfl)) (by decide) (by decide)) q57a q57c (g := (mkF m 99 #[.val (.int p0), .val (.int p1), .val (.int p2), .val (.int n), .val (.int bd), .val (.ref b6), .val (.ref b40), .val (.int (f5 bd)), .val (.int (n * (f5 bd))), .val (.int (((n * (f5 bd)) / (64 : Int32)) + j54)), .val (.long ((16 : Int64) + ((8 : Int64) * ((((n * (f5 bd)) / (64 : Int32)) + j54).toInt64)))), .second] [(.ref b40)])) rfl (by rw [hml]; rfl) (Steps.refl _) (argsL := []) (rest := []) (lenOf pd_3 rfl) rfl (by show 2 * 0 + _ ≤ _; exact Nat.le_of_eq rfl) (hb hby at_99) (fun _ _ => ⟨rfl, eh52, (by decide : 3 + 0 ≤ _), (by decide : 26 + 0 ≤ _)⟩)
    dsimp only [Pt.U, Pt.locs, Pt.cells, Pt.slots] at X57 l57 y57 z57 st57 hQ57
    subst l57 y57 z57
    obtain ⟨rfl, N57q, eh57⟩ := hQ57
    have N57 := Fr.app N52 N57q
    have G58 : ∀ t, Steps p.tables e below (T57.setTop (mkF m 105 #[.val (.int p0), .val (.int p1), .val (.int p2), .val (.int n), .val (.int bd), .val (.ref b6), .val (.ref b40), .val (.int (f5 bd)), .val (.int (n * (f5 bd))), .val (.int (((n * (f5 bd)) / (64 : Int32)) + j54)), .val (.long ((16 : Int64) + ((8 : Int64) * ((((n * (f5 bd)) / (64 : Int32)) + j54).toInt64)))), .second] [(.int (lcmpW ((16 : Int64) + ((8 : Int64) * (M.toInt64))) ((16 : Int64) + ((8 : Int64) * ((((n * (f5 bd)) / (64 : Int32)) + j54).toInt64)))))])) t → Steps p.tables e below (s₁.setTop (entryFrame m #[(.int p0), (.int p1), (.int p2)] maxLocals)) t := by
      intro t kt
      refine G55 _ ?_
      show Steps p.tables e below (T52.setTop (mkF m 81 #[.val (.int p0), .val (.int p1), .val (.int p2), .val (.int n), .val (.int bd), .val (.ref b6), .val (.ref b40), .val (.int (f5 bd)), .val (.int (n * (f5 bd))), .unset, .unset, .unset] [(.int j54), (.int ((n * (f5 bd)) / (64 : Int32)))])) _
      refine XS.iadd X52.here hx rfl (hb hby at_81) rfl ?_
      show Steps p.tables e below (T52.setTop (mkF m 82 #[.val (.int p0), .val (.int p1), .val (.int p2), .val (.int n), .val (.int bd), .val (.ref b6), .val (.ref b40), .val (.int (f5 bd)), .val (.int (n * (f5 bd))), .unset, .unset, .unset] [(.int (((n * (f5 bd)) / (64 : Int32)) + j54))])) _
      refine XS.istore X52.here hx rfl (hb hby at_82) rfl (l' := #[.val (.int p0), .val (.int p1), .val (.int p2), .val (.int n), .val (.int bd), .val (.ref b6), .val (.ref b40), .val (.int (f5 bd)), .val (.int (n * (f5 bd))), .val (.int (((n * (f5 bd)) / (64 : Int32)) + j54)), .unset, .unset]) rfl ?_
      show Steps p.tables e below (T52.setTop (mkF m 84 #[.val (.int p0), .val (.int p1), .val (.int p2), .val (.int n), .val (.int bd), .val (.ref b6), .val (.ref b40), .val (.int (f5 bd)), .val (.int (n * (f5 bd))), .val (.int (((n * (f5 bd)) / (64 : Int32)) + j54)), .unset, .unset] [])) _
      refine X52.ldc2Long hx hown (mvT hZ (hw _ (List.mem_of_getElem? (i := 33) rfl))) (g := (mkF m 84 #[.val (.int p0), .val (.int p1), .val (.int p2), .val (.int n), .val (.int bd), .val (.ref b6), .val (.ref b40), .val (.int (f5 bd)), .val (.int (n * (f5 bd))), .val (.int (((n * (f5 bd)) / (64 : Int32)) + j54)), .unset, .unset] [])) rfl (hb hby at_84) _ ?_
      show Steps p.tables e below (T52.setTop (mkF m 87 #[.val (.int p0), .val (.int p1), .val (.int p2), .val (.int n), .val (.int bd), .val (.ref b6), .val (.ref b40), .val (.int (f5 bd)), .val (.int (n * (f5 bd))), .val (.int (((n * (f5 bd)) / (64 : Int32)) + j54)), .unset, .unset] [(.long (16 : Int64))])) _
      refine X52.ldc2Long hx hown (mvT hZ (hw _ (List.mem_of_getElem? (i := 34) rfl))) (g := (mkF m 87 #[.val (.int p0), .val (.int p1), .val (.int p2), .val (.int n), .val (.int bd), .val (.ref b6), .val (.ref b40), .val (.int (f5 bd)), .val (.int (n * (f5 bd))), .val (.int (((n * (f5 bd)) / (64 : Int32)) + j54)), .unset, .unset] [(.long (16 : Int64))])) rfl (hb hby at_87) _ ?_
      show Steps p.tables e below (T52.setTop (mkF m 90 #[.val (.int p0), .val (.int p1), .val (.int p2), .val (.int n), .val (.int bd), .val (.ref b6), .val (.ref b40), .val (.int (f5 bd)), .val (.int (n * (f5 bd))), .val (.int (((n * (f5 bd)) / (64 : Int32)) + j54)), .unset, .unset] [(.long (8 : Int64)), (.long (16 : Int64))])) _
      refine XS.iload X52.here hx rfl (hb hby at_90) rfl ?_
      show Steps p.tables e below (T52.setTop (mkF m 92 #[.val (.int p0), .val (.int p1), .val (.int p2), .val (.int n), .val (.int bd), .val (.ref b6), .val (.ref b40), .val (.int (f5 bd)), .val (.int (n * (f5 bd))), .val (.int (((n * (f5 bd)) / (64 : Int32)) + j54)), .unset, .unset] [(.int (((n * (f5 bd)) / (64 : Int32)) + j54)), (.long (8 : Int64)), (.long (16 : Int64))])) _
      refine XS.i2l X52.here hx rfl (hb hby at_92) rfl ?_
      show Steps p.tables e below (T52.setTop (mkF m 93 #[.val (.int p0), .val (.int p1), .val (.int p2), .val (.int n), .val (.int bd), .val (.ref b6), .val (.ref b40), .val (.int (f5 bd)), .val (.int (n * (f5 bd))), .val (.int (((n * (f5 bd)) / (64 : Int32)) + j54)), .unset, .unset] [(.long ((((n * (f5 bd)) / (64 : Int32)) + j54).toInt64)), (.long (8 : Int64)), (.long (16 : Int64))])) _
      refine XS.lmul X52.here hx rfl (hb hby at_93) rfl ?_
      show Steps p.tables e below (T52.setTop (mkF m 94 #[.val (.int p0), .val (.int p1), .val (.int p2), .val (.int n), .val (.int bd), .val (.ref b6), .val (.ref b40), .val (.int (f5 bd)), .val (.int (n * (f5 bd))), .val (.int (((n * (f5 bd)) / (64 : Int32)) + j54)), .unset, .unset] [(.long ((8 : Int64) * ((((n * (f5 bd)) / (64 : Int32)) + j54).toInt64))), (.long (16 : Int64))])) _
      refine XS.ladd X52.here hx rfl (hb hby at_94) rfl ?_
      show Steps p.tables e below (T52.setTop (mkF m 95 #[.val (.int p0), .val (.int p1), .val (.int p2), .val (.int n), .val (.int bd), .val (.ref b6), .val (.ref b40), .val (.int (f5 bd)), .val (.int (n * (f5 bd))), .val (.int (((n * (f5 bd)) / (64 : Int32)) + j54)), .unset, .unset] [(.long ((16 : Int64) + ((8 : Int64) * ((((n * (f5 bd)) / (64 : Int32)) + j54).toInt64))))])) _
      refine XS.lstore X52.here hx rfl (hb hby at_95) rfl (l' := #[.val (.int p0), .val (.int p1), .val (.int p2), .val (.int n), .val (.int bd), .val (.ref b6), .val (.ref b40), .val (.int (f5 bd)), .val (.int (n * (f5 bd))), .val (.int (((n * (f5 bd)) / (64 : Int32)) + j54)), .val (.long ((16 : Int64) + ((8 : Int64) * ((((n * (f5 bd)) / (64 : Int32)) + j54).toInt64)))), .second]) rfl ?_
      show Steps p.tables e below (T52.setTop (mkF m 97 #[.val (.int p0), .val (.int p1), .val (.int p2), .val (.int n), .val (.int bd), .val (.ref b6), .val (.ref b40), .val (.int (f5 bd)), .val (.int (n * (f5 bd))), .val (.int (((n * (f5 bd)) / (64 : Int32)) + j54)), .val (.long ((16 : Int64) + ((8 : Int64) * ((((n * (f5 bd)) / (64 : Int32)) + j54).toInt64)))), .second] [])) _
      refine XS.aload X52.here hx rfl (hb hby at_97) rfl rfl ?_
      show Steps p.tables e below (T52.setTop (mkF m 99 #[.val (.int p0), .val (.int p1), .val (.int p2), .val (.int n), .val (.int bd), .val (.ref b6), .val (.ref b40), .val (.int (f5 bd)), .val (.int (n * (f5 bd))), .val (.int (((n * (f5 bd)) / (64 : Int32)) + j54)), .val (.long ((16 : Int64) + ((8 : Int64) * ((((n * (f5 bd)) / (64 : Int32)) + j54).toInt64)))), .second] [(.ref b40)])) _
      refine st57.trans ?_
      show Steps p.tables e below (T57.setTop (mkF m 102 #[.val (.int p0), .val (.int p1), .val (.int p2), .val (.int n), .val (.int bd), .val (.ref b6), .val (.ref b40), .val (.int (f5 bd)), .val (.int (n * (f5 bd))), .val (.int (((n * (f5 bd)) / (64 : Int32)) + j54)), .val (.long ((16 : Int64) + ((8 : Int64) * ((((n * (f5 bd)) / (64 : Int32)) + j54).toInt64)))), .second] [(.long ((16 : Int64) + ((8 : Int64) * (M.toInt64))))])) _
      refine XS.lload X57.here hx rfl (hb hby at_102) rfl ?_
      show Steps p.tables e below (T57.setTop (mkF m 104 #[.val (.int p0), .val (.int p1), .val (.int p2), .val (.int n), .val (.int bd), .val (.ref b6), .val (.ref b40), .val (.int (f5 bd)), .val (.int (n * (f5 bd))), .val (.int (((n * (f5 bd)) / (64 : Int32)) + j54)), .val (.long ((16 : Int64) + ((8 : Int64) * ((((n * (f5 bd)) / (64 : Int32)) + j54).toInt64)))), .second] [(.long ((16 : Int64) + ((8 : Int64) * ((((n * (f5 bd)) / (64 : Int32)) + j54).toInt64)))), (.long ((16 : Int64) + ((8 : Int64) * (M.toInt64))))])) _
      refine XS.lcmp X57.here hx rfl (hb hby at_104) rfl ?_
      exact kt
    have hc105_59 : ((16 : Int64) + ((8 : Int64) * (M.toInt64))) = ((16 : Int64) + ((8 : Int64) * ((((n * (f5 bd)) / (64 : Int32)) + j54).toInt64))) := by rw [own_fin n (f5 bd) M j54 hnb ⟨(own_b31 bd hbd1).1, (own_b31 bd hbd1).2.1⟩ hMv hj54]
    obtain ⟨fs, hr, hrun, hended, hW, hsame⟩ := X57.leave (v := some (.int (1 : Int32))) (fun h => by rw [Bd.returns] at h; cases h)
    refine ⟨_, _, G58 _ ?_, hrun, hended, _, _, rfl, ?_, ⟨_, rfl⟩, hW, hsame.mono (by decide) (by decide)⟩
    · skip
      show Steps p.tables e below (T57.setTop (mkF m 105 #[.val (.int p0), .val (.int p1), .val (.int p2), .val (.int n), .val (.int bd), .val (.ref b6), .val (.ref b40), .val (.int (f5 bd)), .val (.int (n * (f5 bd))), .val (.int (((n * (f5 bd)) / (64 : Int32)) + j54)), .val (.long ((16 : Int64) + ((8 : Int64) * ((((n * (f5 bd)) / (64 : Int32)) + j54).toInt64)))), .second] [(.int (lcmpW ((16 : Int64) + ((8 : Int64) * (M.toInt64))) ((16 : Int64) + ((8 : Int64) * ((((n * (f5 bd)) / (64 : Int32)) + j54).toInt64)))))])) _
      refine XS.ifNo X57.here hx rfl (hb hby at_105) rfl ((if0 _ _).trans (teq ((lw_eq _ _).mpr hc105_59)).2) ?_
      show Steps p.tables e below (T57.setTop (mkF m 108 #[.val (.int p0), .val (.int p1), .val (.int p2), .val (.int n), .val (.int bd), .val (.ref b6), .val (.ref b40), .val (.int (f5 bd)), .val (.int (n * (f5 bd))), .val (.int (((n * (f5 bd)) / (64 : Int32)) + j54)), .val (.long ((16 : Int64) + ((8 : Int64) * ((((n * (f5 bd)) / (64 : Int32)) + j54).toInt64)))), .second] [])) _
      refine XS.iconst X57.here hx rfl (hb hby at_108) ?_
      show Steps p.tables e below (T57.setTop (mkF m 109 #[.val (.int p0), .val (.int p1), .val (.int p2), .val (.int n), .val (.int bd), .val (.ref b6), .val (.ref b40), .val (.int (f5 bd)), .val (.int (n * (f5 bd))), .val (.int (((n * (f5 bd)) / (64 : Int32)) + j54)), .val (.long ((16 : Int64) + ((8 : Int64) * ((((n * (f5 bd)) / (64 : Int32)) + j54).toInt64)))), .second] [(.int (1 : Int32))])) _
      refine XS.goto X57.here hx rfl (pc0 := 109) (pc' := 113) rfl (hb hby at_109) (by decide) (by decide) ?_
      show Steps p.tables e below (T57.setTop (mkF m 113 #[.val (.int p0), .val (.int p1), .val (.int p2), .val (.int n), .val (.int bd), .val (.ref b6), .val (.ref b40), .val (.int (f5 bd)), .val (.int (n * (f5 bd))), .val (.int (((n * (f5 bd)) / (64 : Int32)) + j54)), .val (.long ((16 : Int64) + ((8 : Int64) * ((((n * (f5 bd)) / (64 : Int32)) + j54).toInt64)))), .second] [(.int (1 : Int32))])) _
      exact retN X57 hx (t := .boolean) Bd.returns (by simp) (hb hby at_113) hr
    · show Q0 Z p0 p1 p2 h0 n0 _ T57.heap _
      rw [eh57]
      exact ⟨rfl, N57⟩
set_option maxRecDepth 65536 in
set_option maxHeartbeats 40000000 in
theorem comes_1 {Post : Tables → Env → Array Value → State → Outcome → State → Prop} (hpost : ∀ tb e args s v u, (limb_1_1.after args s (.returned v) u = true ∧ limb_1_2.after args s (.returned v) u = true ∧ True) → FrameEnd s (.returned v) u (Jvm.fieldLocs frame_1_writes args s ++ Jvm.arrayLocs frame_1_arrays args s ++ Jvm.staticLocs frame_1_statics s) 16 128 → Post tb e args s (.returned v) u) :
    ArmFor flags0 classFile x code maxLocals ret World_1 tables_1 room_1 Calls_1 rest_1 Pre_1 Post := by
  intro l hfl _ _ p e ha hc hk s m args below hf hA hF happ hP
  obtain ⟨hcalls, hrest, hpre⟩ := hP
  obtain ⟨-, -, -, hnamed, -, -, -, hat⟩ := (Spec.applies_iff hf).mp happ
  obtain ⟨hg, hn⟩ := and_e (Cond.before_iff.mp (show (Jvm.Cond.and given_1 narrow_1).before args s = true from hpre))
  obtain ⟨g1, g2⟩ := and_e hg
  obtain ⟨g3, g4⟩ := and_e g2
  obtain ⟨g5, g6⟩ := and_e g4
  obtain ⟨w0, w1, w2, rfl⟩ : ∃ w0 w1 w2 : Value, args = #[w0, w1, w2] := by
    have hs : args.size = 3 := by simpa [Cond.value, given_1] using g1
    obtain ⟨L⟩ := args
    match L, hs with
    | [w0, w1, w2], _ => exact ⟨w0, w1, w2, rfl⟩
  have hw := fun d (hd : d ∈ tables_1) => atoms_spec (ws := Jvm.Cond.code x code maxLocals ret :: tables_1) hat d (List.mem_cons_of_mem _ hd)
  have hfit : Fit s := fun {y c} hc i hi => by
    obtain ⟨ha, rfl⟩ := Array.getElem?_eq_some_iff.mp hc
    have q := List.all_eq_true.mp ((Array.all_eq_true_iff_forall_mem.mp hF) _ (Array.getElem_mem ha)) i (List.mem_range.mpr hi)
    simpa [Array.getElem?_eq_getElem hi] using q
  obtain ⟨i0, ei0⟩ := is_v g3
  obtain rfl : w0 = (.int i0) := Option.some.inj ei0
  obtain ⟨i1, ei1⟩ := is_v g5
  obtain rfl : w1 = (.int i1) := Option.some.inj ei1
  obtain ⟨i2, ei2⟩ := is_v g6
  obtain rfl : w2 = (.int i2) := Option.some.inj ei2
  obtain ⟨n, o, h1, h2, h3, _, L, rfl, ⟨rfl, N⟩, hq⟩ := rm0 l s _ hw tables_1 i0 i1 i2  s.heap s.heap.size (Nat.le_refl _)  p e ha hc hk s m _ below hf ((Spec.applies_iff_loose hf).mp happ).1 ⟨rfl, State.Warmed39.refl s, rfl⟩ trivial
  refine ⟨n, _, h1, h2, h3, hpost _ _ _ _ _ _ ⟨Cond.after_iff.mpr rfl, Cond.after_iff.mpr (eq_i res_at (Term.int_eval (1)) rfl), trivial⟩ ⟨hq.1, hq.2.1, (hq.2.2.sift fun y hy => Or.inr (N y hy)).mono (by decide) (by decide)⟩⟩
theorem main_1_1 : Claimed_1_1 := comes_1 fun _ _ _ _ _ _ h hF => ⟨h.1, hF⟩
theorem main_1_2 : Claimed_1_2 := comes_1 fun _ _ _ _ _ _ h hF => ⟨h.2.1, hF⟩
end Jvm.Pilot.@@N@@
namespace Jvm.Pilot.@@N@@
open Jvm Jvm.ClassFile Sem Op Lib Jvm.Free Jvm.Stand Jvm.Pilot.@@N@@.Jvm.D
/-! MADE BY PROGRAM (witnessworld.py) out of the Statement's table words and the real class files: 17 classes; the members and pool entries that the words name. The judged class is class 1, her method 2. -/
namespace start1
open Jvm.ClassFile
def u (s : String) : CpInfo := .utf8 (stringToUtf16 s)
/-- a pool by its gaps: so many unusable entries, then the entry; so many at the end -/
def gap : Nat → List CpInfo → List CpInfo
  | 0, r => r
  | n + 1, r => .unusable :: gap n r
def poolList (es : List (Nat × CpInfo)) (last : Nat) : List CpInfo := es.foldr (fun e r => gap e.1 (e.2 :: r)) (gap last [])
def pool (es : List (Nat × CpInfo)) (last : Nat) : Array CpInfo := ⟨poolList es last⟩
def fileOf (pool : Array CpInfo) (this : Nat) (attrs : Array Attribute := #[]) (ms : Array MethodInfo := #[]) (fl : Nat := 33) (sup : Nat := 0) (ifs : Array Nat := #[]) (fds : Array FieldInfo := #[]) : ClassFile where
  minorVersion := 0
  majorVersion := 65
  constantPool := pool
  accessFlags := fl
  thisClass := this
  superClass := sup
  interfaces := ifs
  fields := fds
  methods := ms
  attributes := attrs
def plain (name : String) (sup : Option ClassId) : Class where
  name := name
  kind := .ordinary
  loader := none
  accessFlags := 33
  super := sup
  interfaces := #[]
  cf := none
  fields := #[]
  methods := #[]
  instanceTypes := #[]
  staticTypes := #[]
  resolved := #[]
  callSites := []
  init := .initialized
  statics := none
  mirror := none

def pool0 : Array CpInfo := pool [(5, u "<init>"), (0, u "()V"), (1, .class_ 10), (1, u "java/lang/Object")] 113

def k0c0 : Code := { maxStack := 0, maxLocals := 1, code := object_method_1_code, exceptionTable := #[], attributes := #[] }
def k0m0 : Method := { name := "<init>", desc := "()V", sig := { parameters := [], returnType := none }, accessFlags := 1, code := some k0c0 }
/-- java/lang/Object -/
def k0 : Class := { plain "java/lang/Object" none with
  accessFlags := 33
  interfaces := #[]
  cf := some (fileOf pool0 8 #[] #[{ accessFlags := 1, nameIndex := 5, descriptorIndex := 6, attributes := #[] }] 33 0 #[] #[])
  fields := #[]
  methods := #[k0m0]
  instanceTypes := #[]
  staticTypes := #[]
  resolved := Array.replicate 124 none
  statics := none }

def pool1 : Array CpInfo := pool [(2, .class_ 4), (1, u "java/lang/Object"), (0, u "<init>"), (0, u "()V"), (0, .integer 65536), (0, .integer 2147483647), (0, .methodref 10 11), (0, .class_ 12), (0, .nameAndType 13 14), (0, u "java/lang/Math"), (0, u "max"), (0, u "(II)I"), (0, .class_ 16), (0, u "com/example/moffett/moffett/requests/PackedIndexes"), (0, .methodref 15 18), (0, .nameAndType 5 19), (0, u "([II)V"), (0, .methodref 21 22), (0, .class_ 23), (0, .nameAndType 24 25), (0, u "com/example/moffett/moffett/requests/PackedIndexesHeapBytesPinLaw"), (0, u "bitsFor"), (0, u "(I)I"), (0, .long 16), (1, .long 8), (1, .methodref 15 31), (0, .nameAndType 32 33), (0, u "heapBytes"), (0, u "()J"), (3, u "law"), (0, u "(III)Z")] 4

def k1m0 : Method := { name := "<init>", desc := "()V", sig := { parameters := [], returnType := none }, accessFlags := 1, code := none }
def k1c1 : Code := { maxStack := 2, maxLocals := 3, code := method_2_code, exceptionTable := #[], attributes := #[] }
def k1m1 : Method := { name := "bitsFor", desc := "(I)I", sig := { parameters := [.int], returnType := some .int }, accessFlags := 10, code := some k1c1 }
def k1c2 : Code := { maxStack := 6, maxLocals := 12, code := code, exceptionTable := #[], attributes := #[] }
def k1m2 : Method := { name := "law", desc := "(III)Z", sig := { parameters := [.int, .int, .int], returnType := some .boolean }, accessFlags := 9, code := some k1c2 }
/-- com/example/moffett/moffett/requests/PackedIndexesHeapBytesPinLaw -/
def k1 : Class := { plain "com/example/moffett/moffett/requests/PackedIndexesHeapBytesPinLaw" (some 0) with
  accessFlags := 49
  interfaces := #[]
  cf := some (fileOf pool1 21 #[] #[{ accessFlags := 1, nameIndex := 5, descriptorIndex := 6, attributes := #[] }, { accessFlags := 10, nameIndex := 24, descriptorIndex := 25, attributes := #[] }, { accessFlags := 9, nameIndex := 37, descriptorIndex := 38, attributes := #[] }] 49 2 #[] #[])
  fields := #[]
  methods := #[k1m0, k1m1, k1m2]
  instanceTypes := #[]
  staticTypes := #[]
  resolved := Array.replicate 43 none
  statics := none }

def pool2 : Array CpInfo := pool [(1, .class_ 2), (0, u "java/lang/Math"), (1, .class_ 6), (1, u "java/lang/Object"), (0, u "<init>"), (0, u "()V"), (89, .class_ 100), (1, u "java/lang/Math$RandomNumberGeneratorHolder"), (71, u "negativeZeroFloatBits"), (0, u "J"), (2, u "negativeZeroDoubleBits"), (21, u "max"), (46, u "$assertionsDisabled"), (0, u "Z"), (88, u "(II)I"), (2, u "twoToTheDoubleScaleDown"), (0, u "D"), (4, u "twoToTheDoubleScaleUp"), (9, u "E"), (3, u "PI"), (2, u "TAU"), (2, u "DEGREES_TO_RADIANS"), (0, u "RADIANS_TO_DEGREES")] 94

def k2m0 : Method := { name := "<init>", desc := "()V", sig := { parameters := [], returnType := none }, accessFlags := 2, code := none }
def k2c1 : Code := { maxStack := 2, maxLocals := 2, code := jdk_29_method_65_code, exceptionTable := #[], attributes := #[] }
def k2m1 : Method := { name := "max", desc := "(II)I", sig := { parameters := [.int, .int], returnType := some .int }, accessFlags := 9, code := some k2c1 }
/-- java/lang/Math -/
def k2 : Class := { plain "java/lang/Math" (some 0) with
  accessFlags := 49
  interfaces := #[]
  cf := some (fileOf pool2 1 #[.nestMembers #[98]] #[{ accessFlags := 2, nameIndex := 7, descriptorIndex := 8, attributes := #[] }, { accessFlags := 9, nameIndex := 198, descriptorIndex := 335, attributes := #[] }] 49 4 #[] #[{ accessFlags := 25, nameIndex := 354, descriptorIndex := 339, attributes := #[] }, { accessFlags := 25, nameIndex := 358, descriptorIndex := 339, attributes := #[] }, { accessFlags := 25, nameIndex := 361, descriptorIndex := 339, attributes := #[] }, { accessFlags := 26, nameIndex := 364, descriptorIndex := 339, attributes := #[] }, { accessFlags := 26, nameIndex := 365, descriptorIndex := 339, attributes := #[] }, { accessFlags := 26, nameIndex := 172, descriptorIndex := 173, attributes := #[] }, { accessFlags := 26, nameIndex := 176, descriptorIndex := 173, attributes := #[] }, { accessFlags := 8, nameIndex := 344, descriptorIndex := 339, attributes := #[] }, { accessFlags := 8, nameIndex := 338, descriptorIndex := 339, attributes := #[] }, { accessFlags := 4120, nameIndex := 245, descriptorIndex := 246, attributes := #[] }])
  fields := #[{ name := "E", type := .double, accessFlags := 25, slot := 0, constantValue := 0 }, { name := "PI", type := .double, accessFlags := 25, slot := 1, constantValue := 0 }, { name := "TAU", type := .double, accessFlags := 25, slot := 2, constantValue := 0 }, { name := "DEGREES_TO_RADIANS", type := .double, accessFlags := 26, slot := 3, constantValue := 0 }, { name := "RADIANS_TO_DEGREES", type := .double, accessFlags := 26, slot := 4, constantValue := 0 }, { name := "negativeZeroFloatBits", type := .long, accessFlags := 26, slot := 5, constantValue := 0 }, { name := "negativeZeroDoubleBits", type := .long, accessFlags := 26, slot := 6, constantValue := 0 }, { name := "twoToTheDoubleScaleUp", type := .double, accessFlags := 8, slot := 7, constantValue := 0 }, { name := "twoToTheDoubleScaleDown", type := .double, accessFlags := 8, slot := 8, constantValue := 0 }, { name := "$assertionsDisabled", type := .boolean, accessFlags := 4120, slot := 9, constantValue := 0 }]
  methods := #[k2m0, k2m1]
  instanceTypes := #[]
  staticTypes := #[.double, .double, .double, .double, .double, .long, .long, .double, .double, .boolean]
  resolved := Array.replicate 460 none
  statics := none }

def pool3 : Array CpInfo := pool [(1, .methodref 2 3), (0, .class_ 4), (0, .nameAndType 5 6), (0, u "java/lang/Object"), (0, u "<init>"), (0, u "()V"), (0, .fieldref 8 9), (0, .class_ 10), (0, .nameAndType 11 12), (0, u "com/example/moffett/moffett/requests/PackedIndexes"), (0, u "size"), (0, u "I"), (0, .class_ 14), (0, u "java/lang/Integer"), (0, .methodref 13 16), (0, .nameAndType 17 18), (0, u "numberOfLeadingZeros"), (0, u "(I)I"), (0, .fieldref 8 20), (0, .nameAndType 21 12), (0, u "bitsEach"), (2, .long 64), (1, .fieldref 8 27), (0, .nameAndType 28 29), (0, u "words"), (0, u "[J"), (15, .long 16), (1, .long 8), (1, u "([II)V"), (7, u "heapBytes"), (0, u "()J")] 17

def k3c0 : Code := { maxStack := 8, maxLocals := 9, code := prog_10_method_1_code, exceptionTable := #[], attributes := #[] }
def k3m0 : Method := { name := "<init>", desc := "([II)V", sig := { parameters := [(.array .int), .int], returnType := none }, accessFlags := 0, code := some k3c0 }
def k3c1 : Code := { maxStack := 6, maxLocals := 1, code := prog_10_method_4_code, exceptionTable := #[], attributes := #[] }
def k3m1 : Method := { name := "heapBytes", desc := "()J", sig := { parameters := [], returnType := some .long }, accessFlags := 0, code := some k3c1 }
/-- com/example/moffett/moffett/requests/PackedIndexes -/
def k3 : Class := { plain "com/example/moffett/moffett/requests/PackedIndexes" (some 0) with
  accessFlags := 32
  interfaces := #[]
  cf := some (fileOf pool3 8 #[] #[{ accessFlags := 0, nameIndex := 5, descriptorIndex := 49, attributes := #[] }, { accessFlags := 0, nameIndex := 57, descriptorIndex := 58, attributes := #[] }] 32 2 #[] #[{ accessFlags := 18, nameIndex := 11, descriptorIndex := 12, attributes := #[] }, { accessFlags := 18, nameIndex := 21, descriptorIndex := 12, attributes := #[] }, { accessFlags := 18, nameIndex := 28, descriptorIndex := 29, attributes := #[] }])
  fields := #[{ name := "size", type := .int, accessFlags := 18, slot := 0, constantValue := 0 }, { name := "bitsEach", type := .int, accessFlags := 18, slot := 1, constantValue := 0 }, { name := "words", type := (.array .long), accessFlags := 18, slot := 2, constantValue := 0 }]
  methods := #[k3m0, k3m1]
  instanceTypes := #[.int, .int, (.array .long)]
  staticTypes := #[]
  resolved := Array.replicate 76 none
  statics := none }

def pool4 : Array CpInfo := pool [(1, .class_ 2), (0, u "java/io/Serializable"), (0, .class_ 4), (0, u "java/lang/Object")] 2

/-- java/io/Serializable -/
def k4 : Class := { plain "java/io/Serializable" (some 0) with
  accessFlags := 1537
  interfaces := #[]
  cf := some (fileOf pool4 1 #[] #[] 1537 3 #[] #[])
  fields := #[]
  methods := #[]
  instanceTypes := #[]
  staticTypes := #[]
  resolved := Array.replicate 7 none
  statics := none }

def pool5 : Array CpInfo := pool [(2, .class_ 4), (1, u "java/lang/Object"), (0, u "<init>"), (0, u "()V"), (1, .class_ 10), (1, u "java/lang/Number"), (2, .class_ 14), (0, u "java/io/Serializable"), (0, u "serialVersionUID"), (0, u "J")] 20

def k5m0 : Method := { name := "<init>", desc := "()V", sig := { parameters := [], returnType := none }, accessFlags := 1, code := none }
/-- java/lang/Number -/
def k5 : Class := { plain "java/lang/Number" (some 0) with
  accessFlags := 1057
  interfaces := #[4]
  cf := some (fileOf pool5 8 #[] #[{ accessFlags := 1, nameIndex := 5, descriptorIndex := 6, attributes := #[] }] 1057 2 #[13] #[{ accessFlags := 26, nameIndex := 15, descriptorIndex := 16, attributes := #[] }])
  fields := #[{ name := "serialVersionUID", type := .long, accessFlags := 26, slot := 0, constantValue := 0 }]
  methods := #[k5m0]
  instanceTypes := #[]
  staticTypes := #[.long]
  resolved := Array.replicate 37 none
  statics := none }

def pool6 : Array CpInfo := pool [(1, .class_ 2), (0, u "java/lang/Comparable"), (0, .class_ 4), (0, u "java/lang/Object")] 7

/-- java/lang/Comparable -/
def k6 : Class := { plain "java/lang/Comparable" (some 0) with
  accessFlags := 1537
  interfaces := #[]
  cf := some (fileOf pool6 1 #[] #[] 1537 3 #[] #[])
  fields := #[]
  methods := #[]
  instanceTypes := #[]
  staticTypes := #[]
  resolved := Array.replicate 12 none
  statics := none }

def pool7 : Array CpInfo := pool [(1, .class_ 2), (0, u "java/lang/constant/Constable"), (0, .class_ 4), (0, u "java/lang/Object")] 6

/-- java/lang/constant/Constable -/
def k7 : Class := { plain "java/lang/constant/Constable" (some 0) with
  accessFlags := 1537
  interfaces := #[]
  cf := some (fileOf pool7 1 #[] #[] 1537 3 #[] #[])
  fields := #[]
  methods := #[]
  instanceTypes := #[]
  staticTypes := #[]
  resolved := Array.replicate 11 none
  statics := none }

def pool8 : Array CpInfo := pool [(1, .class_ 2), (0, u "java/lang/constant/ConstantDesc"), (0, .class_ 4), (0, u "java/lang/Object")] 32

/-- java/lang/constant/ConstantDesc -/
def k8 : Class := { plain "java/lang/constant/ConstantDesc" (some 0) with
  accessFlags := 1537
  interfaces := #[]
  cf := some (fileOf pool8 1 #[] #[] 1537 3 #[] #[])
  fields := #[]
  methods := #[]
  instanceTypes := #[]
  staticTypes := #[]
  resolved := Array.replicate 37 none
  statics := none }

def pool9 : Array CpInfo := pool [(1, .class_ 2), (0, u "java/lang/Integer"), (16, u "digits"), (0, u "[C"), (32, u "numberOfLeadingZeros"), (0, u "(I)I"), (30, u "DigitOnes"), (0, u "[B"), (2, u "DigitTens"), (99, .class_ 190), (0, u "java/lang/Integer$IntegerCache"), (3, u "I"), (8, .class_ 204), (0, u "java/lang/Number"), (2, u "value"), (56, .integer 65536), (37, u "TYPE"), (0, u "Ljava/lang/Class;"), (0, .class_ 305), (0, u "java/lang/Comparable"), (0, .class_ 307), (0, u "java/lang/constant/Constable"), (0, .class_ 309), (0, u "java/lang/constant/ConstantDesc"), (0, u "MIN_VALUE"), (1, u "MAX_VALUE"), (3, u "SIZE"), (1, u "BYTES"), (1, u "serialVersionUID"), (0, u "J")] 131

def k9c0 : Code := { maxStack := 3, maxLocals := 2, code := jdk_33_method_47_code, exceptionTable := #[], attributes := #[] }
def k9m0 : Method := { name := "numberOfLeadingZeros", desc := "(I)I", sig := { parameters := [.int], returnType := some .int }, accessFlags := 9, code := some k9c0 }
/-- java/lang/Integer -/
def k9 : Class := { plain "java/lang/Integer" (some 5) with
  accessFlags := 49
  interfaces := #[6, 7, 8]
  cf := some (fileOf pool9 1 #[.nestMembers #[189]] #[{ accessFlags := 9, nameIndex := 53, descriptorIndex := 54, attributes := #[] }] 49 203 #[304, 306, 308] #[{ accessFlags := 25, nameIndex := 310, descriptorIndex := 194, attributes := #[] }, { accessFlags := 25, nameIndex := 312, descriptorIndex := 194, attributes := #[] }, { accessFlags := 25, nameIndex := 302, descriptorIndex := 303, attributes := #[] }, { accessFlags := 24, nameIndex := 19, descriptorIndex := 20, attributes := #[] }, { accessFlags := 24, nameIndex := 89, descriptorIndex := 86, attributes := #[] }, { accessFlags := 24, nameIndex := 85, descriptorIndex := 86, attributes := #[] }, { accessFlags := 18, nameIndex := 207, descriptorIndex := 194, attributes := #[] }, { accessFlags := 25, nameIndex := 316, descriptorIndex := 194, attributes := #[] }, { accessFlags := 25, nameIndex := 318, descriptorIndex := 194, attributes := #[] }, { accessFlags := 26, nameIndex := 320, descriptorIndex := 321, attributes := #[] }])
  fields := #[{ name := "MIN_VALUE", type := .int, accessFlags := 25, slot := 0, constantValue := 0 }, { name := "MAX_VALUE", type := .int, accessFlags := 25, slot := 1, constantValue := 0 }, { name := "TYPE", type := (.object "java/lang/Class"), accessFlags := 25, slot := 2, constantValue := 0 }, { name := "digits", type := (.array .char), accessFlags := 24, slot := 3, constantValue := 0 }, { name := "DigitTens", type := (.array .byte), accessFlags := 24, slot := 4, constantValue := 0 }, { name := "DigitOnes", type := (.array .byte), accessFlags := 24, slot := 5, constantValue := 0 }, { name := "value", type := .int, accessFlags := 18, slot := 0, constantValue := 0 }, { name := "SIZE", type := .int, accessFlags := 25, slot := 6, constantValue := 0 }, { name := "BYTES", type := .int, accessFlags := 25, slot := 7, constantValue := 0 }, { name := "serialVersionUID", type := .long, accessFlags := 26, slot := 8, constantValue := 0 }]
  methods := #[k9m0]
  instanceTypes := #[.int]
  staticTypes := #[.int, .int, (.object "java/lang/Class"), (.array .char), (.array .byte), (.array .byte), .int, .int, .long]
  resolved := Array.replicate 453 none
  statics := none }

def pool10 : Array CpInfo := pool [(1, u "java/lang/Cloneable"), (0, .class_ 1), (0, u "java/lang/Object"), (0, .class_ 3)] 3

/-- java/lang/Cloneable -/
def k10 : Class := { plain "java/lang/Cloneable" (some 0) with
  accessFlags := 1537
  interfaces := #[]
  cf := some (fileOf pool10 2 #[] #[] 1537 4 #[] #[])
  fields := #[]
  methods := #[]
  instanceTypes := #[]
  staticTypes := #[]
  resolved := Array.replicate 8 none
  statics := none }

/-- the primitive byte -/
def k11 : Class := { plain "byte" none with kind := .primitive 'B', accessFlags := 0x411 }
/-- [B -/
def k12 : Class := { plain "[B" (some 0) with kind := .array 11 .byte, interfaces := #[10, 4], accessFlags := 1041 }

/-- the primitive int -/
def k13 : Class := { plain "int" none with kind := .primitive 'I', accessFlags := 0x411 }
/-- [I -/
def k14 : Class := { plain "[I" (some 0) with kind := .array 13 .int, interfaces := #[10, 4], accessFlags := 1041 }

/-- the primitive long -/
def k15 : Class := { plain "long" none with kind := .primitive 'J', accessFlags := 0x411 }
/-- [J -/
def k16 : Class := { plain "[J" (some 0) with kind := .array 15 .long, interfaces := #[10, 4], accessFlags := 1041 }

def heap : Heap := #[]
def classes : Array Class := #[k0, k1, k2, k3, k4, k5, k6, k7, k8, k9, k10, k11, k12, k13, k14, k15, k16]
def interned : List (Array UInt16 × Addr) := []
def slotsUsed : Nat := 0
def theMethod : MethodId := ⟨1, 2⟩
def args0 : Array Value := #[.int 3, .int 4, .int 5]
def aboutOver (below : List Frame) : State where
  vm := { classes := classes, interned := interned.toArray }
  heap := heap
  slotsUsed := slotsUsed
  threads := #[{ frames := .invoking theMethod args0 :: below }]
def below0 : List Frame := [.native { method := ⟨0, 0⟩, args := #[] }]
def about1 : State := aboutOver below0
def p0 : Program := .bare "" "" ""
def e0 : Env := launch0.env 0 0 0
theorem w_frames : about1.frames = Frame.invoking theMethod args0 :: below0 := rfl
set_option maxRecDepth 65536 in
theorem w_args : argsFit about1.vm theMethod args0 = true := by decide +kernel
set_option maxRecDepth 65536 in
theorem w_heap : heapFits about1 = true := by decide +kernel
set_option maxRecDepth 65536 in
theorem w_runnable : about1.curStatus? = some .runnable := by decide +kernel
set_option maxRecDepth 65536 in
theorem w_alone : about1.alone = true := by decide +kernel
set_option maxRecDepth 65536 in
theorem w_named : about1.methodNamed? x = some theMethod := by decide +kernel
set_option maxRecDepth 65536 in
theorem w_hears : about1.hears theMethod below0 = true := by decide +kernel
set_option maxRecDepth 65536 in
theorem w_ripe : about1.ripe theMethod args0 below0 = true := by decide +kernel
theorem w_running : about1.status = .running := rfl
set_option maxRecDepth 65536 in
theorem w_room : about1.hasRoom e0.platform room_1 = true :=
  launch0.hasRoom_least _ room_1 (by decide +kernel) (by decide +kernel) (by decide +kernel) (by decide +kernel) (by decide +kernel) (by decide +kernel)
theorem allAtoms_all (ts : List Jvm.Cond) (a : Array Jvm.Value) (st : Jvm.State) : (allAtoms ts).before a st = ts.all (fun c => c.before a st) := by
  induction ts with
  | nil => rfl
  | cons c t ih =>
    show (Jvm.Cond.and c (allAtoms t)).before a st = _
    rw [Jvm.Cond.before_and, ih, List.all_cons]
def words1 : List Jvm.Cond := Jvm.Cond.code x code maxLocals ret :: tables_1
/-- a 'code' word, met by the world's own term for the bytes: nothing is compared byte by byte -/
theorem code_word {y : MethodName} {bytes : ByteArray} {mx : Nat} {rt : Option FieldType} {a : Array Value} {s : State} {m : MethodId} {meth : Method} {c : Code} (h1 : s.methodNamed? y = some m) (h2 : s.vm.method? m = some meth) (h3 : meth.code = some c) (h4 : c.code = bytes)
    (h5 : (c.maxLocals == mx && c.exceptionTable.isEmpty && decide (c.maxStack ≤ mostOperands) && decide (meth.sig.returnType = rt) && !meth.locks && decide (parseMethodDescriptor y.desc = some meth.sig)) = true) : (Jvm.Cond.code y bytes mx rt).before a s = true := by
  simp only [Bool.and_eq_true, beq_iff_eq, Bool.not_eq_true', decide_eq_true_eq] at h5
  obtain ⟨⟨⟨⟨⟨g1, g2⟩, g3⟩, g4⟩, g5⟩, g6⟩ := h5
  simp [Cond.before, Cond.holds, Cond.value, h1, h2, h3, h4, g1, g2, g3, g4, g5, g6]
def isCode : Jvm.Cond → Bool
  | .code _ _ _ _ => true
  | _ => false
theorem all_split {L : List Jvm.Cond} {P : Jvm.Cond → Bool} (h1 : L.all (fun c => isCode c || P c) = true) (h2 : ∀ c ∈ L.filter isCode, P c = true) : L.all P = true := by
  refine List.all_eq_true.mpr fun c hc => ?_
  have h := List.all_eq_true.mp h1 c hc
  rcases Bool.eq_false_or_eq_true (isCode c) with hi | hi
  · exact h2 c (List.mem_filter.mpr ⟨hc, hi⟩)
  · simpa [hi] using h
set_option maxRecDepth 65536 in
theorem w_c0 : (Jvm.Cond.code x code maxLocals ret).before args0 about1 = true := code_word (m := ⟨1, 2⟩) (meth := k1m2) (c := k1c2) (by decide +kernel) rfl rfl rfl (by decide +kernel)
set_option maxRecDepth 65536 in
theorem w_c1 : (Jvm.Cond.code ({ cls := "java/lang/Math", name := "max", desc := "(II)I" } : Jvm.MethodName) jdk_29_method_65_code (2 : Nat) (Option.some Jvm.ClassFile.FieldType.int)).before args0 about1 = true := code_word (m := ⟨2, 1⟩) (meth := k2m1) (c := k2c1) (by decide +kernel) rfl rfl rfl (by decide +kernel)
set_option maxRecDepth 65536 in
theorem w_c2 : (Jvm.Cond.code ({ cls := "com/example/moffett/moffett/requests/PackedIndexes", name := "<init>", desc := "([II)V" } : Jvm.MethodName) prog_10_method_1_code (9 : Nat) (Option.none : Option Jvm.ClassFile.FieldType)).before args0 about1 = true := code_word (m := ⟨3, 0⟩) (meth := k3m0) (c := k3c0) (by decide +kernel) rfl rfl rfl (by decide +kernel)
set_option maxRecDepth 65536 in
theorem w_c3 : (Jvm.Cond.code ({ cls := "java/lang/Object", name := "<init>", desc := "()V" } : Jvm.MethodName) object_method_1_code (1 : Nat) (Option.none : Option Jvm.ClassFile.FieldType)).before args0 about1 = true := code_word (m := ⟨0, 0⟩) (meth := k0m0) (c := k0c0) (by decide +kernel) rfl rfl rfl (by decide +kernel)
set_option maxRecDepth 65536 in
theorem w_c4 : (Jvm.Cond.code ({ cls := "java/lang/Integer", name := "numberOfLeadingZeros", desc := "(I)I" } : Jvm.MethodName) jdk_33_method_47_code (2 : Nat) (Option.some Jvm.ClassFile.FieldType.int)).before args0 about1 = true := code_word (m := ⟨9, 0⟩) (meth := k9m0) (c := k9c0) (by decide +kernel) rfl rfl rfl (by decide +kernel)
set_option maxRecDepth 65536 in
theorem w_c5 : (Jvm.Cond.code ({ cls := "com/example/moffett/moffett/requests/PackedIndexesHeapBytesPinLaw", name := "bitsFor", desc := "(I)I" } : Jvm.MethodName) method_2_code (3 : Nat) (Option.some Jvm.ClassFile.FieldType.int)).before args0 about1 = true := code_word (m := ⟨1, 1⟩) (meth := k1m1) (c := k1c1) (by decide +kernel) rfl rfl rfl (by decide +kernel)
set_option maxRecDepth 65536 in
theorem w_c6 : (Jvm.Cond.code ({ cls := "com/example/moffett/moffett/requests/PackedIndexes", name := "heapBytes", desc := "()J" } : Jvm.MethodName) prog_10_method_4_code (1 : Nat) (Option.some Jvm.ClassFile.FieldType.long)).before args0 about1 = true := code_word (m := ⟨3, 1⟩) (meth := k3m1) (c := k3c1) (by decide +kernel) rfl rfl rfl (by decide +kernel)
def codes1 : List Jvm.Cond := [Jvm.Cond.code x code maxLocals ret, Jvm.Cond.code ({ cls := "java/lang/Math", name := "max", desc := "(II)I" } : Jvm.MethodName) jdk_29_method_65_code (2 : Nat) (Option.some Jvm.ClassFile.FieldType.int), Jvm.Cond.code ({ cls := "com/example/moffett/moffett/requests/PackedIndexes", name := "<init>", desc := "([II)V" } : Jvm.MethodName) prog_10_method_1_code (9 : Nat) (Option.none : Option Jvm.ClassFile.FieldType), Jvm.Cond.code ({ cls := "java/lang/Object", name := "<init>", desc := "()V" } : Jvm.MethodName) object_method_1_code (1 : Nat) (Option.none : Option Jvm.ClassFile.FieldType), Jvm.Cond.code ({ cls := "java/lang/Integer", name := "numberOfLeadingZeros", desc := "(I)I" } : Jvm.MethodName) jdk_33_method_47_code (2 : Nat) (Option.some Jvm.ClassFile.FieldType.int), Jvm.Cond.code ({ cls := "com/example/moffett/moffett/requests/PackedIndexesHeapBytesPinLaw", name := "bitsFor", desc := "(I)I" } : Jvm.MethodName) method_2_code (3 : Nat) (Option.some Jvm.ClassFile.FieldType.int), Jvm.Cond.code ({ cls := "com/example/moffett/moffett/requests/PackedIndexes", name := "heapBytes", desc := "()J" } : Jvm.MethodName) prog_10_method_4_code (1 : Nat) (Option.some Jvm.ClassFile.FieldType.long)]
set_option maxRecDepth 65536 in
theorem codes_eq : words1.filter isCode = codes1 := rfl
theorem w_codes : ∀ c ∈ words1.filter isCode, c.before args0 about1 = true := by
  rw [codes_eq]
  intro c hc
  simp only [codes1, List.mem_cons, List.not_mem_nil, or_false] at hc
  rcases hc with rfl | rfl | rfl | rfl | rfl | rfl | rfl
  · exact w_c0
  · exact w_c1
  · exact w_c2
  · exact w_c3
  · exact w_c4
  · exact w_c5
  · exact w_c6
set_option maxRecDepth 65536 in
theorem w_t1 : (words1.take 24).all (fun c => isCode c || c.before args0 about1) = true := by decide +kernel
set_option maxRecDepth 65536 in
theorem w_t2 : (words1.drop 24).all (fun c => isCode c || c.before args0 about1) = true := by decide +kernel
theorem w_tables : (allAtoms (Jvm.Cond.code x code maxLocals ret :: tables_1)).before args0 about1 = true := by
  rw [allAtoms_all]
  show words1.all (fun c => c.before args0 about1) = true
  refine all_split ?_ w_codes
  rw [← List.take_append_drop 24 words1, List.all_append, w_t1, w_t2]
  rfl
set_option maxRecDepth 65536 in
theorem w_case : (Jvm.Cond.and given_1 narrow_1).before args0 about1 = true := by decide +kernel
theorem w_applies : (headSpec (Jvm.Cond.code x code maxLocals ret :: tables_1) room_1).applies x e0.platform about1 = true :=
  (Spec.applies_iff w_frames).mpr ⟨w_running, w_runnable, w_alone, w_named, w_hears, w_ripe, w_room, w_tables⟩
theorem atStart : AtStart classFile x code maxLocals ret World_1 tables_1 room_1 Calls_1 rest_1 Pre_1 launch0 p0 e0 about1 theMethod args0 below0 :=
  ⟨lists_1, trivial, launch0.admits_env _ _ _, launch0.least_env, fairChoices_fair.cas, fairChoices_fair.clock, w_frames, w_args, w_heap, w_applies, trivial, trivial, w_case⟩
end start1
theorem witness_1 : WitnessClaimed_1 := ⟨start1.p0, start1.e0, start1.about1, start1.theMethod, start1.args0, start1.below0, start1.atStart⟩
end Jvm.Pilot.@@N@@
